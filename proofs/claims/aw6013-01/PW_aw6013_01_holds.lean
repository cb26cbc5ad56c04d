import PyProof.Rows.All
import Wide.All
import OpenK.AllK
import Wide.FinOn
import PySem.Challenge.RW_aw6013_01
set_option Elab.async false

section -- SetA
set_option linter.unusedVariables false
namespace Mine
open PySem PyProof.Rows PySem.W PySem.Calls PySem.Spec

/-- the table of a set that was filled with the small ints hs (ascending) -/
def tabS (led : Bool) (hs : List Int) : SetTable := { mask := if hs.length = 5 then 31 else 7, place := (hs.map Int.toNat).toArray, dummies := #[], finger := 0, led := led, moves := if hs.length = 5 then 1 else 0, plain := true }
def subs : List (List Int) := [0, 1, 2, 3, 4].foldr (fun x acc => acc ++ acc.map (x :: ·)) [[]]
def insI (k : Int) (hs : List Int) : List Int := hs.filter (· < k) ++ k :: hs.filter (k < ·)
def tabM (led : Bool) (hs : List Int) (k : Int) : SetTable := { tabS led hs with place := ((insI k hs).map Int.toNat).toArray }

theorem tabS_fresh (led : Bool) : SetTable.fresh 0 0 led = tabS led [] := rfl

theorem put_facts : ∀ led : Bool, ∀ hs ∈ subs, ∀ k ∈ [(0 : Int), 1, 2, 3, 4], k ∉ hs → (tabS led hs).freeSlot k = some (k.toNat, false) ∧ (tabS led hs).put k.toNat = (tabM led hs k, (hs.filter (· < k)).length) ∧ insI k hs ∈ subs ∧
    (tabM led hs k).fits (hs.length + 1) = true ∧ (if hs.length = 4 then (tabM led hs k).tooFull = true ∧ insI k hs = [0, 1, 2, 3, 4] else (tabM led hs k).tooFull = false ∧ tabM led hs k = tabS led (insI k hs)) := by decide +kernel

theorem relaid_fact : ∀ led : Bool, ∀ hs ∈ subs, ∀ k ∈ [(0 : Int), 1, 2, 3, 4], k ∉ hs → hs.length = 4 → (tabM led hs k).relaid #[0, 1, 2, 3, 4] (SetTable.grown 5) = some (tabS led [0, 1, 2, 3, 4], #[0, 1, 2, 3, 4]) := by decide +kernel
theorem fits_fact : ∀ led : Bool, ∀ hs ∈ subs, (tabS led hs).fits hs.length = true := by decide +kernel
theorem below_fact : ∀ led : Bool, ∀ hs ∈ subs, ∀ i, i < hs.length → SetTable.below (tabS led hs).place (if i = 0 then 0 else (hs.getD (i - 1) 0).toNat + 1) = i := by decide +kernel
theorem below_end : ∀ led : Bool, ∀ hs ∈ subs, SetTable.below (tabS led hs).place (if hs.length = 0 then 0 else (hs.getD (hs.length - 1) 0).toNat + 1) = hs.length := by decide +kernel
theorem cover_fact : ∀ led : Bool, (coversAll #[0, 1, 2, 3, 4] 5 && (tabS led [0, 1, 2, 3, 4]).fits 5) = true := by decide +kernel
end Mine
end

section -- SetB
set_option linter.unusedVariables false
namespace Mine
open PySem PyProof.Rows PySem.W PySem.Calls PySem.Spec
open Sem (wp)

/-- a set of small ints, with its very table -/
def SetS (led : Bool) (h : Heap) (a : Addr) (hs : List Int) : Prop :=
  ∃ es ep, h.get? a = some { cls := .type "set", dict := none, data := .set es ep (tabS led hs), slots := #[] } ∧ es.toList.map (·.1) = hs ∧ (∀ e ∈ es.toList, ∃ t, e.2 = .int e.1 t)

theorem small_hash : ∀ k ∈ [(0 : Int), 1, 2, 3, 4], hashInt k = k := by decide +kernel
theorem sub_small : ∀ hs ∈ subs, ∀ k ∈ hs, k ∈ [(0 : Int), 1, 2, 3, 4] := by decide +kernel
theorem sub_len : ∀ hs ∈ subs, hs.length ≤ 5 := by decide +kernel
theorem sub_nd : ∀ hs ∈ subs, hs.Nodup := by decide +kernel
theorem ins_mem {k x : Int} {hs : List Int} (hk : k ∉ hs) : x ∈ insI k hs ↔ x = k ∨ x ∈ hs := by
  unfold insI
  simp only [List.mem_append, List.mem_cons, List.mem_filter, decide_eq_true_eq]
  constructor
  · rintro (⟨h, _⟩ | rfl | ⟨h, _⟩)
    · exact .inr h
    · exact .inl rfl
    · exact .inr h
  · rintro (rfl | h)
    · exact .inr (.inl rfl)
    · rcases Int.lt_trichotomy x k with q | q | q
      · exact .inl ⟨h, q⟩
      · exact absurd (q ▸ h) hk
      · exact .inr (.inr ⟨h, q⟩)

section
variable {prog : Program} {w : World} {A : Around} {E : Value → Shared → Prop} {s : Shared} {a : Addr} {hs : List Int} {led : Bool}

theorem elems_of {es : List (Int × Value)} (h1 : es.map (·.1) = hs) (h2 : ∀ e ∈ es, ∃ t, e.2 = .int e.1 t) (hsub : hs ∈ subs) : ElemsOf (intKind prog w) es := fun e he => by
  obtain ⟨t, ht⟩ := h2 e he
  have hk : e.1 ∈ hs := by rw [← h1]; exact List.mem_map_of_mem he
  refine ⟨⟨e.1, ?_, ?_⟩, by rw [ht]; rfl⟩
  · rw [ht]; exact intKind_is prog w e.1 t
  · exact (small_hash _ (sub_small _ hsub _ hk)).symm

theorem SetS.setOf (x : SetS led s.heap a hs) (hsub : hs ∈ subs) : s.heap.SetOf (intKind prog w) a (fun k => hs.any (· == k)) hs.length := by
  obtain ⟨es, ep, ho, h1, h2⟩ := x
  have hsz : es.size = hs.length := by rw [← h1, List.length_map, Array.length_toList]
  refine ⟨_, es, ep, _, ho, ⟨rfl, rfl, rfl⟩, rfl, elems_of h1 h2 hsub, fun k => ?_, ?_, by rw [hsz]; exact fits_fact led hs hsub, hsz⟩
  · rw [List.any_eq_true]
    constructor
    · rintro ⟨k', hk, e⟩
      rw [← h1] at hk
      obtain ⟨e', he, q⟩ := List.mem_map.mp hk
      have : k' = k := by simpa using e
      obtain ⟨t, ht⟩ := h2 e' he
      refine ⟨e', he, ?_⟩
      rw [ht, q, this]; exact intKind_is prog w k t
    · rintro ⟨e', he, q⟩
      obtain ⟨t, ht⟩ := h2 e' he
      rw [ht] at q
      have := (intKind prog w).inj _ _ _ q (intKind_is prog w e'.1 t)
      exact ⟨e'.1, by rw [← h1]; exact List.mem_map_of_mem he, by simp [this]⟩
  · rw [hsz]; have := sub_len hs hsub; show hs.length < 4096; omega

theorem add_hashes {es : List (Int × Value)} {k : Int} {x : Value} (hs : es.map (·.1) = hs') (hsub : hs' ∈ subs) : (es.take (hs'.filter (· < k)).length ++ (k, x) :: es.drop (hs'.filter (· < k)).length).map (·.1) = hs'.take (hs'.filter (· < k)).length ++ k :: hs'.drop (hs'.filter (· < k)).length := by
  rw [List.map_append, List.map_cons, List.map_take, List.map_drop, hs]

theorem ins_take : ∀ hs ∈ subs, ∀ k ∈ [(0 : Int), 1, 2, 3, 4], k ∉ hs → hs.take (hs.filter (· < k)).length ++ k :: hs.drop (hs.filter (· < k)).length = insI k hs := by decide +kernel

theorem five {α : Type} {es : Array α} (h : es.size = 5) : (#[0, 1, 2, 3, 4] : Array Nat).filterMap (es[·]?) = es := by
  obtain ⟨l⟩ := es
  match l, h with
  | [a, b, c, d, e], _ => rfl

theorem SetS.add {k : Int} {t : Tok} {Q : Bool → Shared → Prop} (x : SetS led s.heap a hs) (hsub : hs ∈ subs) (hk : k ∈ [(0 : Int), 1, 2, 3, 4]) (hn : k ∉ hs)
    (h : ∀ h', Heap.SameBut a s.heap h' → SetS led h' a (insI k hs) → Q true { s with heap := h' }) :
    wpAny (model prog w) A (setAddHashed a (.int k t) (hashInt k)) Q E s := by
  obtain ⟨es, ep, ho, h1, h2⟩ := x
  have hsz : es.size = hs.length := by rw [← h1, List.length_map, Array.length_toList]
  have hel := elems_of (prog := prog) (w := w) h1 h2 hsub
  have hf : (tabS led hs).fits es.size = true := by rw [hsz]; exact fits_fact led hs hsub
  have h5 := sub_len hs hsub
  have hb : es.size < scanBound := by rw [hsz]; show _ < 4096; omega
  obtain ⟨f1, f2, f3, f4, f5⟩ := put_facts led hs hsub k hk hn
  have hkey := intKind_is prog w k t
  unfold setAddHashed setAddHashedIn
  refine wpAny_holding (wpAny_bind (wpAny_setState_of ho rfl hf ?_))
  dsimp only
  rw [byScan_of (knd := intKind prog w) rfl hb hel]
  simp only [↓reduceIte]
  unfold setAddByScan
  refine wpAny_bind ?_
  refine wpAny_bind (wpAny_rule ?_)
  refine wpAny_bind (wpAny_setScan_of (knd := intKind prog w) hkey ho rfl hf hel ?_)
  have hno : es.toList.findIdx? (fun e => (intKind prog w).is k e.2) = none := by
    rw [List.findIdx?_eq_none_iff]
    intro e he
    obtain ⟨u, hu⟩ := h2 e he
    cases q : (intKind prog w).is k e.2 with
    | false => rfl
    | true =>
      rw [hu] at q
      have := (intKind prog w).inj _ _ _ q (intKind_is prog w e.1 u)
      exact absurd (by rw [this, ← h1]; exact List.mem_map_of_mem he) hn
  rw [hno]
  dsimp only
  have eL : layNew (tabS led hs) es (hashInt k) (.int k t) = (SetTable.insertAt es (hs.filter (· < k)).length (k, .int k t), tabM led hs k, false, false) := by
    rw [small_hash k hk]
    unfold layNew
    rw [f1]
    dsimp only
    rw [f2]
    dsimp only
    have e0 : (SetTable.insertAt es (hs.filter (· < k)).length (k, Value.int k t)).size = hs.length + 1 := by
      rw [← Array.length_toList, SetTable.toList_insertAt]
      have : (es.toList.map (·.1)).length = hs.length := by rw [h1]
      simp at this ⊢
      omega
    rw [e0, f4]
    unfold SetTable.orStandIn
    rw [if_pos f4]
    rfl
  rw [eL]
  dsimp only
  have l1 : (SetTable.insertAt es (hs.filter (· < k)).length (k, Value.int k t)).toList.map (·.1) = insI k hs := by
    rw [SetTable.toList_insertAt, add_hashes h1 hsub, ins_take hs hsub k hk hn]
  have l2 : ∀ e ∈ (SetTable.insertAt es (hs.filter (· < k)).length (k, Value.int k t)).toList, ∃ u, e.2 = .int e.1 u := by
    intro e he
    rw [SetTable.toList_insertAt, List.mem_append, List.mem_cons] at he
    rcases he with he | rfl | he
    · exact h2 e (List.mem_of_mem_take he)
    · exact ⟨t, rfl⟩
    · exact h2 e (List.mem_of_mem_drop he)
  have l3 : (SetTable.insertAt es (hs.filter (· < k)).length (k, Value.int k t)).size = hs.length + 1 := by
    rw [← Array.length_toList, SetTable.toList_insertAt]
    have : (es.toList.map (·.1)).length = hs.length := by rw [h1]
    simp at this ⊢
    omega
  generalize SetTable.insertAt es (hs.filter (· < k)).length (k, Value.int k t) = es1 at *
  have hpl : (tabM led hs k).plain = true := rfl
  refine wpAny_bind (wpAny_pure ?_)
  rw [if_pos hpl]
  rw [show hashByValue 8 (Value.int k t) = pure true from rfl]
  refine wpAny_bind (wpAny_pure ?_)
  simp only [if_true, Bool.not_false, Bool.true_and]
  have hz : es1.size ≤ sizeLine := fits_of_scanBound (by rw [l3]; show _ < 4096; omega)
  refine wpAny_bind (wpAny_storeSet_of ho rfl ?_ hz)
  have g1 : (s.heap.update a (Obj.putSet es1 (tabM led hs k))).get? a = some { cls := .type "set", dict := none, data := .set es1 (ep + 1) (tabM led hs k), slots := #[] } := Heap.get?_update_self _ ho rfl
  have sb1 := Heap.SameBut.update s.heap a (Obj.putSet es1 (tabM led hs k))
  by_cases h4 : hs.length = 4
  · rw [if_pos h4] at f5
    rw [if_pos f5.1]
    have es0 : es1.map (·.1) = #[0, 1, 2, 3, 4] := by
      apply Array.toList_inj.mp
      rw [Array.toList_map, l1, f5.2]
    have e5 : es1.size = 5 := by omega
    have eR : relayAll (tabM led hs k) es1 (SetTable.grown es1.size) = (es1, tabS led [0, 1, 2, 3, 4], false) := by
      unfold relayAll
      rw [es0, e5, relaid_fact led hs hsub k hk hn h4]
      dsimp only
      rw [five e5, e5, if_pos (cover_fact led)]
    rw [eR]
    dsimp only
    refine wpAny_bind (wpAny_pure ?_)
    refine wpAny_bind (wpAny_storeSet_of g1 rfl ?_ hz)
    refine wpAny_pure (wpAny_pure (h _ (sb1.trans (Heap.SameBut.update _ a _)) ?_))
    rw [f5.2] at l1 ⊢
    exact ⟨es1, ep + 1 + 1, Heap.get?_update_self _ g1 rfl, l1, l2⟩
  · rw [if_neg h4] at f5
    rw [if_neg (by rw [f5.1]; simp)]
    refine wpAny_pure (wpAny_pure (h _ sb1 ?_))
    rw [f5.2] at g1
    rw [f5.2]
    exact ⟨es1, ep + 1, g1, l1, l2⟩
end
end Mine
end

section -- SortG
namespace Mine
open PySem PyProof.Rows

/-! sorted by any whole-number rank of the items: runs, insertion -/
section
variable (rk : Keyed → Int)

def KG (xs : Array Keyed) (i : Nat) : Int := match xs[i]? with
  | some p => rk p
  | none => 0
def Up (xs : Array Keyed) (lo hi : Nat) : Prop := ∀ i j, lo ≤ i → i ≤ j → j < hi → KG rk xs i ≤ KG rk xs j
def Dn (xs : Array Keyed) (lo hi : Nat) : Prop := ∀ i j, lo ≤ i → i ≤ j → j < hi → KG rk xs j ≤ KG rk xs i

def Asks (prog : Program) (w : World) (A : Around) (s : Shared) (kd : SortKind) (a₀ : Array Keyed) : Prop :=
  ∀ x y : Keyed, x ∈ a₀.toList → y ∈ a₀.toList → ∀ (E : Value → Shared → Prop) (Q : Bool → Shared → Prop), Q (decide (rk x < rk y)) s → wpAny (model prog w) A (keyLt' kd x.1 y.1) Q E s
end

structure SB (kd : SortKind) (a₀ : Array Keyed) (pd : Array (Nat × Nat × Nat)) (st : SortSt) : Prop where
  perm : (arrOf st).Perm a₀
  kind : kindOf st = kd
  failed : failedOf st = none
  pend : pendingOf st = pd

def SameB (lo : Nat) (xs ys : Array Keyed) : Prop := ∀ i, i < lo → ys[i]? = xs[i]?
theorem SameB.rfl' {lo : Nat} {xs : Array Keyed} : SameB lo xs xs := fun _ _ => rfl
theorem SameB.trans {lo : Nat} {xs ys zs : Array Keyed} (a : SameB lo xs ys) (b : SameB lo ys zs) : SameB lo xs zs := fun i hi => (b i hi).trans (a i hi)

section
variable {rk : Keyed → Int} {kd : SortKind} {a₀ : Array Keyed} {pd : Array (Nat × Nat × Nat)}

theorem SB.size {st : SortSt} (h : SB kd a₀ pd st) : (arrOf st).size = a₀.size := h.perm.size_eq
theorem SB.setArr {st : SortSt} (h : SB kd a₀ pd st) {xs : Array Keyed} (hp : xs.Perm (arrOf st)) : SB kd a₀ pd (setArr st xs) :=
  ⟨hp.trans h.perm, h.kind, h.failed, h.pend⟩
theorem SB.mem {st : SortSt} (h : SB kd a₀ pd st) {i : Nat} {p : Keyed} (e : (arrOf st)[i]? = some p) : p ∈ a₀.toList := by
  refine (Array.perm_iff_toList_perm.mp h.perm).mem_iff.mp ?_
  rw [← Array.getElem?_toList] at e
  exact List.mem_of_getElem? e

theorem KG_congr {xs ys : Array Keyed} {i j : Nat} (h : xs[i]? = ys[j]?) : KG rk xs i = KG rk ys j := by unfold KG; rw [h]
theorem KG_some {xs : Array Keyed} {i : Nat} {p : Keyed} (h : xs[i]? = some p) : KG rk xs i = rk p := by unfold KG; rw [h]

theorem KG_bubble {xs : Array Keyed} {src d : Nat} (hs : src < xs.size) (hd : d ≤ src) (k : Nat) :
    KG rk (bubble xs src d) k = if k = src - d then KG rk xs src else if src - d < k ∧ k ≤ src then KG rk xs (k - 1) else KG rk xs k := by
  have e := getElem?_bubble hs d hd k
  by_cases h1 : k = src - d
  · rw [if_pos h1] at e ⊢; exact KG_congr e
  · rw [if_neg h1] at e ⊢
    by_cases h2 : src - d < k ∧ k ≤ src
    · rw [if_pos h2] at e ⊢; exact KG_congr e
    · rw [if_neg h2] at e ⊢; exact KG_congr e

theorem bubble_same {xs : Array Keyed} {src d lo : Nat} (hs : src < xs.size) (hd : d ≤ src) (hl : lo ≤ src - d) : SameB lo xs (bubble xs src d) := by
  intro i hi
  rw [getElem?_bubble hs d hd i, if_neg (by omega), if_neg (by omega)]

theorem KG_mirror {xs : Array Keyed} {i j : Nat} (hj : j ≤ xs.size) (k : Nat) :
    KG rk (mirror xs i j ((j - i) / 2)) k = if i ≤ k ∧ k < j then KG rk xs (i + j - 1 - k) else KG rk xs k := by
  have e := getElem?_mirror_all (i := i) hj k
  by_cases h1 : i ≤ k ∧ k < j
  · rw [if_pos h1] at e ⊢; exact KG_congr e
  · rw [if_neg h1] at e ⊢; exact KG_congr e

theorem mirror_same {xs : Array Keyed} {i j lo : Nat} (hj : j ≤ xs.size) (hl : lo ≤ i) : SameB lo xs (mirror xs i j ((j - i) / 2)) := by
  intro k hk
  rw [getElem?_mirror_all hj k, if_neg (by omega)]

theorem KG_mirror_equal {xs : Array Keyed} {i j : Nat} (hj : j ≤ xs.size) (heq : ∀ k, i ≤ k → k < j → KG rk xs k = KG rk xs (j - 1)) (k : Nat) :
    KG rk (mirror xs i j ((j - i) / 2)) k = KG rk xs k := by
  rw [KG_mirror hj]
  split
  · rw [heq _ (by omega) (by omega), heq k (by omega) (by omega)]
  · rfl
end

section
variable {rk : Keyed → Int} {prog : Program} {w : World} {A : Around} {E : Value → Shared → Prop} {s : Shared} {kd : SortKind} {a₀ : Array Keyed} {pd : Array (Nat × Nat × Nat)}

theorem wpS_ltG {st : SortSt} {x y : Keyed} {Q : Option Bool → SortSt → Prop} (H : Asks rk prog w A s kd a₀) (hk : kindOf st = kd) (hx : x ∈ a₀.toList) (hy : y ∈ a₀.toList)
    (h : Q (some (decide (rk x < rk y))) st) : wpS (model prog w) A E s (lt' x y) Q st := by
  rw [lt'_eq]
  refine wpS_bind (wpS_get ?_)
  rw [hk]
  refine wpS_bind (wpS_lift (wpAny_attempt (H x y hx hy _ _ ⟨rfl, ?_⟩)))
  exact wpS_pure h

theorem wpS_elemG {st : SortSt} {arr : Array Keyed} {i : Nat} {Q : Keyed → SortSt → Prop} (hi : i < arr.size) (h : ∀ p, arr[i]? = some p → Q p st) : wpS (model prog w) A E s (elem' arr i) Q st := by
  rw [elem'_eq, getElem?_pos arr i hi]
  exact wpS_pure (h _ (getElem?_pos arr i hi))

theorem wpS_ltK' {st : SortSt} {i j : Nat} {Q : Option Bool → SortSt → Prop} (H : Asks rk prog w A s kd a₀) (hB : SB kd a₀ pd st) (hi : i < a₀.size) (hj : j < a₀.size)
    (h : Q (some (decide (KG rk (arrOf st) i < KG rk (arrOf st) j))) st) : wpS (model prog w) A E s (ltAt' i j) Q st := by
  have hs := hB.size
  rw [ltAt'_eq]
  refine wpS_bind (wpS_get ?_)
  show wpS _ _ _ _ (do let x ← elem' (arrOf st) i; let y ← elem' (arrOf st) j; lt' x y) Q st
  refine wpS_bind (wpS_elemG (by omega) fun p hp => ?_)
  refine wpS_bind (wpS_elemG (by omega) fun q hq => ?_)
  refine wpS_ltG H hB.kind (hB.mem hp) (hB.mem hq) ?_
  rw [← KG_some (rk := rk) hp, ← KG_some (rk := rk) hq]
  exact h

theorem wpS_binarySortG {st : SortSt} {lo n ok : Nat} {Q : Bool → SortSt → Prop} (H : Asks rk prog w A s kd a₀) (hn : lo + n ≤ a₀.size) (hok : ok ≤ n) (hB : SB kd a₀ pd st) (hs : Up rk (arrOf st) lo (lo + ok))
    (h : ∀ st', SB kd a₀ pd st' → SameB lo (arrOf st) (arrOf st') → Up rk (arrOf st') lo (lo + n) → Q true st') : wpS (model prog w) A E s (binarySort' lo n ok) Q st := by
  rw [binarySort'_eq]
  refine wpS_bind (wpS_mono (wpS_forRange (I := fun k c st' => c = (none, ()) ∧ SB kd a₀ pd st' ∧ SameB lo (arrOf st) (arrOf st') ∧ Up rk (arrOf st') lo (lo + min k n))
    (Q := fun c st' => c = (none, ()) ∧ SB kd a₀ pd st' ∧ SameB lo (arrOf st) (arrOf st') ∧ Up rk (arrOf st') lo (lo + n)) ?step ?fin ?init) ?post)
  case post =>
    rintro c st' ⟨rfl, hB', hm, hs'⟩
    exact wpS_pure (h st' hB' hm hs')
  case init =>
    refine ⟨rfl, hB, SameB.rfl', fun i j hi hij hj => ?_⟩
    by_cases h1 : ok = 0
    · have : i = j := by omega
      subst this; exact Int.le_refl _
    · exact hs i j hi hij (by omega)
  case fin =>
    rintro c st' ⟨hc, hB', hm, hs'⟩
    refine ⟨hc, hB', hm, ?_⟩
    rwa [show min (max (max ok 1) n) n = n by omega] at hs'
  case step =>
    rintro k c st' hak hkn ⟨rfl, hB', hm, hs'⟩
    rw [show min k n = k by omega] at hs'
    have hk : lo + k < a₀.size := by omega
    refine wpS_bind (wpS_mono (wpS_forRange (I := fun x c st'' => st'' = st' ∧ ∃ l r, c = (none, l, r) ∧ l ≤ r ∧ r ≤ k ∧ r - l ≤ k - x ∧
        (∀ i, lo ≤ i → i < lo + l → KG rk (arrOf st') i ≤ KG rk (arrOf st') (lo + k)) ∧ (∀ i, lo + r ≤ i → i < lo + k → KG rk (arrOf st') (lo + k) < KG rk (arrOf st') i))
      (Q := fun c st'' => st'' = st' ∧ ∃ l r, c = (none, l, r) ∧ l ≤ k ∧
        (∀ i, lo ≤ i → i < lo + l → KG rk (arrOf st') i ≤ KG rk (arrOf st') (lo + k)) ∧ (∀ i, lo + l ≤ i → i < lo + k → KG rk (arrOf st') (lo + k) < KG rk (arrOf st') i)) ?istep ?ifin ?iinit) ?ipost)
    case iinit => exact ⟨rfl, 0, k, rfl, by omega, by omega, by omega, fun i h0 hi => by omega, fun i h1 h2 => by omega⟩
    case ifin =>
      rintro c st'' ⟨rfl, l, r, rfl, hlr, hrk, hm', hlo, hhi⟩
      have : l = r := by omega
      subst this
      exact ⟨rfl, l, l, rfl, hrk, hlo, hhi⟩
    case istep =>
      rintro x c st'' _ hxk ⟨rfl, l, r, rfl, hlr, hrk, hm', hlo, hhi⟩
      dsimp only
      by_cases hge : l ≥ r
      · rw [if_pos hge]
        have : l = r := by omega
        subst this
        exact wpS_pure ⟨rfl, l, l, rfl, hrk, hlo, hhi⟩
      · rw [if_neg hge]
        refine wpS_bind (wpS_ltK' H hB' hk (by omega) ?_)
        by_cases hless : KG rk (arrOf st'') (lo + k) < KG rk (arrOf st'') (lo + (l + r) / 2)
        · simp only [hless, decide_true, if_true]
          refine wpS_pure ⟨rfl, l, (l + r) / 2, rfl, by omega, by omega, by omega, hlo, fun i h1 h2 => ?_⟩
          exact Int.lt_of_lt_of_le hless (hs' _ _ (by omega) h1 h2)
        · simp only [hless, decide_false, Bool.false_eq_true, if_false]
          refine wpS_pure ⟨rfl, (l + r) / 2 + 1, r, rfl, by omega, by omega, by omega, fun i h0 h1 => ?_, hhi⟩
          exact Int.le_trans (hs' i (lo + (l + r) / 2) h0 (by omega) (by omega)) (Int.not_lt.mp hless)
    case ipost =>
      rintro c st'' ⟨rfl, l, r, rfl, hlk, hlo, hhi⟩
      show wpS _ _ _ _ (do moveDown' (lo + k) (lo + l); pure (ForInStep.yield (none, ()))) _ _
      rw [moveDown'_eq]
      have hks : lo + k < (arrOf st'').size := by rw [hB'.size]; exact hk
      refine wpS_bind (wpS_modify (wpS_pure ⟨rfl, hB'.setArr (bubble_perm _ _ _), hm.trans (bubble_same hks (by omega) (by omega)), ?_⟩))
      rw [show min (k + 1) n = k + 1 by omega]
      intro i j hi hij hj
      show KG rk (bubble (arrOf st'') (lo + k) (lo + k - (lo + l))) i ≤ KG rk (bubble (arrOf st'') (lo + k) (lo + k - (lo + l))) j
      rw [KG_bubble hks (by omega), KG_bubble hks (by omega), show lo + k - (lo + k - (lo + l)) = lo + l by omega]
      repeat' split
      all_goals first
        | (exfalso; omega)
        | exact Int.le_refl _
        | exact hlo _ (by omega) (by omega)
        | exact Int.le_of_lt (hhi _ (by omega) (by omega))
        | exact hs' _ _ (by omega) (by omega) (by omega)
end
end Mine
end

section -- SortG2
namespace Mine
open PySem PyProof.Rows

abbrev USt := Option (Option Nat) × Nat
abbrev DSt := Option (Option Nat) × Nat × Nat

def upLoop (lo a nrem : Nat) : StateT SortSt Sem USt :=
  forIn [a:nrem] ((none, a) : USt) fun _ z => do
    let r ← ltAt' (lo + z.snd) (lo + z.snd - 1)
    match r with
    | some smaller => if smaller = true then pure (ForInStep.done (none, z.snd)) else pure (ForInStep.yield (none, z.snd + 1))
    | _ => pure (ForInStep.done (some none, z.snd))

def lastPart (lo n nrem : Nat) : StateT SortSt Sem (Option Nat) := do
  reverseSlice' lo (lo + n)
  let z ← upLoop lo n nrem
  match z.fst with
  | some r => pure r
  | none => pure (some z.snd)

def dnLoop (lo n nrem : Nat) : StateT SortSt Sem DSt :=
  forIn [n:nrem] ((none, n, 0) : DSt) fun _ z => do
    let r ← ltAt' (lo + z.snd.fst) (lo + z.snd.fst - 1)
    match r with
    | some smaller =>
      if smaller = true then
        if z.snd.snd > 0 then do
          reverseSlice' (lo + z.snd.fst - (z.snd.snd + 1)) (lo + z.snd.fst)
          pure (ForInStep.yield (none, z.snd.fst + 1, 0))
        else pure (ForInStep.yield (none, z.snd.fst + 1, 0))
      else do
        let r ← ltAt' (lo + z.snd.fst - 1) (lo + z.snd.fst)
        match r with
        | some larger =>
          if larger = true then pure (ForInStep.done (none, z.snd.fst, z.snd.snd))
          else pure (ForInStep.yield (none, z.snd.fst + 1, z.snd.snd + 1))
        | _ => pure (ForInStep.done (some none, z.snd.fst, z.snd.snd))
    | _ => pure (ForInStep.done (some none, z.snd.fst, z.snd.snd))

def dnPart (lo n nrem : Nat) : StateT SortSt Sem (Option Nat) := do
  liftM (rule "list.sort.descending-run")
  let z ← dnLoop lo (n + 1) nrem
  match z.fst with
  | some r => pure r
  | none =>
    if z.snd.snd > 0 then do
      reverseSlice' (lo + z.snd.fst - (z.snd.snd + 1)) (lo + z.snd.fst)
      lastPart lo z.snd.fst nrem
    else lastPart lo z.snd.fst nrem

theorem countRunG_eq (lo nrem : Nat) : countRun' lo nrem = (do
    let z ← upLoop lo 1 nrem
    match z.fst with
    | some r => pure r
    | none =>
      if (z.snd == nrem) = true then pure (some z.snd)
      else if z.snd > 1 then do
        let r ← ltAt' lo (lo + z.snd - 1)
        match r with
        | some rose => if rose = true then pure (some z.snd) else do
            reverseSlice' lo (lo + z.snd)
            dnPart lo z.snd nrem
        | _ => pure none
      else dnPart lo z.snd nrem) := by
  rw [countRun'_eq]
  dsimp only
  unfold dnPart lastPart dnLoop upLoop
  congr 1
  funext z
  obtain ⟨r, n⟩ := z
  cases r with
  | some r => rfl
  | none =>
    dsimp only
    split
    · rfl
    · split
      · congr 1
        funext x
        cases x with
        | none => rfl
        | some rose =>
          dsimp only
          split
          · rfl
          · congr 1
            funext _u
            congr 1; funext _u; congr 1; congr 1; funext s2; obtain ⟨r2, n2, q2⟩ := s2
            cases r2 with
            | some r2 => rfl
            | none =>
              dsimp only
              split
              · congr 1; funext _v; congr 1; funext _w; congr 1; funext s3; obtain ⟨r3, n3⟩ := s3; cases r3 <;> rfl
              · congr 1; funext _w; congr 1; funext s3; obtain ⟨r3, n3⟩ := s3; cases r3 <;> rfl
      · congr 1; funext _u; congr 1; congr 1; funext s2; obtain ⟨r2, n2, q2⟩ := s2
        cases r2 with
        | some r2 => rfl
        | none =>
          dsimp only
          split
          · congr 1; funext _v; congr 1; funext _w; congr 1; funext s3; obtain ⟨r3, n3⟩ := s3; cases r3 <;> rfl
          · congr 1; funext _w; congr 1; funext s3; obtain ⟨r3, n3⟩ := s3; cases r3 <;> rfl

section
variable {rk : Keyed → Int} {prog : Program} {w : World} {A : Around} {E : Value → Shared → Prop} {s : Shared} {kd : SortKind} {a₀ : Array Keyed} {pd : Array (Nat × Nat × Nat)}

theorem wpS_upLoop {st : SortSt} {lo a nrem : Nat} {Q : USt → SortSt → Prop} (H : Asks rk prog w A s kd a₀) (hn : lo + nrem ≤ a₀.size) (ha : 1 ≤ a) (han : a ≤ nrem) (hB : SB kd a₀ pd st)
    (hs : Up rk (arrOf st) lo (lo + a))
    (h : ∀ n, a ≤ n → n ≤ nrem → Up rk (arrOf st) lo (lo + n) → (n = nrem ∨ KG rk (arrOf st) (lo + n) < KG rk (arrOf st) (lo + n - 1)) → Q (none, n) st) :
    wpS (model prog w) A E s (upLoop lo a nrem) Q st := by
  unfold upLoop
  refine wpS_forRange (I := fun x c st' => st' = st ∧ c = (none, x) ∧ Up rk (arrOf st) lo (lo + x)) ?step ?fin ⟨rfl, rfl, hs⟩
  case fin =>
    rintro c st' ⟨rfl, rfl, hs'⟩
    rw [show max a nrem = nrem by omega] at hs' ⊢
    exact h nrem han (Nat.le_refl _) hs' (.inl rfl)
  case step =>
    rintro x c st' hax hxn ⟨rfl, rfl, hs'⟩
    dsimp only
    refine wpS_bind (wpS_ltK' H hB (by omega) (by omega) ?_)
    by_cases hless : KG rk (arrOf st') (lo + x) < KG rk (arrOf st') (lo + x - 1)
    · simp only [hless, decide_true, if_true]
      exact wpS_pure (h x hax (by omega) hs' (.inr hless))
    · simp only [hless, decide_false, Bool.false_eq_true, if_false]
      refine wpS_pure ⟨rfl, rfl, fun i j hi hij hj => ?_⟩
      by_cases hjx : j < lo + x
      · exact hs' i j hi hij hjx
      · have hj' : j = lo + x := by omega
        subst hj'
        by_cases hi' : i = lo + x
        · subst hi'; exact Int.le_refl _
        · exact Int.le_trans (hs' i (lo + x - 1) hi (by omega) (by omega)) (Int.not_lt.mp hless)

theorem wpS_lastPart {st : SortSt} {lo n nrem : Nat} {Q : Option Nat → SortSt → Prop} (H : Asks rk prog w A s kd a₀) (hn : lo + nrem ≤ a₀.size) (h1 : 1 ≤ n) (hnn : n ≤ nrem) (hB : SB kd a₀ pd st)
    (hs : Dn rk (arrOf st) lo (lo + n)) (h : ∀ m st', SB kd a₀ pd st' → SameB lo (arrOf st) (arrOf st') → 1 ≤ m → m ≤ nrem → Up rk (arrOf st') lo (lo + m) → Q (some m) st') :
    wpS (model prog w) A E s (lastPart lo n nrem) Q st := by
  unfold lastPart
  have hsz : lo + n ≤ (arrOf st).size := by rw [hB.size]; omega
  refine wpS_bind (wpS_reverse ?_)
  have hB' : SB kd a₀ pd (setArr st (mirror (arrOf st) lo (lo + n) ((lo + n - lo) / 2))) := hB.setArr (mirror_perm _ _ _ _)
  refine wpS_bind (wpS_upLoop H hn h1 hnn hB' ?_ fun m hm1 hm2 hsm _ => wpS_pure (h m _ hB' (mirror_same hsz (Nat.le_refl _)) (by omega) hm2 hsm))
  intro i j hi hij hj
  show KG rk (mirror (arrOf st) lo (lo + n) ((lo + n - lo) / 2)) i ≤ KG rk (mirror (arrOf st) lo (lo + n) ((lo + n - lo) / 2)) j
  rw [KG_mirror hsz, KG_mirror hsz, if_pos (by omega), if_pos (by omega)]
  exact hs _ _ (by omega) (by omega) (by omega)

theorem wpS_dnLoop {st : SortSt} {lo n nrem : Nat} {Q : DSt → SortSt → Prop} (H : Asks rk prog w A s kd a₀) (hn : lo + nrem ≤ a₀.size) (h1 : 1 ≤ n) (hnn : n ≤ nrem) (hB : SB kd a₀ pd st)
    (hs : Dn rk (arrOf st) lo (lo + n))
    (h : ∀ m neq st', SB kd a₀ pd st' → SameB lo (arrOf st) (arrOf st') → n ≤ m → m ≤ nrem → Dn rk (arrOf st') lo (lo + m) → neq + 1 ≤ m →
      (∀ i, lo + m - (neq + 1) ≤ i → i < lo + m → KG rk (arrOf st') i = KG rk (arrOf st') (lo + m - 1)) → Q (none, m, neq) st') :
    wpS (model prog w) A E s (dnLoop lo n nrem) Q st := by
  unfold dnLoop
  refine wpS_forRange (I := fun x c st' => ∃ neq, c = (none, x, neq) ∧ SB kd a₀ pd st' ∧ SameB lo (arrOf st) (arrOf st') ∧ Dn rk (arrOf st') lo (lo + x) ∧ neq + 1 ≤ x ∧
      (∀ i, lo + x - (neq + 1) ≤ i → i < lo + x → KG rk (arrOf st') i = KG rk (arrOf st') (lo + x - 1))) ?step ?fin ⟨0, rfl, hB, SameB.rfl', hs, by omega, fun i h1 h2 => by congr 1; omega⟩
  case fin =>
    rintro c st' ⟨neq, rfl, hB', hm, hs', hq, he⟩
    rw [show max n nrem = nrem by omega] at hs' hq he ⊢
    exact h nrem neq st' hB' hm hnn (Nat.le_refl _) hs' hq he
  case step =>
    rintro x c st' hax hxn ⟨neq, rfl, hB', hm, hs', hq, he⟩
    dsimp only
    have hsz : lo + x ≤ (arrOf st').size := by rw [hB'.size]; omega
    refine wpS_bind (wpS_ltK' H hB' (by omega) (by omega) ?_)
    by_cases hless : KG rk (arrOf st') (lo + x) < KG rk (arrOf st') (lo + x - 1)
    · simp only [hless, decide_true, if_true]
      have step1 : ∀ xs : Array Keyed, (∀ k, KG rk xs k = KG rk (arrOf st') k) → Dn rk xs lo (lo + (x + 1)) := by
        intro xs hk i j hi hij hj
        rw [hk, hk]
        by_cases hjx : j < lo + x
        · exact hs' i j hi hij hjx
        · have hj' : j = lo + x := by omega
          subst hj'
          by_cases hi' : i = lo + x
          · subst hi'; exact Int.le_refl _
          · exact Int.le_trans (Int.le_of_lt hless) (hs' i (lo + x - 1) hi (by omega) (by omega))
      by_cases hneq : neq > 0
      · rw [if_pos hneq]
        refine wpS_bind (wpS_reverse (wpS_pure ⟨0, rfl, hB'.setArr (mirror_perm _ _ _ _), hm.trans (mirror_same hsz (by omega)), step1 _ (KG_mirror_equal hsz he), by omega, fun i h1 h2 => by congr 1; omega⟩))
      · rw [if_neg hneq]
        exact wpS_pure ⟨0, rfl, hB', hm, step1 _ (fun _ => rfl), by omega, fun i h1 h2 => by congr 1; omega⟩
    · simp only [hless, decide_false, Bool.false_eq_true, if_false]
      refine wpS_bind (wpS_ltK' H hB' (by omega) (by omega) ?_)
      by_cases hlarger : KG rk (arrOf st') (lo + x - 1) < KG rk (arrOf st') (lo + x)
      · simp only [hlarger, decide_true, if_true]
        exact wpS_pure (h x neq st' hB' hm hax (by omega) hs' hq he)
      · simp only [hlarger, decide_false, Bool.false_eq_true, if_false]
        have heqx : KG rk (arrOf st') (lo + x) = KG rk (arrOf st') (lo + x - 1) := by omega
        refine wpS_pure ⟨neq + 1, rfl, hB', hm, fun i j hi hij hj => ?_, by omega, fun i h1 h2 => ?_⟩
        · by_cases hjx : j < lo + x
          · exact hs' i j hi hij hjx
          · have hj' : j = lo + x := by omega
            subst hj'
            by_cases hi' : i = lo + x
            · subst hi'; exact Int.le_refl _
            · rw [heqx]; exact hs' i (lo + x - 1) hi (by omega) (by omega)
        · rw [show lo + (x + 1) - 1 = lo + x by omega]
          by_cases hix : i = lo + x
          · subst hix; rfl
          · rw [heqx]; exact he i (by omega) (by omega)

theorem wpS_dnPart {st : SortSt} {lo n nrem : Nat} {Q : Option Nat → SortSt → Prop} (H : Asks rk prog w A s kd a₀) (hn : lo + nrem ≤ a₀.size) (hnn : n + 1 ≤ nrem) (hB : SB kd a₀ pd st)
    (hs : Dn rk (arrOf st) lo (lo + (n + 1))) (h : ∀ m st', SB kd a₀ pd st' → SameB lo (arrOf st) (arrOf st') → 1 ≤ m → m ≤ nrem → Up rk (arrOf st') lo (lo + m) → Q (some m) st') :
    wpS (model prog w) A E s (dnPart lo n nrem) Q st := by
  unfold dnPart
  refine wpS_bind (wpS_lift (wpAny_rule ⟨rfl, ?_⟩))
  refine wpS_bind (wpS_dnLoop H hn (by omega) hnn hB hs fun m neq st' hB' hm hm1 hm2 hs' hq he => ?_)
  dsimp only
  have hsz : lo + m ≤ (arrOf st').size := by rw [hB'.size]; omega
  by_cases hneq : neq > 0
  · rw [if_pos hneq]
    refine wpS_bind (wpS_reverse (wpS_lastPart H hn (by omega) hm2 (hB'.setArr (mirror_perm _ _ _ _)) ?_ fun m' st'' a b => h m' st'' a ((hm.trans (mirror_same hsz (by omega))).trans b)))
    intro i j hi hij hj
    show KG rk (mirror (arrOf st') _ _ _) j ≤ KG rk (mirror (arrOf st') _ _ _) i
    rw [KG_mirror_equal hsz he, KG_mirror_equal hsz he]
    exact hs' i j hi hij hj
  · rw [if_neg hneq]
    exact wpS_lastPart H hn (by omega) hm2 hB' hs' fun m' st'' a b => h m' st'' a (hm.trans b)

theorem wpS_countRunG {st : SortSt} {lo nrem : Nat} {Q : Option Nat → SortSt → Prop} (H : Asks rk prog w A s kd a₀) (hn : lo + nrem ≤ a₀.size) (h1 : 1 ≤ nrem) (hB : SB kd a₀ pd st)
    (h : ∀ m st', SB kd a₀ pd st' → SameB lo (arrOf st) (arrOf st') → 1 ≤ m → m ≤ nrem → Up rk (arrOf st') lo (lo + m) → Q (some m) st') :
    wpS (model prog w) A E s (countRun' lo nrem) Q st := by
  rw [countRunG_eq]
  refine wpS_bind (wpS_upLoop H hn (Nat.le_refl 1) h1 hB (fun i j hi hij hj => by have : i = j := by omega
                                                                                  subst this; exact Int.le_refl _) fun n hn1 hn2 hsn hor => ?_)
  dsimp only
  by_cases hnn : n = nrem
  · rw [if_pos (by simpa using hnn)]
    exact wpS_pure (h n st hB SameB.rfl' hn1 hn2 hsn)
  · rw [if_neg (by simpa using hnn)]
    have hlt : KG rk (arrOf st) (lo + n) < KG rk (arrOf st) (lo + n - 1) := hor.resolve_left hnn
    by_cases hgt : n > 1
    · rw [if_pos hgt]
      refine wpS_bind (wpS_ltK' H hB (by omega) (by omega) ?_)
      by_cases hrose : KG rk (arrOf st) lo < KG rk (arrOf st) (lo + n - 1)
      · simp only [hrose, decide_true, if_true]
        exact wpS_pure (h n st hB SameB.rfl' hn1 hn2 hsn)
      · simp only [hrose, decide_false, Bool.false_eq_true, if_false]
        have hsz : lo + n ≤ (arrOf st).size := by rw [hB.size]; omega
        have hall : ∀ k, lo ≤ k → k < lo + n → KG rk (arrOf st) k = KG rk (arrOf st) (lo + n - 1) := by
          intro k hk0 hk
          have a1 := hsn lo k (Nat.le_refl _) hk0 hk
          have a2 := hsn k (lo + n - 1) hk0 (by omega) (by omega)
          omega
        refine wpS_bind (wpS_reverse (wpS_dnPart H hn (by omega) (hB.setArr (mirror_perm _ _ _ _)) ?_ fun m' st'' a b => h m' st'' a ((mirror_same hsz (Nat.le_refl _)).trans b)))
        intro i j hi hij hj
        show KG rk (mirror (arrOf st) _ _ _) j ≤ KG rk (mirror (arrOf st) _ _ _) i
        rw [KG_mirror_equal hsz hall, KG_mirror_equal hsz hall]
        by_cases hjn : j < lo + n
        · rw [hall i hi (by omega), hall j (by omega) hjn]; exact Int.le_refl _
        · have hj' : j = lo + n := by omega
          subst hj'
          by_cases hi' : i = lo + n
          · subst hi'; exact Int.le_refl _
          · rw [hall i hi (by omega)]; exact Int.le_of_lt hlt
    · rw [if_neg hgt]
      have hn1' : n = 1 := by omega
      subst hn1'
      refine wpS_dnPart H hn (by omega) hB ?_ h
      intro i j hi hij hj
      by_cases hi' : i = j
      · subst hi'; exact Int.le_refl _
      · have hi0 : i = lo := by omega
        have hj1 : j = lo + 1 := by omega
        subst hi0; subst hj1
        exact Int.le_of_lt hlt
end
end Mine
end

section -- SortG3
namespace Mine
open PySem PyProof.Rows

def gallop' : Bool → Keyed → Array Keyed → Nat → Nat → Nat → StateT SortSt Sem (Option Nat) := sortPriv% PySem.Builtin.gallop
theorem gallop'_eq (left : Bool) (key : Keyed) (arr : Array Keyed) (base n hint : Nat) : gallop' left key arr base n hint = (do
  let beyond (i : Nat) : StateT SortSt Sem (Option Bool) := do
    let x ← elem' arr (base + i)
    if left then lt' x key else return (← lt' key x).map (!·)
  let mut lastofs := 0
  let mut ofs := 1
  let mut lo := 0
  let mut hi := 0
  let some right ← beyond hint | return none
  if right then
    let maxofs := n - hint
    for _ in [0:n] do
      if ofs ≥ maxofs then break
      let some more ← beyond (hint + ofs) | return none
      if !more then break
      lastofs := ofs
      ofs := 2 * ofs + 1
    lo := hint + lastofs + 1
    hi := hint + min ofs maxofs
  else
    let maxofs := hint + 1
    for _ in [0:n] do
      if ofs ≥ maxofs then break
      let some found ← beyond (hint - ofs) | return none
      if found then break
      lastofs := ofs
      ofs := 2 * ofs + 1
    lo := hint + 1 - min ofs maxofs
    hi := hint - lastofs
  for _ in [0:n] do
    if lo ≥ hi then break
    let m := lo + (hi - lo) / 2
    let some more ← beyond m | return none
    if more then lo := m + 1 else hi := m
  return some hi) := rfl


abbrev GSt := Option (Option Nat) × Nat × Nat
def bey (left : Bool) (key : Keyed) (arr : Array Keyed) (base i : Nat) : StateT SortSt Sem (Option Bool) := do
  let x ← elem' arr (base + i)
  if left = true then lt' x key else do
    let r ← lt' key x
    pure (Option.map (fun x => !x) r)

def halve (left : Bool) (key : Keyed) (arr : Array Keyed) (base n lo hi : Nat) : StateT SortSt Sem (Option Nat) := do
  let z ← forIn [:n] ((none, lo, hi) : GSt) fun _ z =>
    if z.snd.fst ≥ z.snd.snd then pure (ForInStep.done (none, z.snd.fst, z.snd.snd))
    else do
      let r ← bey left key arr base (z.snd.fst + (z.snd.snd - z.snd.fst) / 2)
      match r with
      | some more =>
        if more = true then pure (ForInStep.yield (none, z.snd.fst + (z.snd.snd - z.snd.fst) / 2 + 1, z.snd.snd))
        else pure (ForInStep.yield (none, z.snd.fst, z.snd.fst + (z.snd.snd - z.snd.fst) / 2))
      | _ => pure (ForInStep.done (some none, z.snd.fst, z.snd.snd))
  match z.fst with
  | some r => pure r
  | none => pure (some z.snd.snd)

theorem gallopG_eq (left : Bool) (key : Keyed) (arr : Array Keyed) (base n hint : Nat) : gallop' left key arr base n hint = (do
  let r ← bey left key arr base hint
  match r with
  | some right =>
    if right = true then do
      let z ← forIn [:n] ((none, 0, 1) : GSt) fun _ z =>
        if z.snd.snd ≥ n - hint then pure (ForInStep.done (none, z.snd.fst, z.snd.snd))
        else do
          let r ← bey left key arr base (hint + z.snd.snd)
          match r with
          | some more => if (!more) = true then pure (ForInStep.done (none, z.snd.fst, z.snd.snd)) else pure (ForInStep.yield (none, z.snd.snd, 2 * z.snd.snd + 1))
          | _ => pure (ForInStep.done (some none, z.snd.fst, z.snd.snd))
      match z.fst with
      | some r => pure r
      | none => halve left key arr base n (hint + z.snd.fst + 1) (hint + min z.snd.snd (n - hint))
    else do
      let z ← forIn [:n] ((none, 0, 1) : GSt) fun _ z =>
        if z.snd.snd ≥ hint + 1 then pure (ForInStep.done (none, z.snd.fst, z.snd.snd))
        else do
          let r ← bey left key arr base (hint - z.snd.snd)
          match r with
          | some found => if found = true then pure (ForInStep.done (none, z.snd.fst, z.snd.snd)) else pure (ForInStep.yield (none, z.snd.snd, 2 * z.snd.snd + 1))
          | _ => pure (ForInStep.done (some none, z.snd.fst, z.snd.snd))
      match z.fst with
      | some r => pure r
      | none => halve left key arr base n (hint + 1 - min z.snd.snd (hint + 1)) (hint - z.snd.fst)
  | _ => pure none) := by
  rw [gallop'_eq]
  dsimp only
  unfold halve bey
  congr 1
  funext r
  cases r with
  | none => rfl
  | some right =>
    dsimp only
    split
    · congr 1
      funext z
      obtain ⟨r, l, o⟩ := z
      cases r with
      | some r => rfl
      | none =>
        dsimp only
        congr 1
        funext z
        obtain ⟨r, l, o⟩ := z
        cases r <;> rfl
    · congr 1
      funext z
      obtain ⟨r, l, o⟩ := z
      cases r with
      | some r => rfl
      | none =>
        dsimp only
        congr 1
        funext z
        obtain ⟨r, l, o⟩ := z
        cases r <;> rfl

section
variable {rk : Keyed → Int} {prog : Program} {w : World} {A : Around} {E : Value → Shared → Prop} {s : Shared} {kd : SortKind} {a₀ : Array Keyed}

def gb (rk : Keyed → Int) (left : Bool) (key : Keyed) (arr : Array Keyed) (base i : Nat) : Bool := if left = true then decide (KG rk arr (base + i) < rk key) else !decide (rk key < KG rk arr (base + i))

theorem wpS_bey {st : SortSt} {left : Bool} {key : Keyed} {arr : Array Keyed} {base i : Nat} {Q : Option Bool → SortSt → Prop} (H : Asks rk prog w A s kd a₀) (hk : kindOf st = kd) (hkey : key ∈ a₀.toList)
    (harr : ∀ p ∈ arr.toList, p ∈ a₀.toList) (hi : base + i < arr.size) (h : Q (some (gb rk left key arr base i)) st) : wpS (model prog w) A E s (bey left key arr base i) Q st := by
  unfold bey
  refine wpS_bind (wpS_elemG hi fun p hp => ?_)
  have hm : p ∈ a₀.toList := harr p (by rw [← Array.getElem?_toList] at hp; exact List.mem_of_getElem? hp)
  unfold gb at h
  rw [KG_some hp] at h
  cases left with
  | true =>
    rw [if_pos rfl] at h ⊢
    exact wpS_ltG H hk hm hkey h
  | false =>
    rw [if_neg Bool.false_ne_true] at h ⊢
    exact wpS_bind (wpS_ltG H hk hkey hm (wpS_pure h))

theorem wpS_halve {st : SortSt} {left : Bool} {key : Keyed} {arr : Array Keyed} {base n lo hi : Nat} {Q : Option Nat → SortSt → Prop} (H : Asks rk prog w A s kd a₀) (hk : kindOf st = kd) (hkey : key ∈ a₀.toList)
    (harr : ∀ p ∈ arr.toList, p ∈ a₀.toList) (hn : base + n ≤ arr.size) (hlh : lo ≤ hi) (hhn : hi ≤ n)
    (hmono : ∀ i j, i ≤ j → j < n → gb rk left key arr base j = true → gb rk left key arr base i = true)
    (h1 : ∀ i, i < lo → gb rk left key arr base i = true) (h2 : ∀ i, hi ≤ i → i < n → gb rk left key arr base i = false)
    (h : ∀ k, k ≤ n → (∀ i, i < k → gb rk left key arr base i = true) → (∀ i, k ≤ i → i < n → gb rk left key arr base i = false) → Q (some k) st) :
    wpS (model prog w) A E s (halve left key arr base n lo hi) Q st := by
  unfold halve
  refine wpS_bind (wpS_mono (wpS_forRange (I := fun x c st' => st' = st ∧ ∃ l r, c = (none, l, r) ∧ l ≤ r ∧ r ≤ n ∧ r - l ≤ n - x ∧ (∀ i, i < l → gb rk left key arr base i = true) ∧ (∀ i, r ≤ i → i < n → gb rk left key arr base i = false))
    (Q := fun c st' => st' = st ∧ ∃ l, c = (none, l, l) ∧ l ≤ n ∧ (∀ i, i < l → gb rk left key arr base i = true) ∧ (∀ i, l ≤ i → i < n → gb rk left key arr base i = false)) ?step ?fin ?init) ?post)
  case init => exact ⟨rfl, lo, hi, rfl, hlh, hhn, by omega, h1, h2⟩
  case post =>
    rintro c st' ⟨rfl, l, rfl, hl, a, b⟩
    exact wpS_pure (h l hl a b)
  case fin =>
    rintro c st' ⟨rfl, l, r, rfl, hlr, hrn, hm, a, b⟩
    have : l = r := by omega
    subst this
    exact ⟨rfl, l, rfl, hrn, a, b⟩
  case step =>
    rintro x c st' _ hx ⟨rfl, l, r, rfl, hlr, hrn, hm, a, b⟩
    dsimp only
    by_cases hge : l ≥ r
    · rw [if_pos hge]
      have : l = r := by omega
      subst this
      exact wpS_pure ⟨rfl, l, rfl, hrn, a, b⟩
    · rw [if_neg hge]
      refine wpS_bind (wpS_bey H hk hkey harr (by omega) ?_)
      cases hb : gb rk left key arr base (l + (r - l) / 2) with
      | true =>
        simp only [if_true]
        refine wpS_pure ⟨rfl, l + (r - l) / 2 + 1, r, rfl, by omega, hrn, by omega, fun i hi => hmono i (l + (r - l) / 2) (by omega) (by omega) hb, b⟩
      | false =>
        simp only [Bool.false_eq_true, if_false]
        refine wpS_pure ⟨rfl, l, l + (r - l) / 2, rfl, by omega, by omega, by omega, a, fun i hi hin => ?_⟩
        cases hc : gb rk left key arr base i with
        | false => rfl
        | true => rw [hmono _ i hi hin hc] at hb; cases hb

theorem wpS_gallop {st : SortSt} {left : Bool} {key : Keyed} {arr : Array Keyed} {base n hint : Nat} {Q : Option Nat → SortSt → Prop} (H : Asks rk prog w A s kd a₀) (hk : kindOf st = kd) (hkey : key ∈ a₀.toList)
    (harr : ∀ p ∈ arr.toList, p ∈ a₀.toList) (hn : base + n ≤ arr.size) (hh : hint < n)
    (hmono : ∀ i j, i ≤ j → j < n → gb rk left key arr base j = true → gb rk left key arr base i = true)
    (h : ∀ k, k ≤ n → (∀ i, i < k → gb rk left key arr base i = true) → (∀ i, k ≤ i → i < n → gb rk left key arr base i = false) → Q (some k) st) :
    wpS (model prog w) A E s (gallop' left key arr base n hint) Q st := by
  have hmonoF : ∀ i j, i ≤ j → j < n → gb rk left key arr base i = false → gb rk left key arr base j = false := fun i j hij hj hi => by
    cases hc : gb rk left key arr base j with
    | false => rfl
    | true => rw [hmono i j hij hj hc] at hi; cases hi
  rw [gallopG_eq]
  refine wpS_bind (wpS_bey H hk hkey harr (by omega) ?_)
  cases hb : gb rk left key arr base hint with
  | true =>
    simp only [if_true]
    refine wpS_bind (wpS_mono (wpS_forRange (I := fun x c st' => st' = st ∧ ∃ l o, c = (none, l, o) ∧ l < o ∧ l < n - hint ∧ x + 1 ≤ o ∧ gb rk left key arr base (hint + l) = true)
      (Q := fun c st' => st' = st ∧ ∃ l o, c = (none, l, o) ∧ l < o ∧ l < n - hint ∧ gb rk left key arr base (hint + l) = true ∧ (o ≥ n - hint ∨ (o < n - hint ∧ gb rk left key arr base (hint + o) = false))) ?step ?fin ?init) ?post)
    case init => exact ⟨rfl, 0, 1, rfl, by omega, by omega, by omega, hb⟩
    case fin =>
      rintro c st' ⟨rfl, l, o, rfl, h1, h2, h3, h4⟩
      exact ⟨rfl, l, o, rfl, h1, h2, h4, .inl (by omega)⟩
    case post =>
      rintro c st' ⟨rfl, l, o, rfl, h1, h2, h4, h5⟩
      dsimp only
      refine wpS_halve H hk hkey harr hn (by omega) (by omega) hmono (fun i hi => hmono i (hint + l) (by omega) (by omega) h4) (fun i hi hin => ?_) h
      rcases h5 with h5 | ⟨h5, h6⟩
      · exfalso; omega
      · exact hmonoF (hint + o) i (by omega) hin h6
    case step =>
      rintro x c st' _ hx ⟨rfl, l, o, rfl, h1, h2, h3, h4⟩
      dsimp only
      by_cases hge : o ≥ n - hint
      · rw [if_pos hge]
        exact wpS_pure ⟨rfl, l, o, rfl, h1, h2, h4, .inl hge⟩
      · rw [if_neg hge]
        refine wpS_bind (wpS_bey H hk hkey harr (by omega) ?_)
        cases hc : gb rk left key arr base (hint + o) with
        | false =>
          simp only [Bool.not_false, if_true]
          exact wpS_pure ⟨rfl, l, o, rfl, h1, h2, h4, .inr ⟨by omega, hc⟩⟩
        | true =>
          simp only [Bool.not_true, Bool.false_eq_true, if_false]
          exact wpS_pure ⟨rfl, o, 2 * o + 1, rfl, by omega, by omega, by omega, hc⟩
  | false =>
    simp only [Bool.false_eq_true, if_false]
    refine wpS_bind (wpS_mono (wpS_forRange (I := fun x c st' => st' = st ∧ ∃ l o, c = (none, l, o) ∧ l < o ∧ l ≤ hint ∧ x + 1 ≤ o ∧ gb rk left key arr base (hint - l) = false)
      (Q := fun c st' => st' = st ∧ ∃ l o, c = (none, l, o) ∧ l < o ∧ l ≤ hint ∧ gb rk left key arr base (hint - l) = false ∧ (o ≥ hint + 1 ∨ (o ≤ hint ∧ gb rk left key arr base (hint - o) = true))) ?step ?fin ?init) ?post)
    case init => exact ⟨rfl, 0, 1, rfl, by omega, by omega, by omega, hb⟩
    case fin =>
      rintro c st' ⟨rfl, l, o, rfl, h1, h2, h3, h4⟩
      exact ⟨rfl, l, o, rfl, h1, h2, h4, .inl (by omega)⟩
    case post =>
      rintro c st' ⟨rfl, l, o, rfl, h1, h2, h4, h5⟩
      dsimp only
      refine wpS_halve H hk hkey harr hn (by omega) (by omega) hmono (fun i hi => ?_) (fun i hi hin => hmonoF (hint - l) i hi hin h4) h
      rcases h5 with h5 | ⟨h5, h6⟩
      · exfalso; omega
      · exact hmono i (hint - o) (by omega) (by omega) h6
    case step =>
      rintro x c st' _ hx ⟨rfl, l, o, rfl, h1, h2, h3, h4⟩
      dsimp only
      by_cases hge : o ≥ hint + 1
      · rw [if_pos hge]
        exact wpS_pure ⟨rfl, l, o, rfl, h1, h2, h4, .inl hge⟩
      · rw [if_neg hge]
        refine wpS_bind (wpS_bey H hk hkey harr (by omega) ?_)
        cases hc : gb rk left key arr base (hint - o) with
        | true =>
          simp only [if_true]
          exact wpS_pure ⟨rfl, l, o, rfl, h1, h2, h4, .inr ⟨by omega, hc⟩⟩
        | false =>
          simp only [Bool.false_eq_true, if_false]
          exact wpS_pure ⟨rfl, o, 2 * o + 1, rfl, by omega, by omega, by omega, hc⟩
end
end Mine
end

section -- SortG4
namespace Mine
open PySem PyProof.Rows

def setGal' : Nat → StateT SortSt Sem Unit := sortPriv% PySem.Builtin.setMinGallop
theorem setGal'_eq (g : Nat) : setGal' g = modify fun st => SortSt.mk' (kindOf st) (arrOf st) (pendingOf st) g (failedOf st) := rfl
def mergeLo' : Array Keyed → Array Keyed → StateT SortSt Sem (Array Keyed) := sortPriv% PySem.Builtin.mergeLo
theorem mergeLo'_eq (a b : Array Keyed) : mergeLo' a b = (do
  rule "list.sort.merge-lo"
  let total := a.size + b.size
  let done (out : Array Keyed) (ia ib : Nat) := out ++ a.extract ia a.size ++ b.extract ib b.size
  let lastOfA (out : Array Keyed) (ia ib : Nat) := out ++ b.extract ib b.size ++ a.extract ia a.size
  let mut out : Array Keyed := #[← elem' b 0]
  let mut ia := 0
  let mut ib := 1
  if ib == b.size then return done out ia ib
  if ia + 1 == a.size then return lastOfA out ia ib
  let mut minGallop := gallopOf (← get)
  for _ in [0:total] do
    let mut acount := 0
    let mut bcount := 0
    for _ in [0:total] do
      let some bWins ← lt' (← elem' b ib) (← elem' a ia) | return done out ia ib
      if bWins then
        out := out.push (← elem' b ib); ib := ib + 1; bcount := bcount + 1; acount := 0
        if ib == b.size then return done out ia ib
        if bcount ≥ minGallop then break
      else
        out := out.push (← elem' a ia); ia := ia + 1; acount := acount + 1; bcount := 0
        if ia + 1 == a.size then return lastOfA out ia ib
        if acount ≥ minGallop then break
    rule "list.sort.gallop"
    minGallop := minGallop + 1
    for _ in [0:total] do
      if minGallop > 1 then minGallop := minGallop - 1
      setGal' minGallop
      let some k ← gallop' false (← elem' b ib) a ia (a.size - ia) 0 | return done out ia ib
      acount := k
      if k > 0 then
        out := out ++ a.extract ia (ia + k); ia := ia + k
        if ia + 1 == a.size then return lastOfA out ia ib
        if ia == a.size then return done out ia ib
      out := out.push (← elem' b ib); ib := ib + 1
      if ib == b.size then return done out ia ib
      let some k ← gallop' true (← elem' a ia) b ib (b.size - ib) 0 | return done out ia ib
      bcount := k
      if k > 0 then
        out := out ++ b.extract ib (ib + k); ib := ib + k
        if ib == b.size then return done out ia ib
      out := out.push (← elem' a ia); ia := ia + 1
      if ia + 1 == a.size then return lastOfA out ia ib
      if acount < 7 && bcount < 7 then break
    minGallop := minGallop + 1
    setGal' minGallop
  unsupported "internal:list.sort.merge-bound") := rfl

theorem ite_tail {α : Sort _} {c : Prop} [Decidable c] {t e e' : α} (h : e = e') : (if c then t else e) = (if c then t else e') := by rw [h]
theorem ite_head {α : Sort _} {c : Prop} [Decidable c] {t t' e e' : α} (h : t = t') (h2 : e = e') : (if c then t else e) = (if c then t' else e') := by rw [h, h2]
abbrev LSt := Option (Array Keyed) × Array Keyed × Nat × Nat × Nat × Nat × Nat
abbrev ISt := Option (Array Keyed) × Array Keyed × Nat × Nat × Nat × Nat
abbrev OSt := Option (Array Keyed) × Array Keyed × Nat × Nat × Nat

def loInner (a b : Array Keyed) (mg : Nat) (out : Array Keyed) (ia ib : Nat) : StateT SortSt Sem ISt :=
  forIn [:a.size + b.size] ((none, out, ia, ib, 0, 0) : ISt) fun _ z => do
    let x ← elem' b z.snd.snd.snd.fst
    let y ← elem' a z.snd.snd.fst
    let r ← lt' x y
    match r with
    | some bWins =>
      if bWins = true then do
        let x ← elem' b z.snd.snd.snd.fst
        if (z.snd.snd.snd.fst + 1 == b.size) = true then
          pure (ForInStep.done (some (z.snd.fst.push x ++ a.extract z.snd.snd.fst a.size ++ b.extract (z.snd.snd.snd.fst + 1) b.size), z.snd.fst.push x, z.snd.snd.fst, z.snd.snd.snd.fst + 1, 0, z.snd.snd.snd.snd.snd + 1))
        else
          if z.snd.snd.snd.snd.snd + 1 ≥ mg then pure (ForInStep.done (none, z.snd.fst.push x, z.snd.snd.fst, z.snd.snd.snd.fst + 1, 0, z.snd.snd.snd.snd.snd + 1))
          else pure (ForInStep.yield (none, z.snd.fst.push x, z.snd.snd.fst, z.snd.snd.snd.fst + 1, 0, z.snd.snd.snd.snd.snd + 1))
      else do
        let y ← elem' a z.snd.snd.fst
        if (z.snd.snd.fst + 1 + 1 == a.size) = true then
          pure (ForInStep.done (some (z.snd.fst.push y ++ b.extract z.snd.snd.snd.fst b.size ++ a.extract (z.snd.snd.fst + 1) a.size), z.snd.fst.push y, z.snd.snd.fst + 1, z.snd.snd.snd.fst, z.snd.snd.snd.snd.fst + 1, 0))
        else
          if z.snd.snd.snd.snd.fst + 1 ≥ mg then pure (ForInStep.done (none, z.snd.fst.push y, z.snd.snd.fst + 1, z.snd.snd.snd.fst, z.snd.snd.snd.snd.fst + 1, 0))
          else pure (ForInStep.yield (none, z.snd.fst.push y, z.snd.snd.fst + 1, z.snd.snd.snd.fst, z.snd.snd.snd.snd.fst + 1, 0))
    | _ => pure (ForInStep.done (some (z.snd.fst ++ a.extract z.snd.snd.fst a.size ++ b.extract z.snd.snd.snd.fst b.size), z.snd.fst, z.snd.snd.fst, z.snd.snd.snd.fst, z.snd.snd.snd.snd.fst, z.snd.snd.snd.snd.snd))

def loC2 (a b : Array Keyed) (out : Array Keyed) (ia ib mg ac bc : Nat) : StateT SortSt Sem (ForInStep LSt) := do
  let x ← elem' a ia
  if (ia + 1 + 1 == a.size) = true then pure (ForInStep.done (some (out.push x ++ b.extract ib b.size ++ a.extract (ia + 1) a.size), out.push x, ia + 1, ib, mg, ac, bc))
  else
    if (decide (ac < 7) && decide (bc < 7)) = true then pure (ForInStep.done (none, out.push x, ia + 1, ib, mg, ac, bc))
    else pure (ForInStep.yield (none, out.push x, ia + 1, ib, mg, ac, bc))

def loC1 (a b : Array Keyed) (out : Array Keyed) (ia ib mg ac bc : Nat) : StateT SortSt Sem (ForInStep LSt) := do
  let x ← elem' b ib
  if (ib + 1 == b.size) = true then pure (ForInStep.done (some (out.push x ++ a.extract ia a.size ++ b.extract (ib + 1) b.size), out.push x, ia, ib + 1, mg, ac, bc))
  else do
    let y ← elem' a ia
    let r ← gallop' true y b (ib + 1) (b.size - (ib + 1)) 0
    match r with
    | some k =>
      if k > 0 then
        if (ib + 1 + k == b.size) = true then
          pure (ForInStep.done (some (out.push x ++ b.extract (ib + 1) (ib + 1 + k) ++ a.extract ia a.size ++ b.extract (ib + 1 + k) b.size), out.push x ++ b.extract (ib + 1) (ib + 1 + k), ia, ib + 1 + k, mg, ac, k))
        else loC2 a b (out.push x ++ b.extract (ib + 1) (ib + 1 + k)) ia (ib + 1 + k) mg ac k
      else loC2 a b (out.push x) ia (ib + 1) mg ac k
    | _ => pure (ForInStep.done (some (out.push x ++ a.extract ia a.size ++ b.extract (ib + 1) b.size), out.push x, ia, ib + 1, mg, ac, bc))

def loC0 (a b : Array Keyed) (out : Array Keyed) (ia ib mg ac bc : Nat) : StateT SortSt Sem (ForInStep LSt) := do
  setGal' mg
  let x ← elem' b ib
  let r ← gallop' false x a ia (a.size - ia) 0
  match r with
  | some k =>
    if k > 0 then
      if (ia + k + 1 == a.size) = true then
        pure (ForInStep.done (some (out ++ a.extract ia (ia + k) ++ b.extract ib b.size ++ a.extract (ia + k) a.size), out ++ a.extract ia (ia + k), ia + k, ib, mg, k, bc))
      else
        if (ia + k == a.size) = true then
          pure (ForInStep.done (some (out ++ a.extract ia (ia + k) ++ a.extract (ia + k) a.size ++ b.extract ib b.size), out ++ a.extract ia (ia + k), ia + k, ib, mg, k, bc))
        else loC1 a b (out ++ a.extract ia (ia + k)) (ia + k) ib mg k bc
    else loC1 a b out ia ib mg k bc
  | _ => pure (ForInStep.done (some (out ++ a.extract ia a.size ++ b.extract ib b.size), out, ia, ib, mg, ac, bc))

def loGal (a b : Array Keyed) (mg : Nat) (out : Array Keyed) (ia ib ac bc : Nat) : StateT SortSt Sem LSt :=
  forIn [:a.size + b.size] ((none, out, ia, ib, mg, ac, bc) : LSt) fun _ z =>
    if z.snd.snd.snd.snd.fst > 1 then loC0 a b z.snd.fst z.snd.snd.fst z.snd.snd.snd.fst (z.snd.snd.snd.snd.fst - 1) z.snd.snd.snd.snd.snd.fst z.snd.snd.snd.snd.snd.snd
    else loC0 a b z.snd.fst z.snd.snd.fst z.snd.snd.snd.fst z.snd.snd.snd.snd.fst z.snd.snd.snd.snd.snd.fst z.snd.snd.snd.snd.snd.snd

theorem mergeLoG_eq (a b : Array Keyed) : mergeLo' a b = (do
  liftM (rule "list.sort.merge-lo")
  let x ← elem' b 0
  if (1 == b.size) = true then pure (#[x] ++ a.extract 0 a.size ++ b.extract 1 b.size)
  else if (0 + 1 == a.size) = true then pure (#[x] ++ b.extract 1 b.size ++ a.extract 0 a.size)
  else do
    let st ← get
    let z ← forIn [:a.size + b.size] ((none, #[x], 0, 1, gallopOf st) : OSt) fun _ z => do
      let z1 ← loInner a b z.snd.snd.snd.snd z.snd.fst z.snd.snd.fst z.snd.snd.snd.fst
      match z1.fst with
      | some r => pure (ForInStep.done (some r, z1.snd.fst, z1.snd.snd.fst, z1.snd.snd.snd.fst, z.snd.snd.snd.snd))
      | none => do
        liftM (rule "list.sort.gallop")
        let z2 ← loGal a b (z.snd.snd.snd.snd + 1) z1.snd.fst z1.snd.snd.fst z1.snd.snd.snd.fst z1.snd.snd.snd.snd.fst z1.snd.snd.snd.snd.snd
        match z2.fst with
        | some r => pure (ForInStep.done (some r, z2.snd.fst, z2.snd.snd.fst, z2.snd.snd.snd.fst, z2.snd.snd.snd.snd.fst))
        | none => do
          setGal' (z2.snd.snd.snd.snd.fst + 1)
          pure (ForInStep.yield (none, z2.snd.fst, z2.snd.snd.fst, z2.snd.snd.snd.fst, z2.snd.snd.snd.snd.fst + 1))
    match z.fst with
    | some r => pure r
    | none => liftM (unsupported "internal:list.sort.merge-bound" : Sem (Array Keyed))) := by
  rw [mergeLo'_eq]
  dsimp only
  unfold loGal loC0 loC1 loC2 loInner
  congr 1
  funext _u
  congr 1
  funext x
  refine ite_tail (ite_tail ?_)
  congr 1
  funext st
  congr 1
  · congr 1
    funext _i z
    obtain ⟨r, out, ia, ib, mg⟩ := z
    dsimp only
    congr 1
    funext z1
    obtain ⟨r, out, ia, ib, ac, bc⟩ := z1
    cases r with
    | some r => rfl
    | none =>
      dsimp only
      congr 1
      funext _v
      congr 1
      funext z2
      obtain ⟨r, out, ia, ib, mg, ac, bc⟩ := z2
      cases r <;> rfl
  · funext z
    obtain ⟨r, out, ia, ib, mg⟩ := z
    cases r <;> rfl
end Mine
end

section -- SortG5
namespace Mine
open PySem PyProof.Rows

section lists
variable {α : Type} (rk : α → Int)

structure MWL (A B out : List α) (ia ib : Nat) : Prop where
  ha : ia ≤ A.length
  hb : ib ≤ B.length
  perm : out.Perm (A.take ia ++ B.take ib)
  sorted : out.Pairwise fun p q => rk p ≤ rk q
  lea : ∀ p ∈ out, ∀ q ∈ A.drop ia, rk p ≤ rk q
  leb : ∀ p ∈ out, ∀ q ∈ B.drop ib, rk p ≤ rk q

def Merged (A B r : List α) : Prop := r.Perm (A ++ B) ∧ r.Pairwise fun p q => rk p ≤ rk q

variable {rk}
theorem MWL.length {A B out : List α} {ia ib : Nat} (h : MWL rk A B out ia ib) : out.length = ia + ib := by
  have := h.perm.length_eq
  have h1 := h.ha
  have h2 := h.hb
  simp only [List.length_append, List.length_take] at this
  omega

theorem MWL.permDone {A B out : List α} {ia ib : Nat} (h : MWL rk A B out ia ib) : (out ++ A.drop ia ++ B.drop ib).Perm (A ++ B) := by
  have e : (A ++ B) = (A.take ia ++ A.drop ia) ++ (B.take ib ++ B.drop ib) := by rw [List.take_append_drop, List.take_append_drop]
  rw [e]
  have h1 : (out ++ A.drop ia ++ B.drop ib).Perm (A.take ia ++ B.take ib ++ A.drop ia ++ B.drop ib) := (h.perm.append_right _).append_right _
  refine h1.trans ?_
  simp only [List.append_assoc]
  refine List.Perm.append_left _ ?_
  rw [← List.append_assoc, ← List.append_assoc]
  exact List.Perm.append_right _ List.perm_append_comm

theorem MWL.permLast {A B out : List α} {ia ib : Nat} (h : MWL rk A B out ia ib) : (out ++ B.drop ib ++ A.drop ia).Perm (A ++ B) := by
  refine List.Perm.trans ?_ h.permDone
  simp only [List.append_assoc]
  exact List.Perm.append_left _ List.perm_append_comm

theorem MWL.done {A B out : List α} {ia ib : Nat} (h : MWL rk A B out ia ib) (sa : A.Pairwise fun p q => rk p ≤ rk q) (sb : B.Pairwise fun p q => rk p ≤ rk q) (hx : ib = B.length ∨ ia = A.length) :
    Merged rk A B (out ++ A.drop ia ++ B.drop ib) := by
  refine ⟨h.permDone, ?_⟩
  rcases hx with rfl | rfl
  · rw [List.drop_length, List.append_nil, List.pairwise_append]
    exact ⟨h.sorted, sa.sublist (List.drop_sublist ..), h.lea⟩
  · rw [List.drop_length, List.append_nil, List.pairwise_append]
    exact ⟨h.sorted, sb.sublist (List.drop_sublist ..), h.leb⟩

theorem MWL.last {A B out : List α} {ia ib : Nat} (h : MWL rk A B out ia ib) (sb : B.Pairwise fun p q => rk p ≤ rk q) (hx : ia + 1 = A.length)
    (hl : ∀ q ∈ B, ∀ p, A[ia]? = some p → rk q ≤ rk p) : Merged rk A B (out ++ B.drop ib ++ A.drop ia) := by
  refine ⟨h.permLast, ?_⟩
  have hlt : ia < A.length := by omega
  have e : A.drop ia = [A[ia]] := by
    rw [List.drop_eq_getElem_cons hlt, hx, List.drop_length]
  have h1 := h.lea
  rw [e] at h1 ⊢
  rw [List.pairwise_append, List.pairwise_append]
  refine ⟨⟨h.sorted, sb.sublist (List.drop_sublist ..), h.leb⟩, List.pairwise_singleton _ _, fun p hp q hq => ?_⟩
  rcases List.mem_append.mp hp with hp | hp
  · exact h1 p hp q hq
  · have : q = A[ia] := by simpa using hq
    subst this
    exact hl p (List.mem_of_mem_drop hp) _ (List.getElem?_eq_getElem hlt)

theorem drop_split (A : List α) {i j : Nat} (hij : i ≤ j) : A.drop i = (A.drop i).take (j - i) ++ A.drop j := by
  have := (List.take_append_drop (j - i) (A.drop i)).symm
  rw [List.drop_drop] at this
  rwa [show i + (j - i) = j by omega] at this
theorem take_split (A : List α) {i j : Nat} (hij : i ≤ j) : A.take j = A.take i ++ (A.drop i).take (j - i) := by
  have h1 := List.take_append_drop i (A.take j)
  rw [List.take_take, List.drop_take, Nat.min_eq_left hij] at h1
  exact h1.symm

theorem MWL.addB {A B out : List α} {ia ib j : Nat} (h : MWL rk A B out ia ib) (sb : B.Pairwise fun p q => rk p ≤ rk q) (h1 : ib ≤ j) (h2 : j ≤ B.length)
    (hle : ∀ p ∈ (B.drop ib).take (j - ib), ∀ q ∈ A.drop ia, rk p ≤ rk q) : MWL rk A B (out ++ (B.drop ib).take (j - ib)) ia j := by
  have hsp := drop_split B h1
  have sd : (B.drop ib).Pairwise fun p q => rk p ≤ rk q := sb.sublist (List.drop_sublist ..)
  rw [hsp, List.pairwise_append] at sd
  refine ⟨h.ha, h2, ?_, ?_, fun p hp q hq => ?_, fun p hp q hq => ?_⟩
  · rw [take_split B h1, ← List.append_assoc]
    exact h.perm.append_right _
  · rw [List.pairwise_append]
    exact ⟨h.sorted, sd.1, fun p hp q hq => h.leb p hp q (List.mem_of_mem_take hq)⟩
  · rcases List.mem_append.mp hp with hp | hp
    · exact h.lea p hp q hq
    · exact hle p hp q hq
  · rcases List.mem_append.mp hp with hp | hp
    · exact h.leb p hp q (by rw [hsp]; exact List.mem_append_right _ hq)
    · exact sd.2.2 p hp q hq

theorem MWL.addA {A B out : List α} {ia ib j : Nat} (h : MWL rk A B out ia ib) (sa : A.Pairwise fun p q => rk p ≤ rk q) (h1 : ia ≤ j) (h2 : j ≤ A.length)
    (hle : ∀ p ∈ (A.drop ia).take (j - ia), ∀ q ∈ B.drop ib, rk p ≤ rk q) : MWL rk A B (out ++ (A.drop ia).take (j - ia)) j ib := by
  have hsp := drop_split A h1
  have sd : (A.drop ia).Pairwise fun p q => rk p ≤ rk q := sa.sublist (List.drop_sublist ..)
  rw [hsp, List.pairwise_append] at sd
  refine ⟨h2, h.hb, ?_, ?_, fun p hp q hq => ?_, fun p hp q hq => ?_⟩
  · rw [take_split A h1]
    refine (h.perm.append_right _).trans ?_
    simp only [List.append_assoc]
    exact List.Perm.append_left _ List.perm_append_comm
  · rw [List.pairwise_append]
    exact ⟨h.sorted, sd.1, fun p hp q hq => h.lea p hp q (List.mem_of_mem_take hq)⟩
  · rcases List.mem_append.mp hp with hp | hp
    · exact h.lea p hp q (by rw [hsp]; exact List.mem_append_right _ hq)
    · exact sd.2.2 p hp q hq
  · rcases List.mem_append.mp hp with hp | hp
    · exact h.leb p hp q hq
    · exact hle p hp q hq

theorem mem_drop_ge {A : List α} (sa : A.Pairwise fun p q => rk p ≤ rk q) {i : Nat} {p q : α} (hp : A[i]? = some p) (hq : q ∈ A.drop i) : rk p ≤ rk q := by
  obtain ⟨hi, rfl⟩ := List.getElem?_eq_some_iff.mp hp
  have sd : (A.drop i).Pairwise fun p q => rk p ≤ rk q := sa.sublist (List.drop_sublist ..)
  rw [List.drop_eq_getElem_cons hi] at sd hq
  rcases List.mem_cons.mp hq with rfl | hq
  · exact Int.le_refl _
  · exact (List.pairwise_cons.mp sd).1 q hq

theorem take1 {A : List α} {i : Nat} {p : α} (hp : A[i]? = some p) : (A.drop i).take (i + 1 - i) = [p] := by
  obtain ⟨hi, rfl⟩ := List.getElem?_eq_some_iff.mp hp
  rw [List.drop_eq_getElem_cons hi, show i + 1 - i = 1 by omega]; rfl

theorem MWL.pushB {A B out : List α} {ia ib : Nat} {p : α} (h : MWL rk A B out ia ib) (sb : B.Pairwise fun p q => rk p ≤ rk q) (hp : B[ib]? = some p)
    (hle : ∀ q ∈ A.drop ia, rk p ≤ rk q) : MWL rk A B (out ++ [p]) ia (ib + 1) := by
  have hi := (List.getElem?_eq_some_iff.mp hp).1
  rw [← take1 hp]
  refine h.addB sb (Nat.le_succ _) hi fun x hx q hq => ?_
  rw [take1 hp] at hx
  rw [List.mem_singleton.mp hx]
  exact hle q hq
theorem MWL.pushA {A B out : List α} {ia ib : Nat} {p : α} (h : MWL rk A B out ia ib) (sa : A.Pairwise fun p q => rk p ≤ rk q) (hp : A[ia]? = some p)
    (hle : ∀ q ∈ B.drop ib, rk p ≤ rk q) : MWL rk A B (out ++ [p]) (ia + 1) ib := by
  have hi := (List.getElem?_eq_some_iff.mp hp).1
  rw [← take1 hp]
  refine h.addA sa (Nat.le_succ _) hi fun x hx q hq => ?_
  rw [take1 hp] at hx
  rw [List.mem_singleton.mp hx]
  exact hle q hq
end lists

theorem toList_ext (b : Array Keyed) (i j : Nat) : (b.extract i j).toList = (b.toList.drop i).take (j - i) := by
  rw [Array.toList_extract, List.extract_eq_take_drop]
theorem toList_ext_all (b : Array Keyed) (i : Nat) : (b.extract i b.size).toList = b.toList.drop i := by
  rw [toList_ext, List.take_of_length_le]
  rw [List.length_drop, Array.length_toList]
  exact Nat.le_refl _
end Mine
end

section -- SortG6
namespace Mine
open PySem PyProof.Rows

def HS (st st' : SortSt) : Prop := kindOf st' = kindOf st ∧ arrOf st' = arrOf st ∧ pendingOf st' = pendingOf st ∧ failedOf st' = failedOf st
theorem HS.rfl' {st : SortSt} : HS st st := ⟨rfl, rfl, rfl, rfl⟩
theorem HS.trans {a b c : SortSt} (x : HS a b) (y : HS b c) : HS a c := ⟨y.1.trans x.1, y.2.1.trans x.2.1, y.2.2.1.trans x.2.2.1, y.2.2.2.trans x.2.2.2⟩

section
variable {rk : Keyed → Int}
theorem mem_drop_at {a : Array Keyed} {i : Nat} {q : Keyed} (hq : q ∈ a.toList.drop i) : ∃ j, i ≤ j ∧ j < a.size ∧ a[j]? = some q := by
  obtain ⟨k, hk, e⟩ := List.mem_iff_getElem.mp hq
  rw [List.getElem_drop] at e
  rw [List.length_drop, Array.length_toList] at hk
  refine ⟨i + k, by omega, by omega, ?_⟩
  rw [getElem?_pos a (i + k) (by omega)]
  rw [← e]; simp
theorem mem_take_at {a : Array Keyed} {i n : Nat} {q : Keyed} (hq : q ∈ (a.toList.drop i).take n) : ∃ j, i ≤ j ∧ j < i + n ∧ j < a.size ∧ a[j]? = some q := by
  obtain ⟨k, hk, e⟩ := List.mem_iff_getElem.mp hq
  rw [List.length_take, List.length_drop, Array.length_toList] at hk
  rw [List.getElem_take, List.getElem_drop] at e
  refine ⟨i + k, by omega, by omega, by omega, ?_⟩
  rw [getElem?_pos a (i + k) (by omega)]
  rw [← e]; simp
theorem at_toList {a : Array Keyed} {i : Nat} {p : Keyed} (h : a[i]? = some p) : a.toList[i]? = some p := by rw [Array.getElem?_toList]; exact h
theorem KG_mono {a : Array Keyed} (sa : a.toList.Pairwise fun p q => rk p ≤ rk q) {i j : Nat} (hij : i ≤ j) (hj : j < a.size) : KG rk a i ≤ KG rk a j := by
  have hi : i < a.size := by omega
  rw [KG_some (getElem?_pos a i hi), KG_some (getElem?_pos a j hj)]
  refine mem_drop_ge sa (at_toList (getElem?_pos a i hi)) ?_
  rw [List.mem_iff_getElem]
  refine ⟨j - i, by rw [List.length_drop, Array.length_toList]; omega, ?_⟩
  rw [List.getElem_drop]
  simp only [Array.getElem_toList]
  congr 1; omega
end

section
variable {rk : Keyed → Int} {prog : Program} {w : World} {A : Around} {E : Value → Shared → Prop} {s : Shared} {kd : SortKind} {a₀ a b : Array Keyed}

/-- what a merge is given -/
structure MPre (rk : Keyed → Int) (a₀ a b : Array Keyed) : Prop where
  ma : ∀ p ∈ a.toList, p ∈ a₀.toList
  mb : ∀ p ∈ b.toList, p ∈ a₀.toList
  sa : a.toList.Pairwise fun p q => rk p ≤ rk q
  sb : b.toList.Pairwise fun p q => rk p ≤ rk q
  na : 0 < a.size
  nb : 0 < b.size
  first : ∀ p, b[0]? = some p → ∀ q ∈ a.toList, rk p ≤ rk q
  last : ∀ q ∈ b.toList, ∀ p, a[a.size - 1]? = some p → rk q ≤ rk p

theorem at_mem {a : Array Keyed} {i : Nat} {p : Keyed} (h : a[i]? = some p) : p ∈ a.toList := List.mem_of_getElem? (at_toList h)

theorem MPre.done (M : MPre rk a₀ a b) {out : Array Keyed} {ia ib : Nat} (W : MWL rk a.toList b.toList out.toList ia ib) (hx : ib = b.size ∨ ia = a.size) :
    Merged rk a.toList b.toList (out ++ a.extract ia a.size ++ b.extract ib b.size).toList := by
  rw [Array.toList_append, Array.toList_append, toList_ext_all, toList_ext_all]
  exact W.done M.sa M.sb (by simpa using hx)
theorem MPre.lastA (M : MPre rk a₀ a b) {out : Array Keyed} {ia ib : Nat} (W : MWL rk a.toList b.toList out.toList ia ib) (hx : ia + 1 = a.size) :
    Merged rk a.toList b.toList (out ++ b.extract ib b.size ++ a.extract ia a.size).toList := by
  rw [Array.toList_append, Array.toList_append, toList_ext_all, toList_ext_all]
  refine W.last M.sb (by simpa using hx) fun q hq p hp => M.last q hq p ?_
  rw [Array.getElem?_toList] at hp
  rw [← hp]; congr 1; omega

def LoOk (rk : Keyed → Int) (a b : Array Keyed) (n : Nat) (r : Option (Array Keyed)) (out : Array Keyed) (ia ib : Nat) : Prop := match r with
  | some r => Merged rk a.toList b.toList r.toList
  | none => MWL rk a.toList b.toList out.toList ia ib ∧ ia + 1 < a.size ∧ ib < b.size ∧ n ≤ out.size

theorem push_list (out : Array Keyed) (x : Keyed) : (out.push x).toList = out.toList ++ [x] := Array.toList_push

theorem wpS_loInner {st : SortSt} {mg ia ib : Nat} {out : Array Keyed} {Q : ISt → SortSt → Prop} (H : Asks rk prog w A s kd a₀) (hk : kindOf st = kd) (M : MPre rk a₀ a b)
    (W : MWL rk a.toList b.toList out.toList ia ib) (h1 : ia + 1 < a.size) (h2 : ib < b.size)
    (h : ∀ r out' ia' ib' ac bc, LoOk rk a b (out.size + 1) r out' ia' ib' → Q (r, out', ia', ib', ac, bc) st) : wpS (model prog w) A E s (loInner a b mg out ia ib) Q st := by
  unfold loInner
  refine wpS_forRange (I := fun x c st' => st' = st ∧ ∃ o i j ac bc, c = (none, o, i, j, ac, bc) ∧ MWL rk a.toList b.toList o.toList i j ∧ i + 1 < a.size ∧ j < b.size ∧ out.size + x ≤ o.size) ?step ?fin ⟨rfl, out, ia, ib, 0, 0, rfl, W, h1, h2, Nat.le_refl _⟩
  case fin =>
    rintro c st' ⟨rfl, o, i, j, ac, bc, rfl, W', h1', h2', hz⟩
    exact h none o i j ac bc ⟨W', h1', h2', by omega⟩
  case step =>
    rintro x c st' _ hx ⟨rfl, o, i, j, ac, bc, rfl, W', h1', h2', hz⟩
    dsimp only
    refine wpS_bind (wpS_elemG h2' fun p hp => wpS_bind (wpS_elemG (by omega) fun q hq => wpS_bind (wpS_ltG H hk (M.mb p (at_mem hp)) (M.ma q (at_mem hq)) ?_)))
    by_cases hlt : rk p < rk q
    · simp only [hlt, decide_true, if_true]
      have W2 : MWL rk a.toList b.toList (o.push p).toList i (j + 1) := by
        rw [push_list]
        exact W'.pushB M.sb (at_toList hp) fun q' hq' => Int.le_trans (Int.le_of_lt hlt) (mem_drop_ge M.sa (at_toList hq) hq')
      have hz2 : (o.push p).size = o.size + 1 := Array.size_push ..
      refine wpS_bind (wpS_elemG h2' fun p' hp' => ?_)
      obtain rfl : p = p' := Option.some.inj (hp.symm.trans hp')
      by_cases he : j + 1 = b.size
      · rw [if_pos (by simpa using he)]
        exact wpS_pure (h _ _ _ _ _ _ (M.done W2 (.inl he)))
      · rw [if_neg (by simpa using he)]
        split
        · exact wpS_pure (h _ _ _ _ _ _ ⟨W2, h1', by omega, by omega⟩)
        · exact wpS_pure ⟨rfl, _, _, _, _, _, rfl, W2, h1', by omega, by omega⟩
    · simp only [hlt, decide_false, Bool.false_eq_true, if_false]
      have W2 : MWL rk a.toList b.toList (o.push q).toList (i + 1) j := by
        rw [push_list]
        exact W'.pushA M.sa (at_toList hq) fun q' hq' => Int.le_trans (Int.not_lt.mp hlt) (mem_drop_ge M.sb (at_toList hp) hq')
      have hz2 : (o.push q).size = o.size + 1 := Array.size_push ..
      refine wpS_bind (wpS_elemG (by omega) fun q' hq' => ?_)
      obtain rfl : q = q' := Option.some.inj (hq.symm.trans hq')
      by_cases he : i + 1 + 1 = a.size
      · rw [if_pos (by simpa using he)]
        exact wpS_pure (h _ _ _ _ _ _ (M.lastA W2 he))
      · rw [if_neg (by simpa using he)]
        split
        · exact wpS_pure (h _ _ _ _ _ _ ⟨W2, by omega, h2', by omega⟩)
        · exact wpS_pure ⟨rfl, _, _, _, _, _, rfl, W2, by omega, h2', by omega⟩

def StepOk (rk : Keyed → Int) (a b : Array Keyed) (n : Nat) (z : ForInStep LSt) : Prop := match z with
  | .done z => LoOk rk a b n z.1 z.2.1 z.2.2.1 z.2.2.2.1
  | .yield z => z.1 = none ∧ LoOk rk a b n z.1 z.2.1 z.2.2.1 z.2.2.2.1

theorem wpS_loC2 {st : SortSt} {mg ia ib ac bc n : Nat} {out : Array Keyed} {Q : ForInStep LSt → SortSt → Prop} (M : MPre rk a₀ a b)
    (W : MWL rk a.toList b.toList out.toList ia ib) (h1 : ia + 1 < a.size) (h2 : ib < b.size) (hn : n ≤ out.size) (hle : ∀ p, a[ia]? = some p → ∀ q ∈ b.toList.drop ib, rk p ≤ rk q)
    (h : ∀ z, StepOk rk a b n z → Q z st) : wpS (model prog w) A E s (loC2 a b out ia ib mg ac bc) Q st := by
  unfold loC2
  refine wpS_bind (wpS_elemG (by omega) fun p hp => ?_)
  have W2 : MWL rk a.toList b.toList (out.push p).toList (ia + 1) ib := by
    rw [push_list]
    exact W.pushA M.sa (at_toList hp) (hle p hp)
  have hz2 : (out.push p).size = out.size + 1 := Array.size_push ..
  by_cases he : ia + 1 + 1 = a.size
  · rw [if_pos (by simpa using he)]
    exact wpS_pure (h _ (M.lastA W2 he))
  · rw [if_neg (by simpa using he)]
    split
    · exact wpS_pure (h _ ⟨W2, by dsimp only; omega, h2, by dsimp only; omega⟩)
    · exact wpS_pure (h _ ⟨rfl, W2, by dsimp only; omega, h2, by dsimp only; omega⟩)

theorem gb_false {key : Keyed} {arr : Array Keyed} {base i : Nat} : gb rk false key arr base i = !decide (rk key < KG rk arr (base + i)) := rfl
theorem gb_true {key : Keyed} {arr : Array Keyed} {base i : Nat} : gb rk true key arr base i = decide (KG rk arr (base + i) < rk key) := rfl

theorem wpS_loC1 {st : SortSt} {mg ia ib ac bc n : Nat} {out : Array Keyed} {Q : ForInStep LSt → SortSt → Prop} (H : Asks rk prog w A s kd a₀) (hk : kindOf st = kd) (M : MPre rk a₀ a b)
    (W : MWL rk a.toList b.toList out.toList ia ib) (h1 : ia + 1 < a.size) (h2 : ib < b.size) (hn : n ≤ out.size) (hle : ∀ p, b[ib]? = some p → ∀ q ∈ a.toList.drop ia, rk p ≤ rk q)
    (h : ∀ z, StepOk rk a b n z → Q z st) : wpS (model prog w) A E s (loC1 a b out ia ib mg ac bc) Q st := by
  unfold loC1
  refine wpS_bind (wpS_elemG h2 fun p hp => ?_)
  have W2 : MWL rk a.toList b.toList (out.push p).toList ia (ib + 1) := by
    rw [push_list]
    exact W.pushB M.sb (at_toList hp) (hle p hp)
  have hz2 : (out.push p).size = out.size + 1 := Array.size_push ..
  by_cases he : ib + 1 = b.size
  · rw [if_pos (by simpa using he)]
    exact wpS_pure (h _ (M.done W2 (.inl he)))
  · rw [if_neg (by simpa using he)]
    refine wpS_bind (wpS_elemG (by omega) fun q hq => ?_)
    refine wpS_bind (wpS_gallop H hk (M.ma q (at_mem hq)) M.mb (by omega) (by omega) (fun i j hij hj hb => ?_) fun k hkn hlo hhi => ?_)
    · rw [gb_true, decide_eq_true_eq] at hb ⊢
      exact Int.lt_of_le_of_lt (KG_mono M.sb (by omega) (by omega)) hb
    · have hi : ∀ q' ∈ b.toList.drop (ib + 1 + k), rk q ≤ rk q' := fun q' hq' => by
        obtain ⟨j, hj1, hj2, e⟩ := mem_drop_at hq'
        have := hhi (j - (ib + 1)) (by omega) (by omega)
        rw [gb_true, decide_eq_false_iff_not, show ib + 1 + (j - (ib + 1)) = j by omega, KG_some e] at this
        exact Int.not_lt.mp this
      dsimp only
      by_cases hk0 : k > 0
      · rw [if_pos hk0]
        have W3 : MWL rk a.toList b.toList (out.push p ++ b.extract (ib + 1) (ib + 1 + k)).toList ia (ib + 1 + k) := by
          rw [Array.toList_append, toList_ext]
          refine W2.addB M.sb (by omega) (by rw [Array.length_toList]; omega) fun x hx y hy => ?_
          obtain ⟨j, hj1, hj2, hj3, e⟩ := mem_take_at hx
          have := hlo (j - (ib + 1)) (by omega)
          rw [gb_true, decide_eq_true_eq, show ib + 1 + (j - (ib + 1)) = j by omega, KG_some e] at this
          exact Int.le_trans (Int.le_of_lt this) (mem_drop_ge M.sa (at_toList hq) hy)
        have hz3 : (out.push p ++ b.extract (ib + 1) (ib + 1 + k)).size ≥ out.size := by rw [Array.size_append]; omega
        by_cases he2 : ib + 1 + k = b.size
        · rw [if_pos (by simpa using he2)]
          exact wpS_pure (h _ (M.done W3 (.inl he2)))
        · rw [if_neg (by simpa using he2)]
          exact wpS_loC2 M W3 h1 (by omega) (by omega) (fun p' hp' q' hq' => by
            obtain rfl : q = p' := Option.some.inj (hq.symm.trans hp')
            exact hi q' hq') h
      · rw [if_neg hk0]
        have : k = 0 := by omega
        subst this
        exact wpS_loC2 M W2 h1 (by omega) (by omega) (fun p' hp' q' hq' => by
            obtain rfl : q = p' := Option.some.inj (hq.symm.trans hp')
            exact hi q' hq') h

theorem wpS_setGal {st : SortSt} {g : Nat} {Q : Unit → SortSt → Prop} (h : ∀ st', HS st st' → Q () st') : wpS (model prog w) A E s (setGal' g) Q st := by
  rw [setGal'_eq]
  exact wpS_modify (h _ ⟨rfl, rfl, rfl, rfl⟩)

theorem wpS_loC0 {st : SortSt} {mg ia ib ac bc n : Nat} {out : Array Keyed} {Q : ForInStep LSt → SortSt → Prop} (H : Asks rk prog w A s kd a₀) (hk : kindOf st = kd) (M : MPre rk a₀ a b)
    (W : MWL rk a.toList b.toList out.toList ia ib) (h1 : ia + 1 < a.size) (h2 : ib < b.size) (hn : n ≤ out.size)
    (h : ∀ z st', HS st st' → StepOk rk a b n z → Q z st') : wpS (model prog w) A E s (loC0 a b out ia ib mg ac bc) Q st := by
  unfold loC0
  refine wpS_bind (wpS_setGal fun st' hst => ?_)
  have hk' : kindOf st' = kd := hst.1.trans hk
  refine wpS_bind (wpS_elemG h2 fun p hp => ?_)
  refine wpS_bind (wpS_gallop H hk' (M.mb p (at_mem hp)) M.ma (by omega) (by omega) (fun i j hij hj hb => ?_) fun k hkn hlo hhi => ?_)
  · rw [gb_false, Bool.not_eq_true', decide_eq_false_iff_not] at hb ⊢
    have := KG_mono (rk := rk) M.sa (i := ia + i) (j := ia + j) (by omega) (by omega)
    omega
  · have hi : ∀ q' ∈ a.toList.drop (ia + k), rk p ≤ rk q' := fun q' hq' => by
      obtain ⟨j, hj1, hj2, e⟩ := mem_drop_at hq'
      have := hhi (j - ia) (by omega) (by omega)
      rw [gb_false, Bool.not_eq_false', decide_eq_true_eq, show ia + (j - ia) = j by omega, KG_some e] at this
      exact Int.le_of_lt this
    have hle : ∀ p', b[ib]? = some p' → ∀ q ∈ a.toList.drop (ia + k), rk p' ≤ rk q := fun p' hp' q hq => by
      obtain rfl : p = p' := Option.some.inj (hp.symm.trans hp')
      exact hi q hq
    dsimp only
    by_cases hk0 : k > 0
    · rw [if_pos hk0]
      have W3 : MWL rk a.toList b.toList (out ++ a.extract ia (ia + k)).toList (ia + k) ib := by
        rw [Array.toList_append, toList_ext]
        refine W.addA M.sa (by omega) (by rw [Array.length_toList]; omega) fun x hx y hy => ?_
        obtain ⟨j, hj1, hj2, hj3, e⟩ := mem_take_at hx
        have := hlo (j - ia) (by omega)
        rw [gb_false, Bool.not_eq_true', decide_eq_false_iff_not, show ia + (j - ia) = j by omega, KG_some e] at this
        exact Int.le_trans (Int.not_lt.mp this) (mem_drop_ge M.sb (at_toList hp) hy)
      have hz3 : (out ++ a.extract ia (ia + k)).size ≥ out.size := by rw [Array.size_append]; omega
      by_cases he : ia + k + 1 = a.size
      · rw [if_pos (by simpa using he)]
        exact wpS_pure (h _ _ hst (M.lastA W3 he))
      · rw [if_neg (by simpa using he)]
        by_cases he2 : ia + k = a.size
        · rw [if_pos (by simpa using he2)]
          exact wpS_pure (h _ _ hst (M.done W3 (.inr he2)))
        · rw [if_neg (by simpa using he2)]
          exact wpS_loC1 H hk' M W3 (by omega) h2 (by omega) hle fun z hz => h z _ hst hz
    · rw [if_neg hk0]
      have : k = 0 := by omega
      subst this
      exact wpS_loC1 H hk' M W h1 h2 hn hle fun z hz => h z _ hst hz

theorem wpS_loGal {st : SortSt} {mg ia ib ac bc : Nat} {out : Array Keyed} {Q : LSt → SortSt → Prop} (H : Asks rk prog w A s kd a₀) (hk : kindOf st = kd) (M : MPre rk a₀ a b)
    (W : MWL rk a.toList b.toList out.toList ia ib) (h1 : ia + 1 < a.size) (h2 : ib < b.size)
    (h : ∀ r o i j mg ac bc st', HS st st' → LoOk rk a b out.size r o i j → Q (r, o, i, j, mg, ac, bc) st') : wpS (model prog w) A E s (loGal a b mg out ia ib ac bc) Q st := by
  unfold loGal
  refine wpS_forRange (I := fun x (c : LSt) st' => HS st st' ∧ c.1 = none ∧ LoOk rk a b out.size c.1 c.2.1 c.2.2.1 c.2.2.2.1) ?step ?fin ⟨HS.rfl', rfl, W, h1, h2, Nat.le_refl _⟩
  case fin =>
    rintro ⟨r, o, i, j, mg, ac, bc⟩ st' ⟨hst, hr, hc⟩
    exact h _ _ _ _ _ _ _ _ hst hc
  case step =>
    rintro x ⟨r, o, i, j, mg, ac, bc⟩ st' _ hx ⟨hst, hr, hc⟩
    dsimp only at hr hc ⊢
    subst hr
    obtain ⟨W', h1', h2', hz⟩ := hc
    split <;> exact wpS_loC0 H (hst.1.trans hk) M W' h1' h2' hz fun z st'' hst' hz' => by
        cases z with
        | done z => obtain ⟨r, o, i, j, mg, ac, bc⟩ := z; exact h _ _ _ _ _ _ _ _ (hst.trans hst') hz'
        | yield z => exact ⟨hst.trans hst', hz'⟩

theorem wpS_mergeLo {st : SortSt} {Q : Array Keyed → SortSt → Prop} (H : Asks rk prog w A s kd a₀) (hk : kindOf st = kd) (M : MPre rk a₀ a b)
    (h : ∀ r st', HS st st' → Merged rk a.toList b.toList r.toList → Q r st') : wpS (model prog w) A E s (mergeLo' a b) Q st := by
  rw [mergeLoG_eq]
  refine wpS_bind (wpS_lift (wpAny_rule ⟨rfl, ?_⟩))
  refine wpS_bind (wpS_elemG M.nb fun p hp => ?_)
  have W : MWL rk a.toList b.toList (#[p] : Array Keyed).toList 0 1 := by
    have W0 : MWL rk a.toList b.toList [] 0 0 := ⟨Nat.zero_le _, Nat.zero_le _, by simp, List.Pairwise.nil, (fun p hp => by cases hp), (fun p hp => by cases hp)⟩
    exact W0.pushB M.sb (at_toList hp) (M.first p hp)
  by_cases he : 1 = b.size
  · rw [if_pos (by simpa using he)]
    exact wpS_pure (h _ _ HS.rfl' (M.done W (.inl he)))
  · rw [if_neg (by simpa using he)]
    by_cases he2 : 0 + 1 = a.size
    · rw [if_pos (by simpa using he2)]
      exact wpS_pure (h _ _ HS.rfl' (M.lastA W he2))
    · rw [if_neg (by simpa using he2)]
      have na := M.na
      have nb := M.nb
      refine wpS_bind (wpS_get ?_)
      refine wpS_bind (wpS_mono (wpS_forRange (I := fun x (c : OSt) st' => HS st st' ∧ c.1 = none ∧ LoOk rk a b (x + 1) c.1 c.2.1 c.2.2.1 c.2.2.2.1)
        (Q := fun (c : OSt) st' => HS st st' ∧ ∃ r, c.1 = some r ∧ Merged rk a.toList b.toList r.toList) ?step ?fin ⟨HS.rfl', rfl, W, by dsimp only; omega, by dsimp only; omega, Nat.le_refl _⟩) ?post)
      case post =>
        rintro ⟨r, o, i, j, mg⟩ st' ⟨hst, r', hr, hm⟩
        dsimp only at hr ⊢
        subst hr
        exact wpS_pure (h _ _ hst hm)
      case fin =>
        rintro ⟨r, o, i, j, mg⟩ st' ⟨hst, hr, hc⟩
        dsimp only at hr hc
        subst hr
        obtain ⟨W', h1', h2', hz⟩ := hc
        exfalso
        have := W'.length
        rw [Array.length_toList] at this
        omega
      case step =>
        rintro x ⟨r, o, i, j, mg⟩ st' _ hx ⟨hst, hr, hc⟩
        dsimp only at hr hc ⊢
        subst hr
        obtain ⟨W', h1', h2', hz⟩ := hc
        refine wpS_bind (wpS_loInner H (hst.1.trans hk) M W' h1' h2' fun r1 o1 i1 j1 ac bc hr1 => ?_)
        cases r1 with
        | some r1 => exact wpS_pure ⟨hst, r1, rfl, hr1⟩
        | none =>
          obtain ⟨W1, h11, h21, hz1⟩ := hr1
          dsimp only
          refine wpS_bind (wpS_lift (wpAny_rule ⟨rfl, ?_⟩))
          refine wpS_bind (wpS_loGal H (hst.1.trans hk) M W1 h11 h21 fun r2 o2 i2 j2 mg2 ac2 bc2 st2 hst2 hr2 => ?_)
          cases r2 with
          | some r2 => exact wpS_pure ⟨hst.trans hst2, r2, rfl, hr2⟩
          | none =>
            obtain ⟨W2, h12, h22, hz2⟩ := hr2
            dsimp only
            refine wpS_bind (wpS_setGal fun st3 hst3 => wpS_pure ⟨(hst.trans hst2).trans hst3, rfl, W2, h12, h22, by dsimp only; omega⟩)
end
end Mine
end

section -- SortG7
namespace Mine
open PySem PyProof.Rows
def mergeHi' : Array Keyed → Array Keyed → StateT SortSt Sem (Array Keyed) := sortPriv% PySem.Builtin.mergeHi
theorem mergeHi'_eq (a b : Array Keyed) : mergeHi' a b = (do
  rule "list.sort.merge-hi"
  let total := a.size + b.size
  let done (out : Array Keyed) (na nb : Nat) := a.extract 0 na ++ b.extract 0 nb ++ out.reverse
  let firstOfB (out : Array Keyed) (na nb : Nat) := b.extract 0 nb ++ a.extract 0 na ++ out.reverse
  let mut na := a.size - 1
  let mut nb := b.size
  let mut out : Array Keyed := #[← elem' a na]
  if na == 0 then return done out na nb
  if nb == 1 then return firstOfB out na nb
  let mut minGallop := gallopOf (← get)
  for _ in [0:total] do
    let mut acount := 0
    let mut bcount := 0
    for _ in [0:total] do
      let some aWins ← lt' (← elem' b (nb - 1)) (← elem' a (na - 1)) | return done out na nb
      if aWins then
        na := na - 1; out := out.push (← elem' a na); acount := acount + 1; bcount := 0
        if na == 0 then return done out na nb
        if acount ≥ minGallop then break
      else
        nb := nb - 1; out := out.push (← elem' b nb); bcount := bcount + 1; acount := 0
        if nb == 1 then return firstOfB out na nb
        if bcount ≥ minGallop then break
    rule "list.sort.gallop"
    minGallop := minGallop + 1
    for _ in [0:total] do
      if minGallop > 1 then minGallop := minGallop - 1
      setGal' minGallop
      let some at_ ← gallop' false (← elem' b (nb - 1)) a 0 na (na - 1) | return done out na nb
      let k := na - at_
      acount := k
      if k > 0 then
        out := out ++ (a.extract at_ na).reverse; na := at_
        if na == 0 then return done out na nb
      nb := nb - 1; out := out.push (← elem' b nb)
      if nb == 1 then return firstOfB out na nb
      let some at_ ← gallop' true (← elem' a (na - 1)) b 0 nb (nb - 1) | return done out na nb
      let k := nb - at_
      bcount := k
      if k > 0 then
        out := out ++ (b.extract at_ nb).reverse; nb := at_
        if nb == 1 then return firstOfB out na nb
        if nb == 0 then return done out na nb
      na := na - 1; out := out.push (← elem' a na)
      if na == 0 then return done out na nb
      if acount < 7 && bcount < 7 then break
    minGallop := minGallop + 1
    setGal' minGallop
  unsupported "internal:list.sort.merge-bound") := rfl


abbrev HLSt := Option (Array Keyed) × Nat × Nat × Array Keyed × Nat × Nat × Nat
abbrev HISt := Option (Array Keyed) × Nat × Nat × Array Keyed × Nat × Nat
abbrev HOSt := Option (Array Keyed) × Nat × Nat × Array Keyed × Nat

def hiInner (a b : Array Keyed) (mg : Nat) (na nb : Nat) (out : Array Keyed) : StateT SortSt Sem HISt :=
  forIn [:a.size + b.size] ((none, na, nb, out, 0, 0) : HISt) fun _ z => do
    let x ← elem' b (z.snd.snd.fst - 1)
    let y ← elem' a (z.snd.fst - 1)
    let r ← lt' x y
    match r with
    | some aWins =>
      if aWins = true then do
        let y ← elem' a (z.snd.fst - 1)
        if (z.snd.fst - 1 == 0) = true then
          pure (ForInStep.done (some (a.extract 0 (z.snd.fst - 1) ++ b.extract 0 z.snd.snd.fst ++ (z.snd.snd.snd.fst.push y).reverse), z.snd.fst - 1, z.snd.snd.fst, z.snd.snd.snd.fst.push y, z.snd.snd.snd.snd.fst + 1, 0))
        else
          if z.snd.snd.snd.snd.fst + 1 ≥ mg then pure (ForInStep.done (none, z.snd.fst - 1, z.snd.snd.fst, z.snd.snd.snd.fst.push y, z.snd.snd.snd.snd.fst + 1, 0))
          else pure (ForInStep.yield (none, z.snd.fst - 1, z.snd.snd.fst, z.snd.snd.snd.fst.push y, z.snd.snd.snd.snd.fst + 1, 0))
      else do
        let x ← elem' b (z.snd.snd.fst - 1)
        if (z.snd.snd.fst - 1 == 1) = true then
          pure (ForInStep.done (some (b.extract 0 (z.snd.snd.fst - 1) ++ a.extract 0 z.snd.fst ++ (z.snd.snd.snd.fst.push x).reverse), z.snd.fst, z.snd.snd.fst - 1, z.snd.snd.snd.fst.push x, 0, z.snd.snd.snd.snd.snd + 1))
        else
          if z.snd.snd.snd.snd.snd + 1 ≥ mg then pure (ForInStep.done (none, z.snd.fst, z.snd.snd.fst - 1, z.snd.snd.snd.fst.push x, 0, z.snd.snd.snd.snd.snd + 1))
          else pure (ForInStep.yield (none, z.snd.fst, z.snd.snd.fst - 1, z.snd.snd.snd.fst.push x, 0, z.snd.snd.snd.snd.snd + 1))
    | _ => pure (ForInStep.done (some (a.extract 0 z.snd.fst ++ b.extract 0 z.snd.snd.fst ++ z.snd.snd.snd.fst.reverse), z.snd.fst, z.snd.snd.fst, z.snd.snd.snd.fst, z.snd.snd.snd.snd.fst, z.snd.snd.snd.snd.snd))

def hiC2 (a b : Array Keyed) (na nb : Nat) (out : Array Keyed) (mg ac bc : Nat) : StateT SortSt Sem (ForInStep HLSt) := do
  let x ← elem' a (na - 1)
  if (na - 1 == 0) = true then pure (ForInStep.done (some (a.extract 0 (na - 1) ++ b.extract 0 nb ++ (out.push x).reverse), na - 1, nb, out.push x, mg, ac, bc))
  else
    if (decide (ac < 7) && decide (bc < 7)) = true then pure (ForInStep.done (none, na - 1, nb, out.push x, mg, ac, bc))
    else pure (ForInStep.yield (none, na - 1, nb, out.push x, mg, ac, bc))

def hiC1 (a b : Array Keyed) (na nb : Nat) (out : Array Keyed) (mg ac bc : Nat) : StateT SortSt Sem (ForInStep HLSt) := do
  let x ← elem' b (nb - 1)
  if (nb - 1 == 1) = true then pure (ForInStep.done (some (b.extract 0 (nb - 1) ++ a.extract 0 na ++ (out.push x).reverse), na, nb - 1, out.push x, mg, ac, bc))
  else do
    let y ← elem' a (na - 1)
    let r ← gallop' true y b 0 (nb - 1) (nb - 1 - 1)
    match r with
    | some j =>
      if nb - 1 - j > 0 then
        if (j == 1) = true then
          pure (ForInStep.done (some (b.extract 0 j ++ a.extract 0 na ++ (out.push x ++ (b.extract j (nb - 1)).reverse).reverse), na, j, out.push x ++ (b.extract j (nb - 1)).reverse, mg, ac, nb - 1 - j))
        else
          if (j == 0) = true then
            pure (ForInStep.done (some (a.extract 0 na ++ b.extract 0 j ++ (out.push x ++ (b.extract j (nb - 1)).reverse).reverse), na, j, out.push x ++ (b.extract j (nb - 1)).reverse, mg, ac, nb - 1 - j))
          else hiC2 a b na j (out.push x ++ (b.extract j (nb - 1)).reverse) mg ac (nb - 1 - j)
      else hiC2 a b na (nb - 1) (out.push x) mg ac (nb - 1 - j)
    | _ => pure (ForInStep.done (some (a.extract 0 na ++ b.extract 0 (nb - 1) ++ (out.push x).reverse), na, nb - 1, out.push x, mg, ac, bc))

def hiC0 (a b : Array Keyed) (na nb : Nat) (out : Array Keyed) (mg ac bc : Nat) : StateT SortSt Sem (ForInStep HLSt) := do
  setGal' mg
  let x ← elem' b (nb - 1)
  let r ← gallop' false x a 0 na (na - 1)
  match r with
  | some i =>
    if na - i > 0 then
      if (i == 0) = true then
        pure (ForInStep.done (some (a.extract 0 i ++ b.extract 0 nb ++ (out ++ (a.extract i na).reverse).reverse), i, nb, out ++ (a.extract i na).reverse, mg, na - i, bc))
      else hiC1 a b i nb (out ++ (a.extract i na).reverse) mg (na - i) bc
    else hiC1 a b na nb out mg (na - i) bc
  | _ => pure (ForInStep.done (some (a.extract 0 na ++ b.extract 0 nb ++ out.reverse), na, nb, out, mg, ac, bc))

def hiGal (a b : Array Keyed) (mg : Nat) (na nb : Nat) (out : Array Keyed) (ac bc : Nat) : StateT SortSt Sem HLSt :=
  forIn [:a.size + b.size] ((none, na, nb, out, mg, ac, bc) : HLSt) fun _ z =>
    if z.snd.snd.snd.snd.fst > 1 then hiC0 a b z.snd.fst z.snd.snd.fst z.snd.snd.snd.fst (z.snd.snd.snd.snd.fst - 1) z.snd.snd.snd.snd.snd.fst z.snd.snd.snd.snd.snd.snd
    else hiC0 a b z.snd.fst z.snd.snd.fst z.snd.snd.snd.fst z.snd.snd.snd.snd.fst z.snd.snd.snd.snd.snd.fst z.snd.snd.snd.snd.snd.snd

theorem mergeHiG_eq (a b : Array Keyed) : mergeHi' a b = (do
  liftM (rule "list.sort.merge-hi")
  let x ← elem' a (a.size - 1)
  if (a.size - 1 == 0) = true then pure (a.extract 0 (a.size - 1) ++ b.extract 0 b.size ++ #[x].reverse)
  else if (b.size == 1) = true then pure (b.extract 0 b.size ++ a.extract 0 (a.size - 1) ++ #[x].reverse)
  else do
    let st ← get
    let z ← forIn [:a.size + b.size] ((none, a.size - 1, b.size, #[x], gallopOf st) : HOSt) fun _ z => do
      let z1 ← hiInner a b z.snd.snd.snd.snd z.snd.fst z.snd.snd.fst z.snd.snd.snd.fst
      match z1.fst with
      | some r => pure (ForInStep.done (some r, z1.snd.fst, z1.snd.snd.fst, z1.snd.snd.snd.fst, z.snd.snd.snd.snd))
      | none => do
        liftM (rule "list.sort.gallop")
        let z2 ← hiGal a b (z.snd.snd.snd.snd + 1) z1.snd.fst z1.snd.snd.fst z1.snd.snd.snd.fst z1.snd.snd.snd.snd.fst z1.snd.snd.snd.snd.snd
        match z2.fst with
        | some r => pure (ForInStep.done (some r, z2.snd.fst, z2.snd.snd.fst, z2.snd.snd.snd.fst, z2.snd.snd.snd.snd.fst))
        | none => do
          setGal' (z2.snd.snd.snd.snd.fst + 1)
          pure (ForInStep.yield (none, z2.snd.fst, z2.snd.snd.fst, z2.snd.snd.snd.fst, z2.snd.snd.snd.snd.fst + 1))
    match z.fst with
    | some r => pure r
    | none => liftM (unsupported "internal:list.sort.merge-bound" : Sem (Array Keyed))) := by
  rw [mergeHi'_eq]
  dsimp only
  unfold hiGal hiC0 hiC1 hiC2 hiInner
  congr 1
  funext _u
  congr 1
  funext x
  refine ite_tail (ite_tail ?_)
  congr 1
  funext st
  congr 1
  · congr 1
    funext _i z
    obtain ⟨r, na, nb, out, mg⟩ := z
    dsimp only
    congr 1
    funext z1
    obtain ⟨r, na, nb, out, ac, bc⟩ := z1
    cases r with
    | some r => rfl
    | none =>
      dsimp only
      congr 1
      funext _v
      congr 1
      funext z2
      obtain ⟨r, na, nb, out, mg, ac, bc⟩ := z2
      cases r <;> rfl
  · funext z
    obtain ⟨r, na, nb, out, mg⟩ := z
    cases r <;> rfl

section lists
variable {α : Type} (rk : α → Int)

structure MHL (A B R : List α) (na nb : Nat) : Prop where
  ha : na ≤ A.length
  hb : nb ≤ B.length
  perm : R.Perm (A.drop na ++ B.drop nb)
  sorted : R.Pairwise fun p q => rk p ≤ rk q
  lea : ∀ p ∈ A.take na, ∀ q ∈ R, rk p ≤ rk q
  leb : ∀ p ∈ B.take nb, ∀ q ∈ R, rk p ≤ rk q

variable {rk}
theorem MHL.length {A B R : List α} {na nb : Nat} (h : MHL rk A B R na nb) : R.length + na + nb = A.length + B.length := by
  have := h.perm.length_eq
  have h1 := h.ha
  have h2 := h.hb
  simp only [List.length_append, List.length_drop] at this
  omega

theorem MHL.permDone {A B R : List α} {na nb : Nat} (h : MHL rk A B R na nb) : (A.take na ++ B.take nb ++ R).Perm (A ++ B) := by
  have e : (A ++ B) = (A.take na ++ A.drop na) ++ (B.take nb ++ B.drop nb) := by rw [List.take_append_drop, List.take_append_drop]
  rw [e]
  refine (h.perm.append_left _).trans ?_
  simp only [List.append_assoc]
  refine List.Perm.append_left _ ?_
  rw [← List.append_assoc, ← List.append_assoc]
  exact List.Perm.append_right _ List.perm_append_comm
theorem MHL.permFirst {A B R : List α} {na nb : Nat} (h : MHL rk A B R na nb) : (B.take nb ++ A.take na ++ R).Perm (A ++ B) :=
  List.Perm.trans (List.Perm.append_right _ List.perm_append_comm) h.permDone

theorem MHL.done {A B R : List α} {na nb : Nat} (h : MHL rk A B R na nb) (sa : A.Pairwise fun p q => rk p ≤ rk q) (sb : B.Pairwise fun p q => rk p ≤ rk q) (hx : na = 0 ∨ nb = 0) :
    Merged rk A B (A.take na ++ B.take nb ++ R) := by
  refine ⟨h.permDone, ?_⟩
  rcases hx with rfl | rfl
  · rw [List.take_zero, List.nil_append, List.pairwise_append]
    exact ⟨sb.sublist (List.take_sublist ..), h.sorted, h.leb⟩
  · rw [List.take_zero, List.append_nil, List.pairwise_append]
    exact ⟨sa.sublist (List.take_sublist ..), h.sorted, h.lea⟩

theorem MHL.first {A B R : List α} {na nb : Nat} (h : MHL rk A B R na nb) (sa : A.Pairwise fun p q => rk p ≤ rk q) (sb : B.Pairwise fun p q => rk p ≤ rk q) (hx : nb = 1)
    (hf : ∀ p, B[0]? = some p → ∀ q ∈ A, rk p ≤ rk q) : Merged rk A B (B.take nb ++ A.take na ++ R) := by
  refine ⟨h.permFirst, ?_⟩
  subst hx
  rw [List.pairwise_append, List.pairwise_append]
  refine ⟨⟨sb.sublist (List.take_sublist ..), sa.sublist (List.take_sublist ..), fun p hp q hq => ?_⟩, h.sorted, fun p hp q hq => ?_⟩
  · cases B with
    | nil => simp at hp
    | cons y B =>
      have : p = y := by simpa using hp
      subst this
      exact hf p rfl q (List.mem_of_mem_take hq)
  · rcases List.mem_append.mp hp with hp | hp
    · exact h.leb p hp q hq
    · exact h.lea p hp q hq

theorem take_cut (A : List α) {i j : Nat} (hij : i ≤ j) : A.take j = A.take i ++ (A.drop i).take (j - i) := take_split A hij

theorem MHL.addB {A B R : List α} {na nb j : Nat} (h : MHL rk A B R na nb) (sb : B.Pairwise fun p q => rk p ≤ rk q) (h1 : j ≤ nb)
    (hle : ∀ p ∈ A.take na, ∀ q ∈ (B.drop j).take (nb - j), rk p ≤ rk q) : MHL rk A B ((B.drop j).take (nb - j) ++ R) na j := by
  have hsp := take_split B h1
  have sd : (B.take nb).Pairwise fun p q => rk p ≤ rk q := sb.sublist (List.take_sublist ..)
  rw [hsp, List.pairwise_append] at sd
  have hb := h.hb
  refine ⟨h.ha, by omega, ?_, ?_, fun p hp q hq => ?_, fun p hp q hq => ?_⟩
  · refine List.Perm.trans ?_ (List.Perm.of_eq (congrArg (A.drop na ++ ·) (drop_split B h1).symm))
    refine (h.perm.append_left _).trans ?_
    show (_ ++ (A.drop na ++ B.drop nb)).Perm (A.drop na ++ (_ ++ B.drop nb))
    rw [← List.append_assoc, ← List.append_assoc]
    exact List.Perm.append_right _ List.perm_append_comm
  · rw [List.pairwise_append]
    exact ⟨sd.2.1, h.sorted, fun p hp q hq => h.leb p (by rw [hsp]; exact List.mem_append_right _ hp) q hq⟩
  · rcases List.mem_append.mp hq with hq | hq
    · exact hle p hp q hq
    · exact h.lea p hp q hq
  · rcases List.mem_append.mp hq with hq | hq
    · exact sd.2.2 p hp q hq
    · exact h.leb p (by rw [hsp]; exact List.mem_append_left _ hp) q hq

theorem MHL.addA {A B R : List α} {na nb j : Nat} (h : MHL rk A B R na nb) (sa : A.Pairwise fun p q => rk p ≤ rk q) (h1 : j ≤ na)
    (hle : ∀ p ∈ B.take nb, ∀ q ∈ (A.drop j).take (na - j), rk p ≤ rk q) : MHL rk A B ((A.drop j).take (na - j) ++ R) j nb := by
  have hsp := take_split A h1
  have sd : (A.take na).Pairwise fun p q => rk p ≤ rk q := sa.sublist (List.take_sublist ..)
  rw [hsp, List.pairwise_append] at sd
  have ha := h.ha
  refine ⟨by omega, h.hb, ?_, ?_, fun p hp q hq => ?_, fun p hp q hq => ?_⟩
  · refine List.Perm.trans ?_ (List.Perm.of_eq (congrArg (· ++ B.drop nb) (drop_split A h1).symm))
    show (_ ++ R).Perm ((_ ++ A.drop na) ++ B.drop nb)
    rw [List.append_assoc]
    exact h.perm.append_left _
  · rw [List.pairwise_append]
    exact ⟨sd.2.1, h.sorted, fun p hp q hq => h.lea p (by rw [hsp]; exact List.mem_append_right _ hp) q hq⟩
  · rcases List.mem_append.mp hq with hq | hq
    · exact sd.2.2 p hp q hq
    · exact h.lea p (by rw [hsp]; exact List.mem_append_left _ hp) q hq
  · rcases List.mem_append.mp hq with hq | hq
    · exact hle p hp q hq
    · exact h.leb p hp q hq

theorem mem_take_le {A : List α} (sa : A.Pairwise fun p q => rk p ≤ rk q) {i : Nat} {p q : α} (hp : A[i]? = some p) (hq : q ∈ A.take (i + 1)) : rk q ≤ rk p := by
  obtain ⟨hi, rfl⟩ := List.getElem?_eq_some_iff.mp hp
  obtain ⟨k, hk, rfl⟩ := List.mem_iff_getElem.mp hq
  rw [List.getElem_take]
  rw [List.length_take] at hk
  by_cases e : k = i
  · subst e; exact Int.le_refl _
  · exact List.pairwise_iff_getElem.mp sa k i (by omega) hi (by omega)

theorem MHL.pushB {A B R : List α} {na nb : Nat} {p : α} (h : MHL rk A B R na nb) (sb : B.Pairwise fun p q => rk p ≤ rk q) (hn : 0 < nb) (hp : B[nb - 1]? = some p)
    (hle : ∀ q ∈ A.take na, rk q ≤ rk p) : MHL rk A B (p :: R) na (nb - 1) := by
  have e : (B.drop (nb - 1)).take (nb - (nb - 1)) = [p] := by
    have := take1 hp
    rwa [show nb - 1 + 1 = nb by omega] at this
  have := h.addB sb (j := nb - 1) (by omega) (fun x hx q hq => by
    rw [e] at hq
    rw [List.mem_singleton.mp hq]
    exact hle x hx)
  rwa [e] at this
theorem MHL.pushA {A B R : List α} {na nb : Nat} {p : α} (h : MHL rk A B R na nb) (sa : A.Pairwise fun p q => rk p ≤ rk q) (hn : 0 < na) (hp : A[na - 1]? = some p)
    (hle : ∀ q ∈ B.take nb, rk q ≤ rk p) : MHL rk A B (p :: R) (na - 1) nb := by
  have e : (A.drop (na - 1)).take (na - (na - 1)) = [p] := by
    have := take1 hp
    rwa [show na - 1 + 1 = na by omega] at this
  have := h.addA sa (j := na - 1) (by omega) (fun x hx q hq => by
    rw [e] at hq
    rw [List.mem_singleton.mp hq]
    exact hle x hx)
  rwa [e] at this
end lists
end Mine
end

section -- SortG8
namespace Mine
open PySem PyProof.Rows

theorem toList_ext0 (b : Array Keyed) (j : Nat) : (b.extract 0 j).toList = b.toList.take j := by
  rw [toList_ext, List.drop_zero, Nat.sub_zero]

section
variable {rk : Keyed → Int} {prog : Program} {w : World} {A : Around} {E : Value → Shared → Prop} {s : Shared} {kd : SortKind} {a₀ a b : Array Keyed}

abbrev HW (rk : Keyed → Int) (a b : Array Keyed) (na nb : Nat) (out : Array Keyed) : Prop := MHL rk a.toList b.toList out.toList.reverse na nb

theorem HW.size {na nb : Nat} {out : Array Keyed} (W : HW rk a b na nb out) : out.size + na + nb = a.size + b.size := by
  have := W.length
  simpa using this

theorem MPre.doneH (M : MPre rk a₀ a b) {out : Array Keyed} {na nb : Nat} (W : HW rk a b na nb out) (hx : na = 0 ∨ nb = 0) :
    Merged rk a.toList b.toList (a.extract 0 na ++ b.extract 0 nb ++ out.reverse).toList := by
  rw [Array.toList_append, Array.toList_append, toList_ext0, toList_ext0, Array.toList_reverse]
  exact W.done M.sa M.sb hx
theorem MPre.firstH (M : MPre rk a₀ a b) {out : Array Keyed} {na nb : Nat} (W : HW rk a b na nb out) (hx : nb = 1) :
    Merged rk a.toList b.toList (b.extract 0 nb ++ a.extract 0 na ++ out.reverse).toList := by
  rw [Array.toList_append, Array.toList_append, toList_ext0, toList_ext0, Array.toList_reverse]
  refine W.first M.sa M.sb hx fun p hp q hq => M.first p ?_ q hq
  rwa [Array.getElem?_toList] at hp

def HiOk (rk : Keyed → Int) (a b : Array Keyed) (n : Nat) (r : Option (Array Keyed)) (na nb : Nat) (out : Array Keyed) : Prop := match r with
  | some r => Merged rk a.toList b.toList r.toList
  | none => HW rk a b na nb out ∧ 0 < na ∧ 1 < nb ∧ n ≤ out.size

theorem push_rev (out : Array Keyed) (x : Keyed) : (out.push x).toList.reverse = x :: out.toList.reverse := by
  rw [Array.toList_push, List.reverse_append]; rfl
theorem app_rev (out c : Array Keyed) : (out ++ c.reverse).toList.reverse = c.toList ++ out.toList.reverse := by
  rw [Array.toList_append, Array.toList_reverse, List.reverse_append, List.reverse_reverse]

theorem wpS_hiInner {st : SortSt} {mg na nb : Nat} {out : Array Keyed} {Q : HISt → SortSt → Prop} (H : Asks rk prog w A s kd a₀) (hk : kindOf st = kd) (M : MPre rk a₀ a b)
    (W : HW rk a b na nb out) (h1 : 0 < na) (h2 : 1 < nb)
    (h : ∀ r na' nb' out' ac bc, HiOk rk a b (out.size + 1) r na' nb' out' → Q (r, na', nb', out', ac, bc) st) : wpS (model prog w) A E s (hiInner a b mg na nb out) Q st := by
  unfold hiInner
  have ha := M.na
  refine wpS_forRange (I := fun x c st' => st' = st ∧ ∃ o i j ac bc, c = (none, i, j, o, ac, bc) ∧ HW rk a b i j o ∧ 0 < i ∧ 1 < j ∧ out.size + x ≤ o.size) ?step ?fin ⟨rfl, out, na, nb, 0, 0, rfl, W, h1, h2, Nat.le_refl _⟩
  case fin =>
    rintro c st' ⟨rfl, o, i, j, ac, bc, rfl, W', h1', h2', hz⟩
    exact h none i j o ac bc ⟨W', h1', h2', by omega⟩
  case step =>
    rintro x c st' _ hx ⟨rfl, o, i, j, ac, bc, rfl, W', h1', h2', hz⟩
    dsimp only
    have hia := W'.ha
    have hjb := W'.hb
    rw [Array.length_toList] at hia hjb
    refine wpS_bind (wpS_elemG (by omega) fun p hp => wpS_bind (wpS_elemG (by omega) fun q hq => wpS_bind (wpS_ltG H hk (M.mb p (at_mem hp)) (M.ma q (at_mem hq)) ?_)))
    by_cases hlt : rk p < rk q
    · simp only [hlt, decide_true, if_true]
      have W2 : HW rk a b (i - 1) j (o.push q) := by
        unfold HW
        rw [push_rev]
        refine W'.pushA M.sa h1' (at_toList hq) fun q' hq' => ?_
        have := mem_take_le M.sb (at_toList hp) (by rwa [show j - 1 + 1 = j by omega])
        exact Int.le_trans this (Int.le_of_lt hlt)
      have hz2 : (o.push q).size = o.size + 1 := Array.size_push ..
      refine wpS_bind (wpS_elemG (by omega) fun q' hq' => ?_)
      obtain rfl : q = q' := Option.some.inj (hq.symm.trans hq')
      by_cases he : i - 1 = 0
      · rw [if_pos (by simpa using he)]
        exact wpS_pure (h _ _ _ _ _ _ (M.doneH W2 (.inl he)))
      · rw [if_neg (by simpa using he)]
        split
        · exact wpS_pure (h _ _ _ _ _ _ ⟨W2, by omega, h2', by omega⟩)
        · exact wpS_pure ⟨rfl, _, _, _, _, _, rfl, W2, by omega, h2', by omega⟩
    · simp only [hlt, decide_false, Bool.false_eq_true, if_false]
      have W2 : HW rk a b i (j - 1) (o.push p) := by
        unfold HW
        rw [push_rev]
        refine W'.pushB M.sb (by omega) (at_toList hp) fun q' hq' => ?_
        have := mem_take_le M.sa (at_toList hq) (by rwa [show i - 1 + 1 = i by omega])
        exact Int.le_trans this (Int.not_lt.mp hlt)
      have hz2 : (o.push p).size = o.size + 1 := Array.size_push ..
      refine wpS_bind (wpS_elemG (by omega) fun p' hp' => ?_)
      obtain rfl : p = p' := Option.some.inj (hp.symm.trans hp')
      by_cases he : j - 1 = 1
      · rw [if_pos (by simpa using he)]
        exact wpS_pure (h _ _ _ _ _ _ (M.firstH W2 he))
      · rw [if_neg (by simpa using he)]
        split
        · exact wpS_pure (h _ _ _ _ _ _ ⟨W2, h1', by omega, by omega⟩)
        · exact wpS_pure ⟨rfl, _, _, _, _, _, rfl, W2, h1', by omega, by omega⟩

def StepOkH (rk : Keyed → Int) (a b : Array Keyed) (n : Nat) (z : ForInStep HLSt) : Prop := match z with
  | .done z => HiOk rk a b n z.1 z.2.1 z.2.2.1 z.2.2.2.1
  | .yield z => z.1 = none ∧ HiOk rk a b n z.1 z.2.1 z.2.2.1 z.2.2.2.1

theorem wpS_hiC2 {st : SortSt} {mg na nb ac bc n : Nat} {out : Array Keyed} {Q : ForInStep HLSt → SortSt → Prop} (M : MPre rk a₀ a b)
    (W : HW rk a b na nb out) (h1 : 0 < na) (h2 : 1 < nb) (hn : n ≤ out.size) (hle : ∀ p, a[na - 1]? = some p → ∀ q ∈ b.toList.take nb, rk q ≤ rk p)
    (h : ∀ z, StepOkH rk a b n z → Q z st) : wpS (model prog w) A E s (hiC2 a b na nb out mg ac bc) Q st := by
  unfold hiC2
  have hia := W.ha
  rw [Array.length_toList] at hia
  refine wpS_bind (wpS_elemG (by omega) fun p hp => ?_)
  have W2 : HW rk a b (na - 1) nb (out.push p) := by
    unfold HW
    rw [push_rev]
    exact W.pushA M.sa h1 (at_toList hp) (hle p hp)
  have hz2 : (out.push p).size = out.size + 1 := Array.size_push ..
  by_cases he : na - 1 = 0
  · rw [if_pos (by simpa using he)]
    exact wpS_pure (h _ (M.doneH W2 (.inl he)))
  · rw [if_neg (by simpa using he)]
    split
    · exact wpS_pure (h _ ⟨W2, by dsimp only; omega, h2, by dsimp only; omega⟩)
    · exact wpS_pure (h _ ⟨rfl, W2, by dsimp only; omega, h2, by dsimp only; omega⟩)

theorem wpS_hiC1 {st : SortSt} {mg na nb ac bc n : Nat} {out : Array Keyed} {Q : ForInStep HLSt → SortSt → Prop} (H : Asks rk prog w A s kd a₀) (hk : kindOf st = kd) (M : MPre rk a₀ a b)
    (W : HW rk a b na nb out) (h1 : 0 < na) (h2 : 1 < nb) (hn : n ≤ out.size) (hle : ∀ p, b[nb - 1]? = some p → ∀ q ∈ a.toList.take na, rk q ≤ rk p)
    (h : ∀ z, StepOkH rk a b n z → Q z st) : wpS (model prog w) A E s (hiC1 a b na nb out mg ac bc) Q st := by
  unfold hiC1
  have hia := W.ha
  have hjb := W.hb
  rw [Array.length_toList] at hia hjb
  refine wpS_bind (wpS_elemG (by omega) fun p hp => ?_)
  have W2 : HW rk a b na (nb - 1) (out.push p) := by
    unfold HW
    rw [push_rev]
    exact W.pushB M.sb (by omega) (at_toList hp) (hle p hp)
  have hz2 : (out.push p).size = out.size + 1 := Array.size_push ..
  by_cases he : nb - 1 = 1
  · rw [if_pos (by simpa using he)]
    exact wpS_pure (h _ (M.firstH W2 he))
  · rw [if_neg (by simpa using he)]
    refine wpS_bind (wpS_elemG (by omega) fun q hq => ?_)
    refine wpS_bind (wpS_gallop H hk (M.ma q (at_mem hq)) M.mb (by omega) (by omega) (fun i j hij hj hb => ?_) fun k hkn hlo hhi => ?_)
    · rw [gb_true, decide_eq_true_eq] at hb ⊢
      exact Int.lt_of_le_of_lt (KG_mono M.sb (by omega) (by omega)) hb
    · have hi : ∀ q' ∈ b.toList.take k, rk q' ≤ rk q := fun q' hq' => by
        obtain ⟨j, hj1, hj2, hj3, e⟩ := mem_take_at (i := 0) (by rwa [List.drop_zero])
        have := hlo j (by omega)
        rw [gb_true, decide_eq_true_eq, Nat.zero_add, KG_some e] at this
        exact Int.le_of_lt this
      have hle2 : ∀ p', a[na - 1]? = some p' → ∀ q' ∈ b.toList.take k, rk q' ≤ rk p' := fun p' hp' q' hq' => by
        obtain rfl : q = p' := Option.some.inj (hq.symm.trans hp')
        exact hi q' hq'
      dsimp only
      by_cases hk0 : nb - 1 - k > 0
      · rw [if_pos hk0]
        have W3 : HW rk a b na k (out.push p ++ (b.extract k (nb - 1)).reverse) := by
          unfold HW
          rw [app_rev, toList_ext]
          refine W2.addB M.sb (by omega) fun x hx y hy => ?_
          obtain ⟨j, hj1, hj2, hj3, e⟩ := mem_take_at hy
          have := hhi j hj1 (by omega)
          rw [gb_true, decide_eq_false_iff_not, Nat.zero_add, KG_some e] at this
          exact Int.le_trans (mem_take_le M.sa (at_toList hq) (by rwa [show na - 1 + 1 = na by omega])) (Int.not_lt.mp this)
        have hz3 : (out.push p ++ (b.extract k (nb - 1)).reverse).size ≥ out.size := by rw [Array.size_append]; omega
        by_cases he1 : k = 1
        · rw [if_pos (by simpa using he1)]
          exact wpS_pure (h _ (M.firstH W3 he1))
        · rw [if_neg (by simpa using he1)]
          by_cases he0 : k = 0
          · rw [if_pos (by simpa using he0)]
            exact wpS_pure (h _ (M.doneH W3 (.inr he0)))
          · rw [if_neg (by simpa using he0)]
            exact wpS_hiC2 M W3 h1 (by omega) (by omega) hle2 h
      · rw [if_neg hk0]
        have : k = nb - 1 := by omega
        subst this
        exact wpS_hiC2 M W2 h1 (by omega) (by omega) hle2 h

theorem wpS_hiC0 {st : SortSt} {mg na nb ac bc n : Nat} {out : Array Keyed} {Q : ForInStep HLSt → SortSt → Prop} (H : Asks rk prog w A s kd a₀) (hk : kindOf st = kd) (M : MPre rk a₀ a b)
    (W : HW rk a b na nb out) (h1 : 0 < na) (h2 : 1 < nb) (hn : n ≤ out.size)
    (h : ∀ z st', HS st st' → StepOkH rk a b n z → Q z st') : wpS (model prog w) A E s (hiC0 a b na nb out mg ac bc) Q st := by
  unfold hiC0
  have hia := W.ha
  have hjb := W.hb
  rw [Array.length_toList] at hia hjb
  refine wpS_bind (wpS_setGal fun st' hst => ?_)
  have hk' : kindOf st' = kd := hst.1.trans hk
  refine wpS_bind (wpS_elemG (by omega) fun p hp => ?_)
  refine wpS_bind (wpS_gallop H hk' (M.mb p (at_mem hp)) M.ma (by omega) (by omega) (fun i j hij hj hb => ?_) fun k hkn hlo hhi => ?_)
  · rw [gb_false, Bool.not_eq_true', decide_eq_false_iff_not] at hb ⊢
    have := KG_mono (rk := rk) M.sa (i := 0 + i) (j := 0 + j) (by omega) (by omega)
    omega
  · have hle : ∀ p', b[nb - 1]? = some p' → ∀ q ∈ a.toList.take k, rk q ≤ rk p' := fun p' hp' q' hq' => by
      obtain rfl : p = p' := Option.some.inj (hp.symm.trans hp')
      obtain ⟨j, hj1, hj2, hj3, e⟩ := mem_take_at (i := 0) (by rwa [List.drop_zero])
      have := hlo j (by omega)
      rw [gb_false, Bool.not_eq_true', decide_eq_false_iff_not, Nat.zero_add, KG_some e] at this
      exact Int.not_lt.mp this
    dsimp only
    by_cases hk0 : na - k > 0
    · rw [if_pos hk0]
      have W3 : HW rk a b k nb (out ++ (a.extract k na).reverse) := by
        unfold HW
        rw [app_rev, toList_ext]
        refine W.addA M.sa (by omega) fun x hx y hy => ?_
        obtain ⟨j, hj1, hj2, hj3, e⟩ := mem_take_at hy
        have := hhi j hj1 (by omega)
        rw [gb_false, Bool.not_eq_false', decide_eq_true_eq, Nat.zero_add, KG_some e] at this
        exact Int.le_trans (mem_take_le M.sb (at_toList hp) (by rwa [show nb - 1 + 1 = nb by omega])) (Int.le_of_lt this)
      have hz3 : (out ++ (a.extract k na).reverse).size ≥ out.size := by rw [Array.size_append]; omega
      by_cases he0 : k = 0
      · rw [if_pos (by simpa using he0)]
        exact wpS_pure (h _ _ hst (M.doneH W3 (.inl he0)))
      · rw [if_neg (by simpa using he0)]
        exact wpS_hiC1 H hk' M W3 (by omega) h2 (by omega) hle fun z hz => h z _ hst hz
    · rw [if_neg hk0]
      have : k = na := by omega
      subst this
      exact wpS_hiC1 H hk' M W h1 h2 hn hle fun z hz => h z _ hst hz

theorem wpS_hiGal {st : SortSt} {mg na nb ac bc : Nat} {out : Array Keyed} {Q : HLSt → SortSt → Prop} (H : Asks rk prog w A s kd a₀) (hk : kindOf st = kd) (M : MPre rk a₀ a b)
    (W : HW rk a b na nb out) (h1 : 0 < na) (h2 : 1 < nb)
    (h : ∀ r i j o mg ac bc st', HS st st' → HiOk rk a b out.size r i j o → Q (r, i, j, o, mg, ac, bc) st') : wpS (model prog w) A E s (hiGal a b mg na nb out ac bc) Q st := by
  unfold hiGal
  refine wpS_forRange (I := fun x (c : HLSt) st' => HS st st' ∧ c.1 = none ∧ HiOk rk a b out.size c.1 c.2.1 c.2.2.1 c.2.2.2.1) ?step ?fin ⟨HS.rfl', rfl, W, h1, h2, Nat.le_refl _⟩
  case fin =>
    rintro ⟨r, i, j, o, mg, ac, bc⟩ st' ⟨hst, hr, hc⟩
    exact h _ _ _ _ _ _ _ _ hst hc
  case step =>
    rintro x ⟨r, i, j, o, mg, ac, bc⟩ st' _ hx ⟨hst, hr, hc⟩
    dsimp only at hr hc ⊢
    subst hr
    obtain ⟨W', h1', h2', hz⟩ := hc
    split <;> exact wpS_hiC0 H (hst.1.trans hk) M W' h1' h2' hz fun z st'' hst' hz' => by
        cases z with
        | done z => obtain ⟨r, i, j, o, mg, ac, bc⟩ := z; exact h _ _ _ _ _ _ _ _ (hst.trans hst') hz'
        | yield z => exact ⟨hst.trans hst', hz'⟩

theorem wpS_mergeHi {st : SortSt} {Q : Array Keyed → SortSt → Prop} (H : Asks rk prog w A s kd a₀) (hk : kindOf st = kd) (M : MPre rk a₀ a b)
    (h : ∀ r st', HS st st' → Merged rk a.toList b.toList r.toList → Q r st') : wpS (model prog w) A E s (mergeHi' a b) Q st := by
  rw [mergeHiG_eq]
  have na := M.na
  have nb := M.nb
  refine wpS_bind (wpS_lift (wpAny_rule ⟨rfl, ?_⟩))
  refine wpS_bind (wpS_elemG (by omega) fun p hp => ?_)
  have W : HW rk a b (a.size - 1) b.size #[p] := by
    have W0 : MHL rk a.toList b.toList [] a.size b.size := ⟨by simp, by simp, by simp, List.Pairwise.nil, (fun p _ q hq => by cases hq), (fun p _ q hq => by cases hq)⟩
    exact W0.pushA M.sa na (at_toList hp) fun q hq => M.last q (List.mem_of_mem_take hq) p hp
  by_cases he : a.size - 1 = 0
  · rw [if_pos (by simpa using he)]
    exact wpS_pure (h _ _ HS.rfl' (M.doneH W (.inl he)))
  · rw [if_neg (by simpa using he)]
    by_cases he2 : b.size = 1
    · rw [if_pos (by simpa using he2)]
      exact wpS_pure (h _ _ HS.rfl' (M.firstH W he2))
    · rw [if_neg (by simpa using he2)]
      refine wpS_bind (wpS_get ?_)
      refine wpS_bind (wpS_mono (wpS_forRange (I := fun x (c : HOSt) st' => HS st st' ∧ c.1 = none ∧ HiOk rk a b (x + 1) c.1 c.2.1 c.2.2.1 c.2.2.2.1)
        (Q := fun (c : HOSt) st' => HS st st' ∧ ∃ r, c.1 = some r ∧ Merged rk a.toList b.toList r.toList) ?step ?fin ⟨HS.rfl', rfl, W, by dsimp only; omega, by dsimp only; omega, Nat.le_refl _⟩) ?post)
      case post =>
        rintro ⟨r, i, j, o, mg⟩ st' ⟨hst, r', hr, hm⟩
        dsimp only at hr ⊢
        subst hr
        exact wpS_pure (h _ _ hst hm)
      case fin =>
        rintro ⟨r, i, j, o, mg⟩ st' ⟨hst, hr, hc⟩
        dsimp only at hr hc
        subst hr
        obtain ⟨W', h1', h2', hz⟩ := hc
        exfalso
        have := HW.size W'
        omega
      case step =>
        rintro x ⟨r, i, j, o, mg⟩ st' _ hx ⟨hst, hr, hc⟩
        dsimp only at hr hc ⊢
        subst hr
        obtain ⟨W', h1', h2', hz⟩ := hc
        refine wpS_bind (wpS_hiInner H (hst.1.trans hk) M W' h1' h2' fun r1 i1 j1 o1 ac bc hr1 => ?_)
        cases r1 with
        | some r1 => exact wpS_pure ⟨hst, r1, rfl, hr1⟩
        | none =>
          obtain ⟨W1, h11, h21, hz1⟩ := hr1
          dsimp only
          refine wpS_bind (wpS_lift (wpAny_rule ⟨rfl, ?_⟩))
          refine wpS_bind (wpS_hiGal H (hst.1.trans hk) M W1 h11 h21 fun r2 i2 j2 o2 mg2 ac2 bc2 st2 hst2 hr2 => ?_)
          cases r2 with
          | some r2 => exact wpS_pure ⟨hst.trans hst2, r2, rfl, hr2⟩
          | none =>
            obtain ⟨W2, h12, h22, hz2⟩ := hr2
            dsimp only
            refine wpS_bind (wpS_setGal fun st3 hst3 => wpS_pure ⟨(hst.trans hst2).trans hst3, rfl, W2, h12, h22, by dsimp only; omega⟩)
end
end Mine
end

section -- SortG9
namespace Mine
open PySem PyProof.Rows
theorem mergeAt'_eq (i : Nat) : mergeAt' i = (do
  let s ← get
  let (some (sa, na, power), some (sb, nb, _)) := ((pendingOf s)[i]?, (pendingOf s)[i + 1]?) | unsupported "internal:list.sort.pending"
  set (setPending s (((pendingOf s).setIfInBounds i (sa, na + nb, power)).eraseIdxIfInBounds (i + 1)))
  let some k ← gallop' false (← elem' (arrOf s) sb) (arrOf s) sa na 0 | return false
  let (sa, na) := (sa + k, na - k)
  if na == 0 then return true
  let some nb ← gallop' true (← elem' (arrOf s) (sa + na - 1)) (arrOf s) sb nb (nb - 1) | return false
  if nb == 0 then return true
  let x := (arrOf s).extract sa sb
  let y := (arrOf s).extract sb (sb + nb)
  let merged ← if na ≤ nb then mergeLo' x y else mergeHi' x y
  modify fun s => setArr s (merged.toList.zipIdx.foldl (fun a (p, j) => a.setIfInBounds (sa + j) p) (arrOf s))
  return (failedOf (← get)).isNone) := rfl

section
variable {rk : Keyed → Int}
theorem up_of_pairwise {xs : Array Keyed} (h : xs.toList.Pairwise fun p q => rk p ≤ rk q) : Up rk xs 0 xs.size := fun i j _ hij hj => KG_mono h hij hj
theorem pairwise_of_up {xs : Array Keyed} {lo hi : Nat} (h : Up rk xs lo hi) (hh : hi ≤ xs.size) : ((xs.toList.drop lo).take (hi - lo)).Pairwise fun p q => rk p ≤ rk q := by
  rw [List.pairwise_iff_getElem]
  intro i j hi' hj' hij
  rw [List.length_take, List.length_drop, Array.length_toList] at hi' hj'
  rw [List.getElem_take, List.getElem_take, List.getElem_drop, List.getElem_drop]
  have := h (lo + i) (lo + j) (by omega) (by omega) (by omega)
  rw [KG_some (getElem?_pos xs (lo + i) (by omega)), KG_some (getElem?_pos xs (lo + j) (by omega))] at this
  simpa using this

theorem writes_eq (sa : Nat) : ∀ (m : List Keyed) (k : Nat) (arr : Array Keyed), sa + k + m.length ≤ arr.size →
    ((m.zipIdx k).foldl (fun a x => a.setIfInBounds (sa + x.snd) x.fst) arr).toList = arr.toList.take (sa + k) ++ m ++ arr.toList.drop (sa + k + m.length)
  | [], k, arr, _ => by simp
  | x :: m, k, arr, h => by
    rw [List.length_cons] at h
    rw [List.zipIdx_cons, List.foldl_cons, writes_eq sa m (k + 1) (arr.setIfInBounds (sa + k) x) (by rw [Array.size_setIfInBounds]; omega)]
    rw [Array.toList_setIfInBounds, List.length_cons]
    rw [show sa + (k + 1) = sa + k + 1 by omega, show sa + k + 1 + m.length = sa + k + (m.length + 1) by omega]
    rw [List.drop_set_of_lt (by omega)]
    have hlt : sa + k < arr.toList.length := by rw [Array.length_toList]; omega
    have e : (arr.toList.set (sa + k) x).take (sa + k + 1) = arr.toList.take (sa + k) ++ [x] := by
      rw [List.take_add_one, List.take_set_of_le (Nat.le_refl _), List.getElem?_set_self hlt]; rfl
    rw [e]
    simp
end

section
variable {rk : Keyed → Int} {prog : Program} {w : World} {A : Around} {E : Value → Shared → Prop} {s : Shared} {kd : SortKind} {a₀ : Array Keyed}

theorem wpS_set {st st' : SortSt} {Q : PUnit → SortSt → Prop} (h : Q ⟨⟩ st') : wpS (model prog w) A E s (set st' : StateT SortSt Sem PUnit) Q st := by
  unfold wpS; rw [StateT.run_set]; exact wpAny_pure ⟨rfl, h⟩

theorem merge_whole {xs : Array Keyed} {n1 n k m : Nat} {r : Array Keyed} (hn1 : n1 ≤ n) (hk : k ≤ n1) (hm : n1 + m ≤ n) (hn : n = xs.size) (hu1 : Up rk xs 0 n1) (hu2 : Up rk xs n1 n)
    (hkl : ∀ i, i < k → KG rk xs i ≤ KG rk xs n1) (hmr : ∀ j, n1 + m ≤ j → j < n → KG rk xs (n1 - 1) ≤ KG rk xs j) (h1 : k < n1) (h2 : 0 < m)
    (hr : Merged rk (xs.extract k n1).toList (xs.extract n1 (n1 + m)).toList r.toList) :
    (r.toList.zipIdx.foldl (fun a x => a.setIfInBounds (k + x.snd) x.fst) xs).Perm xs ∧ Up rk (r.toList.zipIdx.foldl (fun a x => a.setIfInBounds (k + x.snd) x.fst) xs) 0 n := by
  have hlen : r.toList.length = n1 + m - k := by
    have := hr.1.length_eq
    simp only [List.length_append, toList_ext, List.length_take, List.length_drop, Array.length_toList] at this
    rw [Array.length_toList]
    omega
  have e := writes_eq k r.toList 0 xs (by omega)
  rw [Nat.add_zero, hlen, show k + (n1 + m - k) = n1 + m by omega] at e
  have hperm0 : (r.toList).Perm ((xs.toList.drop k).take (n1 + m - k)) := by
    refine hr.1.trans (List.Perm.of_eq ?_)
    rw [toList_ext, toList_ext]
    have := take_split (xs.toList.drop k) (i := n1 - k) (j := n1 + m - k) (by omega)
    rw [List.drop_drop, show k + (n1 - k) = n1 by omega, show n1 + m - k - (n1 - k) = m by omega] at this
    rw [this, show n1 + m - n1 = m by omega]
  have hP : (r.toList.zipIdx.foldl (fun a x => a.setIfInBounds (k + x.snd) x.fst) xs).Perm xs := by
    rw [Array.perm_iff_toList_perm, e]
    have e2 : xs.toList = xs.toList.take k ++ (xs.toList.drop k).take (n1 + m - k) ++ xs.toList.drop (n1 + m) := by
      have a1 := take_split xs.toList (i := k) (j := n1 + m) (by omega)
      rw [← a1, List.take_append_drop]
    refine List.Perm.trans ?_ (List.Perm.of_eq e2.symm)
    exact List.Perm.append_right _ (List.Perm.append_left _ hperm0)
  refine ⟨hP, ?_⟩
  have hsz : (r.toList.zipIdx.foldl (fun a x => a.setIfInBounds (k + x.snd) x.fst) xs).size = n := by rw [hP.size_eq, hn]
  have key : (r.toList.zipIdx.foldl (fun a x => a.setIfInBounds (k + x.snd) x.fst) xs).toList.Pairwise fun p q => rk p ≤ rk q := by
    rw [e, List.pairwise_append, List.pairwise_append]
    have hin : ∀ q ∈ r.toList, ∃ j, k ≤ j ∧ j < n1 + m ∧ j < xs.size ∧ xs[j]? = some q := fun q hq => by
      obtain ⟨j, a1, a2, a3, a4⟩ := mem_take_at (hperm0.mem_iff.mp hq)
      exact ⟨j, a1, by omega, a3, a4⟩
    have hpre : ∀ p ∈ xs.toList.take k, ∃ i, i < k ∧ xs[i]? = some p := fun p hp => by
      obtain ⟨i, _, a2, a3, a4⟩ := mem_take_at (i := 0) (by rwa [List.drop_zero])
      exact ⟨i, by omega, a4⟩
    have hle1 : ∀ i j, i < k → k ≤ j → j < n → KG rk xs i ≤ KG rk xs j := fun i j hi hkj hj => by
      by_cases hjn : j < n1
      · exact hu1 i j (Nat.zero_le _) (by omega) hjn
      · exact Int.le_trans (hkl i hi) (hu2 n1 j (Nat.le_refl _) (by omega) hj)
    have hle2 : ∀ i j, k ≤ i → i < n1 + m → n1 + m ≤ j → j < n → KG rk xs i ≤ KG rk xs j := fun i j hi hi2 hj hjn => by
      by_cases hin : i < n1
      · exact Int.le_trans (hu1 i (n1 - 1) (Nat.zero_le _) (by omega) (by omega)) (hmr j hj hjn)
      · exact hu2 i j (by omega) (by omega) hjn
    refine ⟨⟨?_, hr.2, fun p hp q hq => ?_⟩, ?_, fun p hp q hq => ?_⟩
    · have := pairwise_of_up (lo := 0) (hi := k) (fun i j a b c => hu1 i j a b (by omega)) (by omega)
      rwa [List.drop_zero, Nat.sub_zero] at this
    · obtain ⟨i, hi, e1⟩ := hpre p hp
      obtain ⟨j, b1, b2, b3, e2⟩ := hin q hq
      have := hle1 i j hi b1 (by omega)
      rwa [KG_some e1, KG_some e2] at this
    · have := pairwise_of_up (lo := n1 + m) (hi := n) (fun i j a b c => hu2 i j (by omega) b (by omega)) (by omega)
      rwa [List.take_of_length_le] at this
      rw [List.length_drop, Array.length_toList]; omega
    · obtain ⟨j, b1, b2, e2⟩ := mem_drop_at hq
      rcases List.mem_append.mp hp with hp | hp
      · obtain ⟨i, hi, e1⟩ := hpre p hp
        have := hle1 i j hi (by omega) (by omega)
        rwa [KG_some e1, KG_some e2] at this
      · obtain ⟨i, c1, c2, c3, e1⟩ := hin p hp
        have := hle2 i j c1 c2 b1 (by omega)
        rwa [KG_some e1, KG_some e2] at this
  have := up_of_pairwise key
  rwa [hsz] at this

theorem wpS_mergeAt {st : SortSt} {n1 n2 pw p2 : Nat} {Q : Bool → SortSt → Prop} (H : Asks rk prog w A s kd a₀) (hB : SB kd a₀ #[(0, n1, pw), (n1, n2, p2)] st) (hn : n1 + n2 = a₀.size) (h1 : 1 ≤ n1) (h2 : 1 ≤ n2)
    (hu1 : Up rk (arrOf st) 0 n1) (hu2 : Up rk (arrOf st) n1 (n1 + n2))
    (h : ∀ st', SB kd a₀ #[(0, n1 + n2, pw)] st' → Up rk (arrOf st') 0 (n1 + n2) → Q true st') : wpS (model prog w) A E s (mergeAt' 0) Q st := by
  have hsz := hB.size
  rw [mergeAt'_eq]
  refine wpS_bind (wpS_get ?_)
  rw [hB.pend]
  show wpS _ _ _ _ (do
    set (setPending st ((#[(0, n1, pw), (n1, n2, p2)].setIfInBounds 0 (0, n1 + n2, pw)).eraseIdxIfInBounds (0 + 1)))
    _) Q st
  have hP : ((#[(0, n1, pw), (n1, n2, p2)] : Array (Nat × Nat × Nat)).setIfInBounds 0 (0, n1 + n2, pw)).eraseIdxIfInBounds (0 + 1) = #[(0, n1 + n2, pw)] := by
    simp [Array.setIfInBounds, Array.eraseIdxIfInBounds]
  rw [hP]
  refine wpS_bind (wpS_set ?_)
  have hB1 : SB kd a₀ #[(0, n1 + n2, pw)] (setPending st #[(0, n1 + n2, pw)]) := ⟨hB.perm, hB.kind, hB.failed, rfl⟩
  generalize hst1 : setPending st #[(0, n1 + n2, pw)] = st1 at hB1
  have harr : arrOf st1 = arrOf st := by rw [← hst1]
  have mem : ∀ p ∈ (arrOf st).toList, p ∈ a₀.toList := fun p hp => (Array.perm_iff_toList_perm.mp hB.perm).mem_iff.mp hp
  refine wpS_bind (wpS_elemG (by omega) fun key hkey => ?_)
  refine wpS_bind (wpS_gallop H hB1.kind (mem _ (at_mem hkey)) mem (by omega) (by omega) (fun i j hij hj hb => ?_) fun k hkn hlo hhi => ?_)
  · rw [gb_false, Bool.not_eq_true', decide_eq_false_iff_not] at hb ⊢
    have := hu1 (0 + i) (0 + j) (by omega) (by omega) (by omega)
    omega
  · have hkl : ∀ i, i < k → KG rk (arrOf st) i ≤ KG rk (arrOf st) n1 := fun i hi => by
      have := hlo i hi
      rw [gb_false, Bool.not_eq_true', decide_eq_false_iff_not, Nat.zero_add] at this
      rw [KG_some hkey]; exact Int.not_lt.mp this
    have hkh : ∀ i, k ≤ i → i < n1 → KG rk (arrOf st) n1 < KG rk (arrOf st) i := fun i hi hin => by
      have := hhi i hi hin
      rw [gb_false, Bool.not_eq_false', decide_eq_true_eq, Nat.zero_add] at this
      rw [KG_some hkey]; exact this
    dsimp only
    by_cases he : n1 - k = 0
    · rw [if_pos (by simpa using he)]
      refine wpS_pure (h _ hB1 ?_)
      rw [harr]
      intro i j _ hij hj
      by_cases hjn : j < n1
      · exact hu1 i j (Nat.zero_le _) hij hjn
      · by_cases hin : i < n1
        · exact Int.le_trans (hkl i (by omega)) (hu2 n1 j (Nat.le_refl _) (by omega) hj)
        · exact hu2 i j (by omega) hij hj
    · rw [if_neg (by simpa using he)]
      refine wpS_bind (wpS_elemG (by omega) fun key2 hkey2 => ?_)
      rw [show 0 + k + (n1 - k) - 1 = n1 - 1 by omega] at hkey2
      refine wpS_bind (wpS_gallop H hB1.kind (mem _ (at_mem hkey2)) mem (by omega) (by omega) (fun i j hij hj hb => ?_) fun m hmn hlo2 hhi2 => ?_)
      · rw [gb_true, decide_eq_true_eq] at hb ⊢
        have := hu2 (n1 + i) (n1 + j) (by omega) (by omega) (by omega)
        omega
      · have hml : ∀ j, j < m → KG rk (arrOf st) (n1 + j) < KG rk (arrOf st) (n1 - 1) := fun j hj => by
          have := hlo2 j hj
          rw [gb_true, decide_eq_true_eq] at this
          rw [KG_some hkey2]; exact this
        have hmr : ∀ j, n1 + m ≤ j → j < n1 + n2 → KG rk (arrOf st) (n1 - 1) ≤ KG rk (arrOf st) j := fun j hj hjn => by
          have := hhi2 (j - n1) (by omega) (by omega)
          rw [gb_true, decide_eq_false_iff_not, show n1 + (j - n1) = j by omega] at this
          rw [KG_some hkey2]; exact Int.not_lt.mp this
        dsimp only
        by_cases hm0 : m = 0
        · rw [if_pos (by simpa using hm0)]
          refine wpS_pure (h _ hB1 ?_)
          rw [harr]
          intro i j _ hij hj
          by_cases hjn : j < n1
          · exact hu1 i j (Nat.zero_le _) hij hjn
          · by_cases hin : i < n1
            · exact Int.le_trans (hu1 i (n1 - 1) (Nat.zero_le _) (by omega) (by omega)) (hmr j (by omega) hj)
            · exact hu2 i j (by omega) hij hj
        · rw [if_neg (by simpa using hm0)]
          rw [show 0 + k = k by omega]
          have M : MPre rk a₀ ((arrOf st).extract k n1) ((arrOf st).extract n1 (n1 + m)) := by
            have z1 : ((arrOf st).extract k n1).size = n1 - k := by rw [Array.size_extract]; omega
            have z2 : ((arrOf st).extract n1 (n1 + m)).size = m := by rw [Array.size_extract]; omega
            refine ⟨fun p hp => ?_, fun p hp => ?_, ?_, ?_, by omega, by omega, fun p hp q hq => ?_, fun q hq p hp => ?_⟩
            · rw [toList_ext] at hp
              exact mem p (List.mem_of_mem_drop (List.mem_of_mem_take hp))
            · rw [toList_ext] at hp
              exact mem p (List.mem_of_mem_drop (List.mem_of_mem_take hp))
            · rw [toList_ext]
              exact pairwise_of_up (fun i j a b c => hu1 i j (Nat.zero_le _) b c) (by omega)
            · rw [toList_ext]
              exact pairwise_of_up (fun i j a b c => hu2 i j a b (by omega)) (by omega)
            · rw [Array.getElem?_extract] at hp
              have hp' : (arrOf st)[n1]? = some p := by
                split at hp
                · simpa using hp
                · cases hp
              rw [toList_ext] at hq
              obtain ⟨i, a1, a2, a3, e⟩ := mem_take_at hq
              have := hkh i a1 (by omega)
              rw [KG_some hp', KG_some e] at this
              exact Int.le_of_lt this
            · rw [z1, Array.getElem?_extract] at hp
              have hp' : (arrOf st)[n1 - 1]? = some p := by
                split at hp
                · rw [← hp]; congr 1; omega
                · cases hp
              rw [toList_ext] at hq
              obtain ⟨j, a1, a2, a3, e⟩ := mem_take_at hq
              have := hml (j - n1) (by omega)
              rw [show n1 + (j - n1) = j by omega, KG_some hp', KG_some e] at this
              exact Int.le_of_lt this
          have fin : ∀ (r : Array Keyed) (st2 : SortSt), HS st1 st2 → Merged rk ((arrOf st).extract k n1).toList ((arrOf st).extract n1 (n1 + m)).toList r.toList →
              wpS (model prog w) A E s (do
                modify fun s => setArr s (r.toList.zipIdx.foldl (fun a x => a.setIfInBounds (k + x.snd) x.fst) (arrOf s))
                let g ← get
                pure (failedOf g).isNone : StateT SortSt Sem Bool) Q st2 := fun r st2 hst2 hr => by
            obtain ⟨w1, w2⟩ := merge_whole (n := n1 + n2) (by omega) (by omega) (by omega) (by omega) hu1 hu2 hkl hmr (by omega) (by omega) hr
            refine wpS_bind (wpS_modify (wpS_bind (wpS_get (wpS_pure ?_))))
            have hf : failedOf st2 = none := hst2.2.2.2.trans hB1.failed
            show Q (failedOf st2).isNone (setArr st2 (r.toList.zipIdx.foldl (fun a x => a.setIfInBounds (k + x.snd) x.fst) (arrOf st2)))
            have ha2 : arrOf st2 = arrOf st := hst2.2.1.trans harr
            rw [hf, ha2]
            exact h _ ⟨w1.trans hB.perm, hst2.1.trans hB1.kind, hf, hst2.2.2.1.trans hB1.pend⟩ w2
          split
          · exact wpS_bind (wpS_mergeLo H hB1.kind M fun r st2 hst2 hr => fin r st2 hst2 hr)
          · exact wpS_bind (wpS_mergeHi H hB1.kind M fun r st2 hst2 hr => fin r st2 hst2 hr)
end
end Mine
end

section -- SortG10
namespace Mine
open PySem PyProof.Rows

theorem minRun_ok {n : Nat} (h2 : 2 ≤ n) (h : n < 128) : 1 ≤ minRun' n n 0 ∧ n ≤ 2 * minRun' n n 0 ∧ minRun' n n 0 ≤ n := by
  obtain ⟨f, hf⟩ : ∃ f, n = f + 2 := ⟨n - 2, by omega⟩
  have e : minRun' (f + 1 + 1) n 0 = if n < 64 then n + 0 else if n / 2 < 64 then n / 2 + max 0 (n % 2) else minRun' f (n / 2 / 2) (max (max 0 (n % 2)) (n / 2 % 2)) := by
    rw [minRun'_succ, minRun'_succ]
  rw [show f + 1 + 1 = n by omega] at e
  rw [e]
  split
  · omega
  · split <;> omega

section
variable {rk : Keyed → Int} {prog : Program} {w : World} {A : Around} {E : Value → Shared → Prop} {s : Shared} {kd : SortKind} {a₀ : Array Keyed}

def RunsNow (rk : Keyed → Int) (kd : SortKind) (a₀ : Array Keyed) (mr x lo : Nat) (st : SortSt) : Prop :=
  (x = 0 ∧ lo = 0 ∧ SB kd a₀ #[] st) ∨
  (∃ n1, lo = n1 ∧ 1 ≤ x ∧ (n1 = a₀.size ∨ x = 1) ∧ mr ≤ n1 ∧ 1 ≤ n1 ∧ n1 ≤ a₀.size ∧ SB kd a₀ #[(0, n1, 0)] st ∧ Up rk (arrOf st) 0 n1) ∨
  (∃ n1 n2 pw, lo = a₀.size ∧ 1 ≤ x ∧ 1 ≤ n1 ∧ 1 ≤ n2 ∧ n1 + n2 = a₀.size ∧ SB kd a₀ #[(0, n1, pw), (n1, n2, 0)] st ∧ Up rk (arrOf st) 0 n1 ∧ Up rk (arrOf st) n1 (n1 + n2))

theorem wpS_sortRunsG {st : SortSt} {Q : Unit → SortSt → Prop} (H : Asks rk prog w A s kd a₀) (hB : SB kd a₀ #[] st) (h2 : 2 ≤ a₀.size) (h128 : a₀.size < 128)
    (h : ∀ st', (arrOf st').Perm a₀ → failedOf st' = none → Up rk (arrOf st') 0 a₀.size → Q () st') : wpS (model prog w) A E s sortRuns' Q st := by
  obtain ⟨m1, m2, m3⟩ := minRun_ok h2 h128
  rw [sortRuns'_eq]
  refine wpS_bind (wpS_get ?_)
  dsimp only
  simp only [hB.size]
  generalize minRun' a₀.size a₀.size 0 = mr at m1 m2 m3 ⊢
  refine wpS_bind (wpS_mono (wpS_forRange (I := fun x (c : Option Unit × Nat) st' => c.1 = none ∧ RunsNow rk kd a₀ mr x c.2 st')
    (Q := fun (c : Option Unit × Nat) st' => c.1 = none ∧ ∃ x, 1 ≤ x ∧ c.2 = a₀.size ∧ RunsNow rk kd a₀ mr x c.2 st') ?step ?fin ⟨rfl, .inl ⟨rfl, rfl, hB⟩⟩) ?post)
  case fin =>
    rintro ⟨r, lo⟩ st' ⟨hr, hc⟩
    dsimp only at hr hc
    refine ⟨hr, max 0 a₀.size, by omega, ?_, hc⟩
    rcases hc with ⟨hx, _⟩ | ⟨n1, rfl, hx, ho, _⟩ | ⟨n1, n2, pw, hl, _⟩
    · omega
    · rcases ho with ho | ho
      · exact ho
      · omega
    · exact hl
  case step =>
    rintro x ⟨r, lo⟩ st' _ hx ⟨hr, hc⟩
    dsimp only at hr hc ⊢
    subst hr
    by_cases hlo : lo ≥ a₀.size
    · rw [if_pos hlo]
      have he : lo = a₀.size ∧ 1 ≤ x := by
        rcases hc with ⟨_, h0, _⟩ | ⟨n1, rfl, hx1, _, _, _, hn, _⟩ | ⟨n1, n2, pw, hl, hx1, _⟩
        · omega
        · exact ⟨by omega, hx1⟩
        · exact ⟨hl, hx1⟩
      exact wpS_pure ⟨rfl, x, he.2, he.1, hc⟩
    · rw [if_neg hlo]
      -- what is left to do once the run's length n is found
      rcases hc with ⟨rfl, rfl, hB'⟩ | ⟨n1, rfl, hx1, ho, hmr, hn0, hn1, hB', hu⟩ | ⟨n1, n2, pw, hl, _⟩
      · -- the first run
        have fin : ∀ n st2, mr ≤ n → n ≤ a₀.size → SB kd a₀ #[] st2 → Up rk (arrOf st2) 0 (0 + n) →
            RunsNow rk kd a₀ mr (0 + 1) (0 + n) (setPending st2 ((pendingOf st2).push (0, n, 0))) := fun n st2 a b c d => by
          refine .inr (.inl ⟨n, by omega, by omega, .inr (by omega), a, by omega, b, ⟨c.perm, c.kind, c.failed, ?_⟩, ?_⟩)
          · show (pendingOf st2).push (0, n, 0) = _
            rw [c.pend]; rfl
          · rwa [Nat.zero_add] at d
        refine wpS_bind (wpS_countRunG H (by omega) (by omega) hB' fun m st2 hB2 _ hm1 hm2 hu2 => ?_)
        dsimp only
        by_cases hlt : m < mr
        · rw [if_pos hlt]
          refine wpS_bind (wpS_lift (wpAny_rule ⟨rfl, ?_⟩))
          refine wpS_bind (wpS_binarySortG H (by omega) (by omega) hB2 hu2 fun st3 hB3 _ hu3 => ?_)
          simp only [Bool.not_true, Bool.false_eq_true, if_false]
          refine wpS_bind (wpS_get ?_)
          have hb : (pendingOf st3).back? = none := by rw [hB3.pend]; rfl
          rw [hb]
          exact wpS_bind (wpS_modify (wpS_pure ⟨rfl, fin _ st3 (by omega) (by omega) hB3 hu3⟩))
        · rw [if_neg hlt]
          refine wpS_bind (wpS_get ?_)
          have hb : (pendingOf st2).back? = none := by rw [hB2.pend]; rfl
          rw [hb]
          exact wpS_bind (wpS_modify (wpS_pure ⟨rfl, fin _ st2 (by omega) (by omega) hB2 hu2⟩))
      · -- the second run
        have hx' : x = 1 := by omega
        subst hx'
        have keepU : ∀ st2 : SortSt, SameB lo (arrOf st') (arrOf st2) → Up rk (arrOf st2) 0 lo := fun st2 hs i j a b c => by
          rw [KG_congr (hs i (by omega)), KG_congr (hs j c)]
          exact hu i j a b c
        have tail : ∀ n st2 (f : Nat × Nat × Nat → Nat × Nat × Nat), n = a₀.size - lo → SB kd a₀ #[(0, lo, 0)] st2 → Up rk (arrOf st2) 0 lo → Up rk (arrOf st2) lo (lo + n) →
            (∀ p, (f p).1 = p.1 ∧ (f p).2.1 = p.2.1) →
            RunsNow rk kd a₀ mr (1 + 1) (lo + n) (setPending (setPending st2 ((pendingOf st2).modify ((pendingOf st2).size - 1) f)) (((pendingOf st2).modify ((pendingOf st2).size - 1) f).push (lo, n, 0))) := fun n st2 f hn c d e hf => by
          refine .inr (.inr ⟨lo, n, (f (0, lo, 0)).2.2, by omega, by omega, hn0, by omega, by omega, ⟨c.perm, c.kind, c.failed, ?_⟩, d, e⟩)
          show ((pendingOf st2).modify ((pendingOf st2).size - 1) f).push (lo, n, 0) = _
          rw [c.pend]
          have e1 : (#[(0, lo, 0)] : Array (Nat × Nat × Nat)).modify ((#[(0, lo, 0)] : Array (Nat × Nat × Nat)).size - 1) f = #[f (0, lo, 0)] := by
            simp [Array.modify, Array.modifyM]
          rw [e1]
          have e2 := hf (0, lo, 0)
          have e3 : f (0, lo, 0) = (0, lo, (f (0, lo, 0)).2.2) := Prod.ext e2.1 (Prod.ext e2.2 rfl)
          rw [e3]; rfl
        refine wpS_bind (wpS_countRunG H (by omega) (by omega) hB' fun m st2 hB2 hs2 hm1 hm2 hu2 => ?_)
        dsimp only
        by_cases hlt : m < mr
        · rw [if_pos hlt]
          refine wpS_bind (wpS_lift (wpAny_rule ⟨rfl, ?_⟩))
          refine wpS_bind (wpS_binarySortG H (by omega) (by omega) hB2 hu2 fun st3 hB3 hs3 hu3 => ?_)
          simp only [Bool.not_true, Bool.false_eq_true, if_false]
          refine wpS_bind (wpS_get ?_)
          have hb : (pendingOf st3).back? = some (0, lo, 0) := by rw [hB3.pend]; rfl
          rw [hb]
          dsimp only
          refine wpS_bind (wpS_mono (wpS_forRange (I := fun _ c st'' => st'' = st3 ∧ c = (none, ())) (Q := fun c st'' => st'' = st3 ∧ c = (none, ())) ?_ (fun _ _ hh => hh) ⟨rfl, rfl⟩) ?_)
          · rintro y c st'' _ _ ⟨rfl, rfl⟩
            refine wpS_bind (wpS_get ?_)
            have hp : (if (pendingOf st'').size > 1 then (pendingOf st'')[(pendingOf st'').size - 2]? else none) = none := by rw [hB3.pend]; rfl
            rw [hp]
            exact wpS_pure ⟨rfl, rfl⟩
          · rintro c st'' ⟨rfl, rfl⟩
            dsimp only
            exact wpS_bind (wpS_modify (wpS_bind (wpS_modify (wpS_pure ⟨rfl, tail _ st'' _ (by omega) hB3 (keepU _ (hs2.trans hs3)) hu3 fun p => ⟨rfl, rfl⟩⟩))))
        · rw [if_neg hlt]
          refine wpS_bind (wpS_get ?_)
          have hb : (pendingOf st2).back? = some (0, lo, 0) := by rw [hB2.pend]; rfl
          rw [hb]
          dsimp only
          refine wpS_bind (wpS_mono (wpS_forRange (I := fun _ c st'' => st'' = st2 ∧ c = (none, ())) (Q := fun c st'' => st'' = st2 ∧ c = (none, ())) ?_ (fun _ _ hh => hh) ⟨rfl, rfl⟩) ?_)
          · rintro y c st'' _ _ ⟨rfl, rfl⟩
            refine wpS_bind (wpS_get ?_)
            have hp : (if (pendingOf st'').size > 1 then (pendingOf st'')[(pendingOf st'').size - 2]? else none) = none := by rw [hB2.pend]; rfl
            rw [hp]
            exact wpS_pure ⟨rfl, rfl⟩
          · rintro c st'' ⟨rfl, rfl⟩
            dsimp only
            exact wpS_bind (wpS_modify (wpS_bind (wpS_modify (wpS_pure ⟨rfl, tail _ st'' _ (by omega) hB2 (keepU _ hs2) hu2 fun p => ⟨rfl, rfl⟩⟩))))
      · exact absurd hl (by omega)
  case post =>
    rintro ⟨r, lo⟩ st' ⟨hr, x, hx1, hlo, hc⟩
    dsimp only at hr hlo hc ⊢
    subst hr
    dsimp only
    refine wpS_bind (wpS_mono (wpS_forRange (I := fun y (c : Option Unit × Unit) st'' => c = (none, ()) ∧ ((∃ pd, pd.size = 1 ∧ SB kd a₀ pd st'' ∧ Up rk (arrOf st'') 0 a₀.size) ∨
        (y = 0 ∧ ∃ n1 n2 pw, 1 ≤ n1 ∧ 1 ≤ n2 ∧ n1 + n2 = a₀.size ∧ SB kd a₀ #[(0, n1, pw), (n1, n2, 0)] st'' ∧ Up rk (arrOf st'') 0 n1 ∧ Up rk (arrOf st'') n1 (n1 + n2))))
      (Q := fun (c : Option Unit × Unit) st'' => c = (none, ()) ∧ ∃ pd, SB kd a₀ pd st'' ∧ Up rk (arrOf st'') 0 a₀.size) ?step2 ?fin2 ⟨rfl, ?init2⟩) ?post2)
    case init2 =>
      rcases hc with ⟨h0, _⟩ | ⟨n1, rfl, _, _, _, _, _, hB', hu⟩ | ⟨n1, n2, pw, _, _, a, b, c, hB', hu1, hu2⟩
      · omega
      · exact .inl ⟨_, rfl, hB', by rwa [hlo] at hu⟩
      · exact .inr ⟨rfl, n1, n2, pw, a, b, c, hB', hu1, hu2⟩
    case fin2 =>
      rintro c st'' ⟨rfl, hc⟩
      rcases hc with ⟨pd, _, a, b⟩ | ⟨h0, _⟩
      · exact ⟨rfl, pd, a, b⟩
      · omega
    case post2 =>
      rintro c st'' ⟨rfl, pd, hB', hu⟩
      exact wpS_pure (h _ hB'.perm hB'.failed hu)
    case step2 =>
      rintro y c st'' _ hy ⟨rfl, hc⟩
      refine wpS_bind (wpS_get ?_)
      rcases hc with ⟨pd, hpd, a, b⟩ | ⟨rfl, n1, n2, pw, a, b, c, hB', hu1, hu2⟩
      · rw [if_pos (by rw [a.pend, hpd]; exact Nat.le_refl 1)]
        exact wpS_pure ⟨rfl, pd, a, b⟩
      · rw [if_neg (by rw [hB'.pend]; simp)]
        simp only [hB'.pend]
        show wpS _ _ _ _ (mergeAt' 0 >>= _) _ _
        refine wpS_bind (wpS_mergeAt H hB' c a b hu1 hu2 fun st3 hB3 hu3 => ?_)
        simp only [Bool.not_true, Bool.false_eq_true, if_false]
        exact wpS_pure ⟨rfl, .inl ⟨_, rfl, hB3, by rwa [c] at hu3⟩⟩
end
end Mine
end

section -- LtG
namespace Mine
open PySem PyProof.Rows
open AutoSeq1 (wpAny_loadPart')
open MeetsSeq3 (plain_eq_loop entry_eq_loop)

abbrev lob (vs : List Value) (n : Nat) : Obj := { cls := .type "list", dict := none, data := .seq vs.toArray n, slots := #[] }

def IL (h : Heap) (a : Addr) (ns : List Int) : Prop := ∃ vs n, h.get? a = some (lob vs n) ∧ IntsAre vs ns

def lexLt : List Int → List Int → Bool
  | [], [] => false
  | [], _ :: _ => true
  | _ :: _, [] => false
  | a :: r, b :: t => if a = b then lexLt r t else decide (a < b)

theorem ia_get : ∀ {vs : List Value} {ns : List Int}, IntsAre vs ns → ∀ {i : Nat} {a : Int}, ns[i]? = some a → ∃ t, vs[i]? = some (.int a t)
  | _, _, .nil, i, a, h => by simp at h
  | _, _, .cons n t r, 0, a, h => by
    have : n = a := by simpa using h
    subst this; exact ⟨t, rfl⟩
  | _, _, .cons n t r, i + 1, a, h => by
    obtain ⟨u, hu⟩ := ia_get r (i := i) (a := a) (by simpa using h)
    exact ⟨u, by simpa using hu⟩
theorem ia_len {vs : List Value} {ns : List Int} (h : IntsAre vs ns) : vs.length = ns.length := by
  induction h with
  | nil => rfl
  | cons n t r ih => simp [ih]

theorem lt_loop (l b : Addr) (vs us : List Value) (n n2 : Nat) (ns ms : List Int) (hv : IntsAre vs ns) (hu : IntsAre us ms) (k : Nat) :
    ∀ i : Nat, ns.length - i = k → i ≤ ns.length → i ≤ ms.length → Meets (Builtin.«list.__eq__.loop» ⟨[.ref l, .ref b, rawInt i, rawInt 0], []⟩)
      (fun _ R s => s.heap.get? l = some (lob vs n) ∧ s.heap.get? b = some (lob us n2) ∧ R (.ok (.ret (.bool (lexLt (ns.drop i) (ms.drop i))))) s) := by
  have ev := ia_len hv
  have eu := ia_len hu
  induction k with
  | zero =>
    intro i hk h1 h2 prog w A R s h
    obtain ⟨hp, g, d, tk, os⟩ := s; obtain ⟨hl, hb, h⟩ := h
    wp_walk using wpAny_loadPart' hl, wpAny_loadPart' hb
    have hi1 : vs.toArray[((i : Nat) : Int).toNat]? = none := by simp; omega
    rw [hi1]
    wp_walk using wpAny_loadPart' hl, wpAny_loadPart' hb
    show R (.ok (.ret (.bool (decide (vs.toArray.size < us.toArray.size))))) _
    have hd : ns.drop i = [] := by rw [List.drop_eq_nil_iff]; omega
    rw [hd] at h
    have e : lexLt [] (ms.drop i) = decide (vs.toArray.size < us.toArray.size) := by
      cases hm : ms.drop i with
      | nil =>
        have := List.drop_eq_nil_iff.mp hm
        simp [lexLt]; omega
      | cons x r =>
        have : ¬ ms.length ≤ i := fun hle => by rw [List.drop_eq_nil_iff.mpr hle] at hm; cases hm
        simp [lexLt]; omega
    rw [e] at h
    exact h
  | succ k ih =>
    intro i hk h1 h2 prog w A R s h
    obtain ⟨hp, g, d, tk, os⟩ := s; obtain ⟨hl, hb, h⟩ := h
    wp_walk using wpAny_loadPart' hl, wpAny_loadPart' hb
    have hlt : i < ns.length := by omega
    obtain ⟨t1, e1⟩ := ia_get hv (List.getElem?_eq_getElem hlt)
    have hi1 : vs.toArray[((i : Nat) : Int).toNat]? = some (.int ns[i] t1) := by simpa using e1
    have hd : ns.drop i = ns[i] :: ns.drop (i + 1) := List.drop_eq_getElem_cons hlt
    have hc : ((i : Int) + 1) = ((i + 1 : Nat) : Int) := by push_cast; rfl
    by_cases hlt2 : i < ms.length
    · obtain ⟨t2, e2⟩ := ia_get hu (List.getElem?_eq_getElem hlt2)
      have hi2 : us.toArray[((i : Nat) : Int).toNat]? = some (.int ms[i] t2) := by simpa using e2
      have hd2 : ms.drop i = ms[i] :: ms.drop (i + 1) := List.drop_eq_getElem_cons hlt2
      rw [hd, hd2, lexLt] at h
      rw [hi1, hi2]
      refine wpAny_bind (wpAny_eqBool_int ?_)
      by_cases heq : ns[i] = ms[i]
      · rw [if_pos heq] at h
        rw [show (ns[i] == ms[i]) = true by simpa using heq]
        wp_walk
        rw [hc]
        exact ⟨plainId_quiet plain_eq_loop _, codeAny_builtin entry_eq_loop (by
          rw [Around.under_plainId plain_eq_loop _]
          exact ih (i + 1) (by omega) (by omega) (by omega) prog w A R _ ⟨hl, hb, h⟩)⟩
      · rw [if_neg heq] at h
        rw [show (ns[i] == ms[i]) = false by simpa using heq]
        wp_walk using wpAny_loadPart' hl, wpAny_loadPart' hb
        rw [hi1, hi2]
        refine wpAny_bind (wpAny_lt_int ?_)
        wp_walk
        exact h
    · have hi2 : us.toArray[((i : Nat) : Int).toNat]? = none := by simp; omega
      have hd2 : ms.drop i = [] := by rw [List.drop_eq_nil_iff]; omega
      rw [hd, hd2, lexLt] at h
      rw [hi1, hi2]
      wp_walk using wpAny_loadPart' hl, wpAny_loadPart' hb
      show R (.ok (.ret (.bool (decide (vs.toArray.size < us.toArray.size))))) _
      have e : false = decide (vs.toArray.size < us.toArray.size) := by
        simp; omega
      rw [← e]
      exact h

theorem list_lt (l b : Addr) (vs us : List Value) (n n2 : Nat) (ns ms : List Int) (hv : IntsAre vs ns) (hu : IntsAre us ms) : Meets (Builtin.«list.__lt__» ⟨[.ref l, .ref b], []⟩)
      (fun _ R s => s.heap.get? l = some (lob vs n) ∧ s.heap.get? b = some (lob us n2) ∧ R (.ok (.ret (.bool (lexLt ns ms)))) s) := by
  intro prog w A R s h
  obtain ⟨hp, g, d, tk, os⟩ := s; obtain ⟨hl, hb, h⟩ := h
  have f3 := AutoSeq1.sub_list_list
  wp_walk using wpAny_loadPart' hl, wpAny_loadPart' hb
  exact ⟨plainId_quiet plain_eq_loop _, codeAny_builtin entry_eq_loop (by
    rw [Around.under_plainId plain_eq_loop _]
    exact lt_loop l b vs us n n2 ns ms hv hu _ 0 rfl (Nat.zero_le _) (Nat.zero_le _) prog w A R _ ⟨hl, hb, by simpa using h⟩)⟩
end Mine
end

section -- SortL
namespace Mine
open PySem PyProof.Rows PySem.W

/-! the order of lists of ints -/
theorem lexLt_irrefl : ∀ a : List Int, lexLt a a = false
  | [] => rfl
  | a :: r => by rw [lexLt, if_pos rfl]; exact lexLt_irrefl r
theorem lexLt_trans : ∀ {a b c : List Int}, lexLt a b = true → lexLt b c = true → lexLt a c = true
  | [], [], _, h, _ => by simp [lexLt] at h
  | [], _ :: _, [], _, h => by simp [lexLt] at h
  | [], _ :: _, _ :: _, _, _ => rfl
  | _ :: _, [], _, h, _ => by simp [lexLt] at h
  | _ :: _, _ :: _, [], _, h => by simp [lexLt] at h
  | a :: r, b :: t, c :: u, h1, h2 => by
    rw [lexLt] at h1 h2 ⊢
    by_cases e1 : a = b
    · subst e1
      rw [if_pos rfl] at h1
      by_cases e2 : a = c
      · subst e2
        rw [if_pos rfl] at h2 ⊢
        exact lexLt_trans h1 h2
      · rw [if_neg e2] at h2 ⊢; exact h2
    · rw [if_neg e1, decide_eq_true_eq] at h1
      by_cases e2 : b = c
      · subst e2
        rw [if_neg e1, decide_eq_true_eq]; exact h1
      · rw [if_neg e2, decide_eq_true_eq] at h2
        rw [if_neg (by omega), decide_eq_true_eq]; omega
theorem lexLt_total : ∀ {a b : List Int}, lexLt a b = false → lexLt b a = false → a = b
  | [], [], _, _ => rfl
  | [], _ :: _, h, _ => by simp [lexLt] at h
  | _ :: _, [], _, h => by simp [lexLt] at h
  | a :: r, b :: t, h1, h2 => by
    rw [lexLt] at h1 h2
    by_cases e : a = b
    · subst e
      rw [if_pos rfl] at h1 h2
      rw [lexLt_total h1 h2]
    · rw [if_neg e, decide_eq_false_iff_not] at h1
      rw [if_neg (fun h => e h.symm), decide_eq_false_iff_not] at h2
      omega
def lexLe (a b : List Int) : Bool := !lexLt b a
theorem lexLt_asymm {a b : List Int} (h : lexLt a b = true) : lexLt b a = false := by
  cases e : lexLt b a with
  | false => rfl
  | true => have := lexLt_trans h e; rw [lexLt_irrefl] at this; cases this
theorem lexLe_trans (a b c : List Int) (h1 : lexLe a b = true) (h2 : lexLe b c = true) : lexLe a c = true := by
  unfold lexLe at *
  cases e : lexLt c a with
  | false => rfl
  | true =>
    exfalso
    cases e1 : lexLt b a with
    | true => rw [e1] at h1; cases h1
    | false =>
      cases e2 : lexLt c b with
      | true => rw [e2] at h2; cases h2
      | false =>
        cases e3 : lexLt a b with
        | true => have := lexLt_trans e e3; rw [e2] at this; cases this
        | false => have := lexLt_total e3 e1; subst this; rw [e] at e2; cases e2
theorem lexLe_total (a b : List Int) : (lexLe a b || lexLe b a) = true := by
  unfold lexLe
  cases e : lexLt b a with
  | false => rfl
  | true => rw [lexLt_asymm e]; rfl
theorem lexLe_antisymm {a b : List Int} (h1 : lexLe a b = true) (h2 : lexLe b a = true) : a = b := by
  unfold lexLe at *
  exact lexLt_total (by simpa using h2) (by simpa using h1)

def srt (l : List (List Int)) : List (List Int) := l.mergeSort lexLe
theorem srt_perm (l : List (List Int)) : (srt l).Perm l := List.mergeSort_perm l lexLe
theorem srt_pairwise (l : List (List Int)) : (srt l).Pairwise fun a b => lexLe a b = true := List.pairwise_mergeSort lexLe_trans lexLe_total l
theorem eq_srt {l m : List (List Int)} (hp : m.Perm l) (hs : m.Pairwise fun a b => lexLe a b = true) : m = srt l :=
  List.Perm.eq_of_pairwise (fun _ _ _ _ h1 h2 => lexLe_antisymm h1 h2) hs (srt_pairwise l) (hp.trans (srt_perm l).symm)
theorem srt_congr {l m : List (List Int)} (hp : m.Perm l) : srt m = srt l := eq_srt ((srt_perm m).trans hp) (srt_pairwise m)

/-! the rank of an item among a list's -/
def rankIn (L : List (List Int)) (a : List Int) : Int := (L.countP fun q => lexLt q a : Nat)
theorem rank_lt {L : List (List Int)} {a b : List Int} (ha : a ∈ L) : rankIn L a < rankIn L b ↔ lexLt a b = true := by
  unfold rankIn
  constructor
  · intro h
    cases e : lexLt a b with
    | true => rfl
    | false =>
      exfalso
      have : L.countP (fun q => lexLt q b) ≤ L.countP fun q => lexLt q a := List.countP_mono_left fun x _ hx => by
        cases e2 : lexLt b a with
        | true => exact lexLt_trans hx e2
        | false => rw [lexLt_total e e2]; exact hx
      omega
  · intro h
    obtain ⟨l1, l2, rfl⟩ := List.append_of_mem ha
    have m1 : l1.countP (fun q => lexLt q a) ≤ l1.countP fun q => lexLt q b := List.countP_mono_left fun x _ hx => lexLt_trans hx h
    have m2 : l2.countP (fun q => lexLt q a) ≤ l2.countP fun q => lexLt q b := List.countP_mono_left fun x _ hx => lexLt_trans hx h
    simp only [List.countP_append, List.countP_cons, lexLt_irrefl, h]
    simp
    omega

/-! lists of lists of ints in the heap -/
def datV (h : Heap) (v : Value) : List Int := match v with
  | .ref b => (match h.get? b with
    | some o => (match o.data with | .seq xs _ => xs.toList.map numOf | _ => [])
    | none => [])
  | _ => []
def IsIL (h : Heap) (v : Value) : Prop := ∃ b, v = .ref b ∧ IL h b (datV h v)
theorem datV_of {h : Heap} {b : Addr} {ns : List Int} (x : IL h b ns) : datV h (.ref b) = ns := by
  obtain ⟨vs, n, ho, hi⟩ := x
  unfold datV
  dsimp only
  rw [ho]
  show (vs.toArray.toList.map numOf) = ns
  rw [List.toList_toArray]
  exact hi.nums
theorem IL.isIL {h : Heap} {b : Addr} {ns : List Int} (x : IL h b ns) : IsIL h (.ref b) := ⟨b, rfl, by rw [datV_of x]; exact x⟩
theorem IL.keep {h h' : Heap} {b : Addr} {ns : List Int} (x : IL h b ns) (k : h.StaysIn h') : IL h' b ns := let ⟨vs, n, ho, hi⟩ := x; ⟨vs, n, k _ _ ho, hi⟩
def ILs (h : Heap) (vs : List Value) (nss : List (List Int)) : Prop := Paired (fun v ns => ∃ b, v = .ref b ∧ IL h b ns) vs nss
theorem ILs.keep {h h' : Heap} {vs : List Value} {nss : List (List Int)} (x : ILs h vs nss) (k : h.StaysIn h') : ILs h' vs nss := by
  induction x with
  | nil => exact .nil
  | cons a _ ih => exact .cons (let ⟨b, e, y⟩ := a; ⟨b, e, y.keep k⟩) ih
theorem ILs.length {h : Heap} {vs : List Value} {nss : List (List Int)} (x : ILs h vs nss) : vs.length = nss.length := Paired.length x
theorem ILs.mem {h : Heap} {vs : List Value} {nss : List (List Int)} (x : ILs h vs nss) : ∀ v ∈ vs, IsIL h v := by
  induction x with
  | nil => intro v hv; cases hv
  | cons a _ ih =>
    intro v hv
    rcases List.mem_cons.mp hv with rfl | hv
    · obtain ⟨b, rfl, y⟩ := a; exact y.isIL
    · exact ih v hv
theorem ILs.map {h : Heap} {vs : List Value} {nss : List (List Int)} (x : ILs h vs nss) : vs.map (datV h) = nss := by
  induction x with
  | nil => rfl
  | cons a _ ih => obtain ⟨b, rfl, y⟩ := a; rw [List.map_cons, ih, datV_of y]
theorem ILs.of {h : Heap} : ∀ {vs : List Value}, (∀ v ∈ vs, IsIL h v) → ILs h vs (vs.map (datV h))
  | [], _ => .nil
  | v :: vs, hv => .cons (let ⟨b, e, y⟩ := hv v (.head _); ⟨b, e, y⟩) (ILs.of fun v h => hv v (.tail _ h))
theorem ILs.append {h : Heap} {vs us : List Value} {nss mss : List (List Int)} (x : ILs h vs nss) (y : ILs h us mss) : ILs h (vs ++ us) (nss ++ mss) := by
  induction x with
  | nil => exact y
  | cons a _ ih => exact .cons a ih
/-- a list of lists of ints -/
def LL (h : Heap) (a : Addr) (nss : List (List Int)) : Prop := ∃ vs n, h.get? a = some (lob vs n) ∧ ILs h vs nss
theorem LL.keep {h h' : Heap} {b : Addr} {nss : List (List Int)} (x : LL h b nss) (k : h.StaysIn h') : LL h' b nss := let ⟨vs, n, ho, hi⟩ := x; ⟨vs, n, k _ _ ho, hi.keep k⟩

section
variable {prog : Program} {w : World} {A : Around} {E : Value → Shared → Prop} {s : Shared}

theorem oneLt_list {x y : Addr} {ns ms : List Int} {Q : Bool → Shared → Prop} (hu : A.units < cLine) (hx : IL s.heap x ns) (hy : IL s.heap y ms) (h : Q (lexLt ns ms) s) :
    wpAny (model prog w) A (keyLt' oneType' (.ref x) (.ref y)) Q E s := by
  obtain ⟨vs, n, ox, iv⟩ := hx
  obtain ⟨us, m, oy, iu⟩ := hy
  rw [keyLt'_oneType, oneLt'_eq]
  simp only [if_true]
  refine wpAny_bind (wpAny_cRoomFor hu ?_)
  refine wpAny_bind (wpAny_callSpecialIfBound?_slot (T := "list") ⟨_, ox, rfl⟩ F.slot_list_lt (call_meets F.slot_list_lt ⟨_, ox, rfl⟩ F.entry_list_lt (F.args_list_lt_2 _ _) (list_lt x y vs us n m ns ms iv iu) ⟨ox, oy, ?_⟩))
  exact wpAny_truthy_bool h

theorem asks_list {vs : List Value} (hu : A.units < cLine) (hv : ∀ v ∈ vs, IsIL s.heap v) :
    Asks (fun p => rankIn (vs.map (datV s.heap)) (datV s.heap p.1)) prog w A s oneType' (pairsOf vs) := by
  intro x y hx hy E Q h
  rw [pairsOf_toList] at hx hy
  have mx := (mem_zip_self hx).2
  have my := (mem_zip_self hy).2
  obtain ⟨a, ea, ia⟩ := hv _ mx
  obtain ⟨b, eb, ib⟩ := hv _ my
  have e : decide (rankIn (vs.map (datV s.heap)) (datV s.heap x.1) < rankIn (vs.map (datV s.heap)) (datV s.heap y.1)) = lexLt (datV s.heap x.1) (datV s.heap y.1) := by
    rw [Bool.eq_iff_iff, decide_eq_true_eq]
    exact rank_lt (List.mem_map_of_mem mx)
  rw [e] at h
  rw [ea] at ia h ⊢
  rw [eb] at ib h ⊢
  exact oneLt_list hu ia ib h

theorem sorted_outL {h : Heap} {vs : List Value} {xs : Array Keyed} (hp : xs.Perm (pairsOf vs)) (hs : Up (fun p => rankIn (vs.map (datV h)) (datV h p.1)) xs 0 (pairsOf vs).size) :
    (xs.map (·.2)).toList.map (datV h) = srt (vs.map (datV h)) ∧ (xs.map (·.2)).toList.Perm vs := by
  have hl : xs.toList.Perm (vs.zip vs) := by rw [← pairsOf_toList]; exact Array.perm_iff_toList_perm.mp hp
  have hmem : ∀ p, p ∈ xs.toList → p.1 = p.2 ∧ p.1 ∈ vs := fun p hp' => mem_zip_self (hl.mem_iff.mp hp')
  have e1 : (xs.map (·.2)).toList = xs.toList.map (·.1) := by
    rw [Array.toList_map]; exact List.map_congr_left fun p hp' => (hmem p hp').1.symm
  have hperm : (xs.map (·.2)).toList.Perm vs := by
    have h1 := hl.map (fun p => p.1)
    have e2 : (vs.zip vs).map (fun p => p.1) = vs := List.map_fst_zip (Nat.le_refl _)
    rw [e2] at h1
    rw [e1]; exact h1
  refine ⟨eq_srt (hperm.map _) ?_, hperm⟩
  have hpw := pairwise_of_up (lo := 0) (hi := xs.size) (xs := xs) (rk := fun p => rankIn (vs.map (datV h)) (datV h p.1)) (by rw [hp.size_eq]; exact hs) (Nat.le_refl _)
  rw [List.drop_zero, Nat.sub_zero, List.take_of_length_le (by simp)] at hpw
  rw [e1, List.map_map, List.pairwise_map]
  refine hpw.imp_of_mem fun {p q} hp hq hle => ?_
  show (!lexLt (datV h q.1) (datV h p.1)) = true
  cases e : lexLt (datV h q.1) (datV h p.1) with
  | false => rfl
  | true =>
    have := (rank_lt (L := vs.map (datV h)) (List.mem_map_of_mem (hmem q hq).2)).mpr e
    omega

theorem list_sort_treeL {a : Addr} {vs : List Value} {n : Nat} {P : PySem.Fin → Shared → Prop} (hu : A.units < cLine) (ho : s.heap.get? a = some (seqObj "list" vs.toArray n))
    (hv : ∀ v ∈ vs, IsIL s.heap v) (hav : ∀ v ∈ vs, v ≠ .ref a) (h128 : vs.length < 128)
    (h : ∀ out : Array Value, out.toList.Perm vs → out.toList.map (datV s.heap) = srt (vs.map (datV s.heap)) → P (.done (.ret .none)) { s with heap := sortedHeap s.heap a vs out }) :
    wpAny (model prog w) A (Builtin.«list.sort» ⟨[.ref a], []⟩) P E s := by
  rw [list_sort_plain]
  have ha : a < s.heap.objs.size := Heap.lt_size ho
  refine wpAny_bind (listItems_at ho rfl ?_)
  refine wpAny_bind (listUpdate_at ho rfl ?_ (by rw [List.size_toArray, sizeLine_eq]; omega) (Nat.zero_le _))
  obtain ⟨e1, ho1⟩ : ∃ e1, (s.heap.update a (Obj.mapSeq fun _ => (#[] : Array Value))).get? a = some (seqObj "list" #[] e1) := ⟨_, get?_update_seq ho (fun _ => #[])⟩
  refine wpAny_bind (seqEpoch_at ho1 rfl ?_)
  refine wpAny_bind (wpAny_newTuple ?_ (by show vs.length ≤ _; rw [sizeLine_eq]; omega))
  refine wpAny_bind (wpAny_newList ?_ (Nat.zero_le _))
  refine wpAny_holding ?_
  have ho6 : (((s.heap.update a (Obj.mapSeq fun _ => (#[] : Array Value))).push (seqObj "tuple" vs.toArray 0)).push (seqObj "list" #[] 0)).get? a = some (seqObj "list" #[] e1) := by
    rw [Heap.get?_push_ne _ _ _ (by rw [size_push', Heap.size_update]; exact Nat.ne_of_lt (Nat.lt_succ_of_lt ha)), Heap.get?_push_ne _ _ _ (by rw [Heap.size_update]; exact Nat.ne_of_lt ha)]
    exact ho1
  have keep : ∀ b, b ≠ a → b < s.heap.objs.size → (((s.heap.update a (Obj.mapSeq fun _ => (#[] : Array Value))).push (seqObj "tuple" vs.toArray 0)).push (seqObj "list" #[] 0)).get? b = s.heap.get? b := fun b hb hlt => by
    rw [Heap.get?_push_ne _ _ _ (by rw [size_push', Heap.size_update]; exact Nat.ne_of_lt (Nat.lt_succ_of_lt hlt)), Heap.get?_push_ne _ _ _ (by rw [Heap.size_update]; exact Nat.ne_of_lt hlt), Heap.get?_update_ne _ _ _ _ hb]
  show wpAny (model prog w) A _ P E { s with heap := ((s.heap.update a (Obj.mapSeq fun _ => (#[] : Array Value))).push (seqObj "tuple" vs.toArray 0)).push (seqObj "list" #[] 0) }
  generalize hH : ((s.heap.update a (Obj.mapSeq fun _ => (#[] : Array Value))).push (seqObj "tuple" vs.toArray 0)).push (seqObj "list" #[] 0) = H at ho6 keep
  have hdat : ∀ v ∈ vs, datV H v = datV s.heap v ∧ IsIL H v := fun v hvm => by
    obtain ⟨b, rfl, ns, k, ob, hi⟩ := hv v hvm
    have hb : b ≠ a := fun e => hav _ hvm (by rw [e])
    have x : IL H b (datV s.heap (.ref b)) := ⟨ns, k, (keep b hb (Heap.lt_size ob)).trans ob, hi⟩
    exact ⟨datV_of x, x.isIL⟩
  have hmapE : vs.map (datV H) = vs.map (datV s.heap) := List.map_congr_left fun v hvm => (hdat v hvm).1
  dsimp only
  have fin : ∀ st' : SortSt, (arrOf st').Perm (pairsOf vs) → Up (fun p => rankIn (vs.map (datV H)) (datV H p.1)) (arrOf st') 0 (pairsOf vs).size →
      P (.done (.ret .none)) { s with heap := sortedHeap s.heap a vs ((arrOf st').map (·.2)) } := by
    intro st' hp hs
    obtain ⟨h1, h2⟩ := sorted_outL hp hs
    refine h _ h2 ?_
    rw [← hmapE, ← h1]
    exact List.map_congr_left fun v hvm => ((hdat v (h2.mem_iff.mp hvm)).1).symm
  have hsz : vs.toArray.size = vs.length := by simp
  by_cases h2 : vs.toArray.size < 2
  · rw [if_pos h2, if_pos h2]
    refine wpAny_bind (wpAny_pure ?_)
    rw [StateT.run_pure]
    refine wpAny_bind (wpAny_pure ?_)
    dsimp only
    refine wpAny_bind (seqEpoch_at ho6 rfl ?_)
    refine wpAny_bind (listUpdate_at ho6 rfl ?_ (Nat.zero_le _) (by rw [Array.size_map]; show (pairsOf vs).size ≤ _; rw [pairsOf_size, sizeLine_eq]; omega))
    simp only [bne_self_eq_false, Bool.false_eq_true, if_false]
    rw [← hH]
    refine wpAny_pure (fin (SortSt.mk' general' (vs.toArray.zip vs.toArray) #[] 7 none) (Array.Perm.refl _) ?_)
    intro i j _ hij hj
    have : i = j := by rw [pairsOf_size] at hj; omega
    subst this; exact Int.le_refl _
  · rw [if_neg h2, if_neg h2]
    refine wpAny_bind (kas_kind (T := .type "list") (by omega) (fun v hvm => ?_) (by decide) (by decide) ?_)
    · obtain ⟨b, rfl, ns, k, ob, hi⟩ := (hdat v hvm).2
      exact (Looks.ld ob).andThen .now
    refine wpAny_bind (wpAny_mono (wpS_sortRunsG (a₀ := pairsOf vs) (kd := oneType') (rk := fun p => rankIn (vs.map (datV H)) (datV H p.1)) (st := SortSt.mk' oneType' (vs.toArray.zip vs.toArray) #[] 7 none)
      (Q := fun _ st' => (arrOf st').Perm (pairsOf vs) ∧ failedOf st' = none ∧ Up (fun p => rankIn (vs.map (datV H)) (datV H p.1)) (arrOf st') 0 (pairsOf vs).size)
      (asks_list (s := { s with heap := H }) hu fun v hvm => (hdat v hvm).2) ⟨Array.Perm.refl _, rfl, rfl, rfl⟩ (by rw [pairsOf_size]; omega) (by rw [pairsOf_size]; exact h128) fun st' a1 a2 a3 => ⟨a1, a2, a3⟩) ?_ fun _ _ e => e)
    rintro ⟨⟨⟩, st'⟩ s' ⟨rfl, hp, hf, hs⟩
    dsimp only
    refine wpAny_bind (seqEpoch_at ho6 rfl ?_)
    refine wpAny_bind (listUpdate_at ho6 rfl ?_ (Nat.zero_le _) (by refine Nat.le_trans (Nat.le_of_eq ((Array.size_map ..).trans (hp.size_eq.trans (pairsOf_size _)))) ?_; rw [sizeLine_eq]; omega))
    rw [hf]
    simp only [bne_self_eq_false, Bool.false_eq_true, if_false]
    rw [← hH]
    exact wpAny_pure (fin st' hp hs)
end
end Mine
end

section -- SortM
namespace Mine
open PySem PyProof.Rows PySem.W

section
variable {prog : Program} {w : World} {A : Around} {E : Value → Shared → Prop} {s : Shared}

theorem keep_push {h : Heap} (o : Obj) : h.StaysIn (h.push o) := fun _ _ e => Heap.get?_push_of_some o e
theorem stays_trans {a b c : Heap} (x : a.StaysIn b) (y : b.StaysIn c) : a.StaysIn c := fun i o e => y i o (x i o e)
theorem stays_update {h : Heap} {a : Addr} {f : Obj → Obj} {h0 : Heap} (k : h0.StaysIn h) (hn : h0.get? a = none) : h0.StaysIn (h.update a f) := fun b o e => by
  have : b ≠ a := fun q => by rw [q, hn] at e; cases e
  rw [Heap.get?_update_ne _ _ _ _ this]
  exact k b o e
theorem sorted_lists {l : Addr} {nss : List (List Int)} {Q : Value → Shared → Prop} (hu : A.units + 2 < cLine) (hl : LL s.heap l nss) (h128 : nss.length < 128)
    (h : ∀ h' D, s.heap.StaysIn h' → s.heap.get? D = none → D < h'.objs.size → LL h' D (srt nss) → Q (.ref D) { s with heap := h' }) :
    wpAny (model prog w) A (call (.builtin "sorted") [.ref l]) Q E s := by
  obtain ⟨vs, n, ol, hi⟩ := hl
  have hlen := hi.length
  have hmap := hi.map
  have hmem := hi.mem
  have hL : s.heap.IsList l vs.toArray := ⟨_, ol, rfl, n, rfl⟩
  refine Calls.call_function_entry kind_sorted plain_sorted entry_sorted (args_sorted1 _) ?_
  unfold Builtin.«sorted»
  refine wpAny_bind (m := checkCount "sorted" 1 1 _) (wpAny_pure ?_)
  refine wpAny_bind (collect_list hL ?_ (by rw [sizeLine_eq]; omega))
  refine wpAny_bind (wpAny_newList ?_ (by rw [sizeLine_eq]; omega))
  have hsz : ((s.heap.push (seqObj "list" #[] 0)).update s.heap.objs.size (Obj.mapSeq (· ++ vs.toArray))).objs.size = s.heap.objs.size + 1 := by
    rw [Heap.size_update, size_push']
  have k1 : s.heap.StaysIn ((s.heap.push (seqObj "list" #[] 0)).update s.heap.objs.size (Obj.mapSeq (· ++ vs.toArray))) := stays_update (keep_push _) (Heap.get?_none_of_le (Nat.le_refl _))
  show wpAny _ _ _ _ _ { s with heap := ((s.heap.push (seqObj "list" #[] 0)).update s.heap.objs.size (Obj.mapSeq (· ++ vs.toArray))).push (seqObj "list" vs.toArray 0) }
  generalize hH1 : (s.heap.push (seqObj "list" #[] 0)).update s.heap.objs.size (Obj.mapSeq (· ++ vs.toArray)) = H1 at hsz k1
  rw [hsz]
  have hoL : (H1.push (seqObj "list" vs.toArray 0)).get? (s.heap.objs.size + 1) = some (seqObj "list" vs.toArray 0) := by
    rw [← hsz]; exact Heap.get?_push_size _ rfl
  have k2 : s.heap.StaysIn (H1.push (seqObj "list" vs.toArray 0)) := stays_trans k1 (keep_push _)
  have hs2 : (H1.push (seqObj "list" vs.toArray 0)).objs.size = s.heap.objs.size + 2 := by rw [size_push', hsz]
  generalize hH2 : H1.push (seqObj "list" vs.toArray 0) = H2 at hoL k2 hs2
  have hdat : ∀ v ∈ vs, datV H2 v = datV s.heap v ∧ IsIL H2 v ∧ v ≠ .ref (s.heap.objs.size + 1) := fun v hv => by
    obtain ⟨b, rfl, x⟩ := hmem v hv
    refine ⟨datV_of (x.keep k2), (x.keep k2).isIL, fun e => ?_⟩
    obtain ⟨_, _, ob, _⟩ := x
    have hlt := Heap.lt_size ob
    injection e with e
    rw [e] at hlt
    exact Nat.not_lt.mpr (Nat.le_succ _) hlt
  refine wpAny_bind (wpAny_holding (wpAny_call_entry (s := { s with heap := H2 }) slot_list_sort ⟨_, hoL, rfl⟩ entry_list_sort (list_sort_treeL (s := { s with heap := H2 }) (by show A.in1.in1.units < cLine; simp only []; omega) hoL
    (fun v hv => (hdat v hv).2.1) (fun v hv => (hdat v hv).2.2) (by omega) fun out hp ho => ⟨_, rfl, ?_⟩) (args_list_sort _)))
  refine wpAny_pure ⟨_, rfl, ?_⟩
  have hn : s.heap.get? (s.heap.objs.size + 1) = none := Heap.get?_none_of_le (Nat.le_succ _)
  show Q _ { s with heap := sortedHeap H2 (s.heap.objs.size + 1) vs out }
  have e1 : vs.map (datV H2) = nss := by rw [← hmap]; exact List.map_congr_left fun v hv => (hdat v hv).1
  rw [e1] at ho
  have kk : s.heap.StaysIn (sortedHeap H2 (s.heap.objs.size + 1) vs out) := stays_update (stays_trans (stays_trans (stays_update k2 hn) (keep_push _)) (keep_push _)) hn
  obtain ⟨e2, ho2⟩ : ∃ e2, (H2.update (s.heap.objs.size + 1) (Obj.mapSeq fun _ => (#[] : Array Value))).get? (s.heap.objs.size + 1) = some (seqObj "list" #[] e2) := ⟨_, get?_update_seq hoL (fun _ => #[])⟩
  obtain ⟨e3, ho3⟩ : ∃ e3, (sortedHeap H2 (s.heap.objs.size + 1) vs out).get? (s.heap.objs.size + 1) = some (seqObj "list" out e3) :=
    ⟨_, get?_update_seq (Heap.get?_push_of_some _ (Heap.get?_push_of_some _ ho2)) fun _ => out⟩
  refine h _ _ kk hn (Heap.lt_size ho3) ⟨out.toList, e3, ?_, ?_⟩
  · rw [ho3]
  · rw [← ho]
    have : out.toList.map (datV H2) = out.toList.map (datV (sortedHeap H2 (s.heap.objs.size + 1) vs out)) := List.map_congr_left fun v hv => by
      obtain ⟨b, rfl, x⟩ := hmem v (hp.mem_iff.mp hv)
      rw [datV_of (x.keep k2), datV_of (x.keep kk)]
    rw [this]
    refine ILs.of fun v hv => ?_
    obtain ⟨b, rfl, x⟩ := hmem v (hp.mem_iff.mp hv)
    exact (x.keep kk).isIL
end
end Mine
end

section -- Gen1
namespace Mine
open PySem PyProof.Rows PySem.W
open Sem (wp)

/-- one waking: the tree runs to its end or its next yield -/
def Stp (M : Model) (A : Around) (P : End → Shared → Prop) (c : Code) (t : Sem PySem.Fin) (fs : List Frame) (s : Shared) : Prop :=
  ∀ Γ p, Γ.code = c → Γ.Woken A → ∃ e s', Runs M Γ p t fs s e s' ∧ P e s'

section
variable {M : Model} {A : Around} {P : End → Shared → Prop} {c : Code} {fs : List Frame} {s : Shared}

theorem stp_wrap {α : Type} {m : Sem α} {K : α → Sem PySem.Fin} {H : Value → Sem PySem.Fin} {gd lv}
    (h : wpAny M (A.over c fs) m (fun a s' => Stp M A P c (K a) fs s') (fun x s' => Stp M A P c (H x) fs s') s) : Stp M A P c (m.wrap K H gd lv) fs s := by
  rintro Γ p rfl hΓ
  exact runs_wrap_of_wp K H gd lv m (h (Γ.over fs) p (hΓ.over fs)) (fun a p' s' h' => h' Γ p' rfl hΓ) (fun x p' s' h' => h' Γ p' rfl hΓ)

theorem stp_bind {α : Type} {m : Sem α} {K : α → Sem PySem.Fin}
    (h : wpAny M (A.over c fs) m (fun a s' => Stp M A P c (K a) fs s') (fun x s' => Stp M A P c (.raise x) fs s') s) : Stp M A P c (m >>= K) fs s := by
  rw [Sem.bind_eq_wrap']; exact stp_wrap h

theorem stp_at {p' : Pos} {k : Unit → Sem PySem.Fin} (h : Stp M A P c (k ()) fs s) : Stp M A P c (.at p' k) fs s :=
  stp_wrap (m := standAt p') (K := k) (H := .raise) (gd := id) (lv := id) (wpAny_standAt h)
theorem stp_point {l : List Value} {k : Unit → Sem PySem.Fin} (h : Stp M A P c (k ()) fs s) : Stp M A P c (.point l k) fs s :=
  stp_wrap (m := point) (K := k) (H := .raise) (gd := id) (lv := fun _ => l) (wpAny_point h)

theorem stp_call {c' : Code} {h g l} {k : Result → Sem PySem.Fin} (hc : ∀ p, Stp M A P c' (M.den c') (.ret k h g l c p [] :: fs) s) : Stp M A P c (.call c' h g l k) fs s := by
  rintro Γ p rfl hΓ
  obtain ⟨e, s', hr, he⟩ := hc p (Γ.goto c') p rfl (hΓ.goto c')
  exact ⟨e, s', runs_call_seg hr, he⟩

theorem stp_leaf {k h g l c₁ p₁ kp} (r : Result) (hk : Stp M A P c₁ (k r) fs s) : Stp M A P c (leafOf r) (.ret k h g l c₁ p₁ kp :: fs) s := by
  rintro Γ p rfl hΓ
  obtain ⟨e, s', hr, he⟩ := hk (Γ.goto c₁) p₁ rfl (hΓ.goto c₁)
  exact ⟨e, s', Runs.pop r hr, he⟩

theorem stp_again {c' : Code} (hq : c'.quiet = true) (hc : Stp M A P c' (M.den c') fs s) : Stp M A P c (.pure (.again c')) fs s := by
  rintro Γ p rfl hΓ
  obtain ⟨e, s', hr, he⟩ := hc (Γ.goto c') p rfl (hΓ.goto c')
  exact ⟨e, s', Runs.head (c₁ := c') (fun _ _ x => .again hq x) hr, he⟩

theorem stp_end (r : Result) (h : P (.ret r) s) : Stp M A P c (leafOf r) [] s := by
  rintro Γ p rfl _
  exact ⟨.ret r, s, Runs.leaf r, h⟩

theorem stp_yield {v g l} {k : Resume → Sem PySem.Fin} (hfs : splitAtGen fs = none) (h : ∀ p, P (.susp v g l k c p fs) s) : Stp M A P c (.yield v g l k) fs s := by
  rintro Γ p rfl _
  exact ⟨_, s, Runs.yield' fs hfs, h p⟩

theorem stp_mono {P' : End → Shared → Prop} {t : Sem PySem.Fin} (h : Stp M A P c t fs s) (hp : ∀ e s', P e s' → P' e s') : Stp M A P' c t fs s := fun Γ p hc hΓ => by
  obtain ⟨e, s', a, b⟩ := h Γ p hc hΓ
  exact ⟨e, s', a, hp _ _ b⟩
end

section
variable {M : Model} {A : Around} {P : End → Shared → Prop} {c : Code} {fs : List Frame} {s : Shared} {env : Env}
  {K : Flow → Sem PySem.Fin} {H : Value → Sem PySem.Fin} {gd : Bool → Bool} {lv : List Value → List Value}

theorem stp_execs_nil (h : Stp M A P c (K .next) fs s) : Stp M A P c ((execs [] env).wrap K H gd lv) fs s := h
theorem stp_execs_cons {st : Stmt} {rest : List Stmt}
    (h : Stp M A P c ((exec st env).wrap (fun f => match f with | .next => (execs rest env).wrap K H gd lv | f => K f) H gd lv) fs s) :
    Stp M A P c ((execs (st :: rest) env).wrap K H gd lv) fs s := by rw [execs_cons_wrap]; exact h

theorem stp_If {test : Expr} {body orelse : List Stmt} {pos : Pos}
    (h : wpAny M (A.over c fs) (isTrue test env (eval test env)) (fun b s' => if b = true then Stp M A P c ((execs body env).wrap K H gd lv) fs s' else Stp M A P c ((execs orelse env).wrap K H gd lv) fs s')
      (fun x s' => Stp M A P c (H x) fs s') s) : Stp M A P c ((exec (.If test body orelse pos) env).wrap K H gd lv) fs s := by
  rw [exec_If]
  show Stp M A P c (.at pos fun _ => ((isTrue test env (eval test env) >>= fun b => if b = true then execs body env else execs orelse env) : Sem Flow).wrap K H gd lv) fs s
  refine stp_at ?_
  rw [Sem.bind_eq_wrap', Sem.wrap_wrap]
  refine stp_wrap (wpAny_mono h (fun b s' hb => ?_) fun _ _ x => x)
  cases b with
  | true => exact hb
  | false => exact hb

theorem stp_Expr_Yield {e : Expr} {ypos pos : Pos} (hfs : splitAtGen fs = none)
    (h : wpAny M (A.over c fs) (eval e env) (fun v s' => ∀ l k p, (∀ s'', Stp M A P c (K .next) fs s'' → True) →
        (∀ (A' : Around) (P' : End → Shared → Prop) s'', Stp M A' P' c (K .next) fs s'' → Stp M A' P' c (k (.send .none)) fs s'') → P (.susp v (gd false) l k c p fs) s')
      (fun x s' => Stp M A P c (H x) fs s') s) (hco : env.scope.isCoroutine = false := by rfl) (hi : interactive env = false := by rfl) :
    Stp M A P c ((exec (.Expr (.Yield (some e) ypos) pos) env).wrap K H gd lv) fs s := by
  rw [exec_Expr env _ pos hi rfl]
  show Stp M A P c (.at pos fun _ => ((eval e env >>= fun v => (standAt ypos >>= fun _ => yieldOut env v)) >>= fun x =>
    dropValue (.Yield (some e) ypos) pos x).wrap K H gd lv) fs s
  have hy : ∀ v, yieldOut env v = yieldValue v := fun v => by simp only [yieldOut, hco, Bool.false_eq_true, if_false]
  simp only [hy]
  refine stp_at ?_
  rw [Sem.bind_eq_wrap', Sem.bind_eq_wrap', Sem.wrap_wrap, Sem.wrap_wrap]
  refine stp_wrap (wpAny_mono h (fun v s' h' => ?_) fun _ _ x => x)
  refine stp_at (stp_yield hfs fun p => ?_)
  refine h' _ _ p (fun _ _ => trivial) fun A' P' s'' hx => ?_
  exact hx

theorem stp_While {test : Expr} {body orelse : List Stmt} {pos : Pos}
    (h : ∀ p, Stp M A P (.whileLoop test body orelse env) (M.den (.whileLoop test body orelse env))
      (.ret (fun r => ((match r with | .ok f => (.pure f : Sem Flow) | .error e => .raise e).onRaise fun (x : Value) => do
        if (← field x 1) == Value.none then unsupported "frame.own-activation:exception-without-traceback"
        setFlight x env.frame).wrap K H gd lv) none (gd false) (lv []) c p [] :: fs) s) :
    Stp M A P c ((exec (.While test body orelse pos) env).wrap K H gd lv) fs s :=
  stp_at (stp_call h)
end

section
variable {prog : Program} {w : World} {A : Around} {P : End → Shared → Prop} {fs : List Frame} {s : Shared} {env : Env}

abbrev noted (env : Env) (e : Value) : Sem PySem.Fin := (do noteFrame e env; theTreesLotGoes e : Sem Unit).wrap (fun _ => .raise e) .raise id id
abbrev turnK (test : Expr) (body orelse : List Stmt) (env : Env) (f : Flow) : Sem PySem.Fin := match f with
  | .next | .cont => .pure (.again (.whileLoop test body orelse env))
  | .brk => .pure (.done .next)
  | .ret v => .pure (.done (.ret v))

theorem stp_whileLoop {test : Expr} {body orelse : List Stmt}
    (h : wpAny (model prog w) (A.over (.whileLoop test body orelse env) fs) (isTrue test env (eval test env)) (fun b s' =>
        if b = true then Stp (model prog w) A P (.whileLoop test body orelse env) ((execs body env).wrap (turnK test body orelse env) (noted env) id id) fs s'
        else Stp (model prog w) A P (.whileLoop test body orelse env) ((execs orelse env).wrap (fun f => .pure (.done f)) (noted env) id id) fs s')
      (fun x s' => Stp (model prog w) A P (.whileLoop test body orelse env) (noted env x) fs s') s) :
    Stp (model prog w) A P (.whileLoop test body orelse env) ((model prog w).den (.whileLoop test body orelse env)) fs s := by
  show Stp _ A P _ ((whileTurn test body orelse env).onRaise (fun x => do noteFrame x env; theTreesLotGoes x)) fs s
  unfold whileTurn
  rw [Sem.onRaise_eq_wrap, Sem.bind_eq_wrap', Sem.wrap_wrap]
  refine stp_wrap (wpAny_mono h (fun b s' hb => ?_) fun x s' hx => ?_)
  · cases b with
    | true =>
      rw [if_pos rfl] at hb
      show Stp _ A P _ (Sem.wrap _ _ _ _ (if true = true then _ else _)) fs s'
      rw [if_pos rfl, Sem.bind_eq_wrap', Sem.wrap_wrap]
      rw [Sem.wrap_congr (execs body env) _ _ (K' := turnK test body orelse env) (H' := noted env) (fun f => by cases f <;> rfl)
        (fun e => by show (do noteFrame e env; theTreesLotGoes e : Sem Unit).bind (fun _ => .raise e) = _; rw [Sem.bind_eq_wrap])]
      exact hb
    | false =>
      rw [if_neg Bool.false_ne_true] at hb
      show Stp _ A P _ (Sem.wrap _ _ _ _ (if false = true then _ else _)) fs s'
      rw [if_neg Bool.false_ne_true, Sem.bind_eq_wrap', Sem.wrap_wrap]
      rw [Sem.wrap_congr (execs orelse env) _ _ (K' := fun f => (.pure (.done f) : Sem PySem.Fin)) (H' := noted env) (fun f => by rfl)
        (fun e => by show (do noteFrame e env; theTreesLotGoes e : Sem Unit).bind (fun _ => .raise e) = _; rw [Sem.bind_eq_wrap])]
      exact hb
  · show Stp _ A P _ ((do noteFrame x env; theTreesLotGoes x : Sem Unit).bind fun _ => .raise x) fs s'
    rw [Sem.bind_eq_wrap]; exact hx

theorem stp_func {body : List Stmt}
    (h : Stp (model prog w) A P (.func body env) ((execs body env).wrap (fun f => .pure (.done (.ret (match f with | .ret v => v | _ => .none))))
      (fun e => (leaving env e).wrap (fun _ => .raise e) .raise id id) id id) fs s) :
    Stp (model prog w) A P (.func body env) ((model prog w).den (.func body env)) fs s := by
  show Stp _ A P _ (.point [] fun _ => ((execs body env).onRaise (leaving env)) >>= _) fs s
  refine stp_point ?_
  rw [Sem.onRaise_eq_wrap, Sem.bind_eq_wrap', Sem.wrap_wrap]
  rw [Sem.wrap_congr (execs body env) _ _ (K' := fun f => .pure (.done (.ret (match f with | .ret v => v | _ => .none))))
    (H' := fun e => (leaving env e).wrap (fun _ => .raise e) .raise id id) (fun f => by cases f <;> rfl)
    (fun e => by rw [Sem.bind_eq_wrap, Sem.wrap_wrap]; rfl)]
  exact h
end
end Mine
end

section -- Gen2
namespace Mine
open PySem PyProof.Rows PySem.W PySem.Calls PySem.Spec
open Sem (wp)

def Wk (M : Model) (A : Around) (P : End → Shared → Prop) (gs : GenState) (s : Shared) : Prop :=
  match gs with
  | .fresh c => Stp M A P c (M.den c) [] s
  | .suspended k _ c _ fs _ => Stp M A P c (k (.send .none)) fs s
  | _ => False

theorem wpAny_wake {α : Type} {M : Model} {A : Around} {E : Value → Shared → Prop} {P : End → Shared → Prop} {g : Nat} {gs : GenState} {l : List Value} {k : GenResult → Sem α} {Q : α → Shared → Prop} {s : Shared}
    (hg : s.gens[g]? = some gs) (hgo : Wk M A P gs (s.setGen g .running))
    (hk : ∀ e s₁, P e s₁ → e.quiet = true ∧ wpAny M A (k e.result) Q E (s₁.setGen g e.genState)) : wpAny M A (.resume g (.send .none) l k) Q E s := by
  intro Γ p hΓ
  rw [Sem.wp_resume]
  cases gs with
  | fresh c =>
    obtain ⟨e, s₁, hr, he⟩ := hgo (Γ.wake c p) p rfl (hΓ.wake c p)
    exact ⟨_, _, by unfold Wakes; rw [hg]; exact ⟨e, s₁, hr, (hk e s₁ he).1, rfl, rfl⟩, (hk e s₁ he).2 Γ p hΓ⟩
  | suspended k₀ l₀ c₀ p₀ fs₀ cl =>
    obtain ⟨e, s₁, hr, he⟩ := hgo (Γ.wake c₀ p) p₀ rfl (hΓ.wake c₀ p)
    exact ⟨_, _, by unfold Wakes; rw [hg]; exact ⟨e, s₁, hr, (hk e s₁ he).1, rfl, rfl⟩, (hk e s₁ he).2 Γ p hΓ⟩
  | running => exact hgo.elim
  | finished => exact hgo.elim

theorem wpAny_resume_finished {α : Type} {M : Model} {A : Around} {E : Value → Shared → Prop} {g : Nat} {r : Resume} {l : List Value} {k : GenResult → Sem α} {Q : α → Shared → Prop} {s : Shared}
    (hg : s.gens[g]? = some .finished) (hk : wpAny M A (k .finished) Q E s) : wpAny M A (.resume g r l k) Q E s := by
  intro Γ p hΓ
  rw [Sem.wp_resume]
  exact ⟨.finished, s, by unfold Wakes; rw [hg]; exact ⟨rfl, rfl⟩, hk Γ p hΓ⟩

section
variable {prog : Program} {w : World} {A : Around} {E : Value → Shared → Prop} {s : Shared}

/-- StopIteration is made, raised and met by pyNext -/
theorem wpAny_stop {α : Type} {t : Value → Sem PySem.Fin} {k : α → Sem PySem.Fin} {R : PySem.Fin → Shared → Prop} {Q : Option Value → Shared → Prop} {s₁ : Shared} (hh : A.handled = none)
    (ht : t = (fun e => raiseNew e) ∨ t = (fun e => (raiseNew e : Sem α) >>= k))
    (hP : ∀ h', s₁.heap.StaysIn h' → Q none { s₁ with heap := h' }) :
    wpAny (model prog w) A.in1 (newExc (.type "StopIteration") [] >>= t) R
      (fun e s' => wpAny (model prog w) A (isInstance e (.type "StopIteration") >>= fun b => if b = true then pure none else throw e) Q E s') s₁ := by
  refine wpAny_bind ?_
  simp only [newExc, newTuple]
  refine wpAny_bind (wpAny_newObj_type ?_ (by size_fits))
  refine wpAny_bind (m := firstArgMember _ _) (wpAny_of_eq (a := Value.none) (by first | rfl | (simp only [firstArgMember]; rfl)) ?_)
  refine wpAny_newObj_type ?_ (by size_fits)
  have fin : ∀ (h : Heap) (a : Addr), s₁.heap.StaysIn h → (Shared.TypeIs { s₁ with heap := h } (.ref a) "StopIteration") → 
      wpAny (model prog w) A (isInstance (.ref a) (.type "StopIteration") >>= fun b => if b = true then pure none else throw (.ref a)) Q E { s₁ with heap := h } := fun h a hk hT => by
    refine wpAny_bind (wpAny_isInstance (T := "StopIteration") (b := true) hT isSubtype_stop ?_)
    exact wpAny_pure (hP _ hk)
  rcases ht with rfl | rfl
  · simp only [raiseNew]
    refine wpAny_bind (wpAny_handled ?_)
    rw [show A.in1.handled = none from hh]
    refine wpAny_throw ?_
    exact fin _ _ (fun b o hb => Heap.get?_push_of_some _ (Heap.get?_push_of_some _ hb)) ⟨_, Heap.get?_push_size _ rfl, rfl⟩
  · simp only [raiseNew]
    refine wpAny_bind (wpAny_bind (wpAny_handled ?_))
    rw [show A.in1.handled = none from hh]
    refine wpAny_throw ?_
    exact fin _ _ (fun b o hb => Heap.get?_push_of_some _ (Heap.get?_push_of_some _ hb)) ⟨_, Heap.get?_push_size _ rfl, rfl⟩

theorem wpAny_pyNext_wk {a : Addr} {g : Nat} {gs : GenState} {P : End → Shared → Prop} {Q : Option Value → Shared → Prop} (hh : A.handled = none)
    (hl : s.heap.NoLimit) (hroom : A.depth < recursionLimit) (hg : s.heap.IsGen a g) (hgs : s.gens[g]? = some gs)
    (hgo : Wk (model prog w) A.in1 P gs (s.setGen g .running))
    (hk : ∀ e s₁, P e s₁ → e.quiet = true ∧ match e with
      | .susp v _ _ _ _ _ _ => Q (some v) (s₁.setGen g e.genState)
      | .ret (.ok (.ret .none)) => ∀ h', s₁.heap.StaysIn h' → Q none { s₁.setGen g .finished with heap := h' }
      | _ => False) :
    wpAny (model prog w) A (pyNext (.ref a)) Q E s := by
  unfold pyNext
  refine wpAny_bind (wpAny_attempt (wpAny_callSpecial?_slot (name := Str.ofString "__next__") hg.typeIs slot_gen_next
    (wpAny_call_entry slot_gen_next hg.typeIs entry_gen_next ?_ (args_gen_next _))))
  show wpAny _ _ (Builtin.Generator.genWake (.ref a) (.send .none)) _ _ s
  unfold Builtin.Generator.genWake
  refine wpAny_bind (wpAny_holding (wpAny_genNumber hg (wpAny_bind (wpAny_genState hgs ?_))))
  cases gs with
  | running => exact hgo.elim
  | finished => exact hgo.elim
  | _ =>
    refine wpAny_bind (wpAny_roomToWake hl hroom ?_)
    show wpAny _ _ (.resume g (.send .none) [] _) _ _ s
    refine wpAny_wake hgs hgo fun e s₁ he => ?_
    obtain ⟨hq, hk⟩ := hk e s₁ he
    refine ⟨hq, ?_⟩
    split at hk
    · exact wpAny_pure ⟨_, rfl, wpAny_pure hk⟩
    · exact wpAny_stop hh (.inr rfl) hk
    · exact hk.elim

theorem wpAny_pyNext_finished {a : Addr} {g : Nat} {Q : Option Value → Shared → Prop} (hh : A.handled = none)
    (hg : s.heap.IsGen a g) (hgs : s.gens[g]? = some .finished)
    (hk : ∀ h', s.heap.StaysIn h' → Q none { s with heap := h' }) :
    wpAny (model prog w) A (pyNext (.ref a)) Q E s := by
  unfold pyNext
  refine wpAny_bind (wpAny_attempt (wpAny_callSpecial?_slot (name := Str.ofString "__next__") hg.typeIs slot_gen_next
    (wpAny_call_entry slot_gen_next hg.typeIs entry_gen_next ?_ (args_gen_next _))))
  show wpAny _ _ (Builtin.Generator.genWake (.ref a) (.send .none)) _ _ s
  unfold Builtin.Generator.genWake
  refine wpAny_bind (wpAny_holding (wpAny_genNumber hg (wpAny_bind (wpAny_genState hgs ?_))))
  show wpAny _ _ (.resume g (.send .none) [] _) _ _ s
  refine wpAny_resume_finished hgs ?_
  exact wpAny_stop (α := Unit) (k := fun _ => .raise .none) hh (.inl rfl) hk

theorem args_next2 (a b : Value) : argsOk "next" ⟨[a, b], []⟩ := kdk_args_next2 a b

theorem wpAny_next2 {a : Addr} {g : Nat} {d : Value} {Q : Value → Shared → Prop} (hg : s.heap.IsGen a g)
    (h : wpAny (model prog w) A.in1 (pyNext (.ref a)) (fun r s' => Q (r.getD d) s') E s) :
    wpAny (model prog w) A (call (.builtin "next") [.ref a, d]) Q E s := by
  refine call_function_entry (by decide +kernel) (by decide +kernel) kdk_entry_next (kdk_args_next2 _ _) ?_
  unfold Builtin.«next»
  refine wpAny_bind (m := someArgs "next" 1 2 _) (wpAny_of_eq (a := [Value.ref a, d]) (by first | rfl | kernel_rfl!) ?_)
  dsimp only
  refine wpAny_bind (wpAny_specialOf (name := Str.ofString "__next__") hg.typeIs slot_gen_next.lookup ?_)
  refine wpAny_ite_split (fun hab => absurd hab (by decide)) (fun _ => ?_)
  exact wpAny_bind (wpAny_mono h (fun r s' hr => wpAny_pure ⟨_, rfl, hr⟩) fun _ _ x => x)
end
end Mine
end

section -- St1
namespace Mine
open PySem PyProof.Rows PySem.W PySem.Calls PySem.Spec

/-- the text's i-th statement's function, as the top leaves it -/
def fdOf (i : Nat) (pm : Value) (code : Addr) : FuncData :=
  match PySem.Challenge.pw_aw6013_01.main.body[i]? with
  | some (.FunctionDef name params body _ _ _ scope _ _ _) =>
    { name := name, qualname := name, params := params, body := .stmts body, scope := scope, globals := 3, closure := [], defaults := .none, kwdefaults := .none, pyModule := pm, code := .ref code }
  | _ => default
def bodyOf (i : Nat) : List Stmt :=
  match PySem.Challenge.pw_aw6013_01.main.body[i]? with
  | some (.FunctionDef _ _ body _ _ _ _ _ _ _) => body
  | _ => []
theorem fd_body (i : Nat) (pm : Value) (code : Addr) (h : (match PySem.Challenge.pw_aw6013_01.main.body[i]? with | some (.FunctionDef ..) => true | _ => false) = true) :
    (fdOf i pm code).body = .stmts (bodyOf i) := by
  unfold fdOf bodyOf
  split
  · rfl
  · rename_i hh
    exfalso
    split at h
    · rename_i hx; exact hh _ _ _ _ _ _ _ _ _ _ hx
    · cases h

abbrev genv (pm : Value) (L : Addr) : Env := callEnv (fdOf 6 pm 69) L 70
theorem gk_fun (pm : Value) (L : Addr) : (genv pm L).scope.kind = .function := by rfl
theorem gk_target (pm : Value) (L : Addr) : (genv pm L).kindOf "target" = some .local := by rfl
theorem gk_iter (pm : Value) (L : Addr) : (genv pm L).kindOf "iter" = some .globalImplicit := by rfl


end Mine
end

section -- Step
namespace Mine
open PySem PyProof.Rows PySem.W PySem.Calls PySem.Spec
open Sem (wp)

section
variable {prog : Program} {w : World} {A : Around} {E : Value → Shared → Prop} {s : Shared}

theorem pop_dict {K : Type} [DecidableEq K] {knd : KeyKind prog w K} {D : Addr} {kvs : List (K × Value)} {kv : K × Value} {pos : Pos} {Q : Value → Shared → Prop} (hD : (D == sysModules) = false)
    (hm : s.heap.DictOf knd D (kvs ++ [kv])) (hsz : kvs.length + 1 ≤ sizeLine)
    (hQ : ∀ h' o, h'.DictOf knd D kvs → Heap.SameBut D s.heap h' → Q (.ref h'.objs.size) { s with heap := h'.push o }) :
    wpAny (model prog w) A (callWith pos (.builtin "dict.popitem") [.ref D] [] []) Q E s := by
  have hT : s.TypeIs (.ref D) "dict" := hm.typeIs
  refine seqMethod0_meets (S := fun _ R s => s.heap.DictOf knd D (kvs ++ [kv]) ∧ ∀ h' o, h'.DictOf knd D kvs → Heap.SameBut D s.heap h' → R (.ok (.ret (.ref h'.objs.size))) { s with heap := h'.push o })
    F.slot_dict_popitem F.entry_dict_popitem hT (F.args_dict_popitem_1 _) ?_ ⟨hm, hQ⟩
  clear hm hQ hT
  intro prog' w' A R s ⟨hm, hQ⟩
  obtain ⟨o, es, ep, ho, hc, hdat, hk, hp, hn⟩ := id hm
  have hT : s.TypeIs (.ref D) "dict" := hm.typeIs
  unfold Builtin.«dict.popitem»
  refine wpAny_bind ?_
  unfold Builtin.Dict.noArgs
  refine wpAny_bind (wpAny_notOrdered_dict hT ?_)
  show wpAny _ _ (pure D) _ _ s
  refine wpAny_pure ?_
  show wpAny _ _ (Builtin.Dict.showsAll D >>= _) _ _ s
  unfold Builtin.Dict.showsAll
  rw [if_neg (by rw [hD]; exact Bool.false_ne_true)]
  refine wpAny_bind (wpAny_pure ?_)
  refine wpAny_bind (wpAny_dictEntries ho hdat ?_)
  have hlen : es.size = kvs.length + 1 := by have := hp.length; simp at this; omega
  obtain ⟨e, he⟩ : ∃ e, es.back? = some e := by
    rw [Array.back?_eq_getElem?]
    exact ⟨es[es.size - 1]'(by omega), by rw [Array.getElem?_eq_getElem (by omega)]⟩
  rw [he]
  dsimp only
  refine wpAny_bind (wpAny_updateDictKeys ho hdat ?_ (by omega) (by simp; omega))
  have hpop : es.pop.toList = es.toList.dropLast := by simp
  have hps : ∀ {l : List DictEntry} {r : List (K × Value)}, Pairs knd l r → Pairs knd l.dropLast r.dropLast := by
    intro l r h
    induction h with
    | nil => exact .nil
    | cons a b c ih =>
      cases c with
      | nil => exact .nil
      | cons a' b' c' => exact .cons a b ih
  have hd' : (s.heap.update D (Obj.mapDictKeys (·.pop))).DictOf knd D kvs := by
    refine ⟨_, es.pop, ep + 1, Heap.get?_update_self _ ho (Obj.isFreed_of_dict (Obj.data_mapDictKeys hdat _)), hc.mapDictKeys _, Obj.data_mapDictKeys hdat _, ?_, ?_, ?_⟩
    · intro x hx; exact hk x (by
        rw [← Array.mem_toList_iff] at hx ⊢; rw [hpop] at hx; exact List.dropLast_subset _ hx)
    · rw [hpop]; have := hps hp; rwa [List.dropLast_concat] at this
    · rw [List.map_append] at hn; exact (List.nodup_append.mp hn).1
  refine wpAny_bind ?_
  simp only [newTuple]
  refine wpAny_newObj_type ?_ (by size_fits)
  exact wpAny_pure (hQ _ _ hd' (Heap.SameBut.update ..))
end
end Mine
end

section -- Step2
set_option linter.unusedVariables false
namespace Mine
open PySem PyProof.Rows PySem.W PySem.Calls PySem.Spec
open Sem (wp)

section
variable {prog : Program} {w : World} {A : Around} {E : Value → Shared → Prop} {s : Shared} {env : Env}

theorem x_Expr {e : Expr} {pos : Pos} {Q : Flow → Shared → Prop} (h : wpAny (model prog w) A (eval e env) (fun _ s' => Q .next s') E s)
    (hi : interactive env = false := by rfl) (hs : swapsWith e none pos.line env = pure false := by rfl) : wpAny (model prog w) A (exec (.Expr e pos) env) Q E s := by
  rw [exec_Expr env _ pos hi hs]
  exact wpAny_bind (wpAny_standAt (wpAny_bind (wpAny_mono h (fun v s' h' => wpAny_dropValue h') fun _ _ x => x)))

structure Names (mg mb : Str → Option Value) : Prop where
  cell : mg "_law_cell" = some (.ref 77)
  all : mg "_law_all" = some (.ref 82)
  plain : mg "_law_plain" = some (.ref 87)
  build : mg "_build_paths_from_predecessors" = some (.ref 70)
  nopath : mg "NetworkXNoPath" = some (.ref 61)
  iter : mg "iter" = none ∧ mb "iter" = some (.builtin "iter")
  next : mg "next" = none ∧ mb "next" = some (.builtin "next")
  abs : mg "abs" = none ∧ mb "abs" = some (.builtin "abs")
  len : mg "len" = none ∧ mb "len" = some (.builtin "len")
  sorted : mg "sorted" = none ∧ mb "sorted" = some (.builtin "sorted")
  range : mg "range" = none ∧ mb "range" = some (.type "range")
  int : mg "int" = none ∧ mb "int" = some (.type "int")
  set : mg "set" = none ∧ mb "set" = some (.type "set")
  list : mg "list" = none ∧ mb "list" = some (.type "list")

structure Stat (h : Heap) : Prop where
  nolim : h.NoLimit
  names : ∃ mg mb, h.Ns 3 mg ∧ h.Ns 0 mb ∧ Names mg mb

theorem Stat.keep {h h' : Heap} (x : Stat h) (k : h.StaysIn h') : Stat h' :=
  ⟨x.nolim.keeps k, let ⟨mg, mb, a, b, c⟩ := x.names; ⟨mg, mb, a.keeps k, b.keeps k, c⟩⟩

structure InFn (env : Env) : Prop where
  kind : env.scope.kind = .function
  glob : env.globals = 3
  bi : env.builtins = 0

theorem nm_b {n : Str} {v : Value} {pos : Pos} {Q : Value → Shared → Prop} (F : InFn env) (S : Stat s.heap) (hk : env.kindOf n = some .globalImplicit)
    (hn : ∀ mg mb, Names mg mb → mg n = none ∧ mb n = some v) (h : Q v s) (hd : (n == ("__debug__" : Str)) = false := by decide) : wpAny (model prog w) A (eval (.Name n pos) env) Q E s := by
  obtain ⟨mg, mb, a, b, c⟩ := S.names
  obtain ⟨h1, h2⟩ := hn mg mb c
  exact Name_function_global F.kind hk (loadGlobal_builtin (by rw [F.glob]; exact a) h1 (by rw [F.bi]; exact b) h2 h) hd

theorem nm_g {n : Str} {v : Value} {pos : Pos} {Q : Value → Shared → Prop} (F : InFn env) (S : Stat s.heap) (hk : env.kindOf n = some .globalImplicit)
    (hn : ∀ mg mb, Names mg mb → mg n = some v) (h : Q v s) (hd : (n == ("__debug__" : Str)) = false := by decide) : wpAny (model prog w) A (eval (.Name n pos) env) Q E s := by
  obtain ⟨mg, mb, a, b, c⟩ := S.names
  exact Name_function_global F.kind hk (loadGlobal_global (by rw [F.glob]; exact a) (hn mg mb c) h) hd

theorem nm_l {n : Str} {v : Value} {m : Str → Option Value} {pos : Pos} {Q : Value → Shared → Prop} (F : InFn env) (hm : s.heap.Ns env.locals m) (hk : env.kindOf n = some .local)
    (hv : m n = some v) (h : Q v s) (hd : (n == ("__debug__" : Str)) = false := by decide) : wpAny (model prog w) A (eval (.Name n pos) env) Q E s :=
  wpAny_Name (wpAny_loadName_local F.kind hk hm hv h) hd

/-- a call of a built-in function by its name, one argument -/
theorem b1 {n : Str} {id : String} {p pos : Pos} {e : Expr} {Q : Value → Shared → Prop} (F : InFn env) (S : Stat s.heap) (hk : env.kindOf n = some .globalImplicit)
    (hn : ∀ mg mb, Names mg mb → mg n = none ∧ mb n = some (.builtin id))
    (h : wpAny (model prog w) A (eval e env) (fun v s₁ => wpAny (model prog w) A (call (.builtin id) [v]) Q E s₁) E s)
    (ht : backTo pos (starEach [e] env) = [(false, eval e env)] := by rfl) (hd : (n == ("__debug__" : Str)) = false := by decide) :
    wpAny (model prog w) A (eval (.Call (.Name n p) [e] [] pos) env) Q E s :=
  Call_Name ht (nm_b F S hk hn (callWith_builtin1 h) hd)
theorem b2 {n : Str} {id : String} {p pos : Pos} {e e' : Expr} {Q : Value → Shared → Prop} (F : InFn env) (S : Stat s.heap) (hk : env.kindOf n = some .globalImplicit)
    (hn : ∀ mg mb, Names mg mb → mg n = none ∧ mb n = some (.builtin id))
    (h : wpAny (model prog w) A (eval e env) (fun v s₁ => wpAny (model prog w) A (eval e' env) (fun v' s₂ => wpAny (model prog w) A (call (.builtin id) [v, v']) Q E s₂) E s₁) E s)
    (ht : backTo pos (starEach [e, e'] env) = [(false, eval e env), (false, eval e' env)] := by rfl) (hd : (n == ("__debug__" : Str)) = false := by decide) :
    wpAny (model prog w) A (eval (.Call (.Name n p) [e, e'] [] pos) env) Q E s :=
  Call_Name ht (nm_b F S hk hn (callWith_builtin rfl (evalArgs_plain (spliced_cons (wpAny_mono h (fun _ _ h₁ => spliced_cons (wpAny_mono h₁ (fun _ _ h₂ => spliced_nil h₂) fun _ _ e => e)) fun _ _ e => e)))) hd)
theorem t1 {n : Str} {T : String} {p pos : Pos} {e : Expr} {Q : Value → Shared → Prop} (F : InFn env) (S : Stat s.heap) (hk : env.kindOf n = some .globalImplicit)
    (hn : ∀ mg mb, Names mg mb → mg n = none ∧ mb n = some (.type T))
    (h : wpAny (model prog w) A (eval e env) (fun v s₁ => wpAny (model prog w) A (call (.type T) [v]) Q E s₁) E s)
    (ht : backTo pos (starEach [e] env) = [(false, eval e env)] := by rfl) (hd : (n == ("__debug__" : Str)) = false := by decide) :
    wpAny (model prog w) A (eval (.Call (.Name n p) [e] [] pos) env) Q E s :=
  Call_Name ht (nm_b F S hk hn (PySem.callWith_type rfl (evalArgs_plain (spliced_cons (wpAny_mono h (fun _ _ h₁ => spliced_nil h₁) fun _ _ e => e)))) hd)
/-- a call of an own function by its name -/
theorem f1 {n : Str} {f : Addr} {o : Obj} {fd : FuncData} {p pos : Pos} {e : Expr} {Q : Value → Shared → Prop} (F : InFn env) (S : Stat s.heap) (hk : env.kindOf n = some .globalImplicit)
    (hn : ∀ mg mb, Names mg mb → mg n = some (.ref f)) (hdat : o.data = .func fd)
    (h : wpAny (model prog w) A (eval e env) (fun v s₁ => s₁.heap.get? f = some o ∧ wpAny (model prog w) A (call (.ref f) [v]) Q E s₁) E s)
    (ht : backTo pos (starEach [e] env) = [(false, eval e env)] := by rfl) (hd : (n == ("__debug__" : Str)) = false := by decide) :
    wpAny (model prog w) A (eval (.Call (.Name n p) [e] [] pos) env) Q E s :=
  Call_Name ht (nm_g F S hk hn (callWith_function (o := o) (fd := fd) (evalArgs_plain (spliced_cons (wpAny_mono h (fun _ _ h₁ => spliced_nil ⟨⟨h₁.1, hdat⟩, h₁.2⟩) fun _ _ e => e)))) hd)
theorem f2 {n : Str} {f : Addr} {o : Obj} {fd : FuncData} {p pos : Pos} {e e' : Expr} {Q : Value → Shared → Prop} (F : InFn env) (S : Stat s.heap) (hk : env.kindOf n = some .globalImplicit)
    (hn : ∀ mg mb, Names mg mb → mg n = some (.ref f)) (hdat : o.data = .func fd)
    (h : wpAny (model prog w) A (eval e env) (fun v s₁ => wpAny (model prog w) A (eval e' env) (fun v' s₂ => s₂.heap.get? f = some o ∧ wpAny (model prog w) A (call (.ref f) [v, v']) Q E s₂) E s₁) E s)
    (ht : backTo pos (starEach [e, e'] env) = [(false, eval e env), (false, eval e' env)] := by rfl) (hd : (n == ("__debug__" : Str)) = false := by decide) :
    wpAny (model prog w) A (eval (.Call (.Name n p) [e, e'] [] pos) env) Q E s :=
  Call_Name ht (nm_g F S hk hn (callWith_function (o := o) (fd := fd) (evalArgs_plain (spliced_cons (wpAny_mono h (fun _ _ h₁ => spliced_cons (wpAny_mono h₁ (fun _ _ h₂ => spliced_nil ⟨⟨h₂.1, hdat⟩, h₂.2⟩) fun _ _ e => e)) fun _ _ e => e)))) hd)
theorem f3 {n : Str} {f : Addr} {o : Obj} {fd : FuncData} {p pos : Pos} {e e' e'' : Expr} {Q : Value → Shared → Prop} (F : InFn env) (S : Stat s.heap) (hk : env.kindOf n = some .globalImplicit)
    (hn : ∀ mg mb, Names mg mb → mg n = some (.ref f)) (hdat : o.data = .func fd)
    (h : wpAny (model prog w) A (eval e env) (fun v s₁ => wpAny (model prog w) A (eval e' env) (fun v' s₂ => wpAny (model prog w) A (eval e'' env) (fun v'' s₃ => s₃.heap.get? f = some o ∧ wpAny (model prog w) A (call (.ref f) [v, v', v'']) Q E s₃) E s₂) E s₁) E s)
    (ht : backTo pos (starEach [e, e', e''] env) = [(false, eval e env), (false, eval e' env), (false, eval e'' env)] := by rfl) (hd : (n == ("__debug__" : Str)) = false := by decide) :
    wpAny (model prog w) A (eval (.Call (.Name n p) [e, e', e''] [] pos) env) Q E s :=
  Call_Name ht (nm_g F S hk hn (callWith_function (o := o) (fd := fd) (evalArgs_plain (spliced_cons (wpAny_mono h (fun _ _ h₁ => spliced_cons (wpAny_mono h₁ (fun _ _ h₂ =>
    spliced_cons (wpAny_mono h₂ (fun _ _ h₃ => spliced_nil ⟨⟨h₃.1, hdat⟩, h₃.2⟩) fun _ _ e => e)) fun _ _ e => e)) fun _ _ e => e)))) hd)

theorem method0 {o : Expr} {name : Str} {apos pos : Pos} {T id : String} {Q : Value → Shared → Prop} (hpa : PlainAttrs T) (hsl : Slot T name id) (hty : typeOf (.builtin id) = pure (.type "method_descriptor"))
    (h : wpAny (model prog w) A (eval o env) (fun ov s₁ => s₁.TypeIs ov T ∧ (∀ a, ov = .ref a → ∃ ob, s₁.heap.get? a = some ob ∧ ob.dict = none) ∧
      wpAny (model prog w) A (callWith pos (.builtin id) [ov] [] []) Q E s₁) E s)
    (hbase : attributeBase o name env (eval o env) = eval o env := by rfl) (hline : (apos.endLine == pos.line) = true := by rfl) :
    wpAny (model prog w) A (eval (.Call (.Attribute o name apos) [] [] pos) env) Q E s :=
  wpAny_Call_method0_late hbase hline (wpAny_mono h (fun ov s₁ h => ⟨T, id, hpa, hsl, hty, h.1, h.2.1, h.2.2⟩) fun _ _ x => x)
theorem method1 {o e : Expr} {name : Str} {apos pos : Pos} {T id : String} {Q : Value → Shared → Prop} (hpa : PlainAttrs T) (hsl : Slot T name id) (hty : typeOf (.builtin id) = pure (.type "method_descriptor"))
    (h : wpAny (model prog w) A (eval o env) (fun ov s₁ => s₁.TypeIs ov T ∧ (∀ a, ov = .ref a → ∃ ob, s₁.heap.get? a = some ob ∧ ob.dict = none) ∧
      wpAny (model prog w) A (callWith pos (.builtin id) [ov] [(false, eval e env)] []) Q E s₁) E s)
    (hbase : attributeBase o name env (eval o env) = eval o env := by rfl) (hline : (apos.endLine == pos.line) = true := by rfl)
    (htrees : backTo pos (starEach [e] env) = [(false, eval e env)] := by rfl) :
    wpAny (model prog w) A (eval (.Call (.Attribute o name apos) [e] [] pos) env) Q E s :=
  wpAny_Call_method1_late hbase hline htrees (wpAny_mono h (fun ov s₁ h => ⟨T, id, hpa, hsl, hty, h.1, h.2.1, h.2.2⟩) fun _ _ x => x)

end
end Mine
end

section -- Gen3
set_option linter.unusedVariables false
namespace Mine
open PySem PyProof.Rows PySem.W PySem.Calls PySem.Spec
open Sem (wp)

/-- what may have turned between two states: the addresses of F alone -/
structure Chg (F : Addr → Prop) (s s' : Shared) : Prop where
  keep : ∀ b o, ¬ F b → s.heap.get? b = some o → s'.heap.get? b = some o
  gens : s'.gens = s.gens
  os : s'.os = s.os

theorem Chg.refl (F : Addr → Prop) (s : Shared) : Chg F s s := ⟨fun _ _ _ e => e, rfl, rfl⟩
theorem Chg.stays {F : Addr → Prop} {s s' : Shared} (x : Chg F s s') {h : Heap} {t : Nat} (k : s'.heap.StaysIn h) : Chg F s { s' with heap := h, toks := t } :=
  ⟨fun b o hb e => k _ _ (x.keep b o hb e), x.gens, x.os⟩
theorem Chg.tok {F : Addr → Prop} {s s' : Shared} (x : Chg F s s') (t : Nat) : Chg F s { s' with toks := t } := ⟨x.keep, x.gens, x.os⟩
theorem Chg.ext {F : Addr → Prop} {s s' : Shared} (x : Chg F s s') {h : Heap} {t : Nat} {a : Addr} (ha : F a) (k : Heap.ExtBut a s'.heap h) : Chg F s { s' with heap := h, toks := t } :=
  ⟨fun b o hb e => k b o (fun hh => hb (hh ▸ ha)) (x.keep b o hb e), x.gens, x.os⟩
theorem Chg.trans {F : Addr → Prop} {s s' s'' : Shared} (x : Chg F s s') (y : Chg F s' s'') : Chg F s s'' :=
  ⟨fun b o hb e => y.keep b o hb (x.keep b o hb e), y.gens.trans x.gens, y.os.trans x.os⟩
theorem Chg.mono {F G : Addr → Prop} {s s' : Shared} (x : Chg F s s') (h : ∀ b, F b → G b) : Chg G s s' := ⟨fun b o hb e => x.keep b o (fun hh => hb (h b hh)) e, x.gens, x.os⟩
theorem Chg.fresh {F : Addr → Prop} {s s' : Shared} (x : Chg F s s') (new : ∀ b, s.heap.get? b = none → F b) {b : Addr} (hb : s'.heap.get? b = none) : F b :=
  Classical.byContradiction fun hf => by
    cases e : s.heap.get? b with
    | none => exact hf (new b e)
    | some o => rw [x.keep b o hf e] at hb; cases hb

theorem get_size (h : Heap) : h.get? h.objs.size = none := by
  cases e : h.get? h.objs.size with
  | none => rfl
  | some o => exact absurd (Heap.lt_size e) (Nat.lt_irrefl _)

/-- the table of predecessors -/
def PdOk (prog : Program) (w : World) (Z : Heap) (T : Addr) (tb : Int → Option (List Int)) : Prop :=
  (T == sysModules) = false ∧ ∃ kvs : List (Int × Value), Z.DictOf (intKind prog w) T kvs ∧
    ∀ k, match tb k with | none => valueAt kvs k = none | some r => ∃ a, valueAt kvs k = some (.ref a) ∧ IL Z a r

/-- the starts: what `in` says of them -/
def Src (prog : Program) (w : World) (Z : Heap) (sv : Value) (S : Int → Bool) : Prop :=
  ∀ (A : Around) (s : Shared) (k : Int) (t : Tok) (Q E : Value → Shared → Prop), Z.StaysIn s.heap → A.units + 64 < cLine →
    (∀ tk, Q (.bool (S k)) { s with toks := tk }) → wpAny (model prog w) A (compareOp .In (.int k t) sv) Q E s

structure GC (s0 : Shared) (Z : Heap) (F : Addr → Prop) (L D P : Addr) : Prop where
  out : ∀ b, F b → Z.get? b = none
  new : ∀ b, s0.heap.get? b = none → F b
  fL : F L
  fD : F D
  fP : F P
  DL : D ≠ L
  PL : P ≠ L
  PD : P ≠ D
  sD : (D == sysModules) = false
  stat : Stat Z

def ItOk (Z : Heap) (F : Addr → Prop) (L D P : Addr) (h : Heap) (kv : Int × Value) (e : Int × List Int) : Prop :=
  kv.1 = e.1 ∧ ∃ it ra i ns, kv.2 = .ref it ∧ F it ∧ it ≠ L ∧ it ≠ D ∧ it ≠ P ∧ h.IsListIter it ra i ∧ IL Z ra ns ∧ ns.drop i = e.2

structure GI (prog : Program) (w : World) (s0 : Shared) (Z : Heap) (F : Addr → Prop) (L : Addr) (sv : Value) (T D P : Addr) (X : (Str → Option Value) → Prop) (kvs : List (Int × Value)) (bs : List (Int × List Int)) (ex : List (Int × Value)) (s : Shared) : Prop where
  chg : Chg F s0 s
  z : Z.StaysIn s.heap
  fr : ∃ m, s.heap.Ns L m ∧ (m "sources" = some sv ∧ m "pred" = some (.ref T) ∧ m "stack" = some (.ref D) ∧ m "path" = some (.ref P)) ∧ X m
  dict : s.heap.DictOf (intKind prog w) D (kvs ++ ex)
  len : kvs.length = bs.length
  its : ∀ (j : Nat) (kv : Int × Value) (e : Int × List Int), kvs[j]? = some kv → bs[j]? = some e → ItOk Z F L D P s.heap kv e
  inj : ∀ (i j : Nat) (kv kv' : Int × Value), kvs[i]? = some kv → kvs[j]? = some kv' → kv.2 = kv'.2 → i = j
  path : ∃ vs n, s.heap.get? P = some (lob vs n) ∧ IntsAre vs (bs.map (·.1) ++ ex.map (·.1))

section
variable {prog : Program} {w : World} {s0 : Shared} {Z : Heap} {F : Addr → Prop} {L : Addr} {sv : Value} {T D P : Addr} {X X' : (Str → Option Value) → Prop} {kvs ex : List (Int × Value)} {bs : List (Int × List Int)} {s : Shared}

theorem iter_ext {h h' : Heap} {it ra i a} (x : h.IsListIter it ra i) (k : Heap.ExtBut a h h') (ne : it ≠ a) : h'.IsListIter it ra i :=
  let ⟨o, ho, r⟩ := x; ⟨o, k _ _ ne ho, r⟩
theorem ItOk.ext {h h' : Heap} {kv e a} (x : ItOk Z F L D P h kv e) (k : Heap.ExtBut a h h') (ne : ∀ it, kv.2 = .ref it → it ≠ a) : ItOk Z F L D P h' kv e :=
  let ⟨h1, it, ra, i, ns, h2, h3, h4, h5, h6, h7, h8⟩ := x
  ⟨h1, it, ra, i, ns, h2, h3, h4, h5, h6, iter_ext h7 k (ne it h2), h8⟩

theorem GI.stays (g : GI prog w s0 Z F L sv T D P X kvs bs ex s) {h : Heap} {t : Nat} (k : s.heap.StaysIn h) : GI prog w s0 Z F L sv T D P X kvs bs ex { s with heap := h, toks := t } where
  chg := g.chg.stays k
  z := stays_trans g.z k
  fr := let ⟨m, a, r⟩ := g.fr; ⟨m, a.keeps k, r⟩
  dict := g.dict.keep k
  len := g.len
  its := fun j kv e h1 h2 => let ⟨h1, it, ra, i, ns, h2, h3, h4, h5, h6, ⟨o, h7, h8⟩, h9⟩ := g.its j kv e h1 h2; ⟨h1, it, ra, i, ns, h2, h3, h4, h5, h6, ⟨o, k _ _ h7, h8⟩, h9⟩
  inj := g.inj
  path := let ⟨vs, n, a, b⟩ := g.path; ⟨vs, n, k _ _ a, b⟩

theorem GI.push (g : GI prog w s0 Z F L sv T D P X kvs bs ex s) (o : Obj) (t : Nat) : GI prog w s0 Z F L sv T D P X kvs bs ex { s with heap := s.heap.push o, toks := t } := g.stays (keep_push o)
theorem GI.tok (g : GI prog w s0 Z F L sv T D P X kvs bs ex s) (t : Nat) : GI prog w s0 Z F L sv T D P X kvs bs ex { s with toks := t } := g.stays (h := s.heap) (fun _ _ e => e)
theorem GI.weak (g : GI prog w s0 Z F L sv T D P X kvs bs ex s) (h : ∀ m, X m → X' m) : GI prog w s0 Z F L sv T D P X' kvs bs ex s :=
  { g with fr := let ⟨m, a, b, c⟩ := g.fr; ⟨m, a, b, h m c⟩ }

/-- an iterator's address is none of the others -/
theorem GI.itne (g : GI prog w s0 Z F L sv T D P X kvs bs ex s) {j : Nat} {kv : Int × Value} (h1 : kvs[j]? = some kv) {it : Addr} (h2 : kv.2 = .ref it) : it ≠ L ∧ it ≠ D ∧ it ≠ P ∧ F it := by
  have hj : j < bs.length := by rw [← g.len]; exact (List.getElem?_eq_some_iff.mp h1).1
  obtain ⟨_, it', _, _, _, e2, f, n1, n2, n3, _⟩ := g.its j kv _ h1 (List.getElem?_eq_getElem hj)
  rw [e2] at h2; cases h2
  exact ⟨n1, n2, n3, f⟩

/-- a name is stored -/
theorem GI.store (C : GC s0 Z F L D P) (g : GI prog w s0 Z F L sv T D P X kvs bs ex s) {n : Str} {v : Value} {m : Str → Option Value} {h : Heap} {t : Nat}
    (hn : h.Ns L (fun x => if x = n then some v else m x)) (hs : Heap.SameBut L s.heap h)
    (h4 : m "sources" = some sv ∧ m "pred" = some (.ref T) ∧ m "stack" = some (.ref D) ∧ m "path" = some (.ref P))
    (hx : X' (fun x => if x = n then some v else m x))
    (hne : (Str.ofString "sources" ≠ n ∧ Str.ofString "pred" ≠ n ∧ Str.ofString "stack" ≠ n ∧ Str.ofString "path" ≠ n) := by decide) :
    GI prog w s0 Z F L sv T D P X' kvs bs ex { s with heap := h, toks := t } where
  chg := g.chg.ext C.fL hs.extBut
  z := fun b o e => hs.extBut b o (fun hh => by rw [hh, C.out _ C.fL] at e; cases e) (g.z b o e)
  fr := ⟨_, hn, ⟨by rw [if_neg hne.1]; exact h4.1, by rw [if_neg hne.2.1]; exact h4.2.1, by rw [if_neg hne.2.2.1]; exact h4.2.2.1, by rw [if_neg hne.2.2.2]; exact h4.2.2.2⟩, hx⟩
  dict := g.dict.extBut hs.extBut C.DL
  len := g.len
  its := fun j kv e h1 h2 => (g.its j kv e h1 h2).ext hs.extBut fun it hit => (g.itne h1 hit).1
  inj := g.inj
  path := let ⟨vs, n, a, b⟩ := g.path; ⟨vs, n, hs.extBut _ _ C.PL a, b⟩

theorem GI.keys (g : GI prog w s0 Z F L sv T D P X kvs bs ex s) : kvs.map (·.1) = bs.map (·.1) := by
  apply List.ext_getElem?
  intro j
  rw [List.getElem?_map, List.getElem?_map]
  cases h1 : kvs[j]? with
  | none =>
    rw [List.getElem?_eq_none (by have := List.getElem?_eq_none_iff.mp h1; rw [g.len] at this; exact this)]; rfl
  | some kv =>
    have hj : j < bs.length := by rw [← g.len]; exact (List.getElem?_eq_some_iff.mp h1).1
    rw [List.getElem?_eq_getElem hj]
    exact congrArg some (g.its j kv _ h1 (List.getElem?_eq_getElem hj)).1

theorem GI.nodup (g : GI prog w s0 Z F L sv T D P X kvs bs ex s) : ((kvs ++ ex).map (·.1)).Nodup := by
  obtain ⟨_, _, _, _, _, _, _, _, h⟩ := g.dict
  exact h

theorem isSome_valueAt (kvs : List (Int × Value)) (x : Int) : (valueAt kvs x).isSome = (kvs.map (·.1)).contains x := by
  unfold valueAt
  rw [Option.isSome_map]
  induction kvs with
  | nil => rfl
  | cons a r ih =>
    rw [List.map_cons, List.contains_cons, List.find?_cons]
    by_cases h : a.1 = x
    · simp [h]
    · have h' : ¬ x = a.1 := fun e => h e.symm
      simp only [h, decide_false]
      rw [ih]; simp [h']
end
end Mine
end

section -- Gen4
set_option linter.unusedVariables false
namespace Mine
open PySem PyProof.Rows PySem.W PySem.Calls PySem.Spec
open Sem (wp)

section
variable {prog : Program} {w : World} {s0 : Shared} {Z : Heap} {F : Addr → Prop} {L : Addr} {sv : Value} {T D P : Addr} {X X' : (Str → Option Value) → Prop} {kvs ex : List (Int × Value)} {bs : List (Int × List Int)} {s : Shared}
  {A : Around} {E : Value → Shared → Prop}

theorem last_getElem {α : Type} (l : List α) (a : α) : (l ++ [a])[l.length]? = some a := by simp
theorem snoc_cases {α : Type} {l : List α} {a x : α} {j : Nat} (h : (l ++ [a])[j]? = some x) : (j < l.length ∧ l[j]? = some x) ∨ (j = l.length ∧ x = a) := by
  rcases Nat.lt_trichotomy j l.length with hj | hj | hj
  · left; exact ⟨hj, by rwa [List.getElem?_append_left hj] at h⟩
  · right; subst hj; rw [last_getElem] at h; exact ⟨rfl, (Option.some.inj h).symm⟩
  · rw [List.getElem?_append_right (by omega)] at h
    obtain ⟨h1, _⟩ := List.getElem?_eq_some_iff.mp h
    simp at h1; omega

theorem GI.top {it : Addr} {k : Int} {r : List Int} (g : GI prog w s0 Z F L sv T D P X (kvs ++ [(k, .ref it)]) (bs ++ [(k, r)]) ex s) :
    kvs.length = bs.length ∧ F it ∧ it ≠ L ∧ it ≠ D ∧ it ≠ P ∧ ∃ ra i ns, s.heap.IsListIter it ra i ∧ IL Z ra ns ∧ ns.drop i = r := by
  have hl : kvs.length = bs.length := by have := g.len; simpa using this
  obtain ⟨_, it', ra, i, ns, e2, f, n1, n2, n3, h⟩ := g.its kvs.length _ (k, r) (last_getElem _ _) (by rw [hl]; exact last_getElem _ _)
  cases e2
  exact ⟨hl, f, n1, n2, n3, ra, i, ns, h⟩

theorem gnext_some {it : Addr} {k x : Int} {r : List Int} {Q : Option Value → Shared → Prop} (C : GC s0 Z F L D P)
    (g : GI prog w s0 Z F L sv T D P X (kvs ++ [(k, .ref it)]) (bs ++ [(k, x :: r)]) ex s)
    (hQ : ∀ h' t, GI prog w s0 Z F L sv T D P X (kvs ++ [(k, .ref it)]) (bs ++ [(k, r)]) ex { s with heap := h' } → Q (some (.int x t)) { s with heap := h' }) :
    wpAny (model prog w) A (pyNext (.ref it)) Q E s := by
  obtain ⟨hl, f, n1, n2, n3, ra, i, ns, hit, hra, hd⟩ := g.top
  obtain ⟨vs, n, ho, hi⟩ := hra
  have hns : ns[i]? = some x := by
    have : (ns.drop i)[0]? = some x := by rw [hd]; rfl
    simpa using this
  obtain ⟨t, ht⟩ := ia_get hi hns
  have hlist : s.heap.IsList ra vs.toArray := ⟨_, g.z _ _ ho, rfl, n, rfl⟩
  refine wpAny_pyNext_list_item hit hlist (x := .int x t) (by simpa using ht) fun h' hit' hs => ?_
  refine hQ h' t ?_
  exact {
    chg := g.chg.ext (t := s.toks) f hs.extBut
    z := fun b o e => hs.extBut b o (fun hh => by rw [hh, C.out _ f] at e; cases e) (g.z b o e)
    fr := let ⟨m, a, r⟩ := g.fr; ⟨m, a.extBut hs.extBut (Ne.symm n1), r⟩
    dict := g.dict.extBut hs.extBut (Ne.symm n2)
    len := by have := g.len; simpa using this
    its := fun j kv e h1 h2 => by
      rcases snoc_cases h1 with ⟨hj, h1'⟩ | ⟨hj, rfl⟩
      · have h2' : bs[j]? = some e := by rw [List.getElem?_append_left (by omega)] at h2; exact h2
        refine (g.its j kv e h1 (by rw [List.getElem?_append_left (by omega)]; exact h2')).ext hs.extBut fun it' e' => ?_
        intro hh
        have := g.inj j kvs.length kv _ h1 (last_getElem _ _) (by rw [e', hh])
        omega
      · rw [hj, hl, last_getElem] at h2
        cases h2
        refine ⟨rfl, it, ra, i + 1, ns, rfl, f, n1, n2, n3, hit', ⟨vs, n, ho, hi⟩, ?_⟩
        rw [← List.drop_drop, hd]; rfl
    inj := g.inj
    path := let ⟨vs, n, a, b⟩ := g.path; ⟨vs, n, hs.extBut _ _ (Ne.symm n3) a, by simpa using b⟩ }

theorem gnext_none {it : Addr} {k : Int} {Q : Option Value → Shared → Prop} (C : GC s0 Z F L D P) (hh : A.handled = none)
    (g : GI prog w s0 Z F L sv T D P X (kvs ++ [(k, .ref it)]) (bs ++ [(k, [])]) [] s)
    (hQ : ∀ h', GI prog w s0 Z F L sv T D P X kvs bs [(k, .ref it)] { s with heap := h' } → Q none { s with heap := h' }) :
    wpAny (model prog w) A (pyNext (.ref it)) Q E s := by
  obtain ⟨hl, f, n1, n2, n3, ra, i, ns, hit, hra, hd⟩ := g.top
  obtain ⟨vs, n, ho, hi⟩ := hra
  have hns : vs[i]? = none := by
    have h1 := ia_len hi
    have h2 : ns.length ≤ i := by
      have : (ns.drop i).length = 0 := by rw [hd]; rfl
      simp at this; omega
    exact List.getElem?_eq_none (by omega)
  have hlist : s.heap.IsList ra vs.toArray := ⟨_, g.z _ _ ho, rfl, n, rfl⟩
  refine wpAny_pyNext_list_end hh hit hlist (by simpa using hns) fun h' hs => ?_
  refine hQ h' ?_
  exact {
    chg := g.chg.ext (t := s.toks) f hs
    z := fun b o e => hs b o (fun hh => by rw [hh, C.out _ f] at e; cases e) (g.z b o e)
    fr := let ⟨m, a, r⟩ := g.fr; ⟨m, a.extBut hs (Ne.symm n1), r⟩
    dict := by have := g.dict.extBut hs (Ne.symm n2); simpa using this
    len := hl
    its := fun j kv e h1 h2 => by
      have hj := (List.getElem?_eq_some_iff.mp h1).1
      have h1' : (kvs ++ [(k, Value.ref it)])[j]? = some kv := by rw [List.getElem?_append_left hj]; exact h1
      refine (g.its j kv e h1' (by rw [List.getElem?_append_left (by omega)]; exact h2)).ext hs fun it' e' => ?_
      intro hh
      have := g.inj j kvs.length kv _ h1' (last_getElem _ _) (by rw [e', hh])
      omega
    inj := fun i j kv kv' h1 h2 e => g.inj i j kv kv' (by rw [List.getElem?_append_left (List.getElem?_eq_some_iff.mp h1).1]; exact h1) (by rw [List.getElem?_append_left (List.getElem?_eq_some_iff.mp h2).1]; exact h2) e
    path := let ⟨vs, n, a, b⟩ := g.path; ⟨vs, n, hs _ _ (Ne.symm n3) a, by simpa using b⟩ }
end
end Mine
end

section -- Gen5
set_option linter.unusedVariables false
namespace Mine
open PySem PyProof.Rows PySem.W PySem.Calls PySem.Spec
open Sem (wp)

def nthS (l : List Stmt) (i : Nat) : Stmt := l[i]?.getD (.Pass default)
def bodyS : Stmt → List Stmt
  | .While _ b _ _ => b
  | .For _ _ b _ _ => b
  | .If _ b _ _ => b
  | _ => []
def elseS : Stmt → List Stmt
  | .While _ _ b _ => b
  | .For _ _ _ b _ => b
  | .If _ _ b _ => b
  | _ => []
def testS : Stmt → Expr
  | .While t _ _ _ => t
  | .If t _ _ _ => t
  | _ => .Constant .none 0 default
def posS : Stmt → Pos
  | .While _ _ _ p => p
  | _ => default

def gWhile : Stmt := nthS (bodyOf 6) 3
def gFor : Stmt := nthS (bodyS gWhile) 2

section
variable (pm : Value) (L : Addr)
theorem g_fn : InFn (genv pm L) := ⟨rfl, rfl, rfl⟩
theorem gk_sources : (genv pm L).kindOf "sources" = some .local := by rfl
theorem gk_pred : (genv pm L).kindOf "pred" = some .local := by rfl
theorem gk_stack : (genv pm L).kindOf "stack" = some .local := by rfl
theorem gk_path : (genv pm L).kindOf "path" = some .local := by rfl
theorem gk_node : (genv pm L).kindOf "node" = some .local := by rfl
theorem gk_earlier : (genv pm L).kindOf "earlier" = some .local := by rfl
theorem gk_nopath : (genv pm L).kindOf "NetworkXNoPath" = some .globalImplicit := by rfl
end

section
variable {prog : Program} {w : World} {s0 : Shared} {Z : Heap} {O : Addr → Prop} {pm : Value} {L : Addr} {sv : Value} {T D Pa : Addr} {X X' : (Str → Option Value) → Prop} {kvs ex : List (Int × Value)} {bs : List (Int × List Int)} {s : Shared}
  {A : Around} {E : Value → Shared → Prop}

theorem GI.nm_stack (g : GI prog w s0 Z O L sv T D Pa X kvs bs ex s) {pos : Pos} {Q : Value → Shared → Prop} (h : Q (.ref D) s) : wpAny (model prog w) A (eval (.Name "stack" pos) (genv pm L)) Q E s := by
  obtain ⟨m, hm, h4, hx⟩ := g.fr
  exact nm_l (g_fn pm L) hm (gk_stack pm L) h4.2.2.1 h
theorem GI.nm_path (g : GI prog w s0 Z O L sv T D Pa X kvs bs ex s) {pos : Pos} {Q : Value → Shared → Prop} (h : Q (.ref Pa) s) : wpAny (model prog w) A (eval (.Name "path" pos) (genv pm L)) Q E s := by
  obtain ⟨m, hm, h4, hx⟩ := g.fr
  exact nm_l (g_fn pm L) hm (gk_path pm L) h4.2.2.2 h
theorem GI.nm_pred (g : GI prog w s0 Z O L sv T D Pa X kvs bs ex s) {pos : Pos} {Q : Value → Shared → Prop} (h : Q (.ref T) s) : wpAny (model prog w) A (eval (.Name "pred" pos) (genv pm L)) Q E s := by
  obtain ⟨m, hm, h4, hx⟩ := g.fr
  exact nm_l (g_fn pm L) hm (gk_pred pm L) h4.2.1 h
theorem GI.nm_sources (g : GI prog w s0 Z O L sv T D Pa X kvs bs ex s) {pos : Pos} {Q : Value → Shared → Prop} (h : Q sv s) : wpAny (model prog w) A (eval (.Name "sources" pos) (genv pm L)) Q E s := by
  obtain ⟨m, hm, h4, hx⟩ := g.fr
  exact nm_l (g_fn pm L) hm (gk_sources pm L) h4.1 h
theorem GI.nm_x {n : Str} {v : Value} (g : GI prog w s0 Z O L sv T D Pa (fun m => m n = some v) kvs bs ex s) {pos : Pos} {Q : Value → Shared → Prop} (hk : (genv pm L).kindOf n = some .local) (h : Q v s)
    (hd : (n == ("__debug__" : Str)) = false := by decide) : wpAny (model prog w) A (eval (.Name n pos) (genv pm L)) Q E s := by
  obtain ⟨m, hm, h4, hx⟩ := g.fr
  exact nm_l (g_fn pm L) hm hk hx h hd

theorem GI.re {kvs' ex' : List (Int × Value)} {bs' : List (Int × List Int)} {s1 : Shared} (C : GC s0 Z O L D Pa) (g : GI prog w s0 Z O L sv T D Pa X kvs bs ex s)
    (hk : ∀ b o, b ≠ D → b ≠ Pa → s.heap.get? b = some o → s1.heap.get? b = some o) (hg : s1.gens = s.gens) (ho : s1.os = s.os)
    (hd : s1.heap.DictOf (intKind prog w) D (kvs' ++ ex')) (hl : kvs'.length = bs'.length)
    (hits : ∀ (j : Nat) (kv : Int × Value) (e : Int × List Int), kvs'[j]? = some kv → bs'[j]? = some e → ItOk Z O L D Pa s1.heap kv e)
    (hinj : ∀ (i j : Nat) (kv kv' : Int × Value), kvs'[i]? = some kv → kvs'[j]? = some kv' → kv.2 = kv'.2 → i = j)
    (hp : ∃ vs n, s1.heap.get? Pa = some (lob vs n) ∧ IntsAre vs (bs'.map (·.1) ++ ex'.map (·.1))) : GI prog w s0 Z O L sv T D Pa X kvs' bs' ex' s1 where
  chg := ⟨fun b o hb e => hk b o (fun hh => hb (hh ▸ C.fD)) (fun hh => hb (hh ▸ C.fP)) (g.chg.keep b o hb e), hg.trans g.chg.gens, ho.trans g.chg.os⟩
  z := fun b o e => hk b o (fun hh => by rw [hh, C.out _ C.fD] at e; cases e) (fun hh => by rw [hh, C.out _ C.fP] at e; cases e) (g.z b o e)
  fr := by
    obtain ⟨m, ⟨o, es, ep, h1, h2⟩, h4⟩ := g.fr
    exact ⟨m, ⟨o, es, ep, hk L o (Ne.symm C.DL) (Ne.symm C.PL) h1, h2⟩, h4⟩
  dict := hd
  len := hl
  its := hits
  inj := hinj
  path := hp

theorem ItOk.by' {h h' : Heap} {kv e} (x : ItOk Z O L D Pa h kv e) (k : ∀ b o, b ≠ D → b ≠ Pa → h.get? b = some o → h'.get? b = some o) : ItOk Z O L D Pa h' kv e :=
  let ⟨h1, it, ra, i, ns, h2, h3, h4, h5, h6, ⟨o, h7, h9⟩, h8⟩ := x
  ⟨h1, it, ra, i, ns, h2, h3, h4, h5, h6, ⟨o, k _ _ h5 h6 h7, h9⟩, h8⟩

theorem ia_dropLast {vs : List Value} {ns : List Int} {k : Int} (h : IntsAre vs (ns ++ [k])) : IntsAre vs.dropLast ns := by
  induction ns generalizing vs with
  | nil => cases h with | cons n t r => cases r; exact .nil
  | cons a r ih =>
    cases h with
    | cons n t r' =>
      have := ih r'
      have hr : r.append [k] = r ++ [k] := rfl
      rw [hr] at r'
      generalize hr : r ++ [k] = q at r'
      cases r' with
      | nil => simp at hr
      | cons n' t' h' => exact .cons _ _ this
theorem ia_append : ∀ {vs us : List Value} {ns ms : List Int}, IntsAre vs ns → IntsAre us ms → IntsAre (vs ++ us) (ns ++ ms)
  | _, _, _, _, .nil, h => h
  | _, _, _, _, .cons n t r, h => .cons n t (ia_append r h)

theorem g_else {kv : Int × Value} {Q : Flow → Shared → Prop} (C : GC s0 Z O L D Pa) (hb : bs.length ≤ 1000)
    (g : GI prog w s0 Z O L sv T D Pa X kvs bs [kv] s) (hQ : ∀ s', GI prog w s0 Z O L sv T D Pa X kvs bs [] s' → Q .next s') :
    wpAny (model prog w) A (execs (elseS gFor) (genv pm L)) Q E s := by
  have hlen : kvs.length ≤ 1000 := by rw [g.len]; exact hb
  refine wpAny_execs_cons (x_Expr (method0 F.plainAttrs_dict F.slot_dict_popitem F.type_dict_popitem (g.nm_stack ?_)))
  refine ⟨g.dict.typeIs, fun a ha => by cases ha; obtain ⟨o, _, _, ho, hc, _⟩ := g.dict; exact ⟨o, ho, hc.2.1⟩, ?_⟩
  refine pop_dict C.sD g.dict (by show _ ≤ 2 ^ 24; omega) fun h' o hd hs => ?_
  obtain ⟨m, hm, h4, hx⟩ := g.fr
  obtain ⟨vs, n, ho, hi⟩ := g.path
  have hP : (h'.push o).get? Pa = some (lob vs n) := Heap.get?_push_of_some _ (hs.extBut _ _ C.PD ho)
  have hm' : (h'.push o).Ns L m := (hm.extBut hs.extBut (Ne.symm C.DL)).push o
  refine wpAny_execs_cons (x_Expr (method0 F.plainAttrs_list F.slot_list_pop F.type_list_pop (nm_l (g_fn pm L) hm' (gk_path pm L) h4.2.2.2 ?_)))
  refine ⟨⟨_, hP, rfl⟩, fun a ha => by cases ha; exact ⟨_, hP, rfl⟩, ?_⟩
  have hvl : vs.length = bs.length + 1 := by rw [ia_len hi]; simp
  obtain ⟨y, hy⟩ : ∃ y, vs.toArray[vs.toArray.size - 1]? = some y := ⟨vs.toArray[vs.toArray.size - 1]'(by simp; omega), Array.getElem?_eq_getElem _⟩
  refine P.pop_list (items := vs.toArray) (n := n) hP hy ?_ (by show _ ≤ 2 ^ 24; simp; omega)
  refine wpAny_execs_nil (hQ _ ?_)
  have hk : ∀ b o₁, b ≠ D → b ≠ Pa → s.heap.get? b = some o₁ → ((h'.push o).update Pa (Obj.mapSeq fun xs => xs.eraseIdxIfInBounds (vs.toArray.size - 1))).get? b = some o₁ := fun b o₁ h1 h2 e =>
    (Heap.get?_update_other _ _ (Ne.symm h2)).trans (Heap.get?_push_of_some _ (hs.extBut _ _ h1 e))
  refine g.re C hk rfl rfl ?_ g.len (fun j kv e h1 h2 => (g.its j kv e h1 h2).by' hk) g.inj ?_
  · rw [List.append_nil]
    exact (hd.push o).sameBut (Heap.SameBut.update ..) (Ne.symm C.PD)
  · have key := IsL.update (show IsL (h'.push o) Pa vs.toArray n from hP) (fun xs => xs.eraseIdxIfInBounds (vs.toArray.size - 1))
    have e : vs.toArray.eraseIdxIfInBounds (vs.toArray.size - 1) = vs.dropLast.toArray := by
      apply Array.ext'
      rw [Array.eraseIdxIfInBounds]
      rw [dif_pos (by simp; omega)]
      simp only [Array.toList_eraseIdx, List.size_toArray]
      rw [List.eraseIdx_length_sub_one]
    rw [e] at key
    refine ⟨vs.dropLast, _, key, ?_⟩
    rw [List.map_nil, List.append_nil]
    exact ia_dropLast hi
end
end Mine
end

section -- Gen6
set_option linter.unusedVariables false
namespace Mine
open PySem PyProof.Rows PySem.W PySem.Calls PySem.Spec
open Sem (wp)

section
variable {prog : Program} {w : World} {A : Around} {E : Value → Shared → Prop} {s : Shared}

theorem call_iter_list {l : Addr} {vs : Array Value} {Q : Value → Shared → Prop} (hl : s.heap.IsList l vs)
    (h : Q (.ref s.heap.objs.size) { s with heap := s.heap.push { cls := .type "list_iterator", data := .fields #[.ref l, .int 0 0] } }) :
    wpAny (model prog w) A (call (.builtin "iter") [.ref l]) Q E s := by
  refine call_function_entry (by decide +kernel) (by decide +kernel) kdk_entry_iter (kdk_args_iter _) ?_
  unfold Builtin.«iter»
  refine wpAny_bind (m := someArgs "iter" 1 2 _) (wpAny_of_eq (a := [Value.ref l]) (by first | rfl | kernel_rfl!) ?_)
  dsimp only
  refine wpAny_bind (wpAny_pyIter_list hl ?_)
  exact wpAny_pure ⟨_, rfl, h⟩

theorem stored_new {kvs : List (Int × Value)} {k : Int} {v : Value} (h : k ∉ kvs.map (·.1)) : stored kvs k v = kvs ++ [(k, v)] := by
  unfold stored
  rw [if_neg]
  intro hh
  rw [List.any_eq_true] at hh
  obtain ⟨kv, h1, h2⟩ := hh
  exact h (List.mem_map.mpr ⟨kv, h1, by simpa using h2⟩)
end

section
variable {prog : Program} {w : World} {s0 : Shared} {Z : Heap} {O : Addr → Prop} {pm : Value} {L : Addr} {sv : Value} {T D Pa : Addr} {X X' : (Str → Option Value) → Prop} {kvs ex : List (Int × Value)} {bs : List (Int × List Int)} {s : Shared}
  {A : Around} {E : Value → Shared → Prop} {tb : Int → Option (List Int)}

theorem g_turn {x : Int} {t : Tok} {Q : Flow → Shared → Prop} (C : GC s0 Z O L D Pa) (PD : PdOk prog w Z T tb) (hb : bs.length ≤ 1000)
    (g : GI prog w s0 Z O L sv T D Pa (fun m => m "earlier" = some (.int x t)) kvs bs [] s)
    (htb : x ∉ bs.map (·.1) → ∃ r, tb x = some r)
    (hc : x ∈ bs.map (·.1) → ∀ s', GI prog w s0 Z O L sv T D Pa (fun _ => True) kvs bs [] s' → Q .cont s')
    (hq : x ∉ bs.map (·.1) → ∀ r, tb x = some r → ∀ s' it, GI prog w s0 Z O L sv T D Pa (fun _ => True) (kvs ++ [(x, .ref it)]) (bs ++ [(x, r)]) [] s' → Q .brk s') :
    wpAny (model prog w) A (execs (bodyS gFor) (genv pm L)) Q E s := by
  have hlen : kvs.length ≤ 1000 := by rw [g.len]; exact hb
  have gd : s.heap.DictOf (intKind prog w) D kvs := by have := g.dict; rwa [List.append_nil] at this
  refine wpAny_execs_cons (wpAny_If (wpAny_isTrue_Compare1 (g.nm_x (gk_earlier pm L) (g.nm_stack (wpAny_in_of (intKind_is prog w x t) C.sD gd.mapOf (wpAny_truthy_bool ?_))))))
  rw [isSome_valueAt, g.keys]
  by_cases hx : x ∈ bs.map (·.1)
  · rw [if_pos (by simpa using hx)]
    exact wpAny_execs_cons (wpAny_Continue (hc hx _ ((g.tok _).weak fun _ _ => trivial)))
  · rw [if_neg (by simpa using hx)]
    refine wpAny_execs_nil ?_
    dsimp only
    obtain ⟨r, hr⟩ := htb hx
    obtain ⟨sT, tkvs, hT, hTb⟩ := PD
    have hv := hTb x
    rw [hr] at hv
    obtain ⟨ra, hva, hra⟩ := hv
    have g1 := g.tok (s.toks + 1)
    refine wpAny_execs_cons (wpAny_Assign_Subscript (b1 (g_fn pm L) (C.stat.keep g1.z) (gk_iter pm L) (fun _ _ N => N.iter)
      (Subscript_Name (g1.nm_pred (g1.nm_x (gk_earlier pm L) ⟨"dict", _, F.slot_dict_getitem.lookup, (hT.keep g1.z).typeIs, ?_⟩)))))
    refine wpAny_getItem_of (intKind_is prog w x t) (hT.keep g1.z).mapOf hva ?_
    obtain ⟨vs, n, hro, hri⟩ := hra
    refine call_iter_list (vs := vs.toArray) ⟨_, g1.z _ _ hro, rfl, n, rfl⟩ ?_
    have g2 := g1.push { cls := .type "list_iterator", data := .fields #[.ref ra, .int 0 0] } (s.toks + 1 + 1)
    refine g2.nm_stack (g2.nm_x (gk_earlier pm L) ?_)
    have gd2 := g2.dict
    rw [List.append_nil] at gd2
    refine wpAny_setItem_pairs (intKind_is prog w x t) gd2 (fun h' hd hs => ?_) (by show _ ≤ 2 ^ 24; omega)
    dsimp only
    have hxk : x ∉ kvs.map (·.1) := by rw [g.keys]; exact hx
    rw [stored_new hxk] at hd
    obtain ⟨m, hm, h4, hx'⟩ := g2.fr
    have hm' : h'.Ns L m := hm.extBut hs.extBut (Ne.symm C.DL)
    obtain ⟨vs', n', hp, hi⟩ := g2.path
    have hp' := hs.extBut _ _ C.PD hp
    refine wpAny_execs_cons (x_Expr (method1 F.plainAttrs_list F.slot_list_append type_list_append (nm_l (g_fn pm L) hm' (gk_path pm L) h4.2.2.2 ?_)))
    refine ⟨⟨_, hp', rfl⟩, fun a ha => by cases ha; exact ⟨_, hp', rfl⟩, ?_⟩
    refine P.append_list (nm_l (g_fn pm L) hm' (gk_earlier pm L) hx' ?_)
    have hvl : vs'.length = bs.length := by rw [ia_len hi]; simp
    refine ⟨vs'.toArray, n', by show _ ≤ 2 ^ 24; simp; omega, hp', ?_⟩
    refine wpAny_execs_cons (wpAny_Break (hq hx r hr _ s.heap.objs.size ?_))
    have live : ∀ b o, s.heap.get? b = some o → s.heap.objs.size ≠ b := fun b o e hh => by rw [← hh, get_size] at e; cases e
    obtain ⟨mL, ⟨oL, esL, epL, hoL, _⟩, _⟩ := g.fr
    obtain ⟨oD, _, _, hoD, _⟩ := g.dict
    obtain ⟨vp, np, hoP, hip⟩ := g.path
    have n1 := live _ _ hoL
    have n2 := live _ _ hoD
    have n3 := live _ _ hoP
    have hO : O s.heap.objs.size := g.chg.fresh C.new (get_size _)
    have hk : ∀ b o₁, b ≠ D → b ≠ Pa → s.heap.get? b = some o₁ → (h'.update Pa (Obj.mapSeq fun xs => xs.push (Value.int x t))).get? b = some o₁ := fun b o₁ h1 h2 e =>
      (Heap.get?_update_other _ _ (Ne.symm h2)).trans (hs.extBut _ _ h1 (Heap.get?_push_of_some _ e))
    have g0 : GI prog w s0 Z O L sv T D Pa (fun _ => True) kvs bs [] s := g.weak fun _ _ => trivial
    have hit : (h'.update Pa (Obj.mapSeq fun xs => xs.push (Value.int x t))).IsListIter s.heap.objs.size ra 0 :=
      ⟨_, (Heap.get?_update_other _ _ (Ne.symm n3)).trans (hs.extBut _ _ n2 (Heap.get?_push_size _ rfl)), rfl, rfl⟩
    refine g0.re C hk rfl rfl ?_ (by simp [g.len]) (fun j kv e h1 h2 => ?_) (fun i j kv kv' h1 h2 e => ?_) ?_
    · rw [List.append_nil]
      exact hd.sameBut (Heap.SameBut.update ..) (Ne.symm C.PD)
    · rcases snoc_cases h1 with ⟨hj, h1'⟩ | ⟨hj, rfl⟩
      · rw [List.getElem?_append_left (by rw [← g.len]; exact hj)] at h2
        exact (g.its j kv e h1' h2).by' hk
      · rw [hj, g.len, last_getElem] at h2
        cases h2
        exact ⟨rfl, _, ra, 0, r, rfl, hO, n1, n2, n3, hit, ⟨vs, n, hro, hri⟩, rfl⟩
    · have old : ∀ {j : Nat} {kv : Int × Value}, kvs[j]? = some kv → kv.2 ≠ .ref s.heap.objs.size := fun {j kv} h1 hh => by
        have hj : j < bs.length := by rw [← g.len]; exact (List.getElem?_eq_some_iff.mp h1).1
        obtain ⟨_, it', _, _, _, e2, _, _, _, _, ⟨o, ho, _⟩, _⟩ := g.its j kv _ h1 (List.getElem?_eq_getElem hj)
        rw [e2] at hh; cases hh
        exact live _ _ ho rfl
      rcases snoc_cases h1 with ⟨hj, h1'⟩ | ⟨hj, rfl⟩ <;> rcases snoc_cases h2 with ⟨hj', h2'⟩ | ⟨hj', rfl⟩
      · exact g.inj i j kv kv' h1' h2' e
      · exact absurd e (old h1')
      · exact absurd e.symm (old h2')
      · rw [hj, hj']
    · have key := IsL.update (show IsL h' Pa vs'.toArray n' from hp') (fun xs => xs.push (Value.int x t))
      rw [List.push_toArray] at key
      refine ⟨vs' ++ [.int x t], _, key, ?_⟩
      have := ia_append hi (.cons x t .nil : IntsAre [Value.int x t] [x])
      simpa using this
end
end Mine
end

section -- Gen7
set_option linter.unusedVariables false
namespace Mine
open PySem PyProof.Rows PySem.W PySem.Calls PySem.Spec
open Sem (wp)

section
variable {prog : Program} {w : World} {s0 : Shared} {Z : Heap} {O : Addr → Prop} {pm : Value} {L : Addr} {sv : Value} {T D Pa : Addr} {X X' : (Str → Option Value) → Prop} {kvs ex : List (Int × Value)} {bs : List (Int × List Int)} {s : Shared}
  {A : Around} {E : Value → Shared → Prop} {tb : Int → Option (List Int)}

def forRes (prog : Program) (w : World) (s0 : Shared) (Z : Heap) (O : Addr → Prop) (L : Addr) (sv : Value) (T D Pa : Addr) (tb : Int → Option (List Int))
    (kvs : List (Int × Value)) (bs : List (Int × List Int)) (k : Int) (it : Addr) (rest : List Int) (s' : Shared) : Prop :=
  match rest with
  | [] => GI prog w s0 Z O L sv T D Pa (fun _ => True) kvs bs [] s'
  | e :: r2 => ∃ r' it', tb e = some r' ∧ GI prog w s0 Z O L sv T D Pa (fun _ => True) (kvs ++ [(k, .ref it)] ++ [(e, .ref it')]) (bs ++ [(k, r2)] ++ [(e, r')]) [] s'

theorem g_for {k : Int} {t : Tok} {it : Addr} {r : List Int} {Q : Flow → Shared → Prop} (C : GC s0 Z O L D Pa) (PD : PdOk prog w Z T tb) (hh : A.handled = none) (hb : bs.length ≤ 900)
    (g : GI prog w s0 Z O L sv T D Pa (fun m => m "node" = some (.int k t)) (kvs ++ [(k, .ref it)]) (bs ++ [(k, r)]) [] s)
    (hcl : ∀ e r2, r.dropWhile (fun e => decide (e ∈ bs.map (·.1) ++ [k])) = e :: r2 → ∃ r', tb e = some r')
    (hQ : ∀ s', forRes prog w s0 Z O L sv T D Pa tb kvs bs k it (r.dropWhile (fun e => decide (e ∈ bs.map (·.1) ++ [k]))) s' → Q .next s') :
    wpAny (model prog w) A (exec gFor (genv pm L)) Q E s := by
  show wpAny _ _ (exec (.For _ _ _ _ _) _) _ _ _
  have hkl : (kvs ++ [(k, Value.ref it)]).length ≤ 1000 := by have := g.len; simp at this ⊢; omega
  have gd := g.dict
  have hnd := g.nodup
  rw [List.append_nil] at gd hnd
  obtain ⟨hl, hO, n1, n2, n3, ra, i, ns, hit, hra, hd⟩ := g.top
  refine wpAny_For (Subscript_Name (g.nm_stack (g.nm_x (gk_node pm L) ⟨"dict", _, F.slot_dict_getitem.lookup, gd.typeIs, ?_⟩)))
  refine wpAny_getItem_of (intKind_is prog w k t) gd.mapOf (valueAt_of_get hnd (last_getElem _ _)) ?_
  refine wpAny_pyIter_listiter hit ?_
  have g1 := (g.weak (X' := fun _ => True) fun _ _ => trivial).tok (s.toks + 1)
  refine codeAny_forLoop (fun n s => ∃ r', r'.length = n ∧ r'.dropWhile (fun e => decide (e ∈ bs.map (·.1) ++ [k])) = r.dropWhile (fun e => decide (e ∈ bs.map (·.1) ++ [k])) ∧
    GI prog w s0 Z O L sv T D Pa (fun _ => True) (kvs ++ [(k, .ref it)]) (bs ++ [(k, r')]) [] s) (fun n s₁ hI => ?_) r.length ⟨r, rfl, rfl, g1⟩
  obtain ⟨r', hlen, hdw, gi⟩ := hI
  cases r' with
  | nil =>
    refine gnext_none C hh gi fun h' g' => ?_
    refine g_else C (by omega) g' fun s' g'' => ?_
    refine hQ s' ?_
    rw [← hdw]; exact g''
  | cons x r'' =>
    refine gnext_some C gi fun h' t' g' => ?_
    obtain ⟨m, hm, h4, _⟩ := g'.fr
    refine wpAny_assign_Name (wpAny_storeName_local (gk_earlier pm L) hm fun h2 hn2 hs2 => ?_)
    have g2 := g'.store (t := s₁.toks + 1) (X' := fun m => m "earlier" = some (.int x t')) C hn2 hs2 h4 (if_pos rfl)
    have ekeys : (bs ++ [(k, r'')]).map (·.1) = bs.map (·.1) ++ [k] := by simp
    refine g_turn C PD (by simp; omega) g2 (fun hx => ?_) (fun hx s' g3 => ?_) (fun hx r3 hr3 s' it' g3 => ?_)
    · rw [ekeys] at hx
      refine hcl x r'' ?_
      rw [← hdw, List.dropWhile_cons, if_neg (by simpa using hx)]
    · rw [ekeys] at hx
      refine ⟨r''.length, by rw [← hlen]; exact Nat.lt_succ_self _, r'', rfl, ?_, g3⟩
      rw [← hdw, List.dropWhile_cons, if_pos (by simpa using hx)]
    · rw [ekeys] at hx
      refine hQ s' ?_
      rw [← hdw, List.dropWhile_cons, if_neg (by simpa using hx)]
      exact ⟨r3, it', hr3, g3⟩
end
end Mine
end

section -- Step3
set_option linter.unusedVariables false
namespace Mine
open PySem PyProof.Rows PySem.W PySem.Calls PySem.Spec
open Sem (wp)

section
variable {prog : Program} {w : World} {A : Around} {E : Value → Shared → Prop} {s : Shared} {env : Env}

theorem ev_neg1 {kd : Nat} {p1 p2 : Pos} {Q : Value → Shared → Prop} (h : ∀ t t', Q (.int (-1) t) { s with toks := t' }) :
    wpAny (model prog w) A (eval (.UnaryOp .USub (.Constant (.int 1) kd p1) p2) env) Q E s :=
  wpAny_UnaryOp (wpAny_Constant_int (PyProof.Rows.neg_int (h _ _)))

/-- xs[::-1] -/
theorem ev_rev {value : Expr} {kd : Nat} {p1 p2 p3 pos : Pos} {Q : Value → Shared → Prop}
    (h : wpAny (model prog w) A (eval value env) (fun o s₁ => ∃ l vs n, o = .ref l ∧ s₁.heap.get? l = some (lob vs n) ∧ vs.length ≤ 2 ^ 20 ∧
      ∀ D h' t, s₁.heap.StaysIn h' → s₁.heap.get? D = none → h'.get? D = some (lob vs.reverse 0) → Q (.ref D) { s₁ with heap := h', toks := t }) E s)
    (ht : ∀ o r, letTemporaryGo value o r = pure () := by intro _ _; rfl) :
    wpAny (model prog w) A (eval (.Subscript value (.Slice none none (some (.UnaryOp .USub (.Constant (.int 1) kd p1) p2)) p3) pos) env) Q E s := by
  refine wpAny_Subscript_Slice_step slot_list_getitem.lookup (wpAny_mono h (fun o s₁ h₁ => ?_) fun _ _ x => x) ht
  obtain ⟨l, vs, n, rfl, hl, hsz, hQ⟩ := h₁
  refine wpAny_Slice ?_
  refine wpAny_pure (wpAny_pure ?_)
  show wpAny _ _ (eval _ env) _ _ _
  refine ev_neg1 fun t t' => ?_
  have hl' : (s₁.heap.push { cls := .type "slice", data := .fields #[.none, .none, .int (-1) t] }).get? l = some (lob vs n) := Heap.get?_push_of_some _ hl
  refine ⟨⟨_, hl', rfl⟩, ?_⟩
  refine wpAny_getItem_list_slice (lo := none) (hi := none) (st := some (-1)) ⟨_, hl', rfl, n, rfl⟩ (Heap.IsSliceOf.new _ _ _ _) .none .none (.int _ _) (by decide) ?_ (by show _ ≤ 2 ^ 24; simp; omega)
  have e : slicePick vs.toArray none none (some (-1)) = vs.reverse.toArray := krv_pick _
  rw [e]
  refine hQ _ _ t' (stays_trans (keep_push _) (keep_push _)) ?_ (Heap.get?_push_size _ rfl)
  exact Heap.get?_none_of_le (by rw [Heap.size_push]; exact Nat.le_succ _)

/-- xs[-1] -/
theorem ev_last {value : Expr} {kd : Nat} {p1 p2 pos : Pos} {Q : Value → Shared → Prop}
    (h : wpAny (model prog w) A (eval value env) (fun o s₁ => ∃ l vs n x, o = .ref l ∧ s₁.heap.get? l = some (lob (vs ++ [x]) n) ∧ ∀ t, Q x { s₁ with toks := t }) E s)
    (ht : ∀ o r, letTemporaryGo value o r = pure () := by intro _ _; rfl) :
    wpAny (model prog w) A (eval (.Subscript value (.UnaryOp .USub (.Constant (.int 1) kd p1) p2) pos) env) Q E s := by
  refine Subscript_UnaryOp (wpAny_mono h (fun o s₁ h₁ => ?_) fun _ _ x => x) ht
  obtain ⟨l, vs, n, x, rfl, hl, hQ⟩ := h₁
  refine ev_neg1 fun t t' => ⟨"list", _, slot_list_getitem.lookup, ⟨_, hl, rfl⟩, ?_⟩
  refine wpAny_getItem_list_neg (items := (vs ++ [x]).toArray) ⟨_, hl, rfl, n, rfl⟩ (by decide) (by simp; omega) (by decide) ?_ (hQ t')
  have : (-1 + ((vs ++ [x]).toArray.size : Int)).toNat = vs.length := by simp; omega
  rw [this]
  simp
end
end Mine
end

section -- Gen8
set_option linter.unusedVariables false
namespace Mine
open PySem PyProof.Rows PySem.W PySem.Calls PySem.Spec
open Sem (wp)

/-- what the walk along the table tells from a stack on (the stack bottom first) -/
inductive GY (tb : Int → Option (List Int)) (S : Int → Bool) : Bool → List (Int × List Int) → List (List Int) → Prop
  | done : GY tb S true [] []
  | yes {bs k r W} : S k = true → GY tb S false (bs ++ [(k, r)]) W → GY tb S true (bs ++ [(k, r)]) ((bs.map (·.1) ++ [k]).reverse :: W)
  | no {bs k r W} : S k = false → GY tb S false (bs ++ [(k, r)]) W → GY tb S true (bs ++ [(k, r)]) W
  | pop {bs k r W} : bs.length ≤ 800 → r.dropWhile (fun e => decide (e ∈ bs.map (·.1) ++ [k])) = [] → GY tb S true bs W → GY tb S false (bs ++ [(k, r)]) W
  | push {bs k r e r2 r' W} : bs.length ≤ 800 → r.dropWhile (fun e => decide (e ∈ bs.map (·.1) ++ [k])) = e :: r2 → tb e = some r' → GY tb S true (bs ++ [(k, r2)] ++ [(e, r')]) W →
      GY tb S false (bs ++ [(k, r)]) W

structure Room (A : Around) : Prop where
  hand : A.handled = none
  depth : A.depth + 20 ≤ recursionLimit
  units : A.units + 200 < cLine

def Agree (Z : Heap) (own : Addr → Prop) (h h' : Heap) : Prop := Z.StaysIn h' ∧ ∀ b o, own b → h.get? b = some o → h'.get? b = some o

/-- how one waking ends, and what it leaves: W is what is still told -/
def GS (prog : Program) (w : World) (Z : Heap) : List (List Int) → (Addr → Prop) → GenState → Heap → Prop
  | [], own, gs, h => ∀ A s, Room A → Agree Z own h s.heap → Wk (model prog w) A (fun e s' => e = .ret (.ok (.ret .none)) ∧ Chg (fun b => own b ∨ s.heap.get? b = none) s s') gs s
  | w1 :: W, own, gs, h => ∀ A s, Room A → Agree Z own h s.heap → Wk (model prog w) A (fun e s' => e.quiet = true ∧ ∃ v g l k c p fs, e = .susp v g l k c p fs ∧ ∃ D own', v = .ref D ∧
      IL s'.heap D w1 ∧ (own D ∨ s.heap.get? D = none) ∧ ¬ own' D ∧ (∀ b, own' b → own b ∨ s.heap.get? b = none) ∧ (∀ b, own' b → s'.heap.get? b ≠ none) ∧ (∀ b, own' b → Z.get? b = none) ∧
      Chg (fun b => own b ∨ s.heap.get? b = none) s s' ∧ GS prog w Z W own' e.genState s'.heap) gs s

def EndP (prog : Program) (w : World) (Z : Heap) (own : Addr → Prop) (s : Shared) : List (List Int) → End → Shared → Prop
  | [] => fun e s' => e = .ret (.ok (.ret .none)) ∧ Chg (fun b => own b ∨ s.heap.get? b = none) s s'
  | w1 :: W => fun e s' => e.quiet = true ∧ ∃ v g l k c p fs, e = .susp v g l k c p fs ∧ ∃ D own', v = .ref D ∧
      IL s'.heap D w1 ∧ (own D ∨ s.heap.get? D = none) ∧ ¬ own' D ∧ (∀ b, own' b → own b ∨ s.heap.get? b = none) ∧ (∀ b, own' b → s'.heap.get? b ≠ none) ∧ (∀ b, own' b → Z.get? b = none) ∧
      Chg (fun b => own b ∨ s.heap.get? b = none) s s' ∧ GS prog w Z W own' e.genState s'.heap

theorem GS_iff {prog : Program} {w : World} {Z : Heap} {W : List (List Int)} {own : Addr → Prop} {gs : GenState} {h : Heap} :
    GS prog w Z W own gs h ↔ ∀ A s, Room A → Agree Z own h s.heap → Wk (model prog w) A (EndP prog w Z own s W) gs s := by
  cases W <;> rfl

abbrev gLoop (pm : Value) (L : Addr) : Code := .whileLoop (testS gWhile) (bodyS gWhile) [] (genv pm L)
abbrev gFrame (K : Result → Sem PySem.Fin) (l : List Value) (pm : Value) (L : Addr) (p : Pos) : Frame := .ret K none false l (.func (bodyOf 6) (genv pm L)) p []

section
variable {A : Around} {pm : Value} {L : Addr} {K : Result → Sem PySem.Fin} {l : List Value} {p : Pos}
theorem over_hand : (A.over (gLoop pm L) [gFrame K l pm L p]).handled = A.handled := by
  cases A; rename_i h _ _ _ _; cases h <;> rfl
theorem over_units : (A.over (gLoop pm L) [gFrame K l pm L p]).units ≤ A.units + 10 := by
  show A.units + unitsOf _ + _ ≤ _
  simp [unitsOf, Frame.where_, Code.cUnits, Code.frames]
  split <;> split <;> omega
theorem over_room (R : Room A) : (A.over (gLoop pm L) [gFrame K l pm L p]).units + 64 < cLine := by
  have h1 := over_units (A := A) (pm := pm) (L := L) (K := K) (l := l) (p := p)
  have h2 := R.units
  omega

variable {prog : Program} {w : World} {Z : Heap} {sv : Value} {T D Pa : Addr} {tb : Int → Option (List Int)} {S : Int → Bool}

/-- the tree behind the `if` with the yield -/
abbrev gRest (pm : Value) (L : Addr) : Sem PySem.Fin := (execs [gFor] (genv pm L)).wrap (turnK (testS gWhile) (bodyS gWhile) [] (genv pm L)) (noted (genv pm L)) id id

theorem GI.split {s0 : Shared} {O : Addr → Prop} {X : (Str → Option Value) → Prop} {kvs : List (Int × Value)} {bs : List (Int × List Int)} {k : Int} {r : List Int} {s : Shared}
    (g : GI prog w s0 Z O L sv T D Pa X kvs (bs ++ [(k, r)]) [] s) : ∃ kvs0 it, kvs = kvs0 ++ [(k, .ref it)] := by
  rcases List.eq_nil_or_concat kvs with h | ⟨kvs0, kv, h⟩
  · subst h; have := g.len; simp at this
  · rw [List.concat_eq_append] at h
    subst h
    have hl : kvs0.length = bs.length := by have := g.len; simpa using this
    obtain ⟨e1, it, _, _, _, e2, _⟩ := g.its kvs0.length kv (k, r) (last_getElem _ _) (by rw [hl]; exact last_getElem _ _)
    obtain ⟨a, v⟩ := kv
    cases e2; cases e1
    exact ⟨kvs0, it, rfl⟩

theorem GY.bound {bs : List (Int × List Int)} {k : Int} {r : List Int} {W : List (List Int)} (h : GY tb S false (bs ++ [(k, r)]) W) : bs.length ≤ 800 := by
  generalize e : bs ++ [(k, r)] = q at h
  cases h with
  | pop h1 => obtain ⟨rfl, _⟩ := List.append_inj' e rfl; exact h1
  | push h1 => obtain ⟨rfl, _⟩ := List.append_inj' e rfl; exact h1

theorem ia_app {vs us : List Value} {ns ms : List Int} (h : IntsAre vs ns) (h' : IntsAre us ms) : IntsAre (vs ++ us) (ns ++ ms) := ia_append h h'
theorem ia_reverse {vs : List Value} {ns : List Int} (h : IntsAre vs ns) : IntsAre vs.reverse ns.reverse := by
  induction h with
  | nil => exact .nil
  | cons n t r ih => rw [List.reverse_cons, List.reverse_cons]; exact ia_append ih (.cons n t .nil)

theorem ia_snoc {vs : List Value} {ns : List Int} {k : Int} (h : IntsAre vs (ns ++ [k])) : ∃ vs0 t, vs = vs0 ++ [.int k t] ∧ IntsAre vs0 ns := by
  induction ns generalizing vs with
  | nil => cases h with | cons n t r => cases r; exact ⟨[], t, rfl, .nil⟩
  | cons a r ih =>
    cases h with
    | cons n t r' =>
      obtain ⟨vs0, t', rfl, h'⟩ := ih r'
      exact ⟨.int _ t :: vs0, t', rfl, .cons _ _ h'⟩

def ownOf (L D Pa : Addr) (kvs : List (Int × Value)) (b : Addr) : Prop := b = L ∨ b = D ∨ b = Pa ∨ ∃ (j : Nat) (kv : Int × Value), kvs[j]? = some kv ∧ kv.2 = .ref b

section
variable {s0 : Shared} {O : Addr → Prop} {X : (Str → Option Value) → Prop} {kvs : List (Int × Value)} {bs : List (Int × List Int)} {s s1 : Shared}
theorem GI.own_O (C : GC s0 Z O L D Pa) (g : GI prog w s0 Z O L sv T D Pa X kvs bs [] s) {b : Addr} (h : ownOf L D Pa kvs b) : O b := by
  rcases h with rfl | rfl | rfl | ⟨j, kv, h1, h2⟩
  · exact C.fL
  · exact C.fD
  · exact C.fP
  · exact (g.itne h1 h2).2.2.2
theorem GI.own_live (g : GI prog w s0 Z O L sv T D Pa X kvs bs [] s) {b : Addr} (h : ownOf L D Pa kvs b) : s.heap.get? b ≠ none := by
  rcases h with rfl | rfl | rfl | ⟨j, kv, h1, h2⟩
  · obtain ⟨m, ⟨o, _, _, ho, _⟩, _⟩ := g.fr; rw [ho]; nofun
  · obtain ⟨o, _, _, ho, _⟩ := g.dict; rw [ho]; nofun
  · obtain ⟨vs, n, ho, _⟩ := g.path; rw [ho]; nofun
  · have hj : j < bs.length := by rw [← g.len]; exact (List.getElem?_eq_some_iff.mp h1).1
    obtain ⟨_, it', _, _, _, e2, _, _, _, _, ⟨o, ho, _⟩, _⟩ := g.its j kv _ h1 (List.getElem?_eq_getElem hj)
    rw [e2] at h2; cases h2; rw [ho]; nofun
theorem GI.path' {k : Int} {r : List Int} (g : GI prog w s0 Z O L sv T D Pa X kvs (bs ++ [(k, r)]) [] s) : ∃ vs n, s.heap.get? Pa = some (lob vs n) ∧ IntsAre vs (bs.map (·.1) ++ [k]) := by
  obtain ⟨vs, n, a, b⟩ := g.path
  exact ⟨vs, n, a, by simpa using b⟩
theorem GC.move (C : GC s0 Z O L D Pa) (g : GI prog w s0 Z O L sv T D Pa X kvs bs [] s) (ag : Agree Z (ownOf L D Pa kvs) s.heap s1.heap) :
    GC s1 Z (fun b => ownOf L D Pa kvs b ∨ s1.heap.get? b = none) L D Pa where
  out := fun b hb => by
    rcases hb with hb | hb
    · exact C.out b (g.own_O C hb)
    · cases e : Z.get? b with
      | none => rfl
      | some o => rw [ag.1 b o e] at hb; cases hb
  new := fun b hb => .inr hb
  fL := .inl (.inl rfl)
  fD := .inl (.inr (.inl rfl))
  fP := .inl (.inr (.inr (.inl rfl)))
  DL := C.DL
  PL := C.PL
  PD := C.PD
  sD := C.sD
  stat := C.stat
theorem GI.move (g : GI prog w s0 Z O L sv T D Pa X kvs bs [] s) (ag : Agree Z (ownOf L D Pa kvs) s.heap s1.heap) :
    GI prog w s1 Z (fun b => ownOf L D Pa kvs b ∨ s1.heap.get? b = none) L sv T D Pa X kvs bs [] s1 where
  chg := Chg.refl _ _
  z := ag.1
  fr := let ⟨m, ⟨o, es, ep, h1, h2⟩, r⟩ := g.fr; ⟨m, ⟨o, es, ep, ag.2 _ _ (.inl rfl) h1, h2⟩, r⟩
  dict := let ⟨o, es, ep, h1, h2⟩ := g.dict; ⟨o, es, ep, ag.2 _ _ (.inr (.inl rfl)) h1, h2⟩
  len := g.len
  its := fun j kv e h1 h2 => by
    obtain ⟨a, it, ra, i, ns, b, f, n1, n2, n3, ⟨o, ho, hr⟩, d⟩ := g.its j kv e h1 h2
    have ho' : ownOf L D Pa kvs it := .inr (.inr (.inr ⟨j, kv, h1, b⟩))
    exact ⟨a, it, ra, i, ns, b, .inl ho', n1, n2, n3, ⟨o, ag.2 _ _ ho' ho, hr⟩, d⟩
  inj := g.inj
  path := let ⟨vs, n, h1, h2⟩ := g.path; ⟨vs, n, ag.2 _ _ (.inr (.inr (.inl rfl))) h1, h2⟩
end

theorem g_run (PD : PdOk prog w Z T tb) (SR : Src prog w Z sv S) 
    (hK : ∀ (A : Around) (P : End → Shared → Prop) s, P (.ret (.ok (.ret .none))) s → Stp (model prog w) A P (.func (bodyOf 6) (genv pm L)) (K (.ok .next)) [] s)
    {b : Bool} {bs : List (Int × List Int)} {W : List (List Int)} (gy : GY tb S b bs W) :
    ∀ (A : Around) (s0 : Shared) (own : Addr → Prop) (kvs : List (Int × Value)) (s : Shared), Room A →
      GC s0 Z (fun b => own b ∨ s0.heap.get? b = none) L D Pa →
      (b = true → GI prog w s0 Z (fun b => own b ∨ s0.heap.get? b = none) L sv T D Pa (fun _ => True) kvs bs [] s →
        Stp (model prog w) A (EndP prog w Z own s0 W) (gLoop pm L) ((model prog w).den (gLoop pm L)) [gFrame K l pm L p] s) ∧
      (b = false → ∀ bs0 k r kvs0 it t, bs = bs0 ++ [(k, r)] → GI prog w s0 Z (fun b => own b ∨ s0.heap.get? b = none) L sv T D Pa (fun m => m "node" = some (.int k t)) (kvs0 ++ [(k, .ref it)]) bs [] s →
        Stp (model prog w) A (EndP prog w Z own s0 W) (gLoop pm L) (gRest pm L) [gFrame K l pm L p] s) := by
  induction gy with
  | done =>
    intro A s0 own kvs s R C
    refine ⟨fun _ g => ?_, fun h => nomatch h⟩
    refine stp_whileLoop (wpAny_isTrue_value (e := .Name _ _) (g.nm_stack ?_))
    have gd := g.dict
    rw [List.append_nil] at gd
    have hl : kvs = [] := by have := g.len; simpa using this
    subst hl
    refine wpAny_truthy_dict C.sD gd (by decide) ?_
    rw [if_neg (by simp)]
    refine stp_execs_nil ?_
    refine stp_leaf (.ok .next) (hK _ _ _ ⟨rfl, (g.tok _).chg⟩)
  | pop hlen hdw gy ih =>
    intro A s0 own kvs s R C
    refine ⟨fun h => (nomatch h), fun _ bs0 k r kvs0 it t e g => ?_⟩
    obtain ⟨rfl, e2⟩ := List.append_inj' e rfl
    cases e2
    refine stp_execs_cons (stp_wrap (g_for C PD (over_hand.trans R.hand) (by omega) g (fun e r2 h => ?_) fun s' hs' => ?_))
    · rw [hdw] at h; cases h
    · rw [hdw] at hs'
      refine stp_execs_nil ?_
      exact stp_again rfl ((ih A s0 own kvs0 s' R C).1 rfl hs')
  | push hlen hdw htb gy ih =>
    intro A s0 own kvs s R C
    refine ⟨fun h => (nomatch h), fun _ bs0 k r kvs0 it t e g => ?_⟩
    obtain ⟨rfl, e2⟩ := List.append_inj' e rfl
    cases e2
    refine stp_execs_cons (stp_wrap (g_for C PD (over_hand.trans R.hand) (by omega) g (fun e r2 h => ?_) fun s' hs' => ?_))
    · rw [hdw] at h; cases h; exact ⟨_, htb⟩
    · rw [hdw] at hs'
      obtain ⟨r', it', hr', g'⟩ := hs'
      rw [htb] at hr'; cases hr'
      refine stp_execs_nil ?_
      exact stp_again rfl ((ih A s0 own _ s' R C).1 rfl g')
  | @yes bs k r W hS gy ih =>
    intro A s0 own kvs s R C
    refine ⟨fun _ g => ?_, fun h => nomatch h⟩
    have hb := gy.bound
    obtain ⟨kvs0, it, rfl⟩ := g.split
    have hkl : kvs0.length = bs.length := by have := g.len; simpa using this
    refine stp_whileLoop (wpAny_isTrue_value (e := .Name _ _) (g.nm_stack ?_))
    have gd := g.dict
    rw [List.append_nil] at gd
    refine wpAny_truthy_dict C.sD gd (by simp; omega) ?_
    rw [if_pos (by simp)]
    have g1 := g.tok (s.toks + 1 + 1)
    obtain ⟨vs, n, hp, hi⟩ := g1.path'
    obtain ⟨vs0, t, rfl, hi0⟩ := ia_snoc hi
    refine stp_execs_cons (stp_wrap (wpAny_Assign_Name (ev_last (g1.nm_path ⟨Pa, vs0, n, .int k t, rfl, hp, fun t2 => ?_⟩))))
    have g2 := g1.tok t2
    obtain ⟨m, hm, h4, _⟩ := g2.fr
    refine wpAny_storeName_local (gk_node pm L) hm fun h2 hn2 hs2 => ?_
    have g3 := g2.store (t := t2 + 1) (X' := fun m => m "node" = some (.int k t)) C hn2 hs2 h4 (if_pos rfl)
    refine stp_execs_cons (stp_If (wpAny_isTrue_Compare1 (g3.nm_x (gk_node pm L) (g3.nm_sources (SR _ _ k t _ _ g3.z (over_room R) fun tk => wpAny_truthy_bool ?_)))))
    rw [hS, if_pos rfl]
    have g4 := g3.tok tk
    obtain ⟨vs', n', hp', hi'⟩ := g4.path'
    have hvl : vs'.length ≤ 801 := by rw [ia_len hi']; simp; omega
    refine stp_execs_cons (stp_Expr_Yield rfl (ev_rev (g4.nm_path ⟨Pa, vs', n', rfl, hp', by omega, fun Dy h' t5 k1 k2 k3 l' kk p' _ hk => ?_⟩)))
    have g5 := g4.stays (t := t5) k1
    refine ⟨rfl, _, _, _, _, _, _, _, rfl, Dy, ownOf L D Pa (kvs0 ++ [(k, .ref it)]), rfl, ⟨_, _, k3, ?_⟩, ?_, fun ho => g4.own_live ho k2, fun b hb => g4.own_O C hb, fun b hb => g5.own_live hb, fun b hb => C.out b (g4.own_O C hb), g5.chg, ?_⟩
    · exact ia_reverse hi'
    · exact g4.chg.fresh C.new k2
    · refine GS_iff.mpr fun A' s1 R' ag => ?_
      refine hk _ _ _ (stp_execs_nil ?_)
      exact (ih A' s1 _ (kvs0 ++ [(k, .ref it)]) s1 R' (C.move g5 ag)).2 rfl bs k r kvs0 it t rfl (g5.move ag)
  | @no bs k r W hS gy ih =>
    intro A s0 own kvs s R C
    refine ⟨fun _ g => ?_, fun h => nomatch h⟩
    have hb := gy.bound
    obtain ⟨kvs0, it, rfl⟩ := g.split
    have hkl : kvs0.length = bs.length := by have := g.len; simpa using this
    refine stp_whileLoop (wpAny_isTrue_value (e := .Name _ _) (g.nm_stack ?_))
    have gd := g.dict
    rw [List.append_nil] at gd
    refine wpAny_truthy_dict C.sD gd (by simp; omega) ?_
    rw [if_pos (by simp)]
    have g1 := g.tok (s.toks + 1 + 1)
    obtain ⟨vs, n, hp, hi⟩ := g1.path'
    obtain ⟨vs0, t, rfl, hi0⟩ := ia_snoc hi
    refine stp_execs_cons (stp_wrap (wpAny_Assign_Name (ev_last (g1.nm_path ⟨Pa, vs0, n, .int k t, rfl, hp, fun t2 => ?_⟩))))
    have g2 := g1.tok t2
    obtain ⟨m, hm, h4, _⟩ := g2.fr
    refine wpAny_storeName_local (gk_node pm L) hm fun h2 hn2 hs2 => ?_
    have g3 := g2.store (t := t2 + 1) (X' := fun m => m "node" = some (.int k t)) C hn2 hs2 h4 (if_pos rfl)
    refine stp_execs_cons (stp_If (wpAny_isTrue_Compare1 (g3.nm_x (gk_node pm L) (g3.nm_sources (SR _ _ k t _ _ g3.z (over_room R) fun tk => wpAny_truthy_bool ?_)))))
    rw [hS, if_neg Bool.false_ne_true]
    refine stp_execs_nil ?_
    exact (ih A s0 own (kvs0 ++ [(k, .ref it)]) _ R C).2 rfl bs k r kvs0 it t rfl (g3.tok tk)
end
end Mine
end

section -- Gen9
set_option linter.unusedVariables false
namespace Mine
open PySem PyProof.Rows PySem.W PySem.Calls PySem.Spec
open Sem (wp)

theorem gk_target' (pm : Value) (L : Addr) : (genv pm L).kindOf "target" = some .local := by rfl

section
variable {prog : Program} {w : World} {Z : Heap} {pm : Value} {L : Addr} {sv : Value} {T : Addr} {tb : Int → Option (List Int)} {S : Int → Bool}

theorem func_hand {A : Around} {body : List Stmt} {env : Env} : (A.over (.func body env) []).handled = A.handled := by cases A; rename_i h _ _ _ _; cases h <;> rfl

theorem g_fresh {g0 : Int} {t0 : Tok} {r0 : List Int} {W : List (List Int)} {m : Str → Option Value} {h : Heap} (PD : PdOk prog w Z T tb) (SR : Src prog w Z sv S) (ST : Stat Z)
    (h0 : tb g0 = some r0) (gy : GY tb S true [(g0, r0)] W) (hm : h.Ns L m) (m1 : m "sources" = some sv) (m2 : m "target" = some (.int g0 t0)) (m3 : m "pred" = some (.ref T)) (hZ : Z.get? L = none) :
    GS prog w Z W (fun b => b = L) (.fresh (.func (bodyOf 6) (genv pm L))) h := by
  refine GS_iff.mpr fun A s R ag => ?_
  obtain ⟨oL, esL, epL, hoL, hrL⟩ := hm
  have hm : s.heap.Ns L m := ⟨oL, esL, epL, ag.2 _ _ rfl hoL, hrL⟩
  have hoL' := ag.2 _ _ rfl hoL
  obtain ⟨sT, tkvs, hT, hTb⟩ := id PD
  have hv := hTb g0
  rw [h0] at hv
  obtain ⟨ra, hva, hra⟩ := hv
  obtain ⟨vs, n, hro, hri⟩ := id hra
  have z0 := ag.1
  refine stp_func ?_
  refine stp_execs_cons (stp_If (wpAny_isTrue_Compare1 (nm_l (g_fn pm L) hm (gk_target' pm L) m2 (nm_l (g_fn pm L) hm (gk_pred pm L) m3
    (wpAny_notIn_of (intKind_is prog w g0 t0) sT (hT.keep z0).mapOf (wpAny_truthy_bool ?_))))))
  rw [hva, if_neg (by simp)]
  refine stp_execs_nil ?_
  refine stp_execs_cons (stp_wrap (wpAny_Assign_Name (wpAny_Dict_pairs (knd := intKind prog w) (pairs := [(eval (.Name _ _) _, do let x ← eval (.Call _ _ _ _) _; standAt _; pure x)]) rfl (by simp) (by show 1 ≤ 15; omega) ?_)))
  have z1 : Z.StaysIn (s.heap.push { cls := .type "dict", data := .dict #[] }) := stays_trans z0 (keep_push _)
  have hm1 : (s.heap.push { cls := .type "dict", data := .dict #[] }).Ns L m := hm.push _
  refine evalPairs_cons (nm_l (g_fn pm L) hm1 (gk_target' pm L) m2 ?_)
  refine wpAny_bind (b1 (g_fn pm L) (ST.keep z1) (gk_iter pm L) (fun _ _ N => N.iter)
      (Subscript_Name (nm_l (g_fn pm L) hm1 (gk_pred pm L) m3 (nm_l (g_fn pm L) hm1 (gk_target' pm L) m2 ⟨"dict", _, F.slot_dict_getitem.lookup, (hT.keep z1).typeIs, ?_⟩))))
  refine wpAny_getItem_of (intKind_is prog w g0 t0) (hT.keep z1).mapOf hva ?_
  refine call_iter_list (vs := vs.toArray) ⟨_, z1 _ _ hro, rfl, n, rfl⟩ ?_
  refine wpAny_bind (wpAny_standAt (wpAny_pure ?_))
  refine evalPairs_nil ?_
  generalize hit : (s.heap.push { cls := .type "dict", data := .dict #[] }).objs.size = it
  refine ⟨[(g0, .ref it)], ⟨intKind_is prog w g0 t0, rfl, trivial⟩, (Heap.DictOf.new s.heap).push _, fun h' hd hs => ?_⟩
  dsimp only at hd
  have hD0 : s.heap.get? s.heap.objs.size = none := get_size _
  have hit0 : (s.heap.push { cls := .type "dict", data := .dict #[] }).get? it = none := by rw [← hit]; exact get_size _
  have hDsys : (s.heap.objs.size == sysModules) = false := by
    obtain ⟨mg, mb, a, _⟩ := (ST.keep z0).names
    have := a.lt
    rw [beq_eq_false_iff_ne]
    exact Nat.ne_of_gt (Nat.lt_trans (by decide : sysModules < 3) this)
  generalize hDd : s.heap.objs.size = D at *
  have hitD : it ≠ D := fun e => by
    have : (s.heap.push { cls := .type "dict", data := .dict #[] }).get? D = some { cls := .type "dict", data := .dict #[] } := by rw [← hDd]; exact Heap.get?_push_size _ rfl
    rw [e, this] at hit0; cases hit0
  have hDL : D ≠ L := fun e => by rw [e, hoL'] at hD0; cases hD0
  have hitL : it ≠ L := fun e => by rw [e, Heap.get?_push_of_some _ hoL'] at hit0; cases hit0
  have hi1 : ((s.heap.push { cls := .type "dict", data := .dict #[] }).push { cls := .type "list_iterator", data := .fields #[.ref ra, .int 0 0] }).IsListIter it ra 0 :=
    ⟨_, by rw [← hit]; exact Heap.get?_push_size _ rfl, rfl, rfl⟩
  have hi2 : h'.IsListIter it ra 0 := iter_ext hi1 hs.extBut hitD
  have hm2 : h'.Ns L m := (hm1.push _).extBut hs.extBut (Ne.symm hDL)
  have k0 : ∀ b o, b ≠ D → s.heap.get? b = some o → h'.get? b = some o := fun b o hb e => hs.extBut _ _ hb (Heap.get?_push_of_some _ (Heap.get?_push_of_some _ e))
  refine wpAny_storeName_local (gk_stack pm L) hm2 fun h3 hm3 hs3 => ?_
  have hd3 := hd.extBut hs3.extBut hDL
  have hi3 := iter_ext hi2 hs3.extBut hitL
  refine stp_execs_cons (stp_wrap (wpAny_Assign_Name (wpAny_List (wpAny_items_cons (nm_l (g_fn pm L) hm3 (gk_target' pm L) (v := .int g0 t0) (by rw [if_neg (by decide)]; exact m2) (wpAny_items_nil ⟨by show 1 ≤ 2 ^ 24; omega, ?_⟩))))))
  have hP0 : h3.get? h3.objs.size = none := get_size _
  have hm4 : (h3.push { cls := .type "list", data := .seq [Value.int g0 t0].toArray }).Ns L _ := hm3.push _
  have hp4 : (h3.push { cls := .type "list", data := .seq [Value.int g0 t0].toArray }).get? h3.objs.size = some (lob [.int g0 t0] 0) := Heap.get?_push_size _ rfl
  dsimp only
  generalize hPa : h3.objs.size = Pa at *
  refine wpAny_storeName_local (gk_path pm L) hm4 fun h5 hm5 hs5 => ?_
  obtain ⟨oL3, _, _, hoL3, _⟩ := id hm3
  have hoL3 : h3.get? L = some oL3 := hoL3
  have hPL : Pa ≠ L := fun e => by rw [e, hoL3] at hP0; cases hP0
  obtain ⟨oD3, _, _, hoD3, _⟩ := id hd3
  have hPD : Pa ≠ D := fun e => by rw [e, hoD3] at hP0; cases hP0
  obtain ⟨oi3, hoi3, _⟩ := id hi3
  have hiP : it ≠ Pa := fun e => by rw [← e, hoi3] at hP0; cases hP0
  have kk : ∀ b o, b ≠ D → b ≠ L → s.heap.get? b = some o → h5.get? b = some o := fun b o h1 h2 e => hs5.extBut _ _ h2 (Heap.get?_push_of_some _ (hs3.extBut _ _ h2 (k0 b o h1 e)))
  have oL : (fun b => b = L ∨ s.heap.get? b = none) D := .inr hD0
  have hitO : s.heap.get? it = none := by
    cases e : s.heap.get? it with
    | none => rfl
    | some o => rw [Heap.get?_push_of_some _ e] at hit0; cases hit0
  have hPO : s.heap.get? Pa = none := by
    cases e : s.heap.get? Pa with
    | none => rfl
    | some o => rw [hs3.extBut _ _ hPL (k0 _ _ hPD e)] at hP0; cases hP0
  have C : GC s Z (fun b => b = L ∨ s.heap.get? b = none) L D Pa := {
    out := fun b hb => by
      rcases hb with rfl | hb
      · exact hZ
      · cases e : Z.get? b with
        | none => rfl
        | some o => rw [z0 b o e] at hb; cases hb
    new := fun b hb => .inr hb
    fL := .inl rfl
    fD := .inr hD0
    fP := .inr hPO
    DL := hDL
    PL := hPL
    PD := hPD
    sD := hDsys
    stat := ST }
  have g : ∀ t, GI prog w s Z (fun b => b = L ∨ s.heap.get? b = none) L sv T D Pa (fun _ => True) [(g0, .ref it)] [(g0, r0)] [] { s with heap := h5, toks := t } := fun t => {
    chg := ⟨fun b o hb e => kk b o (fun hh => hb (hh ▸ C.fD)) (fun hh => hb (hh ▸ C.fL)) e, rfl, rfl⟩
    z := fun b o e => kk b o (fun hh => by rw [hh, C.out _ C.fD] at e; cases e) (fun hh => by rw [hh, C.out _ C.fL] at e; cases e) (z0 b o e)
    fr := ⟨_, hm5, ⟨(if_neg (by decide)).trans ((if_neg (by decide)).trans m1), (if_neg (by decide)).trans ((if_neg (by decide)).trans m3), (if_neg (by decide)).trans (if_pos rfl), if_pos rfl⟩, trivial⟩
    dict := (hd3.push _).extBut hs5.extBut hDL
    len := rfl
    its := fun j kv e h1 h2 => by
      match j, h1, h2 with
      | 0, h1, h2 =>
        cases h1; cases h2
        exact ⟨rfl, it, ra, 0, r0, rfl, .inr hitO, hitL, hitD, hiP, iter_ext ⟨oi3, Heap.get?_push_of_some _ hoi3, by assumption⟩ hs5.extBut hitL, hra, rfl⟩
      | j + 1, h1, h2 => simp at h1
    inj := fun i j kv kv' h1 h2 _ => by
      match i, j, h1, h2 with
      | 0, 0, _, _ => rfl
      | i + 1, _, h1, _ => simp at h1
      | _, j + 1, _, h2 => simp at h2
    path := ⟨[.int g0 t0], 0, hs5.extBut _ _ hPL hp4, .cons _ _ .nil⟩ }
  refine stp_execs_cons (stp_While fun p => ?_)
  exact (g_run (l := []) PD SR (fun A P s hP => stp_end (.ok (.ret .none)) hP) gy A s (fun b => b = L) _ _ R C).1 rfl (g _)
end
end Mine
end

section -- Gen10
set_option linter.unusedVariables false
namespace Mine
open PySem PyProof.Rows PySem.W PySem.Calls PySem.Spec
open Sem (wp)

/-- what may have turned: the addresses of F, and the g-th generator's state -/
structure ChgG (g : Nat) (F : Addr → Prop) (s s' : Shared) : Prop where
  keep : ∀ b o, ¬ F b → s.heap.get? b = some o → s'.heap.get? b = some o
  gens : ∀ i, i ≠ g → s'.gens[i]? = s.gens[i]?
  size : s'.gens.size = s.gens.size
  bare : AllBare s.gens → AllBare s'.gens
  os : s'.os = s.os

theorem ChgG.of_heap {g : Nat} {F : Addr → Prop} {s : Shared} {h : Heap} {t : Nat} (k : ∀ b o, ¬ F b → s.heap.get? b = some o → h.get? b = some o) : ChgG g F s { s with heap := h, toks := t } :=
  ⟨k, fun _ _ => rfl, rfl, id, rfl⟩
theorem ChgG.trans {g : Nat} {F G H : Addr → Prop} {s s' s'' : Shared} (x : ChgG g F s s') (y : ChgG g G s' s'') (hF : ∀ b, F b → H b) (hG : ∀ b o, s.heap.get? b = some o → ¬ H b → ¬ G b) : ChgG g H s s'' :=
  ⟨fun b o hb e => y.keep b o (hG b o e hb) (x.keep b o (fun h => hb (hF b h)) e), fun i hi => (y.gens i hi).trans (x.gens i hi), y.size.trans x.size, fun h => y.bare (x.bare h), y.os.trans x.os⟩

/-- a generator object that still tells W -/
structure GOk (prog : Program) (w : World) (Z : Heap) (own : Addr → Prop) (a : Addr) (g : Nat) (W : List (List Int)) (s : Shared) : Prop where
  gen : s.heap.IsGen a g
  st : (∃ gs, s.gens[g]? = some gs ∧ GS prog w Z W own gs s.heap) ∨ (W = [] ∧ s.gens[g]? = some .finished)
  out : ∀ b, own b → Z.get? b = none
  live : ∀ b, own b → s.heap.get? b ≠ none
  na : ¬ own a

theorem GS.agree {prog : Program} {w : World} {Z : Heap} {W : List (List Int)} {own : Addr → Prop} {gs : GenState} {h h' : Heap} (x : GS prog w Z W own gs h) (k : ∀ b o, own b → h.get? b = some o → h'.get? b = some o) :
    GS prog w Z W own gs h' := by
  rw [GS_iff] at x ⊢
  exact fun A s R ag => x A s R ⟨ag.1, fun b o hb e => ag.2 b o hb (k b o hb e)⟩

theorem GOk.move {prog : Program} {w : World} {Z : Heap} {W : List (List Int)} {own : Addr → Prop} {a : Addr} {g : Nat} {s s' : Shared} (x : GOk prog w Z own a g W s)
    (k : ∀ b o, (own b ∨ b = a) → s.heap.get? b = some o → s'.heap.get? b = some o) (hg : s'.gens[g]? = s.gens[g]?) : GOk prog w Z own a g W s' where
  gen := let ⟨o, nm, qn, ho, r⟩ := x.gen; ⟨o, nm, qn, k a o (.inr rfl) ho, r⟩
  st := by
    rcases x.st with ⟨gs, h1, h2⟩ | ⟨h1, h2⟩
    · exact .inl ⟨gs, hg.trans h1, h2.agree fun b o hb e => k b o (.inl hb) e⟩
    · exact .inr ⟨h1, hg.trans h2⟩
  out := x.out
  live := fun b hb h => by
    cases e : s.heap.get? b with
    | none => exact x.live b hb e
    | some o => rw [k b o (.inl hb) e] at h; cases h
  na := x.na

theorem bare_set {gens : Array GenState} {g : Nat} {x : GenState} (h : AllBare gens) (hx : x.bare = true) : AllBare (gens.setIfInBounds g x) := fun y hy => by
  rw [Array.mem_iff_getElem?] at hy
  obtain ⟨i, hi⟩ := hy
  rw [Array.getElem?_setIfInBounds] at hi
  split at hi
  · split at hi
    · cases hi; exact hx
    · cases hi
  · exact h y (Array.mem_of_getElem? hi)

theorem chg_gen {F : Addr → Prop} {s s₁ : Shared} {g : Nat} {x : GenState} {h : Heap} (c : Chg F (s.setGen g .running) s₁) (k : s₁.heap.StaysIn h) (hx : x.bare = true) :
    ChgG g F s { s₁.setGen g x with heap := h } where
  keep := fun b o hb e => k _ _ (c.keep b o hb e)
  gens := fun i hi => by
    show (s₁.gens.setIfInBounds g x)[i]? = _
    rw [c.gens]
    show ((s.gens.setIfInBounds g .running).setIfInBounds g x)[i]? = _
    rw [Array.getElem?_setIfInBounds_ne (Ne.symm hi), Array.getElem?_setIfInBounds_ne (Ne.symm hi)]
  size := by
    show (s₁.gens.setIfInBounds g x).size = _
    rw [c.gens]
    show ((s.gens.setIfInBounds g .running).setIfInBounds g x).size = _
    simp
  bare := fun hb => by
    show AllBare (s₁.gens.setIfInBounds g x)
    rw [c.gens]
    exact bare_set (bare_set hb rfl) hx
  os := c.os

theorem set_get {F : Addr → Prop} {s s₁ : Shared} {g : Nat} {x gs : GenState} (c : Chg F (s.setGen g .running) s₁) (hg : s.gens[g]? = some gs) : (s₁.setGen g x).gens[g]? = some x := by
  show (s₁.gens.setIfInBounds g x)[g]? = _
  rw [c.gens]
  show ((s.gens.setIfInBounds g .running).setIfInBounds g x)[g]? = _
  have := (Array.getElem?_eq_some_iff.mp hg).1
  rw [Array.getElem?_setIfInBounds_self_of_lt (by simpa using this)]

section
variable {prog : Program} {w : World} {A : Around} {E : Value → Shared → Prop} {s : Shared} {Z : Heap} {own : Addr → Prop} {a : Addr} {g : Nat}

structure Told (prog : Program) (w : World) (Z : Heap) (own own' : Addr → Prop) (a : Addr) (g : Nat) (w1 : List Int) (W : List (List Int)) (s s' : Shared) (D : Addr) : Prop where
  il : IL s'.heap D w1
  inO : own D ∨ s.heap.get? D = none
  nown : ¬ own' D
  sub : ∀ b, own' b → own b ∨ s.heap.get? b = none
  ok : GOk prog w Z own' a g W s'
  chg : ChgG g (fun b => own b ∨ s.heap.get? b = none) s s'

theorem pyNext_told {w1 : List Int} {W : List (List Int)} {Q : Option Value → Shared → Prop} (R : Room A.in1) (ST : Stat Z) (z : Z.StaysIn s.heap) (G : GOk prog w Z own a g (w1 :: W) s)
    (hQ : ∀ s' D own', Told prog w Z own own' a g w1 W s s' D → Q (some (.ref D)) s') : wpAny (model prog w) A (pyNext (.ref a)) Q E s := by
  rcases G.st with ⟨gs, hg, hs⟩ | ⟨h, _⟩
  · have hd : A.depth < recursionLimit := by have := R.depth; simp only [Around.in1_depth] at this; omega
    refine wpAny_pyNext_wk (P := EndP prog w Z own (s.setGen g .running) (w1 :: W)) (by have := R.hand; exact this) (ST.nolim.keeps z) hd G.gen hg (GS_iff.mp hs A.in1 (s.setGen g .running) R ⟨z, fun _ _ _ e => e⟩) fun e s₁ he => ?_
    obtain ⟨hq, v, gd, l, k, c, p, fs, rfl, D, own', rfl, h1, h2, h3, h4, h5, h6, h7, h8⟩ := he
    refine ⟨hq, hQ _ D own' ⟨h1, h2, h3, h4, ⟨?_, .inl ⟨_, set_get h7 hg, h8⟩, h6, h5, ?_⟩, ?_⟩⟩
    · obtain ⟨o, nm, qn, ho, r⟩ := G.gen
      refine ⟨o, nm, qn, h7.keep a o ?_ ho, r⟩
      rintro (hb | hb)
      · exact G.na hb
      · rw [show s.heap.get? a = none from hb] at ho; cases ho
    · intro hb
      rcases h4 a hb with hb | hb
      · exact G.na hb
      · obtain ⟨o, nm, qn, ho, r⟩ := G.gen
        rw [show s.heap.get? a = none from hb] at ho; cases ho
    · exact chg_gen h7 (fun _ _ e => e) (End.bare_of_quiet hq)
  · cases h

theorem pyNext_end {Q : Option Value → Shared → Prop} (R : Room A.in1) (ST : Stat Z) (z : Z.StaysIn s.heap) (G : GOk prog w Z own a g [] s)
    (hQ : ∀ s', GOk prog w Z (fun _ => False) a g [] s' → ChgG g (fun b => own b ∨ s.heap.get? b = none) s s' → Q none s') : wpAny (model prog w) A (pyNext (.ref a)) Q E s := by
  have na : ∀ o, s.heap.get? a = some o → ¬ (own a ∨ s.heap.get? a = none) := fun o ho h => by
    rcases h with h | h
    · exact G.na h
    · rw [h] at ho; cases ho
  rcases G.st with ⟨gs, hg, hs⟩ | ⟨_, hg⟩
  · have hd : A.depth < recursionLimit := by have := R.depth; simp only [Around.in1_depth] at this; omega
    refine wpAny_pyNext_wk (P := EndP prog w Z own (s.setGen g .running) []) (by have := R.hand; exact this) (ST.nolim.keeps z) hd G.gen hg (GS_iff.mp hs A.in1 (s.setGen g .running) R ⟨z, fun _ _ _ e => e⟩) fun e s₁ he => ?_
    obtain ⟨rfl, h7⟩ := he
    refine ⟨rfl, fun h' k => hQ _ ⟨?_, .inr ⟨rfl, set_get h7 hg⟩, fun _ h => h.elim, fun _ h => h.elim, id⟩ (chg_gen h7 k rfl)⟩
    obtain ⟨o, nm, qn, ho, r⟩ := G.gen
    exact ⟨o, nm, qn, k _ _ (h7.keep a o (na o ho) ho), r⟩
  · refine wpAny_pyNext_finished (by have := R.hand; exact this) G.gen hg fun h' k => hQ _ ⟨G.gen.keeps k, .inr ⟨rfl, hg⟩, fun _ h => h.elim, fun _ h => h.elim, id⟩ ?_
    exact ⟨fun b o _ e => k _ _ e, fun _ _ => rfl, rfl, id, rfl⟩
end
end Mine
end

section -- Gen11
set_option linter.unusedVariables false
namespace Mine
open PySem PyProof.Rows PySem.W PySem.Calls PySem.Spec
open Sem (wp)

structure Roomy (A : Around) : Prop where
  hand : A.handled = none
  depth : A.depth + 40 ≤ recursionLimit
  units : A.units + 1000 < cLine

theorem Roomy.r0 {A : Around} (R : Roomy A) : Room A := ⟨R.hand, by have := R.depth; omega, by have := R.units; omega⟩
theorem Roomy.r1 {A : Around} (R : Roomy A) : Room A.in1 := ⟨R.hand, by have := R.depth; show A.depth + 20 ≤ _; omega, by have := R.units; show A.units + 1 + 200 < _; omega⟩
theorem Roomy.r2 {A : Around} (R : Roomy A) : Room A.in1.in1 := ⟨R.hand, by have := R.depth; show A.depth + 20 ≤ _; omega, by have := R.units; show A.units + 1 + 1 + 200 < _; omega⟩
theorem Roomy.r3 {A : Around} (R : Roomy A) : Room A.in1.in1.in1 := ⟨R.hand, by have := R.depth; show A.depth + 20 ≤ _; omega, by have := R.units; show A.units + 1 + 1 + 1 + 200 < _; omega⟩

/-- rows that lie outside N -/
def ILn (h : Heap) (N : Addr → Prop) (vs : List Value) (nss : List (List Int)) : Prop := Paired (fun v ns => ∃ b, v = .ref b ∧ IL h b ns ∧ ¬ N b) vs nss

theorem ILn.ils {h : Heap} {N : Addr → Prop} {vs : List Value} {nss : List (List Int)} (x : ILn h N vs nss) : ILs h vs nss := by
  induction x with
  | nil => exact .nil
  | cons a b ih => obtain ⟨c, h1, h2, _⟩ := a; exact .cons ⟨c, h1, h2⟩ ih
theorem ILn.map {h h' : Heap} {N N' : Addr → Prop} {vs : List Value} {nss : List (List Int)} (x : ILn h N vs nss) (k : ∀ b o, ¬ N b → h.get? b = some o → h'.get? b = some o ∧ ¬ N' b) : ILn h' N' vs nss := by
  induction x with
  | nil => exact .nil
  | cons a b ih =>
    obtain ⟨c, h1, ⟨us, n, ho, hi⟩, hn⟩ := a
    obtain ⟨k1, k2⟩ := k c _ hn ho
    exact .cons ⟨c, h1, ⟨us, n, k1, hi⟩, k2⟩ ih

section
variable {prog : Program} {w : World} {Z : Heap} {a : Addr} {g : Nat} {S : Addr} {res : Value} {A : Around} {R : Result → Shared → Prop}

theorem ext_loop (RM : Room A.in1.in1) (ST : Stat Z) (hSZ : Z.get? S = none) (hSa : S ≠ a) :
    ∀ (W : List (List Int)) (own : Addr → Prop) (s : Shared) (vs : List Value) (n : Nat) (nss : List (List Int)), Z.StaysIn s.heap → GOk prog w Z own a g W s → s.heap.get? S = some (lob vs n) → ¬ own S →
      ILn s.heap (fun b => own b ∨ b = S) vs nss → vs.length + W.length ≤ 1000 →
      (∀ s' vs' n', Z.StaysIn s'.heap → s'.heap.get? S = some (lob vs' n') → ILs s'.heap vs' (nss ++ W) → ChgG g (fun b => b = S ∨ own b ∨ s.heap.get? b = none) s s' → (∃ own', GOk prog w Z own' a g [] s') → R (.ok (.ret res)) s') →
      codeAny (model prog w) A (.builtin "list.extend.loop" ⟨[.ref S, .ref a, res], []⟩) R s := by
  intro W
  induction W with
  | nil =>
    intro own s vs n nss z G hS hSo hI hlen hR
    refine codeAny_builtin F.entry_extend_loop ?_
    rw [Around.under_plainId F.plain_extend_loop _]
    show wpAny _ A.in1 (pyNext (.ref a) >>= _) _ _ s
    refine wpAny_bind (pyNext_end RM ST z G fun s' G' c => ?_)
    have z' : Z.StaysIn s'.heap := fun b o e => c.keep b o (fun h => by
      rcases h with h | h
      · rw [G.out b h] at e; cases e
      · rw [z b o e] at h; cases h) (z b o e)
    have hS' : s'.heap.get? S = some (lob vs n) := c.keep S _ (fun h => by
      rcases h with h | h
      · exact hSo h
      · rw [h] at hS; cases hS) hS
    refine wpAny_pure (hR s' vs n z' hS' ?_ ⟨fun b o hb e => c.keep b o (fun h => hb (.inr h)) e, c.gens, c.size, c.bare, c.os⟩ ⟨_, G'⟩)
    rw [List.append_nil]
    refine (hI.map (N' := fun _ => False) fun b o hb e => ⟨c.keep b o (fun h => ?_) e, id⟩).ils
    rcases h with h | h
    · exact hb (.inl h)
    · rw [h] at e; cases e
  | cons w1 W ih =>
    intro own s vs n nss z G hS hSo hI hlen hR
    refine codeAny_builtin F.entry_extend_loop ?_
    rw [Around.under_plainId F.plain_extend_loop _]
    show wpAny _ A.in1 (pyNext (.ref a) >>= _) _ _ s
    refine wpAny_bind (pyNext_told RM ST z G fun s' D own' t => ?_)
    have hS' : s'.heap.get? S = some (lob vs n) := t.chg.keep S _ (fun h => by
      rcases h with h | h
      · exact hSo h
      · rw [h] at hS; cases hS) hS
    have hSo' : ¬ own' S := fun h => by
      rcases t.sub S h with h | h
      · exact hSo h
      · rw [h] at hS; cases hS
    have hDS : D ≠ S := fun e => by
      rcases t.inO with h | h
      · exact hSo (e ▸ h)
      · rw [e, hS] at h; cases h
    show wpAny _ A.in1 (updateSeq S (·.push (.ref D)) >>= _) _ _ _
    refine wpAny_bind ?_
    simp only [List.length_cons] at hlen
    refine wpAny_updateSeq (xs := vs.toArray) (n := n) hS' rfl (wpAny_pure ⟨plainId_quiet F.plain_extend_loop _, ?_⟩) (by show _ ≤ 2 ^ 24; simp; omega) (by show _ ≤ 2 ^ 24 + 1; simp; omega)
    have z' : Z.StaysIn s'.heap := fun b o e => t.chg.keep b o (fun h => by
      rcases h with h | h
      · rw [G.out b h] at e; cases e
      · rw [z b o e] at h; cases h) (z b o e)
    have k2 : ∀ b o, b ≠ S → s'.heap.get? b = some o → (s'.heap.update S (Obj.mapSeq (·.push (.ref D)))).get? b = some o := fun b o hb e => (Heap.get?_update_other _ _ (Ne.symm hb)).trans e
    have key := IsL.update (show IsL s'.heap S vs.toArray n from hS') (fun xs => xs.push (Value.ref D))
    rw [List.push_toArray] at key
    refine ih own' { s' with heap := s'.heap.update S (Obj.mapSeq (·.push (.ref D))) } (vs ++ [.ref D]) _ (nss ++ [w1]) ?_ ?_ key hSo' ?_ (by simp; omega) ?_
    · intro b o e; exact k2 b o (fun h => by rw [h, hSZ] at e; cases e) (z' b o e)
    · exact t.ok.move (fun b o hb e => k2 b o (fun h => by
        rcases hb with hb | hb
        · exact hSo' (h ▸ hb)
        · exact hSa (h.symm.trans hb)) e) rfl
    · refine Paired.snoc (hI.map fun b o hb e => ?_) ⟨D, rfl, ?_, ?_⟩
      · have h1 : ¬ (own b ∨ s.heap.get? b = none) := fun h => by
          rcases h with h | h
          · exact hb (.inl h)
          · rw [h] at e; cases e
        refine ⟨k2 b o (fun h => hb (.inr h)) (t.chg.keep b o h1 e), fun h => ?_⟩
        rcases h with h | h
        · exact h1 (t.sub b h)
        · exact hb (.inr h)
      · obtain ⟨us, m, ho, hi⟩ := t.il
        exact ⟨us, m, k2 D _ hDS ho, hi⟩
      · rintro (h | h)
        · exact t.nown h
        · exact hDS h
    · intro s2 vs2 n2 z2 hS2 hI2 c2 G2
      refine hR s2 vs2 n2 z2 hS2 (by simpa using hI2) ?_ G2
      have c1 : ChgG g (fun b => b = S ∨ own b ∨ s.heap.get? b = none) s { s' with heap := s'.heap.update S (Obj.mapSeq (·.push (.ref D))) } :=
        ⟨fun b o hb e => k2 b o (fun h => hb (.inl h)) (t.chg.keep b o (fun h => hb (.inr h)) e), t.chg.gens, t.chg.size, t.chg.bare, t.chg.os⟩
      refine c1.trans c2 (fun _ h => h) fun b o e hb => ?_
      rintro (h | h | h)
      · exact hb (.inl h)
      · exact hb (.inr (t.sub b h))
      · rw [c1.keep b o hb e] at h; cases h

theorem list_gen {E : Value → Shared → Prop} {W : List (List Int)} {own : Addr → Prop} {s : Shared} {Q : Value → Shared → Prop} (RM : Roomy A) (ST : Stat Z) (z : Z.StaysIn s.heap) (G : GOk prog w Z own a g W s) (hlen : W.length ≤ 1000)
    (hQ : ∀ s' D, Z.StaysIn s'.heap → s.heap.get? D = none → LL s'.heap D W → ChgG g (fun b => own b ∨ s.heap.get? b = none) s s' → Q (.ref D) s') :
    wpAny (model prog w) A (call (.type "list") [.ref a]) Q E s := by
  obtain ⟨oa, nma, qna, hoa, hca, hda, hsa⟩ := id G.gen
  have hS0 := get_size s.heap
  refine callType_codes (Q₁ := fun obj s₁ => obj = .ref s.heap.objs.size ∧ s₁ = { s with heap := s.heap.push { cls := .type "list", data := .seq #[] } }) F.called_list (F.typeCall_list_1 _) F.entry_list_init
    (code_list_new _ ⟨rfl, rfl⟩) fun obj s₁ h₁ => ?_
  obtain ⟨rfl, rfl⟩ := h₁
  have hS : (s.heap.push { cls := .type "list", data := .seq #[] }).get? s.heap.objs.size = some { cls := .type "list", data := .seq #[] } := Heap.get?_push_size _ rfl
  generalize hSe : s.heap.objs.size = S at *
  have hSa : S ≠ a := fun e => by rw [e, hoa] at hS0; cases hS0
  have hSo : ¬ own S := fun h => G.live S h hS0
  have hSZ : Z.get? S = none := by
    cases e : Z.get? S with
    | none => rfl
    | some o => rw [z S o e] at hS0; cases hS0
  refine ⟨⟨_, hS, rfl⟩, F.args_list_init_2 _ _, ?_⟩
  show wpAny _ A.in1.in1 (do let old ← Builtin.List.listItems (.ref S); Builtin.List.listUpdate (.ref S) (fun _ => #[]); letGo old.toList.reverse; Builtin.List.listExtendWith (.ref S) (.ref a) .none) _ _ _
  refine wpAny_bind ?_
  unfold Builtin.List.listItems
  refine wpAny_bind (wpAny_seqItems hS rfl (wpAny_pure ?_))
  show wpAny _ A.in1.in1 (updateSeq S (fun _ => #[]) >>= fun _ => letGo (#[] : Array Value).toList.reverse >>= fun _ => Builtin.List.listExtendWith (.ref S) (.ref a) .none) _ _ _
  refine wpAny_bind (wpAny_updateSeq hS rfl ?_)
  have hS₂ := Heap.get?_update_self (Obj.mapSeq (fun _ => (#[] : Array Value))) hS rfl
  refine wpAny_bind (wpAny_letGo ?_)
  have k1 : ∀ b o, b ≠ S → s.heap.get? b = some o → ((s.heap.push { cls := .type "list", data := .seq #[] }).update S (Obj.mapSeq (fun _ => (#[] : Array Value)))).get? b = some o :=
    fun b o hb e => (Heap.get?_update_other _ _ (Ne.symm hb)).trans (Heap.get?_push_of_some _ e)
  generalize hh1 : (s.heap.push { cls := .type "list", data := .seq #[] }).update S (Obj.mapSeq (fun _ => (#[] : Array Value))) = h1 at *
  have G1 : h1.IsGen a g := ⟨oa, nma, qna, k1 a _ (Ne.symm hSa) hoa, hca, hda, hsa⟩
  unfold Builtin.List.listExtendWith
  refine wpAny_bind (wpAny_typeOf (s := { s with heap := h1 }) G1.typeIs ?_)
  have e1 : Builtin.List.listSameRef (.ref S) (.ref a) = false := by simp [Builtin.List.listSameRef, hSa]
  have e2 : (Value.type "generator" == Value.type "list") = false := by decide
  have e3 : (Value.type "generator" == Value.type "tuple") = false := by decide
  simp only [e1, e2, e3, Bool.or_false, Bool.false_eq_true, if_false]
  refine wpAny_bind (wpAny_pyIter_gen (s := { s with heap := h1 }) G1 ?_)
  refine wpAny_bind (wpAny_holding ?_)
  unfold Builtin.List.listLengthHint
  refine wpAny_bind (wpAny_specialOf (s := { s with heap := h1 }) G1.typeIs F.gen_no_len ?_)
  show wpAny _ A.in1.in1 (specialOf (Value.ref a) (Str.ofString "__length_hint__") >>= _) _ _ _
  refine wpAny_bind (wpAny_specialOf (s := { s with heap := h1 }) G1.typeIs F.gen_no_hint ?_)
  refine wpAny_pure ?_
  show wpAny _ A.in1.in1 (rule "list.extend.makes-room" >>= fun _ => Builtin.List.listTouch (.ref S) >>= fun _ =>
    again (.builtin "list.extend.loop" ⟨[.ref S, .ref a, .none], []⟩)) _ _ _
  refine wpAny_bind (wpAny_rule ?_)
  refine wpAny_bind ?_
  show wpAny _ A.in1.in1 (updateSeq S (·.push .none) >>= fun _ => updateSeq S (·.pop)) _ _ _
  refine wpAny_bind (wpAny_updateSeq hS₂ rfl ?_)
  have hS₃ := Heap.get?_update_self (Obj.mapSeq (·.push Value.none)) hS₂ rfl
  refine wpAny_updateSeq (hz := by seq_fits) hS₃ rfl ?_
  have hS₄ := Heap.get?_update_self (Obj.mapSeq (·.pop)) hS₃ rfl
  have k2 : ∀ b o, b ≠ S → s.heap.get? b = some o → ((h1.update S (Obj.mapSeq (·.push Value.none))).update S (Obj.mapSeq (·.pop))).get? b = some o :=
    fun b o hb e => (Heap.get?_update_other _ _ (Ne.symm hb)).trans ((Heap.get?_update_other _ _ (Ne.symm hb)).trans (k1 b o hb e))
  refine wpAny_pure ⟨plainId_quiet F.plain_extend_loop _, ?_⟩
  refine ext_loop (RM.r3) ST hSZ hSa W own _ [] _ [] (fun b o e => k2 b o (fun h => by rw [h, hSZ] at e; cases e) (z b o e)) (G.move (fun b o hb e => k2 b o (fun h => by
      rcases hb with hb | hb
      · exact hSo (h ▸ hb)
      · exact hSa (h.symm.trans hb)) e) rfl) hS₄ hSo .nil (by simpa using hlen) fun s' vs' n' z' hS' hI' c' _ => ?_
  refine ⟨rfl, hQ s' S z' hS0 ⟨vs', n', hS', by simpa using hI'⟩ ?_⟩
  refine ⟨fun b o hb e => c'.keep b o ?_ (k2 b o (fun h => hb (.inr (h ▸ hS0))) e), c'.gens, c'.size, c'.bare, c'.os⟩
  rintro (h | h | h)
  · exact hb (.inr (h ▸ hS0))
  · exact hb (.inl h)
  · have e' : ((h1.update S (Obj.mapSeq (·.push Value.none))).update S (Obj.mapSeq (·.pop))).get? b = some o := k2 b o (fun h => hb (.inr (h ▸ hS0))) e
    rw [show ((h1.update S (Obj.mapSeq (·.push Value.none))).update S (Obj.mapSeq (·.pop))).get? b = none from h] at e'
    cases e'
end
end Mine
end

section -- Gen12
set_option linter.unusedVariables false
namespace Mine
open PySem PyProof.Rows PySem.W PySem.Calls PySem.Spec
open Sem (wp)

/-- the function objects that the top has made -/
structure Fns (h : Heap) : Prop where
  f70 : ∃ o pm, h.get? 70 = some o ∧ o.data = .func (fdOf 6 pm 69)
  c70 : h.CodeRec (.ref 69) "_build_paths_from_predecessors"
  f77 : ∃ o pm, h.get? 77 = some o ∧ o.data = .func (fdOf 8 pm 76)
  c77 : h.CodeRec (.ref 76) "_law_cell"
  f82 : ∃ o pm, h.get? 82 = some o ∧ o.data = .func (fdOf 9 pm 81)
  c82 : h.CodeRec (.ref 81) "_law_all"
  f87 : ∃ o pm, h.get? 87 = some o ∧ o.data = .func (fdOf 10 pm 86)
  c87 : h.CodeRec (.ref 86) "_law_plain"

theorem CodeRec.stays {h h' : Heap} {c : Value} {q : Str} (x : h.CodeRec c q) (k : h.StaysIn h') : h'.CodeRec c q := by
  obtain ⟨c', oc, vs, tq, hc, hoc, r⟩ := x
  exact ⟨c', oc, vs, tq, hc, k _ _ hoc, r⟩

theorem Fns.keep {h h' : Heap} (x : Fns h) (k : h.StaysIn h') : Fns h' where
  f70 := let ⟨o, pm, a, b⟩ := x.f70; ⟨o, pm, k _ _ a, b⟩
  c70 := CodeRec.stays x.c70 k
  f77 := let ⟨o, pm, a, b⟩ := x.f77; ⟨o, pm, k _ _ a, b⟩
  c77 := CodeRec.stays x.c77 k
  f82 := let ⟨o, pm, a, b⟩ := x.f82; ⟨o, pm, k _ _ a, b⟩
  c82 := CodeRec.stays x.c82 k
  f87 := let ⟨o, pm, a, b⟩ := x.f87; ⟨o, pm, k _ _ a, b⟩
  c87 := CodeRec.stays x.c87 k

section
variable {prog : Program} {w : World} {Z : Heap} {sv : Value} {T : Addr} {A : Around} {E : Value → Shared → Prop} {s : Shared}

theorem g_make {g0 : Int} {t0 : Tok} {Q : Value → Shared → Prop} (R : Roomy A) (ST : Stat s.heap) (FN : Fns s.heap)
    (hQ : ∀ pm L a h t m, s.heap.StaysIn h → h.IsGen a s.gens.size → L ≠ a → s.heap.get? L = none → s.heap.get? a = none → h.Ns L m → m "sources" = some sv → m "target" = some (.int g0 t0) → m "pred" = some (.ref T) →
      Q (.ref a) { s with heap := h, toks := t, gens := s.gens.push (.fresh (.func (bodyOf 6) (genv pm L))) }) :
    wpAny (model prog w) A (call (.ref 70) [sv, .int g0 t0, .ref T]) Q E s := by
  obtain ⟨o, pm, ho, hd⟩ := FN.f70
  have hdep : A.depth < recursionLimit := by have := R.depth; omega
  refine wpAny_call (codeAny_call_generator (fd := fdOf 6 pm 69) (body := bodyOf 6) hdep ho hd rfl rfl rfl FN.c70 ?_)
  have hb : bindArgs (fdOf 6 pm 69) ⟨[sv, .int g0 t0, .ref T], []⟩ = pure [(Str.ofString "sources", sv), (Str.ofString "target", .int g0 t0), (Str.ofString "pred", .ref T)] := by rfl
  rw [hb]
  have hcell : ∀ x ∈ (fdOf 6 .none 0).scope.names, x.2 ≠ .cell := by decide
  refine wpAny_pure (wpAny_newFunctionEnv hcell (fun x hx => ?_) (fun h' hn hs => ?_) rfl)
  · simp only [List.mem_cons, List.not_mem_nil, or_false] at hx
    rcases hx with rfl | rfl | rfl <;> rfl
  have hL0 := get_size s.heap
  dsimp only
  generalize hLe : s.heap.objs.size = L at *
  have k1 : s.heap.StaysIn h' := fun b o e => hs.extBut b o (fun h => by rw [h, hL0] at e; cases e) (Heap.get?_push_of_some _ e)
  refine ⟨ST.nolim.keeps k1, ?_⟩
  have ha0 := get_size h'
  obtain ⟨oL, esL, epL, hoL, hrL⟩ := id hn
  generalize hae : h'.objs.size = a at *
  have hLa : L ≠ a := fun e => by rw [← e, hoL] at ha0; cases ha0
  refine hQ pm L a _ _ (fun x => [(Str.ofString "sources", sv), (Str.ofString "target", .int g0 t0), (Str.ofString "pred", .ref T)].reverse.lookup x) (stays_trans k1 (keep_push _)) ⟨_, _, _, by rw [← hae]; exact Heap.get?_push_size _ rfl, rfl, rfl, rfl⟩ hLa hL0 ?_ (hn.push _) rfl rfl rfl
  cases e : s.heap.get? a with
  | none => rfl
  | some o => rw [k1 _ _ e] at ha0; cases ha0
end
end Mine
end

section -- FnCell
set_option linter.unusedVariables false
namespace Mine
open PySem PyProof.Rows PySem.W PySem.Calls PySem.Spec
open Sem (wp)

section
variable {prog : Program} {w : World} {A : Around} {E : Value → Shared → Prop} {s : Shared}

/-- a call of a def without cells -/
theorem call_fn {a : Addr} {o : Obj} {fd : FuncData} {body : List Stmt} {vals : List Value} {binds : List (Str × Value)} {Q : Value → Shared → Prop} (R : Roomy A)
    (ho : s.heap.get? a = some o) (hdata : o.data = .func fd) (hlim : s.heap.NoLimit) (hcd : s.heap.CodeRec fd.code fd.qualname)
    (hbody : fd.body = .stmts body) (hbind : bindArgs fd ⟨vals, []⟩ = pure binds)
    (hcell : ∀ x ∈ fd.scope.names, x.2 ≠ .cell) (hloc : ∀ x ∈ binds, fd.scope.names.lookup x.1 = some .local)
    (h : ∀ h₀ t L E', s.heap.get? L = none → h₀.Ns L (fun x => binds.reverse.lookup x) → s.heap.StaysIn h₀ →
      wpAny (model prog w) (A.deeper (callEnv fd L a)) (execs body (callEnv fd L a)) (fun f s' => ∃ v, f = .ret v ∧ Q v s') E' { s with heap := h₀, toks := t })
    (hco : fd.scope.isCoroutine = false := by rfl) (hgen : fd.scope.isGenerator = false := by rfl) (hk : fd.scope.kind = .function := by rfl) :
    wpAny (model prog w) A (call (.ref a) vals) Q E s := by
  refine wpAny_call (codeAny_call_def (by have := R.depth; omega) ho hdata hlim hcd hbody (.of_eq hbind) hcell hloc (fun h₀ hn hk' => ?_) hco hgen hk)
  refine wpAny_mono (h h₀ _ _ _ (get_size _) hn hk') (fun f s' hf => ?_) fun _ _ x => x
  obtain ⟨v, rfl, hv⟩ := hf
  exact hv

theorem Roomy.deep {A : Around} (R : Room A) : True := trivial
end

abbrev cenv (pm : Value) (L : Addr) : Env := callEnv (fdOf 8 pm 76) L 77
section
variable (pm : Value) (L : Addr)
theorem c_fn : InFn (cenv pm L) := ⟨rfl, rfl, rfl⟩
theorem ck_script : (cenv pm L).kindOf "script" = some .local := by rfl
theorem ck_at : (cenv pm L).kindOf "at" = some .local := by rfl
theorem ck_abs : (cenv pm L).kindOf "abs" = some .globalImplicit := by rfl
theorem ck_int : (cenv pm L).kindOf "int" = some .globalImplicit := by rfl
theorem ck_len : (cenv pm L).kindOf "len" = some .globalImplicit := by rfl
end

section
variable {prog : Program} {w : World} {A : Around} {E : Value → Shared → Prop} {s : Shared}

theorem law_cell {l : Addr} {ns : List Int} {k : Int} {t : Tok} {Q : Value → Shared → Prop} (R : Roomy A) (ST : Stat s.heap) (FN : Fns s.heap) (hl : IL s.heap l ns) (hlen : ns.length ≤ 63) (h0 : 0 ≤ k) (h9 : k ≤ 10)
    (hQ : ∀ c t h' t', 0 ≤ c → c ≤ 1000003 → s.heap.StaysIn h' → Q (.int c t) { s with heap := h', toks := t' }) :
    wpAny (model prog w) A (call (.ref 77) [.ref l, .int k t]) Q E s := by
  obtain ⟨o, pm, ho, hd⟩ := FN.f77
  have hb : bindArgs (fdOf 8 pm 76) ⟨[.ref l, .int k t], []⟩ = pure [(Str.ofString "script", .ref l), (Str.ofString "at", .int k t)] := by rfl
  have hcell : ∀ x ∈ (fdOf 8 .none 0).scope.names, x.2 ≠ .cell := by decide
  refine call_fn (body := bodyOf 8) R ho hd ST.nolim FN.c77 rfl hb hcell (fun x hx => ?_) (fun h₀ t0 L E' hL hn hk => ?_)
  · simp only [List.mem_cons, List.not_mem_nil, or_false] at hx
    rcases hx with rfl | rfl <;> rfl
  obtain ⟨vs, n, hol, hi⟩ := hl
  have hvl := ia_len hi
  have hol' := hk _ _ hol
  refine wpAny_execs_cons (wpAny_Return_some (wpAny_IfExp (wpAny_isTrue_Compare1 (nm_l (c_fn pm L) hn (ck_at pm L) (v := .int k t) rfl
    (b1 (c_fn pm L) (ST.keep hk) (ck_len pm L) (fun _ _ N => N.len) (nm_l (c_fn pm L) hn (ck_script pm L) (v := .ref l) rfl
      (call_len_list (items := vs.toArray) ⟨_, hol', rfl, n, rfl⟩ (by simp; omega) (lt_int (wpAny_truthy_bool (split_dec (fun hlt => ?_) (fun hge => ?_)))))))))))
  · simp only [List.size_toArray] at hlt
    obtain ⟨x, hx⟩ : ∃ x, ns[k.toNat]? = some x := ⟨ns[k.toNat]'(by omega), List.getElem?_eq_getElem _⟩
    obtain ⟨tx, htx⟩ := ia_get hi hx
    refine wpAny_BinOp (b1 (c_fn pm L) (ST.keep hk) (ck_abs pm L) (fun _ _ N => N.abs) (t1 (c_fn pm L) (ST.keep hk) (ck_int pm L) (fun _ _ N => N.int)
      (Subscript_Name (nm_l (c_fn pm L) hn (ck_script pm L) (v := .ref l) rfl (nm_l (c_fn pm L) hn (ck_at pm L) (v := .int k t) rfl ⟨"list", _, slot_list_getitem.lookup, ⟨_, hol', rfl⟩, ?_⟩)))))
    refine wpAny_getItem_list (items := vs.toArray) ⟨_, hol', rfl, n, rfl⟩ h0 (by omega) (x := .int x tx) (by simpa using htx) ?_
    refine call_int_int (call_abs_int fun u tk => ?_)
    refine wpAny_Constant_int (mod_int' (b := 1000003) (by decide) ?_)
    refine ⟨_, rfl, hQ _ _ _ _ ?_ ?_ hk⟩
    · exact Int.fmod_nonneg_of_pos _ (by decide)
    · exact Int.le_of_lt (Int.lt_of_lt_of_le (Int.fmod_lt_of_pos _ (by decide)) (by decide))
  · refine wpAny_BinOp (wpAny_BinOp (wpAny_Constant_int (nm_l (c_fn pm L) hn (ck_at pm L) (v := .int k t) rfl ?_)))
    refine PyProof.Rows.mul_int ?_ (by mul_fits)
    refine wpAny_Constant_int (add_int ?_)
    exact ⟨_, rfl, hQ _ _ _ _ (by omega) (by omega) hk⟩
end
end Mine
end

section -- Lc
set_option linter.unusedVariables false
namespace Mine
open PySem PyProof.Rows PySem.W PySem.Calls PySem.Spec
open Sem (wp)

section
variable {prog : Program} {w : World} {A : Around} {R : Result → Shared → Prop} {s : Shared}

/-- a list comprehension over a list of ints whose elements are new lists of ints -/
theorem lc_loop {elt iter : Expr} {x : Str} {px : Pos} {ifs : List Expr} {scope : Scope} {pos : Pos} {I D la : Addr} {cenv : Env} {m : Str → Option Value} {vs : List Value} {n0 : Nat} {ns : List Int}
    (hh : A.handled = none) (p : Int → Bool) (g : Int → List Int) (hx : cenv.kindOf x = some .local)
    (hp : (cenv.scope.kind == .class || (cenv.scope.kind == .module && cenv.locals != cenv.globals)) = false)
    (hDC : D ≠ cenv.locals) (hDI : D ≠ I) (hIC : I ≠ cenv.locals) (hlC : la ≠ cenv.locals) (hlI : la ≠ I) (hlD : la ≠ D)
    (hla : s.heap.get? la = some (lob vs n0)) (hi : IntsAre vs ns) (hit : s.heap.IsListIter I la 0) (hD : s.heap.get? D = some (lob [] 0)) (hn : s.heap.Ns cenv.locals m) (hsz : ns.length ≤ 1000)
    (htests : ∀ a t s₂ m₂ E', a ∈ ns → s₂.heap.Ns cenv.locals m₂ → m₂ x = some (.int a t) → (∀ b o, b ≠ cenv.locals → b ≠ I → b ≠ D → s.heap.get? b = some o → s₂.heap.get? b = some o) →
      wpAny (model prog w) A (forIn ifs true fun c r => if r = true then do let ok ← isTrue c cenv (eval c cenv); pure (ForInStep.yield ok) else pure (ForInStep.yield r))
        (fun ok s₃ => ok = p a ∧ Keeps s₂ s₃) E' s₂)
    (helt : ∀ a t s₂ m₂ E', a ∈ ns → p a = true → s₂.heap.Ns cenv.locals m₂ → m₂ x = some (.int a t) → (∀ b o, b ≠ cenv.locals → b ≠ I → b ≠ D → s.heap.get? b = some o → s₂.heap.get? b = some o) →
      wpAny (model prog w) A (eval elt cenv) (fun y s₃ => (∃ T, y = .ref T ∧ s₂.heap.get? T = none ∧ IL s₃.heap T (g a)) ∧ Keeps s₂ s₃) E' s₂)
    (hR : ∀ h' tk m' ys c, h'.Ns cenv.locals m' → h'.get? D = some (lob ys c) → ILn h' (fun b => b = cenv.locals ∨ b = I ∨ b = D) ys ((ns.filter p).map g) →
      (∀ b o, b ≠ cenv.locals → b ≠ I → b ≠ D → s.heap.get? b = some o → h'.get? b = some o) → R (.ok .next) { s with heap := h', toks := tk }) :
    codeAny (model prog w) A (.compLoop (.ListComp elt [⟨.Name x px, iter, ifs, 0⟩] scope pos) 0 (.ref I) (.ref D) cenv) R s := by
  have hvl := ia_len hi
  refine codeAny_compLoop_tests
    (fun k s' => ∃ h' tk m' ys c don rest, s' = { s with heap := h', toks := tk } ∧ ns = don ++ rest ∧ k = rest.length ∧ h'.IsListIter I la don.length ∧ h'.Ns cenv.locals m' ∧ h'.get? D = some (lob ys c) ∧
      ILn h' (fun b => b = cenv.locals ∨ b = I ∨ b = D) ys ((don.filter p).map g) ∧ (∀ b o, b ≠ cenv.locals → b ≠ I → b ≠ D → s.heap.get? b = some o → h'.get? b = some o)) ?_ ns.length
    ⟨s.heap, s.toks, m, [], 0, [], ns, rfl, rfl, rfl, hit, hn, hD, .nil, fun _ _ _ _ _ e => e⟩
  rintro k s' ⟨H, tk, m', ys, c, don, rest, rfl, hns, rfl, hit', hn', hD', hF, hk⟩
  have hlist : H.IsList la vs.toArray := ⟨_, hk _ _ hlC hlI hlD hla, rfl, n0, rfl⟩
  cases rest with
  | nil =>
    rw [List.append_nil] at hns
    subst hns
    refine wpAny_pyNext_list_end hh hit' hlist (by simp; omega) fun h1 hs1 => ?_
    refine hR h1 tk m' ys c (hn'.extBut hs1 (Ne.symm hIC)) (hs1 _ _ hDI hD') (hF.map fun b o hb e => ⟨hs1 b o (fun h => hb (.inr (.inl h))) e, hb⟩) fun b o h1 h2 h3 e => hs1 b o h2 (hk b o h1 h2 h3 e)
  | cons a rest =>
    have hna : ns[don.length]? = some a := by rw [hns]; simp
    obtain ⟨t, ht⟩ := ia_get hi hna
    have ham : a ∈ ns := by rw [hns]; simp
    refine wpAny_pyNext_list_item hit' hlist (x := .int a t) (by simpa using ht) fun h1 hit1 hs1 => ?_
    refine wpAny_assign_Name (wpAny_storeName_local hx (hn'.extBut hs1.extBut (Ne.symm hIC)) (fun h2 hn2 hs2 => ?_) hp)
    have up2 : ∀ b o, b ≠ cenv.locals → b ≠ I → H.get? b = some o → h2.get? b = some o := fun b o hb hb' e => hs2.extBut b o hb (hs1.extBut b o hb' e)
    refine wpAny_mono (htests a t _ _ _ ham hn2 (if_pos rfl) fun b o q1 q2 q3 e => up2 b o q1 q2 (hk b o q1 q2 q3 e)) (fun ok s3 h3 => ?_) fun _ _ e => e
    obtain ⟨rfl, h3, tk3, rfl, hk3⟩ := h3
    have hit3 : h3.IsListIter I la (don.length + 1) := by
      obtain ⟨o, ho, r⟩ := hit1
      exact ⟨o, hk3 _ _ (hs2.extBut _ _ hIC ho), r⟩
    have hD3 : h3.get? D = some (lob ys c) := hk3 _ _ (up2 _ _ hDC hDI hD')
    have hF3 : ILn h3 (fun b => b = cenv.locals ∨ b = I ∨ b = D) ys ((don.filter p).map g) := hF.map fun b o hb e => ⟨hk3 _ _ (up2 b o (fun h => hb (.inl h)) (fun h => hb (.inr (.inl h))) e), hb⟩
    have hns' : ns = (don ++ [a]) ++ rest := by rw [hns]; simp
    have kp3 : ∀ b o, b ≠ cenv.locals → b ≠ I → b ≠ D → s.heap.get? b = some o → h3.get? b = some o := fun b o q1 q2 q3 e => hk3 _ _ (up2 b o q1 q2 (hk b o q1 q2 q3 e))
    cases hpa : p a with
    | false =>
      simp only [Bool.false_eq_true, if_false]
      refine ⟨rest.length, Nat.lt_succ_self _, h3, tk3, _, ys, c, don ++ [a], rest, rfl, hns', rfl, by simpa using hit3, hn2.keeps hk3, hD3, ?_, kp3⟩
      rw [List.filter_append]; simpa [hpa] using hF3
    | true =>
      simp only [if_true]
      refine wpAny_mono (helt a t _ _ _ ham hpa (hn2.keeps hk3) (if_pos rfl) kp3) (fun y s4 h4 => ?_) fun _ _ e => e
      obtain ⟨⟨T, rfl, hT0, us, nu, hTo, hTi⟩, h4, tk4, rfl, hk4⟩ := h4
      have hD4 : h4.get? D = some (lob ys c) := hk4 _ _ hD3
      have hys : ys.length ≤ 1000 := by
        have e1 := hF.ils.length
        have e2 : (don.filter p).length ≤ don.length := List.length_filter_le _ _
        rw [List.length_map] at e1
        have e3 : don.length ≤ ns.length := by rw [hns, List.length_append]; omega
        omega
      obtain ⟨oC, _, _, hoC, _⟩ := hn2.keeps hk3
      obtain ⟨oI, hoI, _⟩ := id hit3
      have ne : ∀ b o, h3.get? b = some o → T ≠ b := fun b o e hh => by rw [hh] at hT0; rw [show h3.get? b = none from hT0] at e; cases e
      refine wpAny_list_append_plain (items := ys.toArray) ⟨c, hD4⟩ (fun h5 hl5 hs5 => ?_) (by show _ ≤ 2 ^ 24; simp; omega)
      obtain ⟨c5, hl5⟩ := hl5
      rw [List.push_toArray] at hl5
      refine ⟨rest.length, Nat.lt_succ_self _, h5, tk4, _, ys ++ [.ref T], c5, don ++ [a], rest, rfl, hns', rfl, ?_, ((hn2.keeps hk3).keeps hk4).extBut hs5.extBut (Ne.symm hDC), hl5, ?_, fun b o q1 q2 q3 e => hs5.extBut b o q3 (hk4 _ _ (kp3 b o q1 q2 q3 e))⟩
      · obtain ⟨o, ho, r⟩ := hit3
        simp only [List.length_append, List.length_singleton]
        exact ⟨o, hs5.extBut _ _ (Ne.symm hDI) (hk4 _ _ ho), r⟩
      · rw [List.filter_append, List.map_append]
        simp only [List.filter_cons, hpa, if_true, List.filter_nil, List.map_cons, List.map_nil]
        refine Paired.snoc (hF3.map fun b o hb e => ⟨hs5.extBut b o (fun h => hb (.inr (.inr h))) (hk4 _ _ e), hb⟩) ⟨T, rfl, ⟨us, nu, hs5.extBut _ _ (ne _ _ hD3) hTo, hTi⟩, ?_⟩
        rintro (h | h | h)
        · exact ne _ _ hoC h
        · exact ne _ _ hoI h
        · exact ne _ _ hD3 h
end
end Mine
end

section -- Lc2
set_option linter.unusedVariables false
namespace Mine
open PySem PyProof.Rows PySem.W PySem.Calls PySem.Spec
open Sem (wp)

theorem none_of_stays {h h' : Heap} (k : h.StaysIn h') {a : Addr} (e : h'.get? a = none) : h.get? a = none := by
  cases q : h.get? a with
  | none => rfl
  | some o => rw [k _ _ q] at e; cases e

section
variable {prog : Program} {w : World} {A : Around} {E : Value → Shared → Prop} {s : Shared} {env : Env}

theorem ev_lc_lists {elt iter : Expr} {x : Str} {px : Pos} {ifs : List Expr} {scope : Scope} {cl : List (Str × Addr)} {pos : Pos} {Q : Value → Shared → Prop} (hh : A.handled = none) (p : Int → Bool) (g : Int → List Int)
    (hclos : closureFor scope env = pure cl) (hcell : ∀ y ∈ scope.names, y.2 ≠ .cell) (hkind : scope.kind = .function)
    (hnames : ∀ y ∈ scope.names, y.2 = .local → scope.names.lookup y.1 = some .local) (hx : scope.names.lookup x = some .local)
    (h : wpAny (model prog w) A (eval iter env) (fun xv s₁ => ∃ la vs n0 ns, xv = .ref la ∧ s₁.heap.get? la = some (lob vs n0) ∧ IntsAre vs ns ∧ ns.length ≤ 1000 ∧
      (∀ C a t s₃ m₃ E', s₁.heap.get? C = none → a ∈ ns → s₃.heap.Ns C m₃ → m₃ x = some (.int a t) → s₁.heap.StaysIn s₃.heap →
        wpAny (model prog w) A (forIn ifs true fun c r => if r = true then do let ok ← isTrue c (compEnvC scope cl C env) (eval c (compEnvC scope cl C env)); pure (ForInStep.yield ok) else pure (ForInStep.yield r))
          (fun ok s₄ => ok = p a ∧ Keeps s₃ s₄) E' s₃) ∧
      (∀ C a t s₃ m₃ E', s₁.heap.get? C = none → a ∈ ns → p a = true → s₃.heap.Ns C m₃ → m₃ x = some (.int a t) → s₁.heap.StaysIn s₃.heap →
        wpAny (model prog w) A (eval elt (compEnvC scope cl C env)) (fun y s₄ => (∃ T, y = .ref T ∧ s₃.heap.get? T = none ∧ IL s₄.heap T (g a)) ∧ Keeps s₃ s₄) E' s₃) ∧
      (∀ D h' tk, s₁.heap.get? D = none → LL h' D ((ns.filter p).map g) → s₁.heap.StaysIn h' → Q (.ref D) { s₁ with heap := h', toks := tk })) E s)
    (hs : ∀ x, foldedSetIterable iter env x = pure x := by intro _; rfl) :
    wpAny (model prog w) A (eval (.ListComp elt [⟨.Name x px, iter, ifs, 0⟩] scope pos) env) Q E s := by
  rw [eval_ListComp]
  refine wpAny_comprehension_free (use := none) rfl hs hclos hkind hnames (wpAny_mono h (fun xv s₁ h₁ => ?_) fun _ _ e => e)
  obtain ⟨la, vs, n0, ns, rfl, hla, hi, hlen, htests, helt, hQ⟩ := h₁
  refine wpAny_pyIter_list ⟨_, hla, rfl, n0, rfl⟩ ?_
  refine wpAny_newObj_type (wpAny_newFunctionEnv hcell (by intro y hy; simp at hy) (fun h₁ hns₁ hsb₁ => ?_) hkind)
  dsimp only at hns₁ hsb₁ ⊢
  have hI0 := get_size s₁.heap
  have hI1 : (s₁.heap.push { cls := .type "list_iterator", data := .fields #[.ref la, .int 0 0] }).get? s₁.heap.objs.size = some { cls := .type "list_iterator", data := .fields #[.ref la, .int 0 0] } := Heap.get?_push_size _ rfl
  generalize s₁.heap.objs.size = I at *
  have hD0 := get_size (s₁.heap.push { cls := .type "list_iterator", data := .fields #[.ref la, .int 0 0] })
  have hD1 : ((s₁.heap.push { cls := .type "list_iterator", data := .fields #[.ref la, .int 0 0] }).push { cls := .type "list", dict := none, data := .seq ([] : List Value).toArray }).get? (s₁.heap.push { cls := .type "list_iterator", data := .fields #[.ref la, .int 0 0] }).objs.size = some (lob [] 0) := Heap.get?_push_size _ rfl
  generalize (s₁.heap.push { cls := .type "list_iterator", data := .fields #[.ref la, .int 0 0] }).objs.size = D at *
  have hC0 := get_size ((s₁.heap.push { cls := .type "list_iterator", data := .fields #[.ref la, .int 0 0] }).push { cls := .type "list", dict := none, data := .seq ([] : List Value).toArray })
  generalize ((s₁.heap.push { cls := .type "list_iterator", data := .fields #[.ref la, .int 0 0] }).push { cls := .type "list", dict := none, data := .seq ([] : List Value).toArray }).objs.size = C at *
  have k1 : s₁.heap.StaysIn (s₁.heap.push { cls := .type "list_iterator", data := .fields #[.ref la, .int 0 0] }) := keep_push _
  generalize hH1 : s₁.heap.push { cls := .type "list_iterator", data := .fields #[.ref la, .int 0 0] } = H1 at *
  have k2 : H1.StaysIn (H1.push { cls := .type "list", dict := none, data := .seq ([] : List Value).toArray }) := keep_push _
  generalize hH2 : H1.push { cls := .type "list", dict := none, data := .seq ([] : List Value).toArray } = H2 at *
  have k3 : H2.StaysIn h₁ := fun b o e => hsb₁.extBut b o (fun hh => by rw [hh, hC0] at e; cases e) (Heap.get?_push_of_some _ e)
  have ne {h : Heap} {a b : Addr} {o : Obj} (ha : h.get? a = none) (hb : h.get? b = some o) : b ≠ a := fun e => by rw [e, ha] at hb; cases hb
  have hIC : I ≠ C := ne hC0 (k2 _ _ hI1)
  have hDC : D ≠ C := ne hC0 hD1
  have hDI : D ≠ I := (ne hD0 hI1).symm
  have hlI : la ≠ I := ne hI0 hla
  have hlD : la ≠ D := ne hD0 (k1 _ _ hla)
  have hlC : la ≠ C := ne hC0 (k2 _ _ (k1 _ _ hla))
  have hsC : s₁.heap.get? C = none := none_of_stays (stays_trans k1 k2) hC0
  have hsD : s₁.heap.get? D = none := none_of_stays k1 hD0
  have kk : ∀ {h : Heap}, (∀ b o, b ≠ C → b ≠ I → b ≠ D → h₁.get? b = some o → h.get? b = some o) → s₁.heap.StaysIn h := fun hk b o e =>
    hk b o (ne hsC e) (ne hI0 e) (ne hsD e) (k3 _ _ (k2 _ _ (k1 _ _ e)))
  have hIit : h₁.IsListIter I la 0 := ⟨_, k3 _ _ (k2 _ _ hI1), rfl, rfl⟩
  have loop : ∀ s3 : Shared, s3 = { s₁ with heap := h₁, toks := s₁.toks + ([] : List (Str × Value)).length } →
      codeAny (model prog w) A (.compLoop (.ListComp elt [⟨.Name x px, iter, ifs, 0⟩] scope pos) 0 (.ref I) (.ref D) (compEnvC scope cl C env)) (compPost (model prog w) A E none Q (.ref D) C) s3 := by
    rintro s3 rfl
    refine lc_loop (cenv := compEnvC scope cl C env) hh p g (lookup_relabel_local hx) (by simp [compEnvC, relabel, hkind]) hDC hDI hIC hlC hlI hlD (k3 _ _ (k2 _ _ (k1 _ _ hla))) hi hIit (k3 _ _ hD1) hns₁ hlen
      (fun a t s₂ m₂ E' ha hn2 hm2 hk2 => htests C a t s₂ m₂ E' hsC ha hn2 hm2 (kk hk2)) (fun a t s₂ m₂ E' ha hpa hn2 hm2 hk2 => helt C a t s₂ m₂ E' hsC ha hpa hn2 hm2 (kk hk2)) fun h' tk m' ys c hn' hD' hF' hk' => ?_
    refine ⟨m', hn', fun h'' hs'' => hQ D h'' tk hsD ⟨ys, c, hs''.extBut _ _ hDC hD', (hF'.map (N' := fun _ => False) fun b o hb e => ⟨hs''.extBut b o (fun h => hb (.inl h)) e, id⟩).ils⟩ ?_⟩
    exact fun b o e => hs''.extBut b o (ne hsC e) (kk hk' b o e)
  exact codeAny_compStart_list (loop _ rfl) (wpAny_pyIter_listiter (s := { s₁ with heap := h₁, toks := s₁.toks + ([] : List (Str × Value)).length }) hIit (loop _ rfl))
end
end Mine
end

section -- Cmp
set_option linter.unusedVariables false
namespace Mine
open PySem PyProof.Rows PySem.W PySem.Calls PySem.Spec PySem.SeqAt
open Sem (wp)

def dL (ns : List Int) : PyData := .list (ns.map .int)
def dLL (nss : List (List Int)) : PyData := .list (nss.map dL)

theorem ia_reads {h : Heap} {vs : List Value} {ns : List Int} (x : IntsAre vs ns) : ReadsAll h vs (ns.map .int) [] := by
  induction x with
  | nil => exact .nil
  | cons n t r ih => exact .cons (as := []) (.int n t) ih
theorem IL.reads {h : Heap} {a : Addr} {ns : List Int} (x : IL h a ns) : Reads h (.ref a) (dL ns) [a] := by
  obtain ⟨vs, n, ho, hi⟩ := x
  exact .list ho rfl rfl (ia_reads hi)
theorem ILs.reads {h : Heap} {vs : List Value} {nss : List (List Int)} (x : ILs h vs nss) : ∃ as, ReadsAll h vs (nss.map dL) as := by
  induction x with
  | nil => exact ⟨[], .nil⟩
  | cons a b ih =>
    obtain ⟨c, rfl, hc⟩ := a
    obtain ⟨as, ih⟩ := ih
    exact ⟨_, .cons hc.reads ih⟩
theorem LL.reads {h : Heap} {a : Addr} {nss : List (List Int)} (x : LL h a nss) : ∃ as, Reads h (.ref a) (dLL nss) as := by
  obtain ⟨vs, n, ho, hi⟩ := x
  obtain ⟨as, hr⟩ := ILs.reads hi
  exact ⟨_, .list ho rfl rfl hr⟩

theorem canLay_ints : ∀ ns : List Int, PyData.canLayAll0 (ns.map .int) = true
  | [] => rfl
  | a :: r => by rw [List.map_cons, PyData.canLayAll0, PyData.canLay0, canLay_ints r]; rfl
theorem canLay_dL (ns : List Int) : PyData.canLay0 (dL ns) = true := by unfold dL; rw [PyData.canLay0]; exact canLay_ints ns
theorem canLay_rows : ∀ nss : List (List Int), PyData.canLayAll0 (nss.map dL) = true
  | [] => rfl
  | a :: r => by rw [List.map_cons, PyData.canLayAll0, canLay_dL, canLay_rows r]; rfl
theorem depth_ints : ∀ ns : List Int, PyData.depthAll (ns.map .int) = 0
  | [] => rfl
  | a :: r => by rw [List.map_cons, PyData.depthAll, PyData.depth, depth_ints r]; rfl
theorem depth_dL (ns : List Int) : PyData.depth (dL ns) = 1 := by unfold dL; rw [PyData.depth, depth_ints]
theorem depth_rows : ∀ nss : List (List Int), PyData.depthAll (nss.map dL) ≤ 1
  | [] => Nat.zero_le _
  | a :: r => by rw [List.map_cons, PyData.depthAll, depth_dL]; have := depth_rows r; omega
theorem shaped_dL (ns : List Int) : shaped (dL ns) = true := by unfold shaped; rw [canLay_dL, depth_dL]; rfl
theorem shaped_dLL (nss : List (List Int)) : shaped (dLL nss) = true := by
  unfold shaped dLL
  rw [PyData.canLay0, PyData.depth, canLay_rows]
  have := depth_rows nss
  simp; omega

theorem eqv_ints : ∀ a b : List Int, PyData.eqvAll (a.map .int) (b.map .int) = decide (a = b)
  | [], [] => by simp [PyData.eqvAll]
  | [], _ :: _ => by simp [PyData.eqvAll]
  | _ :: _, [] => by simp [PyData.eqvAll]
  | x :: xs, y :: ys => by
    rw [List.map_cons, List.map_cons, PyData.eqvAll, PyData.eqv, eqv_ints xs ys]
    by_cases h : x = y <;> by_cases h' : xs = ys <;> simp [h, h']
theorem eqv_dL (a b : List Int) : PyData.eqv (dL a) (dL b) = decide (a = b) := by unfold dL; rw [PyData.eqv]; exact eqv_ints a b
theorem eqv_rows : ∀ a b : List (List Int), PyData.eqvAll (a.map dL) (b.map dL) = decide (a = b)
  | [], [] => by simp [PyData.eqvAll]
  | [], _ :: _ => by simp [PyData.eqvAll]
  | _ :: _, [] => by simp [PyData.eqvAll]
  | x :: xs, y :: ys => by
    rw [List.map_cons, List.map_cons, PyData.eqvAll, eqv_dL, eqv_rows xs ys]
    by_cases h : x = y <;> by_cases h' : xs = ys <;> simp [h, h']
theorem eqv_dLL (a b : List (List Int)) : PyData.eqv (dLL a) (dLL b) = decide (a = b) := by unfold dLL; rw [PyData.eqv]; exact eqv_rows a b

section
variable {prog : Program} {w : World} {A : Around} {E : Value → Shared → Prop} {s : Shared}
theorem ne_LL {a b : Addr} {nss mss : List (List Int)} {Q : Value → Shared → Prop} (ha : LL s.heap a nss) (hb : LL s.heap b mss) (hu : A.units + 64 < cLine)
    (h : Q (.bool (decide (nss ≠ mss))) s) : wpAny (model prog w) A (compareOp .NotEq (.ref a) (.ref b)) Q E s := by
  obtain ⟨as, ra⟩ := ha.reads
  obtain ⟨bs, rb⟩ := hb.reads
  refine ne_dataH ra rb (shaped_dLL _) (shaped_dLL _) hu ?_
  rw [eqv_dLL]
  rwa [← decide_not]
theorem ne_IL {a b : Addr} {ns ms : List Int} {Q : Value → Shared → Prop} (ha : IL s.heap a ns) (hb : IL s.heap b ms) (hu : A.units + 64 < cLine)
    (h : Q (.bool (decide (ns ≠ ms))) s) : wpAny (model prog w) A (compareOp .NotEq (.ref a) (.ref b)) Q E s := by
  refine ne_dataH ha.reads hb.reads (shaped_dL _) (shaped_dL _) hu ?_
  rw [eqv_dL]
  rwa [← decide_not]
end
end Mine
end

section -- Step4
set_option linter.unusedVariables false
namespace Mine
open PySem PyProof.Rows PySem.W PySem.Calls PySem.Spec
open Sem (wp)

section
variable {prog : Program} {w : World} {A : Around} {E : Value → Shared → Prop} {s : Shared} {env : Env}

theorem nm_c {n : Str} {c : Addr} {v : Value} {pos : Pos} {Q : Value → Shared → Prop} (F : InFn env) (hk : env.kindOf n = some .cell) (hc : env.cells.lookup n = some c) (hv : s.heap.IsCell c (some v)) (h : Q v s)
    (hd : (n == ("__debug__" : Str)) = false := by decide) : wpAny (model prog w) A (eval (.Name n pos) env) Q E s :=
  wpAny_Name (wpAny_loadName_cell F.kind hk hc hv h) hd

/-- a slice of a list by ints, or none, of a value that may be a temporary -/
theorem ev_slice {value : Expr} {lower upper : Option Expr} {p pos : Pos} {Q : Value → Shared → Prop}
    (h : wpAny (model prog w) A (eval value env) (fun o s₁ => wpAny (model prog w) A (evalPart lower env) (fun vl s₂ => wpAny (model prog w) A (evalPart upper env) (fun vu s₃ =>
      ∃ l vs n lo hi, o = .ref l ∧ s₃.heap.get? l = some (lob vs n) ∧ vs.length ≤ 2 ^ 20 ∧ IsPart vl lo ∧ IsPart vu hi ∧
        ∀ D h', s₃.heap.StaysIn h' → s₃.heap.get? D = none → h'.get? D = some (lob (slicePick vs.toArray lo hi none).toList 0) → Q (.ref D) { s₃ with heap := h' }) E s₂) E s₁) E s) :
    wpAny (model prog w) A (eval (.Subscript value (.Slice lower upper none p) pos) env) Q E s := by
  rw [eval_Subscript]
  refine wpAny_bind (wpAny_mono h (fun o s₁ h₁ => wpAny_bind (wpAny_holding (wpAny_Slice (wpAny_mono h₁ (fun vl s₂ h₂ => wpAny_mono h₂ (fun vu s₃ h₃ => wpAny_pure ?_) fun _ _ x => x) fun _ _ x => x)))) fun _ _ x => x)
  obtain ⟨l, vs, n, lo, hi, rfl, hl, hsz, pl, pu, hQ⟩ := h₃
  have hl' : (s₃.heap.push { cls := .type "slice", data := .fields #[vl, vu, .none] }).get? l = some (lob vs n) := Heap.get?_push_of_some _ hl
  have hT : Shared.TypeIs { s₃ with heap := s₃.heap.push { cls := .type "slice", data := .fields #[vl, vu, .none] } } (.ref l) "list" := ⟨_, hl', rfl⟩
  refine wpAny_bind (wpAny_standAt ?_)
  have fin : wpAny (model prog w) A (operate [.ref s₃.heap.objs.size, .ref l] (getItem (.ref l) (.ref s₃.heap.objs.size))) (fun r s₃ => wpAny (model prog w) A (letTemporaryGo value (.ref l) r >>= fun _ => pure r) Q E s₃) E
      { s₃ with heap := s₃.heap.push { cls := .type "slice", data := .fields #[vl, vu, .none] } } := by
    refine wpAny_operating (wpAny_getItem_list_slice (lo := lo) (hi := hi) (st := none) ⟨_, hl', rfl, n, rfl⟩ (Heap.IsSliceOf.new _ _ _ _) pl pu .none (by simp) ?_ (by show _ ≤ 2 ^ 24; simp; omega))
    refine wpAny_bind (wpAny_letTemporaryGo (wpAny_pure ?_))
    refine hQ _ _ (stays_trans (keep_push _) (keep_push _)) (Heap.get?_none_of_le (by rw [Heap.size_push]; exact Nat.le_succ _)) ?_
    have e := Heap.get?_push_size (s₃.heap.push { cls := .type "slice", data := .fields #[vl, vu, .none] }) (o := { cls := .type "list", data := .seq (slicePick vs.toArray lo hi none) }) rfl
    rw [e]
  first
    | (refine wpAny_bind ?_; rw [getitemInPython_of_ne hT.not_modules]; refine wpAny_bind (wpAny_specialOf hT slot_list_getitem.lookup ?_)
       first
         | exact wpAny_pure (wpAny_bind fin)
         | exact wpAny_bind (wpAny_pure (wpAny_bind fin))
         | exact wpAny_bind fin)
    | (refine wpAny_bind (wpAny_specialOf hT slot_list_getitem.lookup ?_)
       first
         | exact wpAny_bind (wpAny_pure (wpAny_bind fin))
         | exact wpAny_bind fin)

theorem sub_sub {value v2 i2 : Expr} {p2 pos : Pos} {Q : Value → Shared → Prop}
    (h : wpAny (model prog w) A (eval value env) (fun o s₁ => wpAny (model prog w) A (eval (.Subscript v2 i2 p2) env) (fun i s₂ => ItemOn (model prog w) A E o i Q s₂) E s₁) E s) :
    wpAny (model prog w) A (eval (.Subscript value (.Subscript v2 i2 p2) pos) env) Q E s := by
  rw [eval_Subscript]
  refine wpAny_bind (wpAny_mono h (fun o s₁ h₁ => wpAny_bind (wpAny_holding (wpAny_mono h₁ (fun i s₂ h₂ => wpAny_bind (wpAny_standAt ?_)) fun _ _ x => x)))
    fun _ _ x => x)
  obtain ⟨T, id, hl, hT, hg⟩ := h₂
  have fin : wpAny (model prog w) A (operate [o, i] (getItem o i)) (fun r s₃ => wpAny (model prog w) A (letTemporaryGo value o r >>= fun _ => pure r) Q E s₃) E s₂ :=
    wpAny_operating (wpAny_mono hg (fun r s₃ h₃ => wpAny_bind (wpAny_letTemporaryGo (wpAny_pure h₃))) fun _ _ x => x)
  first
    | (refine wpAny_bind ?_; rw [getitemInPython_of_ne hT.not_modules]; refine wpAny_bind (wpAny_specialOf hT hl ?_)
       first
         | exact wpAny_pure (wpAny_bind fin)
         | exact wpAny_bind (wpAny_pure (wpAny_bind fin))
         | exact wpAny_bind fin)
    | (refine wpAny_bind (wpAny_specialOf hT hl ?_)
       first
         | exact wpAny_pure (wpAny_bind fin)
         | exact wpAny_bind (wpAny_pure (wpAny_bind fin))
         | exact wpAny_bind fin)

/-- xs[k], k written -/
theorem ev_idx {value : Expr} {k kd : Nat} {p pos : Pos} {Q : Value → Shared → Prop}
    (h : wpAny (model prog w) A (eval value env) (fun o s₁ => ∃ l vs n x, o = .ref l ∧ s₁.heap.get? l = some (lob vs n) ∧ vs[k]? = some x ∧ k < 2 ^ 20 ∧ ∀ t, Q x { s₁ with toks := t }) E s)
    (ht : ∀ o r, letTemporaryGo value o r = pure () := by intro _ _; rfl) :
    wpAny (model prog w) A (eval (.Subscript value (.Constant (.int (k : Nat)) kd p) pos) env) Q E s := by
  refine Subscript_Constant (wpAny_mono h (fun o s₁ h₁ => ?_) fun _ _ x => x) ht
  obtain ⟨l, vs, n, x, rfl, hl, hx, hk, hQ⟩ := h₁
  refine wpAny_Constant_int ⟨"list", _, slot_list_getitem.lookup, ⟨_, hl, rfl⟩, ?_⟩
  exact wpAny_getItem_list (items := vs.toArray) ⟨_, hl, rfl, n, rfl⟩ (by omega) (by omega) (by simpa using hx) (hQ _)

theorem ev_pair {e1 e2 : Expr} {k : Nat} {pos : Pos} {Q : Value → Shared → Prop}
    (h : wpAny (model prog w) A (eval e1 env) (fun v1 s₁ => wpAny (model prog w) A (eval e2 env) (fun v2 s₂ => ∀ T h', s₂.heap.StaysIn h' → h'.IsTuple T #[v1, v2] → Q (.ref T) { s₂ with heap := h' }) E s₁) E s)
    (he : starEach [e1, e2] env = [(false, eval e1 env), (false, eval e2 env)] := by rfl) (he2 : starEach [e2] env = [(false, eval e2 env)] := by rfl) :
    wpAny (model prog w) A (eval (.Tuple [e1, e2] k pos) env) Q E s := by
  refine wpAny_Tuple (wpAny_items_cons (wpAny_mono h (fun v1 s₁ h₁ => wpAny_items_cons (wpAny_mono h₁ (fun v2 s₂ h₂ => wpAny_items_nil ⟨by show 2 ≤ 2 ^ 24; omega, ?_⟩) fun _ _ x => x) ?_) fun _ _ x => x) ?_)
  · exact h₂ _ _ (keep_push _) ⟨_, Heap.get?_push_size _ rfl, rfl, 0, rfl⟩
  · rw [he2]; rfl
  · rw [he, he2]

theorem stays_ext {h h' : Heap} (k : Heap.ExtBut h.objs.size h h') : h.StaysIn h' := fun b o e => k b o (fun hh => by rw [hh, get_size] at e; cases e) e

/-- a, b = e1, e2 where both names are plain locals: b is stored first -/
theorem asg_swapped {a b : Str} {e1 e2 : Expr} {ts : List Expr} {k1 k2 : Nat} {p1 p2 pos : Pos} {Q : Flow → Shared → Prop} (hh : A.handled = none)
    (h : wpAny (model prog w) A (eval e1 env) (fun v1 s₁ => wpAny (model prog w) A (eval e2 env) (fun v2 s₂ => ∀ h', s₂.heap.StaysIn h' →
      wpAny (model prog w) A (storeName env b v2) (fun _ s₃ => wpAny (model prog w) A (storeName env a v1) (fun _ => Q .next) E s₃) E { s₂ with heap := h' }) E s₁) E s)
    (hs : swapsWithSole [.Tuple ts k1 p1] (.Tuple [e1, e2] k2 p2) pos.line env = pure false := by rfl)
    (hw : swappedStores [.Tuple ts k1 p1] (.Tuple [e1, e2] k2 p2) env = pure (some [a, b]) := by rfl)
    (he : starEach [e1, e2] env = [(false, eval e1 env), (false, eval e2 env)] := by rfl) (he2 : starEach [e2] env = [(false, eval e2 env)] := by rfl) :
    wpAny (model prog w) A (exec (.Assign [.Tuple ts k1 p1] (.Tuple [e1, e2] k2 p2) pos) env) Q E s := by
  refine Assign_Tuple_swapped (names := [a, b]) (ev_pair (wpAny_mono h (fun v1 s₁ h₁ => wpAny_mono h₁ (fun v2 s₂ h₂ T h' k hT => ?_) fun _ _ x => x) fun _ _ x => x) he he2) hs hw
  refine wpAny_unpackItems_tuple (items := #[v1, v2]) hh hT fun h'' k' => ?_
  have := h₂ h'' (stays_trans k (stays_ext k'))
  show wpAny _ A (do holding [v1] (bindName env b v2); do holding [] (bindName env a v1); pure ()) _ _ _
  exact wpAny_bind (wpAny_holding (wpAny_bindName (wpAny_mono this (fun _ s₃ h₃ => wpAny_bind (wpAny_holding (wpAny_bindName (wpAny_mono h₃ (fun _ _ x => wpAny_pure x) fun _ _ x => x)))) fun _ _ x => x)))

/-- a, b = e1, e2 in the plain way -/
theorem asg_plain {a b : Str} {pa pb : Pos} {e1 e2 : Expr} {k1 k2 : Nat} {p1 p2 pos : Pos} {Q : Flow → Shared → Prop} (hh : A.handled = none)
    (h : wpAny (model prog w) A (eval e1 env) (fun v1 s₁ => wpAny (model prog w) A (eval e2 env) (fun v2 s₂ => ∀ h', s₂.heap.StaysIn h' →
      wpAny (model prog w) A (storeName env a v1) (fun _ s₃ => wpAny (model prog w) A (storeName env b v2) (fun _ => Q .next) E s₃) E { s₂ with heap := h' }) E s₁) E s)
    (hs : swapsWithSole [.Tuple [.Name a pa, .Name b pb] k1 p1] (.Tuple [e1, e2] k2 p2) pos.line env = pure false := by rfl)
    (hw : swappedStores [.Tuple [.Name a pa, .Name b pb] k1 p1] (.Tuple [e1, e2] k2 p2) env = pure none := by rfl)
    (he : starEach [e1, e2] env = [(false, eval e1 env), (false, eval e2 env)] := by rfl) (he2 : starEach [e2] env = [(false, eval e2 env)] := by rfl) :
    wpAny (model prog w) A (exec (.Assign [.Tuple [.Name a pa, .Name b pb] k1 p1] (.Tuple [e1, e2] k2 p2) pos) env) Q E s := by
  refine Assign_Tuple (ev_pair (wpAny_mono h (fun v1 s₁ h₁ => wpAny_mono h₁ (fun v2 s₂ h₂ T h' k hT => ?_) fun _ _ x => x) fun _ _ x => x) he he2) hs hw
  rw [arm_assign_Tuple]
  refine wpAny_bind (wpAny_standAt (wpAny_unpack_tuple (items := #[v1, v2]) hh hT rfl rfl fun h'' k' => ?_))
  have := h₂ h'' (stays_trans k (stays_ext k'))
  show wpAny _ A (do holding [v2] (assign (.Name a pa) env v1); do holding [] (assign (.Name b pb) env v2); pure ()) _ _ _
  exact wpAny_bind (wpAny_holding (wpAny_assign_Name (wpAny_mono this (fun _ s₃ h₃ => wpAny_bind (wpAny_holding (wpAny_assign_Name (wpAny_mono h₃ (fun _ _ x => wpAny_pure x) fun _ _ x => x)))) fun _ _ x => x)))
end
end Mine
end

section -- FnAll
set_option linter.unusedVariables false
namespace Mine
open PySem PyProof.Rows PySem.W PySem.Calls PySem.Spec
open Sem (wp)

/-- lists and tuples stay -/
def Fz (h h' : Heap) : Prop := ∀ b o, h.get? b = some o → (∃ xs n, o.data = .seq xs n) → h'.get? b = some o
theorem Fz.of_stays {h h' : Heap} (k : h.StaysIn h') : Fz h h' := fun b o e _ => k b o e
theorem Fz.of_ns {h h' : Heap} {L : Addr} {m : Str → Option Value} (hn : h.Ns L m) (hs : Heap.SameBut L h h') : Fz h h' := fun b o e ⟨xs, n, hd⟩ => hs.extBut b o (fun hh => by
  obtain ⟨o', es, ep, ho, hd', _⟩ := hn
  rw [hh, ho] at e; cases e; rw [hd] at hd'; cases hd') e
theorem Fz.of_cell {h h' : Heap} {c : Addr} {v : Option Value} (hc : h.IsCell c v) (hs : Heap.SameBut c h h') : Fz h h' := fun b o e ⟨xs, n, hd⟩ => hs.extBut b o (fun hh => by
  obtain ⟨o', ho, hd'⟩ := hc
  rw [hh, ho] at e; cases e; rw [hd] at hd'; cases hd') e
theorem Fz.trans {h h' h'' : Heap} (x : Fz h h') (y : Fz h' h'') : Fz h h'' := fun b o e hd => y b o (x b o e hd) hd
theorem IL.fz {h h' : Heap} {a : Addr} {ns : List Int} (x : IL h a ns) (k : Fz h h') : IL h' a ns := let ⟨vs, n, ho, hi⟩ := x; ⟨vs, n, k _ _ ho ⟨_, _, rfl⟩, hi⟩
theorem ILs.fz {h h' : Heap} {vs : List Value} {nss : List (List Int)} (x : ILs h vs nss) (k : Fz h h') : ILs h' vs nss := by
  induction x with
  | nil => exact .nil
  | cons a b ih => obtain ⟨c, h1, h2⟩ := a; exact .cons ⟨c, h1, h2.fz k⟩ ih
theorem LL.fz {h h' : Heap} {a : Addr} {nss : List (List Int)} (x : LL h a nss) (k : Fz h h') : LL h' a nss := let ⟨vs, n, ho, hi⟩ := x; ⟨vs, n, k _ _ ho ⟨_, _, rfl⟩, hi.fz k⟩
theorem ILs.get {h : Heap} {vs : List Value} {nss : List (List Int)} (x : ILs h vs nss) {i : Nat} {ns : List Int} (hi : nss[i]? = some ns) : ∃ b, vs[i]? = some (.ref b) ∧ IL h b ns := by
  induction x generalizing i with
  | nil => simp at hi
  | cons a b ih =>
    obtain ⟨c, rfl, h2⟩ := a
    cases i with
    | zero => cases hi; exact ⟨c, rfl, h2⟩
    | succ i => obtain ⟨b', h3, h4⟩ := ih (i := i) (by simpa using hi); exact ⟨b', by simpa using h3, h4⟩
theorem ILs.drop {h : Heap} {vs : List Value} {nss : List (List Int)} (x : ILs h vs nss) (i : Nat) : ILs h (vs.drop i) (nss.drop i) := by
  induction x generalizing i with
  | nil => simp; exact .nil
  | cons a b ih =>
    cases i with
    | zero => exact .cons a b
    | succ i => simpa using ih i
/-- what _law_all reckons, row by row -/
inductive AL (tb : Int → Option (List Int)) (S : Int → Bool) : Nat → List (List Int) → List (List Int) → List (List Int) → Prop
  | nil {don} : AL tb S 0 [] don don
  | cons {n pre k rest don res r} : tb k = some r → rest.length ≤ 500 → pre.length ≤ 100 → don.length ≤ 500 → r.length ≤ 100 →
      AL tb S n (rest ++ (r.filter (fun e => !(pre ++ [k]).any (· == e))).map (fun e => pre ++ [k] ++ [e])) (if S k then don ++ [(pre ++ [k]).reverse] else don) res →
      AL tb S (n + 1) ((pre ++ [k]) :: rest) don res

abbrev aenv (pm : Value) (L : Addr) : Env := callEnvC (fdOf 9 pm 81) L 82
section
variable (pm : Value) (L : Addr)
theorem a_fn : InFn (aenv pm L) := ⟨rfl, rfl, rfl⟩
theorem ak_table : (aenv pm L).kindOf "table" = some .local := by rfl
theorem ak_starts : (aenv pm L).kindOf "starts" = some .local := by rfl
theorem ak_goal : (aenv pm L).kindOf "goal" = some .local := by rfl
theorem ak_rows : (aenv pm L).kindOf "rows" = some .local := by rfl
theorem ak_done : (aenv pm L).kindOf "done" = some .local := by rfl
theorem ak_row : (aenv pm L).kindOf "row" = some .cell := by rfl
theorem ak_sorted : (aenv pm L).kindOf "sorted" = some .globalImplicit := by rfl
theorem ac_row : (aenv pm L).cells.lookup (Str.ofString "row") = some (L + 1) := by rfl
end

def aWhile : Stmt := nthS (bodyOf 9) 1

structure AF (prog : Program) (w : World) (Z : Heap) (T sl : Addr) (tb : Int → Option (List Int)) (st : List Int) (L : Addr) (h0 h : Heap) (rows don : List (List Int)) : Prop where
  z : Z.StaysIn h
  k : h0.StaysIn h
  ns : ∃ m R D, h.Ns L m ∧ m "table" = some (.ref T) ∧ m "starts" = some (.ref sl) ∧ m "rows" = some (.ref R) ∧ m "done" = some (.ref D) ∧ LL h R rows ∧ LL h D don
  cell : ∃ v, h.IsCell (L + 1) v

section
variable {prog : Program} {w : World} {A : Around} {E : Value → Shared → Prop} {s : Shared} {Z : Heap} {T sl : Addr} {tb : Int → Option (List Int)} {st : List Int} {pm : Value} {L : Addr} {h0 : Heap}

theorem ac_comp (pm : Value) (L : Addr) : closureFor ⟨.function, [(Str.ofString ".0", .local), (Str.ofString "node", .local), (Str.ofString "row", .free)], false, false, []⟩ (aenv pm L) = pure [(Str.ofString "row", L + 1)] := by rfl

theorem IL.snoc {h : Heap} {a : Addr} {ns : List Int} {k : Int} (x : IL h a (ns ++ [k])) : ∃ vs t n, h.get? a = some (lob (vs ++ [.int k t]) n) ∧ IntsAre vs ns := by
  obtain ⟨vs, n, ho, hi⟩ := x
  obtain ⟨vs0, t, rfl, hi0⟩ := ia_snoc hi
  exact ⟨vs0, t, n, ho, hi0⟩

theorem a_last {Q : Flow → Shared → Prop} {pre : List Int} {k : Int} {rest don : List (List Int)} {r : List Int} {b0 : Addr} (hh : A.handled = none) (ST : Stat Z) (PD : PdOk prog w Z T tb)
    (hZL : Z.get? L = none) (h0L : h0.get? L = none)
    (hr : tb k = some r) (h1 : rest.length ≤ 500) (h2 : pre.length ≤ 100) (h4 : r.length ≤ 100)
    (F : AF prog w Z T sl tb st L h0 s.heap rest don) (hc : s.heap.IsCell (L + 1) (some (.ref b0))) (hb : IL s.heap b0 (pre ++ [k]))
    (hQ : ∀ h t, AF prog w Z T sl tb st L h0 h (rest ++ (r.filter (fun e => !(pre ++ [k]).any (· == e))).map (fun e => pre ++ [k] ++ [e])) don → Q .next { s with heap := h, toks := t }) :
    wpAny (model prog w) A (exec (nthS (bodyS aWhile) 2) (aenv pm L)) Q E s := by
  obtain ⟨z, k0, ⟨m, R, D, hn, mT, mS, mR, mD, hR, hD⟩, _⟩ := F
  obtain ⟨vsR, nR, hRo, hRi⟩ := id hR
  obtain ⟨vb, tb', nb, hbo, hbi⟩ := hb.snoc
  have hrl : (pre ++ [k]).length ≤ 101 := by simp; omega
  show wpAny _ _ (exec (.Assign [.Name _ _] _ _) _) _ _ _
  refine wpAny_Assign_Name (wpAny_BinOp (nm_l (a_fn pm L) hn (ak_rows pm L) mR ?_))
  refine ev_lc_lists hh (fun e => !(pre ++ [k]).any (· == e)) (fun e => pre ++ [k] ++ [e]) (cl := [(Str.ofString "row", L + 1)]) (by rfl) (by decide) (by rfl) (by decide) (by rfl) ?_
  obtain ⟨sT, tkvs, hT, hTb⟩ := id PD
  have hv := hTb k
  rw [hr] at hv
  obtain ⟨ra, hva, vr, nr, hro, hri⟩ := hv
  refine sub_sub (nm_l (a_fn pm L) hn (ak_table pm L) mT (ev_last (nm_c (a_fn pm L) (ak_row pm L) (ac_row pm L) hc ⟨b0, vb, nb, _, rfl, hbo, fun t2 => ⟨"dict", _, F.slot_dict_getitem.lookup, (hT.keep z).typeIs, ?_⟩⟩)))
  refine wpAny_getItem_of (intKind_is prog w k tb') (s := { s with toks := t2 }) (hT.keep z).mapOf hva ?_
  have hcx : ∀ {s' : Shared}, s.heap.StaysIn s'.heap → s'.heap.IsCell (L + 1) (some (.ref b0)) := fun k' => hc.keeps k'
  refine ⟨ra, vr, nr, r, rfl, z _ _ hro, hri, by omega, fun C a t s3 m3 E' hC ha hn3 hm3 k3 => ?_, fun C a t s3 m3 E' hC ha hpa hn3 hm3 k3 => ?_, fun D1 h' tk hD1 hL1 k' => ?_⟩
  · -- node not in row
    have cf : InFn (compEnvC ⟨.function, [(Str.ofString ".0", .local), (Str.ofString "node", .local), (Str.ofString "row", .free)], false, false, []⟩ [(Str.ofString "row", L + 1)] C (aenv pm L)) := ⟨rfl, rfl, rfl⟩
    refine wpAny_tests_one (wpAny_isTrue_Compare1 (nm_l cf hn3 (by rfl) hm3 (nm_c cf (by rfl) (by rfl) (hcx k3) ?_)))
    refine notin_list_ints (vs := vb ++ [Value.int k tb']) (ns := pre ++ [k]) ⟨_, k3 _ _ hbo, rfl, nb, rfl⟩ (ia_append hbi (.cons k tb' .nil)) (wpAny_truthy_bool ⟨rfl, s3.heap, s3.toks, rfl, fun _ _ e => e⟩)
  · -- row + [node]
    have cf : InFn (compEnvC ⟨.function, [(Str.ofString ".0", .local), (Str.ofString "node", .local), (Str.ofString "row", .free)], false, false, []⟩ [(Str.ofString "row", L + 1)] C (aenv pm L)) := ⟨rfl, rfl, rfl⟩
    refine wpAny_BinOp (nm_c cf (by rfl) (by rfl) (hcx k3) (wpAny_List (wpAny_items_cons (nm_l cf hn3 (by rfl) hm3 (wpAny_items_nil ⟨by show 1 ≤ 2 ^ 24; omega, ?_⟩)))))
    have hbl : (vb ++ [Value.int k tb']).length ≤ 101 := by have := ia_len hbi; simp; omega
    refine P.add_list (items := (vb ++ [Value.int k tb']).toArray) (n := nb) (items2 := #[Value.int a t]) (n2 := 0) (Heap.get?_push_of_some _ (k3 _ _ hbo)) (Heap.get?_push_size _ rfl) ?_ (by show _ ≤ 2 ^ 24; simp at hbl ⊢; omega)
    refine ⟨⟨_, rfl, Heap.get?_none_of_le (by rw [Heap.size_push]; exact Nat.le_succ _), vb ++ [Value.int k tb'] ++ [Value.int a t], 0, ?_, ia_append (ia_append hbi (.cons k tb' .nil)) (.cons a t .nil)⟩, _, s3.toks, rfl, stays_trans (keep_push _) (keep_push _)⟩
    have e := Heap.get?_push_size (s3.heap.push { cls := .type "list", data := .seq [Value.int a t].toArray }) (o := { cls := .type "list", data := .seq ((vb ++ [Value.int k tb']).toArray ++ #[Value.int a t]) }) rfl
    rw [e]; simp [lob]
  · -- rows + [..]
    obtain ⟨vd, nd, hdo, hdi⟩ := id hL1
    have hdl := ILs.length hdi
    have hRl := ILs.length hRi
    have hfl : ((r.filter (fun e => !(pre ++ [k]).any (· == e))).map (fun e => pre ++ [k] ++ [e])).length ≤ 100 := by
      rw [List.length_map]; exact Nat.le_trans (List.length_filter_le _ _) h4
    refine P.add_list (items := vsR.toArray) (n := nR) (items2 := vd.toArray) (n2 := nd) (k' _ _ hRo) hdo ?_ (by show _ ≤ 2 ^ 24; simp; omega)
    have k4 : s.heap.StaysIn (h'.push { cls := .type "list", data := .seq (vsR.toArray ++ vd.toArray) }) := stays_trans k' (keep_push _)
    have hnew : LL (h'.push { cls := .type "list", data := .seq (vsR.toArray ++ vd.toArray) }) h'.objs.size (rest ++ (r.filter (fun e => !(pre ++ [k]).any (· == e))).map (fun e => pre ++ [k] ++ [e])) :=
      ⟨vsR ++ vd, 0, by rw [Heap.get?_push_size _ rfl]; simp [lob], ILs.append (hRi.keep k4) (hdi.keep (keep_push _))⟩
    refine wpAny_storeName_local (ak_rows pm L) (hn.keeps k4) fun h5 hn5 hs5 => ?_
    have fz := Fz.of_ns (hn.keeps k4) hs5
    refine hQ h5 _ ⟨?_, ?_, ⟨_, h'.objs.size, D, hn5, (if_neg (by decide)).trans mT, (if_neg (by decide)).trans mS, if_pos rfl, (if_neg (by decide)).trans mD, hnew.fz fz, (hD.keep k4).fz fz⟩, ⟨_, (hc.keeps k4).sameBut hs5 (Nat.succ_ne_self L)⟩⟩
    · exact fun b o e => hs5.extBut b o (fun hh => by rw [show b = L from hh, hZL] at e; cases e) (k4 _ _ (z b o e))
    · exact fun b o e => hs5.extBut b o (fun hh => by rw [show b = L from hh, h0L] at e; cases e) (k4 _ _ (k0 b o e))

theorem a_turn {Q : Flow → Shared → Prop} {pre : List Int} {k : Int} {rest don : List (List Int)} {r : List Int} (hh : A.handled = none) (hu : A.units + 100 < cLine) (ST : Stat Z) (PD : PdOk prog w Z T tb) (hsl : IL Z sl st)
    (hZL : Z.get? L = none) (hZc : Z.get? (L + 1) = none) (h0L : h0.get? L = none) (h0c : h0.get? (L + 1) = none)
    (hr : tb k = some r) (h1 : rest.length ≤ 500) (h2 : pre.length ≤ 100) (h3 : don.length ≤ 500) (h4 : r.length ≤ 100)
    (F : AF prog w Z T sl tb st L h0 s.heap ((pre ++ [k]) :: rest) don)
    (hQ : ∀ h t, AF prog w Z T sl tb st L h0 h (rest ++ (r.filter (fun e => !(pre ++ [k]).any (· == e))).map (fun e => pre ++ [k] ++ [e])) (if st.any (· == k) then don ++ [(pre ++ [k]).reverse] else don) →
      Q .next { s with heap := h, toks := t }) :
    wpAny (model prog w) A (execs (bodyS aWhile) (aenv pm L)) Q E s := by
  obtain ⟨z, k0, ⟨m, R, D, hn, mT, mS, mR, mD, hR, hD⟩, ⟨cv, hc⟩⟩ := F
  obtain ⟨vsR, nR, hRo, hRi⟩ := id hR
  have hRl := ILs.length hRi
  obtain ⟨b0, hb0, hb0i⟩ := ILs.get hRi (i := 0) rfl
  -- row, rows = (rows[0], rows[1:])
  refine wpAny_execs_cons (asg_plain hh (ev_idx (nm_l (a_fn pm L) hn (ak_rows pm L) mR ⟨R, vsR, nR, _, rfl, hRo, hb0, by decide, fun t => ?_⟩)))
  refine ev_slice (nm_l (a_fn pm L) hn (ak_rows pm L) mR (wpAny_evalPart_some (wpAny_Constant_int (wpAny_evalPart_none ⟨R, vsR, nR, some 1, none, rfl, hRo, ?_, .int _ _, .none, fun D1 h1' k1 hD10 hD1 => ?_⟩))))
  · rw [hRl]; simp; omega
  have esl := slicePick_from' vsR.toArray 1
  rw [show ((1 : Nat) : Int) = 1 from rfl] at esl
  rw [esl] at hD1
  intro h2' k2
  have kA : s.heap.StaysIn h2' := stays_trans k1 k2
  -- row
  refine wpAny_storeName_cell (a_fn pm L).kind (ak_row pm L) (ac_row pm L) (hc.keeps kA) fun h3 hc3 hs3 => ?_
  have fz3 := Fz.of_cell (hc.keeps kA) hs3
  have hn3 : h3.Ns L m := (hn.keeps kA).extBut hs3.extBut (Nat.succ_ne_self L).symm
  -- rows
  refine wpAny_storeName_local (ak_rows pm L) hn3 fun h4' hn4 hs4 => ?_
  have fz4 := Fz.of_ns hn3 hs4
  have hc4 : h4'.IsCell (L + 1) (some (.ref b0)) := hc3.sameBut hs4 (Nat.succ_ne_self L)
  have fzA : Fz s.heap h4' := (Fz.of_stays kA).trans (fz3.trans fz4)
  have kB : ∀ b o, b ≠ L → b ≠ L + 1 → s.heap.get? b = some o → h4'.get? b = some o := fun b o q1 q2 e => hs4.extBut b o q1 (hs3.extBut b o q2 (kA _ _ e))
  have z4 : Z.StaysIn h4' := fun b o e => kB b o (fun hh => by rw [hh, hZL] at e; cases e) (fun hh => by rw [hh, hZc] at e; cases e) (z b o e)
  have k4 : h0.StaysIn h4' := fun b o e => kB b o (fun hh => by rw [hh, h0L] at e; cases e) (fun hh => by rw [hh, h0c] at e; cases e) (k0 b o e)
  have hD4 : LL h4' D don := hD.fz fzA
  have hb4 : IL h4' b0 (pre ++ [k]) := hb0i.fz fzA
  have hR4 : LL h4' D1 rest := by
    have hx : LL h1' D1 rest := ⟨vsR.drop 1, 0, by simpa using hD1, by simpa using (hRi.drop 1).keep k1⟩
    exact hx.fz ((Fz.of_stays k2).trans (fz3.trans fz4))
  obtain ⟨vb, tb', nb, hbo, hbi⟩ := hb4.snoc
  -- the test
  have mT4 : (fun x => if x = Str.ofString "rows" then some (Value.ref D1) else m x) "table" = some (.ref T) := (if_neg (by decide)).trans mT
  have mS4 : (fun x => if x = Str.ofString "rows" then some (Value.ref D1) else m x) "starts" = some (.ref sl) := (if_neg (by decide)).trans mS
  have mD4 : (fun x => if x = Str.ofString "rows" then some (Value.ref D1) else m x) "done" = some (.ref D) := (if_neg (by decide)).trans mD
  have mR4 : (fun x => if x = Str.ofString "rows" then some (Value.ref D1) else m x) "rows" = some (.ref D1) := if_pos rfl
  obtain ⟨vst, nst, hsto, hsti⟩ := hsl
  refine wpAny_execs_cons (wpAny_If (wpAny_isTrue_Compare1 (ev_last (nm_c (a_fn pm L) (ak_row pm L) (ac_row pm L) hc4 ⟨b0, vb, nb, _, rfl, hbo, fun t2 => ?_⟩))))
  refine nm_l (a_fn pm L) hn4 (ak_starts pm L) mS4 (in_list_ints ⟨_, z4 _ _ hsto, rfl, nst, rfl⟩ hsti (wpAny_truthy_bool ?_))
  by_cases hS : st.any (· == k) = true
  · rw [hS] at hQ ⊢
    rw [if_pos rfl]
    rw [if_pos rfl] at hQ
    obtain ⟨vD, nD, hDo, hDi⟩ := id hD4
    have hDl := ILs.length hDi
    refine wpAny_execs_cons (wpAny_Assign_Name (wpAny_BinOp (nm_l (a_fn pm L) hn4 (ak_done pm L) mD4 (wpAny_List (wpAny_items_cons (ev_rev (nm_c (a_fn pm L) (ak_row pm L) (ac_row pm L) hc4 ⟨b0, _, nb, rfl, hbo, ?_, fun Dr h5 t5 k5 hDr0 hDr => wpAny_items_nil ⟨by show 1 ≤ 2 ^ 24; omega, ?_⟩⟩)))))))
    · have := ia_len hbi; simp; omega
    have kC : h4'.StaysIn (h5.push { cls := .type "list", data := .seq [Value.ref Dr].toArray }) := stays_trans k5 (keep_push _)
    refine P.add_list (items := vD.toArray) (n := nD) (items2 := #[Value.ref Dr]) (n2 := 0) (kC _ _ hDo) (Heap.get?_push_size _ rfl) ?_ (by show _ ≤ 2 ^ 24; simp; omega)
    generalize hH6 : h5.push { cls := .type "list", data := .seq [Value.ref Dr].toArray } = H6 at *
    have kD : h4'.StaysIn (H6.push { cls := .type "list", data := .seq (vD.toArray ++ #[Value.ref Dr]) }) := stays_trans kC (keep_push _)
    have hDr6 : IL H6 Dr (pre ++ [k]).reverse := ⟨_, 0, by rw [← hH6]; exact Heap.get?_push_of_some _ hDr, ia_reverse (ia_append hbi (.cons k tb' .nil))⟩
    have hnew : LL (H6.push { cls := .type "list", data := .seq (vD.toArray ++ #[Value.ref Dr]) }) H6.objs.size (don ++ [(pre ++ [k]).reverse]) :=
      ⟨vD ++ [.ref Dr], 0, by rw [Heap.get?_push_size _ rfl]; simp [lob], ILs.append (hDi.keep kD) (.cons ⟨Dr, rfl, hDr6.keep (keep_push _)⟩ .nil)⟩
    refine wpAny_storeName_local (ak_done pm L) (hn4.keeps kD) fun h7 hn7 hs7 => ?_
    have fz7 := Fz.of_ns (hn4.keeps kD) hs7
    refine wpAny_execs_nil (wpAny_execs_cons (a_last hh ST PD hZL h0L hr h1 h2 h4 ⟨?_, ?_, ⟨_, D1, H6.objs.size, hn7, (if_neg (by decide)).trans mT4, (if_neg (by decide)).trans mS4, (if_neg (by decide)).trans mR4, if_pos rfl, (hR4.keep kD).fz fz7, hnew.fz fz7⟩, ⟨_, (hc4.keeps kD).sameBut hs7 (Nat.succ_ne_self L)⟩⟩ ((hc4.keeps kD).sameBut hs7 (Nat.succ_ne_self L)) ((hb4.keep kD).fz fz7) fun h8 t8 F8 => wpAny_execs_nil (hQ h8 t8 F8)))
    · exact fun b o e => hs7.extBut b o (fun hh => by rw [show b = L from hh, hZL] at e; cases e) (kD _ _ (z4 b o e))
    · exact fun b o e => hs7.extBut b o (fun hh => by rw [show b = L from hh, h0L] at e; cases e) (kD _ _ (k4 b o e))
  · rw [Bool.not_eq_true] at hS
    rw [hS] at hQ ⊢
    rw [if_neg Bool.false_ne_true]
    rw [if_neg Bool.false_ne_true] at hQ
    refine wpAny_execs_nil (wpAny_execs_cons (a_last hh ST PD hZL h0L hr h1 h2 h4 ⟨z4, k4, ⟨_, D1, D, hn4, mT4, mS4, mR4, mD4, hR4, hD4⟩, ⟨_, hc4⟩⟩ hc4 hb4 fun h8 t8 F8 => wpAny_execs_nil (hQ h8 t8 F8)))
end
end Mine
end

section -- FnAll2
set_option linter.unusedVariables false
namespace Mine
open PySem PyProof.Rows PySem.W PySem.Calls PySem.Spec
open Sem (wp)

section
variable {prog : Program} {w : World} {A : Around} {E : Value → Shared → Prop} {s : Shared}

/-- a call of a def with cells -/
theorem call_fnC {a : Addr} {o : Obj} {fd : FuncData} {body : List Stmt} {vals : List Value} {binds : List (Str × Value)} {Q : Value → Shared → Prop} (R : Roomy A)
    (ho : s.heap.get? a = some o) (hdata : o.data = .func fd) (hlim : s.heap.NoLimit) (hcd : s.heap.CodeRec fd.code fd.qualname)
    (hbody : fd.body = .stmts body) (hbind : bindArgs fd ⟨vals, []⟩ = pure binds) (hclo : fd.closure = [])
    (hkind : ∀ x ∈ binds, fd.scope.names.lookup x.1 = some .local ∨ (fd.scope.names.lookup x.1 = some .cell ∧ ((cellsFrom (s.heap.objs.size + 1) fd.scope.names []).lookup x.1).isSome = true))
    (h : ∀ h₁ t L E', s.heap.objs.size = L → h₁.Ns L (bindL (callEnvC fd L a).kindOf binds fun _ => none) → (∀ n c, (callEnvC fd L a).cells.lookup n = some c → h₁.IsCell c (bindC (callEnvC fd L a).kindOf binds (fun _ => none) n)) → s.heap.StaysIn h₁ →
      wpAny (model prog w) (A.deeper (callEnvC fd L a)) (execs body (callEnvC fd L a)) (fun f s' => ∃ v, f = .ret v ∧ Q v s') E' { s with heap := h₁, toks := t })
    (hco : fd.scope.isCoroutine = false := by rfl) (hgen : fd.scope.isGenerator = false := by rfl) (hk : fd.scope.kind = .function := by rfl) :
    wpAny (model prog w) A (call (.ref a) vals) Q E s := by
  refine wpAny_call (codeAny_call_cells (by have := R.depth; omega) ho hdata hlim hcd hbody hbind hclo hkind (fun s₁ X => ?_) hco hgen hk)
  obtain ⟨h', tk, he⟩ := X.toInCall.same
  subst he
  refine wpAny_mono (h h' tk _ _ rfl X.toInCall.ns X.cell X.toInCall.keep) (fun f s' hf => ?_) fun _ _ x => x
  obtain ⟨v, rfl, hv⟩ := hf
  exact hv

theorem law_all {T sl : Addr} {tb : Int → Option (List Int)} {st : List Int} {g : Int} {t : Tok} {n : Nat} {res : List (List Int)} {Q : Value → Shared → Prop} (R : Roomy A) (ST : Stat s.heap) (FN : Fns s.heap)
    (PD : PdOk prog w s.heap T tb) (hsl : IL s.heap sl st) (hAL : AL tb (fun k => st.any (· == k)) n [[g]] [] res) (hlen : res.length < 128)
    (hQ : ∀ D h' t, s.heap.StaysIn h' → s.heap.get? D = none → LL h' D (srt res) → Q (.ref D) { s with heap := h', toks := t }) :
    wpAny (model prog w) A (call (.ref 82) [.ref T, .ref sl, .int g t]) Q E s := by
  obtain ⟨o, pm, ho, hd⟩ := FN.f82
  have hb : bindArgs (fdOf 9 pm 81) ⟨[.ref T, .ref sl, .int g t], []⟩ = pure [(Str.ofString "table", .ref T), (Str.ofString "starts", .ref sl), (Str.ofString "goal", .int g t)] := by rfl
  refine call_fnC (body := bodyOf 9) R ho hd ST.nolim FN.c82 rfl hb rfl (fun x hx => ?_) (fun h₁ t1 L E' hLe hn hcells hk => ?_)
  · simp only [List.mem_cons, List.not_mem_nil, or_false] at hx
    rcases hx with rfl | rfl | rfl <;> exact .inl rfl
  have hL0 : s.heap.get? L = none := by rw [← hLe]; exact get_size _
  have hc0 : s.heap.get? (L + 1) = none := Heap.get?_none_of_le (by rw [hLe]; exact Nat.le_succ _)
  have hc := hcells _ _ (ac_row pm L)
  have hA : (A.deeper (aenv pm L)).units + 100 < cLine := by have := R.units; show A.units + 3 + 100 < _; omega
  have hA64 : (A.deeper (callEnvC (fdOf 9 pm 81) L 82)).units + 64 < cLine := by have := R.units; show A.units + 3 + 64 < _; omega
  show wpAny _ _ (execs [.Assign [.Tuple _ _ _] (.Tuple [_, _] _ _) _, .While _ (bodyS aWhile) [] _, .Return (some _) _] (aenv pm L)) _ _ _
  refine wpAny_execs_cons (asg_swapped (a := Str.ofString "rows") (b := Str.ofString "done") R.hand (wpAny_List (wpAny_items_cons (wpAny_List (wpAny_items_cons (nm_l (a_fn pm L) hn (ak_goal pm L) (v := .int g t) (by rfl) (wpAny_items_nil ⟨by show 1 ≤ 2 ^ 24; omega, wpAny_items_nil ⟨by show 1 ≤ 2 ^ 24; omega, ?_⟩⟩)))))) (by rfl) (by rfl))
  have kA : h₁.StaysIn (h₁.push { cls := .type "list", data := .seq [Value.int g t].toArray }) := keep_push _
  have eA := Heap.get?_push_size h₁ (o := { cls := .type "list", data := .seq [Value.int g t].toArray }) rfl
  generalize h₁.push { cls := .type "list", data := .seq [Value.int g t].toArray } = HA at *
  generalize h₁.objs.size = a1 at *
  have kB : HA.StaysIn (HA.push { cls := .type "list", data := .seq [Value.ref a1].toArray }) := keep_push _
  have eB := Heap.get?_push_size HA (o := { cls := .type "list", data := .seq [Value.ref a1].toArray }) rfl
  dsimp only
  generalize HA.push { cls := .type "list", data := .seq [Value.ref a1].toArray } = HB at *
  generalize HA.objs.size = a2 at *
  have hR1 : LL HB a2 [[g]] := ⟨[.ref a1], 0, eB, .cons ⟨a1, rfl, [.int g t], 0, kB _ _ eA, .cons g t .nil⟩ .nil⟩
  refine wpAny_List (wpAny_items_nil ⟨by show 0 ≤ 2 ^ 24; omega, ?_⟩)
  have kC : HB.StaysIn (HB.push { cls := .type "list", data := .seq ([] : List Value).toArray }) := keep_push _
  have eC := Heap.get?_push_size HB (o := { cls := .type "list", data := .seq ([] : List Value).toArray }) rfl
  dsimp only
  generalize HB.push { cls := .type "list", data := .seq ([] : List Value).toArray } = HC at *
  generalize HB.objs.size = a3 at *
  have hD1 : LL HC a3 [] := ⟨[], 0, eC, .nil⟩
  intro h2 k2
  have kD : h₁.StaysIn h2 := stays_trans kA (stays_trans kB (stays_trans kC k2))
  refine wpAny_storeName_local (ak_done pm L) (hn.keeps kD) fun h3 hn3 hs3 => ?_
  have fz3 := Fz.of_ns (hn.keeps kD) hs3
  refine wpAny_storeName_local (ak_rows pm L) hn3 fun h4 hn4 hs4 => ?_
  have fz4 := Fz.of_ns hn3 hs4
  have kE : s.heap.StaysIn h4 := fun b o e => hs4.extBut b o (fun hh => by rw [show b = L from hh, hL0] at e; cases e) (hs3.extBut b o (fun hh => by rw [show b = L from hh, hL0] at e; cases e) (kD _ _ (hk b o e)))
  have F0 : AF prog w s.heap T sl tb st L s.heap h4 [[g]] [] := ⟨kE, kE, ⟨_, a2, a3, hn4, by rfl, by rfl, by rfl, by rfl, ((hR1.keep kC).keep k2).fz (fz3.trans fz4), (hD1.keep k2).fz (fz3.trans fz4)⟩,
    ⟨_, ((hc.keeps kD).sameBut hs3 (Nat.succ_ne_self L)).sameBut hs4 (Nat.succ_ne_self L)⟩⟩
  refine wpAny_execs_cons (wpAny_While (codeAny_whileLoop (fun k s' => ∃ rows don, AL tb (fun k => st.any (· == k)) k rows don res ∧ ∃ h t, s' = { s with heap := h, toks := t } ∧ AF prog w s.heap T sl tb st L s.heap h rows don)
    (fun k s' hI => ?_) n ⟨_, _, hAL, _, _, rfl, F0⟩))
  obtain ⟨rows, don, hal, h, t5, rfl, F⟩ := hI
  obtain ⟨z, k0, ⟨m, Rr, Dd, hm, mT, mS, mR, mD, hRl, hDl⟩, hcell⟩ := id F
  refine wpAny_isTrue_Compare1 (nm_l (a_fn pm L) hm (ak_rows pm L) mR (wpAny_List (wpAny_items_nil ⟨by show 0 ≤ 2 ^ 24; omega, ?_⟩)))
  have eE := Heap.get?_push_size h (o := { cls := .type "list", data := .seq ([] : List Value).toArray }) rfl
  have kE' : h.StaysIn (h.push { cls := .type "list", data := .seq ([] : List Value).toArray }) := keep_push _
  refine ne_LL (nss := rows) (mss := []) (hRl.keep kE') ⟨[], 0, eE, .nil⟩ hA64 (wpAny_truthy_bool ?_)
  have F' : AF prog w s.heap T sl tb st L s.heap (h.push { cls := .type "list", data := .seq ([] : List Value).toArray }) rows don :=
    ⟨stays_trans z kE', stays_trans k0 kE', ⟨m, Rr, Dd, hm.keeps kE', mT, mS, mR, mD, hRl.keep kE', hDl.keep kE'⟩, let ⟨v, hv⟩ := hcell; ⟨v, hv.keeps kE'⟩⟩
  cases hal with
  | nil =>
    rw [if_neg (by simp)]
    refine wpAny_execs_nil ?_
    show wpAny _ _ (execs [.Return (some _) _] _) _ _ _
    have S1 : Stat (h.push { cls := .type "list", data := .seq ([] : List Value).toArray }) := (ST.keep k0).keep kE'
    refine wpAny_execs_cons (wpAny_Return_some (b1 (a_fn pm L) S1 (ak_sorted pm L) (fun _ _ N => N.sorted) (nm_l (a_fn pm L) (hm.keeps kE') (ak_done pm L) mD ?_)))
    refine sorted_lists (by show A.units + 3 + 2 < cLine; have := R.units; omega) (hDl.keep kE') hlen fun h' D2 k' hD0 _ hD2 => ?_
    exact ⟨_, rfl, hQ D2 h' _ (stays_trans k0 (stays_trans kE' k')) (none_of_stays (stays_trans k0 kE') hD0) hD2⟩
  | @cons n' pre k' rest don res r hr b1 b2 b3 b4 hal =>
    rw [if_pos (by simp)]
    refine a_turn (k := k') (pre := pre) (rest := rest) (don := don) R.hand hA ST PD hsl hL0 hc0 hL0 hc0 hr b1 b2 b3 b4 F' fun h' t' F'' => ?_
    exact ⟨n', Nat.lt_succ_self _, _, _, hal, h', t', rfl, F''⟩
end
end Mine
end

section -- FnPlain
set_option linter.unusedVariables false
namespace Mine
open PySem PyProof.Rows PySem.W PySem.Calls PySem.Spec
open Sem (wp)

section
variable {prog : Program} {w : World} {A : Around} {E : Value → Shared → Prop} {s : Shared}

theorem r_range {n : Nat} {t : Tok} {Q : Value → Shared → Prop} (hn : n ≤ 2 ^ 20)
    (hQ : ∀ I h' t', s.heap.StaysIn h' → s.heap.get? I = none → IsRangeIter h' I 0 n 1 → Q (.ref I) { s with heap := h', toks := t' }) :
    wpAny (model prog w) A (call (.type "range") [.int n t]) (fun xv s₁ => wpAny (model prog w) A (pyIter xv) Q E s₁) E s := by
  refine call_range_1 ?_
  have k1 : s.heap.StaysIn (s.heap.push { cls := .type "range", data := .fields #[.int 0 s.toks, .int n t, .int 1 (s.toks + 1)] }) := keep_push _
  refine wpAny_pyIter_range (IsRange.new _ 0 n 1 _ _ _) (small_one (by omega) (by omega) (by omega) (by omega)) ?_
  refine hQ _ _ _ (stays_trans k1 (keep_push _)) (none_of_stays k1 (get_size _)) ?_
  have e : Builtin.Range.rangeSize 0 (n : Int) 1 = (n : Int) := by rw [rangeSize_one]; split <;> omega
  show (Heap.push _ _).get? _ = _
  rw [Heap.get?_push_size _ rfl]
  rw [e]

theorem walks_lt {I : Addr} {fp wr : List Addr} {n : Nat} {P : Nat → Value → Prop} {St : Nat → Heap → Prop} (W : Walks prog w A I fp wr n P St) : Walks prog w A I fp wr n (fun i v => i < n ∧ P i v) St where
  sub := W.sub
  frame := W.frame
  item := fun i s Q E hi st hQ => W.item i s Q E hi st fun v h' tk hP => hQ v h' tk ⟨hi, hP⟩
  done := W.done
  self := W.self

/-- the places at which a list differs from its forerunner -/
def ddp (ss : List (List Int)) (i : Int) : Bool := decide (i = 0) || decide (ss[i.toNat]? ≠ ss[(i - 1).toNat]?)
def ddi (ss : List (List Int)) : List (List Int) := (((List.range ss.length).map (fun i : Nat => (i : Int))).filter (ddp ss)).map (fun i => (ss[i.toNat]?).getD [])

def isInts (v : Value) (f : Int → Bool) : Bool := match v with | .int a _ => f a | _ => false

theorem paired_ints {h : Heap} {G : Int → Value → Prop} {f : Int → Bool} {g : Int → List Int} {vs : List Value} {is : List Int} (hi : IntsAre vs is) : ∀ {ys : List Value},
    (∀ i y, i ∈ is → f i = true → G i y → ∃ b, y = .ref b ∧ IL h b (g i)) →
    Paired (fun v y => ∃ a t, v = Value.int a t ∧ G a y) (vs.filter fun v => isInts v f) ys → ILs h ys ((is.filter f).map g) := by
  induction hi with
  | nil => intro ys _ hp; cases hp; exact .nil
  | cons a t r ih =>
    intro ys hG hp
    rw [List.filter_cons] at hp ⊢
    have ih' := @ih
    cases hf : f a with
    | false =>
      rw [if_neg (by show ¬ f a = true; rw [hf]; exact Bool.false_ne_true)] at hp
      rw [if_neg Bool.false_ne_true]
      exact ih' (fun i y hi => hG i y (List.mem_cons_of_mem _ hi)) hp
    | true =>
      rw [if_pos (by show f a = true; exact hf)] at hp
      rw [if_pos rfl]
      cases hp with
      | cons h1 h2 =>
        obtain ⟨a', t', e, hg⟩ := h1
        cases e
        exact .cons (hG a _ (List.mem_cons_self) hf hg) (ih' (fun i y hi => hG i y (List.mem_cons_of_mem _ hi)) h2)

theorem range_ints {vs : List Value} {n : Nat} (hl : vs.length = n) (hP : ∀ (j : Nat) v, vs[j]? = some v → ∃ t, v = Value.int (0 + (j : Int) * 1) t) : IntsAre vs ((List.range n).map (fun i : Nat => (i : Int))) := by
  subst hl
  have key : ∀ (k : Nat) (us : List Value), (∀ (j : Nat) v, us[j]? = some v → ∃ t, v = Value.int ((k + j : Nat) : Int) t) → IntsAre us ((List.range' k us.length).map (fun i : Nat => (i : Int))) := by
    intro k us
    induction us generalizing k with
    | nil => intro _; exact .nil
    | cons u us ih =>
      intro hu
      obtain ⟨t, rfl⟩ := hu 0 u rfl
      rw [List.length_cons, List.range'_succ, List.map_cons]
      refine .cons _ t (ih (k + 1) fun j v hj => ?_)
      obtain ⟨t', e⟩ := hu (j + 1) v (by simpa using hj)
      exact ⟨t', by rw [e]; congr 2; omega⟩
  rw [List.range_eq_range']
  refine key 0 vs fun j v hj => ?_
  obtain ⟨t, e⟩ := hP j v hj
  exact ⟨t, by rw [e]; congr 1; omega⟩
end

abbrev penv (pm : Value) (L : Addr) : Env := callEnvC (fdOf 10 pm 86) L 87
section
variable (pm : Value) (L : Addr)
theorem p_fn : InFn (penv pm L) := ⟨rfl, rfl, rfl⟩
theorem pk_rows : (penv pm L).kindOf "rows" = some .local := by rfl
theorem pk_ranked : (penv pm L).kindOf "ranked" = some .cell := by rfl
theorem pc_ranked : (penv pm L).cells.lookup (Str.ofString "ranked") = some (L + 1) := by rfl
theorem pk_sorted : (penv pm L).kindOf "sorted" = some .globalImplicit := by rfl
theorem pk_range : (penv pm L).kindOf "range" = some .globalImplicit := by rfl
theorem pk_len : (penv pm L).kindOf "len" = some .globalImplicit := by rfl
end

section
variable {prog : Program} {w : World} {A : Around} {E : Value → Shared → Prop} {s : Shared}

theorem law_plain {l : Addr} {nss : List (List Int)} {Q : Value → Shared → Prop} (R : Roomy A) (ST : Stat s.heap) (FN : Fns s.heap) (hl : LL s.heap l nss) (hlen : nss.length < 128)
    (hQ : ∀ D h' t, s.heap.StaysIn h' → s.heap.get? D = none → LL h' D (ddi (srt nss)) → Q (.ref D) { s with heap := h', toks := t }) :
    wpAny (model prog w) A (call (.ref 87) [.ref l]) Q E s := by
  obtain ⟨o, pm, ho, hd⟩ := FN.f87
  have hb : bindArgs (fdOf 10 pm 86) ⟨[.ref l], []⟩ = pure [(Str.ofString "rows", .ref l)] := by rfl
  refine call_fnC (body := bodyOf 10) R ho hd ST.nolim FN.c87 rfl hb rfl (fun x hx => ?_) (fun h₁ tk1 L E' hLe hn hcells hk => ?_)
  · simp only [List.mem_cons, List.not_mem_nil, or_false] at hx
    rcases hx with rfl; exact .inl rfl
  have hL0 : s.heap.get? L = none := by rw [← hLe]; exact get_size _
  have hc0 : s.heap.get? (L + 1) = none := Heap.get?_none_of_le (by rw [hLe]; exact Nat.le_succ _)
  have hc := hcells _ _ (pc_ranked pm L)
  have hA : (A.deeper (callEnvC (fdOf 10 pm 86) L 87)).units + 100 < cLine := by have := R.units; show A.units + 3 + 100 < _; omega
  show wpAny _ _ (execs [.Assign [.Name _ _] _ _, .Return (some _) _] (penv pm L)) _ _ _
  refine wpAny_execs_cons (wpAny_Assign_Name (b1 (p_fn pm L) (ST.keep hk) (pk_sorted pm L) (fun _ _ N => N.sorted) (nm_l (p_fn pm L) hn (pk_rows pm L) (v := .ref l) (by rfl) ?_)))
  refine sorted_lists (by show A.units + 3 + 2 < cLine; have := R.units; omega) (hl.keep hk) hlen fun h2 D2 k2 hD20 _ hD2 => ?_
  refine wpAny_storeName_cell (p_fn pm L).kind (pk_ranked pm L) (pc_ranked pm L) (hc.keeps k2) fun h3 hc3 hs3 => ?_
  have fz3 := Fz.of_cell (hc.keeps k2) hs3
  have hS : LL h3 D2 (srt nss) := hD2.fz fz3
  have hn3 := (hn.keeps k2).extBut hs3.extBut (Nat.succ_ne_self L).symm
  have k3 : s.heap.StaysIn h3 := fun b o e => hs3.extBut b o (fun hh => by rw [show b = L + 1 from hh, hc0] at e; cases e) (k2 _ _ (hk b o e))
  have hsl : (srt nss).length = nss.length := (srt_perm nss).length_eq
  obtain ⟨vS, nS, hSo, hSi⟩ := id hS
  have hvl : vS.length = nss.length := by rw [ILs.length hSi, hsl]
  refine wpAny_execs_cons (wpAny_Return_some ?_)
  refine wpAny_ListComp_free (cl := [(Str.ofString "ranked", L + 1)]) (fun v => isInts v (ddp (srt nss))) (fun v y => ∃ a t, v = Value.int a t ∧ vS[a.toNat]? = some y) (by rfl) (by decide) (by rfl) (by decide) (by rfl) ?_
  refine t1 (p_fn pm L) (ST.keep k3) (pk_range pm L) (fun _ _ N => N.range) (b1 (p_fn pm L) (ST.keep k3) (pk_len pm L) (fun _ _ N => N.len) (nm_c (p_fn pm L) (pk_ranked pm L) (pc_ranked pm L) hc3 ?_))
  refine call_len_list (items := vS.toArray) ⟨_, hSo, rfl, nS, rfl⟩ (by simp; omega) ?_
  have esz : (vS.toArray.size : Int) = ((nss.length : Nat) : Int) := by simp [hvl]
  rw [esz]
  refine r_range (by omega) fun I h4 t4 k4 hI0 hI => ?_
  have hI' : h4.get? I = some { cls := .type "range_iterator", dict := none, data := .fields #[rawInt 0, rawInt nss.length, rawInt 1], slots := #[] } := hI
  refine ⟨I, [I], [I], nss.length, _, _, rfl, walks_lt (Walks.range (show (A.deeper (callEnvC (fdOf 10 pm 86) L 87)).handled = none from R.hand) I 0 1 nss.length), by show _ ≤ 2 ^ 24; omega, ?_, fun b hb => ?_, ⟨fun C i v s3 m3 E3 hC hP hn4 hm4 hk4 _ => ?_, fun C i v s3 m3 E3 hC hP hpv hn4 hm4 hk4 _ => ?_⟩, fun D h5 t5 ys vs hD hlst hplain hvs hP hF hk5 => ?_⟩
  · simpa using hI
  · rw [List.mem_singleton] at hb; rw [hb]; exact Heap.lt_size hI'
  · obtain ⟨hi, t, rfl⟩ := hP
    have cf : InFn (compEnvC ⟨.function, [(Str.ofString ".0", .local), (Str.ofString "at", .local), (Str.ofString "ranked", .free)], false, false, []⟩ [(Str.ofString "ranked", L + 1)] C (penv pm L)) := ⟨rfl, rfl, rfl⟩
    have k34 : h3.StaysIn s3.heap := fun b o e => hk4 b o (fun hb => by rw [List.mem_singleton] at hb; rw [hb, hI0] at e; cases e) (k4 _ _ e)
    have hcC : s3.heap.IsCell (L + 1) (some (.ref D2)) := hc3.keeps k34
    have hS3 := hS.keep k34
    have hSo3 := k34 _ _ hSo
    have ei : (0 : Int) + (i : Int) * 1 = (i : Int) := by omega
    rw [ei] at hm4 ⊢
    refine wpAny_tests_one (wpAny_isTrue_BoolOp (wpAny_allTrue_Or_cons (wpAny_isTrue_Compare1 (nm_l cf hn4 (by rfl) hm4 (wpAny_Constant_int (eq_int (wpAny_truthy_bool ?_)))))))
    by_cases h0 : (i : Int) = 0
    · rw [if_pos (by simpa using h0)]
      exact ⟨by simp [isInts, ddp, h0], s3.heap, _, rfl, fun _ _ e => e⟩
    · rw [if_neg (by simpa using h0)]
      obtain ⟨b1', hb1, hb1i⟩ := ILs.get hSi (i := i) (ns := (srt nss)[i]'(by omega)) (List.getElem?_eq_getElem _)
      obtain ⟨b2', hb2, hb2i⟩ := ILs.get hSi (i := i - 1) (ns := (srt nss)[i - 1]'(by omega)) (List.getElem?_eq_getElem _)
      refine wpAny_allTrue_Or_cons (wpAny_isTrue_Compare1 (Subscript_Name (nm_c cf (by rfl) (by rfl) (s := { s3 with toks := s3.toks + 1 }) hcC (nm_l cf (s := { s3 with toks := s3.toks + 1 }) hn4 (by rfl) hm4 ⟨"list", _, slot_list_getitem.lookup, ⟨_, hSo3, rfl⟩, ?_⟩))))
      refine wpAny_getItem_list (items := vS.toArray) ⟨_, hSo3, rfl, nS, rfl⟩ (by omega) (by omega) (x := .ref b1') (by simpa using hb1) ?_
      refine Subscript_BinOp (nm_c cf (by rfl) (by rfl) (s := { s3 with toks := s3.toks + 1 }) hcC (wpAny_BinOp (nm_l cf (s := { s3 with toks := s3.toks + 1 }) hn4 (by rfl) hm4 (wpAny_Constant_int (sub_int ⟨"list", _, slot_list_getitem.lookup, ⟨_, hSo3, rfl⟩, ?_⟩)))))
      have e2 : ((i : Int) - 1).toNat = i - 1 := by omega
      refine wpAny_getItem_list (items := vS.toArray) ⟨_, hSo3, rfl, nS, rfl⟩ (by omega) (by omega) (x := .ref b2') (by rw [e2]; simpa using hb2) ?_
      refine ne_IL (hb1i.keep k34) (hb2i.keep k34) (by show A.units + 3 + 64 < cLine; have := R.units; omega) (wpAny_truthy_bool ?_)
      have ed : isInts (.int (i : Int) t) (ddp (srt nss)) = decide ((srt nss)[i]'(by omega) ≠ (srt nss)[i - 1]'(by omega)) := by
        show ddp (srt nss) (i : Int) = _
        unfold ddp
        rw [e2, Int.toNat_natCast, List.getElem?_eq_getElem (by omega), List.getElem?_eq_getElem (by omega)]
        simp
        intro hi0
        exact absurd (by omega) h0
      rw [ed]
      by_cases hq : (srt nss)[i]'(by omega) ≠ (srt nss)[i - 1]'(by omega)
      · rw [if_pos (by simpa using hq)]
        exact ⟨by simpa using hq, s3.heap, _, rfl, fun _ _ e => e⟩
      · rw [if_neg (by simpa using hq)]
        refine wpAny_allTrue_Or_nil ⟨by simpa using hq, s3.heap, _, rfl, fun _ _ e => e⟩
  · obtain ⟨hi, t, rfl⟩ := hP
    have cf : InFn (compEnvC ⟨.function, [(Str.ofString ".0", .local), (Str.ofString "at", .local), (Str.ofString "ranked", .free)], false, false, []⟩ [(Str.ofString "ranked", L + 1)] C (penv pm L)) := ⟨rfl, rfl, rfl⟩
    have k34 : h3.StaysIn s3.heap := fun b o e => hk4 b o (fun hb => by rw [List.mem_singleton] at hb; rw [hb, hI0] at e; cases e) (k4 _ _ e)
    have hcC : s3.heap.IsCell (L + 1) (some (.ref D2)) := hc3.keeps k34
    have hSo3 := k34 _ _ hSo
    have ei : (0 : Int) + (i : Int) * 1 = (i : Int) := by omega
    rw [ei] at hm4 ⊢
    obtain ⟨b1', hb1, hb1i⟩ := ILs.get hSi (i := i) (ns := (srt nss)[i]'(by omega)) (List.getElem?_eq_getElem _)
    refine Subscript_Name (nm_c cf (by rfl) (by rfl) hcC (nm_l cf hn4 (by rfl) hm4 ⟨"list", _, slot_list_getitem.lookup, ⟨_, hSo3, rfl⟩, ?_⟩))
    refine wpAny_getItem_list (items := vS.toArray) ⟨_, hSo3, rfl, nS, rfl⟩ (by omega) (by omega) (x := .ref b1') (by simpa using hb1) ?_
    exact ⟨⟨_, _, rfl, by simpa using hb1⟩, s3.heap, s3.toks, rfl, fun _ _ e => e⟩
  · have hints := range_ints hvs (fun j v hj => (hP j v hj).2)
    have k5 : h3.StaysIn h5 := fun b o e => hk5 b o (fun hb => by rw [List.mem_singleton] at hb; rw [hb, hI0] at e; cases e) (k4 _ _ e)
    obtain ⟨n5, hplain⟩ := hplain
    refine ⟨_, rfl, hQ D h5 t5 (stays_trans k3 k5) (none_of_stays (stays_trans k3 k4) hD) ⟨ys.toList, n5, by rw [hplain], ?_⟩⟩
    unfold ddi
    rw [hsl]
    refine paired_ints (G := fun a y => vS[a.toNat]? = some y) hints (fun i y hi _ hG => ?_) hF
    rw [List.mem_map] at hi
    obtain ⟨i, hi, rfl⟩ := hi
    rw [List.mem_range] at hi
    obtain ⟨b, hb1, hb2⟩ := ILs.get hSi (i := i) (ns := (srt nss)[i]'(by omega)) (List.getElem?_eq_getElem _)
    rw [Int.toNat_natCast, hb1] at hG
    cases hG
    refine ⟨b, rfl, ?_⟩
    rw [Int.toNat_natCast, List.getElem?_eq_getElem (by omega)]
    exact hb2.keep k5
end
end Mine
end

section -- Gen13
set_option linter.unusedVariables false
namespace Mine
open PySem PyProof.Rows PySem.W PySem.Calls PySem.Spec
open Sem (wp)

/-- a heap without one object -/
def gone (h : Heap) (a : Addr) : Heap := h.update a (fun o => { o with data := .freed })
theorem gone_self (h : Heap) (a : Addr) : (gone h a).get? a = none := by
  cases e : (gone h a).get? a with
  | none => rfl
  | some o =>
    exfalso
    obtain ⟨e1, e2⟩ := Heap.get?_some_iff.mp e
    unfold gone at e1
    obtain ⟨objs, l⟩ := h
    simp only [Heap.update, Array.getElem?_modify, if_true] at e1
    cases q : objs[a]? with
    | none => rw [q] at e1; cases e1
    | some o' =>
      rw [q] at e1
      cases e1
      cases o'
      simp [Obj.isFreed] at e2
theorem gone_other (h : Heap) {a b : Addr} (hb : b ≠ a) : (gone h a).get? b = h.get? b := Heap.get?_update_other _ _ (Ne.symm hb)
theorem gone_stays (h : Heap) (a : Addr) : (gone h a).StaysIn h := fun b o e => by
  by_cases q : b = a
  · rw [q, gone_self] at e; cases e
  · rwa [gone_other h q] at e
theorem stays_gone {h0 h : Heap} {a : Addr} (k : h0.StaysIn h) (n : h0.get? a = none) : h0.StaysIn (gone h a) := fun b o e => by
  rw [gone_other h (fun q => by rw [q, n] at e; cases e)]; exact k b o e

abbrev bmExc : List Value := [.type "Exception", .type "BaseException", .type "object"]
abbrev Exc61 (h : Heap) : Prop := OwnClsQ "NetworkXNoPath" 61 bmExc "Exception.__new__" (fun _ => some (.ref 61)) h

section
variable {prog : Program} {w : World} {A : Around} {E : Value → Shared → Prop} {s : Shared} {base : Heap} {L T a : Addr} {g : Nat} {pm : Value} {lenv : Env} {tb : Int → Option (List Int)} {sv : Value}

theorem isInstance_own {x : Addr} {ox : Obj} {X : String} {Q : Bool → Shared → Prop} (O : Exc61 s.heap) (hx : s.heap.get? x = some ox) (hc : ox.cls = .ref 61) (hX : bmExc.contains (.type X) = false) (h : Q false s) :
    wpAny (model prog w) A (isInstance (.ref x) (.type X)) Q E s := by
  obtain ⟨bm, N, nm, q, bs, hdct, sn, sub, ab, col, dd, k0, k1, k2, k3, k5, mN, hC, hN, hq, T⟩ := O.obj
  have hb : (Value.ref 61 :: bm).contains (.type X) = false := by rw [List.contains_cons, T.tail.hasType hX]; rfl
  simp only [isInstance]
  refine wpAny_bind ?_
  show wpAny _ _ (do return (← loadPart x _).cls) _ _ _
  refine wpAny_bind (wpAny_loadPart hx (wpAny_pure ?_))
  rw [hc]
  obtain ⟨hh, g, d, tk, os⟩ := s
  refine wpAny_isSubtype_exc hC ?_
  rw [hb]; exact h

abbrev gFunc (pm : Value) (L : Addr) : Code := .func (bodyOf 6) (genv pm L)

theorem gFunc_frames (hfr : A.frames = some [lenv]) : (A.over (gFunc pm L) []).frames = some [genv pm L, lenv] := by
  have e : (A.over (gFunc pm L) []).frames = pushEnvs (gFunc pm L).envs (pushEnvs (envsOf (([] : List Frame).map Frame.where_)) A.frames) := rfl
  rw [e, hfr]; rfl

/-- the walk for a goal that the table has not: it raises at once -/
theorem g_raise {t0 : Tok} {m : Str → Option Value} {Z : Heap} (R : Room A) (PD : PdOk prog w Z T tb) (z : Z.StaysIn s.heap) (ST : Stat Z) (O : Exc61 base) (h0 : tb 99 = none)
    (hm : s.heap.Ns L m) (m2 : m "target" = some (.int 99 t0)) (m3 : m "pred" = some (.ref T))
    (hfr : A.frames = some [lenv]) (kb : base.StaysIn s.heap) (hbL : base.get? L = none) (hF : s.heap.FunFrames base [lenv]) :
    Wk (model prog w) A (fun e s' => ∃ x a0, e = .ret (.error (.ref x)) ∧ Heap.FlyingW base [lenv] x (.ref 61) a0 s'.heap ∧ s'.gens = s.gens ∧ s'.os = s.os) (.fresh (gFunc pm L)) s := by
  obtain ⟨sT, tkvs, hT, hTb⟩ := id PD
  have hv := hTb 99
  rw [h0] at hv
  refine stp_func ?_
  refine stp_execs_cons (stp_If (wpAny_isTrue_Compare1 (nm_l (g_fn pm L) hm (gk_target' pm L) m2 (nm_l (g_fn pm L) hm (gk_pred pm L) m3
    (wpAny_notIn_of (intKind_is prog w 99 t0) sT (hT.keep z).mapOf (wpAny_truthy_bool ?_))))))
  rw [hv, if_pos (by simp)]
  obtain ⟨bm, N, nm, q, bs, hdct, sn, sub, ab, col, dd, k0, k1, k2, k3, k5, mN, hC, hN, hq, TT⟩ := O.obj
  refine stp_execs_cons (stp_wrap (wpAny_Raise_call_subT (C := 61) (nm := nm) (q := q) (N := N) (bs := bs) (bm := bm) (hdct := hdct) (sn := sn) (sub := sub) (ab := ab) (col := col) (dd := dd) (k0 := k0) (k1 := k1) (k2 := k2) (k3 := k3) (k5 := k5)
    PySem.F.excBase_Exception (mN := mN) (TT.tail.hasType (by decide)) (func_hand.trans R.hand) rfl (hq _ (.head _)) (nm_g (g_fn pm L) ((ST.keep z).keep (h' := s.heap) fun _ _ e => e) (gk_nopath pm L) (fun _ _ N => N.nopath) ⟨rfl, ?_⟩)))
  refine evalArgs_plain (spliced_cons (wpAny_JoinedStr (pos := default) ?_))
  refine Joins_cons (wpAny_Constant_str ⟨_, _, rfl, by decide, Joins_cons (wpAny_FormattedValue_plain (nm_l (g_fn pm L) (s := { s with toks := s.toks + 1 + 1 }) hm (gk_target' pm L) m2 (wpAny_formatField_int (by decide) ⟨_, _, rfl, by decide, Joins_cons (wpAny_Constant_str ⟨_, _, rfl, by decide, Joins_nil ⟨by decide, ?_⟩⟩)⟩)))⟩)
  refine spliced_nil ⟨rfl, by show 1 ≤ 2 ^ 24; omega, kb _ _ hC, hN.keeps kb, TT.tail.keeps kb, fun h' e hx => ?_⟩
  refine stp_wrap (wpAny_leaves_madeW (h := s.heap) (outer := [lenv]) (L := L) (gFunc_frames hfr) rfl kb (Heap.FunFrames.cons (by show ScopeKind.function ≠ _; decide) rfl hm hbL hF) hx fun h'' t fl tup hbt up => ?_)
  exact stp_end (.error (.ref e)) ⟨e, _, rfl, fl, rfl, rfl⟩

theorem pyNext_raises {pm : Value} {gs : GenState} {Q : Option Value → Shared → Prop} (R : Room A.in1) (hl : s.heap.NoLimit) (O : Exc61 base) (hg : s.heap.IsGen a g) (hbg : base.IsGen a g) (hgs : s.gens[g]? = some gs)
    (hgo : Wk (model prog w) A.in1 (fun e s' => ∃ x a0, e = .ret (.error (.ref x)) ∧ Heap.FlyingW base [lenv] x (.ref 61) a0 s'.heap ∧ s'.gens = (s.setGen g .running).gens ∧ s'.os = s.os) gs (s.setGen g .running))
    (hE : ∀ x a0 s', Heap.FlyingW base [lenv] x (.ref 61) a0 s'.heap → (AllBare s.gens → AllBare s'.gens) → s'.os = s.os → E (.ref x) s') :
    wpAny (model prog w) A (pyNext (.ref a)) Q E s := by
  have hroom : A.depth < recursionLimit := by have := R.depth; simp only at this; omega
  unfold pyNext
  refine wpAny_bind (wpAny_attempt (wpAny_callSpecial?_slot (name := Str.ofString "__next__") hg.typeIs slot_gen_next
    (wpAny_call_entry slot_gen_next hg.typeIs entry_gen_next ?_ (args_gen_next _))))
  show wpAny _ _ (Builtin.Generator.genWake (.ref a) (.send .none)) _ _ s
  unfold Builtin.Generator.genWake
  refine wpAny_bind (wpAny_holding (wpAny_genNumber hg (wpAny_bind (wpAny_genState hgs ?_))))
  cases gs with
  | running => exact hgo.elim
  | finished => exact hgo.elim
  | _ =>
    refine wpAny_bind (wpAny_roomToWake hl hroom ?_)
    show wpAny _ _ (.resume g (.send .none) [] _) _ _ s
    refine wpAny_wake hgs hgo fun e s₁ he => ?_
    obtain ⟨x, a0, rfl, fl, hge, hos⟩ := he
    refine ⟨rfl, ?_⟩
    show wpAny _ _ (Builtin.Generator.genLeft (.ref a) (.ref x)) _ _ (s₁.setGen g .finished)
    have k := fl.1
    obtain ⟨oa, nm, qn, hoa, hca, hda, hsa⟩ := hbg
    obtain ⟨ox, hox, hcx⟩ := fl.there
    have OO : Exc61 s₁.heap := O.keeps k
    unfold Builtin.Generator.genLeft
    refine wpAny_bind ?_
    refine wpAny_bind (m := Builtin.Generator.madeByALambda (.ref a)) ?_
    unfold Builtin.Generator.madeByALambda
    refine wpAny_bind (wpAny_load (o := oa) (k _ _ hoa) (wpAny_pure ?_))
    refine wpAny_pure (wpAny_bind (isInstance_own (s := s₁.setGen g .finished) OO hox hcx (by decide) ?_))
    rw [Bool.and_false, if_neg Bool.false_ne_true]
    show wpAny _ _ (Builtin.Generator.genEscaped (.ref x)) _ _ (s₁.setGen g .finished)
    unfold Builtin.Generator.genEscaped
    refine wpAny_bind (isInstance_own (s := s₁.setGen g .finished) OO hox hcx (by decide) ?_)
    rw [Bool.not_false, if_pos rfl]
    refine wpAny_bind (wpAny_throw ?_)
    refine wpAny_bind (isInstance_own (s := s₁.setGen g .finished) OO hox hcx (by decide) ?_)
    rw [if_neg Bool.false_ne_true]
    refine wpAny_throw (hE x a0 (s₁.setGen g .finished) fl (fun hb => ?_) hos)
    show AllBare (s₁.gens.setIfInBounds g .finished)
    rw [hge]
    exact bare_set (bare_set hb rfl) rfl
end
end Mine
end

section -- M1
set_option linter.unusedVariables false
namespace Mine

theorem nd_len : ∀ {l l' : List Int}, l.Nodup → (∀ x ∈ l, x ∈ l') → l.length ≤ l'.length
  | [], _, _, _ => Nat.zero_le _
  | a :: r, l', hn, hs => by
    rw [List.nodup_cons] at hn
    have ha := hs a (List.mem_cons_self)
    have := nd_len (l := r) (l' := l'.erase a) hn.2 (fun x hx => by
      have hne : x ≠ a := fun e => hn.1 (by rw [← e]; exact hx)
      exact (List.mem_erase_of_ne hne).mpr (hs x (List.mem_cons_of_mem _ hx)))
    have h1 := List.length_erase_of_mem ha
    have h2 : 0 < l'.length := List.length_pos_of_mem ha
    simp only [List.length_cons]; omega

structure Tab (tb : Int → Option (List Int)) (order : List Int) : Prop where
  nd : order.Nodup
  len : order.length ≤ 5
  row : ∀ k ∈ order, ∃ r, tb k = some r ∧ r.Nodup ∧ (∀ e ∈ r, e ∈ order) ∧ r.length ≤ 3

/-- q goes on from p along the table and meets no node twice -/
inductive Ext (tb : Int → Option (List Int)) : List Int → List Int → Prop
  | refl (p) : Ext tb p p
  | step {pre k r e q} : tb k = some r → e ∈ r → e ∉ pre ++ [k] → Ext tb (pre ++ [k] ++ [e]) q → Ext tb (pre ++ [k]) q

theorem Ext.prefix {tb : Int → Option (List Int)} {p q : List Int} (h : Ext tb p q) : p <+: q := by
  induction h with
  | refl p => exact List.prefix_refl p
  | step _ _ _ _ ih => exact (List.prefix_append _ _).trans ih

/-- the ways that S ends, told backwards -/
def Way (tb : Int → Option (List Int)) (S : Int → Bool) (p : List Int) (x : List Int) : Prop := ∃ pre k, Ext tb p (pre ++ [k]) ∧ S k = true ∧ x = (pre ++ [k]).reverse

def unv (p r : List Int) : Nat := (r.filter (fun e => !decide (e ∈ p))).length

theorem unv_le {tb : Int → Option (List Int)} {order p r : List Int} (T : Tab tb order) (hp : p.Nodup) (hps : ∀ x ∈ p, x ∈ order) (hr : r.Nodup) (hrs : ∀ x ∈ r, x ∈ order) : unv p r + p.length ≤ order.length := by
  have h : (r.filter (fun e => !decide (e ∈ p)) ++ p).Nodup := by
    rw [List.nodup_append]
    refine ⟨hr.filter _, hp, fun a ha b hb e => ?_⟩
    rw [List.mem_filter] at ha
    subst e
    simp at ha
    exact ha.2 hb
  have := nd_len (l' := order) h (fun x hx => by
    rw [List.mem_append, List.mem_filter] at hx
    rcases hx with hx | hx
    · exact hrs x hx.1
    · exact hps x hx)
  rw [List.length_append] at this
  exact this

/-- how often at most is told from a place with d nodes left -/
def tmax : Nat → Nat
  | 0 => 1
  | d + 1 => 1 + min 3 (d + 1) * (tmax d + 1)

theorem unv_cons_in {p r : List Int} {e : Int} (h : e ∈ p) : unv p (e :: r) = unv p r := by unfold unv; rw [List.filter_cons]; simp [h]
theorem unv_cons_out {p r : List Int} {e : Int} (h : e ∉ p) : unv p (e :: r) = unv p r + 1 := by unfold unv; rw [List.filter_cons]; simp [h]
theorem unv_le_len (p r : List Int) : unv p r ≤ r.length := List.length_filter_le _ _

theorem way_iff {tb : Int → Option (List Int)} {S : Int → Bool} {pre : List Int} {k : Int} {r0 : List Int} {x : List Int} (h0 : tb k = some r0) :
    Way tb S (pre ++ [k]) x ↔ (S k = true ∧ x = (pre ++ [k]).reverse) ∨ ∃ e ∈ r0, e ∉ pre ++ [k] ∧ Way tb S (pre ++ [k] ++ [e]) x := by
  constructor
  · rintro ⟨pre', k', he, hS, hx⟩
    generalize hp : pre ++ [k] = p at he
    generalize hq : pre' ++ [k'] = q at he
    cases he with
    | refl =>
      left
      rw [← hq] at hp
      obtain ⟨h1, h2⟩ := List.append_inj' hp rfl
      cases h2
      subst h1
      exact ⟨hS, by rw [← hq]; exact hx⟩
    | @step pre2 k2 r e _ h1 h2 h3 h4 =>
      obtain ⟨e1, e2⟩ := List.append_inj' hp rfl
      cases e2
      subst e1
      rw [h0] at h1; cases h1
      right
      exact ⟨e, h2, h3, pre', k', by rw [hq]; exact h4, hS, hx⟩
  · rintro (⟨hS, hx⟩ | ⟨e, h2, h3, pre', k', h4, hS, hx⟩)
    · exact ⟨pre, k, .refl _, hS, hx⟩
    · exact ⟨pre', k', .step h0 h2 h3 h4, hS, hx⟩

theorem Way.prefix {tb : Int → Option (List Int)} {S : Int → Bool} {p x : List Int} (h : Way tb S p x) : p <+: x.reverse := by
  obtain ⟨pre, k, he, _, rfl⟩ := h
  rw [List.reverse_reverse]; exact he.prefix

theorem prefix_inj {p : List Int} {a b : Int} {x : List Int} (h1 : p ++ [a] <+: x) (h2 : p ++ [b] <+: x) : a = b := by
  obtain ⟨u, hu⟩ := h1
  obtain ⟨v, hv⟩ := h2
  rw [← hv] at hu
  rw [List.append_assoc, List.append_assoc] at hu
  have := List.append_cancel_left hu
  simp at this
  exact this.1

theorem tmax_step {u d : Nat} (h3 : u ≤ 3) (hd : u ≤ d) : 1 + u * (tmax (d - 1) + 1) ≤ tmax d := by
  cases d with
  | zero => have : u = 0 := by omega
            subst this; simp [tmax]
  | succ d =>
    simp only [Nat.add_sub_cancel, tmax]
    have : u ≤ min 3 (d + 1) := by omega
    have := Nat.mul_le_mul_right (tmax d + 1) this
    omega

abbrev ytell (S : Int → Bool) (p : List Int) (k : Int) : List (List Int) := if S k = true then [p.reverse] else []

theorem gy_skip {tb : Int → Option (List Int)} {S : Int → Bool} {bs : List (Int × List Int)} {k e : Int} {r : List Int} {W : List (List Int)} (he : e ∈ bs.map (·.1) ++ [k])
    (h : GY tb S false (bs ++ [(k, r)]) W) : GY tb S false (bs ++ [(k, e :: r)]) W := by
  generalize hq : bs ++ [(k, r)] = q at h
  have hdw : (e :: r).dropWhile (fun e => decide (e ∈ bs.map (·.1) ++ [k])) = r.dropWhile (fun e => decide (e ∈ bs.map (·.1) ++ [k])) := by
    rw [List.dropWhile_cons, if_pos (by simpa using he)]
  cases h with
  | pop h1 h2 h3 =>
    obtain ⟨e1, e2⟩ := List.append_inj' hq rfl
    cases e2; subst e1
    exact .pop h1 (hdw.trans h2) h3
  | push h1 h2 h3 h4 =>
    obtain ⟨e1, e2⟩ := List.append_inj' hq rfl
    cases e2; subst e1
    exact .push h1 (hdw.trans h2) h3 h4

theorem tell {tb : Int → Option (List Int)} {order : List Int} (T : Tab tb order) (S : Int → Bool) : ∀ (d : Nat) (pre : List Int) (k : Int), (pre ++ [k]).Nodup → (∀ x ∈ pre ++ [k], x ∈ order) → (pre ++ [k]).length + d = order.length →
    ∀ r r0 : List Int, r.Nodup → tb k = some r0 → (∀ x ∈ r, x ∈ r0) →
    ∃ W F, W = ytell S (pre ++ [k]) k ++ F ∧
      (∀ bs W', bs.map (·.1) = pre → GY tb S true bs W' → GY tb S false (bs ++ [(k, r)]) (F ++ W') ∧ GY tb S true (bs ++ [(k, r)]) (W ++ W')) ∧
      W.length ≤ 1 + unv (pre ++ [k]) r * (tmax (d - 1) + 1) ∧
      (∀ x, x ∈ W ↔ (S k = true ∧ x = (pre ++ [k]).reverse) ∨ ∃ e ∈ r, e ∉ pre ++ [k] ∧ Way tb S (pre ++ [k] ++ [e]) x) ∧
      ((∀ k r, S k = true → tb k = some r → r = []) → W.Nodup) := by
  intro d
  induction d using Nat.strongRecOn with
  | _ d IH =>
  intro pre k hnd hso hlen r r0 hr h0 hr0
  have hord : ∀ x ∈ r0, x ∈ order := by
    obtain ⟨r1, h1, _, h3, _⟩ := T.row k (hso k (by simp))
    rw [h0] at h1; cases h1; exact h3
  have hpl : pre.length ≤ 5 := by have := T.len; simp at hlen; omega
  have ylen : (ytell S (pre ++ [k]) k).length ≤ 1 := by unfold ytell; split <;> simp
  have ymem : ∀ x, x ∈ ytell S (pre ++ [k]) k ↔ S k = true ∧ x = (pre ++ [k]).reverse := fun x => by unfold ytell; split <;> simp [*]
  have wrap : ∀ (r : List Int) bs F W', bs.map (·.1) = pre → GY tb S false (bs ++ [(k, r)]) (F ++ W') → GY tb S true (bs ++ [(k, r)]) (ytell S (pre ++ [k]) k ++ F ++ W') := fun r bs F W' hb h => by
    unfold ytell
    cases hS : S k with
    | true => rw [if_pos rfl]; have := GY.yes hS h; rw [hb] at this; exact this
    | false => rw [if_neg Bool.false_ne_true]; exact GY.no hS h
  induction r with
  | nil =>
    refine ⟨ytell S (pre ++ [k]) k ++ [], [], rfl, fun bs W' hb h => ?_, ?_, fun x => ?_, fun _ => ?_⟩
    · have h1 : GY tb S false (bs ++ [(k, [])]) ([] ++ W') := .pop (by have := congrArg List.length hb; rw [List.length_map] at this; omega) rfl h
      exact ⟨h1, wrap [] bs [] W' hb h1⟩
    · rw [List.append_nil]; omega
    · rw [List.append_nil, ymem]; simp
    · rw [List.append_nil]; unfold ytell; split <;> simp
  | cons e r ih =>
    rw [List.nodup_cons] at hr
    obtain ⟨W2, F2, hW2, hg2, hl2, hm2, hn2⟩ := ih hr.2 (fun x hx => hr0 x (List.mem_cons_of_mem _ hx))
    by_cases he : e ∈ pre ++ [k]
    · refine ⟨W2, F2, hW2, fun bs W' hb h => ?_, by rw [unv_cons_in he]; exact hl2, fun x => ?_, hn2⟩
      · have h1 := gy_skip (e := e) (by rw [hb]; exact he) (hg2 bs W' hb h).1
        exact ⟨h1, by rw [hW2]; exact wrap _ bs F2 W' hb h1⟩
      · rw [hm2]
        constructor
        · rintro (h | ⟨e', h1, h2, h3⟩)
          · exact .inl h
          · exact .inr ⟨e', List.mem_cons_of_mem _ h1, h2, h3⟩
        · rintro (h | ⟨e', h1, h2, h3⟩)
          · exact .inl h
          · rcases List.mem_cons.mp h1 with rfl | h1
            · exact absurd he h2
            · exact .inr ⟨e', h1, h2, h3⟩
    · have heo : e ∈ order := hord e (hr0 e List.mem_cons_self)
      obtain ⟨r1, hr1, hr1n, hr1o, hr1l⟩ := T.row e heo
      have hnd' : (pre ++ [k] ++ [e]).Nodup := by
        rw [List.nodup_append]
        exact ⟨hnd, by simp, fun a ha b hb hab => he (by rw [List.mem_singleton] at hb; rw [← hb, ← hab]; exact ha)⟩
      have hso' : ∀ x ∈ pre ++ [k] ++ [e], x ∈ order := fun x hx => by
        rw [List.mem_append, List.mem_singleton] at hx
        rcases hx with hx | rfl
        · exact hso x hx
        · exact heo
      have hle := nd_len hnd' hso'
      have hd : 1 ≤ d := by simp at hle hlen; omega
      obtain ⟨W1, F1, hW1, hg1, hl1, hm1, hn1⟩ := IH (d - 1) (by omega) (pre ++ [k]) e hnd' hso' (by simp at hlen ⊢; omega) r1 r1 hr1n hr1 (fun _ h => h)
      have hW1t : W1.length ≤ tmax (d - 1) := Nat.le_trans hl1 (tmax_step (Nat.le_trans (unv_le_len _ _) hr1l) (by
        have := unv_le T hnd' hso' hr1n hr1o
        simp at this hlen ⊢; omega))
      have hm1' : ∀ x, x ∈ W1 ↔ Way tb S (pre ++ [k] ++ [e]) x := fun x => (hm1 x).trans (way_iff hr1).symm
      refine ⟨ytell S (pre ++ [k]) k ++ (W1 ++ W2), W1 ++ W2, rfl, fun bs W' hb h => ?_, ?_, fun x => ?_, fun hon => ?_⟩
      · have h2 := (hg2 bs W' hb h).2
        have h3 := (hg1 (bs ++ [(k, r)]) (W2 ++ W') (by simp [hb]) h2).2
        have h4 : GY tb S false (bs ++ [(k, e :: r)]) (W1 ++ W2 ++ W') := by
          rw [List.append_assoc]
          refine .push (by have := congrArg List.length hb; rw [List.length_map] at this; omega) ?_ hr1 h3
          rw [hb, List.dropWhile_cons, if_neg (by simpa using he)]
        exact ⟨h4, wrap _ bs (W1 ++ W2) W' hb h4⟩
      · rw [unv_cons_out he, List.length_append, List.length_append, Nat.add_mul]
        omega
      · rw [List.mem_append, List.mem_append, ymem, hm1', hm2]
        constructor
        · rintro (h | h | h | ⟨e', h1, h2, h3⟩)
          · exact .inl h
          · exact .inr ⟨e, List.mem_cons_self, he, h⟩
          · exact .inl h
          · exact .inr ⟨e', List.mem_cons_of_mem _ h1, h2, h3⟩
        · rintro (h | ⟨e', h1, h2, h3⟩)
          · exact .inl h
          · rcases List.mem_cons.mp h1 with rfl | h1
            · exact .inr (.inl h3)
            · exact .inr (.inr (.inr ⟨e', h1, h2, h3⟩))
      · have hS : S k = false := by
          cases hS : S k with
          | false => rfl
          | true =>
            have := hon k r0 hS h0
            rw [this] at hr0
            exact absurd (hr0 e List.mem_cons_self) (by simp)
        unfold ytell
        rw [hS, if_neg Bool.false_ne_true, List.nil_append, List.nodup_append]
        refine ⟨hn1 hon, hn2 hon, fun a ha b hb hab => ?_⟩
        subst hab
        rw [hm1'] at ha
        rw [hm2, hS] at hb
        rcases hb with ⟨hb, _⟩ | ⟨e', h1, h2, h3⟩
        · cases hb
        · have := prefix_inj ha.prefix h3.prefix
          exact hr.1 (this ▸ h1)

theorem tmax_le (d : Nat) (h : d ≤ 4) : tmax d ≤ 97 := by
  have : d = 0 ∨ d = 1 ∨ d = 2 ∨ d = 3 ∨ d = 4 := by omega
  rcases this with rfl | rfl | rfl | rfl | rfl <;> decide

/-- what the generator tells -/
theorem told_exists {tb : Int → Option (List Int)} {order : List Int} (T : Tab tb order) (S : Int → Bool) {g : Int} (hg : g ∈ order) {rg : List Int} (hr : tb g = some rg) :
    ∃ W, GY tb S true [(g, rg)] W ∧ W.length ≤ 97 ∧ (∀ x, x ∈ W ↔ Way tb S [g] x) ∧ ((∀ k r, S k = true → tb k = some r → r = []) → W.Nodup) := by
  obtain ⟨r1, h1, h2, h3, h4⟩ := T.row g hg
  rw [hr] at h1; cases h1
  have hpos : 0 < order.length := List.length_pos_of_mem hg
  obtain ⟨W, F, hW, hgy, hl, hm, hn⟩ := tell T S (order.length - 1) [] g (by simp) (by simpa using hg) (by simp; omega) rg rg h2 hr (fun _ h => h)
  have := (hgy [] [] rfl .done).2
  rw [List.append_nil] at this
  refine ⟨W, this, ?_, fun x => (hm x).trans (way_iff (pre := []) hr).symm, hn⟩
  have hu := unv_le T (p := [] ++ [g]) (by simp) (by simpa using hg) h2 h3
  have := tmax_step (Nat.le_trans (unv_le_len ([] ++ [g]) rg) h4) (d := order.length - 1) (by simp at hu ⊢; omega)
  exact Nat.le_trans hl (Nat.le_trans this (tmax_le _ (by have := T.len; omega)))
end Mine
end

section -- M2
set_option linter.unusedVariables false
namespace Mine

def cb : Nat → Nat
  | 0 => 1
  | d + 1 => 1 + min 3 (d + 1) * cb d
theorem cb_pos (d : Nat) : 1 ≤ cb d := by cases d <;> simp [cb]
theorem cb_le (d : Nat) (h : d ≤ 4) : cb d ≤ 49 := by
  have : d = 0 ∨ d = 1 ∨ d = 2 ∨ d = 3 ∨ d = 4 := by omega
  rcases this with rfl | rfl | rfl | rfl | rfl <;> decide
def wt (n : Nat) (rows : List (List Int)) : Nat := (rows.map (fun p => cb (n - p.length))).sum
theorem wt_cons (n : Nat) (p : List Int) (rows : List (List Int)) : wt n (p :: rows) = cb (n - p.length) + wt n rows := rfl
theorem wt_append (n : Nat) (a b : List (List Int)) : wt n (a ++ b) = wt n a + wt n b := by unfold wt; rw [List.map_append, List.sum_append]
theorem wt_len (n : Nat) : ∀ rows : List (List Int), rows.length ≤ wt n rows
  | [] => Nat.zero_le _
  | p :: r => by rw [wt_cons, List.length_cons]; have := wt_len n r; have := cb_pos (n - p.length); omega
theorem wt_map (n : Nat) (p : List Int) : ∀ r : List Int, wt n (r.map (fun e => p ++ [e])) = r.length * cb (n - (p.length + 1))
  | [] => by simp [wt]
  | e :: r => by
    rw [List.map_cons, wt_cons, wt_map n p r, List.length_cons, Nat.add_mul, List.length_append, List.length_singleton]; omega

theorem any_mem (l : List Int) (e : Int) : (l.any (· == e)) = decide (e ∈ l) := by
  induction l with
  | nil => simp
  | cons a r ih =>
    rw [List.any_cons, ih]
    by_cases h : a = e
    · simp [h]
    · have h' : ¬ e = a := fun q => h q.symm
      have hb : (a == e) = false := by simpa using h
      simp [hb, h']

theorem all_step {tb : Int → Option (List Int)} {order : List Int} (T : Tab tb order) (S : Int → Bool) : ∀ (N : Nat) (rows don : List (List Int)), wt order.length rows ≤ N →
    (∀ p ∈ rows, p ≠ [] ∧ p.Nodup ∧ ∀ x ∈ p, x ∈ order) → don.length + wt order.length rows ≤ 49 → rows.Pairwise (fun a b => ¬ a <+: b ∧ ¬ b <+: a) → don.Nodup → (∀ x ∈ don, ∀ p ∈ rows, ¬ p <+: x.reverse) →
    ∃ n L, AL tb S n rows don L ∧ L.length ≤ 49 ∧ (∀ x, x ∈ L ↔ x ∈ don ∨ ∃ p ∈ rows, Way tb S p x) ∧ L.Nodup := by
  intro N
  induction N with
  | zero =>
    intro rows don hw hv hd hi hn hx
    have := wt_len order.length rows
    have : rows = [] := List.eq_nil_of_length_eq_zero (by omega)
    subst this
    exact ⟨0, don, .nil, by omega, fun x => by simp, hn⟩
  | succ N ih =>
    intro rows don hw hv hd hi hn hx
    cases rows with
    | nil => exact ⟨0, don, .nil, by omega, fun x => by simp, hn⟩
    | cons p rest =>
      obtain ⟨hp0, hpn, hpo⟩ := hv p List.mem_cons_self
      rcases List.eq_nil_or_concat p with h | ⟨pre, k, h⟩
      · exact absurd h hp0
      rw [List.concat_eq_append] at h
      subst h
      obtain ⟨r, hr, hrn, hro, hrl⟩ := T.row k (hpo k (by simp))
      have hu := unv_le T hpn hpo hrn hro
      have hfil : (r.filter (fun e => !(pre ++ [k]).any (· == e))) = r.filter (fun e => !decide (e ∈ pre ++ [k])) := by
        congr 1; funext e; rw [any_mem]
      have hfl : (r.filter (fun e => !(pre ++ [k]).any (· == e))).length = unv (pre ++ [k]) r := by rw [hfil]; rfl
      have hu3 := Nat.le_trans (unv_le_len (pre ++ [k]) r) hrl
      have hwn : wt order.length ((r.filter (fun e => !(pre ++ [k]).any (· == e))).map (fun e => pre ++ [k] ++ [e])) + 1 ≤ cb (order.length - (pre ++ [k]).length) := by
        rw [wt_map, hfl]
        cases hd0 : order.length - (pre ++ [k]).length with
        | zero => have : unv (pre ++ [k]) r = 0 := by omega
                  rw [this]; simp [cb]
        | succ d =>
          have e1 : order.length - ((pre ++ [k]).length + 1) = d := by omega
          rw [e1]
          have h1 : unv (pre ++ [k]) r ≤ min 3 (d + 1) := by omega
          have := Nat.mul_le_mul_right (cb d) h1
          simp only [cb]; omega
      rw [wt_cons] at hw hd
      rw [List.pairwise_cons] at hi
      have hrest := wt_len order.length rest
      have mnew : ∀ q, q ∈ (r.filter (fun e => !(pre ++ [k]).any (· == e))).map (fun e => pre ++ [k] ++ [e]) ↔ ∃ e ∈ r, e ∉ pre ++ [k] ∧ q = pre ++ [k] ++ [e] := fun q => by
        rw [List.mem_map, hfil]
        constructor
        · rintro ⟨e, he, rfl⟩
          rw [List.mem_filter] at he
          exact ⟨e, he.1, by simpa using he.2, rfl⟩
        · rintro ⟨e, h1, h2, rfl⟩
          exact ⟨e, List.mem_filter.mpr ⟨h1, by simpa using h2⟩, rfl⟩
      have hpre : (pre ++ [k]).length ≤ 5 := Nat.le_trans (nd_len hpn hpo) T.len
      obtain ⟨n, L, hal, hL, hm, hLn⟩ := ih (rest ++ (r.filter (fun e => !(pre ++ [k]).any (· == e))).map (fun e => pre ++ [k] ++ [e])) (if S k then don ++ [(pre ++ [k]).reverse] else don) (by rw [wt_append]; omega)
        (fun q hq => by
          rw [List.mem_append] at hq
          rcases hq with hq | hq
          · exact hv q (List.mem_cons_of_mem _ hq)
          · obtain ⟨e, h1, h2, rfl⟩ := (mnew q).mp hq
            refine ⟨by simp, ?_, fun x hx => ?_⟩
            · rw [List.nodup_append]
              exact ⟨hpn, by simp, fun a ha b hb hab => h2 (by rw [List.mem_singleton] at hb; rw [← hb, ← hab]; exact ha)⟩
            · rw [List.mem_append, List.mem_singleton] at hx
              rcases hx with hx | rfl
              · exact hpo x hx
              · exact hro x h1)
        (by rw [wt_append]; split
            · rw [List.length_append, List.length_singleton]; omega
            · omega)
        (by
          rw [List.pairwise_append]
          refine ⟨hi.2, ?_, fun a ha b hb => ?_⟩
          · rw [List.pairwise_map]
            refine (hrn.filter _).imp fun {a b} hab => ⟨fun h => hab (prefix_inj h (List.prefix_refl _)), fun h => hab (prefix_inj (List.prefix_refl _) h)⟩
          · obtain ⟨e, h1, h2, rfl⟩ := (mnew b).mp hb
            obtain ⟨q1, q2⟩ := hi.1 a ha
            refine ⟨fun h => ?_, fun h => q1 ((List.prefix_append _ _).trans h)⟩
            rcases List.prefix_concat_iff.mp h with h | h
            · exact q1 (by rw [h]; exact List.prefix_append _ _)
            · exact q2 h)
        (by
          split
          · rw [List.nodup_append]
            refine ⟨hn, by simp, fun a ha b hb hab => ?_⟩
            rw [List.mem_singleton] at hb
            exact hx a ha _ List.mem_cons_self (by rw [hab, hb, List.reverse_reverse]; exact List.prefix_refl _)
          · exact hn)
        (fun x hxd q hq => by
          rw [List.mem_append] at hq
          have hxx : x ∈ don ∨ x = (pre ++ [k]).reverse := by
            revert hxd; split
            · intro h; rw [List.mem_append, List.mem_singleton] at h; exact h
            · exact fun h => .inl h
          rcases hxx with hxx | rfl
          · rcases hq with hq | hq
            · exact hx x hxx q (List.mem_cons_of_mem _ hq)
            · obtain ⟨e, h1, h2, rfl⟩ := (mnew q).mp hq
              exact fun h => hx x hxx _ List.mem_cons_self ((List.prefix_append _ _).trans h)
          · rw [List.reverse_reverse]
            rcases hq with hq | hq
            · exact (hi.1 q hq).2
            · obtain ⟨e, h1, h2, rfl⟩ := (mnew q).mp hq
              intro h
              have := h.length_le
              simp at this
              )
      refine ⟨n + 1, L, .cons hr (by omega) (by simp at hpre; omega) (by omega) (by omega) hal, hL, fun x => ?_, hLn⟩
      rw [hm]
      have hxd : x ∈ (if S k then don ++ [(pre ++ [k]).reverse] else don) ↔ x ∈ don ∨ (S k = true ∧ x = (pre ++ [k]).reverse) := by
        cases S k <;> simp
      rw [hxd]
      constructor
      · rintro ((h | h) | ⟨q, hq, hw⟩)
        · exact .inl h
        · exact .inr ⟨_, List.mem_cons_self, (way_iff hr).mpr (.inl h)⟩
        · rw [List.mem_append] at hq
          rcases hq with hq | hq
          · exact .inr ⟨q, List.mem_cons_of_mem _ hq, hw⟩
          · obtain ⟨e, h1, h2, rfl⟩ := (mnew q).mp hq
            exact .inr ⟨_, List.mem_cons_self, (way_iff hr).mpr (.inr ⟨e, h1, h2, hw⟩)⟩
      · rintro (h | ⟨q, hq, hw⟩)
        · exact .inl (.inl h)
        · rcases List.mem_cons.mp hq with rfl | hq
          · rcases (way_iff hr).mp hw with h | ⟨e, h1, h2, h3⟩
            · exact .inl (.inr h)
            · exact .inr ⟨_, List.mem_append_right _ ((mnew _).mpr ⟨e, h1, h2, rfl⟩), h3⟩
          · exact .inr ⟨q, List.mem_append_left _ hq, hw⟩

theorem all_exists {tb : Int → Option (List Int)} {order : List Int} (T : Tab tb order) (S : Int → Bool) {g : Int} (hg : g ∈ order) :
    ∃ n L, AL tb S n [[g]] [] L ∧ L.length ≤ 49 ∧ (∀ x, x ∈ L ↔ Way tb S [g] x) ∧ L.Nodup := by
  have hpos : 0 < order.length := List.length_pos_of_mem hg
  have hw : wt order.length [[g]] ≤ 49 := by
    rw [wt_cons]; simp only [wt, List.map_nil, List.sum_nil, Nat.add_zero]
    exact cb_le _ (by have := T.len; simp; omega)
  obtain ⟨n, L, h1, h2, h3, h4⟩ := all_step T S 49 [[g]] [] hw (fun p hp => by rw [List.mem_singleton] at hp; subst hp; exact ⟨by simp, by simp, by simpa using hg⟩) (by simpa using hw) (by simp) (by simp) (by simp)
  exact ⟨n, L, h1, h2, fun x => by rw [h3]; simp, h4⟩
end Mine
end

section -- M3
set_option linter.unusedVariables false
namespace Mine

theorem lexLe_refl (a : List Int) : lexLe a a = true := by unfold lexLe; rw [lexLt_irrefl]; rfl

theorem le_at {ss : List (List Int)} (h : ss.Pairwise fun a b => lexLe a b = true) {i j : Nat} (hij : i ≤ j) (hj : j < ss.length) : lexLe (ss[i]'(by omega)) (ss[j]'hj) = true := by
  rcases Nat.eq_or_lt_of_le hij with e | e
  · subst e; exact lexLe_refl _
  · exact List.pairwise_iff_getElem.mp h i j (by omega) hj e

theorem ddi_eq (ss : List (List Int)) : ddi ss = ((List.range ss.length).filter (fun i : Nat => ddp ss (i : Int))).map (fun i => (ss[i]?).getD []) := by
  unfold ddi
  rw [List.filter_map, List.map_map]
  rfl

theorem ddp_nat {ss : List (List Int)} {i : Nat} (hi : i < ss.length) : ddp ss (i : Int) = true ↔ i = 0 ∨ ∃ h : 0 < i, ss[i] ≠ ss[i - 1]'(by omega) := by
  unfold ddp
  rw [Int.toNat_natCast]
  rcases Nat.eq_zero_or_pos i with e | e
  · subst e; simp
  · have e2 : ((i : Int) - 1).toNat = i - 1 := by omega
    rw [e2, List.getElem?_eq_getElem hi, List.getElem?_eq_getElem (by omega : i - 1 < ss.length)]
    have e3 : ¬ i = 0 := by omega
    have e4 : ¬ (i : Int) = 0 := by omega
    simp [e3, e4, e]

theorem mem_ddi {ss : List (List Int)} (x : List Int) : x ∈ ddi ss ↔ x ∈ ss := by
  rw [ddi_eq, List.mem_map]
  constructor
  · rintro ⟨i, hi, rfl⟩
    rw [List.mem_filter, List.mem_range] at hi
    rw [List.getElem?_eq_getElem hi.1]
    exact List.getElem_mem _
  · intro hx
    have hlt : ss.idxOf x < ss.length := List.idxOf_lt_length_iff.mpr hx
    refine ⟨ss.idxOf x, ?_, ?_⟩
    · rw [List.mem_filter, List.mem_range]
      refine ⟨hlt, (ddp_nat hlt).mpr ?_⟩
      rcases Nat.eq_zero_or_pos (ss.idxOf x) with e | e
      · exact .inl e
      · refine .inr ⟨e, ?_⟩
        rw [List.getElem_idxOf]
        intro hh
        have := List.not_of_lt_findIdx (p := (· == x)) (xs := ss) (i := ss.idxOf x - 1) (by have : ss.findIdx (· == x) = ss.idxOf x := rfl; omega)
        simp at this
        exact this hh.symm
    · rw [List.getElem?_eq_getElem hlt, List.getElem_idxOf]; rfl

theorem ddi_pair {ss : List (List Int)} (h : ss.Pairwise fun a b => lexLe a b = true) : (ddi ss).Pairwise (fun a b => lexLe a b = true ∧ a ≠ b) := by
  rw [ddi_eq, List.pairwise_map, List.pairwise_filter, List.pairwise_iff_getElem]
  intro i j hi hj hij h1 h2
  rw [List.length_range] at hi hj
  rw [List.getElem_range] at h1 h2 ⊢
  rw [List.getElem_range]
  rw [List.getElem?_eq_getElem hi, List.getElem?_eq_getElem hj]
  refine ⟨le_at h (Nat.le_of_lt hij) hj, fun e => ?_⟩
  rcases (ddp_nat hj).mp h2 with h3 | ⟨h3, h4⟩
  · omega
  · refine h4 (lexLe_antisymm ?_ (le_at h (Nat.sub_le j 1) hj))
    have := le_at h (show i ≤ j - 1 by omega) (by omega)
    have e' : ss[i] = ss[j] := e
    rw [e'] at this
    exact this
theorem plain_eq {W L : List (List Int)} (hm : ∀ x, x ∈ W ↔ x ∈ L) (hn : L.Nodup) : ddi (srt W) = srt L := by
  have hp := ddi_pair (srt_pairwise W)
  refine eq_srt ?_ (hp.imp fun h => h.1)
  refine (List.perm_ext_iff_of_nodup (hp.imp fun h => h.2) hn).mpr fun x => ?_
  rw [mem_ddi, (srt_perm W).mem_iff, hm]
theorem once_eq {W L : List (List Int)} (hm : ∀ x, x ∈ W ↔ x ∈ L) (hW : W.Nodup) (hn : L.Nodup) : srt W = srt L :=
  srt_congr ((List.perm_ext_iff_of_nodup hW hn).mpr hm)
end Mine
end

section -- LawA
set_option linter.unusedVariables false
namespace Mine
open PySem PyProof.Rows PySem.W PySem.Calls PySem.Spec
open Sem (wp)

abbrev lenv (pm : Value) (L a : Addr) : Env := callEnvC (fdOf 11 pm 91) L a
section
variable (pm : Value) (L a : Addr)
theorem l_fn : InFn (lenv pm L a) := ⟨rfl, rfl, rfl⟩
theorem l_head : (lenv pm L a).cells.lookup (Str.ofString "head") = some (L + 1) := by rfl
theorem l_size : (lenv pm L a).cells.lookup (Str.ofString "size") = some (L + 1 + 1) := by rfl
theorem l_table : (lenv pm L a).cells.lookup (Str.ofString "table") = some (L + 1 + 1 + 1) := by rfl
theorem l_cell : (lenv pm L a).cells.lookup (Str.ofString "cell") = some (L + 1 + 1 + 1 + 1) := by rfl
end

/-- the law's frame: its names and its four cells -/
structure LF (h : Heap) (L : Addr) (l : List (Str × Value)) (hv sv tv cv : Option Value) : Prop where
  ns : ∃ m, h.Ns L m ∧ ∀ n v, l.lookup n = some v → m n = some v
  c1 : h.IsCell (L + 1) hv
  c2 : h.IsCell (L + 1 + 1) sv
  c3 : h.IsCell (L + 1 + 1 + 1) tv
  c4 : h.IsCell (L + 1 + 1 + 1 + 1) cv

def reg (L b : Addr) : Prop := b = L ∨ b = L + 1 ∨ b = L + 1 + 1 ∨ b = L + 1 + 1 + 1 ∨ b = L + 1 + 1 + 1 + 1

/-- the heap without the law's frame and cells -/
def frz (L : Addr) (h : Heap) : Heap := gone (gone (gone (gone (gone h L) (L + 1)) (L + 1 + 1)) (L + 1 + 1 + 1)) (L + 1 + 1 + 1 + 1)
theorem frz_none {L b : Addr} (h : Heap) (r : reg L b) : (frz L h).get? b = none := by
  have key : ∀ (h : Heap) (a b : Addr), h.get? b = none → (gone h a).get? b = none := fun h a b e => by
    by_cases q : b = a
    · rw [q]; exact gone_self _ _
    · rw [gone_other _ q]; exact e
  unfold frz
  rcases r with rfl | rfl | rfl | rfl | rfl
  · exact key _ _ _ (key _ _ _ (key _ _ _ (key _ _ _ (gone_self _ _))))
  · exact key _ _ _ (key _ _ _ (key _ _ _ (gone_self _ _)))
  · exact key _ _ _ (key _ _ _ (gone_self _ _))
  · exact key _ _ _ (gone_self _ _)
  · exact gone_self _ _
theorem frz_get {L b : Addr} (h : Heap) (r : ¬ reg L b) : (frz L h).get? b = h.get? b := by
  unfold frz
  rw [gone_other _ (fun e => r (.inr (.inr (.inr (.inr e))))), gone_other _ (fun e => r (.inr (.inr (.inr (.inl e))))), gone_other _ (fun e => r (.inr (.inr (.inl e)))), gone_other _ (fun e => r (.inr (.inl e))), gone_other _ (fun e => r (.inl e))]
theorem frz_stays (L : Addr) (h : Heap) : (frz L h).StaysIn h := fun b o e => by
  by_cases r : reg L b
  · rw [frz_none h r] at e; cases e
  · rwa [frz_get h r] at e
theorem stays_frz {Z h : Heap} {L : Addr} (k : Z.StaysIn h) (zn : ∀ b, reg L b → Z.get? b = none) : Z.StaysIn (frz L h) := fun b o e => by
  rw [frz_get h (fun r => by rw [zn b r] at e; cases e)]; exact k b o e

theorem LF.kind {h : Heap} {L : Addr} {l : List (Str × Value)} {hv sv tv cv : Option Value} (x : LF h L l hv sv tv cv) {b : Addr} {o : Obj} (r : reg L b) (e : h.get? b = some o) : (∃ es n, o.data = .dict es n) ∨ ∃ v, o.data = .cell v := by
  rcases r with rfl | rfl | rfl | rfl | rfl
  · obtain ⟨m, ⟨o', es, ep, ho, hd, _⟩, _⟩ := x.ns; rw [ho] at e; cases e; exact .inl ⟨_, _, hd⟩
  · obtain ⟨o', ho, hd⟩ := x.c1; rw [ho] at e; cases e; exact .inr ⟨_, hd⟩
  · obtain ⟨o', ho, hd⟩ := x.c2; rw [ho] at e; cases e; exact .inr ⟨_, hd⟩
  · obtain ⟨o', ho, hd⟩ := x.c3; rw [ho] at e; cases e; exact .inr ⟨_, hd⟩
  · obtain ⟨o', ho, hd⟩ := x.c4; rw [ho] at e; cases e; exact .inr ⟨_, hd⟩

theorem IL.frz {h : Heap} {L : Addr} {l : List (Str × Value)} {hv sv tv cv : Option Value} {a : Addr} {ns : List Int} (x : IL h a ns) (f : LF h L l hv sv tv cv) : IL (frz L h) a ns := by
  obtain ⟨vs, n, ho, hi⟩ := x
  refine ⟨vs, n, ?_, hi⟩
  rw [frz_get h fun r => ?_]; exact ho
  rcases f.kind r ho with ⟨_, _, e⟩ | ⟨_, e⟩ <;> cases e
theorem ILs.frz {h : Heap} {L : Addr} {l : List (Str × Value)} {hv sv tv cv : Option Value} {vs : List Value} {nss : List (List Int)} (x : ILs h vs nss) (f : LF h L l hv sv tv cv) : ILs (frz L h) vs nss := by
  induction x with
  | nil => exact .nil
  | cons a b ih => obtain ⟨c, h1, h2⟩ := a; exact .cons ⟨c, h1, h2.frz f⟩ ih
theorem LL.frz {h : Heap} {L : Addr} {l : List (Str × Value)} {hv sv tv cv : Option Value} {a : Addr} {nss : List (List Int)} (x : LL h a nss) (f : LF h L l hv sv tv cv) : LL (frz L h) a nss := by
  obtain ⟨vs, n, ho, hi⟩ := x
  refine ⟨vs, n, ?_, hi.frz f⟩
  rw [frz_get h fun r => ?_]; exact ho
  rcases f.kind r ho with ⟨_, _, e⟩ | ⟨_, e⟩ <;> cases e

/-- where the law stands: its frame, and what of the heap is for good -/
structure SL (H0 Z : Heap) (L : Addr) (l : List (Str × Value)) (hv sv tv cv : Option Value) (h : Heap) : Prop where
  lf : LF h L l hv sv tv cv
  z : Z.StaysIn h
  zn : ∀ b, reg L b → Z.get? b = none
  k : H0.StaysIn Z

section
variable {prog : Program} {w : World} {A : Around} {E : Value → Shared → Prop} {s : Shared} {H0 Z : Heap} {L a : Addr} {pm : Value} {l : List (Str × Value)} {hv sv tv cv : Option Value} {h : Heap}

theorem LF.stays (x : LF h L l hv sv tv cv) {h' : Heap} (k : h.StaysIn h') : LF h' L l hv sv tv cv :=
  ⟨let ⟨m, a, b⟩ := x.ns; ⟨m, a.keeps k, b⟩, x.c1.keeps k, x.c2.keeps k, x.c3.keeps k, x.c4.keeps k⟩
theorem SL.stays (x : SL H0 Z L l hv sv tv cv h) {h' : Heap} (k : h.StaysIn h') : SL H0 Z L l hv sv tv cv h' := ⟨x.lf.stays k, stays_trans x.z k, x.zn, x.k⟩
theorem SL.push (x : SL H0 Z L l hv sv tv cv h) (o : Obj) : SL H0 Z L l hv sv tv cv (h.push o) := x.stays (keep_push _)
theorem SL.grow (x : SL H0 Z L l hv sv tv cv h) : SL H0 (Mine.frz L h) L l hv sv tv cv h := ⟨x.lf, frz_stays _ _, fun b r => frz_none _ r, stays_trans x.k (stays_frz x.z x.zn)⟩
theorem SL.grown (x : SL H0 Z L l hv sv tv cv h) : Z.StaysIn (Mine.frz L h) := stays_frz x.z x.zn
/-- an address of the heap at the call's start is none of the region's -/
theorem SL.stat (x : SL H0 Z L l hv sv tv cv h) (ST : Stat H0) : Stat h := (ST.keep x.k).keep x.z
theorem SL.fns (x : SL H0 Z L l hv sv tv cv h) (FN : Fns H0) : Fns h := (FN.keep x.k).keep x.z

theorem SL.out (x : SL H0 Z L l hv sv tv cv h) {b : Addr} (r : reg L b) {h' : Heap} (hs : Heap.ExtBut b h h') : Z.StaysIn h' := fun c o e => hs c o (fun q => by rw [q, x.zn b r] at e; cases e) (x.z c o e)

theorem r0 (L : Addr) : reg L L := .inl rfl
theorem r1 (L : Addr) : reg L (L + 1) := .inr (.inl rfl)
theorem r2 (L : Addr) : reg L (L + 1 + 1) := .inr (.inr (.inl rfl))
theorem r3 (L : Addr) : reg L (L + 1 + 1 + 1) := .inr (.inr (.inr (.inl rfl)))
theorem r4 (L : Addr) : reg L (L + 1 + 1 + 1 + 1) := .inr (.inr (.inr (.inr rfl)))

theorem sn (n : Nat) : n + 1 ≠ n := Nat.succ_ne_self n
theorem n20 (n : Nat) : n + 1 + 1 ≠ n := by omega
theorem n30 (n : Nat) : n + 1 + 1 + 1 ≠ n := by omega
theorem n40 (n : Nat) : n + 1 + 1 + 1 + 1 ≠ n := by omega

/-- a name is read -/
theorem SL.nm {n : Str} {v : Value} {pos : Pos} {Q : Value → Shared → Prop} (x : SL H0 Z L l hv sv tv cv s.heap) (hl : l.lookup n = some v) (h : Q v s)
    (hk : (lenv pm L a).kindOf n = some .local := by rfl) (hd : (n == ("__debug__" : Str)) = false := by decide) : wpAny (model prog w) A (eval (.Name n pos) (lenv pm L a)) Q E s := by
  obtain ⟨m, hm, hx⟩ := x.lf.ns
  exact nm_l (l_fn pm L a) hm hk (hx n v hl) h hd
theorem SL.nmh {v : Value} {pos : Pos} {Q : Value → Shared → Prop} (x : SL H0 Z L l (some v) sv tv cv s.heap) (h : Q v s) : wpAny (model prog w) A (eval (.Name "head" pos) (lenv pm L a)) Q E s :=
  nm_c (l_fn pm L a) (by rfl) (l_head pm L a) x.lf.c1 h
theorem SL.nms {v : Value} {pos : Pos} {Q : Value → Shared → Prop} (x : SL H0 Z L l hv (some v) tv cv s.heap) (h : Q v s) : wpAny (model prog w) A (eval (.Name "size" pos) (lenv pm L a)) Q E s :=
  nm_c (l_fn pm L a) (by rfl) (l_size pm L a) x.lf.c2 h
theorem SL.nmt {v : Value} {pos : Pos} {Q : Value → Shared → Prop} (x : SL H0 Z L l hv sv (some v) cv s.heap) (h : Q v s) : wpAny (model prog w) A (eval (.Name "table" pos) (lenv pm L a)) Q E s :=
  nm_c (l_fn pm L a) (by rfl) (l_table pm L a) x.lf.c3 h
theorem SL.nmc {v : Value} {pos : Pos} {Q : Value → Shared → Prop} (x : SL H0 Z L l hv sv tv (some v) s.heap) (h : Q v s) : wpAny (model prog w) A (eval (.Name "cell" pos) (lenv pm L a)) Q E s :=
  nm_c (l_fn pm L a) (by rfl) (l_cell pm L a) x.lf.c4 h

/-- a name is stored -/
theorem SL.st {n : Str} {v : Value} {Q : Unit → Shared → Prop} (x : SL H0 Z L l hv sv tv cv s.heap)
    (h : ∀ h' t, SL H0 Z L ((n, v) :: l) hv sv tv cv h' → Heap.ExtBut L s.heap h' → Q () { s with heap := h', toks := t })
    (hk : (lenv pm L a).kindOf n = some .local := by rfl) : wpAny (model prog w) A (storeName (lenv pm L a) n v) Q E s := by
  obtain ⟨m, hm, hx⟩ := x.lf.ns
  refine wpAny_storeName_local hk hm fun h' hn hs => ?_
  refine h h' _ ⟨⟨⟨_, hn, fun n' v' hl => ?_⟩, x.lf.c1.sameBut hs (sn L), x.lf.c2.sameBut hs (n20 L), x.lf.c3.sameBut hs (n30 L), x.lf.c4.sameBut hs (n40 L)⟩, x.out (r0 L) hs.extBut, x.zn, x.k⟩ hs.extBut
  rw [List.lookup_cons] at hl
  by_cases q : n' = n
  · subst q; simp at hl ⊢; exact hl
  · have : (n' == n) = false := by simpa using q
    rw [this] at hl
    simp only at hl
    rw [if_neg q]; exact hx n' v' hl

theorem SL.sth {v : Value} {Q : Unit → Shared → Prop} (x : SL H0 Z L l hv sv tv cv s.heap)
    (h : ∀ h', SL H0 Z L l (some v) sv tv cv h' → Heap.ExtBut (L + 1) s.heap h' → Q () { s with heap := h' }) : wpAny (model prog w) A (storeName (lenv pm L a) "head" v) Q E s := by
  obtain ⟨m, hm, hx⟩ := x.lf.ns
  refine wpAny_storeName_cell (l_fn pm L a).kind (by rfl) (l_head pm L a) x.lf.c1 fun h' hc hs => ?_
  exact h h' ⟨⟨⟨m, hm.sameBut hs (sn L).symm, hx⟩, hc, x.lf.c2.sameBut hs (sn _), x.lf.c3.sameBut hs (n20 _), x.lf.c4.sameBut hs (n30 _)⟩, x.out (r1 L) hs.extBut, x.zn, x.k⟩ hs.extBut
theorem SL.sts {v : Value} {Q : Unit → Shared → Prop} (x : SL H0 Z L l hv sv tv cv s.heap)
    (h : ∀ h', SL H0 Z L l hv (some v) tv cv h' → Heap.ExtBut (L + 1 + 1) s.heap h' → Q () { s with heap := h' }) : wpAny (model prog w) A (storeName (lenv pm L a) "size" v) Q E s := by
  obtain ⟨m, hm, hx⟩ := x.lf.ns
  refine wpAny_storeName_cell (l_fn pm L a).kind (by rfl) (l_size pm L a) x.lf.c2 fun h' hc hs => ?_
  exact h h' ⟨⟨⟨m, hm.sameBut hs (n20 L).symm, hx⟩, x.lf.c1.sameBut hs (sn _).symm, hc, x.lf.c3.sameBut hs (sn _), x.lf.c4.sameBut hs (n20 _)⟩, x.out (r2 L) hs.extBut, x.zn, x.k⟩ hs.extBut
theorem SL.stt {v : Value} {Q : Unit → Shared → Prop} (x : SL H0 Z L l hv sv tv cv s.heap)
    (h : ∀ h', SL H0 Z L l hv sv (some v) cv h' → Heap.ExtBut (L + 1 + 1 + 1) s.heap h' → Q () { s with heap := h' }) : wpAny (model prog w) A (storeName (lenv pm L a) "table" v) Q E s := by
  obtain ⟨m, hm, hx⟩ := x.lf.ns
  refine wpAny_storeName_cell (l_fn pm L a).kind (by rfl) (l_table pm L a) x.lf.c3 fun h' hc hs => ?_
  exact h h' ⟨⟨⟨m, hm.sameBut hs (n30 L).symm, hx⟩, x.lf.c1.sameBut hs (n20 _).symm, x.lf.c2.sameBut hs (sn _).symm, hc, x.lf.c4.sameBut hs (sn _)⟩, x.out (r3 L) hs.extBut, x.zn, x.k⟩ hs.extBut
theorem SL.stc {v : Value} {Q : Unit → Shared → Prop} (x : SL H0 Z L l hv sv tv cv s.heap)
    (h : ∀ h', SL H0 Z L l hv sv tv (some v) h' → Heap.ExtBut (L + 1 + 1 + 1 + 1) s.heap h' → Q () { s with heap := h' }) : wpAny (model prog w) A (storeName (lenv pm L a) "cell" v) Q E s := by
  obtain ⟨m, hm, hx⟩ := x.lf.ns
  refine wpAny_storeName_cell (l_fn pm L a).kind (by rfl) (l_cell pm L a) x.lf.c4 fun h' hc hs => ?_
  exact h h' ⟨⟨⟨m, hm.sameBut hs (n40 L).symm, hx⟩, x.lf.c1.sameBut hs (n30 _).symm, x.lf.c2.sameBut hs (n20 _).symm, x.lf.c3.sameBut hs (sn _).symm, hc⟩, x.out (r4 L) hs.extBut, x.zn, x.k⟩ hs.extBut
end
end Mine
end

section -- LawB
set_option linter.unusedVariables false
namespace Mine
open PySem PyProof.Rows PySem.W PySem.Calls PySem.Spec
open Sem (wp)

section
variable {prog : Program} {w : World} {A : Around} {E : Value → Shared → Prop} {s : Shared} {H0 Z : Heap} {L a : Addr} {pm : Value} {l : List (Str × Value)} {hv sv tv cv : Option Value} {h : Heap}

/-- _law_cell(script, e) -/
theorem l_cellcall {e : Expr} {p1 p2 pos : Pos} {la : Addr} {ns : List Int} {k : Int} {Q : Value → Shared → Prop} (R : Roomy A) (ST : Stat H0) (FN : Fns H0) (x : SL H0 Z L l hv sv tv cv s.heap)
    (hscr : l.lookup (Str.ofString "script") = some (.ref la)) (hl : IL Z la ns) (hlen : ns.length ≤ 63) (h0 : 0 ≤ k) (h9 : k ≤ 10)
    (he : ∀ Q2 : Value → Shared → Prop, (∀ t t', Q2 (.int k t) { s with toks := t' }) → wpAny (model prog w) A (eval e (lenv pm L a)) Q2 E s)
    (hQ : ∀ c t h' t', 0 ≤ c → c ≤ 1000003 → s.heap.StaysIn h' → Q (.int c t) { s with heap := h', toks := t' })
    (ht : backTo pos (starEach [.Name (Str.ofString "script") p2, e] (lenv pm L a)) = [(false, eval (.Name (Str.ofString "script") p2) (lenv pm L a)), (false, eval e (lenv pm L a))] := by rfl) :
    wpAny (model prog w) A (eval (.Call (.Name "_law_cell" p1) [.Name "script" p2, e] [] pos) (lenv pm L a)) Q E s := by
  obtain ⟨o, pmc, ho, hd⟩ := (x.fns FN).f77
  refine f2 (l_fn pm L a) (x.stat ST) (by rfl) (fun _ _ N => N.cell) hd (x.nm hscr (he _ fun t t' => ⟨ho, ?_⟩)) ht
  refine law_cell (s := { s with toks := t' }) R (x.stat ST) (x.fns FN) (hl.keep x.z) hlen h0 h9 fun c t h' t' h1 h2 h3 => hQ c t h' t' h1 h2 h3

/-- the order of the nodes -/
def ordr (c sz : Int) : List Int := (List.range sz.toNat).map (fun i : Nat => ((i : Int) + c.fdiv 4).fmod sz)

theorem ordr_len (c sz : Int) : (ordr c sz).length = sz.toNat := by simp [ordr]
theorem ordr_mem {c sz : Int} (h2 : 2 ≤ sz) {e : Int} (he : e ∈ ordr c sz) : 0 ≤ e ∧ e < sz := by
  unfold ordr at he
  rw [List.mem_map] at he
  obtain ⟨i, _, rfl⟩ := he
  exact ⟨Int.fmod_nonneg_of_pos _ (by omega), Int.fmod_lt_of_pos _ (by omega)⟩
theorem ordr_nodup {c sz : Int} (h2 : 2 ≤ sz) : (ordr c sz).Nodup := by
  unfold ordr
  rw [List.nodup_iff_pairwise_ne, List.pairwise_map, List.pairwise_iff_getElem]
  intro i j hi hj hij e
  rw [List.length_range] at hi hj
  rw [List.getElem_range, List.getElem_range] at e
  rw [Int.fmod_eq_emod_of_nonneg _ (by omega), Int.fmod_eq_emod_of_nonneg _ (by omega)] at e
  have h3 := Int.emod_emod_of_dvd
  have : ((i : Int) + c.fdiv 4 - ((j : Int) + c.fdiv 4)) % sz = 0 := Int.emod_eq_emod_iff_emod_sub_eq_zero.mp e
  have h4 : (i : Int) + c.fdiv 4 - ((j : Int) + c.fdiv 4) = (i : Int) - j := by omega
  rw [h4] at this
  have h5 := Int.dvd_of_emod_eq_zero this
  obtain ⟨q, hq⟩ := h5
  have hjs : (j : Int) < sz := by omega
  rcases Int.lt_trichotomy q 0 with hq0 | hq0 | hq0
  · have : sz * q ≤ sz * (-1) := Int.mul_le_mul_of_nonneg_left (by omega) (by omega)
    omega
  · subst hq0; omega
  · have : sz * 1 ≤ sz * q := Int.mul_le_mul_of_nonneg_left (by omega) (by omega)
    omega

def lS (i : Nat) : Stmt := nthS (bodyOf 11) i

theorem l_seg01 {la : Addr} {ns : List Int} {Q : Flow → Shared → Prop} {rest : List Stmt} (R : Roomy A) (ST : Stat H0) (FN : Fns H0) (x : SL H0 Z L l hv sv tv cv s.heap)
    (hscr : l.lookup (Str.ofString "script") = some (.ref la)) (hl : IL Z la ns) (hlen : ns.length ≤ 63)
    (hQ : ∀ c t1 t2 h' t', 0 ≤ c → c ≤ 1000003 → SL H0 Z L l (some (.int c t1)) (some (.int (2 + c.fmod 4) t2)) tv cv h' → wpAny (model prog w) A (execs rest (lenv pm L a)) Q E { s with heap := h', toks := t' }) :
    wpAny (model prog w) A (execs (lS 0 :: lS 1 :: rest) (lenv pm L a)) Q E s := by
  refine wpAny_execs_cons ?_
  show wpAny _ _ (exec (.Assign [.Name _ _] _ _) _) _ _ _
  refine wpAny_Assign_Name (l_cellcall R ST FN x hscr hl hlen (by decide) (by decide) (fun Q2 h2 => wpAny_Constant_int (h2 _ _)) fun c t h' t' h1 h2 h3 => ?_)
  refine (x.stays h3).sth fun h4 x4 _ => ?_
  refine wpAny_execs_cons ?_
  show wpAny _ _ (exec (.Assign [.Name _ _] _ _) _) _ _ _
  refine wpAny_Assign_Name (wpAny_BinOp (wpAny_Constant_int (wpAny_BinOp (SL.nmh (s := { s with heap := h4, toks := t' + 1 }) x4 (wpAny_Constant_int (mod_int' (b := 4) (by decide) (add_int ?_)))))))
  refine SL.sts (s := { s with heap := h4, toks := _ }) x4 fun h5 x5 _ => ?_
  exact hQ c t _ h5 _ h1 h2 x5
end
end Mine
end

section -- LawC
set_option linter.unusedVariables false
namespace Mine
open PySem PyProof.Rows PySem.W PySem.Calls PySem.Spec
open Sem (wp)

theorem LF.ns_at {h : Heap} {L : Addr} {l : List (Str × Value)} {hv sv tv cv : Option Value} (x : LF h L l hv sv tv cv) : ∃ m, h.Ns L m := let ⟨m, a, _⟩ := x.ns; ⟨m, a⟩

theorem ints_paired {G : Int → Int → Prop} {vs : List Value} {is : List Int} {ys : List Value} {f : Int → Int} (hi : IntsAre vs is) (hp : Paired (fun v y => ∃ a t t', v = Value.int a t ∧ y = Value.int (f a) t') vs ys) : IntsAre ys (is.map f) := by
  induction hi generalizing ys with
  | nil => cases hp; exact .nil
  | cons a t r ih =>
    cases hp with
    | cons h1 h2 =>
      obtain ⟨a', t', t'', e, rfl⟩ := h1
      cases e
      exact .cons _ _ (ih h2)

section
variable {prog : Program} {w : World} {A : Around} {E : Value → Shared → Prop} {s : Shared} {H0 Z : Heap} {L a : Addr} {pm : Value} {l : List (Str × Value)} {hv sv tv cv : Option Value} {h : Heap}

theorem l_seg2 {c : Int} {n : Nat} {ta tb : Tok} {Q : Flow → Shared → Prop} (R : Roomy A) (ST : Stat H0) (x : SL H0 Z L l (some (.int c ta)) (some (.int n tb)) tv cv s.heap) (h0 : 0 ≤ c) (h1 : c ≤ 1000003) (h2 : 2 ≤ n) (h5 : n ≤ 5)
    (hQ : ∀ o h' t' Z', SL H0 Z' L ((Str.ofString "order", .ref o) :: l) (some (.int c ta)) (some (.int n tb)) tv cv h' → Z.StaysIn Z' → IL Z' o (ordr c n) → Q .next { s with heap := h', toks := t' }) :
    wpAny (model prog w) A (exec (lS 2) (lenv pm L a)) Q E s := by
  show wpAny _ _ (exec (.Assign [.Name _ _] (.ListComp _ [⟨.Name _ _, _, _, 0⟩] _ _) _) _) _ _ _
  refine wpAny_Assign_ListComp_free (cl := [(Str.ofString "size", L + 1 + 1), (Str.ofString "head", L + 1)]) (fun _ => true) (fun v y => ∃ i t t', v = Value.int i t ∧ y = Value.int ((i + c.fdiv 4).fmod n) t')
    (by rfl) (by rfl) (by decide) (by rfl) (by decide) (by rfl) (by rfl) (by rfl) ?_
  refine t1 (l_fn pm L a) (x.stat ST) (by rfl) (fun _ _ N => N.range) (x.nms ?_)
  refine r_range (by omega) fun I h4 t4 k4 hI0 hI => ?_
  have hI' : h4.get? I = some { cls := .type "range_iterator", dict := none, data := .fields #[rawInt 0, rawInt n, rawInt 1], slots := #[] } := hI
  have x4 := x.stays k4
  obtain ⟨m, hm, hmx⟩ := x4.lf.ns
  refine ⟨I, [I], [I], n, _, _, m, rfl, Walks.range R.hand I 0 1 n, by show _ ≤ 2 ^ 24; omega, by simpa using hI, fun b hb => ?_, fun hb => ?_, hm, ⟨fun C i v s3 m3 E3 hC hP hn4 hm4 hk4 _ => ?_, fun C i v s3 m3 E3 hC hP hpv hn4 hm4 hk4 _ => ?_⟩, fun D h5 t5 ys vs hD hlst hplain hvs hP hF hn5 hk5 => ?_⟩
  · rw [List.mem_singleton] at hb; rw [hb]; exact Heap.lt_size hI'
  · rw [List.mem_singleton] at hb
    obtain ⟨o, _, _, ho, hd, _⟩ := hm
    rw [show L = I from hb, hI'] at ho; cases ho; cases hd
  · exact wpAny_tests_nil ⟨rfl, s3.heap, s3.toks, rfl, fun _ _ e => e⟩
  · obtain ⟨t, rfl⟩ := hP
    have k3 : ∀ b, reg L b → ∀ o, h4.get? b = some o → s3.heap.get? b = some o := fun b r o e => hk4 b o (fun hb => by
      rw [List.mem_singleton] at hb
      rw [hb] at r e
      rcases x4.lf.kind r e with ⟨_, _, q⟩ | ⟨_, q⟩ <;> (rw [hI'] at e; cases e; cases q)) e
    have hc1 : s3.heap.IsCell (L + 1) (some (.int c ta)) := let ⟨o, ho, hd⟩ := x4.lf.c1; ⟨o, k3 _ (r1 L) _ ho, hd⟩
    have hc2 : s3.heap.IsCell (L + 1 + 1) (some (.int n tb)) := let ⟨o, ho, hd⟩ := x4.lf.c2; ⟨o, k3 _ (r2 L) _ ho, hd⟩
    have cf : InFn (compEnvC ⟨.function, [(Str.ofString ".0", .local), (Str.ofString "node", .local), (Str.ofString "head", .free), (Str.ofString "size", .free)], false, false, []⟩ [(Str.ofString "size", L + 1 + 1), (Str.ofString "head", L + 1)] C (lenv pm L a)) := ⟨rfl, rfl, rfl⟩
    refine wpAny_BinOp (wpAny_BinOp (nm_l cf hn4 (by rfl) hm4 (wpAny_BinOp (nm_c cf (by rfl) (by rfl) hc1 (wpAny_Constant_int (floordiv_int (b := 4) (by decide) (add_int ?_) (Or.inl (PyProof.noPylong_small (by omega)))))))))
    refine nm_c cf (by rfl) (by rfl) (s := { s3 with toks := _ }) hc2 (mod_int' (by omega) ?_)
    exact ⟨⟨_, _, _, rfl, rfl⟩, s3.heap, _, rfl, fun _ _ e => e⟩
  · have hints := range_ints hvs hP
    have hvf : vs.filter (fun _ => true) = vs := List.filter_eq_self.mpr fun _ _ => rfl
    rw [hvf] at hF
    have hys := ints_paired (G := fun _ _ => True) (f := fun i => (i + c.fdiv 4).fmod n) hints hF
    rw [List.map_map] at hys
    obtain ⟨n5, hplain⟩ := hplain
    have keep : ∀ b o, ¬ reg L b → s.heap.get? b = some o → h5.get? b = some o := fun b o r e => hk5 b o (fun q => r (.inl q)) (fun hb => by rw [List.mem_singleton] at hb; rw [hb, hI0] at e; cases e) (k4 _ _ e)
    have kc : ∀ b, reg L b → b ≠ L → ∀ o, h4.get? b = some o → h5.get? b = some o := fun b r hb o e => hk5 b o hb (fun hb' => by
      rw [List.mem_singleton] at hb'
      rw [hb'] at r e
      rcases x4.lf.kind r e with ⟨_, _, q⟩ | ⟨_, q⟩ <;> (rw [hI'] at e; cases e; cases q)) e
    have lf5 : LF h5 L ((Str.ofString "order", .ref D) :: l) (some (.int c ta)) (some (.int n tb)) tv cv := ⟨⟨_, hn5, fun n' v' hl => by
        rw [List.lookup_cons] at hl
        by_cases q : n' = Str.ofString "order"
        · subst q; simp at hl ⊢; exact hl
        · have : (n' == Str.ofString "order") = false := by simpa using q
          rw [this] at hl; simp only at hl
          rw [if_neg q]; exact hmx n' v' hl⟩,
      let ⟨o, ho, hd⟩ := x4.lf.c1; ⟨o, kc _ (r1 L) (sn L) _ ho, hd⟩, let ⟨o, ho, hd⟩ := x4.lf.c2; ⟨o, kc _ (r2 L) (n20 L) _ ho, hd⟩,
      let ⟨o, ho, hd⟩ := x4.lf.c3; ⟨o, kc _ (r3 L) (n30 L) _ ho, hd⟩, let ⟨o, ho, hd⟩ := x4.lf.c4; ⟨o, kc _ (r4 L) (n40 L) _ ho, hd⟩⟩
    have x5 : SL H0 Z L ((Str.ofString "order", .ref D) :: l) (some (.int c ta)) (some (.int n tb)) tv cv h5 := ⟨lf5, fun b o e => keep b o (fun r => by rw [x.zn b r] at e; cases e) (x.z b o e), x.zn, x.k⟩
    have hIL : IL h5 D (ordr c n) := ⟨ys.toList, n5, by rw [hplain], by
      have e : ordr c n = List.map ((fun i => (i + c.fdiv 4).fmod n) ∘ fun i : Nat => (i : Int)) (List.range n) := by unfold ordr; rw [Int.toNat_natCast]; rfl
      rw [e]; exact hys⟩
    exact hQ D h5 t5 _ x5.grow x5.grown (hIL.frz lf5)
end
end Mine
end

section -- LawD
set_option linter.unusedVariables false
namespace Mine
open PySem PyProof.Rows PySem.W PySem.Calls PySem.Spec
open Sem (wp)

def bitp (c e : Int) : Bool := decide ((c.fdiv (2 ^ e.toNat)).fmod 2 = 1)

theorem paired_eq {vs ys : List Value} (h : Paired (fun v y => v = y) vs ys) : ys = vs := by
  induction h with
  | nil => rfl
  | cons a b ih => rw [a, ih]
theorem ints_filter {vs : List Value} {ns : List Int} {f : Int → Bool} (h : IntsAre vs ns) : IntsAre (vs.filter fun v => isInts v f) (ns.filter f) := by
  induction h with
  | nil => exact .nil
  | cons a t r ih =>
    rw [List.filter_cons, List.filter_cons]
    cases hf : f a with
    | true => rw [if_pos (by show f a = true; exact hf), if_pos rfl]; exact .cons a t ih
    | false => rw [if_neg (by show ¬ f a = true; rw [hf]; exact Bool.false_ne_true), if_neg Bool.false_ne_true]; exact ih
theorem pow2_bound {e : Int} (h0 : 0 ≤ e) (h5 : e < 5) : (1 : Int) ≤ 2 ^ e.toNat ∧ (2 : Int) ^ e.toNat ≤ 16 := by
  have : e = 0 ∨ e = 1 ∨ e = 2 ∨ e = 3 ∨ e = 4 := by omega
  rcases this with rfl | rfl | rfl | rfl | rfl <;> decide

abbrev bScope : Scope := ⟨.function, [(Str.ofString ".0", .local), (Str.ofString "node", .local), (Str.ofString "cell", .free)], false, false, []⟩

section
variable {prog : Program} {w : World} {A : Around} {E : Value → Shared → Prop} {s : Shared} {H0 Z : Heap} {L a : Addr} {pm : Value} {l : List (Str × Value)} {hv sv tv cv : Option Value} {h : Heap}

/-- [node for node in .. if cell // 2 ** node % 2 == 1] -/
theorem l_bits {iter : Expr} {p1 p2 p3 p4 p5 p6 p7 p8 p9 px pe pos : Pos} {kd1 kd2 kd3 : Nat} {c : Int} {tc : Tok} {Q : Value → Shared → Prop} (R : Roomy A) (hc0 : 0 ≤ c) (hc1 : c ≤ 1000003)
    (h : wpAny (model prog w) A (eval iter (lenv pm L a)) (fun xv s₁ => ∃ la vs n0 ns, xv = .ref la ∧ s₁.heap.get? la = some (lob vs n0) ∧ IntsAre vs ns ∧ (∀ e ∈ ns, 0 ≤ e ∧ e < 5) ∧ ns.length ≤ 5 ∧
      s₁.heap.IsCell (L + 1 + 1 + 1 + 1) (some (.int c tc)) ∧
      ∀ D h' t, s₁.heap.StaysIn h' → s₁.heap.get? D = none → IL h' D (ns.filter (bitp c)) → Q (.ref D) { s₁ with heap := h', toks := t }) E s)
    (hs : ∀ x, foldedSetIterable iter (lenv pm L a) x = pure x := by intro _; rfl) :
    wpAny (model prog w) A (eval (.ListComp (.Name "node" pe) [⟨.Name "node" px, iter, [.Compare (.BinOp (.BinOp (.Name "cell" p1) .FloorDiv (.BinOp (.Constant (.int 2) kd1 p2) .Pow (.Name "node" p3) p4) p5) .Mod (.Constant (.int 2) kd2 p6) p7) [.Eq] [.Constant (.int 1) kd3 p8] p9], 0⟩] bScope pos) (lenv pm L a)) Q E s := by
  refine wpAny_ListComp_free (cl := [(Str.ofString "cell", L + 1 + 1 + 1 + 1)]) (fun v => isInts v (bitp c)) (fun v y => v = y) (by rfl) (by decide) (by rfl) (by decide) (by rfl) (wpAny_mono h (fun xv s₁ h₁ => ?_) fun _ _ e => e) hs
  obtain ⟨la, vs, n0, ns, rfl, hla, hi, hb, hlen, hcell, hQ⟩ := h₁
  have hvl := ia_len hi
  refine wpAny_pyIter_list ⟨_, hla, rfl, n0, rfl⟩ ?_
  have hI0 := get_size s₁.heap
  have hI1 : (s₁.heap.push { cls := .type "list_iterator", data := .fields #[.ref la, .int 0 0] }).get? s₁.heap.objs.size = some { cls := .type "list_iterator", data := .fields #[.ref la, .int 0 0] } := Heap.get?_push_size _ rfl
  have k1 : s₁.heap.StaysIn (s₁.heap.push { cls := .type "list_iterator", data := .fields #[.ref la, .int 0 0] }) := keep_push _
  dsimp only
  generalize s₁.heap.push { cls := .type "list_iterator", data := .fields #[.ref la, .int 0 0] } = H1 at *
  generalize s₁.heap.objs.size = I at *
  have hlI : la ≠ I := fun e => by rw [e, hI0] at hla; cases hla
  have hcI : L + 1 + 1 + 1 + 1 ≠ I := fun e => by obtain ⟨o, ho, _⟩ := hcell; rw [e, hI0] at ho; cases ho
  have hints : ∀ (i : Nat) v, vs.toArray[i]? = some v → ∃ e t, v = Value.int e t ∧ 0 ≤ e ∧ e < 5 := fun i v hv => by
    have hv' : vs[i]? = some v := by simpa using hv
    have hil : i < ns.length := by rw [← hvl]; exact (List.getElem?_eq_some_iff.mp hv').1
    obtain ⟨t, ht⟩ := ia_get hi (i := i) (a := ns[i]) (List.getElem?_eq_getElem hil)
    rw [ht] at hv'; cases hv'
    exact ⟨_, t, rfl, hb _ (List.getElem_mem _)⟩
  refine ⟨I, [I, la], [I], vs.toArray.size, _, _, rfl, Walks.list R.hand I la hlI vs.toArray, by show _ ≤ 2 ^ 24; simp; omega, ⟨⟨_, hI1, rfl, rfl⟩, ⟨_, k1 _ _ hla, rfl, n0, rfl⟩⟩, fun b hb => ?_, ⟨fun C i v s3 m3 E3 hC hP hn4 hm4 hk4 _ => ?_, fun C i v s3 m3 E3 hC hP hpv hn4 hm4 hk4 _ => ?_⟩, fun D h5 t5 ys us hD hlst hplain hvs hP hF hk5 => ?_⟩
  · simp only [List.mem_cons, List.not_mem_nil, or_false] at hb
    rcases hb with rfl | rfl
    · exact Heap.lt_size hI1
    · exact Heap.lt_size (k1 _ _ hla)
  · obtain ⟨e, t, rfl, he0, he5⟩ := hints i v hP
    have hcC : s3.heap.IsCell (L + 1 + 1 + 1 + 1) (some (.int c tc)) := let ⟨o, ho, hd⟩ := hcell; ⟨o, hk4 _ _ (fun q => by rw [List.mem_singleton] at q; exact hcI q) (k1 _ _ ho), hd⟩
    have cf : InFn (compEnvC bScope [(Str.ofString "cell", L + 1 + 1 + 1 + 1)] C (lenv pm L a)) := ⟨rfl, rfl, rfl⟩
    have hp2 := pow2_bound he0 he5
    refine wpAny_tests_one (wpAny_isTrue_Compare1 (wpAny_BinOp (wpAny_BinOp (nm_c cf (by rfl) (by rfl) hcC (wpAny_BinOp (wpAny_Constant_int (nm_l cf hn4 (by rfl) hm4 (pow_int_small he0 (by omega) (by decide) ?_))))))))
    refine floordiv_int (by omega) ?_ (Or.inl (PyProof.noPylong_small (by omega)))
    refine wpAny_Constant_int (mod_int' (b := 2) (by decide) (wpAny_Constant_int (eq_int (wpAny_truthy_bool ⟨?_, s3.heap, _, rfl, fun _ _ e => e⟩))))
    show _ = bitp c e
    unfold bitp
    by_cases q : (c.fdiv (2 ^ e.toNat)).fmod 2 = 1 <;> simp [q]
  · have cf : InFn (compEnvC bScope [(Str.ofString "cell", L + 1 + 1 + 1 + 1)] C (lenv pm L a)) := ⟨rfl, rfl, rfl⟩
    exact nm_l cf hn4 (by rfl) hm4 ⟨rfl, s3.heap, s3.toks, rfl, fun _ _ e => e⟩
  · have hus : us = vs := by
      apply List.ext_getElem?
      intro j
      cases e : us[j]? with
      | some v => have := hP j v e; simpa using this.symm
      | none =>
        have : vs.length ≤ j := by have := List.getElem?_eq_none_iff.mp e; simp at hvs; omega
        rw [List.getElem?_eq_none this]
    subst hus
    obtain ⟨n5, hplain⟩ := hplain
    have hy := paired_eq hF
    refine hQ D h5 t5 (fun b o e => hk5 b o (fun q => by rw [List.mem_singleton] at q; rw [q, hI0] at e; cases e) (k1 _ _ e)) (none_of_stays k1 hD) ⟨ys.toList, n5, by rw [hplain], ?_⟩
    rw [hy]
    exact ints_filter hi
end
end Mine
end

section -- LawE
set_option linter.unusedVariables false
namespace Mine
open PySem PyProof.Rows PySem.W PySem.Calls PySem.Spec
open Sem (wp)

theorem Fz.of_ext {h h' : Heap} {a : Addr} {o : Obj} (ho : h.get? a = some o) (hd : ∀ xs n, o.data ≠ .seq xs n) (k : Heap.ExtBut a h h') : Fz h h' := fun b o' e ⟨xs, n, q⟩ => k b o' (fun hh => by
  rw [hh, ho] at e; cases e; exact hd _ _ q) e
theorem Fz.of_reg {h h' : Heap} {L b : Addr} {l : List (Str × Value)} {hv sv tv cv : Option Value} (x : LF h L l hv sv tv cv) (r : reg L b) (k : Heap.ExtBut b h h') : Fz h h' := fun c o e ⟨xs, n, q⟩ => k c o (fun hh => by
  rw [hh] at e
  rcases x.kind r e with ⟨_, _, q'⟩ | ⟨_, q'⟩ <;> (rw [q] at q'; cases q')) e

theorem ia_take {vs : List Value} {ns : List Int} (h : IntsAre vs ns) (k : Nat) : IntsAre (vs.take k) (ns.take k) := by
  induction h generalizing k with
  | nil => simp; exact .nil
  | cons a t r ih =>
    cases k with
    | zero => exact .nil
    | succ k => exact .cons a t (ih k)

def RowsOk (h : Heap) (order : List Int) (kvs : List (Int × Value)) : Prop := ∀ kv ∈ kvs, ∃ r ns, kv.2 = Value.ref r ∧ IL h r ns ∧ ns.Nodup ∧ (∀ e ∈ ns, e ∈ order) ∧ ns.length ≤ 3
theorem RowsOk.fz {h h' : Heap} {order : List Int} {kvs : List (Int × Value)} (x : RowsOk h order kvs) (k : Fz h h') : RowsOk h' order kvs := fun kv hk => let ⟨r, ns, a, b, c⟩ := x kv hk; ⟨r, ns, a, b.fz k, c⟩

theorem SL.weak {H0 Z : Heap} {L : Addr} {l l' : List (Str × Value)} {hv sv tv cv : Option Value} {h : Heap} (x : SL H0 Z L l' hv sv tv cv h) (w : ∀ n v, l.lookup n = some v → l'.lookup n = some v) : SL H0 Z L l hv sv tv cv h :=
  ⟨⟨let ⟨m, a, b⟩ := x.lf.ns; ⟨m, a, fun n v hl => b n v (w n v hl)⟩, x.lf.c1, x.lf.c2, x.lf.c3, x.lf.c4⟩, x.z, x.zn, x.k⟩
theorem weak_cons {l : List (Str × Value)} {n0 : Str} {v0 : Value} (h : l.lookup n0 = none) : ∀ n v, l.lookup n = some v → ((n0, v0) :: l).lookup n = some v := fun n v hl => by
  rw [List.lookup_cons]
  by_cases q : n = n0
  · subst q; rw [h] at hl; cases hl
  · have : (n == n0) = false := by simpa using q
    rw [this]; exact hl

section
variable {prog : Program} {w : World} {A : Around} {E : Value → Shared → Prop} {s : Shared} {H0 Z : Heap} {L a : Addr} {pm : Value} {l : List (Str × Value)} {hv sv tv cv : Option Value} {h : Heap}

/-- another address outside has turned -/
theorem SL.ext (x : SL H0 Z L l hv sv tv cv h) {h' : Heap} {b : Addr} (hb : ¬ reg L b) (hz : Z.get? b = none) (k : Heap.ExtBut b h h') : SL H0 Z L l hv sv tv cv h' := by
  have ne : ∀ {c}, reg L c → c ≠ b := fun r e => hb (e ▸ r)
  refine ⟨⟨?_, ?_, ?_, ?_, ?_⟩, fun c o e => k c o (fun q => by rw [q, hz] at e; cases e) (x.z c o e), x.zn, x.k⟩
  · obtain ⟨m, a, b'⟩ := x.lf.ns; exact ⟨m, a.extBut k (ne (r0 L)), b'⟩
  · obtain ⟨o, ho, hd⟩ := x.lf.c1; exact ⟨o, k _ _ (ne (r1 L)) ho, hd⟩
  · obtain ⟨o, ho, hd⟩ := x.lf.c2; exact ⟨o, k _ _ (ne (r2 L)) ho, hd⟩
  · obtain ⟨o, ho, hd⟩ := x.lf.c3; exact ⟨o, k _ _ (ne (r3 L)) ho, hd⟩
  · obtain ⟨o, ho, hd⟩ := x.lf.c4; exact ⟨o, k _ _ (ne (r4 L)) ho, hd⟩
/-- what is not yet there is no frame's address -/
theorem SL.nreg (x : SL H0 Z L l hv sv tv cv h) {b : Addr} (e : h.get? b = none) : ¬ reg L b := fun r => by
  rcases r with rfl | rfl | rfl | rfl | rfl
  · obtain ⟨m, ⟨o, _, _, ho, _⟩, _⟩ := x.lf.ns; rw [ho] at e; cases e
  · obtain ⟨o, ho, _⟩ := x.lf.c1; rw [ho] at e; cases e
  · obtain ⟨o, ho, _⟩ := x.lf.c2; rw [ho] at e; cases e
  · obtain ⟨o, ho, _⟩ := x.lf.c3; rw [ho] at e; cases e
  · obtain ⟨o, ho, _⟩ := x.lf.c4; rw [ho] at e; cases e

def lFor4 : Stmt := lS 4

theorem l_row {order : List Int} {o T : Addr} {i : Nat} {ti : Tok} {c : Int} {tc : Tok} {kvs : List (Int × Value)} {Q : Flow → Shared → Prop} (R : Roomy A) (hc0 : 0 ≤ c) (hc1 : c ≤ 1000003)
    (x : SL H0 Z L l hv sv (some (.ref T)) (some (.int c tc)) s.heap) (ho : l.lookup (Str.ofString "order") = some (.ref o)) (hat : l.lookup (Str.ofString "at") = some (.int i ti))
    (hol : IL Z o order) (hob : ∀ e ∈ order, 0 ≤ e ∧ e < 5) (hon : order.Nodup) (hlen : order.length ≤ 5) (hi : i < order.length) (hT : ¬ reg L T) (hZT : Z.get? T = none)
    (hd : s.heap.DictOf (intKind prog w) T kvs) (hk : kvs.map (·.1) = order.take i) (hr : RowsOk s.heap order kvs)
    (hQ : ∀ h' t' kvs', SL H0 Z L l hv sv (some (.ref T)) (some (.int c tc)) h' → h'.DictOf (intKind prog w) T kvs' → kvs'.map (·.1) = order.take (i + 1) → RowsOk h' order kvs' → Heap.ExtBut T s.heap h' → Q .next { s with heap := h', toks := t' }) :
    wpAny (model prog w) A (exec (nthS (bodyS lFor4) 1) (lenv pm L a)) Q E s := by
  show wpAny _ _ (exec (.Assign [.Subscript _ _ _] (.Subscript (.ListComp _ [⟨.Name _ _, _, _, 0⟩] _ _) (.Slice none (some _) none _) _) _) _) _ _ _
  obtain ⟨vo, no, hoo, hoi⟩ := id hol
  have hvol := ia_len hoi
  refine wpAny_Assign_Subscript (ev_slice (l_bits (tc := tc) R hc0 hc1 (ev_rev (x.nm ho ⟨o, vo, no, rfl, x.z _ _ hoo, by omega, fun D1 h1 t1' k1 hD10 hD1 => ?_⟩))))
  have x1 := x.stays k1
  refine ⟨D1, vo.reverse, 0, order.reverse, rfl, hD1, ia_reverse hoi, fun e he => hob e (List.mem_reverse.mp he), by simpa using hlen, x1.lf.c4, fun D2 h2 t2' k2 hD20 hD2 => ?_⟩
  have x2 := x1.stays k2
  obtain ⟨v2, n2, hD2o, hD2i⟩ := hD2
  have hv2 : v2.length ≤ 5 := by rw [ia_len hD2i]; exact Nat.le_trans (List.length_filter_le _ _) (by simpa using hlen)
  refine wpAny_evalPart_none (wpAny_evalPart_some (wpAny_Constant_int ⟨D2, v2, n2, none, some 3, rfl, hD2o, by omega, .none, .int _ _, fun D3 h3 k3 hD30 hD3 => ?_⟩))
  have esl := slicePick_upto' v2.toArray 3
  rw [show ((3 : Nat) : Int) = 3 from rfl] at esl
  rw [esl] at hD3
  have x3 := x2.stays k3
  have kk : s.heap.StaysIn h3 := stays_trans k1 (stays_trans k2 k3)
  refine SL.nmt (s := { s with heap := h3, toks := _ }) x3 (Subscript_Name (SL.nm (s := { s with heap := h3, toks := _ }) x3 ho (SL.nm (s := { s with heap := h3, toks := _ }) x3 hat ⟨"list", _, slot_list_getitem.lookup, ⟨_, x3.z _ _ hoo, rfl⟩, ?_⟩)))
  obtain ⟨tx, htx⟩ := ia_get hoi (i := i) (a := order[i]) (List.getElem?_eq_getElem hi)
  refine wpAny_getItem_list (items := vo.toArray) ⟨_, x3.z _ _ hoo, rfl, no, rfl⟩ (by omega) (by omega) (x := .int order[i] tx) (by simpa using htx) ?_
  have hd3 : h3.DictOf (intKind prog w) T kvs := hd.keep kk
  have hkl : kvs.length ≤ 5 := by have := congrArg List.length hk; simp at this; omega
  refine wpAny_setItem_pairs (s := { s with heap := h3, toks := _ }) (intKind_is prog w order[i] tx) hd3 (fun h4 hd4 hs4 => ?_) (by show _ ≤ 2 ^ 24; omega)
  have hnk : order[i] ∉ kvs.map (·.1) := by
    rw [hk]
    intro hm
    obtain ⟨j, hj, e⟩ := List.mem_iff_getElem.mp hm
    rw [List.getElem_take] at e
    rw [List.length_take] at hj
    exact absurd ((List.getElem_inj hon).mp e) (by omega)
  rw [stored_new hnk] at hd4
  have hTo : ∃ oT, h3.get? T = some oT ∧ ∀ xs n, oT.data ≠ .seq xs n := by
    obtain ⟨oT, _, _, h1, _, h2, _⟩ := hd3
    exact ⟨oT, h1, fun xs n q => by rw [h2] at q; cases q⟩
  obtain ⟨oT, hTo, hTd⟩ := hTo
  have fz : Fz h3 h4 := Fz.of_ext hTo hTd hs4.extBut
  refine hQ h4 _ (kvs ++ [(order[i], .ref D3)]) (x3.ext hT hZT hs4.extBut) hd4 ?_ ?_ (fun b ob hb e => hs4.extBut b ob hb (kk _ _ e))
  · rw [List.map_append, hk, List.take_add_one, List.getElem?_eq_getElem hi]; rfl
  · intro kv hkv
    rw [List.mem_append, List.mem_singleton] at hkv
    rcases hkv with hkv | rfl
    · exact (hr.fz (Fz.of_stays kk)).fz fz kv hkv
    · refine ⟨D3, (order.reverse.filter (bitp c)).take 3, rfl, ?_, ?_, fun e he => ?_, by rw [List.length_take]; omega⟩
      · refine IL.fz ⟨v2.take 3, 0, ?_, ia_take hD2i 3⟩ fz
        simpa using hD3
      · have hrev : order.reverse.Nodup := by unfold List.Nodup at hon ⊢; rw [List.pairwise_reverse]; exact hon.imp fun h => h.symm
        exact (hrev.filter _).sublist (List.take_sublist _ _)
      · exact List.mem_reverse.mp (List.mem_filter.mp (List.mem_of_mem_take he)).1
end
end Mine
end

section -- LawF
set_option linter.unusedVariables false
namespace Mine
open PySem PyProof.Rows PySem.W PySem.Calls PySem.Spec
open Sem (wp)

section
variable {prog : Program} {w : World} {A : Around} {E : Value → Shared → Prop} {s : Shared} {H0 Z : Heap} {L a : Addr} {pm : Value} {l : List (Str × Value)} {hv sv tv cv : Option Value} {h : Heap}

theorem l_seg34 {order : List Int} {o la : Addr} {ns : List Int} {n : Nat} {tb : Tok} {rest : List Stmt} {Q : Flow → Shared → Prop} (R : Roomy A) (ST : Stat H0) (FN : Fns H0)
    (x : SL H0 Z L l hv (some (.int n tb)) tv cv s.heap) (ho : l.lookup (Str.ofString "order") = some (.ref o)) (hscr : l.lookup (Str.ofString "script") = some (.ref la)) (hat : l.lookup (Str.ofString "at") = none)
    (hol : IL Z o order) (hob : ∀ e ∈ order, 0 ≤ e ∧ e < 5) (hon : order.Nodup) (hlen : order.length = n) (hn5 : n ≤ 5) (hla : IL Z la ns) (hns : ns.length ≤ 63)
    (hQ : ∀ T h' t' kvs cv', SL H0 Z L l hv (some (.int n tb)) (some (.ref T)) cv' h' → ¬ reg L T → Z.get? T = none → (T == sysModules) = false → h'.DictOf (intKind prog w) T kvs → kvs.map (·.1) = order → RowsOk h' order kvs →
      wpAny (model prog w) A (execs rest (lenv pm L a)) Q E { s with heap := h', toks := t' }) :
    wpAny (model prog w) A (execs (lS 3 :: lS 4 :: rest) (lenv pm L a)) Q E s := by
  refine wpAny_execs_cons ?_
  show wpAny _ _ (exec (.Assign [.Name _ _] _ _) _) _ _ _
  refine wpAny_Assign_Name (wpAny_Dict_empty ?_)
  have hT0 := get_size s.heap
  have hTd := Heap.DictOf.new (knd := intKind prog w) s.heap
  have x1 := x.push { cls := .type "dict", data := .dict #[] }
  have hTs : (s.heap.objs.size == sysModules) = false := by
    obtain ⟨mg, mb, ⟨o3, e3, p3', ho3, _⟩, _⟩ := (x.stat ST).names
    exact beq_eq_false_iff_ne.mpr (Nat.ne_of_gt (Nat.lt_trans (by decide : sysModules < 3) (Heap.lt_size ho3)))
  generalize hTe : s.heap.objs.size = T at *
  have hTr : ¬ reg L T := x.nreg hT0
  have hTZ : Z.get? T = none := none_of_stays x.z hT0
  refine SL.stt (s := { s with heap := _ }) x1 fun h2 x2 e2 => ?_
  have hTd2 : h2.DictOf (intKind prog w) T [] := hTd.extBut e2 (fun q => hTr (q ▸ r3 L))
  refine wpAny_execs_cons ?_
  show wpAny _ _ (exec (.For (.Name _ _) (.Call (.Name _ _) [.Name _ _] [] _) (bodyS lFor4) [] _) _) _ _ _
  refine wpAny_For (t1 (l_fn pm L a) (x2.stat ST) (by rfl) (fun _ _ N => N.range) (SL.nms (s := { s with heap := h2 }) x2 ?_))
  refine r_range (s := { s with heap := h2 }) (by omega) fun I h3 t3 k3 hI0 hI => ?_
  have x3 := x2.stays k3
  have hIr : ¬ reg L I := x2.nreg hI0
  have hIZ : Z.get? I = none := none_of_stays x2.z hI0
  have hTd3 : h3.DictOf (intKind prog w) T [] := hTd2.keep k3
  have hIT : I ≠ T := fun q => by
    obtain ⟨oT, _, _, h1, _⟩ := hTd2
    rw [← q, show h2.get? I = none from hI0] at h1; cases h1
  refine codeAny_forLoop (fun k s' => ∃ i : Nat, ∃ h' t' cv' kvs, k = n - i ∧ i ≤ n ∧ s' = { s with heap := h', toks := t' } ∧ SL H0 Z L l hv (some (.int n tb)) (some (.ref T)) cv' h' ∧
    IsRangeIter h' I i ((n : Int) - i) 1 ∧ h'.DictOf (intKind prog w) T kvs ∧ kvs.map (·.1) = order.take i ∧ RowsOk h' order kvs) (fun k s' hI' => ?_) n
    ⟨0, h3, t3, _, [], by omega, by omega, rfl, x3, by simpa using hI, hTd3, by simp, fun kv hkv => nomatch hkv⟩
  obtain ⟨i, h4, t4, cv4, kvs, rfl, hin, rfl, x4, hit, hd4, hk4, hr4⟩ := hI'
  have hito : h4.get? I = some { cls := .type "range_iterator", dict := none, data := .fields #[rawInt i, rawInt ((n : Int) - i), rawInt 1], slots := #[] } := hit
  rcases Nat.lt_or_ge i n with hlt | hge
  · refine wpAny_pyNext_range_item (s := { s with heap := h4, toks := t4 }) hit (by omega) fun h5 hit5 hs5 => ?_
    have fz5 : Fz h4 h5 := Fz.of_ext hito (fun xs n q => by cases q) hs5.extBut
    have x5 := x4.ext hIr hIZ hs5.extBut
    have hd5 := hd4.extBut hs5.extBut hIT.symm
    refine wpAny_assign_Name (SL.st (s := { s with heap := h5, toks := t4 + 1 }) x5 fun h6 t6 x6 e6 => ?_)
    have fz6 : Fz h5 h6 := Fz.of_reg x5.lf (r0 L) e6
    have hd6 := hd5.extBut e6 (fun q => hTr (q ▸ r0 L))
    have hit6 : IsRangeIter h6 I (i + 1) ((n : Int) - i - 1) 1 := e6 _ _ (fun q => hIr (q ▸ r0 L)) hit5
    show wpAny _ _ (execs [.Assign [.Name _ _] _ _, nthS (bodyS lFor4) 1] _) _ _ _
    refine wpAny_execs_cons (wpAny_Assign_Name (l_cellcall (s := { s with heap := h6, toks := t6 }) (k := (i : Int) + 1) R ST FN x6 (weak_cons hat _ _ hscr) hla hns (by omega) (by omega)
      (fun Q2 h2' => wpAny_BinOp (SL.nm (s := { s with heap := h6, toks := t6 }) x6 (v := .int (i : Int) t4) (by rfl) (wpAny_Constant_int (add_int (h2' _ _))))) fun c tc h7 t7 hc0 hc1 k7 => ?_))
    have x7 := x6.stays k7
    refine SL.stc (s := { s with heap := h7, toks := t7 }) x7 fun h8 x8 e8 => ?_
    have fz8 : Fz h7 h8 := Fz.of_reg x7.lf (r4 L) e8
    have hd8 : h8.DictOf (intKind prog w) T kvs := (hd6.keep k7).extBut e8 (fun q => hTr (q ▸ r4 L))
    have hit8 : IsRangeIter h8 I (i + 1) ((n : Int) - i - 1) 1 := e8 _ _ (fun q => hIr (q ▸ r4 L)) (k7 _ _ hit6)
    refine wpAny_execs_cons (l_row (s := { s with heap := h8, toks := t7 }) (i := i) R hc0 hc1 x8 (weak_cons hat _ _ ho) (by rfl) hol hob hon (by omega) (by omega) hTr hTZ hd8 hk4 ((((hr4.fz fz5).fz fz6).fz (Fz.of_stays k7)).fz fz8) fun h9 t9 kvs9 x9 hd9 hk9 hr9 e9 => ?_)
    refine wpAny_execs_nil ⟨n - (i + 1), by omega, i + 1, h9, t9, _, kvs9, rfl, by omega, rfl, x9.weak (weak_cons hat), ?_, hd9, hk9, hr9⟩
    have e1 : ((i + 1 : Nat) : Int) = (i : Int) + 1 := by omega
    have e2 : (n : Int) - ((i + 1 : Nat) : Int) = (n : Int) - i - 1 := by omega
    rw [e2, e1]
    exact e9 _ _ hIT hit8
  · have hin' : i = n := by omega
    subst hin'
    refine wpAny_pyNext_range_end (s := { s with heap := h4, toks := t4 }) R.hand hit (by omega) fun h5 hs5 => ?_
    have fz5 : Fz h4 h5 := Fz.of_ext hito (fun xs n q => by cases q) hs5
    refine wpAny_execs_nil ?_
    refine hQ T h5 t4 kvs cv4 (x4.ext hIr hIZ hs5) hTr hTZ hTs (hd4.extBut hs5 hIT.symm) ?_ (hr4.fz fz5)
    rw [hk4, ← hlen, List.take_length]
end
end Mine
end

section -- LawG
set_option linter.unusedVariables false
namespace Mine
open PySem PyProof.Rows PySem.W PySem.Calls PySem.Spec
open Sem (wp)

/-- all that lies outside the law's frame stays -/
def KR (L : Addr) (h h' : Heap) : Prop := ∀ b o, ¬ reg L b → h.get? b = some o → h'.get? b = some o
theorem KR.refl (L : Addr) (h : Heap) : KR L h h := fun _ _ _ e => e
theorem KR.of_stays {L : Addr} {h h' : Heap} (k : h.StaysIn h') : KR L h h' := fun b o _ e => k b o e
theorem KR.of_ext {L b : Addr} {h h' : Heap} (r : reg L b) (k : Heap.ExtBut b h h') : KR L h h' := fun c o hc e => k c o (fun q => hc (q ▸ r)) e
theorem KR.trans {L : Addr} {h h' h'' : Heap} (x : KR L h h') (y : KR L h' h'') : KR L h h'' := fun b o hb e => y b o hb (x b o hb e)
theorem KR.fz {L : Addr} {h h' : Heap} {l : List (Str × Value)} {hv sv tv cv : Option Value} (x : KR L h h') (f : LF h L l hv sv tv cv) : Fz h h' := fun c o e ⟨xs, n, q⟩ => x c o (fun r => by
  rcases f.kind r e with ⟨_, _, q'⟩ | ⟨_, q'⟩ <;> (rw [q] at q'; cases q')) e
theorem KR.dict {prog : Program} {w : World} {L T : Addr} {h h' : Heap} {kvs : List (Int × Value)} (x : KR L h h') (hT : ¬ reg L T) (d : h.DictOf (intKind prog w) T kvs) : h'.DictOf (intKind prog w) T kvs :=
  let ⟨o, es, ep, h1, h2⟩ := d; ⟨o, es, ep, x T o hT h1, h2⟩

section
variable {prog : Program} {w : World} {A : Around} {E : Value → Shared → Prop} {s : Shared} {H0 Z : Heap} {L a : Addr} {pm : Value} {l : List (Str × Value)} {hv sv tv cv : Option Value} {h : Heap}

theorem l_seg5 {la : Addr} {ns : List Int} {Q : Flow → Shared → Prop} {rest : List Stmt} (R : Roomy A) (ST : Stat H0) (FN : Fns H0) (x : SL H0 Z L l hv sv tv cv s.heap)
    (hscr : l.lookup (Str.ofString "script") = some (.ref la)) (hl : IL Z la ns) (hlen : ns.length ≤ 63)
    (hQ : ∀ c t1 h' t', 0 ≤ c → c ≤ 1000003 → SL H0 Z L l hv sv tv (some (.int c t1)) h' → KR L s.heap h' → wpAny (model prog w) A (execs rest (lenv pm L a)) Q E { s with heap := h', toks := t' }) :
    wpAny (model prog w) A (execs (lS 5 :: rest) (lenv pm L a)) Q E s := by
  refine wpAny_execs_cons ?_
  show wpAny _ _ (exec (.Assign [.Name _ _] _ _) _) _ _ _
  refine wpAny_Assign_Name (l_cellcall R ST FN x hscr hl hlen (k := 6) (by decide) (by decide) (fun Q2 h2 => wpAny_Constant_int (h2 _ _)) fun c t h' t' h1 h2 h3 => ?_)
  refine (x.stays h3).stc fun h4 x4 e4 => ?_
  exact hQ c t h4 t' h1 h2 x4 ((KR.of_stays h3).trans (KR.of_ext (r4 L) e4))

theorem l_seg6 {order : List Int} {o : Addr} {c : Int} {tc : Tok} {Q : Flow → Shared → Prop} {rest : List Stmt} (R : Roomy A) (x : SL H0 Z L l hv sv tv (some (.int c tc)) s.heap)
    (ho : l.lookup (Str.ofString "order") = some (.ref o)) (hol : IL Z o order) (hob : ∀ e ∈ order, 0 ≤ e ∧ e < 5) (hon : order.Nodup) (hlen : order.length ≤ 5) (hc0 : 0 ≤ c) (hc1 : c ≤ 1000003)
    (hQ : ∀ st sl h' t' Z', SL H0 Z' L ((Str.ofString "starts", .ref sl) :: l) hv sv tv (some (.int c tc)) h' → Z.StaysIn Z' → IL Z' sl st → (∀ e ∈ st, e ∈ order) → st.Nodup → KR L s.heap h' →
      wpAny (model prog w) A (execs rest (lenv pm L a)) Q E { s with heap := h', toks := t' }) :
    wpAny (model prog w) A (execs (lS 6 :: rest) (lenv pm L a)) Q E s := by
  refine wpAny_execs_cons ?_
  show wpAny _ _ (exec (.Assign [.Name _ _] (.BoolOp .Or [.ListComp _ [⟨.Name _ _, _, _, 0⟩] _ _, .Subscript _ (.Slice none (some _) none _) _] _) _) _) _ _ _
  obtain ⟨vo, no, hoo, hoi⟩ := id hol
  have hvol := ia_len hoi
  have fin : ∀ (sl : Addr) (st : List Int) (h1 : Heap) (tk : Nat), s.heap.StaysIn h1 → IL h1 sl st → (∀ e ∈ st, e ∈ order) → st.Nodup →
      wpAny (model prog w) A (storeName (lenv pm L a) "starts" (.ref sl)) (fun _ s' => wpAny (model prog w) A (execs rest (lenv pm L a)) Q E s') E { s with heap := h1, toks := tk } := fun sl st h1 tk k1 hsl hs1 hs2 => by
    have x1 := x.stays k1
    refine SL.st (s := { s with heap := h1, toks := tk }) x1 fun h2 t2 x2 e2 => ?_
    have fz : Fz h1 h2 := Fz.of_reg x1.lf (r0 L) e2
    exact hQ st sl h2 t2 _ x2.grow x2.grown ((hsl.fz fz).frz x2.lf) hs1 hs2 ((KR.of_stays k1).trans (KR.of_ext (r0 L) e2))
  refine wpAny_Assign_Name (wpAny_Or2 (l_bits (tc := tc) R hc0 hc1 (x.nm ho ⟨o, vo, no, order, rfl, x.z _ _ hoo, hoi, hob, hlen, x.lf.c4, fun D h1 t1' k1 hD0 hD => ?_⟩)))
  obtain ⟨vD, nD, hDo, hDi⟩ := id hD
  have hDl := ia_len hDi
  have hle : (order.filter (bitp c)).length ≤ 5 := Nat.le_trans (List.length_filter_le _ _) hlen
  refine wpAny_truthy_list (s := { s with heap := h1, toks := t1' }) (items := vD.toArray) ⟨_, hDo, rfl, nD, rfl⟩ (by simp; omega) ?_
  by_cases he : vD = []
  · subst he
    rw [if_neg (by simp)]
    have x1 := x.stays k1
    refine ev_slice (SL.nm (s := { s with heap := h1, toks := _ }) x1 ho (wpAny_evalPart_none (wpAny_evalPart_some (wpAny_Constant_int ⟨o, vo, no, none, some 1, rfl, x1.z _ _ hoo, by omega, .none, .int _ _, fun D3 h3 k3 hD30 hD3 => ?_⟩))))
    have esl := slicePick_upto' vo.toArray 1
    rw [show ((1 : Nat) : Int) = 1 from rfl] at esl
    rw [esl] at hD3
    refine fin D3 (order.take 1) h3 _ (stays_trans k1 k3) ⟨vo.take 1, 0, by simpa using hD3, ia_take hoi 1⟩ (fun e he => List.mem_of_mem_take he) (hon.sublist (List.take_sublist _ _))
  · rw [if_pos (by simpa using he)]
    exact fin D _ h1 _ k1 hD (fun e he => (List.mem_filter.mp he).1) (hon.filter _)
end
end Mine
end

section -- SetC
set_option linter.unusedVariables false
namespace Mine
open PySem PyProof.Rows PySem.W PySem.Calls PySem.Spec
open Sem (wp)

def folI (st : List Int) : List Int := st.foldl (fun acc k => insI k acc) []
theorem folI_snoc (st : List Int) (k : Int) : folI (st ++ [k]) = insI k (folI st) := by unfold folI; rw [List.foldl_append]; rfl

theorem folI_facts {st : List Int} (hn : st.Nodup) (h5 : ∀ e ∈ st, e ∈ [(0 : Int), 1, 2, 3, 4]) : ∀ i, i ≤ st.length → folI (st.take i) ∈ subs ∧ ∀ x, x ∈ folI (st.take i) ↔ x ∈ st.take i
  | 0, _ => ⟨by rw [List.take_zero]; decide, fun x => by rw [List.take_zero]; rfl⟩
  | i + 1, hi => by
    obtain ⟨a1, a2⟩ := folI_facts hn h5 i (by omega)
    have hlt : i < st.length := hi
    have hni : st[i] ∉ st.take i := fun h => by
      obtain ⟨j, hj, e⟩ := List.mem_iff_getElem.mp h
      rw [List.getElem_take] at e
      rw [List.length_take] at hj
      have := (List.getElem_inj hn).mp e
      omega
    have hnf : st[i] ∉ folI (st.take i) := fun h => hni ((a2 _).mp h)
    rw [List.take_add_one, List.getElem?_eq_getElem hlt]
    show folI (st.take i ++ [st[i]]) ∈ subs ∧ _
    rw [folI_snoc]
    refine ⟨(put_facts true _ a1 _ (h5 _ (List.getElem_mem _)) hnf).2.2.1, fun x => ?_⟩
    show x ∈ folI (st.take i ++ [st[i]]) ↔ x ∈ st.take i ++ [st[i]]
    rw [folI_snoc, ins_mem hnf, a2, List.mem_append, List.mem_singleton]
    exact Or.comm

theorem SetS.keep {led : Bool} {h h' : Heap} {a : Addr} {hs : List Int} (x : SetS led h a hs) (k : ∀ o, h.get? a = some o → h'.get? a = some o) : SetS led h' a hs :=
  let ⟨es, ep, ho, r⟩ := x; ⟨es, ep, k _ ho, r⟩

section
variable {prog : Program} {w : World} {A : Around} {s : Shared} {S I l : Addr} {led : Bool} {R : Result → Shared → Prop}

theorem set_loop {vs : List Value} {n : Nat} {st : List Int} (hh : A.handled = none) (hi : IntsAre vs st) (hn : st.Nodup) (h5 : ∀ e ∈ st, e ∈ [(0 : Int), 1, 2, 3, 4]) (hSI : S ≠ I) (hSl : S ≠ l) (hIl : I ≠ l) :
    ∀ (k i : Nat) (s : Shared), i + k = st.length → s.heap.get? l = some (lob vs n) → s.heap.IsListIter I l i → SetS led s.heap S (folI (st.take i)) →
      (∀ h' tk, SetS led h' S (folI st) → (∀ b o, b ≠ S → b ≠ I → s.heap.get? b = some o → h'.get? b = some o) → R (.ok (.ret .none)) { s with heap := h', toks := tk }) →
      codeAny (model prog w) A (.builtin "set.update.loop" ⟨[.ref S, .ref I], []⟩) R s := by
  have hvl := ia_len hi
  intro k
  induction k with
  | zero =>
    intro i s hk hl hit hS hR
    refine codeAny_builtin F.entry_set_update_loop ?_
    rw [Around.under_plainId F.plain_set_update_loop _]
    show wpAny _ A.in1 (pyNext (.ref I) >>= _) _ _ s
    refine wpAny_bind (wpAny_pyNext_list_end (by exact hh) hit ⟨_, hl, rfl, n, rfl⟩ (by simp; omega) fun h' hs' => ?_)
    rw [List.take_of_length_le (by omega)] at hS
    exact wpAny_pure (hR h' s.toks (hS.keep fun o e => hs' _ _ hSI e) fun b o _ h2 e => hs' _ _ h2 e)
  | succ k ih =>
    intro i s hk hl hit hS hR
    have hlt : i < st.length := by omega
    obtain ⟨a1, a2⟩ := folI_facts hn h5 i (by omega)
    obtain ⟨tx, htx⟩ := ia_get hi (i := i) (a := st[i]) (List.getElem?_eq_getElem hlt)
    refine codeAny_builtin F.entry_set_update_loop ?_
    rw [Around.under_plainId F.plain_set_update_loop _]
    show wpAny _ A.in1 (pyNext (.ref I) >>= _) _ _ s
    refine wpAny_bind (wpAny_pyNext_list_item hit ⟨_, hl, rfl, n, rfl⟩ (x := .int st[i] tx) (by simpa using htx) fun h1 hit1 hs1 => ?_)
    show wpAny _ A.in1 (holding [Value.int st[i] tx] (setAdd S (.int st[i] tx)) >>= _) _ _ _
    refine wpAny_bind (wpAny_holding ?_)
    unfold setAdd
    refine wpAny_holding ?_
    refine wpAny_bind ((intKind prog w).pyHash (k := st[i]) (intKind_is _ _ _ _) ?_)
    have hni : st[i] ∉ folI (st.take i) := fun h => by
      obtain ⟨j, hj, e⟩ := List.mem_iff_getElem.mp ((a2 _).mp h)
      rw [List.getElem_take] at e
      rw [List.length_take] at hj
      have := (List.getElem_inj hn).mp e
      omega
    refine SetS.add (s := { s with heap := h1, toks := s.toks + 1 }) (led := led) (hS.keep fun o e => hs1.extBut _ _ hSI e) a1 (h5 _ (List.getElem_mem _)) hni fun h2 hs2 hS2 => ?_
    refine wpAny_pure ⟨plainId_quiet F.plain_set_update_loop _, ih (i + 1) _ (by omega) (hs2.extBut _ _ hSl.symm (hs1.extBut _ _ hIl.symm hl)) ?_ ?_ fun h' tk hS' hk' => ?_⟩
    · obtain ⟨o, ho, r⟩ := hit1
      exact ⟨o, hs2.extBut _ _ hSI.symm ho, r⟩
    · have e : st.take (i + 1) = st.take i ++ [st[i]] := by rw [List.take_add_one, List.getElem?_eq_getElem hlt]; rfl
      rw [e, folI_snoc]; exact hS2
    · exact hR h' tk hS' fun b o q1 q2 e => hk' b o q1 q2 (hs2.extBut _ _ q1 (hs1.extBut _ _ q2 e))
end
end Mine
end

section -- SetD
set_option linter.unusedVariables false
set_option maxRecDepth 100000
namespace Mine
open PySem PyProof.Rows PySem.W PySem.Calls PySem.Spec
open Sem (wp)
section
variable {prog : Program} {w : World} {A : Around} {E : Value → Shared → Prop} {s : Shared}

/-- set.__new__: the table is led where the order is not by text -/
theorem code_set_newS (a : Value) {Q₁ : Value → Shared → Prop}
    (h : Q₁ (.ref s.heap.objs.size) { s with heap := s.heap.push { cls := .type "set", dict := none, data := .set #[] 0 (.fresh 0 0 (!w.params.followText "set-order")) } }) :
    codeAny (model prog w) A (.call (.builtin "set.__new__") ⟨[.type "set", a], []⟩) (wants Q₁ E) s := by
  refine codeAny_of_tree ?_
  show wpAny _ A.in1 (do checkBuiltinCall "set.__new__" ⟨[.type "set", a], []⟩; again (.builtin "set.__new__" ⟨[.type "set", a], []⟩)) _ _ s
  refine wpAny_bind (wpAny_of_eq (PySem.F.newCall_set_1 a) (wpAny_pure ⟨plainId_quiet F.plain_set_new _, codeAny_builtin F.entry_set_new ?_⟩))
  rw [Around.under_plainId F.plain_set_new _]
  have hsub := sub_set_self
  unfold Builtin.«set.__new__» Builtin.Frozenset.newClass
  obtain ⟨hp, g, d, tk, os⟩ := s
  dsimp only
  wp_walk
  refine wpAny_askSetting (wpAny_pure ?_)
  dsimp only
  simp only [newObj]
  refine wpAny_bind (wpAny_alloc (wpAny_pure ?_))
  exact wpAny_pure h

set_option maxHeartbeats 6400000 in
theorem call_setS {l : Addr} {vs : List Value} {n : Nat} {st : List Int} {Q : Value → Shared → Prop} (hh : A.handled = none) (hl : s.heap.get? l = some (lob vs n)) (hi : IntsAre vs st) (hn : st.Nodup) (h5 : ∀ e ∈ st, e ∈ [(0 : Int), 1, 2, 3, 4])
    (h : ∀ D h' tk, s.heap.get? D = none → s.heap.StaysIn h' → SetS (!w.params.followText "set-order") h' D (folI st) → Q (.ref D) { s with heap := h', toks := tk }) :
    wpAny (model prog w) A (call (.type "set") [.ref l]) Q E s := by
  obtain ⟨c, tl, hmro⟩ := F.called_set.mro
  have hmade := F.called_set.made
  have hsub := F.called_set.sub
  have hD0 := get_size s.heap
  refine wpAny_call (codeAny_of_tree ?_)
  show wpAny _ _ (callAny (.type "set") _) _ _ _
  refine wpAny_pure ⟨Code.quiet_builtin _ (by decide +kernel), codeAny_builtin F.entry_type_call ?_⟩
  rw [Around.under_plain (weight_type_call_type "set" [.ref l] []) rfl]
  have h1 := F.called_set.notType
  have h2 := F.called_set.canCreate
  have hct := PySem.F.typeCall_set_1 (.ref l)
  repeat (any_goals (first | assumption | wp_step))
  refine codeAny_mono (code_set_newS (.ref l) (E := E) (Q₁ := fun obj s₁ => obj = .ref s.heap.objs.size ∧ s₁ = { s with heap := s.heap.push { cls := .type "set", dict := none, data := .set #[] 0 (.fresh 0 0 (!w.params.followText "set-order")) } }) ⟨rfl, rfl⟩) fun r s₁ hr => ?_
  cases r with
  | error e => exact hr
  | ok fl =>
    cases fl with
    | ret obj =>
      obtain ⟨rfl, rfl⟩ := hr
      have hS := Heap.get?_push_size s.heap (o := { cls := .type "set", dict := none, data := .set #[] 0 (.fresh 0 0 (!w.params.followText "set-order")) }) rfl
      have k1 : s.heap.StaysIn (s.heap.push { cls := .type "set", dict := none, data := .set #[] 0 (.fresh 0 0 (!w.params.followText "set-order")) }) := keep_push _
      generalize s.heap.push { cls := .type "set", dict := none, data := .set #[] 0 (.fresh 0 0 (!w.params.followText "set-order")) } = H1 at *
      generalize s.heap.objs.size = D at *
      have hT : Shared.TypeIs { s with heap := H1 } (.ref D) "set" := ⟨_, hS, rfl⟩
      have hli := F.called_set.init.lookup
      have hbi := F.called_set.init.bind (.ref D)
      repeat (any_goals (first | assumption | wp_step))
      refine codeAny_mono (codeAny_call_builtin (R := wants (fun r s₂ => r = .none ∧ Q (.ref D) s₂) E) F.called_set.init.plain F.entry_set_init (check_set_init_1 hT ?_)) fun r₂ s₂ hr₂ => ?_
      · have hl1 : H1.get? l = some (lob vs n) := k1 _ _ hl
        have hLl : H1.IsList l vs.toArray := ⟨_, hl1, rfl, n, rfl⟩
        have hDl : D ≠ l := fun q => by rw [q, hl] at hD0; cases hD0
        have hsls := F.sub_list_set
        have hslf := F.sub_list_frozenset
        have hne : (Value.type "list" == Value.type "dict") = false := by decide
        have hol' : H1.get? l = some { cls := .type "list", dict := none, data := .seq vs.toArray n, slots := #[] } := hl1
        unfold Builtin.«set.__init__» noKeywords Builtin.Frozenset.updateFrom
        generalize hPI : pyIter = PI
        wp_walk
        subst hPI
        refine wpAny_pyIter_list (s := { s with heap := H1 }) hLl ?_
        refine wpAny_bind (wpAny_runValue ?_)
        have hI2 : (H1.push { cls := .type "list_iterator", data := .fields #[.ref l, .int 0 0] }).get? H1.objs.size = some { cls := .type "list_iterator", data := .fields #[.ref l, .int 0 0] } := Heap.get?_push_size _ rfl
        have hS2 : (H1.push { cls := .type "list_iterator", data := .fields #[.ref l, .int 0 0] }).get? D = some { cls := .type "set", data := .set #[] 0 (.fresh 0 0 (!w.params.followText "set-order")) } := Heap.get?_push_of_some _ hS
        have hl2 : (H1.push { cls := .type "list_iterator", data := .fields #[.ref l, .int 0 0] }).get? l = some (lob vs n) := Heap.get?_push_of_some _ hl1
        have k2 : s.heap.StaysIn (H1.push { cls := .type "list_iterator", data := .fields #[.ref l, .int 0 0] }) := fun _ _ e => Heap.get?_push_of_some _ (k1 _ _ e)
        have hn2 : H1.get? H1.objs.size = none := get_size _
        have hSI : D ≠ H1.objs.size := fun q => by rw [← q, hS] at hn2; cases hn2
        have hIl : H1.objs.size ≠ l := fun q => by rw [q, hl1] at hn2; cases hn2
        have hIs : s.heap.get? H1.objs.size = none := none_of_stays k1 hn2
        show codeAny _ _ _ _ { s with heap := H1.push { cls := .type "list_iterator", data := .fields #[.ref l, .int 0 0] } }
        generalize H1.push { cls := .type "list_iterator", data := .fields #[.ref l, .int 0 0] } = H2 at *
        generalize H1.objs.size = I at *
        refine set_loop (A := A.in1.in1) (led := !w.params.followText "set-order") hh hi hn h5 hSI hDl hIl st.length 0 { s with heap := H2 } (by omega) hl2 ⟨_, hI2, rfl, rfl⟩ ⟨#[], 0, ?_, rfl, fun e he => by simp at he⟩ fun h' tk hS' hk' => ?_
        · rw [tabS_fresh] at hS2; exact hS2
        · refine wpAny_pure ?_
          show wpAny _ _ (ret Value.none) _ _ _
          refine wpAny_pure ⟨rfl, h D h' tk hD0 (fun b o e => hk' b o (fun q => ?_) (fun q => ?_) (k2 b o e)) hS'⟩
          · rw [q, hD0] at e; cases e
          · rw [q, hIs] at e; cases e
      · cases r₂ with
        | error e => exact hr₂
        | ok fl₂ =>
          cases fl₂ with
          | ret r =>
            obtain ⟨rfl, hq⟩ := hr₂
            repeat (any_goals (first | assumption | wp_step))
          | _ => exact hr₂.elim
    | _ => exact hr.elim

theorem folI_perm {st : List Int} (hn : st.Nodup) (h5 : ∀ e ∈ st, e ∈ [(0 : Int), 1, 2, 3, 4]) : folI st ∈ subs ∧ (folI st).Perm st := by
  obtain ⟨a1, a2⟩ := folI_facts hn h5 st.length (Nat.le_refl _)
  rw [List.take_length] at a1 a2
  refine ⟨a1, List.perm_iff_count.mpr fun x => ?_⟩
  rw [(sub_nd _ a1).count, hn.count]
  by_cases hx : x ∈ st
  · rw [if_pos hx, if_pos ((a2 x).mpr hx)]
  · rw [if_neg hx, if_neg fun h => hx ((a2 x).mp h)]
end
end Mine
end

section -- SetE
set_option linter.unusedVariables false
set_option maxRecDepth 100000
namespace Mine
open PySem PyProof.Rows PySem.W PySem.Calls PySem.Spec
open Sem (wp)

theorem slot_setiter_next : Slot "set_iterator" "__next__" "set_iterator.__next__" :=
  .of (owner := "set_iterator") (n := "__next__") (by rw [typeLookup_type, builtinLookup_eq_fast]; kernel_rfl) (by decide +kernel) (by decide +kernel) (by decide +kernel)
    (by first | exact .inl (by decide +kernel) | exact .inr (by decide +kernel)) (by rw [isSubtype_type]; kernel_rfl)
theorem slot_setiter_iter : Slot "set_iterator" "__iter__" "set_iterator.__iter__" :=
  .of (owner := "set_iterator") (n := "__iter__") (by rw [typeLookup_type, builtinLookup_eq_fast]; kernel_rfl) (by decide +kernel) (by decide +kernel) (by decide +kernel)
    (by first | exact .inl (by decide +kernel) | exact .inr (by decide +kernel)) (by rw [isSubtype_type]; kernel_rfl)
theorem entry_setiter_next : entryFor table "set_iterator.__next__" = some Builtin.«set_iterator.__next__» := entryFor_of_fast (by kernel_rfl)
theorem entry_setiter_iter : entryFor table "set_iterator.__iter__" = some Builtin.«dict_keyiterator.__iter__» :=
  entryFor_alias (id' := "dict_keyiterator.__iter__") (by kernel_rfl) rfl (by decide +kernel) (by kernel_rfl)
theorem entry_set_iter : entryFor table "set.__iter__" = some Builtin.«frozenset.__iter__» :=
  entryFor_alias (id' := "frozenset.__iter__") (by kernel_rfl) rfl (by decide +kernel) (by kernel_rfl)
theorem args_setiter_next (a : Value) : argsOk "set_iterator.__next__" ⟨[a], []⟩ := by unfold argsOk; kernel_rfl
theorem args_setiter_iter (a : Value) : argsOk "set_iterator.__iter__" ⟨[a], []⟩ := by unfold argsOk; kernel_rfl

theorem erase_perm {α : Type} : ∀ (l : List α) (k : Nat) (h : k < l.length), (l[k] :: l.eraseIdx k).Perm l
  | x :: l, 0, h => List.Perm.refl _
  | x :: l, k + 1, h => (List.Perm.swap x _ _).trans (List.Perm.cons x (erase_perm l k (Nat.lt_of_succ_lt_succ h)))

theorem pick_go {α : Type} (next : Nat → Nat) : ∀ (f k : Nat) (l : List α) (out : Array α), l.length = f → (pickOrder.go next f k l out).toList.Perm (out.toList ++ l)
  | 0, k, l, out, h => by
    rw [List.length_eq_zero_iff.mp h, List.append_nil]
    unfold pickOrder.go
    exact List.Perm.refl _
  | f + 1, k, l, out, h => by
    unfold pickOrder.go
    have hlt : next k % l.length < l.length := Nat.mod_lt _ (by omega)
    rw [List.getElem?_eq_getElem hlt]
    dsimp only
    refine (pick_go next f (k + 1) _ _ ?_).trans ?_
    · rw [List.length_eraseIdx_of_lt hlt]; omega
    · rw [Array.toList_push, List.append_assoc]
      refine List.Perm.append_left _ ?_
      exact erase_perm _ _ hlt

theorem pick_perm {α : Type} (next : Nat → Nat) (xs : Array α) : (pickOrder next xs).toList.Perm xs.toList := by
  have := pick_go next xs.size 0 xs.toList #[] (by simp)
  simpa [pickOrder] using this

section
variable {prog : Program} {w : World} {A : Around} {E : Value → Shared → Prop} {s : Shared} {S I : Addr} {hs : List Int} {es : Array (Int × Value)} {ep : Nat}

def setO (led : Bool) (hs : List Int) (es : Array (Int × Value)) (ep : Nat) : Obj := { cls := .type "set", dict := none, data := .set es ep (tabS led hs), slots := #[] }

/-- the items in the order in which they are told -/
def pk (w : World) (S : Addr) (ep : Nat) (es : Array (Int × Value)) : Array (Int × Value) := if w.params.followText "set-order" then pickOrder (w.params.setOrder S ep) es else es
/-- the slot that the iterator holds -/
def slt (w : World) (hs : List Int) (i : Nat) : Nat := if w.params.followText "set-order" then 0 else if i = 0 then 0 else (hs.getD (i - 1) 0).toNat + 1

theorem pk_perm : (pk w S ep es).toList.Perm es.toList := by
  unfold pk
  split
  · exact pick_perm _ _
  · exact List.Perm.refl _

theorem setNext_at {i : Nat} {Q : Option (Value × Nat) → Shared → Prop} (ho : s.heap.get? S = some (setO (!w.params.followText "set-order") hs es ep)) (hm : es.toList.map (·.1) = hs) (hsub : hs ∈ subs) (hi : i ≤ hs.length)
    (h : Q (((pk w S ep es)[i]?).map fun e => (e.2, slt w hs (i + 1))) s) : wpAny (model prog w) A (setNext S (slt w hs i) i ep) Q E s := by
  have hsz : es.size = hs.length := by rw [← hm, List.length_map, Array.length_toList]
  have hf : (tabS (!w.params.followText "set-order") hs).fits es.size = true := by rw [hsz]; exact fits_fact _ hs hsub
  unfold setNext
  refine wpAny_bind (wpAny_setState_of ho rfl hf ?_)
  dsimp only
  unfold setsByText
  refine wpAny_bind (wpAny_bind (wpAny_askSetting (wpAny_pure ?_)))
  dsimp only
  cases ht : w.params.followText "set-order" with
  | true =>
    rw [ht] at ho hf
    rw [if_pos (show (model prog w).w.params.followText "set-order" = true from ht), if_neg (by simp)]
    unfold setWalk
    refine wpAny_bind (wpAny_bind (wpAny_setState_of ho rfl hf ?_))
    dsimp only
    unfold setsByText
    refine wpAny_bind (wpAny_bind (wpAny_askSetting (wpAny_pure ?_)))
    dsimp only
    rw [if_pos (show (model prog w).w.params.followText "set-order" = true from ht)]
    refine wpAny_bind (wpAny_askSetting (wpAny_pure (wpAny_pure ?_)))
    have e1 : pk w S ep es = pickOrder (w.params.setOrder S ep) es := by unfold pk; rw [if_pos ht]
    have e2 : slt w hs i = 0 := by unfold slt; rw [if_pos ht]
    have e3 : slt w hs (i + 1) = 0 := by unfold slt; rw [if_pos ht]
    rw [e1, e3] at h
    rw [e2]
    exact h
  | false =>
    rw [ht] at ho hf
    rw [if_neg (show ¬ (model prog w).w.params.followText "set-order" = true by rw [show (model prog w).w.params.followText "set-order" = false from ht]; simp)]
    show wpAny _ _ (pure () >>= fun _ => pure _) _ _ _
    refine wpAny_bind (wpAny_pure (wpAny_pure ?_))
    have e1 : pk w S ep es = es := by unfold pk; rw [if_neg (by simp [ht])]
    have e2 : slt w hs i = if i = 0 then 0 else (hs.getD (i - 1) 0).toNat + 1 := by unfold slt; rw [if_neg (by simp [ht])]
    have e3 : slt w hs (i + 1) = (hs.getD i 0).toNat + 1 := by unfold slt; rw [if_neg (by simp [ht])]; simp
    rw [e1, e3] at h
    rw [e2]
    have hpl : (tabS (!false) hs).place = (hs.map Int.toNat).toArray := rfl
    by_cases hlt : i < hs.length
    · rw [below_fact (!false) hs hsub i hlt, hpl]
      have h1 : es[i]? = some es[i] := Array.getElem?_eq_getElem (by omega)
      have h2 : (hs.map Int.toNat).toArray[i]? = some (hs.getD i 0).toNat := by
        simp [List.getElem?_eq_getElem hlt]
      rw [h1] at h ⊢
      rw [h2]
      exact h
    · have hie : i = hs.length := by omega
      subst hie
      rw [below_end (!false) hs hsub]
      have h1 : es[hs.length]? = none := by simp [hsz]
      rw [h1] at h ⊢
      exact h
end
end Mine
end

section -- SetF
set_option linter.unusedVariables false
set_option maxRecDepth 100000
namespace Mine
open PySem PyProof.Rows PySem.W PySem.Calls PySem.Spec
open Sem (wp)
section
variable {prog : Program} {w : World} {A : Around} {E : Value → Shared → Prop} {s : Shared} {S I : Addr} {hs : List Int} {es : Array (Int × Value)} {ep : Nat}

/-- a set's iterator after i items -/
def SIt (w : World) (h : Heap) (I S : Addr) (hs : List Int) (ep i : Nat) : Prop :=
  ∃ o, h.get? I = some o ∧ o.cls = .type "set_iterator" ∧ o.data = .fields #[.int (slt w hs i) 0, .int i 0, .ref S, .int hs.length 0, .int ep 0]

theorem SIt.typeIs {i : Nat} (x : SIt w s.heap I S hs ep i) : s.TypeIs (.ref I) "set_iterator" := let ⟨o, ho, hc, _⟩ := x; ⟨o, ho, hc⟩
theorem SIt.at {h h' : Heap} {i : Nat} (x : SIt w h I S hs ep i) (e : ∀ o, h.get? I = some o → h'.get? I = some o) : SIt w h' I S hs ep i := let ⟨o, ho, r⟩ := x; ⟨o, e _ ho, r⟩

theorem setEntries_at {Q : Array (Int × Value) → Shared → Prop} {led : Bool} (ho : s.heap.get? S = some (setO led hs es ep)) (hm : es.toList.map (·.1) = hs) (hsub : hs ∈ subs) (h : Q es s) : wpAny (model prog w) A (setEntries S) Q E s := by
  have hsz : es.size = hs.length := by rw [← hm, List.length_map, Array.length_toList]
  unfold setEntries
  exact wpAny_bind (wpAny_setState_of ho rfl (by rw [hsz]; exact fits_fact led hs hsub) (wpAny_pure h))

theorem pyNext_set_item {i : Nat} {Q : Option Value → Shared → Prop} (hit : SIt w s.heap I S hs ep i) (ho : s.heap.get? S = some (setO (!w.params.followText "set-order") hs es ep)) (hm : es.toList.map (·.1) = hs) (hsub : hs ∈ subs)
    {e : Int × Value} (he : (pk w S ep es)[i]? = some e) (hi : i < hs.length)
    (hQ : ∀ h', SIt w h' I S hs ep (i + 1) → Heap.SameBut I s.heap h' → Q (some e.2) { s with heap := h' }) : wpAny (model prog w) A (pyNext (.ref I)) Q E s := by
  have hsz : es.size = hs.length := by rw [← hm, List.length_map, Array.length_toList]
  obtain ⟨o, hI, hc, hd⟩ := id hit
  unfold pyNext
  refine wpAny_bind (wpAny_attempt (wpAny_callSpecial?_slot (name := Str.ofString "__next__") hit.typeIs slot_setiter_next
    (wpAny_call_entry slot_setiter_next hit.typeIs entry_setiter_next ?_ (args_setiter_next _))))
  unfold Builtin.«set_iterator.__next__» slotArgs
  refine wpAny_bind (wpAny_pure ?_)
  dsimp only
  refine wpAny_bind (wpAny_fieldsOf hI hd ?_)
  show wpAny _ _ (setEntries S >>= _) _ _ _
  refine wpAny_bind (setEntries_at ho hm hsub ?_)
  rw [if_neg (by rw [hsz]; simp)]
  show wpAny _ _ (setNext S (slt w hs i) i ep >>= _) _ _ _
  refine wpAny_bind (setNext_at ho hm hsub (by omega) ?_)
  rw [he]
  show wpAny _ _ (setField (.ref I) 0 (rawInt (slt w hs (i + 1))) >>= fun _ => setField (.ref I) 1 (rawInt ((i : Int) + 1)) >>= fun _ => ret e.2) _ _ _
  refine wpAny_bind (wpAny_setField hI hd (by simp) ?_)
  have g1 := Heap.get?_update_self (Obj.mapFields (·.setIfInBounds 0 (rawInt (slt w hs (i + 1))))) hI (Obj.isFreed_of_fields (Obj.data_mapFields hd _))
  have d1 := Obj.data_mapFields hd (·.setIfInBounds 0 (rawInt (slt w hs (i + 1))))
  refine wpAny_bind (wpAny_setField g1 d1 (by simp) ?_)
  refine wpAny_pure ⟨_, rfl, wpAny_pure (hQ _ ?_ ((Heap.SameBut.update ..).trans (Heap.SameBut.update ..)))⟩
  refine ⟨_, Heap.get?_update_self _ g1 (Obj.isFreed_of_fields (Obj.data_mapFields d1 _)), (Obj.cls_mapFields ..).trans ((Obj.cls_mapFields ..).trans hc), ?_⟩
  rw [Obj.data_mapFields d1]
  simp [rawInt]

theorem pyNext_set_end {Q : Option Value → Shared → Prop} (hh : A.handled = none) (hit : SIt w s.heap I S hs ep hs.length) (ho : s.heap.get? S = some (setO (!w.params.followText "set-order") hs es ep)) (hm : es.toList.map (·.1) = hs) (hsub : hs ∈ subs)
    (hQ : ∀ h', Heap.ExtBut I s.heap h' → Q none { s with heap := h' }) : wpAny (model prog w) A (pyNext (.ref I)) Q E s := by
  have hsz : es.size = hs.length := by rw [← hm, List.length_map, Array.length_toList]
  have hpk : (pk w S ep es).size = hs.length := by have := (pk_perm (w := w) (S := S) (ep := ep) (es := es)).length_eq; simp at this; omega
  obtain ⟨o, hI, hc, hd⟩ := id hit
  unfold pyNext
  refine wpAny_bind (wpAny_attempt (wpAny_callSpecial?_slot (name := Str.ofString "__next__") hit.typeIs slot_setiter_next
    (wpAny_call_entry slot_setiter_next hit.typeIs entry_setiter_next ?_ (args_setiter_next _))))
  unfold Builtin.«set_iterator.__next__» slotArgs
  refine wpAny_bind (wpAny_pure ?_)
  dsimp only
  refine wpAny_bind (wpAny_fieldsOf hI hd ?_)
  show wpAny _ _ (setEntries S >>= _) _ _ _
  refine wpAny_bind (setEntries_at ho hm hsub ?_)
  rw [if_neg (by rw [hsz]; simp)]
  show wpAny _ _ (setNext S (slt w hs hs.length) hs.length ep >>= _) _ _ _
  refine wpAny_bind (setNext_at ho hm hsub (Nat.le_refl _) ?_)
  rw [show (pk w S ep es)[hs.length]? = none by rw [Array.getElem?_eq_none_iff]; omega]
  show wpAny _ _ (setField (.ref I) 2 .none >>= fun _ => newExc (.type "StopIteration") [] >>= fun e => raiseNew e) _ _ _
  refine wpAny_bind (wpAny_setField hI hd (by simp) ?_)
  refine wpAny_bind ?_
  simp only [newExc, newTuple]
  refine wpAny_bind (wpAny_newObj_type ?_ (by size_fits))
  refine wpAny_bind (m := firstArgMember _ _) (wpAny_of_eq (a := Value.none) (by first | rfl | (simp only [firstArgMember]; rfl)) ?_)
  refine wpAny_newObj_type ?_ (by size_fits)
  simp only [raiseNew]
  refine wpAny_bind (wpAny_handled ?_)
  rw [show A.in1.handled = none from hh]
  refine wpAny_bind (wpAny_pure (wpAny_throw ?_))
  refine wpAny_bind (wpAny_isInstance (T := "StopIteration") (b := true) ⟨_, Heap.get?_push_size _ rfl, rfl⟩ isSubtype_stop ?_)
  exact wpAny_pure (hQ _ (((Heap.SameBut.update ..).extBut.push _).push _))

theorem pyIter_setiter {i : Nat} {Q : Value → Shared → Prop} (hit : SIt w s.heap I S hs ep i) (h : Q (.ref I) s) : wpAny (model prog w) A (pyIter (.ref I)) Q E s := by
  refine wpAny_pyIter_slot hit.typeIs slot_setiter_iter (wpAny_call_entry slot_setiter_iter hit.typeIs entry_setiter_iter ?_ (args_setiter_iter _))
  show wpAny _ _ (ret (.ref I)) _ _ s
  exact wpAny_pure ⟨_, rfl, "set_iterator", _, hit.typeIs, slot_setiter_next.lookup, h⟩

theorem walks_set (hh : A.handled = none) (hIS : S ≠ I) (hm : es.toList.map (·.1) = hs) (hsub : hs ∈ subs) :
    Walks prog w A I [I, S] [I] hs.length (fun i v => ∃ e, (pk w S ep es)[i]? = some e ∧ v = e.2) (fun i h => SIt w h I S hs ep i ∧ h.get? S = some (setO (!w.params.followText "set-order") hs es ep)) where
  sub := fun b hb => by simp at hb; simp [hb]
  frame := fun _ _ _ st hk => ⟨st.1.at fun o e => hk I (by simp) o e, hk S (by simp) _ st.2⟩
  item := fun i s Q E hi st hQ => by
    have hsz : es.size = hs.length := by rw [← hm, List.length_map, Array.length_toList]
    have hpk : (pk w S ep es).size = hs.length := by have := (pk_perm (w := w) (S := S) (ep := ep) (es := es)).length_eq; simp at this; omega
    have he : (pk w S ep es)[i]? = some (pk w S ep es)[i] := Array.getElem?_eq_getElem (by omega)
    refine pyNext_set_item st.1 st.2 hm hsub he hi fun h' hit' hs' => ?_
    exact hQ _ h' s.toks ⟨_, he, rfl⟩ ⟨hit', hs'.extBut _ _ hIS st.2⟩ fun b o hb e => hs'.extBut b o (fun h => hb (by simp [h])) e
  done := fun s Q E st hQ => pyNext_set_end hh st.1 st.2 hm hsub fun h' he' => hQ h' s.toks fun b o hb e => he' b o (fun h => hb (by simp [h])) e
  self := fun _ _ _ _ st hQ => pyIter_setiter st.1 hQ

theorem pyIter_set {Q : Value → Shared → Prop} (ho : s.heap.get? S = some (setO (!w.params.followText "set-order") hs es ep)) (hm : es.toList.map (·.1) = hs) (hsub : hs ∈ subs)
    (h : ∀ o, (∀ h : Heap, h.get? s.heap.objs.size = some o → SIt w h s.heap.objs.size S hs ep 0) → o.isFreed = false → Q (.ref s.heap.objs.size) { s with heap := s.heap.push o }) : wpAny (model prog w) A (pyIter (.ref S)) Q E s := by
  have hsz : es.size = hs.length := by rw [← hm, List.length_map, Array.length_toList]
  have hf : (tabS (!w.params.followText "set-order") hs).fits es.size = true := by rw [hsz]; exact fits_fact _ hs hsub
  have hT : s.TypeIs (.ref S) "set" := ⟨_, ho, rfl⟩
  refine wpAny_pyIter_slot hT F.slot_set_iter (wpAny_call_entry F.slot_set_iter hT entry_set_iter ?_ (F.args_set_iter_1 _))
  unfold Builtin.«frozenset.__iter__» Builtin.Frozenset.slot0 slotArgs
  simp only [List.isEmpty_nil, Bool.not_true, Bool.false_eq_true, ↓reduceIte, bind_assoc, List.length_nil, bne_self_eq_false]
  unfold Builtin.Frozenset.addrOf Builtin.Frozenset.sizeOf
  refine wpAny_bind (wpAny_pure ?_)
  try dsimp only
  refine wpAny_bind (wpAny_pure ?_)
  refine wpAny_bind (wpAny_bind (setEntries_at ho hm hsub (wpAny_pure ?_)))
  unfold setDrawn
  refine wpAny_bind (wpAny_bind (wpAny_setState_of ho rfl hf ?_))
  dsimp only
  unfold setsByText
  refine wpAny_bind (wpAny_bind (wpAny_askSetting (wpAny_pure (wpAny_pure ?_))))
  rw [if_neg (by rw [Bool.and_eq_true]; rintro ⟨_, h2⟩; exact absurd h2 Bool.false_ne_true)]
  refine wpAny_bind (wpAny_pure ?_)
  refine wpAny_bind (wpAny_setEpoch_of ho rfl hf ?_)
  unfold newFields
  refine wpAny_bind (wpAny_newObj_type ?_ (by size_fits))
  refine wpAny_pure ⟨_, rfl, "set_iterator", _, ⟨_, Heap.get?_push_size _ rfl, rfl⟩, slot_setiter_next.lookup, ?_⟩
  refine h _ (fun h' e => ⟨_, e, rfl, ?_⟩) rfl
  have e0 : slt w hs 0 = 0 := by unfold slt; split <;> simp
  rw [e0, hsz]
  rfl
end
end Mine
end

section -- SetG
set_option linter.unusedVariables false
set_option maxRecDepth 100000
namespace Mine
open PySem PyProof.Rows PySem.W PySem.Calls PySem.Spec
open Sem (wp)
section
variable {prog : Program} {w : World} {A : Around} {E : Value → Shared → Prop} {s : Shared} {S I : Addr} {hs : List Int} {es : Array (Int × Value)} {ep : Nat}

set_option maxHeartbeats 2000000 in
theorem collect_set {Q : List Value → Shared → Prop} (hh : A.handled = none) (ho : s.heap.get? S = some (setO (!w.params.followText "set-order") hs es ep)) (hm : es.toList.map (·.1) = hs) (hsub : hs ∈ subs)
    (hQ : ∀ h' tk vs, s.heap.StaysIn h' → vs = (pk w S ep es).toList.map (·.2) → Q vs { s with heap := h', toks := tk }) :
    wpAny (model prog w) A (collect (.ref S)) Q E s := by
  have hsz : es.size = hs.length := by rw [← hm, List.length_map, Array.length_toList]
  have hpk : (pk w S ep es).size = hs.length := by have := (pk_perm (w := w) (S := S) (ep := ep) (es := es)).length_eq; simp at this; omega
  have h5 := sub_len hs hsub
  have hSlt : S < s.heap.objs.size := Heap.lt_size ho
  unfold collect
  refine wpAny_bind (wpAny_runValue (codeAny_builtin F.entry_proto_collect ?_))
  rw [Around.under_plainId F.plain_proto_collect _]
  show wpAny _ A.in1 (newList [] >>= fun l => again (.builtin "list.__iadd__" ⟨[l, .ref S], []⟩)) _ _ s
  refine wpAny_bind (wpAny_newObj_type ?_)
  refine wpAny_pure ⟨plainId_quiet F.plain_list_iadd _, codeAny_builtin F.entry_list_iadd ?_⟩
  rw [Around.under_plainId F.plain_list_iadd _]
  show wpAny _ A.in1 (Builtin.List.listExtendWith (.ref s.heap.objs.size) (.ref S) (.ref s.heap.objs.size)) _ _ _
  have ho1 : (s.heap.push { cls := .type "list", data := .seq ([] : List Value).toArray }).get? S = some (setO (!w.params.followText "set-order") hs es ep) := Heap.get?_push_of_some _ ho
  have hS1 : (s.heap.push { cls := .type "list", data := .seq ([] : List Value).toArray }).get? s.heap.objs.size = some { cls := .type "list", data := .seq ([] : List Value).toArray } := Heap.get?_push_size _ rfl
  have hz1 : (s.heap.push { cls := .type "list", data := .seq ([] : List Value).toArray }).objs.size = s.heap.objs.size + 1 := Heap.size_push ..
  have k1 : s.heap.StaysIn (s.heap.push { cls := .type "list", data := .seq ([] : List Value).toArray }) := fun _ _ e => Heap.get?_push_of_some _ e
  have hn0 : s.heap.get? s.heap.objs.size = none := get_size _
  generalize s.heap.push { cls := .type "list", data := .seq ([] : List Value).toArray } = H1 at *
  generalize hL0 : s.heap.objs.size = L0 at *
  have hT : Shared.TypeIs { s with heap := H1 } (.ref S) "set" := ⟨_, ho1, rfl⟩
  unfold Builtin.List.listExtendWith
  refine wpAny_bind (wpAny_typeOf hT ?_)
  have h1 : Builtin.List.listSameRef (.ref L0) (.ref S) = false := by show (L0 == S) = false; rw [beq_eq_false_iff_ne]; exact Nat.ne_of_gt hSlt
  have h2 : (Value.type "set" == Value.type "list") = false := by decide
  have h3 : (Value.type "set" == Value.type "tuple") = false := by decide
  simp only [h1, h2, h3, Bool.or_false, Bool.false_eq_true, if_false]
  refine wpAny_bind (pyIter_set (s := { s with heap := H1 }) ho1 hm hsub fun o hit hfr => ?_)
  have hI2 : (H1.push o).get? H1.objs.size = some o := Heap.get?_push_size _ hfr
  have ho2 : (H1.push o).get? S = some (setO (!w.params.followText "set-order") hs es ep) := Heap.get?_push_of_some _ ho1
  have hS2 : (H1.push o).get? L0 = some { cls := .type "list", data := .seq ([] : List Value).toArray } := Heap.get?_push_of_some _ hS1
  have k2 : s.heap.StaysIn (H1.push o) := fun _ _ e => Heap.get?_push_of_some _ (k1 _ _ e)
  have hit2 := hit _ hI2
  have hIs : s.heap.get? H1.objs.size = none := by
    cases e : s.heap.get? H1.objs.size with
    | none => rfl
    | some o => exact absurd (Heap.lt_size (k1 _ _ e)) (Nat.lt_irrefl _)
  have hIL : H1.objs.size ≠ L0 := by rw [hz1]; exact Nat.succ_ne_self _
  have hIS : S ≠ H1.objs.size := by rw [hz1]; exact Nat.ne_of_lt (Nat.lt_succ_of_lt hSlt)
  have hLS : S ≠ L0 := Nat.ne_of_lt hSlt
  generalize H1.objs.size = I at *
  show wpAny _ _ _ _ _ { s with heap := H1.push o }
  generalize H1.push o = H2 at *
  have hT2 : Shared.TypeIs { s with heap := H2 } (.ref S) "set" := ⟨_, ho2, rfl⟩
  refine wpAny_bind (wpAny_holding ?_)
  unfold Builtin.List.listLengthHint
  refine wpAny_bind (wpAny_specialOf hT2 F.slot_set_len.lookup ?_)
  generalize hid : ("set.__len__" : String) = id0; (fail_if_success (clear hid id0)); wp_delta; rw [show splitId id0 = some ("set", "__len__") from by subst hid; decide +kernel]; subst hid
  refine wpAny_bind (wpAny_isInstance (b := true) hT2 (by rw [isSubtype_type]; kernel_rfl) ?_)
  show wpAny _ A.in1 (typeOf (Value.ref S) >>= _) _ _ _
  refine wpAny_bind (wpAny_typeOf hT2 ?_)
  refine wpAny_pure ?_
  show wpAny _ A.in1 (rule "list.extend.makes-room" >>= fun _ => Builtin.List.listTouch (.ref L0) >>= fun _ =>
    again (.builtin "list.extend.loop" ⟨[.ref L0, .ref I, .ref L0], []⟩)) _ _ _
  refine wpAny_bind (wpAny_rule ?_)
  refine wpAny_bind ?_
  show wpAny _ A.in1 (updateSeq L0 (·.push .none) >>= fun _ => updateSeq L0 (·.pop)) _ _ _
  refine wpAny_bind (wpAny_updateSeq hS2 rfl ?_)
  have hS3 := Heap.get?_update_self (Obj.mapSeq (·.push Value.none)) hS2 rfl
  refine wpAny_updateSeq (hz := by seq_fits) hS3 rfl ?_
  have hS4 := Heap.get?_update_self (Obj.mapSeq (·.pop)) hS3 rfl
  have k3 : ∀ b o, b ≠ L0 → H2.get? b = some o → ((H2.update L0 (Obj.mapSeq (·.push Value.none))).update L0 (Obj.mapSeq (·.pop))).get? b = some o :=
    fun b o hb e => (Heap.get?_update_other _ _ (Ne.symm hb)).trans ((Heap.get?_update_other _ _ (Ne.symm hb)).trans e)
  have hSf : L0 ∉ [I, S] := by
    rw [List.mem_cons, List.mem_singleton]
    exact fun q => q.elim (fun q => hIL q.symm) (fun q => hLS q.symm)
  have hit4 := hit2.at fun o e => k3 _ o hIL e
  have ho4 := k3 _ _ hLS ho2
  refine wpAny_pure ⟨plainId_quiet F.plain_extend_loop _, ?_⟩
  show codeAny _ _ _ _ { s with heap := (H2.update L0 (Obj.mapSeq (·.push Value.none))).update L0 (Obj.mapSeq (·.pop)) }
  generalize (H2.update L0 (Obj.mapSeq (·.push Value.none))).update L0 (Obj.mapSeq (·.pop)) = H4 at *
  obtain ⟨c4, hS4'⟩ : ∃ c, H4.get? L0 = some { cls := .type "list", dict := none, data := .seq #[] c, slots := #[] } := ⟨_, hS4⟩
  refine codeAny_extend_loopS (walks_set (prog := prog) (w := w) (A := A.in1) (ep := ep) hh hIS hm hsub).toS (by rw [sizeLine_eq]; omega) L0 hSf _ hs.length 0 _ #[] _ rfl (Nat.zero_le _)
    ⟨hit4, ho4⟩ hS4' (ItemsOf.nil _) fun s' acc' c' mv hS' hacc => ?_
  show wpAny _ A (load L0 >>= _) _ _ s'
  refine wpAny_bind (wpAny_load hS' (wpAny_pure ?_))
  obtain ⟨h', g', d', tk', os'⟩ := s'
  have eg : g' = s.gens := mv.gens
  have ed : d' = s.drawn := mv.drawn
  have eo : os' = s.os := mv.os
  subst eg; subst ed; subst eo
  refine hQ h' tk' _ (fun b o e => ?_) ?_
  · have n1 : b ≠ L0 := fun q => by rw [q, hn0] at e; cases e
    have n2 : b ≠ I := fun q => by rw [q, hIs] at e; cases e
    exact mv.heap b o (by simp [n1, n2]) (k3 b o n1 (k2 b o e))
  · apply List.ext_getElem?
    intro j
    rw [Array.getElem?_toList, List.getElem?_map, Array.getElem?_toList]
    by_cases hj : j < hs.length
    · have hj2 : j < acc'.size := by rw [hacc.1]; exact hj
      have e1 : acc'[j]? = some acc'[j] := Array.getElem?_eq_getElem hj2
      obtain ⟨e, he, hv⟩ := hacc.2 j _ e1
      rw [e1, he, hv]; rfl
    · rw [Array.getElem?_eq_none (by rw [hacc.1]; omega), Array.getElem?_eq_none (by omega)]; rfl

theorem pk_ints (x : ∀ e ∈ es.toList, ∃ t, e.2 = .int e.1 t) : ∀ e ∈ (pk w S ep es).toList, ∃ t, e.2 = .int e.1 t := fun e he => x e (pk_perm.mem_iff.mp he)

theorem ints_of : ∀ (l : List (Int × Value)), (∀ e ∈ l, ∃ t, e.2 = .int e.1 t) → IntsAre (l.map (·.2)) (l.map (·.1))
  | [], _ => .nil
  | e :: l, h => by
    obtain ⟨t, ht⟩ := h e (List.mem_cons_self ..)
    rw [List.map_cons, List.map_cons, ht]
    exact .cons _ _ (ints_of l fun e he => h e (List.mem_cons_of_mem _ he))

theorem sorted_set {Q : Value → Shared → Prop} (hh : A.handled = none) (x : SetS (!w.params.followText "set-order") s.heap S hs) (hsub : hs ∈ subs)
    (h : ∀ h' tk D ns, s.heap.StaysIn h' → IL h' D ns → ns.Perm hs → ns.Pairwise (· ≤ ·) → Q (.ref D) { s with heap := h', toks := tk }) :
    wpAny (model prog w) A (call (.builtin "sorted") [.ref S]) Q E s := by
  obtain ⟨es, ep, ho, hm, hi⟩ := x
  have h5 := sub_len hs hsub
  refine Calls.call_function_entry kind_sorted plain_sorted entry_sorted (args_sorted1 _) ?_
  unfold Builtin.«sorted»
  refine wpAny_bind (m := checkCount "sorted" 1 1 _) (wpAny_pure ?_)
  refine wpAny_bind (collect_set (A := A.in1) hh ho hm hsub fun h1 tk vs k1 hvs => ?_)
  have hints := ints_of _ (pk_ints (w := w) (S := S) (ep := ep) hi)
  rw [← hvs] at hints
  have hperm : ((pk w S ep es).toList.map (·.1)).Perm hs := by rw [← hm]; exact pk_perm.map _
  have hlen : vs.length = hs.length := by rw [hvs, List.length_map, ← hperm.length_eq, List.length_map]
  generalize (pk w S ep es).toList.map (·.1) = ns0 at *
  refine wpAny_bind (wpAny_newList ?_ (by rw [sizeLine_eq]; omega))
  have hoL : (h1.push (seqObj "list" vs.toArray 0)).get? h1.objs.size = some (seqObj "list" vs.toArray 0) := Heap.get?_push_size _ rfl
  have hn : h1.get? h1.objs.size = none := get_size _
  show wpAny _ _ _ _ _ { s with heap := h1.push (seqObj "list" vs.toArray 0), toks := tk }
  have k2 : h1.StaysIn (h1.push (seqObj "list" vs.toArray 0)) := keep_push _
  generalize h1.push (seqObj "list" vs.toArray 0) = H2 at *
  generalize h1.objs.size = L at *
  refine wpAny_bind (wpAny_holding (wpAny_call_entry (s := { s with heap := H2, toks := tk }) slot_list_sort ⟨_, hoL, rfl⟩ entry_list_sort (list_sort_tree (s := { s with heap := H2, toks := tk }) hoL hints (by omega) fun out ns' a1 a2 a3 => ⟨_, rfl, ?_⟩) (args_list_sort _)))
  refine wpAny_pure ⟨_, rfl, ?_⟩
  have kk : h1.StaysIn (sortedHeap H2 L vs out) := stays_update (stays_trans (stays_trans (stays_update k2 hn) (keep_push _)) (keep_push _)) hn
  obtain ⟨e2, ho2⟩ : ∃ e2, (H2.update L (Obj.mapSeq fun _ => (#[] : Array Value))).get? L = some (seqObj "list" #[] e2) := ⟨_, get?_update_seq hoL (fun _ => #[])⟩
  obtain ⟨e3, ho3⟩ : ∃ e3, (sortedHeap H2 L vs out).get? L = some (seqObj "list" out e3) :=
    ⟨_, get?_update_seq (Heap.get?_push_of_some _ (Heap.get?_push_of_some _ ho2)) fun _ => out⟩
  exact h _ tk L ns' (stays_trans k1 kk) ⟨out.toList, e3, by rw [ho3], a1⟩ (a2.trans hperm) a3
end
end Mine
end

section -- LawH
set_option linter.unusedVariables false
namespace Mine
open PySem PyProof.Rows PySem.W PySem.Calls PySem.Spec
open Sem (wp)

def HandedOk (prog : Program) (w : World) (h : Heap) (b : Addr) (st : List Int) : Prop := IL h b st ∨ ∃ hs, hs ∈ subs ∧ hs.Perm st ∧ SetS (!w.params.followText "set-order") h b hs

theorem HandedOk.keep {prog : Program} {w : World} {h h' : Heap} {b : Addr} {st : List Int} (x : HandedOk prog w h b st) (k : ∀ o, h.get? b = some o → h'.get? b = some o) : HandedOk prog w h' b st := by
  rcases x with ⟨vs, n, ho, hi⟩ | ⟨hs, h1, h2, hx⟩
  · exact .inl ⟨vs, n, k _ ho, hi⟩
  · exact .inr ⟨hs, h1, h2, hx.keep k⟩
theorem HandedOk.stays {prog : Program} {w : World} {h h' : Heap} {b : Addr} {st : List Int} (x : HandedOk prog w h b st) (k : h.StaysIn h') : HandedOk prog w h' b st := x.keep (k b)
theorem HandedOk.live {prog : Program} {w : World} {h : Heap} {b : Addr} {st : List Int} (x : HandedOk prog w h b st) : ∃ o, h.get? b = some o := by
  rcases x with ⟨vs, n, ho, hi⟩ | ⟨hs, h1, h2, es, ep, ho, r⟩
  · exact ⟨_, ho⟩
  · exact ⟨_, ho⟩

theorem HandedOk.src {prog : Program} {w : World} {Z : Heap} {b : Addr} {st : List Int} (x : HandedOk prog w Z b st) : Src prog w Z (.ref b) (fun k => st.any (· == k)) := by
  intro A s k t Q E z hu hQ
  rcases x with ⟨vs, n, ho, hi⟩ | ⟨hs, h1, h2, hx⟩
  · exact in_list_ints ⟨_, z _ _ ho, rfl, n, rfl⟩ hi (hQ s.toks)
  · have e : (fun k : Int => st.any (· == k)) = fun k => hs.any (· == k) := funext fun k => by
      rw [Bool.eq_iff_iff, List.any_eq_true, List.any_eq_true]
      exact ⟨fun ⟨y, hy, q⟩ => ⟨y, h2.mem_iff.mpr hy, q⟩, fun ⟨y, hy, q⟩ => ⟨y, h2.mem_iff.mp hy, q⟩⟩
    have hx' : SetS (!w.params.followText "set-order") s.heap b hs := hx.keep (z b)
    have q := hQ (s.toks + 1)
    have e2 := congrFun e k
    replace q := e2 ▸ (show Q (.bool (st.any (· == k))) _ from q)
    exact wpAny_inSet_of (intKind_is prog w k t) rfl (hx'.setOf h1) q

section
variable {prog : Program} {w : World} {A : Around} {E : Value → Shared → Prop} {s : Shared} {H0 Z : Heap} {L a : Addr} {pm : Value} {l : List (Str × Value)} {hv sv tv cv : Option Value} {h : Heap}

theorem l_seg7 {st : List Int} {sl : Addr} {c : Int} {tc : Tok} {Q : Flow → Shared → Prop} {rest : List Stmt} (R : Roomy A) (ST : Stat H0) (x : SL H0 Z L l (some (.int c tc)) sv tv cv s.heap)
    (hs : l.lookup (Str.ofString "starts") = some (.ref sl)) (hsl : IL Z sl st) (hsn : st.Nodup) (hlen : st.length ≤ 5) (h05 : ∀ e ∈ st, 0 ≤ e ∧ e < 5) (hc0 : 0 ≤ c) (hc1 : c ≤ 1000003)
    (hQ : ∀ hd once h' t' Z', SL H0 Z' L ((Str.ofString "handed", .ref hd) :: (Str.ofString "once", .bool once) :: l) (some (.int c tc)) sv tv cv h' → Z.StaysIn Z' → HandedOk prog w Z' hd st → KR L s.heap h' →
      wpAny (model prog w) A (execs rest (lenv pm L a)) Q E { s with heap := h', toks := t' }) :
    wpAny (model prog w) A (execs (lS 7 :: rest) (lenv pm L a)) Q E s := by
  refine wpAny_execs_cons ?_
  show wpAny _ _ (exec (.Assign [.Tuple _ _ _] (.Tuple [_, _] _ _) _) _) _ _ _
  obtain ⟨vs, n, hso, hsi⟩ := id hsl
  have hvl := ia_len hsi
  have tail : ∀ (p1 p2 p3 p4 p5 p6 p7 : Pos) (d1 d2 d3 : Nat) (hd : Addr) (h1 : Heap) (tk : Nat), s.heap.StaysIn h1 → ¬ reg L hd → HandedOk prog w h1 hd st →
      wpAny (model prog w) A (eval (.Compare (.BinOp (.BinOp (.Name (Str.ofString "head") p1) .FloorDiv (.Constant (.int 64) d1 p2) p3) .Mod (.Constant (.int 2) d2 p4) p5) [.Eq] [.Constant (.int 1) d3 p6] p7) (lenv pm L a)) (fun v2 s₂ => ∀ h', s₂.heap.StaysIn h' →
        wpAny (model prog w) A (storeName (lenv pm L a) "once" v2) (fun _ s₃ => wpAny (model prog w) A (storeName (lenv pm L a) "handed" (.ref hd)) (fun _ s' => wpAny (model prog w) A (execs rest (lenv pm L a)) Q E s') E s₃) E { s₂ with heap := h' }) E { s with heap := h1, toks := tk } := fun p1 p2 p3 p4 p5 p6 p7 d1 d2 d3 hd h1 tk k1 hr hok => by
    have x1 := x.stays k1
    refine wpAny_Compare1 (wpAny_BinOp (wpAny_BinOp (SL.nmh (s := { s with heap := h1, toks := tk }) x1 (wpAny_Constant_int (floordiv_int (b := 64) (by decide) (wpAny_Constant_int (mod_int' (b := 2) (by decide) (wpAny_Constant_int (eq_int ?_)))) (Or.inl (PyProof.noPylong_small (by omega))))))))
    intro h2 k2
    have x2 := x1.stays k2
    refine SL.st (s := { s with heap := h2, toks := _ }) x2 fun h3 t3 x3 e3 => ?_
    refine SL.st (s := { s with heap := h3, toks := t3 }) x3 fun h4 t4 x4 e4 => ?_
    have kr : KR L h1 h4 := (KR.of_stays k2).trans ((KR.of_ext (r0 L) e3).trans (KR.of_ext (r0 L) e4))
    refine hQ hd _ h4 t4 _ x4.grow x4.grown (hok.keep fun o ho => ?_) ((KR.of_stays k1).trans kr)
    rw [frz_get _ hr]; exact kr hd o hr ho
  refine asg_swapped (a := Str.ofString "handed") (b := Str.ofString "once") R.hand (wpAny_IfExp (wpAny_isTrue_Compare1 (wpAny_BinOp (wpAny_BinOp (x.nmh (wpAny_Constant_int (floordiv_int (b := 32) (by decide) (wpAny_Constant_int (mod_int' (b := 2) (by decide) (wpAny_Constant_int (eq_int (wpAny_truthy_bool ?_))))) (Or.inl (PyProof.noPylong_small (by omega)))))))))) (by rfl) (by rfl)
  by_cases hset : (c.fdiv 32).fmod 2 = 0
  · rw [if_pos (by simpa using hset)]
    refine t1 (l_fn pm L a) (x.stat ST) (by rfl) (fun _ _ N => N.set) (SL.nm (s := { s with toks := _ }) x hs ?_)
    have hm5 : ∀ e ∈ st, e ∈ [(0 : Int), 1, 2, 3, 4] := fun e he => by
      have := h05 e he
      simp only [List.mem_cons, List.not_mem_nil, or_false]
      omega
    refine call_setS (st := st) R.hand (x.z _ _ hso) hsi hsn hm5 fun D h1 tk hD k1 hS1 => ?_
    obtain ⟨p1, p2⟩ := folI_perm hsn hm5
    exact tail _ _ _ _ _ _ _ _ _ _ D h1 tk k1 (x.nreg hD) (.inr ⟨_, p1, p2, hS1⟩)
  · rw [if_neg (by simpa using hset)]
    refine t1 (l_fn pm L a) (x.stat ST) (by rfl) (fun _ _ N => N.list) (SL.nm (s := { s with toks := _ }) x hs ?_)
    refine call_list_seq (items := vs.toArray) sl (.inl rfl) (x.z _ _ hso) rfl rfl (fun h1 c1 k1 hD => ?_) (by show _ ≤ 2 ^ 24; simp; omega)
    exact tail _ _ _ _ _ _ _ _ _ _ _ h1 _ k1 (x.nreg (get_size _)) (.inl ⟨vs, c1, hD, hsi⟩)
end
end Mine
end

section -- LawI
set_option linter.unusedVariables false
namespace Mine
open PySem PyProof.Rows PySem.W PySem.Calls PySem.Spec
open Sem (wp)

theorem stored_old {kvs : List (Int × Value)} {k : Int} {v : Value} (h : k ∈ kvs.map (·.1)) : stored kvs k v = kvs.map (fun kv => if kv.1 = k then (kv.1, v) else kv) := by
  unfold stored
  rw [if_pos]
  rw [List.any_eq_true]
  obtain ⟨kv, h1, h2⟩ := List.mem_map.mp h
  exact ⟨kv, h1, by simpa using h2⟩
theorem valueAt_mapped (kvs : List (Int × Value)) (k x : Int) (v : Value) (hk : k ∈ kvs.map (·.1)) : valueAt (kvs.map (fun kv => if kv.1 = k then (kv.1, v) else kv)) x = if x = k then some v else valueAt kvs x := by
  induction kvs with
  | nil => simp at hk
  | cons a r ih =>
    have cons_eq : ∀ (b : Int × Value) (q : List (Int × Value)), valueAt (b :: q) x = if b.1 = x then some b.2 else valueAt q x := fun b q => by
      unfold valueAt
      rw [List.find?_cons]
      by_cases e : b.1 = x <;> simp [e]
    rw [List.map_cons, cons_eq, cons_eq]
    by_cases ha : a.1 = k
    · rw [if_pos ha]
      by_cases hx : x = k
      · rw [if_pos (show (a.1, v).1 = x by show a.1 = x; rw [ha, hx]), if_pos hx]
      · have h1 : ¬ a.1 = x := fun e => hx (by rw [← e, ha])
        rw [if_neg (show ¬ (a.1, v).1 = x from h1), if_neg hx, if_neg h1]
        by_cases hr : k ∈ r.map (·.1)
        · rw [ih hr, if_neg hx]
        · rw [map_store_of_not_mem r k v hr]
    · rw [if_neg ha]
      have hr : k ∈ r.map (·.1) := by
        rw [List.map_cons, List.mem_cons] at hk
        rcases hk with hk | hk
        · exact absurd hk.symm ha
        · exact hk
      by_cases h1 : a.1 = x
      · rw [if_pos h1, if_pos h1, if_neg (fun e => ha (by rw [h1, e]))]
      · rw [if_neg h1, if_neg h1, ih hr]

theorem ia_uniq {vs : List Value} {ns ms : List Int} (h : IntsAre vs ns) (h' : IntsAre vs ms) : ns = ms := by
  induction h generalizing ms with
  | nil => cases h'; rfl
  | cons a t r ih => cases h' with | cons _ _ r' => rw [ih r']
theorem IL.uniq {h : Heap} {a : Addr} {ns ms : List Int} (x : IL h a ns) (y : IL h a ms) : ns = ms := by
  obtain ⟨vs, n, ho, hi⟩ := x
  obtain ⟨us, m, ho', hi'⟩ := y
  rw [ho] at ho'
  have e : vs.toArray = us.toArray := by
    have := congrArg (fun o : Option Obj => o.map (·.data)) ho'
    simp at this
    rw [this.1]
  have e2 : vs = us := by simpa using e
  subst e2
  exact ia_uniq hi hi'

section
variable {prog : Program} {w : World} {A : Around} {E : Value → Shared → Prop} {s : Shared} {H0 Z : Heap} {L a : Addr} {pm : Value} {l : List (Str × Value)} {hv sv tv cv : Option Value} {h : Heap}

def lFor8 : Stmt := nthS (bodyS (lS 8)) 0

theorem l_seg8 {order st : List Int} {sl T : Addr} {once : Bool} {kvs : List (Int × Value)} {Q : Flow → Shared → Prop} {rest : List Stmt} (R : Roomy A) (x : SL H0 Z L l hv sv (some (.ref T)) cv s.heap)
    (hs : l.lookup (Str.ofString "starts") = some (.ref sl)) (ho : l.lookup (Str.ofString "once") = some (.bool once)) (hnd : l.lookup (Str.ofString "node") = none) (hsl : IL Z sl st) (hsn : st.Nodup) (hso : ∀ e ∈ st, e ∈ order) (hlen : order.length ≤ 5)
    (hT : ¬ reg L T) (hZT : Z.get? T = none) (hd : s.heap.DictOf (intKind prog w) T kvs) (hk : kvs.map (·.1) = order) (hr : RowsOk s.heap order kvs)
    (hQ : ∀ h' t' kvs', SL H0 Z L l hv sv (some (.ref T)) cv h' → h'.DictOf (intKind prog w) T kvs' → kvs'.map (·.1) = order → RowsOk h' order kvs' → (once = true → ∀ k ∈ st, ∃ b, valueAt kvs' k = some (.ref b) ∧ IL h' b []) →
      wpAny (model prog w) A (execs rest (lenv pm L a)) Q E { s with heap := h', toks := t' }) :
    wpAny (model prog w) A (execs (lS 8 :: rest) (lenv pm L a)) Q E s := by
  refine wpAny_execs_cons ?_
  show wpAny _ _ (exec (.If (.Name _ _) [lFor8] [] _) _) _ _ _
  refine wpAny_If (wpAny_isTrue_value (e := .Name _ _) (x.nm ho (wpAny_truthy_bool ?_)))
  cases once with
  | false =>
    rw [if_neg Bool.false_ne_true]
    exact wpAny_execs_nil (hQ s.heap s.toks kvs x hd hk hr (fun h => nomatch h))
  | true =>
    rw [if_pos rfl]
    obtain ⟨vs, n, hsO, hsi⟩ := id hsl
    have hvl := ia_len hsi
    have hst5 : st.length ≤ 5 := Nat.le_trans (nd_len hsn hso) hlen
    refine wpAny_execs_cons ?_
    show wpAny _ _ (exec (.For (.Name _ _) (.Name _ _) [.Assign [.Subscript _ _ _] (.List [] _) _] [] _) _) _ _ _
    refine wpAny_For (x.nm hs (wpAny_pyIter_list ⟨_, x.z _ _ hsO, rfl, n, rfl⟩ ?_))
    have hI0 := get_size s.heap
    have hI1 : (s.heap.push { cls := .type "list_iterator", data := .fields #[.ref sl, .int 0 0] }).get? s.heap.objs.size = some { cls := .type "list_iterator", data := .fields #[.ref sl, .int 0 0] } := Heap.get?_push_size _ rfl
    have k1 : s.heap.StaysIn (s.heap.push { cls := .type "list_iterator", data := .fields #[.ref sl, .int 0 0] }) := keep_push _
    generalize s.heap.push { cls := .type "list_iterator", data := .fields #[.ref sl, .int 0 0] } = H1 at *
    generalize s.heap.objs.size = I at *
    have hIr : ¬ reg L I := x.nreg hI0
    have hIZ : Z.get? I = none := none_of_stays x.z hI0
    have hIT : I ≠ T := fun q => by
      obtain ⟨oT, _, _, h1, _⟩ := hd
      rw [← q, hI0] at h1; cases h1
    refine codeAny_forLoop (fun k s' => ∃ i : Nat, ∃ h' t' kvs', k = st.length - i ∧ i ≤ st.length ∧ s' = { s with heap := h', toks := t' } ∧ SL H0 Z L l hv sv (some (.ref T)) cv h' ∧
      h'.IsListIter I sl i ∧ h'.DictOf (intKind prog w) T kvs' ∧ kvs'.map (·.1) = order ∧ RowsOk h' order kvs' ∧ (∀ k ∈ st.take i, ∃ b, valueAt kvs' k = some (.ref b) ∧ IL h' b [])) (fun k s' hI' => ?_) st.length
      ⟨0, H1, s.toks, kvs, by omega, by omega, rfl, x.stays k1, ⟨_, hI1, rfl, rfl⟩, hd.keep k1, hk, hr.fz (Fz.of_stays k1), fun k hk => by simp at hk⟩
    obtain ⟨i, h4, t4, kvs4, rfl, hin, rfl, x4, hit, hd4, hk4, hr4, he4⟩ := hI'
    obtain ⟨oI, hoI, hcI, hdI⟩ := id hit
    rcases Nat.lt_or_ge i st.length with hlt | hge
    · obtain ⟨tx, htx⟩ := ia_get hsi (i := i) (a := st[i]) (List.getElem?_eq_getElem hlt)
      refine wpAny_pyNext_list_item (s := { s with heap := h4, toks := t4 }) hit ⟨_, x4.z _ _ hsO, rfl, n, rfl⟩ (x := .int st[i] tx) (by simpa using htx) fun h5 hit5 hs5 => ?_
      have fz5 : Fz h4 h5 := Fz.of_ext hoI (fun xs n q => by rw [hdI] at q; cases q) hs5.extBut
      have x5 := x4.ext hIr hIZ hs5.extBut
      have hd5 := hd4.extBut hs5.extBut hIT.symm
      refine wpAny_assign_Name (SL.st (s := { s with heap := h5, toks := t4 }) x5 fun h6 t6 x6 e6 => ?_)
      have fz6 : Fz h5 h6 := Fz.of_reg x5.lf (r0 L) e6
      have hd6 := hd5.extBut e6 (fun q => hT (q ▸ r0 L))
      have hit6 : h6.IsListIter I sl (i + 1) := let ⟨o, ho, r⟩ := hit5; ⟨o, e6 _ _ (fun q => hIr (q ▸ r0 L)) ho, r⟩
      refine wpAny_execs_cons (wpAny_Assign_Subscript (wpAny_List (wpAny_items_nil ⟨by show 0 ≤ 2 ^ 24; omega, ?_⟩)))
      have hD0 := get_size h6
      have hD1 := Heap.get?_push_size h6 (o := { cls := .type "list", data := .seq ([] : List Value).toArray }) rfl
      have k7 : h6.StaysIn (h6.push { cls := .type "list", data := .seq ([] : List Value).toArray }) := keep_push _
      dsimp only
      generalize h6.push { cls := .type "list", data := .seq ([] : List Value).toArray } = h7 at *
      generalize h6.objs.size = D at *
      have x7 := x6.stays k7
      refine SL.nmt (s := { s with heap := h7, toks := t6 }) x7 (SL.nm (s := { s with heap := h7, toks := t6 }) x7 (v := .int st[i] tx) (by rfl) ?_)
      have hd7 := hd6.keep k7
      have hkl : kvs4.length ≤ 5 := by have := congrArg List.length hk4; simp at this; omega
      refine wpAny_setItem_pairs (s := { s with heap := h7, toks := t6 }) (intKind_is prog w st[i] tx) hd7 (fun h8 hd8 hs8 => ?_) (by show _ ≤ 2 ^ 24; omega)
      have hmem : st[i] ∈ kvs4.map (·.1) := by rw [hk4]; exact hso _ (List.getElem_mem _)
      rw [stored_old hmem] at hd8
      obtain ⟨oT, _, _, hoT, _, hdT, _⟩ := hd7
      have fz8 : Fz h7 h8 := Fz.of_ext hoT (fun xs n q => by rw [hdT] at q; cases q) hs8.extBut
      have x8 := x7.ext hT hZT hs8.extBut
      have fz : Fz h4 h8 := fz5.trans (fz6.trans ((Fz.of_stays k7).trans fz8))
      have hDn : IL h8 D [] := IL.fz ⟨[], 0, hD1, .nil⟩ fz8
      refine wpAny_execs_nil ⟨st.length - (i + 1), by omega, i + 1, h8, _, _, rfl, by omega, rfl, x8.weak (weak_cons hnd), ?_, hd8, ?_, ?_, ?_⟩
      · obtain ⟨o, ho, r⟩ := hit6; exact ⟨o, hs8.extBut _ _ hIT (k7 _ _ ho), r⟩
      · rw [keys_map_store]; exact hk4
      · intro kv hkv
        obtain ⟨kv', h1, rfl⟩ := List.mem_map.mp hkv
        split
        · exact ⟨D, [], rfl, hDn, by simp, by simp, by simp⟩
        · exact hr4.fz fz kv' h1
      · intro k hk'
        rw [valueAt_mapped _ _ _ _ hmem]
        by_cases e : k = st[i]
        · rw [if_pos e]; exact ⟨D, rfl, hDn⟩
        · rw [if_neg e]
          rw [List.take_add_one, List.getElem?_eq_getElem hlt, List.mem_append] at hk'
          rcases hk' with hk' | hk'
          · obtain ⟨b, h1, h2⟩ := he4 k hk'; exact ⟨b, h1, h2.fz fz⟩
          · exact absurd (by simpa using hk') e
    · have hin' : i = st.length := by omega
      subst hin'
      refine wpAny_pyNext_list_end (s := { s with heap := h4, toks := t4 }) R.hand hit ⟨_, x4.z _ _ hsO, rfl, n, rfl⟩ (by simp; omega) fun h5 hs5 => ?_
      have fz5 : Fz h4 h5 := Fz.of_ext hoI (fun xs n q => by rw [hdI] at q; cases q) hs5
      refine wpAny_execs_nil (wpAny_execs_nil ?_)
      refine hQ h5 t4 kvs4 (x4.ext hIr hIZ hs5) (hd4.extBut hs5 hIT.symm) hk4 (hr4.fz fz5) fun _ k hk' => ?_
      rw [List.take_length] at he4
      obtain ⟨b, h1, h2⟩ := he4 k hk'
      exact ⟨b, h1, h2.fz fz5⟩
end
end Mine
end

section -- LawJ
set_option linter.unusedVariables false
namespace Mine
open PySem PyProof.Rows PySem.W PySem.Calls PySem.Spec
open Sem (wp)

abbrev dScope : Scope := ⟨.function, [(Str.ofString ".0", .local), (Str.ofString "node", .local), (Str.ofString "list", .globalImplicit), (Str.ofString "table", .free)], false, false, []⟩

/-- a row and its copy -/
def Twin (h : Heap) (kv kv2 : Int × Value) : Prop := kv2.1 = kv.1 ∧ ∃ b b2 ns, kv.2 = Value.ref b ∧ kv2.2 = Value.ref b2 ∧ IL h b ns ∧ IL h b2 ns
theorem Twin.fz {h h' : Heap} {kv kv2 : Int × Value} (x : Twin h kv kv2) (k : Fz h h') : Twin h' kv kv2 := let ⟨a, b, b2, ns, e1, e2, i1, i2⟩ := x; ⟨a, b, b2, ns, e1, e2, i1.fz k, i2.fz k⟩
theorem twin_keys {h : Heap} {l r : List (Int × Value)} (x : Paired (Twin h) l r) : r.map (·.1) = l.map (·.1) := by
  induction x with
  | nil => rfl
  | cons h1 h2 ih => rw [List.map_cons, List.map_cons, h1.1, ih]
theorem Paired.map' {α β : Type} {F G : α → β → Prop} {l : List α} {r : List β} (h : Paired F l r) (k : ∀ a b, F a b → G a b) : Paired G l r := by
  induction h with
  | nil => exact .nil
  | cons a b ih => exact .cons (k _ _ a) ih

section
variable {prog : Program} {w : World} {A : Around} {E : Value → Shared → Prop} {s : Shared} {H0 Z : Heap} {L a : Addr} {pm : Value} {l : List (Str × Value)} {hv sv tv cv : Option Value} {h : Heap}

theorem dc_loop {kvs : List (Int × Value)} {ep : Nat} {I C D T : Addr} {px p1 p2 p3 p4 p5 p6 pos : Pos} {m : Str → Option Value} {iter : Expr} {R' : Result → Shared → Prop} (R : Roomy A) (ST : Stat s.heap)
    (hDC : D ≠ C) (hDI : D ≠ I) (hIC : I ≠ C) (hTC : T ≠ C) (hTI : T ≠ I) (hTD : T ≠ D) (hcC : L + 1 + 1 + 1 ≠ C) (hcI : L + 1 + 1 + 1 ≠ I) (hcD : L + 1 + 1 + 1 ≠ D) (hkl : kvs.length ≤ 100)
    (hgl : ∀ b, b = 0 ∨ b = 2 ∨ b = 3 → b ≠ C ∧ b ≠ I ∧ b ≠ D)
    (hT : s.heap.DictAt (intKind prog w) T kvs ep) (hrows : ∀ kv ∈ kvs, ∃ b ns, kv.2 = Value.ref b ∧ IL s.heap b ns ∧ ns.length ≤ 100) (hit : s.heap.IsKeyIter I T 0 kvs.length ep) (hD : s.heap.DictOf (intKind prog w) D []) (hC : s.heap.Ns C m)
    (hcell : s.heap.IsCell (L + 1 + 1 + 1) (some (.ref T)))
    (hR : ∀ h' tk m' kvs2, h'.Ns C m' → h'.DictOf (intKind prog w) D kvs2 → Paired (Twin h') kvs kvs2 → (∀ b o, b ≠ C → b ≠ I → b ≠ D → s.heap.get? b = some o → h'.get? b = some o) → R' (.ok .next) { s with heap := h', toks := tk }) :
    codeAny (model prog w) A (.compLoop (.DictComp (.Name "node" p1) (.Call (.Name "list" p2) [.Subscript (.Name "table" p3) (.Name "node" p4) p5] [] p6) [⟨.Name "node" px, iter, [], 0⟩] dScope pos) 0 (.ref I) (.ref D) (compEnvC dScope [(Str.ofString "table", L + 1 + 1 + 1)] C (lenv pm L a))) R' s := by
  have cf : InFn (compEnvC dScope [(Str.ofString "table", L + 1 + 1 + 1)] C (lenv pm L a)) := ⟨rfl, rfl, rfl⟩
  refine codeAny_compLoop_testsD (fun k s' => ∃ i : Nat, ∃ h' tk m' kvs2, k = kvs.length - i ∧ i ≤ kvs.length ∧ s' = { s with heap := h', toks := tk } ∧ h'.IsKeyIter I T i kvs.length ep ∧ h'.Ns C m' ∧ h'.DictOf (intKind prog w) D kvs2 ∧
    Paired (Twin h') (kvs.take i) kvs2 ∧ (∀ b o, b ≠ C → b ≠ I → b ≠ D → s.heap.get? b = some o → h'.get? b = some o)) ?_ kvs.length
    ⟨0, s.heap, s.toks, m, [], by omega, by omega, rfl, hit, hC, hD, .nil, fun _ _ _ _ _ e => e⟩
  rintro k s' ⟨i, H, tk, m', kvs2, rfl, hin, rfl, hit', hn', hD', hP, hk⟩
  have hT' : H.DictAt (intKind prog w) T kvs ep := by
    obtain ⟨o, es, ho, r⟩ := hT
    exact ⟨o, es, hk _ _ hTC hTI hTD ho, r⟩
  have hnd : (kvs.map (·.1)).Nodup := hT.nodup
  rcases Nat.lt_or_ge i kvs.length with hlt | hge
  · obtain ⟨kk, vv, hkv⟩ : ∃ kk vv, kvs[i]? = some (kk, vv) := ⟨_, _, List.getElem?_eq_getElem hlt⟩
    obtain ⟨oI, hoI, hcI', hdI⟩ := id hit'
    refine wpAny_pyNext_dict_item (s := { s with heap := H, toks := tk }) hit' hT' hkv fun key h1 hkey hit1 hs1 => ?_
    obtain ⟨tk', rfl⟩ := PySem.Value.isInt_shape hkey
    have fz1 : Fz H h1 := Fz.of_ext hoI (fun xs n q => by rw [hdI] at q; cases q) hs1.extBut
    refine wpAny_assign_Name (wpAny_storeName_local (by rfl) (hn'.extBut hs1.extBut (Ne.symm hIC)) fun h2 hn2 hs2 => ?_)
    have hnC1 := hn'.extBut hs1.extBut (Ne.symm hIC)
    have fz2 : Fz h1 h2 := Fz.of_ns hnC1 hs2
    have up2 : ∀ b o, b ≠ C → b ≠ I → H.get? b = some o → h2.get? b = some o := fun b o hb hb' e => hs2.extBut b o hb (hs1.extBut b o hb' e)
    refine wpAny_tests_nil ?_
    rw [if_pos rfl]
    refine nm_l (s := { s with heap := h2, toks := tk + 1 }) cf hn2 (by rfl) (v := .int kk tk') (if_pos rfl) ?_
    have kp2 : ∀ b o, b ≠ C → b ≠ I → b ≠ D → s.heap.get? b = some o → h2.get? b = some o := fun b o q1 q2 q3 e => up2 b o q1 q2 (hk b o q1 q2 q3 e)
    have ST2 : Stat h2 := by
      obtain ⟨mg, mb, ⟨o3, e3, p3', ho3, r3⟩, ⟨o0, e0, p0', ho0, r0'⟩, N⟩ := ST.names
      obtain ⟨mc, ⟨o2, e2', p2', ho2, r2'⟩, hq⟩ := ST.nolim
      have g3 := hgl 3 (.inr (.inr rfl))
      have g0 := hgl 0 (.inl rfl)
      have g2 := hgl 2 (.inr (.inl rfl))
      exact ⟨⟨mc, ⟨o2, e2', p2', kp2 _ _ g2.1 g2.2.1 g2.2.2 ho2, r2'⟩, hq⟩, mg, mb, ⟨o3, e3, p3', kp2 _ _ g3.1 g3.2.1 g3.2.2 ho3, r3⟩, ⟨o0, e0, p0', kp2 _ _ g0.1 g0.2.1 g0.2.2 ho0, r0'⟩, N⟩
    have hcell2 : h2.IsCell (L + 1 + 1 + 1) (some (.ref T)) := let ⟨o, ho, hd⟩ := hcell; ⟨o, kp2 _ _ hcC hcI hcD ho, hd⟩
    have hT2 : h2.DictOf (intKind prog w) T kvs := by
      obtain ⟨o, es, ho, r⟩ := hT
      exact ⟨o, es, ep, kp2 _ _ hTC hTI hTD ho, r⟩
    have hmem : (kk, vv) ∈ kvs := List.mem_of_getElem? hkv
    obtain ⟨b, ns, hbv, hbi, hbl⟩ := hrows _ hmem
    have hbv' : vv = .ref b := hbv
    subst hbv'
    have hbi2 : IL h2 b ns := (hbi.fz (show Fz s.heap H from fun c o e hd => by
      by_cases q1 : c = C
      · obtain ⟨xs, n, hd⟩ := hd
        obtain ⟨o', es, ep', ho', hd', _⟩ := hC
        rw [q1, ho'] at e; cases e; rw [hd] at hd'; cases hd'
      · by_cases q2 : c = I
        · obtain ⟨xs, n, hd⟩ := hd
          obtain ⟨o', ho', hc', hd'⟩ := hit
          rw [q2, ho'] at e; cases e; rw [hd] at hd'; cases hd'
        · by_cases q3 : c = D
          · obtain ⟨xs, n, hd⟩ := hd
            obtain ⟨o', es, ep', ho', _, hd', _⟩ := hD
            rw [q3, ho'] at e; cases e; rw [hd] at hd'; cases hd'
          · exact hk c o q1 q2 q3 e)).fz (fz1.trans fz2)
    obtain ⟨vb, nb, hbo, hbis⟩ := id hbi2
    refine t1 (s := { s with heap := h2, toks := tk + 1 }) cf ST2 (by rfl) (fun _ _ N => N.list) (Subscript_Name (nm_c (s := { s with heap := h2, toks := tk + 1 }) cf (by rfl) (by rfl) hcell2 (nm_l (s := { s with heap := h2, toks := tk + 1 }) cf hn2 (by rfl) (v := .int kk tk') (if_pos rfl) ⟨"dict", _, F.slot_dict_getitem.lookup, hT2.typeIs, ?_⟩)))
    refine wpAny_getItem_of (s := { s with heap := h2, toks := tk + 1 }) (intKind_is prog w kk tk') hT2.mapOf (valueAt_of_get hnd hkv) ?_
    have hvl := ia_len hbis
    refine call_list_seq (s := { s with heap := h2, toks := tk + 1 + 1 }) (items := vb.toArray) b (.inl rfl) hbo rfl rfl (fun h3 c3 k3 hN => ?_) (by show _ ≤ 2 ^ 24; simp; omega)
    have hD2 : h2.DictOf (intKind prog w) D kvs2 := by
      obtain ⟨o, es, ep', ho, r⟩ := hD'
      exact ⟨o, es, ep', up2 _ _ hDC hDI ho, r⟩
    have hN0 := get_size h2
    dsimp only at hN
    dsimp only
    generalize h2.objs.size = N at *
    have hlen2 : kvs2.length = i := by
      have := Paired.length hP
      rw [List.length_take] at this; omega
    refine wpAny_dictSet_pairs (s := { s with heap := h3, toks := _ }) (intKind_is prog w kk tk') (hD2.keep k3) (fun h4 hd4 hs4 => ?_) (by show _ ≤ 2 ^ 24; omega)
    have keys2 : kvs2.map (·.1) = (kvs.take i).map (·.1) := twin_keys hP
    have hnk : kk ∉ kvs2.map (·.1) := by
      rw [keys2, List.map_take]
      intro hm
      obtain ⟨j, hj, e⟩ := List.mem_iff_getElem.mp hm
      rw [List.getElem_take] at e
      rw [List.length_take] at hj
      have hkk : (kvs.map (·.1))[i]'(by rw [List.length_map]; omega) = kk := by
        rw [List.getElem_map]
        have := List.getElem?_eq_some_iff.mp hkv
        obtain ⟨hlt', e'⟩ := this
        rw [e']
      have := (List.getElem_inj hnd).mp (e.trans hkk.symm)
      omega
    rw [stored_new hnk] at hd4
    obtain ⟨oD, esD, epD, hoD, hexD, hdD, _⟩ := hD2.keep k3
    have fz4 : Fz h3 h4 := Fz.of_ext hoD (fun xs n q => by rw [hdD] at q; cases q) hs4.extBut
    have fzA : Fz H h4 := fz1.trans (fz2.trans ((Fz.of_stays k3).trans fz4))
    refine ⟨kvs.length - (i + 1), by omega, i + 1, h4, _, _, kvs2 ++ [(kk, .ref N)], rfl, by omega, rfl, ?_, ((hn2.keeps k3).extBut hs4.extBut (Ne.symm hDC)), hd4, ?_, fun c o q1 q2 q3 e => hs4.extBut c o q3 (k3 _ _ (kp2 c o q1 q2 q3 e))⟩
    · obtain ⟨o, ho, r⟩ := hit1
      exact ⟨o, hs4.extBut _ _ (Ne.symm hDI) (k3 _ _ (hs2.extBut _ _ hIC ho)), r⟩
    · rw [List.take_add_one, hkv]
      refine Paired.snoc (Paired.map' hP fun _ _ t => t.fz fzA) ⟨rfl, b, N, ns, rfl, rfl, (hbi2.fz (Fz.of_stays k3)).fz fz4, ?_⟩
      exact IL.fz ⟨vb, c3, hN, hbis⟩ fz4
  · have hin' : i = kvs.length := by omega
    subst hin'
    obtain ⟨oI, hoI, hcI', hdI⟩ := id hit'
    refine wpAny_pyNext_dict_end (s := { s with heap := H, toks := tk }) R.hand hit' hT' (by simp) fun h1 hs1 => ?_
    rw [List.take_length] at hP
    refine hR h1 tk m' kvs2 (hn'.extBut hs1 (Ne.symm hIC)) (hD'.extBut hs1 hDI) (Paired.map' hP fun _ _ t => t.fz (Fz.of_ext hoI (fun xs n q => by rw [hdI] at q; cases q) hs1)) fun c o q1 q2 q3 e => hs1 c o q2 (hk c o q1 q2 q3 e)
end
end Mine
end

section -- LawK
set_option linter.unusedVariables false
namespace Mine
open PySem PyProof.Rows PySem.W PySem.Calls PySem.Spec
open Sem (wp)

theorem Twin.frz {h : Heap} {L : Addr} {l : List (Str × Value)} {hv sv tv cv : Option Value} {kv kv2 : Int × Value} (x : Twin h kv kv2) (f : LF h L l hv sv tv cv) : Twin (frz L h) kv kv2 :=
  let ⟨a, b, b2, ns, e1, e2, i1, i2⟩ := x; ⟨a, b, b2, ns, e1, e2, i1.frz f, i2.frz f⟩

section
variable {prog : Program} {w : World} {A : Around} {E : Value → Shared → Prop} {s : Shared} {H0 Z : Heap} {L a : Addr} {pm : Value} {l : List (Str × Value)} {hv sv tv cv : Option Value} {h : Heap}

theorem l_seg10 {T : Addr} {kvs : List (Int × Value)} {Q : Flow → Shared → Prop} {rest : List Stmt} (R : Roomy A) (ST : Stat H0) (x : SL H0 Z L l hv sv (some (.ref T)) cv s.heap)
    (hTs : (T == sysModules) = false) (hT : Z.DictOf (intKind prog w) T kvs) (hrows : ∀ kv ∈ kvs, ∃ b ns, kv.2 = Value.ref b ∧ IL Z b ns ∧ ns.length ≤ 100) (hkl : kvs.length ≤ 100)
    (hQ : ∀ D h' t' Z' kvs2, SL H0 Z' L ((Str.ofString "copied", .ref D) :: l) hv sv (some (.ref T)) cv h' → Z.StaysIn Z' → Z'.DictOf (intKind prog w) D kvs2 → (D == sysModules) = false → Paired (Twin Z') kvs kvs2 →
      wpAny (model prog w) A (execs rest (lenv pm L a)) Q E { s with heap := h', toks := t' }) :
    wpAny (model prog w) A (execs (lS 10 :: rest) (lenv pm L a)) Q E s := by
  refine wpAny_execs_cons ?_
  show wpAny _ _ (exec (.Assign [.Name (Str.ofString "copied") _] (.DictComp (.Name (Str.ofString "node") _) (.Call (.Name (Str.ofString "list") _) [.Subscript (.Name (Str.ofString "table") _) (.Name (Str.ofString "node") _) _] [] _) [⟨.Name (Str.ofString "node") _, .Name (Str.ofString "table") _, [], 0⟩] dScope _) _) _) _ _ _
  rw [exec_Assign_Name_used _ _ _ _ (by rfl)]
  refine wpAny_bind (wpAny_standAt (wpAny_bind ?_))
  show wpAny _ A (do let _ ← comprehension (.DictComp _ _ [⟨.Name _ _, _, [], 0⟩] dScope _) dScope (lenv pm L a) _ newDict false (eval (.Name (Str.ofString "table") _) (lenv pm L a)) (some (assign (.Name (Str.ofString "copied") _) (lenv pm L a)))) _ _ s
  refine wpAny_bind (wpAny_mono (wpAny_comprehension_free (cl := [(Str.ofString "table", L + 1 + 1 + 1)]) (Q := fun _ s' => wpAny (model prog w) A (execs rest (lenv pm L a)) Q E s') rfl (by intro _; rfl) (by rfl) (by rfl) (by decide) ?_) (fun _ s' hq => wpAny_pure (wpAny_pure hq)) fun _ _ e => e)
  obtain ⟨ep, hTa⟩ := (hT.keep x.z).dictAt
  refine x.nmt (wpAny_pyIter_dict hTs hTa ?_)
  have hI0 := get_size s.heap
  have hI1 : (s.heap.push { cls := .type "dict_keyiterator", data := .fields #[.ref T, .int 0 0, .int kvs.length 0, .int ep 0] }).get? s.heap.objs.size = some { cls := .type "dict_keyiterator", data := .fields #[.ref T, .int 0 0, .int kvs.length 0, .int ep 0] } := Heap.get?_push_size _ rfl
  have k1 : s.heap.StaysIn (s.heap.push { cls := .type "dict_keyiterator", data := .fields #[.ref T, .int 0 0, .int kvs.length 0, .int ep 0] }) := keep_push _
  generalize s.heap.push { cls := .type "dict_keyiterator", data := .fields #[.ref T, .int 0 0, .int kvs.length 0, .int ep 0] } = H1 at *
  generalize s.heap.objs.size = I at *
  have hD0 := get_size H1
  have h3D : 3 < H1.objs.size := by
    obtain ⟨mg, mb, ⟨o3, e3, p3', ho3, _⟩, _⟩ := (x.stat ST).names
    exact Heap.lt_size (k1 _ _ ho3)
  have hDd := Heap.DictOf.new (knd := intKind prog w) H1
  refine wpAny_newObj_type ?_
  have k2 : H1.StaysIn (H1.push { cls := .type "dict", data := .dict #[] }) := keep_push _
  dsimp only
  generalize H1.push { cls := .type "dict", data := .dict #[] } = H2 at *
  generalize H1.objs.size = D at *
  refine wpAny_newFunctionEnv (by decide) (by intro y hy; simp at hy) (fun h3 hn3 hs3 => ?_) (by rfl)
  have hC0 := get_size H2
  dsimp only at hn3 hs3 hC0 ⊢
  generalize H2.objs.size = C at *
  have k3 : H2.StaysIn h3 := fun b o e => hs3.extBut b o (fun q => by rw [q, hC0] at e; cases e) (Heap.get?_push_of_some _ e)
  have kk : s.heap.StaysIn h3 := stays_trans k1 (stays_trans k2 k3)
  have x3 := x.stays kk
  have ne {h : Heap} {a b : Addr} {o : Obj} (ha : h.get? a = none) (hb : h.get? b = some o) : b ≠ a := fun e => by rw [e, ha] at hb; cases hb
  obtain ⟨oT, esT, hoT, rT⟩ := id hTa
  obtain ⟨oD, _, _, hoD, _⟩ := id hDd
  have hIC : I ≠ C := ne hC0 (k2 _ _ hI1)
  have hDC : D ≠ C := ne hC0 hoD
  have hDI : D ≠ I := (ne hD0 hI1).symm
  have hTI : T ≠ I := ne hI0 hoT
  have hTD : T ≠ D := ne hD0 (k1 _ _ hoT)
  have hTC : T ≠ C := ne hC0 (k2 _ _ (k1 _ _ hoT))
  obtain ⟨oc, hoc, hdc⟩ := id x.lf.c3
  have hI0s : s.heap.get? I = none := hI0
  have hD0s : s.heap.get? D = none := none_of_stays k1 hD0
  have hC0s : s.heap.get? C = none := none_of_stays (stays_trans k1 k2) hC0
  have ST0 := x.stat ST
  have hgl : ∀ b, b = 0 ∨ b = 2 ∨ b = 3 → b ≠ C ∧ b ≠ I ∧ b ≠ D := fun b hb => by
    obtain ⟨mg, mb, ⟨o3, e3, p3', ho3, _⟩, ⟨o0, e0, p0', ho0, _⟩, N⟩ := ST0.names
    obtain ⟨mc, ⟨o2, e2', p2', ho2, _⟩, hq⟩ := ST0.nolim
    rcases hb with rfl | rfl | rfl
    · exact ⟨ne hC0s ho0, ne hI0s ho0, ne hD0s ho0⟩
    · exact ⟨ne hC0s ho2, ne hI0s ho2, ne hD0s ho2⟩
    · exact ⟨ne hC0s ho3, ne hI0s ho3, ne hD0s ho3⟩
  refine codeAny_compStart_dict ?_ (wpAny_pyIter_keyiter (it := I) (d := T) (i := 0) (n := kvs.length) (ep := ep) ⟨_, k3 _ _ (k2 _ _ hI1), rfl, rfl⟩ ?_)
  all_goals
    refine dc_loop (s := { s with heap := h3, toks := _ }) (m := fun y => ([] : List (Str × Value)).reverse.lookup y) R ((ST0.keep kk)) hDC hDI hIC hTC hTI hTD (ne hC0s hoc) (ne hI0s hoc) (ne hD0s hoc) hkl hgl
      (hTa.keep kk) (fun kv hkv => ?_) ⟨_, k3 _ _ (k2 _ _ hI1), rfl, rfl⟩ (hDd.keep k3) hn3 (x.lf.c3.keeps kk) fun h4 t4 m4 kvs2 hn4 hd4 hP hk4 => ?_
    · obtain ⟨b, ns, e1, e2, e3⟩ := hrows kv hkv
      exact ⟨b, ns, e1, (e2.keep x.z).keep kk, e3⟩
    · have k4 : s.heap.StaysIn h4 := fun b o e => hk4 b o (ne hC0s e) (ne hI0s e) (ne hD0s e) (kk _ _ e)
      have x4 := x.stays k4
      show wpAny _ A (assign (.Name (Str.ofString "copied") _) (lenv pm L a) (.ref D)) _ _ _
      refine wpAny_assign_Name (SL.st (s := { s with heap := h4, toks := t4 }) x4 fun h5 t5 x5 e5 => ?_)
      have hCr : ¬ reg L C := x.nreg hC0s
      have hDr : ¬ reg L D := x.nreg hD0s
      refine ⟨m4, hn4.extBut e5 (fun q => hCr (q ▸ r0 L)), fun h6 hs6 => ?_⟩
      have x6 := x5.ext hCr (none_of_stays x.z hC0s) hs6.extBut
      have hn5 := hn4.extBut e5 (fun q => hCr (q ▸ r0 L))
      have fz5 : Fz h4 h5 := Fz.of_reg x4.lf (r0 L) e5
      have fz6 : Fz h5 h6 := Fz.of_ns hn5 hs6
      have hd6 : h6.DictOf (intKind prog w) D kvs2 := (hd4.extBut e5 (fun q => hDr (q ▸ r0 L))).extBut hs6.extBut hDC
      refine hQ D h6 t5 _ kvs2 x6.grow x6.grown ?_ ?_ (Paired.map' hP fun _ _ t => (t.fz (fz5.trans fz6)).frz x6.lf)
      · obtain ⟨o, es, ep', ho, r⟩ := hd6
        exact ⟨o, es, ep', by rw [frz_get _ hDr]; exact ho, r⟩
      · exact beq_eq_false_iff_ne.mpr (Nat.ne_of_gt (Nat.lt_trans (by decide : sysModules < 3) h3D))
end
end Mine
end

section -- LawL
set_option linter.unusedVariables false
namespace Mine
open PySem PyProof.Rows PySem.W PySem.Calls PySem.Spec
open Sem (wp)

theorem valueAt_cons (a : Int × Value) (r : List (Int × Value)) (k : Int) : valueAt (a :: r) k = if a.1 = k then some a.2 else valueAt r k := by
  unfold valueAt
  rw [List.find?_cons]
  by_cases e : a.1 = k <;> simp [e]
theorem valueAt_none {kvs : List (Int × Value)} {k : Int} (h : k ∉ kvs.map (·.1)) : valueAt kvs k = none := by
  induction kvs with
  | nil => rfl
  | cons a r ih =>
    rw [List.map_cons, List.mem_cons, not_or] at h
    rw [valueAt_cons, if_neg (fun e => h.1 e.symm), ih h.2]
theorem valueAt_some {kvs : List (Int × Value)} {k : Int} (h : k ∈ kvs.map (·.1)) : ∃ v, valueAt kvs k = some v ∧ (k, v) ∈ kvs := by
  induction kvs with
  | nil => simp at h
  | cons a r ih =>
    rw [valueAt_cons]
    by_cases e : a.1 = k
    · rw [if_pos e]; exact ⟨a.2, rfl, by rw [← e]; exact List.mem_cons_self ..⟩
    · rw [if_neg e]
      rw [List.map_cons, List.mem_cons] at h
      rcases h with h | h
      · exact absurd h.symm e
      · obtain ⟨v, h1, h2⟩ := ih h; exact ⟨v, h1, List.mem_cons_of_mem _ h2⟩

theorem twin_val {h : Heap} {kvs kvs2 : List (Int × Value)} (x : Paired (Twin h) kvs kvs2) (k : Int) :
    (valueAt kvs k = none ∧ valueAt kvs2 k = none) ∨ ∃ b b2 ns, valueAt kvs k = some (.ref b) ∧ valueAt kvs2 k = some (.ref b2) ∧ IL h b ns ∧ IL h b2 ns := by
  induction x with
  | nil => exact .inl ⟨rfl, rfl⟩
  | @cons a c l r h1 h2 ih =>
    obtain ⟨e1, b, b2, ns, e2, e3, i1, i2⟩ := h1
    rw [valueAt_cons, valueAt_cons, e1]
    by_cases e : a.1 = k
    · rw [if_pos e, if_pos e]; exact .inr ⟨b, b2, ns, by rw [e2], by rw [e3], i1, i2⟩
    · rw [if_neg e, if_neg e]; exact ih

/-- what the table says, in plain words -/
structure TbOk (prog : Program) (w : World) (Z : Heap) (T : Addr) (kvs : List (Int × Value)) (order st : List Int) (once : Bool) (tb : Int → Option (List Int)) : Prop where
  sys : (T == sysModules) = false
  dict : Z.DictOf (intKind prog w) T kvs
  keys : kvs.map (·.1) = order
  rows : RowsOk Z order kvs
  val : ∀ k b ns, valueAt kvs k = some (.ref b) → IL Z b ns → tb k = some ns
  tab : Tab tb order
  out : ∀ k, k ∉ order → tb k = none
  emp : once = true → ∀ k r, st.any (· == k) = true → tb k = some r → r = []

theorem TbOk.mk' {prog : Program} {w : World} {Z : Heap} {T : Addr} {kvs : List (Int × Value)} {order st : List Int} {once : Bool} (hs : (T == sysModules) = false) (hd : Z.DictOf (intKind prog w) T kvs) (hk : kvs.map (·.1) = order)
    (hr : RowsOk Z order kvs) (hnd : order.Nodup) (hlen : order.length ≤ 5) (he : once = true → ∀ k ∈ st, ∃ b, valueAt kvs k = some (.ref b) ∧ IL Z b []) : ∃ tb, TbOk prog w Z T kvs order st once tb := by
  have ex : ∀ k, ∃ o : Option (List Int), (k ∉ order → o = none) ∧ (k ∈ order → ∃ r b, o = some r ∧ valueAt kvs k = some (.ref b) ∧ IL Z b r ∧ r.Nodup ∧ (∀ e ∈ r, e ∈ order) ∧ r.length ≤ 3) := fun k => by
    by_cases h : k ∈ order
    · obtain ⟨v, h1, h2⟩ := valueAt_some (hk.symm ▸ h)
      obtain ⟨b, ns, h3, h4, h5, h6, h7⟩ := hr _ h2
      exact ⟨some ns, fun q => absurd h q, fun _ => ⟨ns, b, rfl, by rw [h1, show v = .ref b from h3], h4, h5, h6, h7⟩⟩
    · exact ⟨none, fun _ => rfl, fun q => absurd q h⟩
  refine ⟨fun k => Classical.choose (ex k), ⟨hs, hd, hk, hr, fun k b ns hv hi => ?_, ⟨hnd, hlen, fun k hm => ?_⟩, fun k hm => (Classical.choose_spec (ex k)).1 hm, fun ho k r hm hv => ?_⟩⟩
  · have hm : k ∈ order := by
      refine Classical.byContradiction fun h => ?_
      rw [valueAt_none (by rw [hk]; exact h)] at hv; cases hv
    obtain ⟨r, b', h1, h2, h3, _⟩ := (Classical.choose_spec (ex k)).2 hm
    rw [hv] at h2; cases h2
    rw [h1, IL.uniq h3 hi]
  · obtain ⟨r, b', h1, h2, h3, h4⟩ := (Classical.choose_spec (ex k)).2 hm
    exact ⟨r, h1, h4⟩
  · rw [any_mem, decide_eq_true_eq] at hm
    obtain ⟨b, h1, h2⟩ := he ho k hm
    have hm' : k ∈ order := by
      refine Classical.byContradiction fun h => ?_
      rw [valueAt_none (by rw [hk]; exact h)] at h1; cases h1
    obtain ⟨r', b', h3, h4, h5, _⟩ := (Classical.choose_spec (ex k)).2 hm'
    rw [h1] at h4; cases h4
    have hv' : Classical.choose (ex k) = some r := hv
    rw [h3] at hv'; cases hv'
    exact IL.uniq h5 h2

section
variable {prog : Program} {w : World} {Z : Heap} {T : Addr} {kvs : List (Int × Value)} {order st : List Int} {once : Bool} {tb : Int → Option (List Int)}
theorem TbOk.pd (x : TbOk prog w Z T kvs order st once tb) : PdOk prog w Z T tb := by
  refine ⟨x.sys, kvs, x.dict, fun k => ?_⟩
  by_cases hm : k ∈ order
  · obtain ⟨v, h1, h2⟩ := valueAt_some (x.keys.symm ▸ hm)
    obtain ⟨b, ns, h3, h4, _⟩ := x.rows _ h2
    have hv : v = .ref b := h3
    subst hv
    rw [x.val k b ns h1 h4]
    exact ⟨b, h1, h4⟩
  · rw [x.out k hm]
    exact valueAt_none (by rw [x.keys]; exact hm)

theorem TbOk.stays (x : TbOk prog w Z T kvs order st once tb) {Z' : Heap} (k : Z.StaysIn Z') : TbOk prog w Z' T kvs order st once tb :=
  ⟨x.sys, x.dict.keep k, x.keys, fun kv hk => let ⟨r, ns, a, b, c⟩ := x.rows kv hk; ⟨r, ns, a, b.keep k, c⟩, fun k' b ns h1 h2 => by
    obtain ⟨v, h3, h4⟩ := valueAt_some (kvs := kvs) (k := k') (by
      refine Classical.byContradiction fun h => ?_
      rw [valueAt_none h] at h1; cases h1)
    rw [h1] at h3; cases h3
    obtain ⟨r, ns', e, i, _⟩ := x.rows _ h4
    have e' : Value.ref b = .ref r := e
    cases e'
    rw [x.val k' b ns' h1 i, IL.uniq (i.keep k) h2], x.tab, x.out, x.emp⟩

theorem TbOk.copy (x : TbOk prog w Z T kvs order st once tb) {D : Addr} {kvs2 : List (Int × Value)} (hs : (D == sysModules) = false) (hd : Z.DictOf (intKind prog w) D kvs2) (hP : Paired (Twin Z) kvs kvs2) : PdOk prog w Z D tb := by
  refine ⟨hs, kvs2, hd, fun k => ?_⟩
  rcases twin_val hP k with ⟨h1, h2⟩ | ⟨b, b2, ns, h1, h2, h3, h4⟩
  · have hm : k ∉ order := fun hm => by
      obtain ⟨v, h3, _⟩ := valueAt_some (x.keys.symm ▸ hm)
      rw [h1] at h3; cases h3
    rw [x.out k hm]; exact h2
  · rw [x.val k b ns h1 h3]; exact ⟨b2, h2, h4⟩
end
end Mine
end

section -- LawM
set_option linter.unusedVariables false
namespace Mine
open PySem PyProof.Rows PySem.W PySem.Calls PySem.Spec
open Sem (wp)

section
variable {prog : Program} {w : World} {A : Around} {E : Value → Shared → Prop} {s : Shared} {H0 Z : Heap} {L a : Addr} {pm : Value} {l : List (Str × Value)} {hv sv tv cv : Option Value} {h : Heap}

/-- order[_law_cell(script, k) % size] -/
theorem l_goal {order : List Int} {o la : Addr} {ns : List Int} {n : Nat} {tn : Tok} {k : Nat} {kd : Nat} {p1 p2 p3 p4 p5 p6 p7 p8 : Pos} {Q : Value → Shared → Prop} (R : Roomy A) (ST : Stat H0) (FN : Fns H0) (x : SL H0 Z L l hv (some (.int n tn)) tv cv s.heap)
    (ho : l.lookup (Str.ofString "order") = some (.ref o)) (hol : IL Z o order) (hlen : order.length = n) (hn5 : n ≤ 5) (hn2 : 2 ≤ n)
    (hscr : l.lookup (Str.ofString "script") = some (.ref la)) (hl : IL Z la ns) (hls : ns.length ≤ 63) (h9 : k ≤ 10)
    (hQ : ∀ g t h' t', g ∈ order → s.heap.StaysIn h' → Q (.int g t) { s with heap := h', toks := t' }) :
    wpAny (model prog w) A (eval (.Subscript (.Name "order" p1) (.BinOp (.Call (.Name "_law_cell" p2) [.Name "script" p3, .Constant (.int (k : Nat)) kd p4] [] p5) .Mod (.Name "size" p6) p7) p8) (lenv pm L a)) Q E s := by
  obtain ⟨vo, no, hoo, hoi⟩ := id hol
  have hvol := ia_len hoi
  refine Subscript_BinOp (x.nm ho (wpAny_BinOp (l_cellcall R ST FN x hscr hl hls (k := k) (by omega) (by omega) (fun Q2 h2 => wpAny_Constant_int (h2 _ _)) fun c t h' t' h1 h2 h3 => ?_)))
  have x' := x.stays h3
  refine SL.nms (s := { s with heap := h', toks := t' }) x' (mod_int' (by omega) ⟨"list", _, slot_list_getitem.lookup, ⟨_, x'.z _ _ hoo, rfl⟩, ?_⟩)
  have hm0 : 0 ≤ c.fmod n := Int.fmod_nonneg_of_pos _ (by omega)
  have hm1 : c.fmod n < n := Int.fmod_lt_of_pos _ (by omega)
  have hlt : (c.fmod n).toNat < order.length := by omega
  obtain ⟨tx, htx⟩ := ia_get hoi (i := (c.fmod n).toNat) (a := order[(c.fmod n).toNat]) (List.getElem?_eq_getElem hlt)
  refine wpAny_getItem_list (items := vo.toArray) ⟨_, x'.z _ _ hoo, rfl, no, rfl⟩ hm0 (by omega) (x := .int order[(c.fmod n).toNat] tx) (by simpa using htx) ?_
  exact hQ _ _ h' _ (List.getElem_mem _) h3

theorem l_seg9 {order : List Int} {o la : Addr} {ns : List Int} {n : Nat} {tn : Tok} {rest : List Stmt} {Q : Flow → Shared → Prop} (R : Roomy A) (ST : Stat H0) (FN : Fns H0) (x : SL H0 Z L l hv (some (.int n tn)) tv cv s.heap)
    (ho : l.lookup (Str.ofString "order") = some (.ref o)) (hol : IL Z o order) (hlen : order.length = n) (hn5 : n ≤ 5) (hn2 : 2 ≤ n)
    (hscr : l.lookup (Str.ofString "script") = some (.ref la)) (hl : IL Z la ns) (hls : ns.length ≤ 63)
    (hQ : ∀ G vs g1 g2 h' t' Z', SL H0 Z' L ((Str.ofString "goals", .ref G) :: l) hv (some (.int n tn)) tv cv h' → Z.StaysIn Z' → Z'.get? G = some (lob vs 0) → IntsAre vs [g1, g2] → g1 ∈ order → g2 ∈ order → KR L s.heap h' →
      wpAny (model prog w) A (execs rest (lenv pm L a)) Q E { s with heap := h', toks := t' }) :
    wpAny (model prog w) A (execs (lS 9 :: rest) (lenv pm L a)) Q E s := by
  refine wpAny_execs_cons ?_
  show wpAny _ _ (exec (.Assign [.Name _ _] (.List [.Subscript (.Name _ _) (.BinOp (.Call (.Name _ _) [.Name _ _, .Constant (.int ((7 : Nat) : Int)) _ _] [] _) .Mod (.Name _ _) _) _, .Subscript (.Name _ _) (.BinOp (.Call (.Name _ _) [.Name _ _, .Constant (.int ((8 : Nat) : Int)) _ _] [] _) .Mod (.Name _ _) _) _] _) _) _) _ _ _
  refine wpAny_Assign_Name (wpAny_List (wpAny_items_cons (l_goal R ST FN x ho hol hlen hn5 hn2 hscr hl hls (by omega) fun g1 t1 h1 k1 m1 s1 => ?_)))
  have x1 := x.stays s1
  refine wpAny_items_cons (l_goal (s := { s with heap := h1, toks := k1 }) R ST FN x1 ho hol hlen hn5 hn2 hscr hl hls (by omega) fun g2 t2 h2 k2 m2 s2 => ?_)
  refine wpAny_items_nil ⟨by show 2 ≤ 2 ^ 24; omega, ?_⟩
  have s12 := stays_trans s1 s2
  have x2 := x1.stays s2
  have hG0 := get_size h2
  have hG1 := Heap.get?_push_size h2 (o := { cls := .type "list", data := .seq [Value.int g1 t1, Value.int g2 t2].toArray }) rfl
  have s3 : h2.StaysIn (h2.push { cls := .type "list", data := .seq [Value.int g1 t1, Value.int g2 t2].toArray }) := keep_push _
  dsimp only
  generalize h2.push { cls := .type "list", data := .seq [Value.int g1 t1, Value.int g2 t2].toArray } = h3 at *
  have hGr := x2.nreg hG0
  generalize h2.objs.size = G at *
  have x3 := x2.stays s3
  refine SL.st (s := { s with heap := h3, toks := _ }) x3 fun h4 t4 x4 e4 => ?_
  refine hQ G _ g1 g2 h4 t4 _ x4.grow x4.grown ?_ (.cons g1 t1 (.cons g2 t2 .nil)) m1 m2 ((KR.of_stays (stays_trans s12 s3)).trans (KR.of_ext (r0 L) e4))
  rw [frz_get _ hGr]
  exact e4 _ _ (fun q => hGr (q ▸ r0 L)) hG1
end
end Mine
end

section -- LawN
set_option linter.unusedVariables false
namespace Mine
open PySem PyProof.Rows PySem.W PySem.Calls PySem.Spec
open Sem (wp)

theorem LL.keepK {h h' : Heap} {a : Addr} {nss : List (List Int)} (x : LL h a nss) (k : h.StaysIn h') : LL h' a nss := x.keep k

section
variable {prog : Program} {w : World} {A : Around} {E : Value → Shared → Prop} {s : Shared} {H0 Z : Heap} {L a : Addr} {pm : Value} {l : List (Str × Value)} {hv sv tv cv : Option Value} {h : Heap}

/-- _law_all(copied, starts, goals[k]) -/
theorem l_due {G D sl : Addr} {vs : List Value} {gs : List Int} {st : List Int} {tb : Int → Option (List Int)} {n k kd : Nat} {g : Int} {res : List (List Int)} {p1 p2 p3 p4 p5 p6 p7 : Pos} {Q : Value → Shared → Prop} (R : Roomy A) (ST : Stat H0) (FN : Fns H0) (x : SL H0 Z L l hv sv tv cv s.heap)
    (hc : l.lookup (Str.ofString "copied") = some (.ref D)) (hs : l.lookup (Str.ofString "starts") = some (.ref sl)) (hg : l.lookup (Str.ofString "goals") = some (.ref G))
    (hG : Z.get? G = some (lob vs 0)) (hvs : IntsAre vs gs) (hk : gs[k]? = some g) (hk9 : k < 2 ^ 20) (PD : PdOk prog w Z D tb) (hsl : IL Z sl st) (hAL : AL tb (fun k => st.any (· == k)) n [[g]] [] res) (hlen : res.length < 128)
    (hQ : ∀ d h' t', s.heap.StaysIn h' → LL h' d (srt res) → Q (.ref d) { s with heap := h', toks := t' }) :
    wpAny (model prog w) A (eval (.Call (.Name "_law_all" p1) [.Name "copied" p2, .Name "starts" p3, .Subscript (.Name "goals" p4) (.Constant (.int (k : Nat)) kd p5) p6] [] p7) (lenv pm L a)) Q E s := by
  obtain ⟨o, pmc, ho, hd⟩ := (x.fns FN).f82
  obtain ⟨tx, htx⟩ := ia_get hvs hk
  refine f3 (l_fn pm L a) (x.stat ST) (by rfl) (fun _ _ N => N.all) hd (x.nm hc (x.nm hs (ev_idx (x.nm hg ⟨G, vs, 0, _, rfl, x.z _ _ hG, htx, hk9, fun t => ⟨ho, ?_⟩⟩)))) (by rfl)
  refine law_all (s := { s with toks := t }) R (x.stat ST) (x.fns FN) ?_ (hsl.keep x.z) hAL hlen fun d h' t' k1 _ k2 => hQ d h' t' k1 k2
  obtain ⟨e, kvs, hd, hv⟩ := PD
  refine ⟨e, kvs, hd.keep x.z, fun k => ?_⟩
  have := hv k
  cases e : tb k with
  | none => rw [e] at this; exact this
  | some r => rw [e] at this; obtain ⟨b, h1, h2⟩ := this; exact ⟨b, h1, h2.keep x.z⟩

theorem l_seg11 {G D sl : Addr} {vs : List Value} {g1 g2 : Int} {st : List Int} {tb : Int → Option (List Int)} {n1 n2 : Nat} {L1 L2 : List (List Int)} {rest : List Stmt} {Q : Flow → Shared → Prop} (R : Roomy A) (ST : Stat H0) (FN : Fns H0) (x : SL H0 Z L l hv sv tv cv s.heap)
    (hc : l.lookup (Str.ofString "copied") = some (.ref D)) (hs : l.lookup (Str.ofString "starts") = some (.ref sl)) (hg : l.lookup (Str.ofString "goals") = some (.ref G))
    (hG : Z.get? G = some (lob vs 0)) (hvs : IntsAre vs [g1, g2]) (PD : PdOk prog w Z D tb) (hsl : IL Z sl st)
    (hA1 : AL tb (fun k => st.any (· == k)) n1 [[g1]] [] L1) (hl1 : L1.length < 128) (hA2 : AL tb (fun k => st.any (· == k)) n2 [[g2]] [] L2) (hl2 : L2.length < 128)
    (hQ : ∀ U d1 d2 h' t' Z', SL H0 Z' L ((Str.ofString "due", .ref U) :: l) hv sv tv cv h' → Z.StaysIn Z' → Z'.get? U = some (lob [.ref d1, .ref d2] 0) → LL Z' d1 (srt L1) → LL Z' d2 (srt L2) →
      wpAny (model prog w) A (execs rest (lenv pm L a)) Q E { s with heap := h', toks := t' }) :
    wpAny (model prog w) A (execs (lS 11 :: rest) (lenv pm L a)) Q E s := by
  refine wpAny_execs_cons ?_
  show wpAny _ _ (exec (.Assign [.Name _ _] (.List [.Call (.Name _ _) [.Name _ _, .Name _ _, .Subscript (.Name _ _) (.Constant (.int ((0 : Nat) : Int)) _ _) _] [] _, .Call (.Name _ _) [.Name _ _, .Name _ _, .Subscript (.Name _ _) (.Constant (.int ((1 : Nat) : Int)) _ _) _] [] _] _) _) _) _ _ _
  refine wpAny_Assign_Name (wpAny_List (wpAny_items_cons (l_due R ST FN x hc hs hg hG hvs (by rfl) (by omega) PD hsl hA1 hl1 fun d1 h1 k1 s1 r1 => ?_)))
  have x1 := x.stays s1
  refine wpAny_items_cons (l_due (s := { s with heap := h1, toks := k1 }) R ST FN x1 hc hs hg hG hvs (by rfl) (by omega) PD hsl hA2 hl2 fun d2 h2 k2 s2 r2 => ?_)
  refine wpAny_items_nil ⟨by show 2 ≤ 2 ^ 24; omega, ?_⟩
  have s12 := stays_trans s1 s2
  have x2 := x1.stays s2
  have hG0 := get_size h2
  have hG1 := Heap.get?_push_size h2 (o := { cls := .type "list", data := .seq [Value.ref d1, Value.ref d2].toArray }) rfl
  have s3 : h2.StaysIn (h2.push { cls := .type "list", data := .seq [Value.ref d1, Value.ref d2].toArray }) := keep_push _
  dsimp only
  generalize h2.push { cls := .type "list", data := .seq [Value.ref d1, Value.ref d2].toArray } = h3 at *
  have hUr := x2.nreg hG0
  generalize h2.objs.size = U at *
  have x3 := x2.stays s3
  refine SL.st (s := { s with heap := h3, toks := _ }) x3 fun h4 t4 x4 e4 => ?_
  have fz4 : Fz h3 h4 := Fz.of_reg x3.lf (r0 L) e4
  refine hQ U d1 d2 h4 t4 _ x4.grow x4.grown ?_ ?_ ?_
  · rw [frz_get _ hUr]
    exact e4 _ _ (fun q => hUr (q ▸ r0 L)) hG1
  · exact ((r1.keep (stays_trans s2 s3)).fz fz4).frz x4.lf
  · exact ((r2.keep s3).fz fz4).frz x4.lf
end
end Mine
end

section -- LawO
set_option linter.unusedVariables false
namespace Mine
open PySem PyProof.Rows PySem.W PySem.Calls PySem.Spec
open Sem (wp)

/-- what the law's end asks of what lies outside the heap -/
def Out (s s' : Shared) : Prop := s'.os = s.os ∧ (AllBare s.gens → AllBare s'.gens)
theorem Out.trans {s s' s'' : Shared} (x : Out s s') (y : Out s' s'') : Out s s'' := ⟨y.1.trans x.1, fun h => y.2 (x.2 h)⟩
theorem Out.refl (s : Shared) : Out s s := ⟨rfl, id⟩
theorem ChgG.out {g : Nat} {F : Addr → Prop} {s s' : Shared} (x : ChgG g F s s') : Out s s' := ⟨x.os, x.bare⟩

section
variable {prog : Program} {w : World} {A : Around} {E : Value → Shared → Prop} {s : Shared} {H0 Z : Heap} {L a : Addr} {pm : Value} {l : List (Str × Value)} {hv sv tv cv : Option Value} {h : Heap}

/-- _build_paths_from_predecessors(handed, goals[k], table) -/
theorem l_make {T G hd : Addr} {vs : List Value} {gs : List Int} {st order : List Int} {kvs : List (Int × Value)} {once : Bool} {tb : Int → Option (List Int)} {k kd : Nat} {g : Int} {rg : List Int} {W : List (List Int)} {p1 p2 p3 p4 p5 p6 p7 : Pos} {Q : Value → Shared → Prop} (R : Roomy A) (ST : Stat H0) (FN : Fns H0) (x : SL H0 Z L l hv sv (some (.ref T)) cv s.heap)
    (hh : l.lookup (Str.ofString "handed") = some (.ref hd)) (hg : l.lookup (Str.ofString "goals") = some (.ref G)) (hG : Z.get? G = some (lob vs 0)) (hvs : IntsAre vs gs) (hk : gs[k]? = some g) (hk9 : k < 2 ^ 20)
    (HK : HandedOk prog w Z hd st) (TB : TbOk prog w Z T kvs order st once tb) (hr : tb g = some rg) (gy : GY tb (fun k => st.any (· == k)) true [(g, rg)] W)
    (hQ : ∀ a' L' s', s'.heap.get? a' ≠ none → GOk prog w Z (fun b => b = L') a' s.gens.size W s' → s.heap.StaysIn s'.heap → s.heap.get? L' = none → s.heap.get? a' = none → s'.gens.size = s.gens.size + 1 → (∀ i, i ≠ s.gens.size → s'.gens[i]? = s.gens[i]?) → Out s s' → Q (.ref a') s') :
    wpAny (model prog w) A (eval (.Call (.Name "_build_paths_from_predecessors" p1) [.Name "handed" p2, .Subscript (.Name "goals" p4) (.Constant (.int (k : Nat)) kd p5) p6, .Name "table" p3] [] p7) (lenv pm L a)) Q E s := by
  obtain ⟨o, pmc, ho, hd'⟩ := (x.fns FN).f70
  obtain ⟨tx, htx⟩ := ia_get hvs hk
  refine f3 (l_fn pm L a) (x.stat ST) (by rfl) (fun _ _ N => N.build) hd' (x.nm hh (ev_idx (x.nm hg ⟨G, vs, 0, _, rfl, x.z _ _ hG, htx, hk9, fun t => ?_⟩))) (by rfl)
  refine SL.nmt (s := { s with toks := t }) x ⟨ho, ?_⟩
  refine g_make (s := { s with toks := t }) R (x.stat ST) (x.fns FN) fun pm' L' a' h' t' m k1 hgen hne hL0 ha0 hm m1 m2 m3 => ?_
  obtain ⟨oL, esL, epL, hoL, hrL⟩ := id hm
  obtain ⟨oa, nma, qna, hoa, hca⟩ := id hgen
  refine hQ a' L' _ (by show h'.get? a' ≠ none; rw [hoa]; exact Option.some_ne_none _) ⟨hgen, .inl ⟨_, Array.getElem?_push_size, ?_⟩, fun b hb => ?_, fun b hb => ?_, fun q => hne q.symm⟩ k1 hL0 ha0 (Array.size_push _) (fun i hi => ?_) ⟨rfl, fun hb => hb.push rfl⟩
  · exact g_fresh TB.pd HK.src (ST.keep x.k) hr gy hm m1 m2 m3 (none_of_stays x.z hL0)
  · rw [hb]; exact none_of_stays x.z hL0
  · rw [hb]; show h'.get? L' ≠ none; rw [hoL]; exact Option.some_ne_none _
  · show (s.gens.push _)[i]? = _
    rw [Array.getElem?_push]
    rw [if_neg hi]

theorem l_seg12 {T G hd : Addr} {vs : List Value} {st order : List Int} {kvs : List (Int × Value)} {once : Bool} {tb : Int → Option (List Int)} {g1 g2 : Int} {rg : List Int} {W : List (List Int)} {Q : Flow → Shared → Prop} {rest : List Stmt} (R : Roomy A) (ST : Stat H0) (FN : Fns H0) (x : SL H0 Z L l hv sv (some (.ref T)) cv s.heap)
    (hh : l.lookup (Str.ofString "handed") = some (.ref hd)) (hg : l.lookup (Str.ofString "goals") = some (.ref G)) (hG : Z.get? G = some (lob vs 0)) (hvs : IntsAre vs [g1, g2])
    (HK : HandedOk prog w Z hd st) (TB : TbOk prog w Z T kvs order st once tb) (hr : tb g1 = some rg) (gy : GY tb (fun k => st.any (· == k)) true [(g1, rg)] W) (hW : W.length ≤ 97)
    (hQ : ∀ P s' Z', SL H0 Z' L ((Str.ofString "plain", .ref P) :: l) hv sv (some (.ref T)) cv s'.heap → Z.StaysIn Z' → LL Z' P W → Out s s' → wpAny (model prog w) A (execs rest (lenv pm L a)) Q E s') :
    wpAny (model prog w) A (execs (lS 12 :: rest) (lenv pm L a)) Q E s := by
  refine wpAny_execs_cons ?_
  show wpAny _ _ (exec (.Assign [.Name _ _] (.Call (.Name _ _) [.Call (.Name _ _) [.Name _ _, .Subscript (.Name _ _) (.Constant (.int ((0 : Nat) : Int)) _ _) _, .Name _ _] [] _] [] _) _) _) _ _ _
  refine wpAny_Assign_Name (t1 (l_fn pm L a) (x.stat ST) (by rfl) (fun _ _ N => N.list) (l_make R ST FN x hh hg hG hvs (by rfl) (by omega) HK TB hr gy fun a' L' s1 _ GO k1 hL0 ha0 hz1 hg1 o1 => ?_))
  refine list_gen R (ST.keep x.k) (stays_trans x.z k1) GO (by omega) fun s2 D z2 hD0 hD2 c2 => ?_
  have k2 : s.heap.StaysIn s2.heap := fun b o e => c2.keep b o (fun hb => by
    rcases hb with hb | hb
    · rw [hb, hL0] at e; cases e
    · rw [k1 _ _ e] at hb; cases hb) (k1 _ _ e)
  have x2 := x.stays k2
  refine SL.st x2 fun h3 t3 x3 e3 => ?_
  have fz3 : Fz s2.heap h3 := Fz.of_reg x2.lf (r0 L) e3
  exact hQ D { s2 with heap := h3, toks := t3 } _ x3.grow x3.grown ((hD2.fz fz3).frz x3.lf) (o1.trans c2.out)
end
end Mine
end

section -- LawP
set_option linter.unusedVariables false
namespace Mine
open PySem PyProof.Rows PySem.W PySem.Calls PySem.Spec
open Sem (wp)

section
variable {prog : Program} {w : World} {A : Around} {E : Value → Shared → Prop} {s : Shared} {H0 Z : Heap} {L a : Addr} {pm : Value} {l : List (Str × Value)} {hv sv tv cv : Option Value} {h : Heap}

theorem l_seg13 {U d1 d2 P : Addr} {once : Bool} {W L1 : List (List Int)} {Q : Flow → Shared → Prop} {rest : List Stmt} (R : Roomy A) (ST : Stat H0) (FN : Fns H0) (x : SL H0 Z L l hv sv tv cv s.heap)
    (ho : l.lookup (Str.ofString "once") = some (.bool once)) (hp : l.lookup (Str.ofString "plain") = some (.ref P)) (hdue : l.lookup (Str.ofString "due") = some (.ref U))
    (hU : Z.get? U = some (lob [.ref d1, .ref d2] 0)) (hd1 : LL Z d1 (srt L1)) (hP : LL Z P W) (hW : W.length ≤ 97) (hWL : ∀ x, x ∈ W ↔ x ∈ L1) (hn : L1.Nodup) (hon : once = true → W.Nodup)
    (hQ : ∀ h' t', s.heap.StaysIn h' → wpAny (model prog w) A (execs rest (lenv pm L a)) Q E { s with heap := h', toks := t' }) :
    wpAny (model prog w) A (execs (lS 13 :: rest) (lenv pm L a)) Q E s := by
  refine wpAny_execs_cons ?_
  show wpAny _ _ (exec (.If (.Compare (.IfExp (.Name _ _) (.Call (.Name _ _) [.Name _ _] [] _) (.Call (.Name _ _) [.Name _ _] [] _) _) [.NotEq] [.Subscript (.Name _ _) (.Constant (.int ((0 : Nat) : Int)) _ _) _] _) _ [] _) _) _ _ _
  have hA64 : A.units + 64 < cLine := by have := R.units; omega
  have fin : ∀ (D : Addr) (h' : Heap) (t' : Nat) (p1 p2 p3 : Pos) (kd : Nat) (Q2 : Value → Shared → Prop), s.heap.StaysIn h' → LL h' D (srt L1) → (∀ t, Q2 (.bool false) { s with heap := h', toks := t }) →
      wpAny (model prog w) A (eval (.Subscript (.Name "due" p1) (.Constant (.int ((0 : Nat) : Int)) kd p2) p3) (lenv pm L a)) (fun v2 s₂ => wpAny (model prog w) A (compareOp .NotEq (.ref D) v2) Q2 E s₂) E { s with heap := h', toks := t' } := fun D h' t' p1 p2 p3 kd Q2 k1 hD hQ2 => by
    have x1 := x.stays k1
    refine ev_idx (SL.nm (s := { s with heap := h', toks := t' }) x1 hdue ⟨U, _, 0, .ref d1, rfl, x1.z _ _ hU, rfl, by omega, fun t => ?_⟩)
    refine ne_LL (s := { s with heap := h', toks := t }) hD (hd1.keep x1.z) hA64 ?_
    rw [show decide (srt L1 ≠ srt L1) = false by simp]
    exact hQ2 t
  refine wpAny_If (wpAny_isTrue_Compare1 (wpAny_IfExp (wpAny_isTrue_value (e := .Name _ _) (x.nm ho (wpAny_truthy_bool ?_)))))
  cases once with
  | true =>
    rw [if_pos rfl]
    refine b1 (l_fn pm L a) (x.stat ST) (by rfl) (fun _ _ N => N.sorted) (x.nm hp ?_)
    refine sorted_lists (by have := R.units; omega) (hP.keep x.z) (by omega) fun h' D2 k' hD0 _ hD2 => ?_
    rw [once_eq hWL (hon rfl) hn] at hD2
    refine fin D2 h' _ _ _ _ _ _ k' hD2 fun t => wpAny_truthy_bool ?_
    rw [if_neg Bool.false_ne_true]
    exact wpAny_execs_nil (hQ h' t k')
  | false =>
    rw [if_neg Bool.false_ne_true]
    obtain ⟨o, pmc, hof, hdf⟩ := (x.fns FN).f87
    refine f1 (l_fn pm L a) (x.stat ST) (by rfl) (fun _ _ N => N.plain) hdf (x.nm hp ⟨hof, ?_⟩)
    refine law_plain R (x.stat ST) (x.fns FN) (hP.keep x.z) (by omega) fun D2 h' t' k' _ hD2 => ?_
    rw [plain_eq hWL hn] at hD2
    refine fin D2 h' _ _ _ _ _ _ k' hD2 fun t => wpAny_truthy_bool ?_
    rw [if_neg Bool.false_ne_true]
    exact wpAny_execs_nil (hQ h' t k')
end
end Mine
end

section -- LawQ
set_option linter.unusedVariables false
namespace Mine
open PySem PyProof.Rows PySem.W PySem.Calls PySem.Spec
open Sem (wp)

/-- a heap without the objects of P -/
noncomputable def cut (P : Addr → Prop) (h : Heap) : Heap := { h with objs := h.objs.mapIdx fun i o => @ite _ (P i) (Classical.propDecidable _) { o with data := .freed } o }
theorem cut_get {P : Addr → Prop} (h : Heap) {b : Addr} (hb : ¬ P b) : (cut P h).get? b = h.get? b := by
  have e : (cut P h).objs[b]? = h.objs[b]? := by
    unfold cut
    simp only [Array.getElem?_mapIdx, if_neg hb]
    cases h.objs[b]? <;> rfl
  unfold Heap.get?
  rw [e]
theorem cut_none {P : Addr → Prop} (h : Heap) {b : Addr} (hb : P b) : (cut P h).get? b = none := by
  cases e : (cut P h).get? b with
  | none => rfl
  | some o =>
    exfalso
    obtain ⟨e1, e2⟩ := Heap.get?_some_iff.mp e
    unfold cut at e1
    simp only [Array.getElem?_mapIdx, if_pos hb] at e1
    cases q : h.objs[b]? with
    | none => rw [q] at e1; cases e1
    | some o' =>
      rw [q] at e1
      cases e1
      cases o'
      simp [Obj.isFreed] at e2
theorem cut_stays (P : Addr → Prop) (h : Heap) : (cut P h).StaysIn h := fun b o e => by
  by_cases q : P b
  · rw [cut_none h q] at e; cases e
  · rwa [cut_get h q] at e
theorem stays_cut {P : Addr → Prop} {Y h : Heap} (k : Y.StaysIn h) (n : ∀ b, P b → Y.get? b = none) : Y.StaysIn (cut P h) := fun b o e => by
  rw [cut_get h (fun q => by rw [n b q] at e; cases e)]; exact k b o e

/-- the law while the two walks are on their way -/
structure WS (prog : Program) (w : World) (H0 Z Y : Heap) (L : Addr) (l : List (Str × Value)) (hv sv tv cv : Option Value) (ex o1 o2 : Addr → Prop) (a1 a2 : Addr) (i1 i2 : Nat) (R1 R2 : List (List Int)) (s : Shared) : Prop where
  sl : SL H0 Y L l hv sv tv cv s.heap
  zy : Z.StaysIn Y
  g1 : GOk prog w Z o1 a1 i1 R1 s
  g2 : GOk prog w Z o2 a2 i2 R2 s
  y1 : ∀ b, o1 b → Y.get? b = none ∧ ¬ reg L b ∧ ¬ o2 b ∧ ¬ ex b
  y2 : ∀ b, o2 b → Y.get? b = none ∧ ¬ reg L b ∧ ¬ o1 b ∧ ¬ ex b
  ye : ∀ b, ex b → Y.get? b = none ∧ ¬ reg L b ∧ s.heap.get? b ≠ none
  ya : Y.get? a1 ≠ none ∧ Y.get? a2 ≠ none
  ne : i1 ≠ i2

section
variable {prog : Program} {w : World} {A : Around} {E : Value → Shared → Prop} {s : Shared} {H0 Z Y : Heap} {L a : Addr} {pm : Value} {l : List (Str × Value)} {hv sv tv cv : Option Value} {ex o1 o2 : Addr → Prop} {a1 a2 : Addr} {i1 i2 : Nat} {R1 R2 : List (List Int)}

theorem WS.swap (x : WS prog w H0 Z Y L l hv sv tv cv ex o1 o2 a1 a2 i1 i2 R1 R2 s) : WS prog w H0 Z Y L l hv sv tv cv ex o2 o1 a2 a1 i2 i1 R2 R1 s :=
  ⟨x.sl, x.zy, x.g2, x.g1, x.y2, x.y1, x.ye, x.ya.symm, x.ne.symm⟩

theorem WS.upd (x : WS prog w H0 Z Y L l hv sv tv cv ex o1 o2 a1 a2 i1 i2 R1 R2 s) {h' : Heap} {t : Nat} {l' : List (Str × Value)} (F : Addr → Prop) (sl : SL H0 Y L l' hv sv tv cv h')
    (k : ∀ b o, ¬ F b → s.heap.get? b = some o → h'.get? b = some o) (hF : ∀ b, F b → ¬ o1 b ∧ ¬ o2 b ∧ Y.get? b = none) (he : ∀ b, ex b → h'.get? b ≠ none) :
    WS prog w H0 Z Y L l' hv sv tv cv ex o1 o2 a1 a2 i1 i2 R1 R2 { s with heap := h', toks := t } where
  sl := sl
  zy := x.zy
  g1 := x.g1.move (fun b o hb e => k b o (fun q => by
    rcases hb with hb | rfl
    · exact (hF b q).1 hb
    · exact x.ya.1 (hF _ q).2.2) e) rfl
  g2 := x.g2.move (fun b o hb e => k b o (fun q => by
    rcases hb with hb | rfl
    · exact (hF b q).2.1 hb
    · exact x.ya.2 (hF _ q).2.2) e) rfl
  y1 := x.y1
  y2 := x.y2
  ye := fun b hb => ⟨(x.ye b hb).1, (x.ye b hb).2.1, he b hb⟩
  ya := x.ya
  ne := x.ne

theorem live_of {h h' : Heap} {b : Addr} (hl : h.get? b ≠ none) (k : ∀ o, h.get? b = some o → h'.get? b = some o) : h'.get? b ≠ none := by
  cases e : h.get? b with
  | none => exact absurd e hl
  | some o => rw [k o e]; exact Option.some_ne_none _

theorem WS.stays (x : WS prog w H0 Z Y L l hv sv tv cv ex o1 o2 a1 a2 i1 i2 R1 R2 s) {h' : Heap} {t : Nat} (k : s.heap.StaysIn h') :
    WS prog w H0 Z Y L l hv sv tv cv ex o1 o2 a1 a2 i1 i2 R1 R2 { s with heap := h', toks := t } :=
  x.upd (fun _ => False) (x.sl.stays k) (fun b o _ e => k b o e) (fun _ h => h.elim) fun b hb => live_of (x.ye b hb).2.2 (k b)

theorem WS.ext (x : WS prog w H0 Z Y L l hv sv tv cv ex o1 o2 a1 a2 i1 i2 R1 R2 s) {h' : Heap} {t : Nat} {b0 : Addr} (hr : ¬ reg L b0) (hY : Y.get? b0 = none) (h1 : ¬ o1 b0) (h2 : ¬ o2 b0) (k : Heap.ExtBut b0 s.heap h') (hl : h'.get? b0 ≠ none) :
    WS prog w H0 Z Y L l hv sv tv cv ex o1 o2 a1 a2 i1 i2 R1 R2 { s with heap := h', toks := t } :=
  x.upd (fun b => b = b0) (x.sl.ext hr hY k) (fun b o hb e => k b o hb e) (fun b hb => by rw [hb]; exact ⟨h1, h2, hY⟩) fun b hb => by
    by_cases q : b = b0
    · rw [q]; exact hl
    · exact live_of (x.ye b hb).2.2 fun o e => k b o q e

/-- a name is stored -/
theorem WS.st {n : Str} {v : Value} {Q : Unit → Shared → Prop} (x : WS prog w H0 Z Y L l hv sv tv cv ex o1 o2 a1 a2 i1 i2 R1 R2 s)
    (h : ∀ h' t, WS prog w H0 Z Y L ((n, v) :: l) hv sv tv cv ex o1 o2 a1 a2 i1 i2 R1 R2 { s with heap := h', toks := t } → Heap.ExtBut L s.heap h' → Q () { s with heap := h', toks := t })
    (hk : (lenv pm L a).kindOf n = some .local := by rfl) : wpAny (model prog w) A (storeName (lenv pm L a) n v) Q E s := by
  refine SL.st x.sl (fun h' t x' e => h h' t ?_ e) hk
  refine x.upd (fun b => b = L) x' (fun b o hb e' => e b o hb e') (fun b hb => ?_) fun b hb => live_of (x.ye b hb).2.2 fun o e' => e b o (fun q => (x.ye b hb).2.1 (q ▸ r0 L)) e'
  rw [hb]
  exact ⟨fun q => (x.y1 _ q).2.1 (r0 L), fun q => (x.y2 _ q).2.1 (r0 L), x.sl.zn L (r0 L)⟩

theorem WS.weak {l' : List (Str × Value)} (x : WS prog w H0 Z Y L l' hv sv tv cv ex o1 o2 a1 a2 i1 i2 R1 R2 s) (k : ∀ n v, l.lookup n = some v → l'.lookup n = some v) : WS prog w H0 Z Y L l hv sv tv cv ex o1 o2 a1 a2 i1 i2 R1 R2 s :=
  ⟨x.sl.weak k, x.zy, x.g1, x.g2, x.y1, x.y2, x.ye, x.ya, x.ne⟩

theorem WS.exs {ex' : Addr → Prop} (x : WS prog w H0 Z Y L l hv sv tv cv ex o1 o2 a1 a2 i1 i2 R1 R2 s) (h : ∀ b, ex' b → ex b ∨ (Y.get? b = none ∧ ¬ reg L b ∧ s.heap.get? b ≠ none ∧ ¬ o1 b ∧ ¬ o2 b)) :
    WS prog w H0 Z Y L l hv sv tv cv ex' o1 o2 a1 a2 i1 i2 R1 R2 s where
  sl := x.sl
  zy := x.zy
  g1 := x.g1
  g2 := x.g2
  y1 := fun b hb => ⟨(x.y1 b hb).1, (x.y1 b hb).2.1, (x.y1 b hb).2.2.1, fun q => by
    rcases h b q with h | h
    · exact (x.y1 b hb).2.2.2 h
    · exact h.2.2.2.1 hb⟩
  y2 := fun b hb => ⟨(x.y2 b hb).1, (x.y2 b hb).2.1, (x.y2 b hb).2.2.1, fun q => by
    rcases h b q with h | h
    · exact (x.y2 b hb).2.2.2 h
    · exact h.2.2.2.2 hb⟩
  ye := fun b hb => by
    rcases h b hb with h | h
    · exact x.ye b h
    · exact ⟨h.1, h.2.1, h.2.2.1⟩
  ya := x.ya
  ne := x.ne

def away (L : Addr) (ex o1 o2 : Addr → Prop) (b : Addr) : Prop := o1 b ∨ o2 b ∨ ex b ∨ reg L b

theorem WS.yaway (x : WS prog w H0 Z Y L l hv sv tv cv ex o1 o2 a1 a2 i1 i2 R1 R2 s) {b : Addr} (h : away L ex o1 o2 b) : Y.get? b = none := by
  rcases h with h | h | h | h
  · exact (x.y1 b h).1
  · exact (x.y2 b h).1
  · exact (x.ye b h).1
  · exact x.sl.zn b h
theorem WS.grown (x : WS prog w H0 Z Y L l hv sv tv cv ex o1 o2 a1 a2 i1 i2 R1 R2 s) : Y.StaysIn (cut (away L ex o1 o2) s.heap) := stays_cut x.sl.z fun _ h => x.yaway h
theorem WS.grow (x : WS prog w H0 Z Y L l hv sv tv cv ex o1 o2 a1 a2 i1 i2 R1 R2 s) : WS prog w H0 Z (cut (away L ex o1 o2) s.heap) L l hv sv tv cv ex o1 o2 a1 a2 i1 i2 R1 R2 s where
  sl := ⟨x.sl.lf, cut_stays _ _, fun b r => cut_none _ (.inr (.inr (.inr r))), stays_trans x.sl.k x.grown⟩
  zy := stays_trans x.zy x.grown
  g1 := x.g1
  g2 := x.g2
  y1 := fun b hb => ⟨cut_none _ (.inl hb), (x.y1 b hb).2⟩
  y2 := fun b hb => ⟨cut_none _ (.inr (.inl hb)), (x.y2 b hb).2⟩
  ye := fun b hb => ⟨cut_none _ (.inr (.inr (.inl hb))), (x.ye b hb).2⟩
  ya := ⟨live_of x.ya.1 (x.grown a1), live_of x.ya.2 (x.grown a2)⟩
  ne := x.ne

theorem LF.live {h : Heap} (x : LF h L l hv sv tv cv) {b : Addr} (r : reg L b) : h.get? b ≠ none := by
  rcases r with rfl | rfl | rfl | rfl | rfl
  · obtain ⟨m, ⟨o', es, ep, ho, hd, _⟩, _⟩ := x.ns; rw [ho]; exact Option.some_ne_none _
  · obtain ⟨o', ho, hd⟩ := x.c1; rw [ho]; exact Option.some_ne_none _
  · obtain ⟨o', ho, hd⟩ := x.c2; rw [ho]; exact Option.some_ne_none _
  · obtain ⟨o', ho, hd⟩ := x.c3; rw [ho]; exact Option.some_ne_none _
  · obtain ⟨o', ho, hd⟩ := x.c4; rw [ho]; exact Option.some_ne_none _

theorem LF.agree {h h' : Heap} (x : LF h L l hv sv tv cv) (k : ∀ b o, reg L b → h.get? b = some o → h'.get? b = some o) : LF h' L l hv sv tv cv where
  ns := let ⟨m, ⟨o, es, ep, ho, r⟩, q⟩ := x.ns; ⟨m, ⟨o, es, ep, k _ _ (r0 L) ho, r⟩, q⟩
  c1 := let ⟨o, ho, r⟩ := x.c1; ⟨o, k _ _ (r1 L) ho, r⟩
  c2 := let ⟨o, ho, r⟩ := x.c2; ⟨o, k _ _ (r2 L) ho, r⟩
  c3 := let ⟨o, ho, r⟩ := x.c3; ⟨o, k _ _ (r3 L) ho, r⟩
  c4 := let ⟨o, ho, r⟩ := x.c4; ⟨o, k _ _ (r4 L) ho, r⟩

/-- a waking of the first walk keeps all the rest -/
theorem WS.woken {o1' : Addr → Prop} {R1' : List (List Int)} {s' : Shared} (x : WS prog w H0 Z Y L l hv sv tv cv ex o1 o2 a1 a2 i1 i2 R1 R2 s) (c : ChgG i1 (fun b => o1 b ∨ s.heap.get? b = none) s s')
    (G : GOk prog w Z o1' a1 i1 R1' s') (sub : ∀ b, o1' b → o1 b ∨ s.heap.get? b = none) : WS prog w H0 Z Y L l hv sv tv cv ex o1' o2 a1 a2 i1 i2 R1' R2 s' := by
  have kk : ∀ b o, ¬ o1 b → s.heap.get? b = some o → s'.heap.get? b = some o := fun b o hb e => c.keep b o (fun q => by
    rcases q with q | q
    · exact hb q
    · rw [q] at e; cases e) e
  have y0 : ∀ b, s.heap.get? b = none → Y.get? b = none := fun b hb => none_of_stays x.sl.z hb
  refine ⟨⟨x.sl.lf.agree fun b o r e => kk b o (fun q => (x.y1 b q).2.1 r) e, fun b o e => kk b o (fun q => by rw [(x.y1 b q).1] at e; cases e) (x.sl.z b o e), x.sl.zn, x.sl.k⟩, x.zy, G, x.g2.move (fun b o hb e => kk b o (fun q => ?_) e) (c.gens _ x.ne.symm), fun b hb => ?_, fun b hb => ?_, fun b hb => ?_, x.ya, x.ne⟩
  · rcases hb with hb | rfl
    · exact (x.y1 b q).2.2.1 hb
    · exact x.ya.2 (x.y1 _ q).1
  · rcases sub b hb with q | q
    · exact x.y1 b q
    · exact ⟨y0 b q, fun r => x.sl.lf.live r q, fun h2 => x.g2.live b h2 q, fun he => (x.ye b he).2.2 q⟩
  · refine ⟨(x.y2 b hb).1, (x.y2 b hb).2.1, fun q => ?_, (x.y2 b hb).2.2.2⟩
    rcases sub b q with q | q
    · exact (x.y2 b hb).2.2.1 q
    · exact x.g2.live b hb q
  · exact ⟨(x.ye b hb).1, (x.ye b hb).2.1, live_of (x.ye b hb).2.2 fun o e => kk b o (fun q => (x.y1 b q).2.2.2 hb) e⟩

theorem WS.exk {s' : Shared} (x : WS prog w H0 Z Y L l hv sv tv cv ex o1 o2 a1 a2 i1 i2 R1 R2 s) (c : ChgG i1 (fun b => o1 b ∨ s.heap.get? b = none) s s') {b : Addr} {o : Obj} (hb : ex b) (e : s.heap.get? b = some o) : s'.heap.get? b = some o :=
  c.keep b o (fun q => by
    rcases q with q | q
    · exact (x.y1 b q).2.2.2 hb
    · rw [q] at e; cases e) e

theorem WS.next_told {w1 : List Int} {Q : Option Value → Shared → Prop} (R : Room A.in1) (ST : Stat H0) (x : WS prog w H0 Z Y L l hv sv tv cv ex o1 o2 a1 a2 i1 i2 (w1 :: R1) R2 s) (hz : H0.StaysIn Z)
    (hQ : ∀ s' D o1', WS prog w H0 Z Y L l hv sv tv cv ex o1' o2 a1 a2 i1 i2 R1 R2 s' → IL s'.heap D w1 → Y.get? D = none → ¬ reg L D → ¬ o1' D → ¬ o2 D → ¬ ex D → Out s s' → (∀ b o, ex b → s.heap.get? b = some o → s'.heap.get? b = some o) → Q (some (.ref D)) s') :
    wpAny (model prog w) A (pyNext (.ref a1)) Q E s := by
  refine pyNext_told R (ST.keep hz) (stays_trans x.zy x.sl.z) x.g1 fun s' D own' t => ?_
  have key : Y.get? D = none ∧ ¬ reg L D ∧ ¬ o2 D ∧ ¬ ex D := by
    rcases t.inO with q | q
    · exact x.y1 D q
    · exact ⟨none_of_stays x.sl.z q, fun r => x.sl.lf.live r q, fun h2 => x.g2.live D h2 q, fun he => (x.ye D he).2.2 q⟩
  exact hQ s' D own' (x.woken t.chg t.ok t.sub) t.il key.1 key.2.1 t.nown key.2.2.1 key.2.2.2 t.chg.out fun b o hb e => x.exk t.chg hb e

theorem WS.next_end {Q : Option Value → Shared → Prop} (R : Room A.in1) (ST : Stat H0) (x : WS prog w H0 Z Y L l hv sv tv cv ex o1 o2 a1 a2 i1 i2 [] R2 s) (hz : H0.StaysIn Z)
    (hQ : ∀ s', WS prog w H0 Z Y L l hv sv tv cv ex (fun _ => False) o2 a1 a2 i1 i2 [] R2 s' → Out s s' → (∀ b o, ex b → s.heap.get? b = some o → s'.heap.get? b = some o) → Q none s') :
    wpAny (model prog w) A (pyNext (.ref a1)) Q E s := by
  refine pyNext_end R (ST.keep hz) (stays_trans x.zy x.sl.z) x.g1 fun s' G c => ?_
  exact hQ s' (x.woken c G fun _ h => h.elim) c.out fun b o hb e => x.exk c hb e
end
end Mine
end

section -- LawR
set_option linter.unusedVariables false
namespace Mine
open PySem PyProof.Rows PySem.W PySem.Calls PySem.Spec
open Sem (wp)

section
variable {prog : Program} {w : World} {A : Around} {E : Value → Shared → Prop} {s : Shared} {H0 Z Y : Heap} {L a : Addr} {pm : Value} {l : List (Str × Value)} {hv sv tv cv : Option Value}

theorem l_seg14 {T G hd : Addr} {vs : List Value} {st order : List Int} {kvs : List (Int × Value)} {once : Bool} {tb : Int → Option (List Int)} {g1 g2 : Int} {rg1 rg2 : List Int} {W1 W2 : List (List Int)} {Q : Flow → Shared → Prop} {rest : List Stmt} (R : Roomy A) (ST : Stat H0) (FN : Fns H0) (x : SL H0 Z L l hv sv (some (.ref T)) cv s.heap)
    (hh : l.lookup (Str.ofString "handed") = some (.ref hd)) (hg : l.lookup (Str.ofString "goals") = some (.ref G)) (hG : Z.get? G = some (lob vs 0)) (hvs : IntsAre vs [g1, g2])
    (HK : HandedOk prog w Z hd st) (TB : TbOk prog w Z T kvs order st once tb) (hr1 : tb g1 = some rg1) (gy1 : GY tb (fun k => st.any (· == k)) true [(g1, rg1)] W1) (hr2 : tb g2 = some rg2) (gy2 : GY tb (fun k => st.any (· == k)) true [(g2, rg2)] W2)
    (hQ : ∀ wk a1 a2 o1 o2 i1 i2 s' Y, WS prog w H0 Z Y L ((Str.ofString "walks", .ref wk) :: l) hv sv (some (.ref T)) cv (fun _ => False) o1 o2 a1 a2 i1 i2 W1 W2 s' → Y.get? wk = some (lob [.ref a1, .ref a2] 0) → Out s s' → wpAny (model prog w) A (execs rest (lenv pm L a)) Q E s') :
    wpAny (model prog w) A (execs (lS 14 :: rest) (lenv pm L a)) Q E s := by
  refine wpAny_execs_cons ?_
  show wpAny _ _ (exec (.Assign [.Name _ _] (.List [.Call (.Name _ _) [.Name _ _, .Subscript (.Name _ _) (.Constant (.int ((0 : Nat) : Int)) _ _) _, .Name _ _] [] _, .Call (.Name _ _) [.Name _ _, .Subscript (.Name _ _) (.Constant (.int ((1 : Nat) : Int)) _ _) _, .Name _ _] [] _] _) _) _) _ _ _
  refine wpAny_Assign_Name (wpAny_List (wpAny_items_cons (l_make R ST FN x hh hg hG hvs (by rfl) (by omega) HK TB hr1 gy1 fun a1 L1 s1 hal1 GO1 k1 hL1 ha1 hz1 hg1 ou1 => ?_)))
  have x1 := x.stays k1
  refine wpAny_items_cons (l_make (s := s1) R ST FN x1 hh hg hG hvs (by rfl) (by omega) HK TB hr2 gy2 fun a2 L2 s2 hal2 GO2 k2 hL2 ha2 hz2 hg2 ou2 => ?_)
  refine wpAny_items_nil ⟨by show 2 ≤ 2 ^ 24; omega, ?_⟩
  have x2 := x1.stays k2
  have hK0 := get_size s2.heap
  have hK1 := Heap.get?_push_size s2.heap (o := { cls := .type "list", data := .seq [Value.ref a1, Value.ref a2].toArray }) rfl
  have k3 : s2.heap.StaysIn (s2.heap.push { cls := .type "list", data := .seq [Value.ref a1, Value.ref a2].toArray }) := keep_push _
  dsimp only
  generalize s2.heap.push { cls := .type "list", data := .seq [Value.ref a1, Value.ref a2].toArray } = h3 at *
  have hKr := x2.nreg hK0
  generalize s2.heap.objs.size = wk at *
  have x3 := x2.stays k3
  have hL1r := x.nreg hL1
  have hL2r := x1.nreg hL2
  have ha1r := x.nreg ha1
  have ha2r := x1.nreg ha2
  have hL1l : s1.heap.get? L1 ≠ none := GO1.live L1 rfl
  have hL2l : s2.heap.get? L2 ≠ none := GO2.live L2 rfl
  have ne {h : Heap} {b c : Addr} (hb : h.get? b ≠ none) (hc : h.get? c = none) : b ≠ c := fun q => hb (by rw [q]; exact hc)
  have hL12 : L1 ≠ L2 := ne hL1l hL2
  refine SL.st (s := { s2 with heap := h3, toks := _ }) x3 fun h4 t4 x4 e4 => ?_
  have e3 : ∀ b o, b ≠ L → s2.heap.get? b = some o → h4.get? b = some o := fun b o hb e => e4 b o hb (k3 b o e)
  have rne {b : Addr} (r : ¬ reg L b) : b ≠ L := fun q => r (q ▸ r0 L)
  have hal1' : s2.heap.get? a1 ≠ none := live_of hal1 (k2 a1)
  have hL1l2 : s2.heap.get? L1 ≠ none := live_of hL1l (k2 L1)
  refine hQ wk a1 a2 (fun b => b = L1) (fun b => b = L2) s.gens.size s1.gens.size { s2 with heap := h4, toks := t4 } (cut (away L (fun _ => False) (fun b => b = L1) (fun b => b = L2)) h4) ?_ ?_ (ou1.trans ⟨ou2.1, ou2.2⟩)
  · have zc : Z.StaysIn (cut (away L (fun _ => False) (fun b => b = L1) (fun b => b = L2)) h4) := stays_cut x4.z fun b hb => by
      rcases hb with rfl | rfl | hb | hb
      · exact none_of_stays x.z hL1
      · exact none_of_stays x1.z hL2
      · exact hb.elim
      · exact x.zn b hb
    have aw : ∀ b, ¬ reg L b → b ≠ L1 → b ≠ L2 → ¬ away L (fun _ => False) (fun b => b = L1) (fun b => b = L2) b := fun b q1 q2 q3 hb => by
      rcases hb with hb | hb | hb | hb
      · exact q2 hb
      · exact q3 hb
      · exact hb
      · exact q1 hb
    refine ⟨⟨x4.lf, cut_stays _ _, fun b r => cut_none _ (.inr (.inr (.inr r))), stays_trans x4.k zc⟩, zc, ?_, ?_, ?_, ?_, fun _ h => h.elim, ⟨?_, ?_⟩, by rw [hz1]; omega⟩
    · refine GO1.move (fun b o hb e => ?_) ?_
      · refine e3 b o ?_ (k2 b o e)
        rcases hb with hb | rfl
        · rw [show b = L1 from hb]; exact rne hL1r
        · exact rne ha1r
      · exact hg2 _ (by rw [hz1]; omega)
    · refine GO2.move (fun b o hb e => ?_) rfl
      refine e3 b o ?_ e
      rcases hb with hb | rfl
      · rw [show b = L2 from hb]; exact rne hL2r
      · exact rne ha2r
    · intro b hb
      rw [show b = L1 from hb]
      exact ⟨cut_none _ (.inl rfl), hL1r, hL12, id⟩
    · intro b hb
      rw [show b = L2 from hb]
      exact ⟨cut_none _ (.inr (.inl rfl)), hL2r, hL12.symm, id⟩
    · rw [cut_get _ (aw _ ha1r (fun q => GO1.na q) (ne hal1 hL2))]
      exact live_of hal1' fun o e => e3 a1 o (rne ha1r) e
    · rw [cut_get _ (aw _ ha2r (ne hL1l ha2).symm (fun q => GO2.na q))]
      exact live_of hal2 fun o e => e3 a2 o (rne ha2r) e
  · rw [cut_get]
    · exact e4 _ _ (rne hKr) hK1
    · rintro (hb | hb | hb | hb)
      · exact ne hL1l2 hK0 hb.symm
      · exact ne hL2l hK0 hb.symm
      · exact hb
      · exact hKr hb
end
end Mine
end

section -- LawS
set_option linter.unusedVariables false
namespace Mine
open PySem PyProof.Rows PySem.W PySem.Calls PySem.Spec
open Sem (wp)

section
variable {prog : Program} {w : World} {A : Around} {E : Value → Shared → Prop} {s : Shared} {H0 Z Y : Heap} {L a : Addr} {pm : Value} {l : List (Str × Value)} {hv sv tv cv : Option Value} {ex o1 o2 : Addr → Prop} {a1 a2 : Addr} {i1 i2 : Nat} {R1 R2 : List (List Int)}

theorem WS.naway (x : WS prog w H0 Z Y L l hv sv tv cv ex o1 o2 a1 a2 i1 i2 R1 R2 s) {b : Addr} (h : s.heap.get? b = none) : ¬ away L ex o1 o2 b := by
  rintro (q | q | q | q)
  · exact x.g1.live b q h
  · exact x.g2.live b q h
  · exact (x.ye b q).2.2 h
  · exact x.sl.lf.live q h

theorem l_seg15 {Q : Flow → Shared → Prop} {rest : List Stmt} (R : Roomy A) (x : WS prog w H0 Z Y L l hv sv tv cv (fun _ => False) o1 o2 a1 a2 i1 i2 R1 R2 s)
    (hQ : ∀ td t1 t2 s' Y', WS prog w H0 Z Y' L ((Str.ofString "told", .ref td) :: l) hv sv tv cv (fun b => b = td) o1 o2 a1 a2 i1 i2 R1 R2 s' → Y.StaysIn Y' → s'.heap.IsList td #[.ref t1, .ref t2] → LL Y' t1 [] → LL Y' t2 [] → Out s s' → wpAny (model prog w) A (execs rest (lenv pm L a)) Q E s') :
    wpAny (model prog w) A (execs (lS 15 :: rest) (lenv pm L a)) Q E s := by
  refine wpAny_execs_cons ?_
  show wpAny _ _ (exec (.Assign [.Name _ _] (.List [.List [] _, .List [] _] _) _) _) _ _ _
  refine wpAny_Assign_Name (wpAny_List (wpAny_items_cons (wpAny_List (wpAny_items_nil ⟨by show 0 ≤ 2 ^ 24; omega, ?_⟩))))
  have f1 := x.naway (get_size s.heap)
  have g1 := Heap.get?_push_size s.heap (o := { cls := .type "list", data := .seq ([] : List Value).toArray }) rfl
  have k1 : s.heap.StaysIn (s.heap.push { cls := .type "list", data := .seq ([] : List Value).toArray }) := keep_push _
  dsimp only
  generalize s.heap.push { cls := .type "list", data := .seq ([] : List Value).toArray } = h1 at *
  generalize s.heap.objs.size = t1 at *
  have x1 := x.stays (t := s.toks) k1
  refine wpAny_items_cons (wpAny_List (wpAny_items_nil ⟨by show 0 ≤ 2 ^ 24; omega, ?_⟩))
  have f2 := x1.naway (get_size h1)
  have g2 := Heap.get?_push_size h1 (o := { cls := .type "list", data := .seq ([] : List Value).toArray }) rfl
  have k2 : h1.StaysIn (h1.push { cls := .type "list", data := .seq ([] : List Value).toArray }) := keep_push _
  dsimp only
  generalize h1.push { cls := .type "list", data := .seq ([] : List Value).toArray } = h2 at *
  generalize h1.objs.size = t2 at *
  have x2 := x.stays (t := s.toks) (stays_trans k1 k2)
  refine wpAny_items_nil ⟨by show 2 ≤ 2 ^ 24; omega, ?_⟩
  have n3 := get_size h2
  have f3 := x2.naway n3
  have g3 := Heap.get?_push_size h2 (o := { cls := .type "list", data := .seq [Value.ref t1, Value.ref t2].toArray }) rfl
  have k3 : h2.StaysIn (h2.push { cls := .type "list", data := .seq [Value.ref t1, Value.ref t2].toArray }) := keep_push _
  dsimp only
  generalize h2.push { cls := .type "list", data := .seq [Value.ref t1, Value.ref t2].toArray } = h3 at *
  have n3Y : Y.get? h2.objs.size = none := none_of_stays x2.sl.z n3
  generalize h2.objs.size = td at *
  have k13 := stays_trans k1 (stays_trans k2 k3)
  have x3 := (x.stays (t := s.toks) k13).exs (ex' := fun b => b = td) fun b hb => .inr (by
    rw [show b = td from hb]
    exact ⟨n3Y, fun r => f3 (.inr (.inr (.inr r))), by rw [g3]; exact Option.some_ne_none _, fun q => f3 (.inl q), fun q => f3 (.inr (.inl q))⟩)
  refine WS.st (s := { s with heap := h3, toks := s.toks }) x3 fun h4 t4 x4 e4 => ?_
  have hL : ¬ away L (fun _ => False) o1 o2 L → False := fun q => q (.inr (.inr (.inr (r0 L))))
  have neL {b : Addr} (q : ¬ away L (fun _ => False) o1 o2 b) : b ≠ L := fun e => hL (e ▸ q)
  have aw {b : Addr} (q : ¬ away L (fun _ => False) o1 o2 b) (hb : b ≠ td) : ¬ away L (fun b => b = td) o1 o2 b := fun r => by
    rcases r with r | r | r | r
    · exact q (.inl r)
    · exact q (.inr (.inl r))
    · exact hb r
    · exact q (.inr (.inr (.inr r)))
  have ne1 : t1 ≠ td := fun q => by rw [← q, k2 _ _ g1] at n3; cases n3
  have ne2 : t2 ≠ td := fun q => by rw [← q, g2] at n3; cases n3
  refine hQ td t1 t2 _ _ x4.grow x4.grown ⟨_, e4 _ _ (neL f3) g3, rfl, 0, rfl⟩ ⟨[], 0, ?_, .nil⟩ ⟨[], 0, ?_, .nil⟩ ⟨rfl, id⟩
  · rw [cut_get _ (aw f1 ne1)]
    exact e4 _ _ (neL f1) (k3 _ _ (k2 _ _ g1))
  · rw [cut_get _ (aw f2 ne2)]
    exact e4 _ _ (neL f2) (k3 _ _ g2)

def lFor16 : Stmt := nthS (bodyS (lS 16)) 0

theorem l_inner {k : Nat} {tk : Tok} {wk td t1 : Addr} {wv : List Value} {vt : Array Value} {D1 : List (List Int)} {Q : Flow → Shared → Prop} (hk : k < 2) (R : Roomy A) (ST : Stat H0) (hz : H0.StaysIn Z)
    (x : WS prog w H0 Z Y L l hv sv tv cv ex o1 o2 a1 a2 i1 i2 R1 R2 s) (hat : l.lookup (Str.ofString "at") = some (.int k tk)) (hwalks : l.lookup (Str.ofString "walks") = some (.ref wk)) (htold : l.lookup (Str.ofString "told") = some (.ref td)) (hway : l.lookup (Str.ofString "way") = none)
    (hwk : Y.get? wk = some (lob wv 0)) (hwv : wv[k]? = some (.ref a1)) (hex : ex td) (hTL : s.heap.IsList td vt) (hvt : vt[k]? = some (.ref t1)) (hD : LL Y t1 D1) (hlen : D1.length ≤ 1000) (hW : ∀ w ∈ R1, w.length ≤ 1000)
    (hQ : ∀ s' Y' o1' t1', WS prog w H0 Z Y' L l hv sv tv cv ex o1' o2 a1 a2 i1 i2 R1.tail R2 s' → Y.StaysIn Y' → s'.heap.IsList td (vt.setIfInBounds k (.ref t1')) → LL Y' t1' (D1 ++ R1.take 1) →
      (∀ b o, ex b → b ≠ td → s.heap.get? b = some o → s'.heap.get? b = some o) → Out s s' → Q .next s') :
    wpAny (model prog w) A (execs (bodyS lFor16) (lenv pm L a)) Q E s := by
  have IF := l_fn pm L a
  obtain ⟨oT, hoT, hcT, nT, hdT⟩ := id hTL
  have hks : k < vt.size := (Array.getElem?_eq_some_iff.mp hvt).1
  have hvtk : vt[k]? = some (.ref t1) := hvt
  have hkw : k < wv.length := (List.getElem?_eq_some_iff.mp hwv).1
  have hk63 : (k : Int) < 2 ^ 63 := by omega
  show wpAny _ _ (execs [.Assign [.Name _ _] (.Call (.Name _ _) [.Subscript (.Name _ _) (.Name _ _) _, .Constant .none _ _] [] _) _, .If (.Compare (.Name _ _) [.IsNot] [.Constant .none _ _] _) [.Assign [.Subscript (.Name _ _) (.Name _ _) _] (.BinOp (.Subscript (.Name _ _) (.Name _ _) _) .Add (.List [.Call (.Name _ _) [.Name _ _] [] _] _) _) _, .Expr (.Call (.Attribute (.Name _ _) _ _) [.Constant (.int 99) _ _] [] _) _] [] _] _) _ _ _
  refine wpAny_execs_cons (wpAny_Assign_Name (b2 IF (x.sl.stat ST) (by rfl) (fun _ _ N => N.next) (Subscript_Name (x.sl.nm hwalks (x.sl.nm hat ⟨"list", _, slot_list_getitem.lookup, ⟨_, x.sl.z _ _ hwk, rfl⟩, ?_⟩)))))
  refine wpAny_getItem_list (items := wv.toArray) ⟨_, x.sl.z _ _ hwk, rfl, 0, rfl⟩ (by omega) (by omega) (x := .ref a1) (by simpa using hwv) (wpAny_Constant_none (wpAny_next2 x.g1.gen ?_))
  cases R1 with
  | nil =>
    refine WS.next_end R.r2 ST x hz fun s1 x1 ou1 ke1 => ?_
    refine WS.st x1 fun h2 t2 x2 e2 => ?_
    refine wpAny_execs_cons (wpAny_If (wpAny_isTrue_Compare1 (x2.sl.nm (v := .none) (by rfl) (wpAny_Constant_none (wpAny_isNot_self (by rfl) (wpAny_truthy_bool ?_))))))
    rw [if_neg Bool.false_ne_true]
    refine wpAny_execs_nil (wpAny_execs_nil ?_)
    have x2w := x2.weak (weak_cons hway)
    have keep : ∀ b o, ex b → s.heap.get? b = some o → h2.get? b = some o := fun b o hb e => e2 b o (fun q => (x.ye b hb).2.1 (q ▸ r0 L)) (ke1 b o hb e)
    refine hQ _ _ _ t1 x2w.grow x2w.grown ⟨oT, keep _ _ hex hoT, hcT, nT, ?_⟩ ?_ (fun b o hb _ e => keep b o hb e) ou1
    · rw [hdT]
      congr 1
      apply Array.ext_getElem?
      intro j
      by_cases h : k = j
      · subst h; rw [Array.getElem?_setIfInBounds_self_of_lt hks]; exact hvtk
      · rw [Array.getElem?_setIfInBounds_ne h]
    · rw [List.take_nil, List.append_nil]; exact hD.keep x2w.grown
  | cons w1 R1 =>
    refine WS.next_told R.r2 ST x hz fun s1 D o1' x1 hw1 hDY hDr hD1 hD2 hDe ou1 ke1 => ?_
    refine WS.st x1 fun h2 t2 x2 e2 => ?_
    have hw2 : IL h2 D w1 := let ⟨us, n, ho, hi⟩ := hw1; ⟨us, n, e2 _ _ (fun q => hDr (q ▸ r0 L)) ho, hi⟩
    obtain ⟨us, nU, hoD, hui⟩ := id hw2
    have hul : us.length ≤ 1000 := by rw [ia_len hui]; exact hW _ (List.mem_cons_self ..)
    have keep2 : ∀ b o, ex b → s.heap.get? b = some o → h2.get? b = some o := fun b o hb e => e2 b o (fun q => (x.ye b hb).2.1 (q ▸ r0 L)) (ke1 b o hb e)
    refine wpAny_execs_cons (wpAny_If (wpAny_isTrue_Compare1 (x2.sl.nm (v := .ref D) (by rfl) (wpAny_Constant_none (wpAny_isNot_other (by rfl) (by simp) (wpAny_truthy_bool ?_))))))
    rw [if_pos rfl]
    have lk {n : Str} {v : Value} (h : l.lookup n = some v) : ((Str.ofString "way", Value.ref D) :: l).lookup n = some v := weak_cons hway n v h
    have hoT2 := keep2 _ _ hex hoT
    obtain ⟨vd, nd, hdo, hdi⟩ := id hD
    have hdl := ILs.length hdi
    have hdo2 := x2.sl.z _ _ hdo
    refine wpAny_execs_cons (wpAny_Assign_Subscript (wpAny_BinOp (Subscript_Name (x2.sl.nm (lk htold) (x2.sl.nm (lk hat) ⟨"list", _, slot_list_getitem.lookup, ⟨_, hoT2, hcT⟩, ?_⟩)))))
    refine wpAny_getItem_list (items := vt) ⟨_, hoT2, hcT, nT, hdT⟩ (by omega) (by omega) (x := .ref t1) (by simpa using hvtk) ?_
    refine wpAny_List (wpAny_items_cons (Mine.t1 IF (x2.sl.stat ST) (by rfl) (fun _ _ N => N.list) (x2.sl.nm (v := .ref D) (by rfl) ?_)))
    refine call_list_seq (items := us.toArray) D (.inl rfl) hoD rfl rfl (fun h3 c3 k3 hC => ?_) (by show _ ≤ 2 ^ 24; simp; omega)
    have nC := x2.naway (get_size h2)
    have dC : D ≠ h2.objs.size := fun q => by have := get_size h2; rw [← q, hoD] at this; cases this
    dsimp only at hC nC dC ⊢
    generalize h2.objs.size = C at *
    have x3 : WS prog w H0 Z Y L ((Str.ofString "way", Value.ref D) :: l) hv sv tv cv ex o1' o2 a1 a2 i1 i2 R1 R2 { s1 with heap := h3, toks := t2 } := WS.stays x2 (h' := h3) k3
    refine wpAny_items_nil ⟨by show 1 ≤ 2 ^ 24; omega, ?_⟩
    have k4 : h3.StaysIn (h3.push { cls := .type "list", data := .seq [Value.ref C].toArray }) := keep_push _
    have hB := Heap.get?_push_size h3 (o := { cls := .type "list", data := .seq [Value.ref C].toArray }) rfl
    dsimp only
    generalize h3.push { cls := .type "list", data := .seq [Value.ref C].toArray } = h4 at *
    generalize h3.objs.size = B at *
    have x4 : WS prog w H0 Z Y L ((Str.ofString "way", Value.ref D) :: l) hv sv tv cv ex o1' o2 a1 a2 i1 i2 R1 R2 { s1 with heap := h4, toks := t2 } := WS.stays x3 (h' := h4) k4
    refine P.add_list (items := vd.toArray) (n := nd) (items2 := #[Value.ref C]) (n2 := 0) (k4 _ _ (k3 _ _ hdo2)) hB ?_ (by show _ ≤ 2 ^ 24; simp; omega)
    have k5 : h4.StaysIn (h4.push { cls := .type "list", data := .seq (vd.toArray ++ #[Value.ref C]) }) := keep_push _
    have hN := Heap.get?_push_size h4 (o := { cls := .type "list", data := .seq (vd.toArray ++ #[Value.ref C]) }) rfl
    have nN := x4.naway (get_size h4)
    have dN : D ≠ h4.objs.size := fun q => by have := get_size h4; rw [← q, k4 _ _ (k3 _ _ hoD)] at this; cases this
    dsimp only at hN nN dN ⊢
    generalize h4.push { cls := .type "list", data := .seq (vd.toArray ++ #[Value.ref C]) } = h5 at *
    generalize h4.objs.size = N at *
    have x5 : WS prog w H0 Z Y L ((Str.ofString "way", Value.ref D) :: l) hv sv tv cv ex o1' o2 a1 a2 i1 i2 R1 R2 { s1 with heap := h5, toks := t2 } := WS.stays x4 (h' := h5) k5
    have k35 := stays_trans k3 (stays_trans k4 k5)
    have hoT5 := k35 _ _ hoT2
    refine SL.nm (s := { s1 with heap := h5, toks := t2 }) x5.sl (lk htold) (SL.nm (s := { s1 with heap := h5, toks := t2 }) x5.sl (lk hat) ?_)
    refine wpAny_setItem_list (s := { s1 with heap := h5, toks := t2 }) (items := vt) ⟨_, hoT5, hcT, nT, hdT⟩ (by omega) hk63 (by omega) fun h6 hL6 hs6 => ?_
    have hxe := x2.ye td hex
    have x6 : WS prog w H0 Z Y L ((Str.ofString "way", Value.ref D) :: l) hv sv tv cv ex o1' o2 a1 a2 i1 i2 R1 R2 { s1 with heap := h6, toks := t2 } :=
      WS.ext x5 (h' := h6) hxe.2.1 hxe.1 (fun q => (x2.y1 td q).2.2.2 hex) (fun q => (x2.y2 td q).2.2.2 hex) hs6.extBut (by obtain ⟨o, ho, _⟩ := hL6; rw [ho]; exact Option.some_ne_none _)
    have dT : D ≠ td := fun q => hDe (q ▸ hex)
    have nT' {b : Addr} (q : ¬ away L ex o1' o2 b) : b ≠ td := fun e => q (.inr (.inr (.inl (e ▸ hex))))
    have hoD6 := hs6.extBut _ _ dT (k35 _ _ hoD)
    refine wpAny_execs_cons (x_Expr (method1 F.plainAttrs_list F.slot_list_append type_list_append (SL.nm (s := { s1 with heap := h6, toks := t2 }) x6.sl (v := .ref D) (by rfl) ?_)))
    refine ⟨⟨_, hoD6, rfl⟩, fun a ha => by cases ha; exact ⟨_, hoD6, rfl⟩, ?_⟩
    refine P.append_list (wpAny_Constant_int ?_)
    refine ⟨us.toArray, nU, by show _ ≤ 2 ^ 24; simp; omega, hoD6, ?_⟩
    refine wpAny_execs_nil (wpAny_execs_nil ?_)
    have e7 : Heap.ExtBut D h6 (h6.update D (Obj.mapSeq fun xs => xs.push (Value.int 99 t2))) := fun b o hb e => by rw [Heap.get?_update_other _ _ (Ne.symm hb)]; exact e
    have x7 : WS prog w H0 Z Y L ((Str.ofString "way", Value.ref D) :: l) hv sv tv cv ex o1' o2 a1 a2 i1 i2 R1 R2 { s1 with heap := h6.update D (Obj.mapSeq fun xs => xs.push (Value.int 99 t2)), toks := t2 + 1 } :=
      WS.ext x6 (h' := h6.update D (Obj.mapSeq fun xs => xs.push (Value.int 99 t2))) hDr hDY hD1 hD2 e7 (by rw [IsL.update hoD6]; exact Option.some_ne_none _)
    generalize h6.update D (Obj.mapSeq fun xs => xs.push (Value.int 99 t2)) = h7 at *
    have x7w := x7.weak (weak_cons hway)
    refine hQ _ _ o1' N x7w.grow x7w.grown ?_ ?_ (fun b o hb hbt e => ?_) ou1
    · obtain ⟨o, ho, r⟩ := hL6
      rw [Int.toNat_natCast] at r
      exact ⟨o, e7 _ _ dT.symm ho, r⟩
    · refine ⟨vd ++ [.ref C], 0, ?_, ?_⟩
      · rw [cut_get _ nN]
        refine e7 _ _ dN.symm (hs6.extBut _ _ (nT' nN) ?_)
        rw [hN]; simp [lob]
      · have hrow : IL (cut (away L ex o1' o2) h7) C w1 := by
          refine ⟨us, c3, ?_, hui⟩
          rw [cut_get _ nC]
          exact e7 _ _ dC.symm (hs6.extBut _ _ (nT' nC) (k5 _ _ (k4 _ _ hC)))
        exact ILs.append (hdi.keep x7w.grown) (.cons ⟨C, rfl, hrow⟩ .nil)
    · exact e7 _ _ (fun q => hDe (q ▸ hb)) (hs6.extBut _ _ hbt (k35 _ _ (keep2 b o hb e)))
end
end Mine
end

section -- LawT
set_option linter.unusedVariables false
namespace Mine
open PySem PyProof.Rows PySem.W PySem.Calls PySem.Spec
open Sem (wp)

/-- c1 ways of the first walk and c2 of the second are told -/
def TS (prog : Program) (w : World) (H0 Z Y0 : Heap) (L : Addr) (l : List (Str × Value)) (hv sv tv cv : Option Value) (a1 a2 : Addr) (i1 i2 : Nat) (W1 W2 : List (List Int)) (wk td : Addr) (ex : Addr → Prop) (c1 c2 : Nat) (s : Shared) : Prop :=
  ∃ Y o1 o2 t1 t2, WS prog w H0 Z Y L l hv sv tv cv ex o1 o2 a1 a2 i1 i2 (W1.drop c1) (W2.drop c2) s ∧ Y0.StaysIn Y ∧ Y.get? wk = some (lob [.ref a1, .ref a2] 0) ∧ s.heap.IsList td #[.ref t1, .ref t2] ∧ LL Y t1 (W1.take c1) ∧ LL Y t2 (W2.take c2)

section
variable {prog : Program} {w : World} {A : Around} {E : Value → Shared → Prop} {s : Shared} {H0 Z Y0 : Heap} {L a : Addr} {pm : Value} {l : List (Str × Value)} {hv sv tv cv : Option Value} {ex : Addr → Prop} {a1 a2 : Addr} {i1 i2 : Nat} {W1 W2 : List (List Int)} {wk td : Addr} {c1 c2 : Nat}

theorem TS.stays (x : TS prog w H0 Z Y0 L l hv sv tv cv a1 a2 i1 i2 W1 W2 wk td ex c1 c2 s) {h' : Heap} {t : Nat} (k : s.heap.StaysIn h') : TS prog w H0 Z Y0 L l hv sv tv cv a1 a2 i1 i2 W1 W2 wk td ex c1 c2 { s with heap := h', toks := t } :=
  let ⟨Y, o1, o2, t1, t2, x1, y, w1, ⟨o, ho, r⟩, l1, l2⟩ := x
  ⟨Y, o1, o2, t1, t2, x1.stays k, y, w1, ⟨o, k _ _ ho, r⟩, l1, l2⟩

theorem TS.extEx (x : TS prog w H0 Z Y0 L l hv sv tv cv a1 a2 i1 i2 W1 W2 wk td ex c1 c2 s) {h' : Heap} {t : Nat} {b0 : Addr} (hb : ex b0) (hne : b0 ≠ td) (k : Heap.ExtBut b0 s.heap h') (hl : h'.get? b0 ≠ none) :
    TS prog w H0 Z Y0 L l hv sv tv cv a1 a2 i1 i2 W1 W2 wk td ex c1 c2 { s with heap := h', toks := t } :=
  let ⟨Y, o1, o2, t1, t2, x1, y, w1, ⟨o, ho, r⟩, l1, l2⟩ := x
  ⟨Y, o1, o2, t1, t2, x1.ext (x1.ye b0 hb).2.1 (x1.ye b0 hb).1 (fun q => (x1.y1 b0 q).2.2.2 hb) (fun q => (x1.y2 b0 q).2.2.2 hb) k hl, y, w1, ⟨o, k _ _ hne.symm ho, r⟩, l1, l2⟩

theorem TS.push (x : TS prog w H0 Z Y0 L l hv sv tv cv a1 a2 i1 i2 W1 W2 wk td ex c1 c2 s) {h' : Heap} {t : Nat} {b0 : Addr} (k : s.heap.StaysIn h') (h0 : s.heap.get? b0 = none) (h1 : h'.get? b0 ≠ none) :
    TS prog w H0 Z Y0 L l hv sv tv cv a1 a2 i1 i2 W1 W2 wk td (fun b => ex b ∨ b = b0) c1 c2 { s with heap := h', toks := t } := by
  obtain ⟨Y, o1, o2, t1, t2, x1, y, w1, ⟨o, ho, r⟩, l1, l2⟩ := x
  have na := x1.naway h0
  refine ⟨Y, o1, o2, t1, t2, (x1.stays (t := t) k).exs fun b hb => ?_, y, w1, ⟨o, k _ _ ho, r⟩, l1, l2⟩
  rcases hb with hb | rfl
  · exact .inl hb
  · exact .inr ⟨none_of_stays x1.sl.z h0, fun q => na (.inr (.inr (.inr q))), h1, fun q => na (.inl q), fun q => na (.inr (.inl q))⟩

theorem TS.less {ex' : Addr → Prop} (x : TS prog w H0 Z Y0 L l hv sv tv cv a1 a2 i1 i2 W1 W2 wk td ex c1 c2 s) (h : ∀ b, ex' b → ex b) : TS prog w H0 Z Y0 L l hv sv tv cv a1 a2 i1 i2 W1 W2 wk td ex' c1 c2 s :=
  let ⟨Y, o1, o2, t1, t2, x1, r⟩ := x
  ⟨Y, o1, o2, t1, t2, x1.exs fun b hb => .inl (h b hb), r⟩

theorem TS.weak {l' : List (Str × Value)} (x : TS prog w H0 Z Y0 L l' hv sv tv cv a1 a2 i1 i2 W1 W2 wk td ex c1 c2 s) (k : ∀ n v, l.lookup n = some v → l'.lookup n = some v) : TS prog w H0 Z Y0 L l hv sv tv cv a1 a2 i1 i2 W1 W2 wk td ex c1 c2 s :=
  let ⟨Y, o1, o2, t1, t2, x1, r⟩ := x
  ⟨Y, o1, o2, t1, t2, x1.weak k, r⟩

theorem TS.nL (x : TS prog w H0 Z Y0 L l hv sv tv cv a1 a2 i1 i2 W1 W2 wk td ex c1 c2 s) {b : Addr} (hb : ex b) : b ≠ L := by
  obtain ⟨Y, o1, o2, t1, t2, x1, r⟩ := x
  exact fun q => (x1.ye b hb).2.1 (q ▸ r0 L)

theorem TS.st {n : Str} {v : Value} {Q : Unit → Shared → Prop} (x : TS prog w H0 Z Y0 L l hv sv tv cv a1 a2 i1 i2 W1 W2 wk td ex c1 c2 s) (htd : ex td)
    (h : ∀ h' t, TS prog w H0 Z Y0 L ((n, v) :: l) hv sv tv cv a1 a2 i1 i2 W1 W2 wk td ex c1 c2 { s with heap := h', toks := t } → Heap.ExtBut L s.heap h' → Q () { s with heap := h', toks := t })
    (hk : (lenv pm L a).kindOf n = some .local := by rfl) : wpAny (model prog w) A (storeName (lenv pm L a) n v) Q E s := by
  have hne := x.nL htd
  obtain ⟨Y, o1, o2, t1, t2, x1, y, w1, ⟨o, ho, r⟩, l1, l2⟩ := x
  exact x1.st (fun h' t x2 e2 => h h' t ⟨Y, o1, o2, t1, t2, x2, y, w1, ⟨o, e2 _ _ hne ho, r⟩, l1, l2⟩ e2) hk

theorem take_step (W : List (List Int)) (c : Nat) : W.take c ++ (W.drop c).take 1 = W.take (c + 1) := (List.take_add ..).symm

/-- one turn of the inner loop -/
theorem TS.step {k : Nat} {tk : Tok} {Q : Flow → Shared → Prop} (hk : k < 2) (R : Roomy A) (ST : Stat H0) (hz : H0.StaysIn Z)
    (x : TS prog w H0 Z Y0 L l hv sv tv cv a1 a2 i1 i2 W1 W2 wk td ex c1 c2 s) (hat : l.lookup (Str.ofString "at") = some (.int k tk)) (hwalks : l.lookup (Str.ofString "walks") = some (.ref wk)) (htold : l.lookup (Str.ofString "told") = some (.ref td)) (hway : l.lookup (Str.ofString "way") = none)
    (hex : ex td) (h1 : W1.length ≤ 1000) (h2 : W2.length ≤ 1000) (hW1 : ∀ w ∈ W1, w.length ≤ 1000) (hW2 : ∀ w ∈ W2, w.length ≤ 1000)
    (hQ : ∀ s', TS prog w H0 Z Y0 L l hv sv tv cv a1 a2 i1 i2 W1 W2 wk td ex (if k = 0 then c1 + 1 else c1) (if k = 0 then c2 else c2 + 1) s' → (∀ b o, ex b → b ≠ td → s.heap.get? b = some o → s'.heap.get? b = some o) → Out s s' → Q .next s') :
    wpAny (model prog w) A (execs (bodyS lFor16) (lenv pm L a)) Q E s := by
  obtain ⟨Y, o1, o2, t1, t2, x1, y, w1, hL, l1, l2⟩ := x
  rcases (by omega : k = 0 ∨ k = 1) with rfl | rfl
  · refine l_inner (k := 0) (by omega) R ST hz x1 hat hwalks htold hway w1 (by rfl) hex hL (by rfl) l1 (by rw [List.length_take]; omega) (fun w hw => hW1 w (List.mem_of_mem_drop hw)) fun s' Y' o1' t1' x' yy hL' l1' ke ou => ?_
    rw [take_step] at l1'
    rw [List.tail_drop] at x'
    exact hQ s' ⟨Y', o1', o2, t1', t2, x', stays_trans y yy, yy _ _ w1, hL', l1', l2.keep yy⟩ ke ou
  · refine l_inner (k := 1) (by omega) R ST hz x1.swap hat hwalks htold hway w1 (by rfl) hex hL (by rfl) l2 (by rw [List.length_take]; omega) (fun w hw => hW2 w (List.mem_of_mem_drop hw)) fun s' Y' o1' t1' x' yy hL' l1' ke ou => ?_
    rw [take_step] at l1'
    rw [List.tail_drop] at x'
    exact hQ s' ⟨Y', o1, o1', t1, t1', x'.swap, stays_trans y yy, yy _ _ w1, hL', l1.keep yy, l1'⟩ ke ou

theorem ev_pairF {env : Env} {e1 e2 : Expr} {k : Nat} {pos : Pos} {Q : Value → Shared → Prop}
    (h : wpAny (model prog w) A (eval e1 env) (fun v1 s₁ => wpAny (model prog w) A (eval e2 env) (fun v2 s₂ => ∀ T h', s₂.heap.StaysIn h' → s₂.heap.get? T = none → h'.IsTuple T #[v1, v2] → Q (.ref T) { s₂ with heap := h' }) E s₁) E s)
    (he : starEach [e1, e2] env = [(false, eval e1 env), (false, eval e2 env)] := by rfl) (he2 : starEach [e2] env = [(false, eval e2 env)] := by rfl) :
    wpAny (model prog w) A (eval (.Tuple [e1, e2] k pos) env) Q E s := by
  refine wpAny_Tuple (wpAny_items_cons (wpAny_mono h (fun v1 s₁ h₁ => wpAny_items_cons (wpAny_mono h₁ (fun v2 s₂ h₂ => wpAny_items_nil ⟨by show 2 ≤ 2 ^ 24; omega, ?_⟩) fun _ _ x => x) ?_) fun _ _ x => x) ?_)
  · exact h₂ _ _ (keep_push _) (get_size _) ⟨_, Heap.get?_push_size _ rfl, rfl, 0, rfl⟩
  · rw [he2]; rfl
  · rw [he, he2]

/-- the inner loop -/
theorem l_turn {c : Nat} {Q : Flow → Shared → Prop} (R : Roomy A) (ST : Stat H0) (hz : H0.StaysIn Z)
    (x : TS prog w H0 Z Y0 L l hv sv tv cv a1 a2 i1 i2 W1 W2 wk td ex c c s) (hat : l.lookup (Str.ofString "at") = none) (hwalks : l.lookup (Str.ofString "walks") = some (.ref wk)) (htold : l.lookup (Str.ofString "told") = some (.ref td)) (hway : l.lookup (Str.ofString "way") = none)
    (hex : ex td) (h1 : W1.length ≤ 1000) (h2 : W2.length ≤ 1000) (hW1 : ∀ w ∈ W1, w.length ≤ 1000) (hW2 : ∀ w ∈ W2, w.length ≤ 1000)
    (hQ : ∀ s', TS prog w H0 Z Y0 L l hv sv tv cv a1 a2 i1 i2 W1 W2 wk td ex (c + 1) (c + 1) s' → (∀ b o, ex b → b ≠ td → s.heap.get? b = some o → s'.heap.get? b = some o) → Out s s' → Q .next s') :
    wpAny (model prog w) A (exec lFor16 (lenv pm L a)) Q E s := by
  show wpAny _ _ (exec (.For (.Name _ _) (.Tuple [.Constant (.int ((0 : Nat) : Int)) _ _, .Constant (.int ((1 : Nat) : Int)) _ _] _ _) (bodyS lFor16) [] _) _) _ _ _
  refine wpAny_For (ev_pairF (wpAny_Constant_int (wpAny_Constant_int fun T h1' k1 hT0 hT => wpAny_pyIter_tuple hT ?_)))
  obtain ⟨oT, hoT, rT⟩ := id hT
  have xT := x.push (t := s.toks) k1 hT0 (by rw [hoT]; exact Option.some_ne_none _)
  have hI0 := get_size h1'
  have hI1 := Heap.get?_push_size h1' (o := { cls := .type "tuple_iterator", data := .fields #[.ref T, .int 0 0] }) rfl
  have k2 : h1'.StaysIn (h1'.push { cls := .type "tuple_iterator", data := .fields #[.ref T, .int 0 0] }) := keep_push _
  dsimp only
  have hTI : T ≠ h1'.objs.size := fun q => by rw [← q, hoT] at hI0; cases hI0
  generalize h1'.push { cls := .type "tuple_iterator", data := .fields #[.ref T, .int 0 0] } = h2' at *
  have xI := TS.push (t := s.toks) xT (h' := h2') k2 hI0 (by rw [hI1]; exact Option.some_ne_none _)
  have htdl : s.heap.get? td ≠ none := by
    obtain ⟨Y, o1, o2, t1, t2, x1, _⟩ := x; exact (x1.ye td hex).2.2
  generalize h1'.objs.size = I at *
  have hItd : I ≠ td := fun q => live_of htdl (k1 td) (q ▸ hI0)
  have hTtd : T ≠ td := fun q => htdl (q ▸ hT0)
  have hk12 := stays_trans k1 k2
  refine codeAny_forLoop (fun n s' => ∃ j : Nat, n = 2 - j ∧ j ≤ 2 ∧ TS prog w H0 Z Y0 L l hv sv tv cv a1 a2 i1 i2 W1 W2 wk td (fun b => (ex b ∨ b = T) ∨ b = I) (if 1 ≤ j then c + 1 else c) (if 2 ≤ j then c + 1 else c) s' ∧
    s'.heap.IsTupleIter I T j ∧ s'.heap.IsTuple T #[.int ((0 : Nat) : Int) s.toks, .int ((1 : Nat) : Int) (s.toks + 1)] ∧ (∀ b o, ex b → b ≠ td → s.heap.get? b = some o → s'.heap.get? b = some o) ∧ Out s s') (fun n s' hI' => ?_) 2
    ⟨0, rfl, by omega, TS.stays (t := _) xI (fun _ _ e => e), ⟨_, hI1, rfl, rfl⟩, ⟨oT, k2 _ _ hoT, rT⟩, fun b o _ _ e => hk12 b o e, ⟨rfl, id⟩⟩
  obtain ⟨j, rfl, hj, x4, hit, hTt, ke, ou⟩ := hI'
  have hexI : (fun b => (ex b ∨ b = T) ∨ b = I) I := .inr rfl
  have hextd : (fun b => (ex b ∨ b = T) ∨ b = I) td := .inl (.inl hex)
  have exI : ∀ b, ex b → s.heap.get? b ≠ none → b ≠ I := fun b hb hl q => live_of hl (k1 b) (q ▸ hI0)
  rcases Nat.lt_or_ge j 2 with hlt | hge
  · have item : ∃ tk, (#[.int ((0 : Nat) : Int) s.toks, .int ((1 : Nat) : Int) (s.toks + 1)] : Array Value)[j]? = some (.int (j : Int) tk) := by
      rcases (by omega : j = 0 ∨ j = 1) with rfl | rfl
      · exact ⟨_, rfl⟩
      · exact ⟨_, rfl⟩
    obtain ⟨tk, hitem⟩ := item
    refine wpAny_pyNext_tuple_item hit hTt hitem fun h5 hit5 hs5 => ?_
    obtain ⟨oI, hoI, _⟩ := id hit5
    have x5 := TS.extEx (t := s'.toks) x4 hexI hItd hs5.extBut (by rw [hoI]; exact Option.some_ne_none _)
    refine wpAny_assign_Name (TS.st x5 hextd fun h6 t6 x6 e6 => ?_)
    have hkL {b : Addr} (hb : (ex b ∨ b = T) ∨ b = I) : b ≠ L := x4.nL hb
    have lk {n : Str} {v v' : Value} (h : l.lookup n = some v) : ((Str.ofString "at", v') :: l).lookup n = some v := weak_cons hat n v h
    refine TS.step (s := { s' with heap := h6, toks := t6 }) hlt R ST hz x6 (by rfl) (lk hwalks) (lk htold) (by rw [List.lookup_cons]; exact hway) hextd h1 h2 hW1 hW2 fun s7 x7 ke7 ou7 => ?_
    refine ⟨2 - (j + 1), by omega, j + 1, rfl, by omega, ?_, ?_, ?_, ?_, ou.trans ⟨ou7.1, ou7.2⟩⟩
    · have x7 := x7.weak (weak_cons hat)
      rcases (by omega : j = 0 ∨ j = 1) with rfl | rfl
      · exact x7
      · exact x7
    · obtain ⟨o, ho, r⟩ := hit5
      exact ⟨o, ke7 _ _ hexI hItd (e6 _ _ (hkL hexI) ho), r⟩
    · obtain ⟨o, ho, r⟩ := hTt
      exact ⟨o, ke7 _ _ (.inl (.inr rfl)) hTtd (e6 _ _ (hkL (.inl (.inr rfl))) (hs5.extBut _ _ hTI ho)), r⟩
    · intro b o hb hbt e
      have hbI : b ≠ I := exI b hb (by rw [e]; exact Option.some_ne_none _)
      exact ke7 _ _ (.inl (.inl hb)) hbt (e6 _ _ (hkL (.inl (.inl hb))) (hs5.extBut _ _ hbI (ke b o hb hbt e)))
  · have hj2 : j = 2 := by omega
    subst hj2
    refine wpAny_pyNext_tuple_end R.hand hit hTt (by rfl) fun h5 hs5 => ?_
    refine wpAny_execs_nil (hQ _ ?_ (fun b o hb hbt e => ?_) ou)
    · have x5 : TS prog w H0 Z Y0 L l hv sv tv cv a1 a2 i1 i2 W1 W2 wk td ex (c + 1) (c + 1) { s' with heap := h5, toks := s'.toks } := by
        obtain ⟨Y, o1, o2, t1, t2, x1, y, w1, ⟨o, ho, r⟩, l1, l2⟩ := x4
        have x1' : WS prog w H0 Z Y L l hv sv tv cv ex o1 o2 a1 a2 i1 i2 (W1.drop (c + 1)) (W2.drop (c + 1)) s' := x1.exs fun b hb => .inl (.inl (.inl hb))
        have hx := x1.ye I hexI
        refine ⟨Y, o1, o2, t1, t2, ?_, y, w1, ⟨o, hs5 _ _ hItd.symm ho, r⟩, l1, l2⟩
        refine x1'.upd (fun b => b = I) (x1'.sl.ext hx.2.1 hx.1 hs5) (fun b o hb e => hs5 b o hb e) (fun b hb => by rw [show b = I from hb]; exact ⟨fun q => (x1.y1 I q).2.2.2 hexI, fun q => (x1.y2 I q).2.2.2 hexI, hx.1⟩) fun b hb => ?_
        refine live_of (x1'.ye b hb).2.2 fun o e => hs5 b o ?_ e
        intro q
        rw [q] at hb
        obtain ⟨Y', o1', o2', t1', t2', x', _⟩ := x
        exact live_of (x'.ye I hb).2.2 (k1 I) hI0
      exact x5
    · have hbI : b ≠ I := exI b hb (by rw [e]; exact Option.some_ne_none _)
      exact hs5 _ _ hbI (ke b o hb hbt e)
end
end Mine
end

section -- LawU
set_option linter.unusedVariables false
namespace Mine
open PySem PyProof.Rows PySem.W PySem.Calls PySem.Spec
open Sem (wp)

section
variable {prog : Program} {w : World} {A : Around} {E : Value → Shared → Prop} {s : Shared} {H0 Z Y0 : Heap} {L a : Addr} {pm : Value} {l : List (Str × Value)} {hv sv tv cv : Option Value} {ex : Addr → Prop} {a1 a2 : Addr} {i1 i2 : Nat} {W1 W2 : List (List Int)} {wk td : Addr} {c1 c2 : Nat}

/-- the 170 turns -/
theorem l_seg16 {Q : Flow → Shared → Prop} {rest : List Stmt} (R : Roomy A) (ST : Stat H0) (hz : H0.StaysIn Z)
    (x : TS prog w H0 Z Y0 L l hv sv tv cv a1 a2 i1 i2 W1 W2 wk td (fun b => b = td) 0 0 s) (hturn : l.lookup (Str.ofString "turn") = none) (hat : l.lookup (Str.ofString "at") = none) (hwalks : l.lookup (Str.ofString "walks") = some (.ref wk)) (htold : l.lookup (Str.ofString "told") = some (.ref td)) (hway : l.lookup (Str.ofString "way") = none)
    (h1 : W1.length ≤ 97) (h2 : W2.length ≤ 97) (hW1 : ∀ w ∈ W1, w.length ≤ 1000) (hW2 : ∀ w ∈ W2, w.length ≤ 1000)
    (hQ : ∀ s' Y o1 o2 t1 t2, WS prog w H0 Z Y L l hv sv tv cv (fun b => b = td) o1 o2 a1 a2 i1 i2 [] [] s' → Y0.StaysIn Y → Y.get? wk = some (lob [.ref a1, .ref a2] 0) → s'.heap.IsList td #[.ref t1, .ref t2] → LL Y t1 W1 → LL Y t2 W2 → Out s s' → wpAny (model prog w) A (execs rest (lenv pm L a)) Q E s') :
    wpAny (model prog w) A (execs (lS 16 :: rest) (lenv pm L a)) Q E s := by
  have IF := l_fn pm L a
  refine wpAny_execs_cons ?_
  show wpAny _ _ (exec (.For (.Name _ _) (.Call (.Name _ _) [.Constant (.int ((170 : Nat) : Int)) _ _] [] _) [lFor16] [] _) _) _ _ _
  have hST : Stat s.heap := by obtain ⟨Y, o1, o2, t1, t2, x1, _⟩ := x; exact x1.sl.stat ST
  refine wpAny_For (Mine.t1 IF hST (by rfl) (fun _ _ N => N.range) (wpAny_Constant_int ?_))
  refine r_range (s := { s with toks := s.toks + 1 }) (by omega) fun I h1' t1' k1 hI0 hI => ?_
  have htdl : s.heap.get? td ≠ none := by
    obtain ⟨Y, o1, o2, t1, t2, x1, _⟩ := x; exact (x1.ye td rfl).2.2
  have hItd : I ≠ td := fun q => htdl (q ▸ hI0)
  have hIl : h1'.get? I ≠ none := by rw [show h1'.get? I = _ from hI]; exact Option.some_ne_none _
  have xI := TS.push (t := t1') x (h' := h1') k1 hI0 hIl
  refine codeAny_forLoop (fun n s' => ∃ j : Nat, n = 170 - j ∧ j ≤ 170 ∧ TS prog w H0 Z Y0 L l hv sv tv cv a1 a2 i1 i2 W1 W2 wk td (fun b => b = td ∨ b = I) j j s' ∧
    IsRangeIter s'.heap I j ((170 : Int) - j) 1 ∧ Out s s') (fun n s' hI' => ?_) 170
    ⟨0, rfl, by omega, xI, by simpa using hI, ⟨rfl, id⟩⟩
  obtain ⟨j, rfl, hj, x4, hit, ou⟩ := hI'
  have hexI : (fun b => b = td ∨ b = I) I := .inr rfl
  have hextd : (fun b => b = td ∨ b = I) td := .inl rfl
  rcases Nat.lt_or_ge j 170 with hlt | hge
  · refine wpAny_pyNext_range_item hit (by omega) fun h5 hit5 hs5 => ?_
    have hl5 : h5.get? I ≠ none := by rw [show h5.get? I = _ from hit5]; exact Option.some_ne_none _
    have x5 := TS.extEx (t := s'.toks + 1) x4 hexI hItd hs5.extBut hl5
    refine wpAny_assign_Name (TS.st x5 hextd fun h6 t6 x6 e6 => ?_)
    have hkL {b : Addr} (hb : b = td ∨ b = I) : b ≠ L := x4.nL hb
    have lk {n : Str} {v v' : Value} (h : l.lookup n = some v) : ((Str.ofString "turn", v') :: l).lookup n = some v := weak_cons hturn n v h
    refine wpAny_execs_cons (l_turn (s := { s' with heap := h6, toks := t6 }) R ST hz x6 (by rw [List.lookup_cons]; exact hat) (lk hwalks) (lk htold) (by rw [List.lookup_cons]; exact hway) hextd (by omega) (by omega) hW1 hW2 fun s7 x7 ke7 ou7 => wpAny_execs_nil ?_)
    refine ⟨170 - (j + 1), by omega, j + 1, rfl, by omega, x7.weak (weak_cons hturn), ?_, ou.trans ⟨ou7.1, ou7.2⟩⟩
    have := ke7 _ _ hexI hItd (e6 _ _ (hkL hexI) hit5)
    show s7.heap.get? I = _
    rw [this, show (170 : Int) - j - 1 = 170 - ((j + 1 : Nat) : Int) by omega]
    rfl
  · have hj2 : j = 170 := by omega
    subst hj2
    refine wpAny_pyNext_range_end R.hand hit (by omega) fun h5 hs5 => ?_
    refine wpAny_execs_nil ?_
    obtain ⟨Y, o1, o2, t1, t2, x1, y, w1, ⟨o, ho, r⟩, l1, l2⟩ := x4
    rw [List.drop_of_length_le (by omega), List.drop_of_length_le (by omega)] at x1
    rw [List.take_of_length_le (by omega)] at l1 l2
    have x1' : WS prog w H0 Z Y L l hv sv tv cv (fun b => b = td) o1 o2 a1 a2 i1 i2 [] [] s' := x1.exs fun b hb => .inl (.inl hb)
    have hx := x1.ye I hexI
    refine hQ { s' with heap := h5, toks := s'.toks } Y o1 o2 t1 t2 ?_ y w1 ⟨o, hs5 _ _ hItd.symm ho, r⟩ l1 l2 ou
    refine x1'.upd (fun b => b = I) (x1'.sl.ext hx.2.1 hx.1 hs5) (fun b o hb e => hs5 b o hb e) (fun b hb => by rw [show b = I from hb]; exact ⟨fun q => (x1.y1 I q).2.2.2 hexI, fun q => (x1.y2 I q).2.2.2 hexI, hx.1⟩) fun b hb => ?_
    refine live_of (x1'.ye b hb).2.2 fun o e => hs5 b o ?_ e
    rw [show b = td from hb]
    exact hItd.symm
end
end Mine
end

section -- LawV
set_option linter.unusedVariables false
namespace Mine
open PySem PyProof.Rows PySem.W PySem.Calls PySem.Spec
open Sem (wp)

theorem srt_srt (l : List (List Int)) : srt (srt l) = srt l := srt_congr (srt_perm l)

section
variable {prog : Program} {w : World} {A : Around} {E : Value → Shared → Prop} {s : Shared} {env : Env}
theorem ev_idxL {value : Expr} {k kd : Nat} {p pos : Pos} {Q : Value → Shared → Prop}
    (h : wpAny (model prog w) A (eval value env) (fun o s₁ => ∃ l items x, o = .ref l ∧ s₁.heap.IsList l items ∧ items[k]? = some x ∧ k < 2 ^ 20 ∧ ∀ t, Q x { s₁ with toks := t }) E s)
    (ht : ∀ o r, letTemporaryGo value o r = pure () := by intro _ _; rfl) :
    wpAny (model prog w) A (eval (.Subscript value (.Constant (.int (k : Nat)) kd p) pos) env) Q E s := by
  refine Subscript_Constant (wpAny_mono h (fun o s₁ h₁ => ?_) fun _ _ x => x) ht
  obtain ⟨l, items, x, rfl, hl, hx, hk, hQ⟩ := h₁
  have hs := (Array.getElem?_eq_some_iff.mp hx).1
  refine wpAny_Constant_int ⟨"list", _, slot_list_getitem.lookup, let ⟨o, ho, r⟩ := hl; ⟨o, ho, r.1⟩, ?_⟩
  exact wpAny_getItem_list (items := items) hl (by omega) (by omega) (by simpa using hx) (hQ _)
end

section
variable {prog : Program} {w : World} {A : Around} {E : Value → Shared → Prop} {s : Shared} {H0 Z Y : Heap} {L a : Addr} {pm : Value} {l : List (Str × Value)} {hv sv tv cv : Option Value} {ex o1 o2 : Addr → Prop} {a1 a2 : Addr} {i1 i2 : Nat} {R1 R2 : List (List Int)}

theorem l_seg17 {td t1 t2 : Addr} {once : Bool} {W1 W2 L1 L2 : List (List Int)} {Q : Flow → Shared → Prop} {rest : List Stmt} (R : Roomy A) (ST : Stat H0) (FN : Fns H0)
    (x : WS prog w H0 Z Y L l hv sv tv cv (fun b => b = td) o1 o2 a1 a2 i1 i2 R1 R2 s) (ho : l.lookup (Str.ofString "once") = some (.bool once)) (htold : l.lookup (Str.ofString "told") = some (.ref td))
    (hTL : s.heap.IsList td #[.ref t1, .ref t2]) (l1 : LL Y t1 W1) (l2 : LL Y t2 W2) (h1 : W1.length ≤ 97) (h2 : W2.length ≤ 97)
    (hm1 : ∀ x, x ∈ W1 ↔ x ∈ L1) (hm2 : ∀ x, x ∈ W2 ↔ x ∈ L2) (hn1 : L1.Nodup) (hn2 : L2.Nodup) (ho1 : once = true → W1.Nodup) (ho2 : once = true → W2.Nodup) (hl1 : L1.length ≤ 49) (hl2 : L2.length ≤ 49)
    (hQ : ∀ l' td' u1 u2 V1 V2 s', WS prog w H0 Z Y L l' hv sv tv cv (fun _ => False) o1 o2 a1 a2 i1 i2 R1 R2 s' → (∀ n v, n ≠ Str.ofString "told" → l.lookup n = some v → l'.lookup n = some v) → l'.lookup (Str.ofString "told") = some (.ref td') →
      s'.heap.IsList td' #[.ref u1, .ref u2] → LL s'.heap u1 V1 → LL s'.heap u2 V2 → srt V1 = srt L1 → srt V2 = srt L2 → V1.length ≤ 97 → V2.length ≤ 97 → Out s s' → wpAny (model prog w) A (execs rest (lenv pm L a)) Q E s') :
    wpAny (model prog w) A (execs (lS 17 :: rest) (lenv pm L a)) Q E s := by
  have IF := l_fn pm L a
  have hext : (fun b => b = td) td := rfl
  refine wpAny_execs_cons ?_
  show wpAny _ _ (exec (.If (.UnaryOp .Not (.Name _ _) _) [.Assign [.Name _ _] (.List [.Call (.Name _ _) [.Subscript (.Name _ _) (.Constant (.int ((0 : Nat) : Int)) _ _) _] [] _, .Call (.Name _ _) [.Subscript (.Name _ _) (.Constant (.int ((1 : Nat) : Int)) _ _) _] [] _] _) _] [] _) _) _ _ _
  refine wpAny_If (wpAny_isTrue_Not (wpAny_isTrue_value (e := .Name _ _) (x.sl.nm ho (wpAny_truthy_bool ?_))))
  cases once with
  | true =>
    rw [if_neg (by simp)]
    refine wpAny_execs_nil ?_
    have x' : WS prog w H0 Z Y L l hv sv tv cv (fun _ => False) o1 o2 a1 a2 i1 i2 R1 R2 s := x.exs fun b h => h.elim
    exact hQ l td t1 t2 W1 W2 s x' (fun _ _ _ h => h) htold hTL (l1.keep x'.sl.z) (l2.keep x'.sl.z) (once_eq hm1 (ho1 rfl) hn1) (once_eq hm2 (ho2 rfl) hn2) h1 h2 ⟨rfl, id⟩
  | false =>
    rw [if_pos (by rfl)]
    obtain ⟨o, pmc, hof, hdf⟩ := (x.sl.fns FN).f87
    refine wpAny_execs_cons (wpAny_Assign_Name (wpAny_List (wpAny_items_cons (f1 IF (x.sl.stat ST) (by rfl) (fun _ _ N => N.plain) hdf (ev_idxL (x.sl.nm htold ⟨td, _, .ref t1, rfl, hTL, by rfl, by omega, fun t => ⟨hof, ?_⟩⟩))))))
    refine law_plain (s := { s with toks := t }) R (x.sl.stat ST) (x.sl.fns FN) (l1.keep x.sl.z) (by omega) fun u1 h1' t1' k1 nu1 lu1 => ?_
    rw [plain_eq hm1 hn1] at lu1
    have x1 := x.stays (t := t1') k1
    have hTL1 : h1'.IsList td #[.ref t1, .ref t2] := let ⟨o, ho, r⟩ := hTL; ⟨o, k1 _ _ ho, r⟩
    refine wpAny_items_cons (f1 IF (x1.sl.stat ST) (by rfl) (fun _ _ N => N.plain) hdf (ev_idxL (SL.nm (s := { s with heap := h1', toks := t1' }) x1.sl htold ⟨td, _, .ref t2, rfl, hTL1, by rfl, by omega, fun t => ⟨k1 _ _ hof, ?_⟩⟩)))
    refine law_plain (s := { s with heap := h1', toks := t }) R (x1.sl.stat ST) (x1.sl.fns FN) (l2.keep x1.sl.z) (by omega) fun u2 h2' t2' k2 nu2 lu2 => ?_
    rw [plain_eq hm2 hn2] at lu2
    have x2 := x.stays (t := t2') (stays_trans k1 k2)
    refine wpAny_items_nil ⟨by show 2 ≤ 2 ^ 24; omega, ?_⟩
    have nD := x2.naway (get_size h2')
    have gD := Heap.get?_push_size h2' (o := { cls := .type "list", data := .seq [Value.ref u1, Value.ref u2].toArray }) rfl
    have k3 : h2'.StaysIn (h2'.push { cls := .type "list", data := .seq [Value.ref u1, Value.ref u2].toArray }) := keep_push _
    dsimp only at nD ⊢
    generalize h2'.push { cls := .type "list", data := .seq [Value.ref u1, Value.ref u2].toArray } = h3' at *
    generalize h2'.objs.size = D at *
    have x3 := x.stays (t := t2') (stays_trans k1 (stays_trans k2 k3))
    refine WS.st (s := { s with heap := h3', toks := t2' }) x3 fun h4 t4 x4 e4 => ?_
    refine wpAny_execs_nil ?_
    have x4' : WS prog w H0 Z Y L ((Str.ofString "told", Value.ref D) :: l) hv sv tv cv (fun _ => False) o1 o2 a1 a2 i1 i2 R1 R2 { s with heap := h4, toks := t4 } := WS.exs x4 fun b h => h.elim
    have fz4 : Fz h3' h4 := Fz.of_reg x3.sl.lf (r0 L) e4
    refine hQ _ D u1 u2 (srt L1) (srt L2) _ x4' (fun n v hn h => by rw [List.lookup_cons, show (n == Str.ofString "told") = false by simpa using hn]; exact h) (by rfl) ?_ ((lu1.keep (stays_trans k2 k3)).fz fz4) ((lu2.keep k3).fz fz4) (srt_srt _) (srt_srt _) ?_ ?_ ⟨rfl, id⟩
    · exact ⟨_, e4 _ _ (fun q => nD (.inr (.inr (.inr (q ▸ r0 L))))) gD, rfl, 0, rfl⟩
    · rw [(srt_perm L1).length_eq]; omega
    · rw [(srt_perm L2).length_eq]; omega
end
end Mine
end

section -- LawW
set_option linter.unusedVariables false
namespace Mine
open PySem PyProof.Rows PySem.W PySem.Calls PySem.Spec
open Sem (wp)

section
variable {prog : Program} {w : World} {A : Around} {E : Value → Shared → Prop} {s : Shared} {H0 Z Y : Heap} {L a : Addr} {pm : Value} {l : List (Str × Value)} {hv sv tv cv : Option Value} {ex o1 o2 : Addr → Prop} {a1 a2 : Addr} {i1 i2 : Nat} {R1 R2 : List (List Int)}

/-- sorted(told[k]) != due[k] is False -/
theorem l_cmp {k : Nat} {kd kd2 : Nat} {td u U d : Addr} {tl : Array Value} {dl : List Value} {V L1 : List (List Int)} {p1 p2 p3 p4 p5 p6 p7 p8 p9 : Pos} {Q : Bool → Shared → Prop} (R : Roomy A) (ST : Stat H0) (x : SL H0 Y L l hv sv tv cv s.heap)
    (htold : l.lookup (Str.ofString "told") = some (.ref td)) (hdue : l.lookup (Str.ofString "due") = some (.ref U)) (hT : s.heap.IsList td tl) (ht : tl[k]? = some (.ref u)) (hV : LL s.heap u V) (hV97 : V.length ≤ 97) (hs : srt V = srt L1)
    (hU : Y.get? U = some (lob dl 0)) (hd : dl[k]? = some (.ref d)) (hL : LL Y d (srt L1)) (hk : k < 2 ^ 20)
    (hQ : ∀ h' t', s.heap.StaysIn h' → Q false { s with heap := h', toks := t' }) :
    wpAny (model prog w) A (isTrue (.Compare (.Call (.Name "sorted" p1) [.Subscript (.Name "told" p2) (.Constant (.int (k : Nat)) kd p3) p4] [] p5) [.NotEq] [.Subscript (.Name "due" p6) (.Constant (.int (k : Nat)) kd2 p7) p8] p9) (lenv pm L a) (eval (.Compare (.Call (.Name "sorted" p1) [.Subscript (.Name "told" p2) (.Constant (.int (k : Nat)) kd p3) p4] [] p5) [.NotEq] [.Subscript (.Name "due" p6) (.Constant (.int (k : Nat)) kd2 p7) p8] p9) (lenv pm L a))) Q E s := by
  have hA64 : A.units + 64 < cLine := by have := R.units; omega
  refine wpAny_isTrue_Compare1 (b1 (l_fn pm L a) (x.stat ST) (by rfl) (fun _ _ N => N.sorted) (ev_idxL (x.nm htold ⟨td, _, .ref u, rfl, hT, ht, hk, fun t => ?_⟩)))
  refine sorted_lists (s := { s with toks := t }) (by have := R.units; omega) hV (by omega) fun h' D2 k' hD0 _ hD2 => ?_
  have x1 := x.stays k'
  refine ev_idx (SL.nm (s := { s with heap := h', toks := t }) x1 hdue ⟨U, _, 0, .ref d, rfl, x1.z _ _ hU, hd, hk, fun t' => ?_⟩)
  rw [hs] at hD2
  refine ne_LL (s := { s with heap := h', toks := t' }) hD2 (hL.keep x1.z) hA64 ?_
  rw [show decide (srt L1 ≠ srt L1) = false by simp]
  exact wpAny_truthy_bool (hQ h' t' k')

theorem l_seg18 {td u1 u2 U d1 d2 wk : Addr} {V1 V2 L1 L2 : List (List Int)} {Q : Flow → Shared → Prop} {rest : List Stmt} (R : Roomy A) (ST : Stat H0) (hz : H0.StaysIn Z)
    (x : WS prog w H0 Z Y L l hv sv tv cv (fun _ => False) o1 o2 a1 a2 i1 i2 [] R2 s) (htold : l.lookup (Str.ofString "told") = some (.ref td)) (hdue : l.lookup (Str.ofString "due") = some (.ref U)) (hwalks : l.lookup (Str.ofString "walks") = some (.ref wk))
    (hT : s.heap.IsList td #[.ref u1, .ref u2]) (hV1 : LL s.heap u1 V1) (hV2 : LL s.heap u2 V2) (hs1 : srt V1 = srt L1) (hs2 : srt V2 = srt L2) (hl1 : V1.length ≤ 97) (hl2 : V2.length ≤ 97)
    (hU : Y.get? U = some (lob [.ref d1, .ref d2] 0)) (hd1 : LL Y d1 (srt L1)) (hd2 : LL Y d2 (srt L2)) (hwk : Y.get? wk = some (lob [.ref a1, .ref a2] 0))
    (hQ : ∀ s', SL H0 Y L l hv sv tv cv s'.heap → Out s s' → wpAny (model prog w) A (execs rest (lenv pm L a)) Q E s') :
    wpAny (model prog w) A (execs (lS 18 :: rest) (lenv pm L a)) Q E s := by
  have IF := l_fn pm L a
  refine wpAny_execs_cons ?_
  show wpAny _ _ (exec (.If (.BoolOp .Or [.Compare (.Call (.Name _ _) [.Subscript (.Name _ _) (.Constant (.int ((0 : Nat) : Int)) _ _) _] [] _) [.NotEq] [.Subscript (.Name _ _) (.Constant (.int ((0 : Nat) : Int)) _ _) _] _, .Compare (.Call (.Name _ _) [.Subscript (.Name _ _) (.Constant (.int ((1 : Nat) : Int)) _ _) _] [] _) [.NotEq] [.Subscript (.Name _ _) (.Constant (.int ((1 : Nat) : Int)) _ _) _] _, .Compare (.Call (.Name _ _) [.Subscript (.Name _ _) (.Constant (.int ((0 : Nat) : Int)) _ _) _, .Constant .none _ _] [] _) [.IsNot] [.Constant .none _ _] _] _) _ [] _) _) _ _ _
  refine wpAny_If (wpAny_isTrue_BoolOp (wpAny_allTrue_Or_cons (l_cmp R ST x.sl htold hdue hT (by rfl) hV1 hl1 hs1 hU (by rfl) hd1 (by omega) fun h1 t1' k1 => ?_)))
  rw [if_neg Bool.false_ne_true]
  have x1 := x.stays (t := t1') k1
  refine wpAny_allTrue_Or_cons (l_cmp (s := { s with heap := h1, toks := t1' }) R ST x1.sl htold hdue (let ⟨o, ho, r⟩ := hT; ⟨o, k1 _ _ ho, r⟩) (by rfl) (hV2.keep k1) hl2 hs2 hU (by rfl) hd2 (by omega) fun h2 t2' k2 => ?_)
  rw [if_neg Bool.false_ne_true]
  have x2 := x.stays (t := t2') (stays_trans k1 k2)
  refine wpAny_allTrue_Or_cons (wpAny_isTrue_Compare1 (b2 IF (x2.sl.stat ST) (by rfl) (fun _ _ N => N.next) (ev_idx (SL.nm (s := { s with heap := h2, toks := t2' }) x2.sl hwalks ⟨wk, _, 0, .ref a1, rfl, x2.sl.z _ _ hwk, by rfl, by omega, fun t => ?_⟩))))
  have x3 := x.stays (t := t) (stays_trans k1 k2)
  refine wpAny_Constant_none (wpAny_next2 x3.g1.gen ?_)
  refine WS.next_end R.r2 ST x3 hz fun s4 x4 ou4 ke4 => ?_
  refine wpAny_Constant_none (wpAny_isNot_self (by rfl) (wpAny_truthy_bool ?_))
  rw [if_neg Bool.false_ne_true]
  refine wpAny_allTrue_Or_nil ?_
  rw [if_neg Bool.false_ne_true]
  exact wpAny_execs_nil (hQ s4 x4.sl ou4)
end
end Mine
end

section -- LawX
set_option linter.unusedVariables false
namespace Mine
open PySem PyProof.Rows PySem.W PySem.Calls PySem.Spec
open Sem (wp)

/-- what sorted says of a value -/
def SortsTo (prog : Program) (w : World) (Z : Heap) (hd : Addr) (st : List Int) : Prop :=
  ∀ (A : Around) (E : Value → Shared → Prop) (s : Shared) (Q : Value → Shared → Prop), Roomy A → Z.StaysIn s.heap →
    (∀ D h' t' ns, s.heap.StaysIn h' → IL h' D ns → ns.Perm st → ns.Pairwise (· ≤ ·) → Q (.ref D) { s with heap := h', toks := t' }) → wpAny (model prog w) A (call (.builtin "sorted") [.ref hd]) Q E s

theorem SortsTo.stays {prog : Program} {w : World} {Z Z' : Heap} {hd : Addr} {st : List Int} (x : SortsTo prog w Z hd st) (k : Z.StaysIn Z') : SortsTo prog w Z' hd st :=
  fun A E s Q R z h => x A E s Q R (stays_trans k z) h

theorem IL.sorts {prog : Program} {w : World} {Z : Heap} {b : Addr} {ns : List Int} (x : IL Z b ns) (hl : ns.length < 64) : SortsTo prog w Z b ns := by
  intro A E s Q R z h
  obtain ⟨vs, n, ho, hi⟩ := x
  have hvl := ia_len hi
  refine sorted_ints ⟨_, z _ _ ho, rfl, n, rfl⟩ hi (by omega) fun out ns' h1 h2 h3 => ?_
  obtain ⟨e, he⟩ := sortedAll_at s.heap vs out
  exact h _ _ s.toks ns' (fun c o ho' => sortedAll_old ho') ⟨out.toList, e, by simpa [lob, seqObj] using he, h1⟩ h2 h3

theorem HandedOk.sorts {prog : Program} {w : World} {Z : Heap} {hd : Addr} {st : List Int} (x : HandedOk prog w Z hd st) (hl : st.length < 64) : SortsTo prog w Z hd st := by
  rcases x with hx | ⟨hs, h1, h2, hx⟩
  · exact hx.sorts hl
  · exact fun A E s Q R z h => sorted_set R.hand (hx.keep (z hd)) h1 fun h' tk D ns k i p q => h D h' tk ns k i (p.trans h2) q

section
variable {prog : Program} {w : World} {A : Around} {E : Value → Shared → Prop} {s : Shared} {H0 Z Y : Heap} {L a : Addr} {pm : Value} {l : List (Str × Value)} {hv sv tv cv : Option Value}

theorem hits_of {kb l : List (Int × Value)} (h : ∀ kv ∈ l, ∃ y, valueAt kb kv.1 = some y ∧ SeqAt.EqAt A s kv.2 y true) : KeqHits A s kb l true := by
  induction l with
  | nil => exact .nil
  | cons kv r ih =>
    obtain ⟨k, v⟩ := kv
    obtain ⟨y, h1, h2⟩ := h _ (List.mem_cons_self ..)
    exact KeqHits.hit (e := true) (b := true) h1 h2 (ih fun kv hk => h kv (List.mem_cons_of_mem _ hk))

theorem l_seg19 {T D hd sl : Addr} {kvs kvs2 : List (Int × Value)} {st : List Int} {Q : Flow → Shared → Prop} {rest : List Stmt} (R : Roomy A) (ST : Stat H0) (x : SL H0 Y L l hv sv (some (.ref T)) cv s.heap)
    (hh : l.lookup (Str.ofString "handed") = some (.ref hd)) (hc : l.lookup (Str.ofString "copied") = some (.ref D)) (hs : l.lookup (Str.ofString "starts") = some (.ref sl))
    (hTs : (T == sysModules) = false) (hDs : (D == sysModules) = false) (hT : Y.DictOf (intKind prog w) T kvs) (hD : Y.DictOf (intKind prog w) D kvs2) (hP : Paired (Twin Y) kvs kvs2)
    (h1 : SortsTo prog w Y hd st) (h2 : SortsTo prog w Y sl st)
    (hQ : ∀ h' t', s.heap.StaysIn h' → wpAny (model prog w) A (execs rest (lenv pm L a)) Q E { s with heap := h', toks := t' }) :
    wpAny (model prog w) A (execs (lS 19 :: rest) (lenv pm L a)) Q E s := by
  have IF := l_fn pm L a
  have hu : A.in1.units + 64 < cLine := by have := R.units; show A.units + 1 + 64 < _; omega
  refine wpAny_execs_cons ?_
  show wpAny _ _ (exec (.If (.BoolOp .Or [.Compare (.Name _ _) [.NotEq] [.Name _ _] _, .Compare (.Call (.Name _ _) [.Name _ _] [] _) [.NotEq] [.Call (.Name _ _) [.Name _ _] [] _] _] _) _ [] _) _) _ _ _
  refine wpAny_If (wpAny_isTrue_BoolOp (wpAny_allTrue_Or_cons (wpAny_isTrue_Compare1 (x.nmt (x.nm hc ?_)))))
  have hT' := hT.keep x.z
  obtain ⟨ep, hTa⟩ := hT'.dictAt
  have hnd : (kvs.map (·.1)).Nodup := hTa.nodup
  have hlen : kvs.length = kvs2.length := Paired.length hP
  refine keq_ne (r := true) hTs hDs hT' (hD.keep x.z) (by have := R.units; omega) (fun _ => hits_of fun kv hkv => ?_) ?_
  · obtain ⟨k, v⟩ := kv
    obtain ⟨i, hi⟩ := List.mem_iff_getElem?.mp hkv
    have hv := valueAt_of_get hnd hi
    rcases twin_val hP k with ⟨e1, _⟩ | ⟨b, b2, ns, e1, e2, i1, i2⟩
    · rw [hv] at e1; cases e1
    · rw [hv] at e1
      have e1' : v = .ref b := Option.some.inj e1
      subst e1'
      obtain ⟨vs, n, ho, hi'⟩ := i1
      obtain ⟨us, m, ho', hi2⟩ := i2
      have := keq_ints (A := A) (s := s) ⟨_, x.z _ _ ho, rfl, n, rfl⟩ hi' ⟨_, x.z _ _ ho', rfl, m, rfl⟩ hi2 hu
      rw [show decide (ns = ns) = true by simp] at this
      exact ⟨_, e2, this⟩
  · rw [hlen, beq_self_eq_true, Bool.true_and]
    refine wpAny_truthy_bool ?_
    rw [if_neg (by simp)]
    refine wpAny_allTrue_Or_cons (wpAny_isTrue_Compare1 (b1 IF (x.stat ST) (by rfl) (fun _ _ N => N.sorted) (x.nm hh ?_)))
    refine h1 _ _ _ _ R x.z fun D1 g1 u1 ns1 k1 i1 p1 q1 => ?_
    have x1 := x.stays k1
    refine b1 IF (x1.stat ST) (by rfl) (fun _ _ N => N.sorted) (SL.nm (s := { s with heap := g1, toks := u1 }) x1 hs ?_)
    refine h2 _ _ _ _ R x1.z fun D2 g2 u2 ns2 k2 i2 p2 q2 => ?_
    have en : ns1 = ns2 := List.Perm.eq_of_pairwise (le := fun a b => a ≤ b) (fun a b _ _ => Int.le_antisymm) q1 q2 (p1.trans p2.symm)
    subst en
    refine ne_IL (i1.keep k2) i2 (by have := R.units; omega) ?_
    rw [show decide (ns1 ≠ ns1) = false by simp]
    refine wpAny_truthy_bool ?_
    rw [if_neg Bool.false_ne_true]
    refine wpAny_allTrue_Or_nil ?_
    rw [if_neg Bool.false_ne_true]
    exact wpAny_execs_nil (hQ g2 u2 (stays_trans k1 k2))
end
end Mine
end

section -- LawY
set_option linter.unusedVariables false
namespace Mine
open PySem PyProof.Rows PySem.W PySem.Calls PySem.Spec
open Sem (wp)

section
variable {prog : Program} {w : World} {A : Around} {E : Value → Shared → Prop} {s : Shared} {H0 Z Y : Heap} {L a : Addr} {pm : Value} {l : List (Str × Value)} {hv sv tv cv : Option Value}

theorem l_seg20 {T hd : Addr} {kvs : List (Int × Value)} {st order : List Int} {once : Bool} {tb : Int → Option (List Int)} {Q : Flow → Shared → Prop} {rest : List Stmt} (R : Roomy A) (ST : Stat H0) (FN : Fns H0) (O : Exc61 H0) (hfr : A.frames = some [lenv pm L a])
    (x : SL H0 Y L l hv sv (some (.ref T)) cv s.heap) (hh : l.lookup (Str.ofString "handed") = some (.ref hd)) (TB : TbOk prog w Y T kvs order st once tb) (h99 : tb 99 = none)
    (hQ : ∀ s', H0.StaysIn s'.heap → Out s s' → Q (.ret (.bool true)) s') :
    wpAny (model prog w) A (execs (lS 20 :: lS 21 :: rest) (lenv pm L a)) Q E s := by
  have IF := l_fn pm L a
  obtain ⟨o, pmc, ho, hd'⟩ := (x.fns FN).f70
  refine wpAny_execs_cons ?_
  show wpAny _ _ (exec (.Assign [.Name _ _] (.Call (.Name _ _) [.Name _ _, .Constant (.int 99) _ _, .Name _ _] [] _) _) _) _ _ _
  refine wpAny_Assign_Name (f3 IF (x.stat ST) (by rfl) (fun _ _ N => N.build) hd' (x.nm hh (wpAny_Constant_int (SL.nmt (s := { s with toks := s.toks + 1 }) x ⟨ho, ?_⟩))) (by rfl))
  refine g_make (s := { s with toks := s.toks + 1 }) R (x.stat ST) (x.fns FN) fun pm' Lg a' h' t' m k1 hgen hne hL0 ha0 hm m1 m2 m3 => ?_
  have x1 := x.stays k1
  have hLr := x.nreg hL0
  have har := x.nreg ha0
  refine SL.st (s := { s with heap := h', toks := t', gens := s.gens.push (.fresh (.func (bodyOf 6) (genv pm' Lg))) }) x1 fun h2 t2 x2 e2 => ?_
  have nL {b : Addr} (r : ¬ reg L b) : b ≠ L := fun q => r (q ▸ r0 L)
  have hgen2 : h2.IsGen a' s.gens.size := let ⟨o, nm, qn, ho, r⟩ := hgen; ⟨o, nm, qn, e2 _ _ (nL har) ho, r⟩
  have hm2 : h2.Ns Lg m := let ⟨o, es, ep, ho, r⟩ := hm; ⟨o, es, ep, e2 _ _ (nL hLr) ho, r⟩
  have sb : (cut (fun b => reg L b ∨ b = Lg) h2).StaysIn h2 := cut_stays _ _
  have yb : Y.StaysIn (cut (fun b => reg L b ∨ b = Lg) h2) := stays_cut x2.z fun b hb => by
    rcases hb with hb | rfl
    · exact x.zn b hb
    · exact none_of_stays x.z hL0
  have kb : H0.StaysIn (cut (fun b => reg L b ∨ b = Lg) h2) := stays_trans x.k yb
  have hbL : (cut (fun b => reg L b ∨ b = Lg) h2).get? L = none := cut_none _ (.inl (r0 L))
  have hbg : (cut (fun b => reg L b ∨ b = Lg) h2).get? Lg = none := cut_none _ (.inr rfl)
  have hgenb : (cut (fun b => reg L b ∨ b = Lg) h2).IsGen a' s.gens.size := by
    obtain ⟨o, nm, qn, ho, r⟩ := hgen2
    refine ⟨o, nm, qn, ?_, r⟩
    rw [cut_get _ (fun q => ?_)]
    · exact ho
    · rcases q with q | q
      · exact har q
      · exact hne q.symm
  generalize cut (fun b => reg L b ∨ b = Lg) h2 = base at *
  have Ob : Exc61 base := OwnClsQ.keeps O kb
  have hFF : h2.FunFrames base [lenv pm L a] := by
    obtain ⟨m', ⟨o', es, ep, ho', hd2, _⟩, _⟩ := x2.lf.ns
    exact ⟨by show ScopeKind.function ≠ _; decide, ⟨L, o', rfl, hbL, ho', fun vs q => by rw [hd2] at q; cases q⟩, trivial⟩
  refine wpAny_execs_cons ?_
  show wpAny _ _ (exec (.Try [.Assign [.Name _ _] (.Call (.Name _ _) [.Name _ _, .Constant .none _ _] [] _) _] [.ExceptHandler (some (.Name _ _)) none [.Return (some (.Constant (.bool true) _ _)) _] _] [] [] _) _) _ _ _
  refine wpAny_Try_except ?_
  refine wpAny_execs_cons (wpAny_Assign_Name (b2 IF (x2.stat ST) (by rfl) (fun _ _ N => N.next) (SL.nm (s := { s with heap := h2, toks := t2, gens := s.gens.push (.fresh (.func (bodyOf 6) (genv pm' Lg))) }) x2 (v := .ref a') (by rfl) (wpAny_Constant_none (wpAny_next2 hgen2 ?_)))))
  refine pyNext_raises (pm := pm) (base := base) (lenv := lenv pm L a) (A := A.in1) R.r2 ((x2.stat ST).nolim) Ob hgen2 hgenb (Array.getElem?_push_size) (g_raise (lenv := lenv pm L a) R.r2 TB.pd (x2.z) (ST.keep x.k) Ob h99 hm2 m2 m3 hfr sb hbg hFF) fun xe a0 s3 hfl hbare hos => ?_
  refine wpAny_looks_onW (outer := []) hfr rfl hfl fun h4 hH4 _ => ?_
  refine wpAny_landsW (s := { s3 with heap := h4 }) hH4 fun h5 hF5 _ => ?_
  have STb : Stat h5 := (ST.keep kb).keep hF5.1
  refine handleBy_own (C := 61) (bmB := bmExc) (newId := "Exception.__new__") (x := "NetworkXNoPath") (mg := fun _ => some (.ref 61)) (by decide) (nm_g IF (s := { s3 with heap := h5 }) STb (by rfl) (fun _ _ N => N.nopath) ?_)
  refine ⟨rfl, OwnClsQ.keeps Ob hF5.1, hF5.there, ?_⟩
  refine lands_againW (s := { s3 with heap := h5 }) hF5 fun h6 hF6 _ => ?_
  refine wpAny_execs_cons (wpAny_Return_some (wpAny_Constant_bool ?_))
  exact hQ _ (stays_trans kb hF6.1) ⟨hos, fun hb => hbare (hb.push rfl)⟩
end
end Mine
end

section -- LawZ
set_option linter.unusedVariables false
namespace Mine
open PySem PyProof.Rows PySem.W PySem.Calls PySem.Spec
open Sem (wp)

theorem Ext.nd {tb : Int → Option (List Int)} {order : List Int} (T : Tab tb order) {p q : List Int} (h : Ext tb p q) : p.Nodup → (∀ x ∈ p, x ∈ order) → q.Nodup ∧ ∀ x ∈ q, x ∈ order := by
  induction h with
  | refl p => exact fun a b => ⟨a, b⟩
  | @step pre k r e q h1 h2 h3 h4 ih =>
    intro a b
    have hk : k ∈ order := b k (by simp)
    obtain ⟨r', e1, _, e2, _⟩ := T.row k hk
    rw [h1] at e1; cases e1
    refine ih ?_ ?_
    · rw [List.nodup_append]
      refine ⟨a, by simp, fun x hx y hy => ?_⟩
      rw [List.mem_singleton] at hy
      exact fun q => h3 (by rw [← hy, ← q]; exact hx)
    · intro x hx
      rw [List.mem_append, List.mem_singleton] at hx
      rcases hx with hx | rfl
      · exact b x hx
      · exact e2 _ h2

theorem Way.short {tb : Int → Option (List Int)} {order : List Int} (T : Tab tb order) {S : Int → Bool} {g : Int} (hg : g ∈ order) {x : List Int} (h : Way tb S [g] x) : x.length ≤ 5 := by
  obtain ⟨pre, k, h1, _, rfl⟩ := h
  obtain ⟨a, b⟩ := Ext.nd T h1 (by simp) (by simpa using hg)
  rw [List.length_reverse]
  exact Nat.le_trans (nd_len a b) T.len

section
variable {prog : Program} {w : World} {A : Around} {E : Value → Shared → Prop} {s : Shared} {H0 Z Y : Heap} {L a : Addr} {pm : Value} {l : List (Str × Value)} {hv sv tv cv : Option Value} {h : Heap}

theorem SL.shrink (x : SL H0 Z L l hv sv tv cv h) {T : Addr} (h0 : H0.get? T = none) : SL H0 (gone Z T) L l hv sv tv cv h :=
  ⟨x.lf, stays_trans (gone_stays _ _) x.z, fun b r => none_of_stays (gone_stays _ _) (x.zn b r), stays_gone x.k h0⟩

theorem body11 : bodyOf 11 = [lS 0, lS 1, lS 2, lS 3, lS 4, lS 5, lS 6, lS 7, lS 8, lS 9, lS 10, lS 11, lS 12, lS 13, lS 14, lS 15, lS 16, lS 17, lS 18, lS 19, lS 20, lS 21, lS 22] := by rfl

theorem IL.gone {b T : Addr} {ns : List Int} (x : IL Z b ns) (hz : Z.StaysIn h) {o : Obj} {es : Array DictEntry} {n : Nat} (hT : h.get? T = some o) (hd : o.data = .dict es n) : IL (gone Z T) b ns := by
  obtain ⟨vs, m, ho, hi⟩ := x
  refine ⟨vs, m, ?_, hi⟩
  rw [gone_other _ (fun q => ?_)]
  · exact ho
  · rw [← q, hz _ _ ho] at hT; cases hT; cases hd

theorem HandedOk.gone {b T : Addr} {st : List Int} (x : HandedOk prog w Z b st) (hz : Z.StaysIn h) {o : Obj} {es : Array DictEntry} {n : Nat} (hT : h.get? T = some o) (hd : o.data = .dict es n) : HandedOk prog w (gone Z T) b st := by
  refine x.keep fun ob hob => ?_
  rw [gone_other _ (fun q => ?_)]
  · exact hob
  · rw [← q, hz _ _ hob] at hT
    cases hT
    rcases x with ⟨vs, m, ho, _⟩ | ⟨hs, _, _, es', ep', ho, _⟩
    · rw [ho] at hob; cases hob; cases hd
    · rw [ho] at hob; cases hob; cases hd

set_option maxHeartbeats 8000000 in
theorem l_law {la : Addr} {ns : List Int} {Q : Flow → Shared → Prop} (R : Roomy A) (ST : Stat H0) (FN : Fns H0) (O : Exc61 H0) (hfr : A.frames = some [lenv pm L a]) (x : SL H0 H0 L [(Str.ofString "script", .ref la)] none none none none s.heap)
    (hl : IL H0 la ns) (hlen : ns.length ≤ 63) (hQ : ∀ s', H0.StaysIn s'.heap → Out s s' → Q (.ret (.bool true)) s') : wpAny (model prog w) A (execs (bodyOf 11) (lenv pm L a)) Q E s := by
  rw [body11]
  refine l_seg01 R ST FN x (by rfl) hl hlen fun c t1 t2 h1 k1 c0 c1 x1 => ?_
  have m0 : 0 ≤ c.fmod 4 := Int.fmod_nonneg_of_pos _ (by decide)
  have m1 : c.fmod 4 < 4 := Int.fmod_lt_of_pos _ (by decide)
  obtain ⟨n, hn⟩ : ∃ n : Nat, 2 + c.fmod 4 = (n : Int) := ⟨(2 + c.fmod 4).toNat, by omega⟩
  have hn2 : 2 ≤ n := by omega
  have hn5 : n ≤ 5 := by omega
  rw [hn] at x1
  refine wpAny_execs_cons (l_seg2 (s := { s with heap := h1, toks := k1 }) R ST x1 c0 c1 hn2 hn5 fun o h2 k2 Z2 x2 z2 io => ?_)
  have oL : (ordr c n).length = n := by rw [ordr_len]; omega
  have oM : ∀ e ∈ ordr c n, 0 ≤ e ∧ e < 5 := fun e he => by have := ordr_mem (by omega) he; omega
  have oN : (ordr c n).Nodup := ordr_nodup (by omega)
  generalize ordr c n = order at *
  have il2 := hl.keep z2
  refine l_seg34 (s := { s with heap := h2, toks := k2 }) R ST FN x2 (by rfl) (by rfl) (by rfl) io oM oN oL hn5 il2 hlen fun T h3 k3 kvs3 cv3 x3 hTr hTZ hTs hT3 hk3 hr3 => ?_
  refine l_seg5 (s := { s with heap := h3, toks := k3 }) R ST FN x3 (by rfl) il2 hlen fun c6 t6 h5 k5 d0 d1 x5 kr5 => ?_
  refine l_seg6 (s := { s with heap := h5, toks := k5 }) R x5 (by rfl) io oM oN (by omega) d0 d1 fun st sl h6 k6 Z6 x6 z6 isl hso hsn kr6 => ?_
  have hst5 : st.length ≤ 5 := by have := nd_len hsn hso; omega
  refine l_seg7 (s := { s with heap := h6, toks := k6 }) R ST x6 (by rfl) isl hsn hst5 (fun e he => oM e (hso e he)) c0 c1 fun hd once h7 k7 Z7 x7 z7 hok kr7 => ?_
  have kr := (kr5.trans kr6).trans kr7
  have hT7 := kr.dict hTr hT3
  have hr7 := hr3.fz (kr.fz x3.lf)
  obtain ⟨oT, esT, epT, hoT, _, hdT, _⟩ := id hT7
  have hT0 : H0.get? T = none := none_of_stays x2.k hTZ
  have x7' := x7.shrink hT0
  have sl7 := (isl.keep z7).gone x7.z hoT hdT
  have o7 := (io.keep (stays_trans z6 z7)).gone x7.z hoT hdT
  have la7 := (il2.keep (stays_trans z6 z7)).gone x7.z hoT hdT
  have hd7 := hok.gone x7.z hoT hdT
  refine l_seg8 (s := { s with heap := h7, toks := k7 }) R x7' (by rfl) (by rfl) (by rfl) sl7 hsn hso (by omega) hTr (gone_self _ _) hT7 hk3 hr7 fun h8 k8 kvs x8 hT8 hk8 hr8 he8 => ?_
  have x9 := x8.grow
  have z9 := x8.grown
  have hT9 : (frz L h8).DictOf (intKind prog w) T kvs := let ⟨o, es, ep, ho, r⟩ := hT8; ⟨o, es, ep, by rw [frz_get _ hTr]; exact ho, r⟩
  have hr9 : RowsOk (frz L h8) order kvs := fun kv hkv => let ⟨r, ns, a, b, c⟩ := hr8 kv hkv; ⟨r, ns, a, b.frz x8.lf, c⟩
  obtain ⟨tb, TB⟩ := TbOk.mk' (once := once) hTs hT9 hk8 hr9 oN (by omega) fun ho k hk => let ⟨b, e1, e2⟩ := he8 ho k hk; ⟨b, e1, e2.frz x8.lf⟩
  have sl9 := sl7.keep z9
  have o9 := o7.keep z9
  have la9 := la7.keep z9
  have hd9 := hd7.stays z9
  generalize frz L h8 = Z9 at *
  refine l_seg9 (s := { s with heap := h8, toks := k8 }) R ST FN x9 (by rfl) o9 oL hn5 hn2 (by rfl) la9 hlen fun G gv g1 g2 h9 k9 Z10 x10 z10 hG hgv hg1 hg2 _ => ?_
  obtain ⟨rg1, e1, _⟩ := TB.tab.row g1 hg1
  obtain ⟨rg2, e2, _⟩ := TB.tab.row g2 hg2
  obtain ⟨W1, gy1, wl1, wm1, wn1⟩ := told_exists TB.tab (fun k => st.any (· == k)) hg1 e1
  obtain ⟨W2, gy2, wl2, wm2, wn2⟩ := told_exists TB.tab (fun k => st.any (· == k)) hg2 e2
  obtain ⟨n1, L1, al1, ll1, lm1, ln1⟩ := all_exists TB.tab (fun k => st.any (· == k)) hg1
  obtain ⟨n2, L2, al2, ll2, lm2, ln2⟩ := all_exists TB.tab (fun k => st.any (· == k)) hg2
  have wL1 : ∀ x, x ∈ W1 ↔ x ∈ L1 := fun x => (wm1 x).trans (lm1 x).symm
  have wL2 : ∀ x, x ∈ W2 ↔ x ∈ L2 := fun x => (wm2 x).trans (lm2 x).symm
  have hW1 : ∀ w ∈ W1, w.length ≤ 1000 := fun w hw => by have := Way.short TB.tab hg1 ((wm1 w).mp hw); omega
  have hW2 : ∀ w ∈ W2, w.length ≤ 1000 := fun w hw => by have := Way.short TB.tab hg2 ((wm2 w).mp hw); omega
  have on1 : once = true → W1.Nodup := fun h => wn1 fun k r hk hr => TB.emp h k r hk hr
  have on2 : once = true → W2.Nodup := fun h => wn2 fun k r hk hr => TB.emp h k r hk hr
  have TB10 := TB.stays z10
  refine l_seg10 (s := { s with heap := h9, toks := k9 }) R ST x10 hTs TB10.dict (fun kv hkv => let ⟨r, ns, a, b, c⟩ := TB10.rows kv hkv; ⟨r, ns, a, b, by omega⟩) (by have := congrArg List.length TB10.keys; simp at this; omega) fun D h10 k10 Z11 kvs2 x11 z11 hD hDs hP => ?_
  have TB11 := TB10.stays z11
  have z911 := stays_trans z10 z11
  have sl11 := sl9.keep z911
  have hd11 := hd9.stays z911
  have hG11 := z11 _ _ hG
  refine l_seg11 (s := { s with heap := h10, toks := k10 }) R ST FN x11 (by rfl) (by rfl) (by rfl) hG11 hgv (TB11.copy hDs hD hP) sl11 al1 (by omega) al2 (by omega) fun U d1 d2 h11 k11 Z12 x12 z12 hU hd1 hd2 => ?_
  have TB12 := TB11.stays z12
  have hd12 := hd11.stays z12
  refine l_seg12 (s := { s with heap := h11, toks := k11 }) R ST FN x12 (by rfl) (by rfl) (z12 _ _ hG11) hgv hd12 TB12 e1 gy1 wl1 fun P s13 Z13 x13 z13 hP13 ou13 => ?_
  refine l_seg13 R ST FN x13 (by rfl) (by rfl) (by rfl) (z13 _ _ hU) (hd1.keep z13) hP13 wl1 wL1 ln1 on1 fun h14 k14 st14 => ?_
  have x14 := x13.stays st14
  have TB13 := TB12.stays z13
  have hd13 := hd12.stays z13
  have z1213 := stays_trans z12 z13
  refine l_seg14 (s := { s13 with heap := h14, toks := k14 }) R ST FN x14 (by rfl) (by rfl) (z1213 _ _ hG11) hgv hd13 TB13 e1 gy1 e2 gy2 fun wk a1 a2 o1 o2 i1 i2 s15 Y15 x15 hwk ou15 => ?_
  refine l_seg15 R x15 fun td t1 t2 s16 Y16 x16 y16 hTL lt1 lt2 ou16 => ?_
  refine l_seg16 (Y0 := Y16) R ST x14.k ⟨Y16, o1, o2, t1, t2, x16, fun _ _ e => e, y16 _ _ hwk, hTL, lt1, lt2⟩ (by rfl) (by rfl) (by rfl) (by rfl) (by rfl) wl1 wl2 hW1 hW2 fun s17 Y17 p1 p2 u1 u2 x17 y17 hwk17 hTL17 lu1 lu2 ou17 => ?_
  refine l_seg17 R ST FN x17 (by rfl) (by rfl) hTL17 lu1 lu2 wl1 wl2 wL1 wL2 ln1 ln2 on1 on2 ll1 ll2 fun l' td' v1 v2 V1 V2 s18 x18 hl' htd' hTL18 lv1 lv2 sv1 sv2 q1 q2 ou18 => ?_
  have zy : Z13.StaysIn Y17 := x17.zy
  have look {n : Str} {v : Value} (hn : n ≠ Str.ofString "told") (h : List.lookup n _ = some v) : l'.lookup n = some v := hl' n v hn h
  refine l_seg18 R ST x14.k x18 htd' (look (by decide) (by rfl)) (look (by decide) (by rfl)) hTL18 lv1 lv2 sv1 sv2 q1 q2 (zy _ _ (z13 _ _ hU)) ((hd1.keep z13).keep zy) ((hd2.keep z13).keep zy) hwk17 fun s19 x19 ou19 => ?_
  have TBY := TB13.stays zy
  have z11Y := stays_trans z1213 zy
  refine l_seg19 R ST x19 (look (by decide) (by rfl)) (look (by decide) (by rfl)) (look (by decide) (by rfl)) hTs hDs TBY.dict (hD.keep z11Y) (Paired.map' hP fun _ _ t => t.fz (Fz.of_stays z11Y)) ((hd13.stays zy).sorts (by omega)) ((sl11.keep z11Y).sorts (by omega)) fun h20 k20 st20 => ?_
  have x20 := x19.stays st20
  have ouAll : Out s { s19 with heap := h20, toks := k20 } :=
    Out.trans (Out.trans (s := s) ⟨ou13.1, ou13.2⟩ ⟨ou15.1, ou15.2⟩) (Out.trans ou16 (Out.trans ou17 (Out.trans ou18 ⟨ou19.1, ou19.2⟩)))
  refine l_seg20 (s := { s19 with heap := h20, toks := k20 }) R ST FN O hfr x20 (look (by decide) (by rfl)) TBY (TBY.out 99 fun h => by have := oM _ h; omega) fun s' hs' ou' => hQ s' hs' (ouAll.trans ou')
end
end Mine
end

section -- LawEnd
set_option linter.unusedVariables false
namespace Mine
open PySem PyProof.Rows PySem.W PySem.Calls PySem.Spec
open Sem (wp)

section
variable {prog : Program} {w : World} {A : Around} {E : Value → Shared → Prop} {s : Shared}

theorem law_call {la : Addr} {ns : List Int} {o : Obj} {pm : Value} {Q : Value → Shared → Prop} (R : Roomy A) (R2 : ∀ env, Roomy (A.deeper env)) (hfr : A.frames = some []) (ST : Stat s.heap) (FN : Fns s.heap) (O : Exc61 s.heap) (ho : s.heap.get? 92 = some o) (hd : o.data = .func (fdOf 11 pm 91)) (hcd : s.heap.CodeRec (.ref 91) "law")
    (hl : IL s.heap la ns) (hlen : ns.length ≤ 63) (hQ : ∀ s', s.heap.StaysIn s'.heap → Out s s' → Q (.bool true) s') : wpAny (model prog w) A (call (.ref 92) [.ref la]) Q E s := by
  have hb : bindArgs (fdOf 11 pm 91) ⟨[.ref la], []⟩ = pure [(Str.ofString "script", .ref la)] := by rfl
  refine call_fnC (body := bodyOf 11) R ho hd ST.nolim hcd rfl hb rfl (fun x hx => ?_) (fun h₁ t1 L E' hLe hn hcells hk => ?_)
  · simp only [List.mem_cons, List.not_mem_nil, or_false] at hx
    rw [hx]; exact .inl rfl
  have hL : ∀ b, reg L b → s.heap.get? b = none := fun b hb => Heap.get?_none_of_le (by rw [hLe]; rcases hb with rfl | rfl | rfl | rfl | rfl <;> omega)
  have x : SL s.heap s.heap L [(Str.ofString "script", .ref la)] none none none none h₁ := by
    refine ⟨⟨⟨_, hn, fun n v hv => ?_⟩, hcells _ _ (l_head pm L 92), hcells _ _ (l_size pm L 92), hcells _ _ (l_table pm L 92), hcells _ _ (l_cell pm L 92)⟩, hk, hL, fun _ _ e => e⟩
    rw [List.lookup_cons] at hv
    by_cases q : n = Str.ofString "script"
    · subst q
      rw [beq_self_eq_true] at hv
      rw [← hv]; rfl
    · rw [show (n == Str.ofString "script") = false by simpa using q] at hv
      cases hv
  refine l_law (s := { s with heap := h₁, toks := t1 }) (R2 _) ST FN O ?_ x hl hlen fun s' hs' ou => ⟨_, rfl, hQ s' hs' ⟨ou.1, ou.2⟩⟩
  show (A.deeper (lenv pm L 92)).frames = _
  simp only [Around.deeper]
  rw [hfr]; rfl
end
end Mine
end

section -- the head
open PySem PySem.W PyProof.Rows
set_option Elab.async false
set_option maxRecDepth 100000
set_option maxHeartbeats 8000000
namespace Mine
open_top hd for PySem.Challenge.rw_aw6013_01
end Mine
end

set_option linter.unusedVariables false
set_option maxRecDepth 100000
set_option maxHeartbeats 8000000
open PySem PySem.W PyProof.Rows
theorem PySem.Challenge.cw_aw6013_01_holds : PySem.Challenge.rw_aw6013_01.Holds :=
  Mine.hd (by
  k_fill
  intro w s₀ s₁ mg mb G Y fa o pm cd doc dV kV ho hd hcd hD hmg hg args vals as hpre hlay hrd hwl hlo
  have KX := kIn_of Y
  have X := (Ground.X G).1
  have V := (Ground.X G).2
  refine Ground.open G ?_
  intro T B D TE TW
  wrow_args hpre hlay hrd hwl hlo
  rename_i ns hs hlay0 hL1 hr1 hl2 as1 as2 la vs as3 hL ra w1 r0 hI hrr hc1 hc2
  x_fa T KX hmg
  have hil : Mine.IL s₁.heap la ns := by
    cases w1 with
    | list hx hw =>
      obtain ⟨o', ho', _, n', hd'⟩ := hL
      rw [hx] at ho'
      cases ho'
      cases hd'
      exact ⟨_, 0, hx, hI⟩
  have NM : Mine.Names mg mb := by
    refine ⟨?_, ?_, ?_, ?_, ?_, ⟨?_, ?_⟩, ⟨?_, ?_⟩, ⟨?_, ?_⟩, ⟨?_, ?_⟩, ⟨?_, ?_⟩, ⟨?_, ?_⟩, ⟨?_, ?_⟩, ⟨?_, ?_⟩, ⟨?_, ?_⟩⟩
    all_goals first
      | exact mg_of KX T.g rfl
      | exact mg_none_of KX T.g rfl
      | (rw [T.builtins _ (by decide)]; decide +kernel)
  have ST : Mine.Stat s₁.heap := ⟨T.nolimit, mg, mb, T.g, T.b, NM⟩
  have FN : Mine.Fns s₁.heap := ⟨⟨_, _, KX _ _ rfl, rfl⟩, codeRec_of KX rfl, ⟨_, _, KX _ _ rfl, rfl⟩, codeRec_of KX rfl, ⟨_, _, KX _ _ rfl, rfl⟩, codeRec_of KX rfl, ⟨_, _, KX _ _ rfl, rfl⟩, codeRec_of KX rfl⟩
  have quiet : ∀ N, nsOkIn (Mine.hd.heap_39 w.params) N = true → (quietNames.all fun n => nsIn (Mine.hd.heap_39 w.params) N n == some none) = true → ∀ n ∈ quietNames, s₁.heap.nsMap N n = none := fun N e q n hn => nsMap_none_of_in KX e (by simpa using List.all_eq_true.mp q n hn)
  have O : Mine.Exc61 s₁.heap := by
    refine ⟨rfl, _, _, _, _, _, _, _, _, _, _, _, _, _, _, _, _, _, KX 61 _ rfl, .of_isNs (isNs_of_in KX (by kernel_rfl)), quiet _ (by kernel_rfl) (by kernel_rfl), ?_⟩
    refine .own (KX _ _ rfl) (.of_isNs (isNs_of_in KX (by kernel_rfl))) (quiet _ (by kernel_rfl) (by kernel_rfl)) ?_
    refine .own (KX _ _ rfl) (.of_isNs (isNs_of_in KX (by kernel_rfl))) (quiet _ (by kernel_rfl) (by kernel_rfl)) ?_
    refine .own (KX _ _ rfl) (.of_isNs (isNs_of_in KX (by kernel_rfl))) (quiet _ (by kernel_rfl) (by kernel_rfl)) ?_
    exact .base
  have hl : ns.length ≤ 63 := by omega
  obtain ⟨o, ho, pm, hd⟩ : ∃ o, s₁.heap.get? 92 = some o ∧ ∃ pm, o.data = .func (Mine.fdOf 11 pm 91) := ⟨_, KX _ _ rfl, _, rfl⟩
  have hcd : s₁.heap.CodeRec (.ref 91) "law" := codeRec_of KX rfl
  refine Mine.law_call (o := o) (pm := pm) (ns := ns) ?_ ?_ rfl ST FN O ho hd hcd hil hl fun s' hs' ou => ?_
  · exact ⟨rfl, by decide, by decide⟩
  · exact fun env => ⟨rfl, by show 1 + claimMargin + 1 + 40 ≤ recursionLimit; decide, by show 4 + 3 + 1000 < cLine; decide⟩
  · refine ⟨.inl ⟨_, _, [], rfl, fun _ => rfl, ReadsW.bool true, ?_, fun _ => ⟨List.nodup_nil, fun _ hm => (nomatch hm)⟩⟩, OldK.of_keep hs', ou.1, ou.2 (by rw [hg]; exact AllBare.empty)⟩
    first | rfl | wrow_post)
