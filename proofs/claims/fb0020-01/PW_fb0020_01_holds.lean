import PyProof.Rows.All
import Wide.All
import OpenK.AllK
import Wide.FinOn
import PySem.Challenge.RW_fb0020_01
open PySem PySem.W PyProof.Rows
set_option Elab.async false
set_option maxRecDepth 100000
section
open PySem PySem.W PyProof.Rows PySem.Calls
set_option linter.unusedVariables false
set_option maxHeartbeats 8000000
namespace Mine
open_top hd for PySem.Challenge.rw_fb0020_01
end Mine
end
section
open PySem PySem.W PyProof.Rows PySem.Calls
set_option linter.unusedVariables false
set_option maxHeartbeats 4000000
namespace Mine

/-- the elements of a mask over 0 .. 5, rising -/
def els (b : Nat) : List Nat := (List.range 6).filter fun i => b.testBit i
def hs (b : Nat) : List Int := (els b).map Int.ofNat
def masks : List Nat := [7, 15, 31]

theorem free_dec : ∀ b < 64, ∀ x < 6, b.testBit x = false →
    ((els b).toArray[SetTable.below (els b).toArray x]? == some x) = false := by decide +kernel
theorem live_dec : ∀ b < 64, ∀ x < 6, b.testBit x = true →
    ((els b).toArray[SetTable.below (els b).toArray x]? == some x) = true := by decide +kernel
theorem put_dec : ∀ b < 64, ∀ x < 6, b.testBit x = false →
    (els b).take (SetTable.below (els b).toArray x) ++ x :: (els b).drop (SetTable.below (els b).toArray x) = els (b ||| 2 ^ x) := by decide +kernel
theorem or_lt_dec : ∀ b < 64, ∀ x < 6, (b ||| 2 ^ x) < 64 := by decide +kernel
theorem len_dec : ∀ b < 64, (els b).length ≤ 6 := by decide +kernel
theorem laid_dec : ∀ b < 64, ∀ m ∈ masks, (SetTable.layClean m (hs b).toArray).map (fun owner =>
    let live := (List.range (m + 1)).filterMap fun j => (owner.getD j none).map (j, ·)
    (live.map (·.1), live.map (·.2))) = some (els b, List.range (els b).length) := by decide +kernel
end Mine
namespace Mine

theorem els_mem_dec : ∀ b < 64, ∀ i ∈ els b, i < 6 ∧ b.testBit i = true := by decide +kernel
theorem els_fill_dec : ∀ b < 64, (els b).toArray.size ≤ 7 := by decide +kernel
theorem masks_ge {m : Nat} (h : m ∈ masks) : 7 ≤ m := by simp [masks] at h; omega
theorem masks_odd {m : Nat} (h : m ∈ masks) : m = 7 ∨ m = 15 ∨ m = 31 := by simpa [masks] using h

/-- a table in the form that every set of this law has -/
structure TabB (b : Nat) (t : SetTable) : Prop where
  place : t.place = (els b).toArray
  dummies : t.dummies = #[]
  mask : t.mask ∈ masks
  plain : t.plain = true

theorem slot_free {b : Nat} {t : SetTable} (T : TabB b t) (hb : b < 64) {x : Nat} (hx : x < 6) (h : b.testBit x = false) : t.slot x = .empty := by
  unfold SetTable.slot
  rw [T.place, T.dummies]
  dsimp only
  rw [free_dec b hb x hx h]
  rfl

theorem bits_small_dec : ∀ x < 6, SetTable.bits (Int.ofNat x) = x := by decide +kernel

theorem freeSlot_of {b : Nat} {t : SetTable} (T : TabB b t) (hb : b < 64) {x : Nat} (hx : x < 6) (h : b.testBit x = false) :
    t.freeSlot (Int.ofNat x) = some (x, false) := by
  unfold SetTable.freeSlot
  have hs : t.slot x = .empty := slot_free T hb hx h
  have hm := masks_ge T.mask
  have hj : (t.probeStart (Int.ofNat x)).j = x := by
    unfold SetTable.probeStart
    rw [bits_small_dec x hx]
    show x % (t.mask + 1) = x
    exact Nat.mod_eq_of_lt (by omega)
  have hd : (t.probeStart (Int.ofNat x)).dummy = none := rfl
  have hp : t.probe (fun _ => Int.ofNat x + 1) (Int.ofNat x) (t.probeStart (Int.ofNat x)) = some (.empty x none) := by
    unfold SetTable.probe
    obtain ⟨n, hn⟩ : ∃ n, 10 * SetTable.turns t.mask = n + 1 := ⟨10 * SetTable.turns t.mask - 1, by unfold SetTable.turns; omega⟩
    rw [hn]
    unfold SetTable.probe.go
    rw [hj, hs, hd]
  rw [hp]
  rfl

theorem fits_of {b : Nat} {t : SetTable} (T : TabB b t) (hb : b < 64) : t.fits (els b).length = true := by
  unfold SetTable.fits SetTable.fill
  rw [T.place, T.dummies]
  have h1 := els_fill_dec b hb
  have h2 := masks_ge T.mask
  simp
  simp at h1
  omega

theorem put_of {b : Nat} {t : SetTable} (T : TabB b t) (hb : b < 64) {x : Nat} (hx : x < 6) (h : b.testBit x = false) :
    TabB (b ||| 2 ^ x) (t.put x).1 ∧ (t.put x).2 = SetTable.below (els b).toArray x ∧ (t.put x).1.led = t.led := by
  unfold SetTable.put
  rw [T.place, T.dummies]
  dsimp only
  refine ⟨⟨?_, ?_, T.mask, T.plain⟩, rfl, rfl⟩
  · apply Array.toList_inj.mp
    rw [SetTable.toList_insertAt]
    exact put_dec b hb x hx h
  · rfl

/-- the entries: rising, each the int of its hash -/
def EntB (b : Nat) (es : Array (Int × Value)) : Prop := es.toList.map (·.1) = hs b ∧ ∀ e ∈ es.toList, ∃ tk, e.2 = .int e.1 tk

theorem EntB.size {b : Nat} {es : Array (Int × Value)} (h : EntB b es) : es.size = (els b).length := by
  have := congrArg List.length h.1
  simpa [hs] using this

theorem ent_insert {b : Nat} {es : Array (Int × Value)} (h : EntB b es) (hb : b < 64) {x : Nat} (hx : x < 6) (hn : b.testBit x = false) (tk : Tok) :
    EntB (b ||| 2 ^ x) (SetTable.insertAt es (SetTable.below (els b).toArray x) (Int.ofNat x, .int (Int.ofNat x) tk)) := by
  constructor
  · rw [SetTable.toList_insertAt, List.map_append, List.map_cons, List.map_take, List.map_drop, h.1]
    unfold hs
    rw [← List.map_take, ← List.map_drop, ← put_dec b hb x hx hn, List.map_append, List.map_cons]
  · intro e he
    rw [SetTable.toList_insertAt] at he
    rcases List.mem_append.mp he with he | he
    · exact h.2 e (List.mem_of_mem_take he)
    · rcases List.mem_cons.mp he with rfl | he
      · exact ⟨tk, rfl⟩
      · exact h.2 e (List.mem_of_mem_drop he)

theorem layNew_of {b : Nat} {t : SetTable} (T : TabB b t) {es : Array (Int × Value)} (h : EntB b es) (hb : b < 64) {x : Nat} (hx : x < 6) (hn : b.testBit x = false) (tk : Tok) :
    ∃ es' t', layNew t es (Int.ofNat x) (.int (Int.ofNat x) tk) = (es', t', false, false) ∧ EntB (b ||| 2 ^ x) es' ∧ TabB (b ||| 2 ^ x) t' ∧ t'.led = t.led := by
  unfold layNew
  rw [freeSlot_of T hb hx hn]
  obtain ⟨h1, h2, h3⟩ := put_of T hb hx hn
  have he := ent_insert h hb hx hn tk
  dsimp only
  rw [h2]
  have hb' := or_lt_dec b hb x hx
  have hf : (t.put x).1.fits (SetTable.insertAt es (SetTable.below (els b).toArray x) (Int.ofNat x, .int (Int.ofNat x) tk)).size = true := by
    rw [he.size]; exact fits_of h1 hb'
  refine ⟨_, _, ?_, he, h1, h3⟩
  unfold SetTable.orStandIn
  rw [hf]
  rfl

theorem laid_of {b m finger moves : Nat} {led : Bool} (hb : b < 64) (hm : m ∈ masks) :
    SetTable.laid m finger moves led true (hs b).toArray = some ({ mask := m, place := (els b).toArray, dummies := #[], finger, led, moves, plain := true }, (List.range (els b).length).toArray) := by
  have h := laid_dec b hb m hm
  unfold SetTable.laid
  cases hq : SetTable.layClean m (hs b).toArray with
  | none => rw [hq] at h; cases h
  | some owner =>
    rw [hq] at h
    simp only [Option.map_some, Option.some.injEq, Prod.mk.injEq] at h
    obtain ⟨h1, h2⟩ := h
    simp only [Option.bind_eq_bind, Option.bind_some, Option.pure_def, Option.some.injEq, Prod.mk.injEq, SetTable.mk.injEq, true_and, and_true]
    exact ⟨congrArg List.toArray h1, congrArg List.toArray h2⟩

theorem hs_of {b : Nat} {es : Array (Int × Value)} (h : EntB b es) : es.map (·.1) = (hs b).toArray := by
  apply Array.toList_inj.mp
  simpa using h.1

theorem range_filterMap (es : Array (Int × Value)) : (List.range es.size).toArray.filterMap (es[·]?) = es := by
  apply Array.toList_inj.mp
  rw [Array.toList_filterMap]
  exact filterMap_getElem?_range es

theorem sizeAbove_dec : ∀ n ≤ 24, SetTable.sizeAbove n - 1 ∈ masks := by decide +kernel

theorem laidAll {b m finger moves : Nat} {led : Bool} {es : Array (Int × Value)} (h : EntB b es) (hb : b < 64) (hm : m ∈ masks) :
    ∃ t' order, SetTable.laid m finger moves led true (es.map (·.1)) = some (t', order) ∧ order.filterMap (es[·]?) = es ∧ TabB b t' ∧ t'.led = led ∧ coversAll order es.size = true := by
  refine ⟨_, _, by rw [hs_of h]; exact laid_of hb hm, ?_, ⟨rfl, rfl, hm, rfl⟩, rfl, ?_⟩
  · rw [← h.size]; exact range_filterMap es
  · rw [← h.size]
    unfold coversAll
    exact List.isPerm_iff.mpr (List.Perm.refl _)

theorem relaid_of {b : Nat} {t : SetTable} (T : TabB b t) {es : Array (Int × Value)} (h : EntB b es) (hb : b < 64) {n : Nat} (hn : n ≤ 24) :
    ∃ t' order, t.relaid (es.map (·.1)) n = some (t', order) ∧ order.filterMap (es[·]?) = es ∧ TabB b t' ∧ t'.led = t.led ∧ coversAll order es.size = true := by
  unfold SetTable.relaid
  rw [T.plain]
  exact laidAll h hb (sizeAbove_dec n hn)

theorem relayAll_of {b : Nat} {t : SetTable} (T : TabB b t) {es : Array (Int × Value)} (h : EntB b es) (hb : b < 64) {n : Nat} (hn : n ≤ 24) :
    ∃ t', relayAll t es n = (es, t', false) ∧ TabB b t' ∧ t'.led = t.led := by
  obtain ⟨t', order, h1, h2, h3, h4, h5⟩ := relaid_of T h hb hn
  refine ⟨t', ?_, h3, h4⟩
  unfold relayAll
  rw [h1]
  dsimp only
  rw [h2, h5, h.size, fits_of h3 hb]
  rfl
theorem grown_dec : ∀ b < 64, SetTable.grown (els b).length ≤ 24 := by decide +kernel
end Mine
end
section
open PySem PySem.W PyProof.Rows PySem.Calls
set_option linter.unusedVariables false
set_option maxHeartbeats 4000000
namespace Mine

def ByText (w : World) : Prop := w.params.followText "set-order" = true
structure SetB (w : World) (b : Nat) (o : Obj) : Prop where
  lt : b < 64
  ex : o.ExactSet
  data : ∃ es ep t, o.data = .set es ep t ∧ EntB b es ∧ TabB b t ∧ (ByText w ∨ t.led = true)
def SetAt (w : World) (h : Heap) (a : Addr) (b : Nat) : Prop := ∃ o, h.get? a = some o ∧ SetB w b o

theorem SetAt.keep {w : World} {h h' : Heap} {a : Addr} {b : Nat} (S : SetAt w h a b) (k : ∀ o, h.get? a = some o → h'.get? a = some o) : SetAt w h' a b :=
  let ⟨o, ho, x⟩ := S; ⟨o, k o ho, x⟩
theorem SetAt.typeIs {w : World} {s : Shared} {a : Addr} {b : Nat} (S : SetAt w s.heap a b) : s.TypeIs (.ref a) "set" :=
  let ⟨o, ho, x⟩ := S; ⟨o, ho, x.ex.1⟩
theorem hash_dec : ∀ x < 6, hashInt (Int.ofNat x) = Int.ofNat x := by decide +kernel

section
variable {prog : Program} {w : World} {A : Around} {E : Value → Shared → Prop} {s : Shared} {a : Addr} {b : Nat}

theorem EntB.elems {es : Array (Int × Value)} (h : EntB b es) (hb : b < 64) : ElemsOf (intKind prog w) es.toList := by
  intro e he
  obtain ⟨tk, ht⟩ := h.2 e he
  have hm : e.1 ∈ hs b := by rw [← h.1]; exact List.mem_map_of_mem he
  obtain ⟨i, hi, hie⟩ := List.mem_map.mp hm
  have hlt := (els_mem_dec b hb i hi).1
  refine ⟨⟨e.1, ?_, ?_⟩, ?_⟩
  · rw [ht]; exact intKind_is prog w e.1 tk
  · show e.1 = hashInt e.1
    rw [← hie, hash_dec i hlt]
  · rw [ht]; rfl

theorem isInt_of {k i : Int} {tk : Tok} : (intKind prog w).is k (.int i tk) = decide (i = k) := by
  show (i == k) = decide (i = k)
  rfl

theorem els_iff_dec : ∀ b < 64, ∀ x < 6, (b.testBit x = true ↔ x ∈ els b) := by decide +kernel

theorem EntB.mem {es : Array (Int × Value)} (h : EntB b es) (hb : b < 64) {x : Nat} (hx : x < 6) : b.testBit x = true ↔ ∃ e ∈ es.toList, (intKind prog w).is (Int.ofNat x) e.2 = true := by
  rw [els_iff_dec b hb x hx]
  constructor
  · intro hm
    have : Int.ofNat x ∈ es.toList.map (·.1) := by rw [h.1]; exact List.mem_map_of_mem hm
    obtain ⟨e, he, hq⟩ := List.mem_map.mp this
    obtain ⟨tk, ht⟩ := h.2 e he
    exact ⟨e, he, by rw [ht, isInt_of]; exact decide_eq_true hq⟩
  · rintro ⟨e, he, hq⟩
    obtain ⟨tk, ht⟩ := h.2 e he
    rw [ht, isInt_of] at hq
    have hq := of_decide_eq_true hq
    have : e.1 ∈ hs b := by rw [← h.1]; exact List.mem_map_of_mem he
    obtain ⟨i, hi, hie⟩ := List.mem_map.mp this
    have : i = x := by
      rw [hq] at hie
      exact Int.ofNat.inj hie
    exact this ▸ hi

theorem EntB.bound {es : Array (Int × Value)} (h : EntB b es) (hb : b < 64) : es.size ≤ 6 := by rw [h.size]; exact len_dec b hb
theorem small_scan {n : Nat} (h : n ≤ 6) : n < scanBound := by unfold scanBound; omega

theorem find_of {es : Array (Int × Value)} (h : EntB b es) (hb : b < 64) {x : Nat} (hx : x < 6) :
    (es.toList.findIdx? (fun e => (intKind prog w).is (Int.ofNat x) e.2)).isSome = b.testBit x := by
  cases hq : b.testBit x with
  | true =>
    obtain ⟨e, he, hp⟩ := (h.mem (prog := prog) (w := w) hb hx).mp hq
    cases hf : es.toList.findIdx? (fun e => (intKind prog w).is (Int.ofNat x) e.2) with
    | some _ => rfl
    | none => have := List.findIdx?_eq_none_iff.mp hf e he; rw [hp] at this; cases this
  | false =>
    cases hf : es.toList.findIdx? (fun e => (intKind prog w).is (Int.ofNat x) e.2) with
    | none => rfl
    | some j =>
      obtain ⟨hj, hpj, _⟩ := List.findIdx?_eq_some_iff_getElem.mp hf
      have := (h.mem (prog := prog) (w := w) hb hx).mpr ⟨_, List.getElem_mem hj, hpj⟩
      rw [hq] at this; cases this

theorem wp_setState {o : Obj} {Q : (Array (Int × Value) × Nat × SetTable) → Shared → Prop} (ho : s.heap.get? a = some o) (S : SetB w b o)
    (h : ∀ es ep t, o.data = .set es ep t → EntB b es → TabB b t → (ByText w ∨ t.led = true) → t.fits es.size = true → Q (es, ep, t) s) :
    wpAny (model prog w) A (setState a) Q E s := by
  obtain ⟨es, ep, t, hd, he, ht, hl⟩ := S.data
  have hf : t.fits es.size = true := by rw [he.size]; exact fits_of ht S.lt
  exact wpAny_setState_of ho hd hf (h es ep t hd he ht hl hf)

theorem SetB.put {o : Obj} {es ep t} {b' : Nat} {es' : Array (Int × Value)} {t' : SetTable} (hex : o.ExactSet) (hd : o.data = .set es ep t) (hb : b' < 64) (he : EntB b' es') (ht : TabB b' t') (hl : ByText w ∨ t'.led = true) :
    SetB w b' (Obj.putSet es' t' o) := by
  rw [putSet_of es' t' hd]
  exact ⟨hb, ⟨hex.1, hex.2.1, hex.2.2⟩, es', ep + 1, t', rfl, he, ht, hl⟩

theorem putSet_free {o : Obj} {es ep t} {es' : Array (Int × Value)} {t' : SetTable} (hd : o.data = .set es ep t) : (Obj.putSet es' t' o).isFreed = false := by
  rw [putSet_of es' t' hd]; rfl

theorem wp_storeSet {o : Obj} {es ep t} {b' : Nat} {es' : Array (Int × Value)} {t' : SetTable} {Q : Unit → Shared → Prop} (ho : s.heap.get? a = some o) (hex : o.ExactSet) (hd : o.data = .set es ep t)
    (hb : b' < 64) (he : EntB b' es') (ht : TabB b' t') (hl : ByText w ∨ t'.led = true)
    (h : ∀ h' o', Heap.SameBut a s.heap h' → h'.get? a = some o' → SetB w b' o' → Q () { s with heap := h' }) :
    wpAny (model prog w) A (storeSet a es' t') Q E s := by
  refine wpAny_storeSet_of ho hd (h _ _ (Heap.SameBut.update _ _ _) (Heap.get?_update_self _ ho (putSet_free hd)) (SetB.put hex hd hb he ht hl)) ?_
  exact fits_of_scanBound (small_scan (he.bound hb))

theorem wp_scan {x : Nat} {tk : Tok} {o : Obj} {es : Array (Int × Value)} {ep : Nat} {t : SetTable} {adding : Bool} {Q : ScanMet → Shared → Prop} (hx : x < 6) (ho : s.heap.get? a = some o) (hd : o.data = .set es ep t) (hf : t.fits es.size = true) (he : EntB b es) (hb : b < 64)
    (h : Q (match es.toList.findIdx? (fun e => (intKind prog w).is (Int.ofNat x) e.2) with | some j => .found (0 + j) | none => .absent) s) :
    wpAny (model prog w) A (setScan a (.int (Int.ofNat x) tk) (Int.ofNat x) adding es) Q E s := by
  have hkey : (intKind prog w).is (Int.ofNat x) (.int (Int.ofNat x) tk) = true := intKind_is prog w _ tk
  have hhash : (intKind prog w).hash (Int.ofNat x) = Int.ofNat x := hash_dec x hx
  have := wpAny_setScan_of (A := A) (E := E) (adding := adding) hkey ho hd hf (he.elems hb) h
  rw [hhash] at this
  exact this

/-- add an int of the range -/
theorem wp_addHashed {x : Nat} {tk : Tok} {o : Obj} {Q : Bool → Shared → Prop} (ho : s.heap.get? a = some o) (S : SetB w b o) (hx : x < 6)
    (h : ∀ h' o', Heap.SameBut a s.heap h' → h'.get? a = some o' → SetB w (b ||| 2 ^ x) o' → Q (!b.testBit x) { s with heap := h' }) :
    wpAny (model prog w) A (setAddHashed a (.int (Int.ofNat x) tk) (Int.ofNat x)) Q E s := by
  have hb := S.lt
  obtain ⟨es, ep, t, hd, he, ht, hl⟩ := id S.data
  have hf : t.fits es.size = true := by rw [he.size]; exact fits_of ht hb
  have hkey : (intKind prog w).is (Int.ofNat x) (.int (Int.ofNat x) tk) = true := intKind_is prog w _ tk
  have hhash : (intKind prog w).hash (Int.ofNat x) = Int.ofNat x := hash_dec x hx
  unfold setAddHashed setAddHashedIn
  refine wpAny_holding (wpAny_bind (wpAny_setState_of ho hd hf ?_))
  dsimp only
  rw [byScan_of rfl (small_scan (he.bound hb)) (he.elems (prog := prog) (w := w) hb)]
  simp only [↓reduceIte]
  unfold setAddByScan
  refine wpAny_bind ?_
  refine wpAny_bind (wpAny_rule ?_)
  refine wpAny_bind (wp_scan hx ho hd hf he hb ?_)
  have hfnd := find_of (prog := prog) (w := w) he hb hx
  cases hr : List.findIdx? (fun e => (intKind prog w).is (Int.ofNat x) e.2) es.toList with
  | some j =>
    rw [hr] at hfnd
    dsimp only
    refine wpAny_pure (wpAny_pure ?_)
    have hin : b.testBit x = true := hfnd.symm
    have e : s = { s with heap := s.heap } := by cases s; rfl
    have hor : b ||| 2 ^ x = b := by
      apply Nat.eq_of_testBit_eq
      intro i
      rw [Nat.testBit_or, Nat.testBit_two_pow]
      by_cases hi : x = i
      · subst hi; rw [hin]; rfl
      · simp [hi]
    have := h s.heap o (Heap.SameBut.refl a s.heap) ho (by rw [hor]; exact S)
    rw [hin] at this; rw [e]; exact this
  | none =>
    rw [hr] at hfnd
    dsimp only
    have hin : b.testBit x = false := hfnd.symm
    obtain ⟨es1, t1, hL, he1, ht1, hl1⟩ := layNew_of ht he hb hx hin tk
    rw [hL]
    dsimp only
    have hb1 := or_lt_dec b hb x hx
    have hl1' : ByText w ∨ t1.led = true := hl1 ▸ hl
    refine wpAny_bind (m := pure ()) (wpAny_pure ?_)
    rw [if_pos ht1.plain]
    refine wpAny_bind ?_
    rw [hashByValue_scannable 8 rfl]
    refine wpAny_pure ?_
    simp only [plainKind, ↓reduceIte]
    refine wpAny_bind (wp_storeSet ho S.ex hd hb1 he1 ht1 hl1' fun h1 o1 hs1 ho1 S1 => ?_)
    have fin : ∀ h' o', Heap.SameBut a s.heap h' → h'.get? a = some o' → SetB w (b ||| 2 ^ x) o' → Q true { s with heap := h' } := by
      intro h' o' p q r
      have := h h' o' p q r
      rw [hin] at this; exact this
    split
    · have hg : SetTable.grown es1.size ≤ 24 := by rw [he1.size]; exact grown_dec _ hb1
      obtain ⟨t2, hR, ht2, hl2⟩ := relayAll_of ht1 he1 hb1 hg
      rw [hR]
      dsimp only
      refine wpAny_bind (m := pure ()) (wpAny_pure ?_)
      obtain ⟨es1', ep1', t1', hd1, _, _, _⟩ := id S1.data
      refine wpAny_bind (wp_storeSet (s := { s with heap := h1 }) ho1 S1.ex hd1 hb1 he1 ht2 (hl2 ▸ hl1') fun h2 o2 hs2 ho2 S2 => ?_)
      exact wpAny_pure (wpAny_pure (fin h2 o2 (hs1.trans hs2) ho2 S2))
    · exact wpAny_pure (wpAny_pure (fin h1 o1 hs1 ho1 S1))
end
end Mine
end
section
open PySem PySem.W PyProof.Rows PySem.Calls
set_option linter.unusedVariables false
set_option maxHeartbeats 4000000
namespace Mine
section
variable {prog : Program} {w : World} {A : Around} {E : Value → Shared → Prop} {s : Shared} {a c : Addr} {b d : Nat}

theorem hs_mem_dec : ∀ b < 64, ∀ x < 6, decide (Int.ofNat x ∈ hs b) = b.testBit x := by decide +kernel

theorem SetB.setOf {h : Heap} {o : Obj} (ho : h.get? a = some o) (S : SetB w b o) : h.SetOf (intKind prog w) a (fun k => decide (k ∈ hs b)) (els b).length := by
  obtain ⟨es, ep, t, hd, he, ht, hl⟩ := S.data
  refine ⟨o, es, ep, t, ho, S.ex, hd, he.elems S.lt, fun k => ?_, small_scan (he.bound S.lt), by rw [he.size]; exact fits_of ht S.lt, he.size⟩
  rw [decide_eq_true_iff, ← he.1]
  constructor
  · intro hm
    obtain ⟨e, he', hq⟩ := List.mem_map.mp hm
    obtain ⟨tk, ht'⟩ := he.2 e he'
    exact ⟨e, he', by rw [ht', isInt_of]; exact decide_eq_true hq⟩
  · rintro ⟨e, he', hq⟩
    obtain ⟨tk, ht'⟩ := he.2 e he'
    rw [ht', isInt_of] at hq
    exact (of_decide_eq_true hq) ▸ List.mem_map_of_mem he'

theorem SetAt.setOf {h : Heap} (S : SetAt w h a b) : h.SetOf (intKind prog w) a (fun k => decide (k ∈ hs b)) (els b).length :=
  let ⟨_, ho, x⟩ := S; x.setOf ho

theorem SetAt.lt {h : Heap} (S : SetAt w h a b) : b < 64 := let ⟨_, _, x⟩ := S; x.lt

theorem wp_in {x : Nat} {tk : Tok} {Q : Value → Shared → Prop} (S : SetAt w s.heap a b) (hx : x < 6) (h : Q (.bool (b.testBit x)) { s with toks := s.toks + 1 }) :
    wpAny (model prog w) A (compareOp .In (.int (Int.ofNat x) tk) (.ref a)) Q E s :=
  wpAny_inSet_of (intKind_is prog w _ tk) rfl S.setOf (by rw [hs_mem_dec b S.lt x hx]; exact h)
theorem wp_notIn {x : Nat} {tk : Tok} {Q : Value → Shared → Prop} (S : SetAt w s.heap a b) (hx : x < 6) (h : Q (.bool (!b.testBit x)) { s with toks := s.toks + 1 }) :
    wpAny (model prog w) A (compareOp .NotIn (.int (Int.ofNat x) tk) (.ref a)) Q E s :=
  wpAny_notInSet_of (intKind_is prog w _ tk) rfl S.setOf (by rw [hs_mem_dec b S.lt x hx]; exact h)
theorem wp_find {x : Nat} {tk : Tok} {Q : Option Nat → Shared → Prop} (S : SetAt w s.heap a b) (hx : x < 6) (h : ∀ r : Option Nat, r.isSome = b.testBit x → Q r s) :
    wpAny (model prog w) A (setFind a (.int (Int.ofNat x) tk) (Int.ofNat x)) Q E s := by
  have := wpAny_setFind_of (A := A) (E := E) (s := s) (Q := Q) (intKind_is prog w (Int.ofNat x) tk) rfl S.setOf (fun r hr => h r (by rw [hr, hs_mem_dec b S.lt x hx]))
  rw [show (intKind prog w).hash (Int.ofNat x) = Int.ofNat x from hash_dec x hx] at this
  exact this

theorem wp_setAdd {x : Nat} {tk : Tok} {o : Obj} {Q : Bool → Shared → Prop} (ho : s.heap.get? a = some o) (S : SetB w b o) (hx : x < 6)
    (h : ∀ h' o', Heap.SameBut a s.heap h' → h'.get? a = some o' → SetB w (b ||| 2 ^ x) o' → Q (!b.testBit x) { s with heap := h', toks := s.toks + 1 }) :
    wpAny (model prog w) A (setAdd a (.int (Int.ofNat x) tk)) Q E s := by
  unfold setAdd
  refine wpAny_holding (wpAny_bind ((intKind prog w).pyHash (intKind_is prog w (Int.ofNat x) tk) ?_))
  rw [show (intKind prog w).hash (Int.ofNat x) = Int.ofNat x from hash_dec x hx]
  exact wp_addHashed (s := { s with toks := s.toks + 1 }) ho S hx h

theorem call_add {x : Nat} {tk : Tok} {o : Obj} {Q : Value → Shared → Prop} (ho : s.heap.get? a = some o) (S : SetB w b o) (hx : x < 6)
    (h : ∀ h' o', Heap.SameBut a s.heap h' → h'.get? a = some o' → SetB w (b ||| 2 ^ x) o' → Q .none { s with heap := h', toks := s.toks + 1 }) :
    wpAny (model prog w) A (call (.builtin "set.add") [.ref a, .int (Int.ofNat x) tk]) Q E s := by
  refine wpAny_call_entry F.slot_set_add (SetAt.typeIs ⟨o, ho, S⟩) F.entry_set_add ?_ (F.args_set_add_2 _ _)
  unfold Builtin.«set.add» Builtin.Frozenset.oneOther
  simp only [List.isEmpty_nil, bind_assoc]
  unfold Builtin.Frozenset.addrOf
  refine wpAny_bind (wpAny_pure ?_)
  try dsimp only
  refine wpAny_bind (wpAny_pure ?_)
  try dsimp only
  refine wpAny_bind (wp_setAdd ho S hx fun h' o' p q r => ?_)
  show wpAny _ _ (ret Value.none) _ _ _
  exact wpAny_pure ⟨_, rfl, h h' o' p q r⟩

theorem setsByText_wp {Q : Bool → Shared → Prop} (h : Q (w.params.followText "set-order") s) : wpAny (model prog w) A setsByText Q E s := by
  unfold setsByText
  exact wpAny_bind (wpAny_askSetting (wpAny_pure h))

theorem pickOrder_go_perm {α : Type} (next : Nat → Nat) : ∀ (n k : Nat) (left : List α) (out : Array α), left.length = n →
    (pickOrder.go next n k left out).toList.Perm (out.toList ++ left) := by
  intro n
  induction n with
  | zero => intro k left out h; have : left = [] := List.length_eq_zero_iff.mp h; subst this; simp [pickOrder.go]
  | succ n ih =>
    intro k left out h
    unfold pickOrder.go
    have hlt : next k % left.length < left.length := Nat.mod_lt _ (by omega)
    rw [List.getElem?_eq_getElem hlt]
    dsimp only
    refine (ih (k + 1) _ _ (by rw [List.length_eraseIdx_of_lt hlt]; omega)).trans ?_
    rw [Array.toList_push, List.append_assoc]
    refine List.Perm.append_left _ ?_
    rw [List.singleton_append]
    rw [List.eraseIdx_eq_take_drop_succ]
    refine List.Perm.trans (List.perm_middle.symm) ?_
    rw [List.getElem_cons_drop, List.take_append_drop]

theorem pickOrder_perm {α : Type} (next : Nat → Nat) (xs : Array α) : (pickOrder next xs).toList.Perm xs.toList := by
  unfold pickOrder
  simpa using pickOrder_go_perm next xs.size 0 xs.toList #[] (by simp)

/-- the order in which a set that is not turned is walked -/
def walkOf (w : World) (a : Addr) (ep : Nat) (es : Array (Int × Value)) : Array (Int × Value) :=
  if w.params.followText "set-order" = true then pickOrder (w.params.setOrder a ep) es else es
theorem walkOf_perm (w : World) (a : Addr) (ep : Nat) (es : Array (Int × Value)) : (walkOf w a ep es).toList.Perm es.toList := by
  unfold walkOf
  split
  · exact pickOrder_perm _ _
  · exact List.Perm.refl _

theorem wp_setWalk {o : Obj} {Q : Array (Int × Value) → Shared → Prop} (ho : s.heap.get? a = some o) (S : SetB w b o)
    (h : ∀ es ep t, o.data = .set es ep t → EntB b es → Q (walkOf w a ep es) s) : wpAny (model prog w) A (setWalk a) Q E s := by
  unfold setWalk
  refine wpAny_bind (wp_setState ho S fun es ep t hd he ht hl hf => ?_)
  dsimp only
  refine wpAny_bind (setsByText_wp ?_)
  have hq := h es ep t hd he
  unfold walkOf at hq
  cases hbt : w.params.followText "set-order" with
  | true =>
    rw [hbt] at hq
    simp only [↓reduceIte] at hq ⊢
    exact wpAny_bind (wpAny_askSetting (wpAny_pure hq))
  | false =>
    rw [hbt] at hq
    have hled : t.led = true := hl.resolve_left (by unfold ByText; rw [hbt]; exact Bool.false_ne_true)
    simp only [Bool.false_eq_true, ↓reduceIte] at hq ⊢
    show wpAny _ _ (if (!t.plain && decide (es.size > 1)) = true then _ else (if (!t.led && decide (es.size > 1)) = true then _ else pure PUnit.unit) >>= fun _ => pure es) _ _ _
    rw [ht.plain, hled]
    exact wpAny_pure hq

theorem wp_setWalkUnseen {o : Obj} {others : List Addr} {filled : Option Addr} {Q : Array (Int × Value) → Shared → Prop} (ho : s.heap.get? a = some o) (S : SetB w b o)
    (h : ∀ es ep t, o.data = .set es ep t → EntB b es → Q (walkOf w a ep es) s) : wpAny (model prog w) A (setWalkUnseen a others filled) Q E s := by
  unfold setWalkUnseen
  refine wpAny_bind (wp_setState ho S fun es ep t hd he ht hl hf => ?_)
  dsimp only
  refine wpAny_bind (setsByText_wp ?_)
  have hc : (w.params.followText "set-order" || (t.led && t.plain) || decide (es.size ≤ 1)) = true := by
    rw [ht.plain]
    rcases hl with hl | hl
    · unfold ByText at hl; rw [hl]; rfl
    · rw [hl]; simp
  rw [if_pos hc]
  exact wp_setWalk ho S h
end
end Mine
end
section
open PySem PySem.W PyProof.Rows PySem.Calls
set_option linter.unusedVariables false
set_option maxHeartbeats 4000000
namespace Mine

structure Made (h h' : Heap) (o : Obj) : Prop where
  keep : ∀ b x, h.get? b = some x → h'.get? b = some x
  at_ : h'.get? h.objs.size = some o

theorem Made.fr {h₀ h h' : Heap} {L : Addr} {m : Str → Option Value} {o : Obj} (M : Made h h' o) (F : Fr h₀ L h m) : Fr h₀ L h' m :=
  ⟨F.ns.keeps M.keep, fun b x e => M.keep _ _ (F.keep b x e), F.above⟩
theorem Made.news {h₀ h h' : Heap} {L : Addr} {m : Str → Option Value} {o : Obj} {news : List (Addr × Obj)} (M : Made h h' o) (F : Fr h₀ L h m) (N : News h₀ L h news) :
    News h₀ L h' ((h.objs.size, o) :: news) := by
  intro p hp
  rcases List.mem_cons.mp hp with rfl | hp
  · refine ⟨M.at_, Nat.ne_of_gt F.ns.lt, ?_⟩
    cases hq : h₀.get? h.objs.size with
    | none => rfl
    | some o' => exact absurd (Heap.lt_size (F.keep _ _ hq)) (Nat.lt_irrefl _)
  · exact ⟨M.keep _ _ (N p hp).1, (N p hp).2⟩

theorem EntB.elem {b : Nat} {es : Array (Int × Value)} (h : EntB b es) (hb : b < 64) : ∀ e ∈ es.toList, ∃ (x : Nat) (tk : Tok), x < 6 ∧ b.testBit x = true ∧ e = (Int.ofNat x, .int (Int.ofNat x) tk) := by
  intro e he
  obtain ⟨tk, ht⟩ := h.2 e he
  have hm : e.1 ∈ hs b := by rw [← h.1]; exact List.mem_map_of_mem he
  obtain ⟨i, hi, hie⟩ := List.mem_map.mp hm
  obtain ⟨h6, ht'⟩ := els_mem_dec b hb i hi
  refine ⟨i, tk, h6, ht', ?_⟩
  obtain ⟨e1, e2⟩ := e
  simp only at hie ht ⊢
  subst hie
  rw [ht]

theorem EntB.has {b : Nat} {es : Array (Int × Value)} (h : EntB b es) {x : Nat} (hx : x ∈ els b) : ∃ e ∈ es.toList, e.1 = Int.ofNat x := by
  have : Int.ofNat x ∈ es.toList.map (·.1) := by rw [h.1]; exact List.mem_map_of_mem hx
  obtain ⟨e, he, hq⟩ := List.mem_map.mp this
  exact ⟨e, he, hq⟩

/-- b less d -/
def less (b d : Nat) : Nat := b &&& (63 ^^^ d)
theorem less_dec : ∀ b < 64, ∀ d < 64, ∀ i < 6, (less b d).testBit i = (b.testBit i && !d.testBit i) := by decide +kernel
theorem less_lt {b d : Nat} (hb : b < 64) : less b d < 64 := Nat.lt_of_le_of_lt Nat.and_le_left hb
theorem bit_high {b i : Nat} (hb : b < 64) (hi : 6 ≤ i) : b.testBit i = false := by
  apply Nat.testBit_lt_two_pow
  calc b < 2 ^ 6 := hb
    _ ≤ 2 ^ i := Nat.pow_le_pow_right (by omega) hi
theorem bits_ext {b d : Nat} (hb : b < 64) (hd : d < 64) (h : ∀ i < 6, b.testBit i = d.testBit i) : b = d := by
  apply Nat.eq_of_testBit_eq
  intro i
  by_cases hi : i < 6
  · exact h i hi
  · rw [bit_high hb (by omega), bit_high hd (by omega)]

section
variable {prog : Program} {w : World} {A : Around} {E : Value → Shared → Prop} {s : Shared} {a c : Addr} {b d : Nat}

theorem wp_isAnySet {Q : Bool → Shared → Prop} (S : SetAt w s.heap a b) (h : Q true s) : wpAny (model prog w) A (Builtin.Frozenset.isAnySet (.ref a)) Q E s := by
  unfold Builtin.Frozenset.isAnySet
  refine wpAny_bind (wpAny_isInstance S.typeIs sub_set_self ?_)
  exact wpAny_pure h

theorem wp_newSet {Q : Value → Shared → Prop} (h : ∀ h' o, Made s.heap h' o → SetB w 0 o → Q (.ref s.heap.objs.size) { s with heap := h' }) :
    wpAny (model prog w) A (newSet (.type "set")) Q E s := by
  unfold newSet setsByText
  refine wpAny_bind (wpAny_bind (wpAny_askSetting (wpAny_pure ?_)))
  dsimp only
  simp only [newObj]
  refine wpAny_bind (wpAny_alloc (wpAny_pure (h _ _ ⟨fun b x e => Heap.get?_push_of_some _ e, Heap.get?_push_size _ rfl⟩ ⟨by decide, ⟨rfl, rfl, rfl⟩, _, _, _, rfl, ⟨rfl, fun e he => by simp at he⟩, ⟨rfl, rfl, by show 7 ∈ masks; decide, rfl⟩, ?_⟩)))
  unfold ByText
  show _ ∨ (!w.params.followText "set-order") = true
  cases w.params.followText "set-order" <;> simp

theorem wp_baseOf {Q : Value → Shared → Prop} (S : SetAt w s.heap a b) (h : Q (.type "set") s) : wpAny (model prog w) A (Builtin.Frozenset.baseOf a) Q E s := by
  unfold Builtin.Frozenset.baseOf
  refine wpAny_bind (wpAny_isInstance S.typeIs sub_set_self ?_)
  exact wpAny_pure h

theorem wp_sizeOf {Q : Nat → Shared → Prop} (S : SetAt w s.heap a b) (h : Q (els b).length s) : wpAny (model prog w) A (Builtin.Frozenset.sizeOf a) Q E s := by
  obtain ⟨o, ho, S⟩ := S
  obtain ⟨es, ep, t, hd, he, ht, hl⟩ := S.data
  unfold Builtin.Frozenset.sizeOf
  refine wpAny_bind (wpAny_setEntries_of ho hd (by rw [he.size]; exact fits_of ht S.lt) (wpAny_pure ?_))
  rw [he.size]; exact h

theorem wp_setEpoch {o : Obj} {Q : Nat → Shared → Prop} (ho : s.heap.get? a = some o) (S : SetB w b o) (h : ∀ es ep t, o.data = .set es ep t → Q ep s) : wpAny (model prog w) A (setEpoch a) Q E s := by
  obtain ⟨es, ep, t, hd, he, ht, hl⟩ := S.data
  exact wpAny_setEpoch_of ho hd (by rw [he.size]; exact fits_of ht S.lt) (h es ep t hd)

theorem wp_unchanged {id : String} {o : Obj} {was : Nat} {es ep t} {Q : Unit → Shared → Prop} (ho : s.heap.get? a = some o) (S : SetB w b o) (hd : o.data = .set es ep t) (hw : was = ep) (h : Q () s) : wpAny (model prog w) A (Builtin.Frozenset.unchanged id a was) Q E s := by
  unfold Builtin.Frozenset.unchanged
  refine wpAny_bind (wp_setEpoch ho S fun es' ep' t' hd' => ?_)
  rw [hd] at hd'
  injection hd' with _ h2 _
  rw [hw, h2]
  simp only [bne_self_eq_false, Bool.false_eq_true, ↓reduceIte]
  exact wpAny_pure h

theorem notMuch_dec : ∀ b < 64, ∀ d < 64, d ≠ 0 → ¬ ((els b).length / 4 > (els d).length) := by decide +kernel

theorem wp_forArr {es : Array (Int × Value)} {f : Int × Value → PUnit → Sem (ForInStep PUnit)} {Q : PUnit → Shared → Prop} (I : List (Int × Value) → Shared → Prop)
    (turn : ∀ x rest s, I (x :: rest) s → wpAny (model prog w) A (f x PUnit.unit) (fun r s' => r = .yield PUnit.unit ∧ I rest s') E s)
    (fin : ∀ s, I [] s → Q PUnit.unit s) (h : I es.toList s) : wpAny (model prog w) A (forIn es PUnit.unit f) Q E s := by
  rw [← Array.forIn_toList]
  refine wpAny_forIn_list f (fun rest _ s' => I rest s') Q (fun x rest b s' hI => ?_) (fun b s' hI => fin s' hI) es.toList PUnit.unit h
  refine wpAny_mono (turn x rest s' hI) (fun r s₂ hr => ?_) fun _ _ e => e
  obtain ⟨rfl, hI'⟩ := hr
  exact hI'

theorem wp_difference {id : String} {Q : Value → Shared → Prop} (Sa : SetAt w s.heap a b) (Sc : SetAt w s.heap c d) (hd0 : d ≠ 0)
    (h : ∀ h' o, Made s.heap h' o → SetB w (less b d) o → Q (.ref s.heap.objs.size) { s with heap := h' }) :
    wpAny (model prog w) A (Builtin.Frozenset.difference id a (.ref c)) Q E s := by
  unfold Builtin.Frozenset.difference
  dsimp only
  refine wpAny_bind (wp_isAnySet Sc ?_)
  simp only [Bool.not_true, Bool.false_eq_true, ↓reduceIte, Bool.false_and]
  unfold Builtin.Frozenset.addrOf
  refine wpAny_bind (wpAny_pure ?_)
  try dsimp only
  refine wpAny_bind (wp_sizeOf Sc ?_)
  refine wpAny_bind (wp_sizeOf Sa ?_)
  rw [if_neg (notMuch_dec b Sa.lt d Sc.lt hd0)]
  refine wpAny_bind (wp_baseOf Sa ?_)
  refine wpAny_bind (wp_newSet fun h₁ o₁ M₁ S₁ => ?_)
  dsimp only
  refine wpAny_bind (wpAny_pure ?_)
  have Sa₁ : SetAt w h₁ a b := Sa.keep fun o e => M₁.keep _ _ e
  have Sc₁ : SetAt w h₁ c d := Sc.keep fun o e => M₁.keep _ _ e
  obtain ⟨oa, hoa, Sa'⟩ := _root_.id Sa₁
  have hna : a ≠ s.heap.objs.size := by obtain ⟨o, ho, _⟩ := _root_.id Sa; exact Nat.ne_of_lt (Heap.lt_size ho)
  have hnc : c ≠ s.heap.objs.size := by obtain ⟨o, ho, _⟩ := _root_.id Sc; exact Nat.ne_of_lt (Heap.lt_size ho)
  refine wpAny_bind (wp_setEpoch (s := { s with heap := h₁ }) hoa Sa' fun es₁ ep₁ t₁ hd₁ => ?_)
  refine wpAny_bind (wpAny_holding (wpAny_bind (wp_setWalkUnseen (s := { s with heap := h₁ }) hoa Sa' fun es ep t hd he => ?_)))
  have hep : ep₁ = ep := by rw [hd₁] at hd; injection hd
  subst hep
  have hperm := walkOf_perm w a ep₁ es
  generalize hW : walkOf w a ep₁ es = W at hperm ⊢
  refine wpAny_bind (wp_forArr (I := fun rest s' => ∃ pre acc h₂ o₂, W.toList = pre ++ rest ∧ s' = { s with heap := h₂ } ∧ Heap.SameBut s.heap.objs.size h₁ h₂ ∧ h₂.get? s.heap.objs.size = some o₂ ∧ SetB w acc o₂ ∧
      ∀ i < 6, (acc.testBit i = true ↔ (∃ e ∈ pre, e.1 = Int.ofNat i) ∧ d.testBit i = false)) ?_ ?_ ?_)
  · rintro x rest s' ⟨pre, acc, h₂, o₂, hsplit, rfl, hsb, ho₂, S₂, hacc⟩
    have hx : x ∈ es.toList := hperm.mem_iff.mp (by rw [hsplit]; simp)
    obtain ⟨i, tk, hi, hbi, rfl⟩ := he.elem Sa'.lt x hx
    dsimp only
    have Sc₂ : SetAt w h₂ c d := Sc₁.keep fun o e => (hsb.2 c hnc).trans e
    have hoa₂ : h₂.get? a = some oa := (hsb.2 a hna).trans hoa
    refine wpAny_bind (wpAny_holding (wpAny_bind (wp_find (s := { s with heap := h₂ }) Sc₂ hi fun r hr => wpAny_bind (wpAny_pure ?_))))
    rw [hr]
    cases hdi : d.testBit i with
    | true =>
      simp only [Bool.not_true, Bool.false_eq_true, ↓reduceIte]
      refine wpAny_pure ?_
      refine wpAny_bind (wp_unchanged (s := { s with heap := h₂ }) hoa₂ Sa' hd rfl (wpAny_pure ⟨rfl, pre ++ [(Int.ofNat i, .int (Int.ofNat i) tk)], acc, h₂, o₂, by rw [hsplit]; simp, rfl, hsb, ho₂, S₂, ?_⟩))
      intro j hj
      rw [hacc j hj]
      constructor
      · rintro ⟨⟨e, he, hq⟩, hn⟩
        exact ⟨⟨e, List.mem_append_left _ he, hq⟩, hn⟩
      · rintro ⟨⟨e, he, hq⟩, hn⟩
        refine ⟨?_, hn⟩
        rcases List.mem_append.mp he with he | he
        · exact ⟨e, he, hq⟩
        · rw [List.mem_singleton.mp he] at hq
          have : i = j := Int.ofNat.inj hq
          rw [← this, hdi] at hn; cases hn
    | false =>
      simp only [Bool.not_false, ↓reduceIte]
      refine wpAny_bind (wp_addHashed (s := { s with heap := h₂ }) ho₂ S₂ hi fun h₃ o₃ hsb₃ ho₃ S₃ => wpAny_pure ?_)
      have hoa₃ : h₃.get? a = some oa := (hsb₃.2 a hna).trans hoa₂
      refine wpAny_bind (wp_unchanged (s := { s with heap := h₃ }) hoa₃ Sa' hd rfl (wpAny_pure ⟨rfl, pre ++ [(Int.ofNat i, .int (Int.ofNat i) tk)], acc ||| 2 ^ i, h₃, o₃, by rw [hsplit]; simp, rfl, hsb.trans hsb₃, ho₃, S₃, ?_⟩))
      intro j hj
      rw [Nat.testBit_or, Nat.testBit_two_pow, Bool.or_eq_true, hacc j hj, decide_eq_true_iff]
      constructor
      · rintro (⟨⟨e, he, hq⟩, hn⟩ | rfl)
        · exact ⟨⟨e, List.mem_append_left _ he, hq⟩, hn⟩
        · exact ⟨⟨_, List.mem_append_right _ (List.mem_singleton.mpr rfl), rfl⟩, hdi⟩
      · rintro ⟨⟨e, he, hq⟩, hn⟩
        rcases List.mem_append.mp he with he | he
        · exact .inl ⟨⟨e, he, hq⟩, hn⟩
        · rw [List.mem_singleton.mp he] at hq
          exact .inr (Int.ofNat.inj hq)
  · rintro s' ⟨pre, acc, h₂, o₂, hsplit, rfl, hsb, ho₂, S₂, hacc⟩
    refine wpAny_pure (wpAny_pure (h h₂ o₂ ⟨fun b x e => ?_, ho₂⟩ ?_))
    · exact (hsb.2 b (Nat.ne_of_lt (Heap.lt_size e))).trans (M₁.keep _ _ e)
    · have : acc = less b d := by
        refine bits_ext S₂.lt (less_lt Sa.lt) fun i hi => ?_
        rw [less_dec b Sa.lt d Sc.lt i hi]
        rw [List.append_nil] at hsplit
        have hb : (∃ e ∈ pre, e.1 = Int.ofNat i) ↔ b.testBit i = true := by
          rw [← hsplit]
          constructor
          · rintro ⟨e, he', hq⟩
            obtain ⟨j, tk, _, hbj, rfl⟩ := he.elem Sa'.lt e (hperm.mem_iff.mp he')
            have : j = i := Int.ofNat.inj hq
            exact this ▸ hbj
          · intro hb
            obtain ⟨e, he', hq⟩ := he.has ((els_iff_dec b Sa.lt i hi).mp hb)
            exact ⟨e, hperm.mem_iff.mpr he', hq⟩
        have := hacc i hi
        rw [hb] at this
        cases h1 : acc.testBit i <;> cases h2 : b.testBit i <;> cases h3 : d.testBit i <;> simp_all
      exact this ▸ S₂
  · exact ⟨[], 0, h₁, o₁, by simp, rfl, Heap.SameBut.refl _ _, M₁.at_, S₁, fun i _ => by simp⟩
end
end Mine
end
section
open PySem PySem.W PyProof.Rows PySem.Calls
set_option linter.unusedVariables false
set_option maxHeartbeats 4000000
namespace Mine
section
variable {prog : Program} {w : World} {A : Around} {E : Value → Shared → Prop} {s : Shared} {a c : Addr} {b d : Nat}

theorem entry_set_sub : entryFor table "set.__sub__" = some Builtin.«frozenset.__sub__» :=
  entryFor_alias (id' := "frozenset.__sub__") (by kernel_rfl) rfl (by decide +kernel) (by kernel_rfl)
theorem entry_set_or : entryFor table "set.__or__" = some Builtin.«frozenset.__or__» :=
  entryFor_alias (id' := "frozenset.__or__") (by kernel_rfl) rfl (by decide +kernel) (by kernel_rfl)
theorem entry_set_eq : entryFor table "set.__eq__" = some Builtin.«frozenset.__eq__» :=
  entryFor_alias (id' := "frozenset.__eq__") (by kernel_rfl) rfl (by decide +kernel) (by kernel_rfl)
theorem entry_set_iter : entryFor table "set.__iter__" = some Builtin.«frozenset.__iter__» :=
  entryFor_alias (id' := "frozenset.__iter__") (by kernel_rfl) rfl (by decide +kernel) (by kernel_rfl)

theorem wp_sub {Q : Value → Shared → Prop} (Sa : SetAt w s.heap a b) (Sc : SetAt w s.heap c d) (hd0 : d ≠ 0)
    (h : ∀ h' o, Made s.heap h' o → SetB w (less b d) o → Q (.ref s.heap.objs.size) { s with heap := h' }) :
    wpAny (model prog w) A (binaryOp .Sub (.ref a) (.ref c)) Q E s := by
  refine wpAny_binaryOp_same Sa.typeIs Sc.typeIs F.fills_set_sub F.slot_set_sub (wpAny_call_entry F.slot_set_sub Sa.typeIs entry_set_sub ?_ (F.args_set_sub_2 _ _))
  show wpAny _ _ (do
    let ok ← (Builtin.Frozenset.isAnySet (.ref a) <&&> Builtin.Frozenset.isAnySet (.ref c))
    if (!ok) = true then _ else (do let v ← Builtin.Frozenset.difference _ a (.ref c); ret v)) _ _ _
  refine wpAny_bind (wpAny_bind (wp_isAnySet Sa (wp_isAnySet Sc ?_)))
  simp only [Bool.not_true, Bool.false_eq_true, ↓reduceIte]
  refine wpAny_bind (wp_difference Sa Sc hd0 fun h' o M S => ?_)
  exact wpAny_pure ⟨_, rfl, by simp, h h' o M S⟩
end
end Mine
end
section
open PySem PySem.W PyProof.Rows PySem.Calls
set_option linter.unusedVariables false
set_option maxHeartbeats 4000000
namespace Mine
theorem or_dec : ∀ b < 64, ∀ d < 64, (b ||| d) < 64 := by decide +kernel
theorem or_bit (b d i : Nat) : (b ||| d).testBit i = (b.testBit i || d.testBit i) := Nat.testBit_or ..
theorem els_nil_dec : ∀ b < 64, (els b).length = 0 → b = 0 := by decide +kernel

section
variable {prog : Program} {w : World} {A : Around} {E : Value → Shared → Prop} {s : Shared} {a c : Addr} {b d : Nat}

theorem reordered_wp {es : Array (Int × Value)} {t' : SetTable} {order : Array Nat} {Q : Array (Int × Value) × SetTable → Shared → Prop} (ho : order.filterMap (es[·]?) = es) (h : Q (es, t') s) :
    wpAny (model prog w) A (do
      let some (t, order) := some (t', order) | unsupported "internal:set-table-without-room"
      let es' := order.filterMap (es[·]?)
      if es'.size != es.size then unsupported "internal:set-table-lost-an-element"
      pure (es', t)) Q E s := by
  dsimp only
  rw [ho]
  simp only [bne_self_eq_false, Bool.false_eq_true, ↓reduceIte]
  exact wpAny_pure h

theorem sizeAbove_line_dec : ∀ n ≤ 24, ¬ (SetTable.sizeAbove n > sizeLine) := by
  intro n hn
  have h : ∀ n ≤ 24, SetTable.sizeAbove n ≤ 32 := by decide +kernel
  have := h n hn
  rw [sizeLine_eq]; omega

theorem wp_setRelay {o : Obj} {n : Nat} {Q : Unit → Shared → Prop} (ho : s.heap.get? a = some o) (S : SetB w b o) (hn : n ≤ 24)
    (h : ∀ h' o', Heap.SameBut a s.heap h' → h'.get? a = some o' → SetB w b o' → Q () { s with heap := h' }) :
    wpAny (model prog w) A (setRelay a n) Q E s := by
  unfold setRelay
  refine wpAny_bind (wp_setState ho S fun es ep t hd he ht hl hf => ?_)
  dsimp only
  rw [if_neg (sizeAbove_line_dec n hn)]
  obtain ⟨t', order, h1, h2, h3, h4, h5⟩ := relaid_of ht he S.lt hn
  rw [h1]
  refine wpAny_bind (reordered_wp h2 ?_)
  dsimp only
  exact wp_storeSet ho S.ex hd S.lt he h3 (h4 ▸ hl) h

theorem wp_setRoomFor {o : Obj} {n : Nat} {Q : Unit → Shared → Prop} (ho : s.heap.get? a = some o) (S : SetB w b o) (hn : n ≤ 6)
    (h : ∀ h' o', Heap.SameBut a s.heap h' → h'.get? a = some o' → SetB w b o' → Q () { s with heap := h' }) :
    wpAny (model prog w) A (setRoomFor a n) Q E s := by
  unfold setRoomFor
  refine wpAny_bind (wp_setState ho S fun es ep t hd he ht hl hf => ?_)
  dsimp only
  have same : Q () s := by
    have := h s.heap o (Heap.SameBut.refl _ _) ho S
    have e : s = { s with heap := s.heap } := by cases s; rfl
    rw [e]; exact this
  unfold SetTable.roomFor
  split
  · rename_i wanted hw
    split at hw
    · have hp : t.place.size = (els b).length := by rw [ht.place]; simp
      have := len_dec b S.lt
      injection hw with hw
      refine wp_setRelay ho S ?_ h
      omega
    · cases hw
  · exact wpAny_pure same

theorem wp_setMerge {each : Sem Unit} {ot oc : Obj} {Q : Unit → Shared → Prop} (ht : s.heap.get? a = some ot) (St : SetB w b ot) (hc : s.heap.get? c = some oc) (Sc : SetB w d oc) (hne : a ≠ c)
    (heach : ∀ (s' : Shared) (Q' : Unit → Shared → Prop), s'.heap.get? c = some oc → Q' () s' → wpAny (model prog w) A each Q' E s')
    (h : ∀ h' o', Heap.SameBut a s.heap h' → h'.get? a = some o' → SetB w (b ||| d) o' → Q () { s with heap := h' }) :
    wpAny (model prog w) A (setMerge a c each) Q E s := by
  unfold setMerge
  rw [if_neg (by simpa using hne)]
  refine wpAny_bind (wp_setState hc Sc fun es ep t hd he htb hl hf => ?_)
  dsimp only
  have same : d = 0 → Q () s := fun hz => by
    have := h s.heap ot (Heap.SameBut.refl _ _) ht (by rw [hz, Nat.or_zero]; exact St)
    have e : s = { s with heap := s.heap } := by cases s; rfl
    rw [e]; exact this
  cases hem : es.isEmpty with
  | true =>
    simp only [↓reduceIte]
    refine wpAny_pure (same ?_)
    have : es.size = 0 := by simpa using hem
    rw [he.size] at this
    exact els_nil_dec d Sc.lt this
  | false =>
    simp only [Bool.false_eq_true, ↓reduceIte]
    refine wpAny_bind (wp_setRoomFor ht St (he.bound Sc.lt) fun h₁ o₁ sb₁ ho₁ S₁ => ?_)
    have hc₁ : h₁.get? c = some oc := (sb₁.2 c (Ne.symm hne)).trans hc
    refine wpAny_bind (wp_setState (s := { s with heap := h₁ }) ho₁ S₁ fun es₁ ep₁ t₁ hd₁ he₁ ht₁ hl₁ hf₁ => ?_)
    dsimp only
    have hfill : t₁.fill = (els b).length := by unfold SetTable.fill; rw [ht₁.place, ht₁.dummies]; simp
    have hledB : ByText w ∨ (t₁.led && t.led) = true := by
      rcases hl with q | q
      · exact .inl q
      · rcases hl₁ with q' | q'
        · exact .inl q'
        · exact .inr (by rw [q, q']; rfl)
    unfold SetTable.road
    by_cases hz : (t₁.fill != 0) = true
    · rw [if_pos hz]
      dsimp only
      refine wpAny_bind (wp_setWalkUnseen (s := { s with heap := h₁ }) hc₁ Sc fun es' ep' t' hd' he' => ?_)
      have hperm := walkOf_perm w c ep' es'
      generalize hW : walkOf w c ep' es' = W at hperm ⊢
      refine wpAny_bind (wp_forArr (I := fun rest s' => ∃ pre acc h₂ o₂, W.toList = pre ++ rest ∧ s' = { s with heap := h₂ } ∧ Heap.SameBut a h₁ h₂ ∧ h₂.get? a = some o₂ ∧ SetB w acc o₂ ∧
          ∀ i < 6, (acc.testBit i = true ↔ b.testBit i = true ∨ (∃ e ∈ pre, e.1 = Int.ofNat i))) ?_ ?_ ?_)
      · rintro x rest s' ⟨pre, acc, h₂, o₂, hsplit, rfl, hsb, ho₂, S₂, hacc⟩
        have hx : x ∈ es'.toList := hperm.mem_iff.mp (by rw [hsplit]; simp)
        obtain ⟨i, tk, hi, hbi, rfl⟩ := he'.elem Sc.lt x hx
        dsimp only
        refine wpAny_bind (wpAny_holding (wp_addHashed (s := { s with heap := h₂ }) ho₂ S₂ hi fun h₃ o₃ hsb₃ ho₃ S₃ => ?_))
        have hc₃ : h₃.get? c = some oc := (hsb₃.2 c (Ne.symm hne)).trans ((hsb.2 c (Ne.symm hne)).trans hc₁)
        refine wpAny_bind (heach _ _ hc₃ ?_)
        refine wpAny_bind (wp_setState (s := { s with heap := h₃ }) hc₃ Sc fun es₄ ep₄ t₄ hd₄ _ _ _ _ => ?_)
        have hep : ep₄ = ep := by rw [hd] at hd₄; injection hd₄ with _ q _; exact q.symm
        rw [hep]
        simp only [bne_self_eq_false, Bool.false_eq_true, ↓reduceIte]
        refine wpAny_pure ⟨rfl, pre ++ [(Int.ofNat i, .int (Int.ofNat i) tk)], acc ||| 2 ^ i, h₃, o₃, by rw [hsplit]; simp, rfl, hsb.trans hsb₃, ho₃, S₃, ?_⟩
        intro j hj
        rw [Nat.testBit_or, Nat.testBit_two_pow, Bool.or_eq_true, hacc j hj, decide_eq_true_iff]
        constructor
        · rintro ((hq | ⟨e, he, hq⟩) | rfl)
          · exact .inl hq
          · exact .inr ⟨e, List.mem_append_left _ he, hq⟩
          · exact .inr ⟨_, List.mem_append_right _ (List.mem_singleton.mpr rfl), rfl⟩
        · rintro (hq | ⟨e, he, hq⟩)
          · exact .inl (.inl hq)
          · rcases List.mem_append.mp he with he | he
            · exact .inl (.inr ⟨e, he, hq⟩)
            · rw [List.mem_singleton.mp he] at hq
              exact .inr (Int.ofNat.inj hq)
      · rintro s' ⟨pre, acc, h₂, o₂, hsplit, rfl, hsb, ho₂, S₂, hacc⟩
        refine wpAny_pure (h h₂ o₂ (sb₁.trans hsb) ho₂ ?_)
        have : acc = b ||| d := by
          refine bits_ext S₂.lt (or_dec b St.lt d Sc.lt) fun i hi => ?_
          rw [or_bit]
          rw [List.append_nil] at hsplit
          have hb : (∃ e ∈ pre, e.1 = Int.ofNat i) ↔ d.testBit i = true := by
            rw [← hsplit]
            constructor
            · rintro ⟨e, hm, hq⟩
              obtain ⟨j, tk, _, hbj, rfl⟩ := he'.elem Sc.lt e (hperm.mem_iff.mp hm)
              have : j = i := Int.ofNat.inj hq
              exact this ▸ hbj
            · intro hb
              obtain ⟨e, hm, hq⟩ := he'.has ((els_iff_dec d Sc.lt i hi).mp hb)
              exact ⟨e, hperm.mem_iff.mpr hm, hq⟩
          have := hacc i hi
          rw [hb] at this
          cases h1 : acc.testBit i <;> cases h2 : b.testBit i <;> cases h3 : d.testBit i <;> simp_all
        exact this ▸ S₂
      · exact ⟨[], b, h₁, o₁, by simp, rfl, Heap.SameBut.refl _ _, ho₁, S₁, fun i _ => by simp⟩
    · rw [if_neg hz]
      have hb0 : b = 0 := by
        have : t₁.fill = 0 := by simpa using hz
        rw [hfill] at this
        exact els_nil_dec b St.lt this
      have hbd : b ||| d = d := by rw [hb0, Nat.zero_or]
      split
      · rename_i hr
        split at hr
        · refine wp_storeSet (s := { s with heap := h₁ }) (b' := d) ho₁ S₁.ex hd₁ Sc.lt he ⟨htb.place, htb.dummies, htb.mask, by show (t₁.plain && t.plain) = true; rw [ht₁.plain, htb.plain]; rfl⟩ hledB fun h₂ o₂ sb₂ ho₂ S₂ => ?_
          exact h h₂ o₂ (sb₁.trans sb₂) ho₂ (hbd.symm ▸ S₂)
        · cases hr
      · rename_i hr
        obtain ⟨t', order, q1, q2, q3, q4, q5⟩ := laidAll (m := t₁.mask) (finger := t₁.finger) (moves := t₁.moves) (led := t₁.led && t.led) he Sc.lt ht₁.mask
        rw [ht₁.plain, htb.plain]
        show wpAny _ _ (_ >>= _) _ _ _
        simp only [Bool.and_self]
        rw [q1]
        refine wpAny_bind (reordered_wp q2 ?_)
        dsimp only
        refine wp_storeSet (s := { s with heap := h₁ }) (b' := d) ho₁ S₁.ex hd₁ Sc.lt he q3 (q4.symm ▸ hledB) fun h₂ o₂ sb₂ ho₂ S₂ => ?_
        exact h h₂ o₂ (sb₁.trans sb₂) ho₂ (hbd.symm ▸ S₂)
      · rename_i hr
        split at hr <;> cases hr
end
end Mine
end
section
open PySem PySem.W PyProof.Rows PySem.Calls
set_option linter.unusedVariables false
set_option maxHeartbeats 4000000
namespace Mine
section
variable {prog : Program} {w : World} {A : Around} {E : Value → Shared → Prop} {s : Shared} {a c : Addr} {b d : Nat}

theorem callType_gen {T newId initId : String} {args : List Value} {Q Q₁ : Value → Shared → Prop} (ft : TypeCalled T newId initId)
    (hct : checkTypeCall T ⟨args, []⟩ = pure ())
    (hnew : codeAny (model prog w) A.in1 (.call (.builtin newId) ⟨.type T :: args, []⟩) (wants Q₁ E) s)
    (hnext : ∀ obj s₁, Q₁ obj s₁ → s₁.TypeIs obj T ∧ codeAny (model prog w) A.in1 (.call (.builtin initId) ⟨obj :: args, []⟩) (wants (fun r s₂ => r = .none ∧ Q obj s₂) E) s₁) :
    wpAny (model prog w) A (call (.type T) args) Q E s := by
  obtain ⟨c, tl, hmro⟩ := ft.mro
  have hmade := ft.made
  have hsub := ft.sub
  have h1 := ft.notType
  have h2 := ft.canCreate
  refine wpAny_call (codeAny_of_tree ?_)
  show wpAny _ _ (callAny (.type T) _) _ _ _
  refine wpAny_pure ⟨Code.quiet_builtin _ (by decide +kernel), codeAny_builtin F.entry_type_call ?_⟩
  rw [Around.under_plain (weight_type_call_type T args []) rfl]
  repeat (any_goals (first | assumption | wp_step))
  refine codeAny_mono hnew fun r s₁ hr => ?_
  match r, hr with
  | .ok (.ret obj), hr =>
    obtain ⟨hT, hI⟩ := hnext _ _ hr
    have hli := ft.init.lookup
    have hbi := ft.init.bind obj
    repeat (any_goals (first | assumption | wp_step))
    refine codeAny_mono hI fun r₂ s₂ hr₂ => ?_
    match r₂, hr₂ with
    | .ok (.ret r), hr₂ =>
      obtain ⟨rfl, hq⟩ := hr₂
      repeat (any_goals (first | assumption | wp_step))
    | .error e, hr₂ => exact hr₂
  | .error e, hr => exact hr

theorem code_new {args : List Value} {Q₁ : Value → Shared → Prop} (hargs : checkBuiltinCall "set.__new__" ⟨.type "set" :: args, []⟩ = pure ())
    (h : ∀ h' o, Made s.heap h' o → SetB w 0 o → Q₁ (.ref s.heap.objs.size) { s with heap := h' }) :
    codeAny (model prog w) A (.call (.builtin "set.__new__") ⟨.type "set" :: args, []⟩) (wants Q₁ E) s := by
  refine codeAny_call_builtin F.plain_set_new F.entry_set_new (wpAny_of_eq hargs ?_)
  unfold Builtin.«set.__new__» Builtin.Frozenset.newClass
  dsimp only
  refine wpAny_bind (wpAny_bind (m := isType (.type "set")) (wpAny_pure ?_))
  simp only [Bool.not_true, Bool.false_eq_true, ↓reduceIte]
  refine wpAny_bind (wpAny_of_eq sub_set_self ?_)
  simp only [Bool.not_true, Bool.false_eq_true, ↓reduceIte]
  refine wpAny_pure ?_
  dsimp only
  refine wpAny_bind (wp_newSet fun h' o M S => ?_)
  exact wpAny_pure (h h' o M S)

theorem call_set_of {arg : Value} {Q : Value → Shared → Prop}
    (h : ∀ A' h₁ o₁, A'.handled = A.handled → Made s.heap h₁ o₁ → SetB w 0 o₁ → wpAny (model prog w) A' (Builtin.Frozenset.updateFrom "set.__init__" s.heap.objs.size arg) (fun _ s' => Q (.ref s.heap.objs.size) s') E { s with heap := h₁ }) :
    wpAny (model prog w) A (call (.type "set") [arg]) Q E s := by
  refine callType_gen (Q₁ := fun v s₁ => v = .ref s.heap.objs.size ∧ ∃ h' o, Made s.heap h' o ∧ SetB w 0 o ∧ s₁ = { s with heap := h' }) F.called_set (F.typeCall_set_1 arg)
    (code_new (F.newCall_set_1 arg) fun h' o M S => ⟨rfl, h', o, M, S, rfl⟩) ?_
  rintro obj s₁ ⟨rfl, h', o, M, S, rfl⟩
  have hat : SetAt w h' s.heap.objs.size 0 := ⟨o, M.at_, S⟩
  have hT : Shared.TypeIs { s with heap := h' } (.ref s.heap.objs.size) "set" := hat.typeIs (s := { s with heap := h' })
  refine ⟨hT, codeAny_call_builtin F.called_set.init.plain F.entry_set_init (check_set_init_1 hT ?_)⟩
  unfold Builtin.«set.__init__» noKeywords
  simp only [List.isEmpty_nil]
  refine wpAny_bind (wpAny_pure ?_)
  unfold typeNameOfCut shownTypeOf
  refine wpAny_bind (wpAny_bind (wpAny_bind (wpAny_typeOf hT ?_)))
  have hne : (Value.type "set" == Value.type "builtin_function_or_method") = false := by decide
  rw [hne]
  simp only [Bool.false_eq_true, ↓reduceIte]
  refine wpAny_pure ?_
  refine wpAny_pure ?_
  refine wpAny_bind (m := checkCount _ 0 1 1) (wpAny_pure ?_)
  refine wpAny_bind (wpAny_pure ?_)
  refine wpAny_bind (m := setUsed _) ?_
  unfold setUsed
  refine wpAny_bind (wp_setState (s := { s with heap := h' }) M.at_ S fun es ep t hd he ht hl hf => wpAny_pure ?_)
  have hfill : (t.fill != 0) = false := by unfold SetTable.fill; rw [ht.place, ht.dummies]; rfl
  dsimp only
  rw [hfill]
  simp only [Bool.false_eq_true, ↓reduceIte]
  refine wpAny_bind (wpAny_mono (h A.in1.in1 h' o rfl M S) (fun _ s' hq => ?_) fun _ _ e => e)
  exact wpAny_pure ⟨rfl, hq⟩

/-- set(a set) -/
theorem call_set_set {Q : Value → Shared → Prop} (Sc : SetAt w s.heap c d)
    (h : ∀ h' o, Made s.heap h' o → SetB w d o → Q (.ref s.heap.objs.size) { s with heap := h' }) :
    wpAny (model prog w) A (call (.type "set") [.ref c]) Q E s := by
  refine call_set_of fun A' h₁ o₁ _ M₁ S₁ => ?_
  have hnc : s.heap.objs.size ≠ c := by obtain ⟨o, ho, _⟩ := id Sc; exact Nat.ne_of_gt (Heap.lt_size ho)
  have Sc₁ : SetAt w h₁ c d := Sc.keep fun o e => M₁.keep _ _ e
  unfold Builtin.Frozenset.updateFrom
  refine wpAny_bind (wp_isAnySet (s := { s with heap := h₁ }) Sc₁ ?_)
  simp only [↓reduceIte]
  refine wpAny_bind (m := Builtin.Frozenset.addrOf (.ref c)) (wpAny_pure ?_)
  unfold Builtin.Frozenset.merge
  obtain ⟨oc, hoc, Sc'⟩ := Sc₁
  refine wpAny_bind (wp_setEpoch (s := { s with heap := h₁ }) hoc Sc' fun es ep t hd => ?_)
  refine wp_setMerge (s := { s with heap := h₁ }) M₁.at_ S₁ hoc Sc' hnc (fun s' Q' hs' hq => wp_unchanged hs' Sc' hd rfl hq) fun h' o' sb ho' S' => ?_
  refine h h' o' ⟨fun b x e => (sb.2 b (Nat.ne_of_lt (Heap.lt_size e))).trans (M₁.keep _ _ e), ho'⟩ ?_
  rw [Nat.zero_or] at S'
  exact S'

/-- a | c, two sets -/
theorem wp_union {Q : Value → Shared → Prop} (Sa : SetAt w s.heap a b) (Sc : SetAt w s.heap c d) (hac : a ≠ c)
    (h : ∀ h' o, Made s.heap h' o → SetB w (b ||| d) o → Q (.ref s.heap.objs.size) { s with heap := h' }) :
    wpAny (model prog w) A (binaryOp .BitOr (.ref a) (.ref c)) Q E s := by
  refine wpAny_binaryOp_same Sa.typeIs Sc.typeIs F.fills_set_or F.slot_set_or (wpAny_call_entry F.slot_set_or Sa.typeIs entry_set_or ?_ (F.args_set_or_2 _ _))
  show wpAny _ _ (do
    let ok ← (Builtin.Frozenset.isAnySet (.ref a) <&&> Builtin.Frozenset.isAnySet (.ref c))
    if (!ok) = true then _ else (do
      let v ← (do
        let result ← Builtin.Frozenset.copyOf a
        if (Value.ref c != Value.ref a) = true then (do
          let x ← Builtin.Frozenset.addrOf result
          holding [result] (Builtin.Frozenset.updateFrom (s!"frozenset.{"__or__"}") x (.ref c))
          pure result) else pure result)
      ret v)) _ _ _
  refine wpAny_bind (wpAny_bind (wp_isAnySet Sa (wp_isAnySet Sc ?_)))
  simp only [Bool.not_true, Bool.false_eq_true, ↓reduceIte]
  have hne : (Value.ref c != Value.ref a) = true := by simpa using Ne.symm hac
  rw [hne]
  simp only [↓reduceIte]
  unfold Builtin.Frozenset.copyOf
  refine wpAny_bind (wpAny_bind (wpAny_bind (wp_baseOf Sa (wpAny_bind (wp_newSet fun h₁ o₁ M₁ S₁ => ?_)))))
  refine wpAny_bind (m := Builtin.Frozenset.addrOf (.ref s.heap.objs.size)) (wpAny_pure ?_)
  have hna : s.heap.objs.size ≠ a := by obtain ⟨o, ho, _⟩ := id Sa; exact Nat.ne_of_gt (Heap.lt_size ho)
  have hnc : s.heap.objs.size ≠ c := by obtain ⟨o, ho, _⟩ := id Sc; exact Nat.ne_of_gt (Heap.lt_size ho)
  have Sa₁ : SetAt w h₁ a b := Sa.keep fun o e => M₁.keep _ _ e
  have Sc₁ : SetAt w h₁ c d := Sc.keep fun o e => M₁.keep _ _ e
  obtain ⟨oa, hoa, Sa'⟩ := Sa₁
  obtain ⟨oc, hoc, Sc'⟩ := Sc₁
  refine wpAny_bind (wp_setMerge (s := { s with heap := h₁ }) M₁.at_ S₁ hoa Sa' hna (fun s' Q' _ hq => wpAny_pure hq) fun h₂ o₂ sb₂ ho₂ S₂ => ?_)
  rw [Nat.zero_or] at S₂
  have hoc₂ : h₂.get? c = some oc := (sb₂.2 c (Ne.symm hnc)).trans hoc
  refine wpAny_pure ?_
  refine wpAny_bind (wpAny_bind (m := Builtin.Frozenset.addrOf (.ref s.heap.objs.size)) (wpAny_pure ?_))
  refine wpAny_pure ?_
  refine wpAny_bind (wpAny_holding ?_)
  unfold Builtin.Frozenset.updateFrom
  refine wpAny_bind (wp_isAnySet (s := { s with heap := h₂ }) ⟨oc, hoc₂, Sc'⟩ ?_)
  simp only [↓reduceIte]
  refine wpAny_bind (m := Builtin.Frozenset.addrOf (.ref c)) (wpAny_pure ?_)
  unfold Builtin.Frozenset.merge
  refine wpAny_bind (wp_setEpoch (s := { s with heap := h₂ }) hoc₂ Sc' fun es ep t hd => ?_)
  refine wp_setMerge (s := { s with heap := h₂ }) ho₂ S₂ hoc₂ Sc' hnc (fun s' Q' hs' hq => wp_unchanged hs' Sc' hd rfl hq) fun h₃ o₃ sb₃ ho₃ S₃ => ?_
  refine wpAny_pure (wpAny_pure ⟨_, rfl, by simp, h h₃ o₃ ⟨fun b x e => ?_, ho₃⟩ S₃⟩)
  have hb := Nat.ne_of_lt (Heap.lt_size e)
  exact (sb₃.2 b hb).trans ((sb₂.2 b hb).trans (M₁.keep _ _ e))
end
end Mine
end
section
open PySem PySem.W PyProof.Rows PySem.Calls
set_option linter.unusedVariables false
set_option maxHeartbeats 4000000
namespace Mine

theorem slot_si_next : Slot "set_iterator" "__next__" "set_iterator.__next__" :=
  .of (owner := "set_iterator") (n := "__next__") (by rw [typeLookup_type, builtinLookup_eq_fast]; kernel_rfl) (by decide +kernel) (by decide +kernel) (by decide +kernel)
    (by first | exact .inl (by decide +kernel) | exact .inr (by decide +kernel)) (by rw [isSubtype_type]; kernel_rfl)
theorem slot_si_iter : Slot "set_iterator" "__iter__" "set_iterator.__iter__" :=
  .of (owner := "set_iterator") (n := "__iter__") (by rw [typeLookup_type, builtinLookup_eq_fast]; kernel_rfl) (by decide +kernel) (by decide +kernel) (by decide +kernel)
    (by first | exact .inl (by decide +kernel) | exact .inr (by decide +kernel)) (by rw [isSubtype_type]; kernel_rfl)
theorem entry_si_next : entryFor table "set_iterator.__next__" = some Builtin.«set_iterator.__next__» := entryFor_of_tree (by kernel_rfl)
theorem entry_si_iter : entryFor table "set_iterator.__iter__" = some Builtin.«dict_keyiterator.__iter__» :=
  entryFor_alias (id' := "dict_keyiterator.__iter__") (by kernel_rfl) rfl (by decide +kernel) (by kernel_rfl)
theorem owner_si : Manifest.owners.lookup (String.ofList ['r', 'o', 't', 'a', 'r', 'e', 't', 'i', '_', 't', 'e', 's'].reverse) = some Manifest.sig_set_iterator := by kernel_rfl
theorem args_si_next (a : Value) : argsOk "set_iterator.__next__" ⟨[a], []⟩ := by
  unfold argsOk; rw [signature?_of (id := "set_iterator.__next__") (n := ['_', '_', 't', 'x', 'e', 'n', '_', '_']) (o := ['r', 'o', 't', 'a', 'r', 'e', 't', 'i', '_', 't', 'e', 's']) (by kernel_rfl) owner_si]; kernel_rfl
theorem args_si_iter (a : Value) : argsOk "set_iterator.__iter__" ⟨[a], []⟩ := by
  unfold argsOk; rw [signature?_of (id := "set_iterator.__iter__") (n := ['_', '_', 'r', 'e', 't', 'i', '_', '_']) (o := ['r', 'o', 't', 'a', 'r', 'e', 't', 'i', '_', 't', 'e', 's']) (by kernel_rfl) owner_si]; kernel_rfl
end Mine
end
section
open PySem PySem.W PyProof.Rows PySem.Calls
set_option linter.unusedVariables false
set_option maxHeartbeats 4000000
namespace Mine

def slotN (b : Nat) : Nat → Nat
  | 0 => 0
  | i + 1 => (els b).getD i 0 + 1
def slotAt (w : World) (b i : Nat) : Nat := if w.params.followText "set-order" = true then 0 else slotN b i
theorem below_dec : ∀ b < 64, ∀ i ≤ 6, i ≤ (els b).length → SetTable.below (els b).toArray (slotN b i) = i := by decide +kernel
def itObj (slot i : Nat) (a : Addr) (n ep : Nat) : Obj := { cls := .type "set_iterator", dict := none, data := .fields #[rawInt slot, rawInt i, .ref a, rawInt n, rawInt ep], slots := #[] }

structure IterAt (w : World) (o : Obj) (b ep : Nat) (I a : Addr) (i : Nat) (h : Heap) : Prop where
  it : h.get? I = some (itObj (slotAt w b i) i a (els b).length ep)
  set : h.get? a = some o

section
variable {prog : Program} {w : World} {A : Around} {E : Value → Shared → Prop} {s : Shared} {a I : Addr} {b : Nat} {o : Obj} {es : Array (Int × Value)} {ep : Nat} {t : SetTable} {i : Nat}

theorem IterAt.typeIs (X : IterAt w o b ep I a i s.heap) : s.TypeIs (.ref I) "set_iterator" := ⟨_, X.it, rfl⟩

theorem pyIter_set {Q : Value → Shared → Prop} (ho : s.heap.get? a = some o) (S : SetB w b o)
    (h : ∀ es ep t, o.data = .set es ep t → EntB b es → Made s.heap (s.heap.push (itObj (slotAt w b 0) 0 a (els b).length ep)) (itObj (slotAt w b 0) 0 a (els b).length ep) →
      Q (.ref s.heap.objs.size) { s with heap := s.heap.push (itObj (slotAt w b 0) 0 a (els b).length ep) }) :
    wpAny (model prog w) A (pyIter (.ref a)) Q E s := by
  have hat : SetAt w s.heap a b := ⟨o, ho, S⟩
  refine wpAny_pyIter_slot hat.typeIs F.slot_set_iter (wpAny_call_entry F.slot_set_iter hat.typeIs entry_set_iter ?_ (F.args_set_iter_1 _))
  unfold Builtin.«frozenset.__iter__»
  refine wpAny_bind (m := Builtin.Frozenset.slot0 "__iter__" _) (wpAny_pure ?_)
  refine wpAny_bind (wp_sizeOf hat ?_)
  refine wpAny_bind (m := setDrawn a) ?_
  unfold setDrawn
  refine wpAny_bind (wp_setState ho S fun es ep t hd he ht hl hf => ?_)
  dsimp only
  refine wpAny_bind (setsByText_wp (wpAny_pure ?_))
  have hdr : (!w.params.followText "set-order" && (!t.plain && decide (es.size > 1))) = false := by rw [ht.plain]; simp
  show wpAny _ _ (if (!w.params.followText "set-order" && (!t.plain && decide (es.size > 1))) = true then _ else _) _ _ _
  rw [hdr]
  simp only [Bool.false_eq_true, ↓reduceIte]
  refine wpAny_bind (wpAny_pure ?_)
  refine wpAny_bind (wp_setEpoch ho S fun es' ep' t' hd' => ?_)
  have hep : ep' = ep := by rw [hd] at hd'; injection hd' with _ q _; exact q.symm
  subst hep
  have hslot : slotAt w b 0 = 0 := by unfold slotAt slotN; split <;> rfl
  have hq := h es ep' t hd he ⟨fun b' x e => Heap.get?_push_of_some _ e, Heap.get?_push_size _ rfl⟩
  rw [hslot] at hq
  simp only [newFields]
  refine wpAny_bind (wpAny_newObj_type ?_ (by size_fits))
  refine wpAny_pure ⟨_, rfl, "set_iterator", _, ⟨_, Heap.get?_push_size _ rfl, rfl⟩, slot_si_next.lookup, ?_⟩
  exact hq

theorem item_bound (hb : b < 64) (he : EntB b es) (hi : i < (els b).length) : ∃ x tk, x < 6 ∧ b.testBit x = true ∧ (walkOf w a ep es)[i]? = some (Int.ofNat x, .int (Int.ofNat x) tk) := by
  have hp := walkOf_perm w a ep es
  have hlen : (walkOf w a ep es).toList.length = (els b).length := by rw [hp.length_eq, ← he.size]; simp
  have hlt : i < (walkOf w a ep es).toList.length := by omega
  have hm : (walkOf w a ep es).toList[i] ∈ es.toList := hp.mem_iff.mp (List.getElem_mem hlt)
  obtain ⟨x, tk, h1, h2, h3⟩ := he.elem hb _ hm
  refine ⟨x, tk, h1, h2, ?_⟩
  rw [← Array.getElem?_toList, List.getElem?_eq_getElem hlt, h3]

theorem walk_end (he : EntB b es) : (walkOf w a ep es)[(els b).length]? = none := by
  have hp := walkOf_perm w a ep es
  have hlen : (walkOf w a ep es).toList.length = (els b).length := by rw [hp.length_eq, ← he.size]; simp
  rw [← Array.getElem?_toList]
  exact List.getElem?_eq_none (by omega)

theorem wp_setNext {Q : Option (Value × Nat) → Shared → Prop} (ho : s.heap.get? a = some o) (S : SetB w b o) (hd : o.data = .set es ep t) (he : EntB b es) (hi : i ≤ (els b).length)
    (h : Q (((walkOf w a ep es)[i]?).map fun e => (e.2, slotAt w b (i + 1))) s) : wpAny (model prog w) A (setNext a (slotAt w b i) i ep) Q E s := by
  unfold setNext
  refine wpAny_bind (wp_setState ho S fun es' ep' t' hd' he' ht hl hf => ?_)
  have heq : es' = es ∧ ep' = ep ∧ t' = t := by rw [hd] at hd'; injection hd' with q1 q2 q3; exact ⟨q1.symm, q2.symm, q3.symm⟩
  obtain ⟨rfl, rfl, rfl⟩ := heq
  dsimp only
  refine wpAny_bind (setsByText_wp ?_)
  cases hbt : w.params.followText "set-order" with
  | true =>
    simp only [↓reduceIte, bne_self_eq_false, Bool.false_eq_true]
    refine wpAny_bind (wp_setWalk ho S fun es₂ ep₂ t₂ hd₂ he₂ => wpAny_pure ?_)
    have heq : es₂ = es' ∧ ep₂ = ep' := by rw [hd] at hd₂; injection hd₂ with q1 q2 q3; exact ⟨q1.symm, q2.symm⟩
    obtain ⟨rfl, rfl⟩ := heq
    have hs : ∀ j, slotAt w b j = 0 := fun j => by unfold slotAt; rw [if_pos hbt]
    rw [hs] at h ⊢
    exact h
  | false =>
    have hs : ∀ j, slotAt w b j = slotN b j := fun j => by unfold slotAt; rw [if_neg (by rw [hbt]; exact Bool.false_ne_true)]
    have hw : walkOf w a ep' es' = es' := by unfold walkOf; rw [if_neg (by rw [hbt]; exact Bool.false_ne_true)]
    have hled : t'.led = true := hl.resolve_left (by unfold ByText; rw [hbt]; exact Bool.false_ne_true)
    rw [hs, hw] at h
    rw [hs]
    simp only [Bool.false_eq_true, ↓reduceIte]
    show wpAny _ _ (if (!t'.plain && decide (es'.size > 1)) = true then _ else (if (!t'.led && !es'.isEmpty) = true then _ else pure PUnit.unit) >>= fun _ => _) _ _ _
    rw [ht.plain, hled]
    simp only [Bool.not_true, Bool.false_and, Bool.false_eq_true, ↓reduceIte]
    refine wpAny_bind (wpAny_pure (wpAny_pure ?_))
    have h6 := len_dec b S.lt
    rw [ht.place, below_dec b S.lt i (by omega) hi]
    have hsz := he.size
    by_cases hlt : i < (els b).length
    · have hlt' : i < es'.size := by omega
      rw [Array.getElem?_eq_getElem hlt'] at h ⊢
      have hp : (els b).toArray[i]? = some ((els b).getD i 0) := by
        simp [hlt]
      rw [hp]
      exact h
    · have hge : es'.size ≤ i := by omega
      rw [Array.getElem?_eq_none hge] at h ⊢
      exact h

theorem next_item {Q : Option Value → Shared → Prop} (X : IterAt w o b ep I a i s.heap) (S : SetB w b o) (hd : o.data = .set es ep t) (he : EntB b es) (hi : i < (els b).length) (hne : a ≠ I)
    (h : ∀ x tk h', x < 6 → b.testBit x = true → (walkOf w a ep es)[i]? = some (Int.ofNat x, .int (Int.ofNat x) tk) → IterAt w o b ep I a (i + 1) h' → Heap.SameBut I s.heap h' → Q (some (.int (Int.ofNat x) tk)) { s with heap := h' }) :
    wpAny (model prog w) A (pyNext (.ref I)) Q E s := by
  obtain ⟨x, tk, h1, h2, h3⟩ := item_bound (w := w) (a := a) (ep := ep) S.lt he hi
  unfold pyNext
  refine wpAny_bind (wpAny_attempt (wpAny_callSpecial?_slot (name := Str.ofString "__next__") X.typeIs slot_si_next
    (wpAny_call_entry slot_si_next X.typeIs entry_si_next ?_ (args_si_next _))))
  unfold Builtin.«set_iterator.__next__»
  refine wpAny_bind (m := slotArgs "__next__" 0 _) (wpAny_pure ?_)
  refine wpAny_bind (wpAny_fieldsOf X.it rfl ?_)
  show wpAny _ _ (setEntries a >>= _) _ _ _
  obtain ⟨es', ep', t', hd', he', ht', hl'⟩ := S.data
  have heq : es' = es ∧ ep' = ep ∧ t' = t := by rw [hd] at hd'; injection hd' with q1 q2 q3; exact ⟨q1.symm, q2.symm, q3.symm⟩
  obtain ⟨rfl, rfl, rfl⟩ := heq
  refine wpAny_bind (wpAny_setEntries_of X.set hd (by rw [he.size]; exact fits_of ht' S.lt) ?_)
  show wpAny _ _ (if (((es'.size : Nat) : Int) != (((els b).length : Nat) : Int)) = true then _ else _) _ _ _
  rw [he.size]
  simp only [bne_self_eq_false, Bool.false_eq_true, ↓reduceIte]
  show wpAny _ _ (setNext a (slotAt w b i) i ep' >>= _) _ _ _
  refine wpAny_bind (wp_setNext X.set S hd he (Nat.le_of_lt hi) ?_)
  rw [h3]
  show wpAny _ _ (setField (.ref I) 0 (rawInt (slotAt w b (i + 1))) >>= _) _ _ _
  refine wpAny_bind (wpAny_setField_rec X.it (by simp) fun h₁ hg₁ hs₁ => ?_)
  show wpAny _ _ (setField (.ref I) 1 (rawInt ((i : Int) + 1)) >>= _) _ _ _
  refine wpAny_bind (wpAny_setField_rec (s := { s with heap := h₁ }) hg₁ (by simp) fun h₂ hg₂ hs₂ => ?_)
  refine wpAny_pure ⟨_, rfl, ?_⟩
  refine wpAny_pure (h x tk h₂ h1 h2 h3 ⟨hg₂, ?_⟩ (hs₁.trans hs₂))
  exact (hs₂.2 a hne).trans ((hs₁.2 a hne).trans X.set)

theorem next_end {Q : Option Value → Shared → Prop} (hh : A.handled = none) (X : IterAt w o b ep I a (els b).length s.heap) (S : SetB w b o) (hd : o.data = .set es ep t) (he : EntB b es)
    (h : ∀ h', Heap.ExtBut I s.heap h' → Q none { s with heap := h' }) :
    wpAny (model prog w) A (pyNext (.ref I)) Q E s := by
  unfold pyNext
  refine wpAny_bind (wpAny_attempt (wpAny_callSpecial?_slot (name := Str.ofString "__next__") X.typeIs slot_si_next
    (wpAny_call_entry slot_si_next X.typeIs entry_si_next ?_ (args_si_next _))))
  unfold Builtin.«set_iterator.__next__»
  refine wpAny_bind (m := slotArgs "__next__" 0 _) (wpAny_pure ?_)
  refine wpAny_bind (wpAny_fieldsOf X.it rfl ?_)
  show wpAny _ _ (setEntries a >>= _) _ _ _
  obtain ⟨es', ep', t', hd', he', ht', hl'⟩ := S.data
  have heq : es' = es ∧ ep' = ep ∧ t' = t := by rw [hd] at hd'; injection hd' with q1 q2 q3; exact ⟨q1.symm, q2.symm, q3.symm⟩
  obtain ⟨rfl, rfl, rfl⟩ := heq
  refine wpAny_bind (wpAny_setEntries_of X.set hd (by rw [he.size]; exact fits_of ht' S.lt) ?_)
  show wpAny _ _ (if (((es'.size : Nat) : Int) != (((els b).length : Nat) : Int)) = true then _ else _) _ _ _
  rw [he.size]
  simp only [bne_self_eq_false, Bool.false_eq_true, ↓reduceIte]
  show wpAny _ _ (setNext a (slotAt w b (els b).length) (els b).length ep' >>= _) _ _ _
  refine wpAny_bind (wp_setNext X.set S hd he (Nat.le_refl _) ?_)
  rw [walk_end he]
  show wpAny _ _ (setField (.ref I) 2 Value.none >>= _) _ _ _
  refine wpAny_bind (wpAny_setField_rec X.it (by simp) fun h₁ hg₁ hs₁ => ?_)
  show wpAny _ _ (newExc (.type "StopIteration") [] >>= _) _ _ _
  refine wpAny_bind ?_
  simp only [newExc, newTuple]
  refine wpAny_bind (wpAny_newObj_type ?_ (by size_fits))
  refine wpAny_bind (m := firstArgMember _ _) (wpAny_of_eq (a := Value.none) (by first | rfl | (simp only [firstArgMember]; rfl)) ?_)
  refine wpAny_newObj_type ?_ (by size_fits)
  simp only [raiseNew]
  refine wpAny_bind (wpAny_handled ?_)
  rw [show A.in1.handled = none from hh]
  refine wpAny_bind (wpAny_pure (wpAny_throw ?_))
  refine wpAny_bind (wpAny_isInstance (T := "StopIteration") (b := true) ⟨_, Heap.get?_push_size _ rfl, rfl⟩ isSubtype_stop ?_)
  refine wpAny_pure (h _ ?_)
  exact (hs₁.extBut.push _).push _

theorem Walks.set (hh : A.handled = none) (S : SetB w b o) (hd : o.data = .set es ep t) (he : EntB b es) (hne : a ≠ I) :
    Walks prog w A I [I, a] [I] (els b).length (fun i v => ∃ x tk, x < 6 ∧ b.testBit x = true ∧ (walkOf w a ep es)[i]? = some (Int.ofNat x, v) ∧ v = .int (Int.ofNat x) tk) (fun i h => IterAt w o b ep I a i h) where
  sub := fun b hb => by simp at hb; simp [hb]
  frame := fun _ _ _ st hk => ⟨hk I (by simp) _ st.it, hk a (by simp) _ st.set⟩
  item := fun i s Q E hi st hQ => next_item st S hd he hi hne fun x tk h' h1 h2 h3 st' hs' => hQ _ h' s.toks ⟨x, tk, h1, h2, h3, rfl⟩ st' fun b o hb e => hs'.extBut b o (fun h => hb (by simp [h])) e
  done := fun s Q E st hQ => next_end hh st S hd he fun h' he' => hQ h' s.toks fun b o hb e => he' b o (fun h => hb (by simp [h])) e
  self := fun i s Q E st hQ => by
    refine wpAny_pyIter_slot st.typeIs slot_si_iter (wpAny_call_entry slot_si_iter st.typeIs entry_si_iter ?_ (args_si_iter _))
    show wpAny _ _ (ret (.ref I)) _ _ s
    exact wpAny_pure ⟨_, rfl, "set_iterator", _, st.typeIs, slot_si_next.lookup, hQ⟩
end
end Mine
end
section
open PySem PySem.W PyProof.Rows PySem.Calls
set_option linter.unusedVariables false
set_option maxHeartbeats 4000000
namespace Mine
section
variable {prog : Program} {w : World} {A : Around} {E : Value → Shared → Prop} {s : Shared} {a c : Addr} {b d : Nat} {R : Result → Shared → Prop}

abbrev lst (vs : Array Value) (n : Nat) : Obj := { cls := .type "list", dict := none, data := .seq vs n, slots := #[] }

theorem ext_loop {I S : Addr} {o : Obj} {es : Array (Int × Value)} {ep : Nat} {t : SetTable} {res : Value} (hh : A.handled = none) (SS : SetB w b o) (hd : o.data = .set es ep t) (he : EntB b es) (hne : a ≠ I) (hSI : S ≠ I) (hSa : S ≠ a) :
    ∀ (k i : Nat) (s : Shared) (acc : Array Value) (n : Nat), (els b).length - i = k → i ≤ (els b).length → IterAt w o b ep I a i s.heap → s.heap.get? S = some (lst acc n) → acc.size + k ≤ sizeLine →
    (∀ h' n', (∀ x y, x ≠ S → x ≠ I → s.heap.get? x = some y → h'.get? x = some y) → h'.get? S = some (lst (acc ++ ((walkOf w a ep es).toList.drop i |>.map (·.2)).toArray) n') → R (.ok (.ret res)) { s with heap := h' }) →
    codeAny (model prog w) A (.builtin "list.extend.loop" ⟨[.ref S, .ref I, res], []⟩) R s := by
  intro k
  induction k with
  | zero =>
    intro i s acc n hk hi X hS hz hR
    have hin : i = (els b).length := by omega
    subst hin
    refine codeAny_builtin PySem.F.entry_extend_loop ?_
    rw [Around.under_plainId PySem.F.plain_extend_loop _]
    show wpAny _ A.in1 (pyNext (.ref I) >>= _) _ _ s
    refine wpAny_bind (next_end (A := A.in1) hh X SS hd he fun h' hx => ?_)
    refine wpAny_pure (hR h' n (fun x y _ h2 e => hx x y h2 e) ?_)
    have hlen : (walkOf w a ep es).toList.length = (els b).length := by rw [(walkOf_perm w a ep es).length_eq, ← he.size]; simp
    rw [List.drop_eq_nil_of_le (by omega)]
    simpa using hx S _ hSI hS
  | succ k ih =>
    intro i s acc n hk hi X hS hz hR
    refine codeAny_builtin PySem.F.entry_extend_loop ?_
    rw [Around.under_plainId PySem.F.plain_extend_loop _]
    show wpAny _ A.in1 (pyNext (.ref I) >>= _) _ _ s
    refine wpAny_bind (next_item X SS hd he (by omega) hne fun x tk h' hx hbx hw X' hs' => ?_)
    have hS' : h'.get? S = some (lst acc n) := (hs'.2 S hSI).trans hS
    show wpAny _ A.in1 (updateSeq S (·.push (.int (Int.ofNat x) tk)) >>= _) _ _ _
    refine wpAny_bind ?_
    refine wpAny_updateSeq hS' rfl (wpAny_pure ⟨plainId_quiet PySem.F.plain_extend_loop _, ih (i + 1) _ (acc.push (.int (Int.ofNat x) tk)) (if (acc.push (Value.int (Int.ofNat x) tk)).size == acc.size then n else n + 1) (by omega) (by omega) ⟨?_, ?_⟩ (Heap.get?_update_self _ hS' rfl) (by rw [Array.size_push]; omega) fun h'' n' hk'' hS'' => ?_⟩)
      (by omega) (by show (acc.push _).size ≤ sizeLine + 1; rw [Array.size_push]; omega)
    · exact (Heap.get?_update_other _ _ hSI).trans X'.it
    · exact (Heap.get?_update_other _ _ hSa).trans X'.set
    · refine hR h'' n' (fun y z h1 h2 e => hk'' y z h1 h2 ?_) ?_
      · exact (Heap.get?_update_other _ _ (Ne.symm h1)).trans ((hs'.2 y h2).trans e)
      · rw [hS'']
        have : (walkOf w a ep es).toList.drop i = (Int.ofNat x, .int (Int.ofNat x) tk) :: (walkOf w a ep es).toList.drop (i + 1) := by
          have hlt : i < (walkOf w a ep es).toList.length := by
            rw [← Array.getElem?_toList] at hw
            exact (List.getElem?_eq_some_iff.mp hw).1
          rw [List.drop_eq_getElem_cons hlt]
          congr 1
          rw [← Array.getElem?_toList, List.getElem?_eq_getElem hlt] at hw
          exact Option.some.inj hw
        rw [this, List.map_cons]
        congr 2
        apply Array.toList_inj.mp
        simp

theorem hint_set {Q : Bool → Shared → Prop} (S : SetAt w s.heap a b) (h : Q false s) : wpAny (model prog w) A (Builtin.List.listLengthHint (.ref a)) Q E s := by
  unfold Builtin.List.listLengthHint
  refine wpAny_bind (wpAny_specialOf S.typeIs F.slot_set_len.lookup ?_)
  generalize hid : ("set.__len__" : String) = id0
  wp_delta
  rw [show splitId id0 = some ("set", "__len__") from by subst hid; decide +kernel]
  subst hid
  refine wpAny_bind (wpAny_isInstance S.typeIs sub_set_self ?_)
  refine wpAny_ite_split (fun hab => absurd hab (by decide)) (fun _ => ?_)
  refine wpAny_ite_split (fun _ => ?_) (fun hab => absurd (by decide +kernel) hab)
  refine wpAny_bind (wpAny_typeOf S.typeIs ?_)
  exact wpAny_pure h
end
end Mine
end
section
open PySem PySem.W PyProof.Rows PySem.Calls
set_option linter.unusedVariables false
set_option maxHeartbeats 4000000
namespace Mine
section
variable {prog : Program} {w : World} {A : Around} {E : Value → Shared → Prop} {s : Shared} {a c : Addr} {b d : Nat} {R : Result → Shared → Prop}

/-- the values of a walk -/
def valsOf (W : Array (Int × Value)) : List Value := W.toList.map (·.2)

theorem extendWith_set {S : Addr} {ys : Array Value} {n : Nat} {res : Value} (hh : A.handled = none) (Sa : SetAt w s.heap a b) (hS : s.heap.get? S = some (lst ys n)) (hz : ys.size + 7 ≤ sizeLine)
    (h : ∀ h' n' ep es, (∀ x y, x ≠ S → s.heap.get? x = some y → h'.get? x = some y) → EntB b es → h'.get? S = some (lst (ys ++ (valsOf (walkOf w a ep es)).toArray) n') → R (.ok (.ret res)) { s with heap := h' }) :
    wpAny (model prog w) A.in1 (Builtin.List.listExtendWith (.ref S) (.ref a) res)
      (fun fin s' => match fin with | .done f => R (.ok f) s' | .again c' => c'.quiet = true ∧ codeAny (model prog w) A c' R s') (fun e s' => R (.error e) s') s := by
  have hSa : S ≠ a := fun e => by
    obtain ⟨o, ho, S'⟩ := Sa
    rw [e, ho] at hS
    have := S'.ex.1
    rw [Option.some.inj hS] at this
    simp [lst] at this
  obtain ⟨o, ho, SS⟩ := id Sa
  have hSlt : S < s.heap.objs.size := Heap.lt_size hS
  have halt : a < s.heap.objs.size := Heap.lt_size ho
  unfold Builtin.List.listExtendWith
  refine wpAny_bind (wpAny_typeOf Sa.typeIs ?_)
  have h1 : Builtin.List.listSameRef (.ref S) (.ref a) = false := by simp [Builtin.List.listSameRef, hSa]
  have h2 : (Value.type "set" == Value.type "list") = false := by decide
  have h3 : (Value.type "set" == Value.type "tuple") = false := by decide
  simp only [h1, h2, h3, Bool.or_false, Bool.false_eq_true, if_false]
  refine wpAny_bind (pyIter_set ho SS fun es ep t hd he M => ?_)
  have Sa₁ : SetAt w (s.heap.push (itObj (slotAt w b 0) 0 a (els b).length ep)) a b := ⟨o, M.keep _ _ ho, SS⟩
  refine wpAny_bind (wpAny_holding (hint_set (s := { s with heap := s.heap.push (itObj (slotAt w b 0) 0 a (els b).length ep) }) Sa₁ ?_))
  refine wpAny_ite_split (fun _ => ?_) (fun hab => absurd (by decide) hab)
  have hS₁ := M.keep _ _ hS
  have hX₁ : IterAt w o b ep s.heap.objs.size a 0 (s.heap.push (itObj (slotAt w b 0) 0 a (els b).length ep)) := ⟨M.at_, M.keep _ _ ho⟩
  generalize s.heap.push (itObj (slotAt w b 0) 0 a (els b).length ep) = h₁ at M hS₁ hX₁ Sa₁ ⊢
  refine wpAny_bind (wpAny_rule ?_)
  refine wpAny_bind ?_
  show wpAny _ _ (updateSeq S (·.push .none) >>= fun _ => updateSeq S (·.pop)) _ _ _
  refine wpAny_bind (wpAny_updateSeq hS₁ rfl ?_ (by omega) (by rw [Array.size_push]; omega))
  have hS₂ := Heap.get?_update_self (Obj.mapSeq (·.push Value.none)) hS₁ rfl
  refine wpAny_updateSeq hS₂ rfl ?_ (by rw [Array.size_push]; omega) (by rw [Array.size_pop, Array.size_push]; omega)
  have hS₃ := Heap.get?_update_self (Obj.mapSeq (·.pop)) hS₂ rfl
  have hSI : S ≠ s.heap.objs.size := Nat.ne_of_lt hSlt
  have haI : a ≠ s.heap.objs.size := Nat.ne_of_lt halt
  refine wpAny_pure ⟨plainId_quiet PySem.F.plain_extend_loop _, ?_⟩
  have e3 : ∃ n3, ((h₁.update S (Obj.mapSeq fun x => x.push Value.none)).update S (Obj.mapSeq fun x => x.pop)).get? S = some (lst ys n3) := by
    rw [hS₃]
    simp only [Obj.mapSeq, lst, Array.pop_push]
    exact ⟨_, rfl⟩
  obtain ⟨n3, e3⟩ := e3
  have oth : ∀ x y, x ≠ S → h₁.get? x = some y → ((h₁.update S (Obj.mapSeq fun x => x.push Value.none)).update S (Obj.mapSeq fun x => x.pop)).get? x = some y :=
    fun x y hx e => (Heap.get?_update_other _ _ (Ne.symm hx)).trans ((Heap.get?_update_other _ _ (Ne.symm hx)).trans e)
  refine ext_loop hh SS hd he haI hSI hSa _ 0 _ ys n3 rfl (Nat.zero_le _) ⟨oth _ _ (Ne.symm hSI) hX₁.it, oth _ _ (Ne.symm hSa) hX₁.set⟩ e3 (by have := len_dec b SS.lt; omega) fun h' n' hk hS' => ?_
  refine h h' n' ep es (fun x y hx e => hk x y hx (Nat.ne_of_lt (Heap.lt_size e)) (oth x y hx (M.keep x y e))) he ?_
  rw [hS', List.drop_zero]; rfl

theorem call_extend {S : Addr} {ys : Array Value} {n : Nat} {Q : Value → Shared → Prop} (hh : A.handled = none) (Sa : SetAt w s.heap a b) (hS : s.heap.get? S = some (lst ys n)) (hz : ys.size + 7 ≤ sizeLine)
    (h : ∀ h' n' ep es, (∀ x y, x ≠ S → s.heap.get? x = some y → h'.get? x = some y) → EntB b es → h'.get? S = some (lst (ys ++ (valsOf (walkOf w a ep es)).toArray) n') → Q .none { s with heap := h' }) :
    wpAny (model prog w) A (call (.builtin "list.extend") [.ref S, .ref a]) Q E s := by
  refine wpAny_call (codeAny_call_builtin F.slot_list_extend.plain F.entry_list_extend (F.slot_list_extend.check _ _ _ _ _ _ _ _ ⟨_, hS, rfl⟩ (F.args_list_extend_2 _ _) ?_))
  unfold Builtin.«list.extend»
  refine wpAny_bind (m := selfAndOne "list.extend" _) (wpAny_pure ?_)
  exact extendWith_set (R := fun r s' => match r with | .ok (.ret v) => Q v s' | .ok _ => False | .error e => E e s') hh Sa hS hz h

theorem collect_set {Q : List Value → Shared → Prop} (hh : A.handled = none) (Sa : SetAt w s.heap a b)
    (h : ∀ h' ep es, (∀ x y, s.heap.get? x = some y → h'.get? x = some y) → EntB b es → Q (valsOf (walkOf w a ep es)) { s with heap := h' }) :
    wpAny (model prog w) A (collect (.ref a)) Q E s := by
  unfold collect
  refine wpAny_bind (wpAny_runValue (codeAny_builtin PySem.F.entry_proto_collect ?_))
  rw [Around.under_plainId PySem.F.plain_proto_collect _]
  show wpAny _ A.in1 (newList [] >>= fun l => again (.builtin "list.__iadd__" ⟨[l, .ref a], []⟩)) _ _ s
  refine wpAny_bind (wpAny_newObj_type ?_)
  refine wpAny_pure ⟨plainId_quiet PySem.F.plain_list_iadd _, codeAny_builtin PySem.F.entry_list_iadd ?_⟩
  rw [Around.under_plainId PySem.F.plain_list_iadd _]
  show wpAny _ A.in1 (Builtin.List.listExtendWith (.ref s.heap.objs.size) (.ref a) (.ref s.heap.objs.size)) _ _ _
  have hS₁ : (s.heap.push (lst #[] 0)).get? s.heap.objs.size = some (lst #[] 0) := Heap.get?_push_size _ rfl
  have Sa₁ : SetAt w (s.heap.push (lst #[] 0)) a b := Sa.keep fun o e => Heap.get?_push_of_some _ e
  refine extendWith_set (R := fun r s' => match r with
      | .ok (.ret v) => wpAny (model prog w) A (match v with
          | .ref a => do
            match (← load a).data with
            | .seq xs _ => pure xs.toList
            | _ => unsupported "internal:collect"
          | _ => unsupported "internal:collect") Q E s'
      | .ok _ => False
      | .error e => E e s') (s := { s with heap := s.heap.push (lst #[] 0) }) hh Sa₁ hS₁ (by rw [sizeLine_eq]; simp) fun h' n' ep es hk he hS' => ?_
  show wpAny _ A (load s.heap.objs.size >>= _) _ _ _
  refine wpAny_bind (wpAny_load hS' ?_)
  show wpAny _ _ (pure _) _ _ _
  refine wpAny_pure ?_
  have := h h' ep es (fun x y e => hk x y (Nat.ne_of_lt (Heap.lt_size e)) (Heap.get?_push_of_some _ e)) he
  simpa using this
end
end Mine
end
section
open PySem PySem.W PyProof.Rows PySem.Calls
set_option linter.unusedVariables false
set_option maxHeartbeats 4000000
namespace Mine

structure MadeAt (h h' : Heap) (N : Addr) (o : Obj) : Prop where
  keep : ∀ b x, h.get? b = some x → h'.get? b = some x
  at_ : h'.get? N = some o
  fresh : ∀ b x, h.get? b = some x → b < N
theorem Made.mk' {h h' : Heap} {o : Obj} (M : Made h h' o) : MadeAt h h' h.objs.size o := ⟨M.keep, M.at_, fun _ _ e => Heap.lt_size e⟩
theorem MadeAt.fr {h₀ h h' : Heap} {L N : Addr} {m : Str → Option Value} {o : Obj} (M : MadeAt h h' N o) (F : Fr h₀ L h m) : Fr h₀ L h' m :=
  ⟨F.ns.keeps M.keep, fun b x e => M.keep _ _ (F.keep b x e), F.above⟩
theorem MadeAt.news {h₀ h h' : Heap} {L N : Addr} {m : Str → Option Value} {o : Obj} {news : List (Addr × Obj)} (M : MadeAt h h' N o) (F : Fr h₀ L h m) (Nw : News h₀ L h news) :
    News h₀ L h' ((N, o) :: news) := by
  obtain ⟨oL, _, _, hL, _⟩ := F.ns
  intro p hp
  rcases List.mem_cons.mp hp with rfl | hp
  · refine ⟨M.at_, Nat.ne_of_gt (M.fresh _ _ hL), ?_⟩
    cases hq : h₀.get? N with
    | none => rfl
    | some o' => exact absurd (M.fresh _ _ (F.keep _ _ hq)) (Nat.lt_irrefl _)
  · exact ⟨M.keep _ _ (Nw p hp).1, (Nw p hp).2⟩
theorem MadeAt.lt {h₀ h h' : Heap} {L N : Addr} {o : Obj} {news : List (Addr × Obj)} (M : MadeAt h h' N o) (Nw : News h₀ L h news) : ∀ p ∈ news, p.1 < N := fun p hp => M.fresh _ _ (Nw p hp).1

theorem intsAre_of {l : List (Int × Value)} (h : ∀ e ∈ l, ∃ tk, e.2 = .int e.1 tk) : IntsAre (l.map (·.2)) (l.map (·.1)) := by
  induction l with
  | nil => exact .nil
  | cons e r ih =>
    obtain ⟨tk, ht⟩ := h e (.head _)
    rw [List.map_cons, List.map_cons, ht]
    exact .cons _ _ (ih fun e he => h e (.tail _ he))

section
variable {prog : Program} {w : World} {A : Around} {E : Value → Shared → Prop} {s : Shared} {a c : Addr} {b d : Nat} {R : Result → Shared → Prop}

theorem vals_ints {es : Array (Int × Value)} {ep : Nat} (he : EntB b es) : ∃ ns, IntsAre (valsOf (walkOf w a ep es)) ns ∧ ns.Perm (hs b) := by
  have hp := walkOf_perm w a ep es
  refine ⟨(walkOf w a ep es).toList.map Prod.fst, intsAre_of fun e hm => he.2 e (hp.mem_iff.mp hm), ?_⟩
  rw [← he.1]
  exact hp.map Prod.fst

theorem vals_len {es : Array (Int × Value)} {ep : Nat} (he : EntB b es) : (valsOf (walkOf w a ep es)).length = (els b).length := by
  unfold valsOf
  rw [List.length_map, (walkOf_perm w a ep es).length_eq, ← he.size]; simp

theorem call_sorted {Q : Value → Shared → Prop} (hh : A.handled = none) (Sa : SetAt w s.heap a b)
    (h : ∀ h' N vs n ns, MadeAt s.heap h' N (lst vs n) → IntsAre vs.toList ns → ns.Perm (hs b) → Q (.ref N) { s with heap := h' }) :
    wpAny (model prog w) A (call (.builtin "sorted") [.ref a]) Q E s := by
  refine Calls.call_function_entry kind_sorted plain_sorted entry_sorted (args_sorted1 _) ?_
  unfold Builtin.«sorted»
  refine wpAny_bind (m := checkCount "sorted" 1 1 _) (wpAny_pure ?_)
  refine wpAny_bind (collect_set (A := A.in1) hh Sa fun h₁ ep es hk he => ?_)
  obtain ⟨ns, hI, hperm⟩ := vals_ints (w := w) (a := a) (ep := ep) he
  have hlen := vals_len (w := w) (a := a) (ep := ep) he
  have h6 := len_dec b Sa.lt
  generalize valsOf (walkOf w a ep es) = vs at hI hlen
  refine wpAny_bind (wpAny_newList ?_ (by rw [sizeLine_eq]; omega))
  have hoL : (h₁.push (seqObj "list" vs.toArray 0)).get? h₁.objs.size = some (seqObj "list" vs.toArray 0) := Heap.get?_push_size _ rfl
  refine wpAny_bind (wpAny_holding (wpAny_call_entry slot_list_sort ⟨_, hoL, rfl⟩ entry_list_sort (list_sort_tree (s := { s with heap := h₁.push (seqObj "list" vs.toArray 0) }) hoL hI (by omega) fun out ns' a1 a2 a3 => ⟨_, rfl, ?_⟩) (args_list_sort _)))
  obtain ⟨e, he'⟩ := sortedHeap_at (vs := vs) (out := out) hoL
  refine wpAny_pure ⟨_, rfl, h _ h₁.objs.size out e ns' ⟨fun x y hx => ?_, he', fun x y hx => Heap.lt_size (hk x y hx)⟩ a1 (a2.trans hperm)⟩
  have hx1 := hk x y hx
  have hlt := Heap.lt_size hx1
  rw [sortedHeap_old (Nat.ne_of_lt hlt) (by rw [size_push']; exact Nat.lt_succ_of_lt hlt)]
  exact Heap.get?_push_of_some _ hx1
end
end Mine
end
section
open PySem PySem.W PyProof.Rows PySem.Calls
set_option linter.unusedVariables false
set_option maxHeartbeats 4000000
namespace Mine

def orAll (xs : List Nat) (acc : Nat) : Nat := xs.foldl (fun acc x => acc ||| 2 ^ x) acc
theorem orAll_bit (xs : List Nat) : ∀ (acc i : Nat), (orAll xs acc).testBit i = (acc.testBit i || decide (i ∈ xs)) := by
  induction xs with
  | nil => intro acc i; simp [orAll]
  | cons x r ih =>
    intro acc i
    show (orAll r (acc ||| 2 ^ x)).testBit i = _
    rw [ih, Nat.testBit_or, Nat.testBit_two_pow]
    by_cases h : x = i
    · subst h; simp
    · have h' : ¬ i = x := fun e => h e.symm
      simp [h, h']

section
variable {prog : Program} {w : World} {A : Around} {E : Value → Shared → Prop} {s : Shared} {a c : Addr} {b d : Nat} {R : Result → Shared → Prop}

theorem sub_list_frozen : isSubtype (.type "list") (.type "frozenset") = pure false := F.sub_list_frozenset
theorem sub_dict_set : isSubtype (.type "dict") (.type "set") = pure false := by rw [isSubtype_type]; kernel_rfl
theorem sub_dict_frozen : isSubtype (.type "dict") (.type "frozenset") = pure false := by rw [isSubtype_type]; kernel_rfl

theorem notSet {v : Value} {T : String} {Q : Bool → Shared → Prop} (hT : s.TypeIs v T) (h1 : isSubtype (.type T) (.type "set") = pure false) (h2 : isSubtype (.type T) (.type "frozenset") = pure false) (h : Q false s) :
    wpAny (model prog w) A (Builtin.Frozenset.isAnySet v) Q E s := by
  unfold Builtin.Frozenset.isAnySet
  refine wpAny_bind (wpAny_isInstance hT h1 ?_)
  exact wpAny_isInstance hT h2 h

theorem fill_loop {I S l : Addr} {items : Array Value} {xs : List Nat} (hh : A.handled = none) (hI : IntsAre items.toList (xs.map Int.ofNat)) (hx6 : ∀ x ∈ xs, x < 6) (hlI : l ≠ I) (hSI : S ≠ I) (hSl : S ≠ l) :
    ∀ (k i : Nat) (s : Shared) (acc : Nat) (o : Obj), items.size - i = k → i ≤ items.size → s.heap.IsListIter I l i → s.heap.IsList l items → s.heap.get? S = some o → SetB w acc o →
    (∀ h' tk o', (∀ x y, x ≠ S → x ≠ I → s.heap.get? x = some y → h'.get? x = some y) → h'.get? S = some o' → SetB w (orAll (xs.drop i) acc) o' → R (.ok (.ret .none)) { s with heap := h', toks := tk }) →
    codeAny (model prog w) A (.builtin "set.update.loop" ⟨[.ref S, .ref I], []⟩) R s := by
  have hlen : items.size = xs.length := by have := hI.length; simpa using this
  intro k
  induction k with
  | zero =>
    intro i s acc o hk hi hit hl hS S hR
    refine codeAny_builtin PyProof.Rows.F.entry_set_update_loop ?_
    rw [Around.under_plainId PyProof.Rows.F.plain_set_update_loop _]
    show wpAny _ A.in1 (pyNext (.ref I) >>= _) _ _ s
    refine wpAny_bind (wpAny_pyNext_list_end (A := A.in1) hh hit hl (by rw [Array.getElem?_eq_none (by omega)]) fun h' hx => ?_)
    refine wpAny_pure (hR h' s.toks o (fun x y _ h2 e => hx x y h2 e) (hx _ _ hSI hS) ?_)
    rw [List.drop_eq_nil_of_le (by omega)]
    exact S
  | succ k ih =>
    intro i s acc o hk hi hit hl hS S hR
    have hlt : i < items.size := by omega
    refine codeAny_builtin PyProof.Rows.F.entry_set_update_loop ?_
    rw [Around.under_plainId PyProof.Rows.F.plain_set_update_loop _]
    show wpAny _ A.in1 (pyNext (.ref I) >>= _) _ _ s
    have hxl : i < xs.length := by omega
    have hdrop : xs.drop i = xs[i] :: xs.drop (i + 1) := List.drop_eq_getElem_cons hxl
    obtain ⟨tk, hv⟩ : ∃ tk, items[i]? = some (.int (Int.ofNat xs[i]) tk) := by
      obtain ⟨t, ht⟩ := hI.get i (Int.ofNat xs[i]) (by rw [List.getElem?_map, List.getElem?_eq_getElem hxl]; rfl)
      exact ⟨t, by rw [← Array.getElem?_toList]; exact ht⟩
    refine wpAny_bind (wpAny_pyNext_list_item hit hl hv fun h' hit' hs' => ?_)
    show wpAny _ A.in1 (holding [Value.int (Int.ofNat xs[i]) tk] (setAdd _ (.int (Int.ofNat xs[i]) tk)) >>= _) _ _ _
    refine wpAny_bind (wpAny_holding (wp_setAdd (s := { s with heap := h' }) ((hs'.2 _ hSI).trans hS) S (hx6 _ (List.getElem_mem hxl)) fun h'' o'' hs'' ho'' S'' => ?_))
    refine wpAny_pure ⟨plainId_quiet PyProof.Rows.F.plain_set_update_loop _, ih (i + 1) _ _ o'' (by omega) (by omega) ?_ ?_ ho'' S'' fun h3 tk3 o3 hk3 ho3 S3 => ?_⟩
    · exact hit'.at fun o e => (hs''.2 I (Ne.symm hSI)).trans e
    · exact hl.at fun o e => (hs''.2 l (Ne.symm hSl)).trans ((hs'.2 l hlI).trans e)
    · refine hR h3 tk3 o3 (fun x y h1 h2 e => hk3 x y h1 h2 ((hs''.2 x h1).trans ((hs'.2 x h2).trans e))) ho3 ?_
      rw [hdrop]
      exact S3

theorem call_set_ints {l : Addr} {items : Array Value} {xs : List Nat} {Q : Value → Shared → Prop} (hh : A.handled = none) (hl : s.heap.IsList l items) (hI : IntsAre items.toList (xs.map Int.ofNat)) (hx6 : ∀ x ∈ xs, x < 6)
    (h : ∀ h' tk o, MadeAt s.heap h' s.heap.objs.size o → SetB w (orAll xs 0) o → Q (.ref s.heap.objs.size) { s with heap := h', toks := tk }) :
    wpAny (model prog w) A (call (.type "set") [.ref l]) Q E s := by
  refine call_set_of fun A' h₁ o₁ hA' M₁ S₁ => ?_
  have hlt : l < s.heap.objs.size := by obtain ⟨o, ho, _⟩ := hl; exact Heap.lt_size ho
  have hl₁ : h₁.IsList l items := hl.at fun o e => M₁.keep _ _ e
  have hsz : s.heap.objs.size < h₁.objs.size := Heap.lt_size M₁.at_
  unfold Builtin.Frozenset.updateFrom
  refine wpAny_bind (notSet (s := { s with heap := h₁ }) (Heap.IsList.typeIs (s := { s with heap := h₁ }) hl₁) F.sub_list_set F.sub_list_frozenset ?_)
  simp only [Bool.false_eq_true, ↓reduceIte]
  refine wpAny_bind (wpAny_typeOf (s := { s with heap := h₁ }) (Heap.IsList.typeIs (s := { s with heap := h₁ }) hl₁) ?_)
  have hne : (Value.type "list" == Value.type "dict") = false := by decide
  rw [hne]
  simp only [Bool.false_eq_true, ↓reduceIte]
  refine wpAny_bind (wpAny_pyIter_list (s := { s with heap := h₁ }) hl₁ ?_)
  refine wpAny_bind (wpAny_runValue ?_)
  refine fill_loop (R := fun r s' => match r with | .ok (.ret v) => wpAny (model prog w) A' (pure PUnit.unit) (fun _ s' => Q (.ref s.heap.objs.size) s') E s' | .ok _ => False | .error e => E e s') (items := items) (xs := xs) (hA'.trans hh) hI hx6 (Nat.ne_of_lt (Nat.lt_trans hlt hsz)) (Nat.ne_of_lt hsz) (Nat.ne_of_gt hlt) _ 0 _ 0 o₁ rfl (Nat.zero_le _) ⟨_, Heap.get?_push_size _ rfl, rfl, rfl⟩ (hl₁.push _) (Heap.get?_push_of_some _ M₁.at_) S₁ fun h' tk o' hk ho' S' => ?_
  refine wpAny_pure (h h' tk o' ⟨fun x y e => ?_, ho', fun x y e => Heap.lt_size e⟩ S')
  have hx := Heap.lt_size e
  exact hk x y (Nat.ne_of_lt hx) (Nat.ne_of_lt (Nat.lt_trans hx hsz)) (Heap.get?_push_of_some _ (M₁.keep x y e))
end
end Mine
end
section
open PySem PySem.W PyProof.Rows PySem.Calls
set_option linter.unusedVariables false
set_option maxHeartbeats 4000000
namespace Mine
section
variable {prog : Program} {w : World} {A : Around} {E : Value → Shared → Prop} {s : Shared} {a c : Addr} {b d : Nat} {R : Result → Shared → Prop}

theorem sub_set_frozen : isSubtype (.type "set") (.type "frozenset") = pure false := by rw [isSubtype_type]; kernel_rfl

theorem quiet_all {l : List (Int × Value)} {k : Sem (List (Int × Value))} {Q : List (Int × Value) → Shared → Prop} (hl : ∀ e ∈ l, ∃ x tk, e.2 = .int x tk) (h : wpAny (model prog w) A k Q E s) :
    wpAny (model prog w) A (do
      for (_, x) in l do
        if !(← Builtin.Frozenset.quietEq x) then return ← Builtin.Frozenset.walk a
      k) Q E s := by
  refine wpAny_bind (wpAny_forIn_list _ (fun rest b s' => (∀ e ∈ rest, ∃ x tk, e.2 = .int x tk) ∧ b = ⟨none, PUnit.unit⟩ ∧ s' = s) _ ?_ ?_ l _ ⟨hl, rfl, rfl⟩)
  · rintro ⟨i, x⟩ rest b s' ⟨hr, rfl, rfl⟩
    obtain ⟨y, tk, rfl⟩ := hr _ (.head _)
    unfold Builtin.Frozenset.quietEq
    dsimp only
    refine wpAny_bind (wpAny_pure ?_)
    simp only [Bool.not_true, Bool.false_eq_true, ↓reduceIte]
    exact wpAny_pure ⟨fun e he => hr e (.tail _ he), rfl, rfl⟩
  · rintro b s' ⟨_, rfl, rfl⟩
    exact h

theorem wp_walkUnseen {o oc : Obj} {Q : List (Int × Value) → Shared → Prop} (ha : s.heap.get? a = some o) (Sa : SetB w b o) (hc : s.heap.get? c = some oc) (Sc : SetB w d oc)
    (h : ∀ es ep t, o.data = .set es ep t → EntB b es → Q es.toList s) : wpAny (model prog w) A (Builtin.Frozenset.walkUnseen a c) Q E s := by
  obtain ⟨es, ep, t, hd, he, ht, hl⟩ := Sa.data
  obtain ⟨es', ep', t', hd', he', ht', hl'⟩ := Sc.data
  unfold Builtin.Frozenset.walkUnseen
  refine wpAny_bind (wpAny_setEntries_of ha hd (by rw [he.size]; exact fits_of ht Sa.lt) ?_)
  refine wpAny_bind (wpAny_setEntries_of hc hd' (by rw [he'.size]; exact fits_of ht' Sc.lt) ?_)
  refine quiet_all (fun e hm => ?_) (wpAny_pure (h es ep t hd he))
  rcases List.mem_append.mp hm with hm | hm
  · obtain ⟨tk, q⟩ := he.2 e hm; exact ⟨_, tk, q⟩
  · obtain ⟨tk, q⟩ := he'.2 e hm; exact ⟨_, tk, q⟩

theorem wp_subset {id : String} {Q : Bool → Shared → Prop} (Sa : SetAt w s.heap a b) (Sc : SetAt w s.heap c b) (h : Q true s) :
    wpAny (model prog w) A (Builtin.Frozenset.subsetOf id a c) Q E s := by
  obtain ⟨oa, ha, Sa'⟩ := _root_.id Sa
  obtain ⟨oc, hc, Sc'⟩ := _root_.id Sc
  unfold Builtin.Frozenset.subsetOf
  refine wpAny_bind (wp_sizeOf Sa (wpAny_bind (wp_sizeOf Sc ?_)))
  rw [if_neg (Nat.lt_irrefl _)]
  refine wpAny_bind (wp_setEpoch ha Sa' fun es₁ ep₁ t₁ hd₁ => ?_)
  refine wpAny_bind (wp_walkUnseen ha Sa' hc Sc' fun es ep t hd he => ?_)
  have hep : ep₁ = ep := by rw [hd] at hd₁; injection hd₁ with _ q _; exact q.symm
  refine wpAny_bind (wpAny_forIn_list _ (fun rest b' s' => (∀ e ∈ rest, e ∈ es.toList) ∧ b' = ⟨none, PUnit.unit⟩ ∧ s' = s) _ ?_ ?_ es.toList _ ⟨fun _ he => he, rfl, rfl⟩)
  · rintro x rest b' s' ⟨hr, rfl, rfl⟩
    obtain ⟨i, tk, hi, hbi, rfl⟩ := he.elem Sa'.lt x (hr x (.head _))
    dsimp only
    refine wpAny_bind (wpAny_holding (wp_find Sc hi fun r hrr => ?_))
    rw [hbi] at hrr
    have hn : r.isNone = false := by cases r <;> simp_all
    rw [hn]
    simp only [Bool.false_eq_true, ↓reduceIte]
    refine wpAny_bind (wp_unchanged ha Sa' hd hep (wpAny_pure ⟨fun e he => hr e (.tail _ he), rfl, rfl⟩))
  · rintro b' s' ⟨_, rfl, rfl⟩
    exact wpAny_pure h

theorem wp_eqSets {Q : Value → Shared → Prop} (hu : A.units < cLine) (Sa : SetAt w s.heap a b) (Sc : SetAt w s.heap c b) (h : Q (.bool true) s) :
    wpAny (model prog w) A (compareOp .Eq (.ref a) (.ref c)) Q E s := by
  show wpAny _ _ (richCompare .Eq (.ref a) (.ref c)) Q E s
  refine wpAny_richCompare_same_room Sa.typeIs Sc.typeIs F.slot_set_eq (wpAny_call_entry F.slot_set_eq Sa.typeIs entry_set_eq ?_ (F.args_set_eq_2 _ _)) hu
  show wpAny _ _ (Builtin.Frozenset.isAnySet (.ref c) >>= _) _ _ _
  refine wpAny_bind (wp_isAnySet Sc ?_)
  simp only [Bool.not_true, Bool.false_eq_true, ↓reduceIte]
  show wpAny _ _ (Builtin.Frozenset.sizeOf a >>= _) _ _ _
  refine wpAny_bind (wp_sizeOf Sa ?_)
  refine wpAny_bind (wp_sizeOf Sc ?_)
  simp only [bne_self_eq_false, Bool.false_eq_true, ↓reduceIte]
  refine wpAny_bind (wpAny_bind ?_)
  refine wpAny_bind (wpAny_isInstance Sa.typeIs sub_set_frozen ?_)
  refine wpAny_pure ?_
  simp only [Bool.false_eq_true, ↓reduceIte]
  refine wp_subset Sa Sc ?_
  exact wpAny_pure ⟨_, rfl, by simp, h⟩
end
end Mine
end
section
open PySem PySem.W PyProof.Rows PySem.Calls
set_option linter.unusedVariables false
set_option maxHeartbeats 4000000
namespace Mine

/-- the keys of a dict of small ints, in their order -/
def KeysB (xs : List Nat) (kvs : List (Int × Value)) : Prop := kvs.map (·.1) = xs.map Int.ofNat ∧ ∀ x ∈ xs, x < 6

section
variable {prog : Program} {w : World} {A : Around} {E : Value → Shared → Prop} {s : Shared} {a c : Addr} {b d : Nat} {R : Result → Shared → Prop}

theorem pairs_at {es : List DictEntry} {kvs : List (Int × Value)} (h : Pairs (intKind prog w) es kvs) : ∀ {i : Nat} {e : DictEntry}, es[i]? = some e → ∃ kv, kvs[i]? = some kv ∧ (intKind prog w).is kv.1 e.key = true := by
  induction h with
  | nil => intro i e h; simp at h
  | @cons e kv es kvs h1 h2 _ ih =>
    intro i e' h
    cases i with
    | zero => simp at h; subst h; exact ⟨kv, rfl, h1⟩
    | succ i => simp at h; simpa using ih h

theorem call_set_dict {kvs : List (Int × Value)} {xs : List Nat} {Q : Value → Shared → Prop} (hD : s.heap.DictOf (intKind prog w) a kvs) (hk : KeysB xs kvs) (hlen : xs.length ≤ 6) (lo : (a == sysModules) = false)
    (h : ∀ h' o, Made s.heap h' o → SetB w (orAll xs 0) o → Q (.ref s.heap.objs.size) { s with heap := h' }) :
    wpAny (model prog w) A (call (.type "set") [.ref a]) Q E s := by
  refine call_set_of fun A' h₁ o₁ _ M₁ S₁ => ?_
  obtain ⟨o, es, ep, ho, hex, hd, hkeys, hp, hnd⟩ := hD
  have ho₁ : h₁.get? a = some o := M₁.keep _ _ ho
  have hne : a ≠ s.heap.objs.size := Nat.ne_of_lt (Heap.lt_size ho)
  have hT : Shared.TypeIs { s with heap := h₁ } (.ref a) "dict" := ⟨o, ho₁, hex.1⟩
  have hes : es.size = xs.length := by
    have h1 := hp.length
    have h2 := congrArg List.length hk.1
    simp at h1 h2; omega
  unfold Builtin.Frozenset.updateFrom
  refine wpAny_bind (notSet (s := { s with heap := h₁ }) hT sub_dict_set sub_dict_frozen ?_)
  simp only [Bool.false_eq_true, ↓reduceIte]
  refine wpAny_bind (wpAny_typeOf (s := { s with heap := h₁ }) hT ?_)
  have hdd : (Value.type "dict" == Value.type "dict") = true := by rfl
  rw [hdd]
  simp only [↓reduceIte]
  refine wpAny_bind (wpAny_rule ?_)
  refine wpAny_bind (m := Builtin.Frozenset.addrOf (.ref a)) (wpAny_pure ?_)
  rw [lo]
  simp only [Bool.false_eq_true, ↓reduceIte]
  refine wpAny_bind (wpAny_dictEpoch (s := { s with heap := h₁ }) ho₁ hd ?_)
  refine wpAny_bind (wpAny_dictEntries (s := { s with heap := h₁ }) ho₁ hd ?_)
  refine wpAny_bind (wp_setRoomFor (s := { s with heap := h₁ }) M₁.at_ S₁ (by omega) fun h₂ o₂ sb₂ ho₂ S₂ => ?_)
  have hda₂ : h₂.get? a = some o := (sb₂.2 a hne).trans ho₁
  refine wpAny_bind (wpAny_dictEntries (s := { s with heap := h₂ }) hda₂ hd ?_)
  refine wpAny_bind ?_
  rw [Std.Legacy.Range.forIn_eq_forIn_range']
  simp only [Std.Legacy.Range.size, Nat.sub_zero, Nat.add_sub_cancel, Nat.div_one]
  refine wpAny_forIn_list _
    (fun rest b' s' => ∃ h' i o', s' = { s with heap := h' } ∧ rest = List.range' i (es.size - i) ∧ i ≤ es.size ∧ Heap.SameBut s.heap.objs.size h₂ h' ∧ h'.get? s.heap.objs.size = some o' ∧ SetB w (orAll (xs.take i) 0) o')
    _ ?_ ?_ _ _ ⟨h₂, 0, o₂, rfl, by simp, Nat.zero_le _, Heap.SameBut.refl _ _, ho₂, S₂⟩
  · rintro x rest b' s' ⟨h', i, o', rfl, hr, hi, hs', ho', S'⟩
    have hlt : i < es.size := by
      rcases Nat.lt_or_ge i es.size with h | h
      · exact h
      · rw [Nat.sub_eq_zero_of_le h] at hr; simp at hr
    obtain ⟨rfl, hrest⟩ : x = i ∧ rest = List.range' (i + 1) (es.size - (i + 1)) := by
      have e : es.size - i = (es.size - (i + 1)) + 1 := by omega
      rw [e, List.range'_succ] at hr
      injection hr with h1 h2
      exact ⟨h1, h2⟩
    have hda' : h'.get? a = some o := (hs'.2 a hne).trans hda₂
    refine wpAny_bind (wpAny_dictEntries (s := { s with heap := h' }) hda' hd ?_)
    have hxl : x < xs.length := by omega
    rw [Array.getElem?_eq_getElem hlt]
    dsimp only
    obtain ⟨kv, hkv, hkey⟩ := pairs_at hp (i := x) (e := es[x]) (by simp [hlt])
    have hkv1 : kv.1 = Int.ofNat xs[x] := by
      have h1 : (kvs.map (·.1))[x]? = some kv.1 := by rw [List.getElem?_map, hkv]; rfl
      rw [hk.1, List.getElem?_map, List.getElem?_eq_getElem hxl] at h1
      exact (Option.some.inj h1).symm
    obtain ⟨k', hkey', hhash⟩ := hkeys es[x] (Array.getElem_mem hlt)
    have hkk : k' = kv.1 := (intKind prog w).inj _ _ _ hkey' hkey
    rw [hkv1] at hkk
    subst hkk
    have hx6 := hk.2 _ (List.getElem_mem hxl)
    obtain ⟨tk, hkt⟩ := Value.isInt_shape hkey'
    rw [hkt, hhash, show (intKind prog w).hash (Int.ofNat xs[x]) = Int.ofNat xs[x] from hash_dec _ hx6]
    refine wpAny_bind (wpAny_holding (wp_addHashed (s := { s with heap := h' }) ho' S' hx6 fun h'' o'' hs'' ho'' S'' => ?_))
    have hda'' : h''.get? a = some o := (hs''.2 a hne).trans hda'
    refine wpAny_bind (wpAny_dictEpoch (s := { s with heap := h'' }) hda'' hd ?_)
    simp only [bne_self_eq_false, Bool.false_eq_true, ↓reduceIte]
    refine wpAny_pure ⟨h'', x + 1, o'', rfl, hrest, hlt, hs'.trans hs'', ho'', ?_⟩
    have : xs.take (x + 1) = xs.take x ++ [xs[x]] := by rw [List.take_add_one, List.getElem?_eq_getElem hxl]; rfl
    rw [this]
    unfold orAll
    rw [List.foldl_append]
    exact S''
  · rintro b' s' ⟨h', i, o', rfl, hr, hi, hs', ho', S'⟩
    have hin : i = es.size := by
      rcases Nat.lt_or_ge i es.size with hlt | hge
      · have e : es.size - i = (es.size - (i + 1)) + 1 := by omega
        rw [e, List.range'_succ] at hr; cases hr
      · omega
    subst hin
    rw [hes, List.take_length] at S'
    refine wpAny_pure (h h' o' ⟨fun x y e => ?_, ho'⟩ S')
    have hx := Nat.ne_of_lt (Heap.lt_size e)
    exact (hs'.2 x hx).trans ((sb₂.2 x hx).trans (M₁.keep x y e))

theorem noBool_set : typeLookup (.type "set") "__bool__" = pure none := by rw [typeLookup_type, builtinLookup_eq_fast]; kernel_rfl

theorem wp_lenSet {Q : Value → Shared → Prop} (S : SetAt w s.heap a b) (h : Q (.int ((els b).length : Nat) (s.toks + 1)) { s with toks := s.toks + 1 + 1 }) :
    wpAny (model prog w) A (call (.builtin "len") [.ref a]) Q E s := by
  obtain ⟨o, ho, S⟩ := S
  obtain ⟨es, ep, t, hd, he, ht, hl⟩ := S.data
  have h6 := len_dec b S.lt
  exact call_len_set ho S.ex hd (by rw [he.size]; exact fits_of ht S.lt) (by rw [he.size]; omega) (by rw [he.size]; exact h)

theorem wp_truthySet {Q : Bool → Shared → Prop} (S : SetAt w s.heap a b) (h : Q (decide (b ≠ 0)) { s with toks := s.toks + 1 + 1 }) :
    wpAny (model prog w) A (truthy (.ref a)) Q E s := by
  obtain ⟨o, ho, S'⟩ := id S
  obtain ⟨es, ep, t, hd, he, ht, hl⟩ := S'.data
  have h6 := len_dec b S'.lt
  have hne : (((els b).length : Int) != 0) = decide (b ≠ 0) := by
    have : ∀ b < 64, (((els b).length : Int) != 0) = decide (b ≠ 0) := by decide +kernel
    exact this b S'.lt
  have key : wpAny (model prog w) A (runValue (.builtin "len" ⟨[.ref a], []⟩)) (fun r s' => r = .int ((els b).length : Nat) (s.toks + 1) ∧ Q (decide (b ≠ 0)) s') E s := by
    refine wpAny_runValue (codeAny_builtin entry_len ?_)
    rw [Around.under_plainId plain_len _]
    exact wpAny_mono (wpAny_len_body_set (Q := fun r s' => r = .int ((els b).length : Nat) (s.toks + 1) ∧ Q (decide (b ≠ 0)) s') ho S'.ex hd (by rw [he.size]; exact fits_of ht S'.lt) (by rw [he.size]; omega) (by rw [he.size]; exact ⟨rfl, h⟩))
      (fun fin s' h' => by obtain ⟨r, rfl, hq⟩ := h'; exact hq) fun _ _ e => e
  unfold truthy
  refine wpAny_bind (wpAny_callSpecial?_none (name := Str.ofString "__bool__") S.typeIs noBool_set ?_)
  refine wpAny_bind (wpAny_specialOf (name := Str.ofString "__len__") S.typeIs F.slot_set_len.lookup ?_)
  exact wpAny_bind (wpAny_mono key (fun r s' h' => by obtain ⟨rfl, hq⟩ := h'; exact wpAny_pure (hne ▸ hq)) fun _ _ e => e)
end
end Mine
end
section
open PySem PySem.W PyProof.Rows PySem.Calls
set_option linter.unusedVariables false
set_option maxHeartbeats 4000000
namespace Mine
theorem owner_dq : Manifest.owners.lookup (String.ofList ['e', 'u', 'q', 'e', 'd', '.', 's', 'n', 'o', 'i', 't', 'c', 'e', 'l', 'l', 'o', 'c'].reverse) = some Manifest.sig_collections_deque := by kernel_rfl
theorem plainAttrs_dq : PlainAttrs "collections.deque" :=
  ⟨⟨"collections.deque.__getattribute__", by rw [typeLookup_type, builtinLookup_eq_fast]; kernel_rfl, by decide +kernel⟩, by rw [typeLookup_type, builtinLookup_eq_fast]; kernel_rfl⟩
theorem slot_dq_append : Slot "collections.deque" "append" "collections.deque.append" :=
  .of (owner := "collections.deque") (n := "append") (by rw [typeLookup_type, builtinLookup_eq_fast]; kernel_rfl) (by decide +kernel) (by decide +kernel) (by decide +kernel)
    (by first | exact .inl (by decide +kernel) | exact .inr (by decide +kernel)) (by rw [isSubtype_type]; kernel_rfl)
theorem entry_dq_append : entryFor table "collections.deque.append" = some Builtin.«collections.deque.append» := entryFor_of_tree (by kernel_rfl)
theorem type_dq_append : typeOf (.builtin "collections.deque.append") = pure (.type "method_descriptor") := by show builtinType _ = _; rw [builtinType_eq_fast]; kernel_rfl
theorem args_dq_append (a b : Value) : argsOk "collections.deque.append" ⟨[a, b], []⟩ := by
  unfold argsOk; rw [signature?_of (id := "collections.deque.append") (n := ['d', 'n', 'e', 'p', 'p', 'a']) (o := ['e', 'u', 'q', 'e', 'd', '.', 's', 'n', 'o', 'i', 't', 'c', 'e', 'l', 'l', 'o', 'c']) (by kernel_rfl) owner_dq]; kernel_rfl
theorem slot_dq_popleft : Slot "collections.deque" "popleft" "collections.deque.popleft" :=
  .of (owner := "collections.deque") (n := "popleft") (by rw [typeLookup_type, builtinLookup_eq_fast]; kernel_rfl) (by decide +kernel) (by decide +kernel) (by decide +kernel)
    (by first | exact .inl (by decide +kernel) | exact .inr (by decide +kernel)) (by rw [isSubtype_type]; kernel_rfl)
theorem entry_dq_popleft : entryFor table "collections.deque.popleft" = some Builtin.«collections.deque.popleft» := entryFor_of_tree (by kernel_rfl)
theorem type_dq_popleft : typeOf (.builtin "collections.deque.popleft") = pure (.type "method_descriptor") := by show builtinType _ = _; rw [builtinType_eq_fast]; kernel_rfl
theorem args_dq_popleft (a : Value) : argsOk "collections.deque.popleft" ⟨[a], []⟩ := by
  unfold argsOk; rw [signature?_of (id := "collections.deque.popleft") (n := ['t', 'f', 'e', 'l', 'p', 'o', 'p']) (o := ['e', 'u', 'q', 'e', 'd', '.', 's', 'n', 'o', 'i', 't', 'c', 'e', 'l', 'l', 'o', 'c']) (by kernel_rfl) owner_dq]; kernel_rfl
theorem slot_dq_len : Slot "collections.deque" "__len__" "collections.deque.__len__" :=
  .of (owner := "collections.deque") (n := "__len__") (by rw [typeLookup_type, builtinLookup_eq_fast]; kernel_rfl) (by decide +kernel) (by decide +kernel) (by decide +kernel)
    (by first | exact .inl (by decide +kernel) | exact .inr (by decide +kernel)) (by rw [isSubtype_type]; kernel_rfl)
theorem entry_dq_len : entryFor table "collections.deque.__len__" = some Builtin.«collections.deque.__len__» := entryFor_of_tree (by kernel_rfl)
theorem args_dq_len (a : Value) : argsOk "collections.deque.__len__" ⟨[a], []⟩ := by
  unfold argsOk; rw [signature?_of (id := "collections.deque.__len__") (n := ['_', '_', 'n', 'e', 'l', '_', '_']) (o := ['e', 'u', 'q', 'e', 'd', '.', 's', 'n', 'o', 'i', 't', 'c', 'e', 'l', 'l', 'o', 'c']) (by kernel_rfl) owner_dq]; kernel_rfl
theorem slot_dq_init : Slot "collections.deque" "__init__" "collections.deque.__init__" :=
  .of (owner := "collections.deque") (n := "__init__") (by rw [typeLookup_type, builtinLookup_eq_fast]; kernel_rfl) (by decide +kernel) (by decide +kernel) (by decide +kernel)
    (by first | exact .inl (by decide +kernel) | exact .inr (by decide +kernel)) (by rw [isSubtype_type]; kernel_rfl)
theorem entry_dq_init : entryFor table "collections.deque.__init__" = some Builtin.«collections.deque.__init__» := entryFor_of_tree (by kernel_rfl)
theorem args_dq_init (a : Value) : argsOk "collections.deque.__init__" ⟨[a], []⟩ := by
  unfold argsOk; rw [signature?_of (id := "collections.deque.__init__") (n := ['_', '_', 't', 'i', 'n', 'i', '_', '_']) (o := ['e', 'u', 'q', 'e', 'd', '.', 's', 'n', 'o', 'i', 't', 'c', 'e', 'l', 'l', 'o', 'c']) (by kernel_rfl) owner_dq]; kernel_rfl
theorem noBool_dq : typeLookup (.type "collections.deque") "__bool__" = pure none := by rw [typeLookup_type, builtinLookup_eq_fast]; kernel_rfl
theorem entry_dq_new : entryFor table "collections.deque.__new__" = some Builtin.«collections.deque.__new__» := entryFor_of_tree (by kernel_rfl)
theorem plain_dq_new : plainId "collections.deque.__new__" = true := by decide +kernel
theorem mro_dq : mroOf (.type "collections.deque") = pure [.type "collections.deque", .type "object"] := by rw [mroOf_type]; kernel_rfl
theorem lookup_dq_new : typeLookup (.type "collections.deque") "__new__" = pure (some (.builtin "collections.deque.__new__")) := by rw [typeLookup_type, builtinLookup_eq_fast]; kernel_rfl
theorem sub_dq_self : isSubtype (.type "collections.deque") (.type "collections.deque") = pure true := by rw [isSubtype_type]; kernel_rfl
theorem called_dq : TypeCalled "collections.deque" "collections.deque.__new__" "collections.deque.__init__" :=
  ⟨by decide +kernel, by decide +kernel, ⟨_, _, mro_dq⟩, madeBy_type mro_dq lookup_dq_new (by decide +kernel), by decide +kernel, sub_dq_self, slot_dq_init⟩
theorem typeCall_dq : checkTypeCall "collections.deque" ⟨[], []⟩ = pure () := by kernel_rfl
theorem newCall_dq : checkBuiltinCall "collections.deque.__new__" ⟨[.type "collections.deque"], []⟩ = pure () := by kernel_rfl
end Mine
end
section
open PySem PySem.W PyProof.Rows PySem.Calls
set_option linter.unusedVariables false
set_option maxHeartbeats 4000000
namespace Mine

def dq (xs : List Value) (st : Int) : Obj := { cls := .type "collections.deque", dict := none, data := .fields (#[.none, rawInt st] ++ xs.toArray), slots := #[] }

theorem dq_extract (xs : List Value) (st : Int) : ((#[Value.none, rawInt st] ++ xs.toArray : Array Value)).extract 2 (#[Value.none, rawInt st] ++ xs.toArray : Array Value).size = xs.toArray := by
  apply Array.toList_inj.mp
  simp

section
variable {prog : Program} {w : World} {A : Around} {E : Value → Shared → Prop} {s : Shared} {a c : Addr} {xs : List Value} {st : Int}

theorem dq_typeIs (h : s.heap.get? a = some (dq xs st)) : s.TypeIs (.ref a) "collections.deque" := ⟨_, h, rfl⟩

theorem mapFields_dq (f : Array Value → Array Value) : Obj.mapFields f (dq xs st) = { dq xs st with data := .fields (f (#[.none, rawInt st] ++ xs.toArray)) } := rfl

theorem call_deque0 {Q : Value → Shared → Prop} (h : ∀ h', Made s.heap h' (dq [] 0) → Q (.ref s.heap.objs.size) { s with heap := h' }) :
    wpAny (model prog w) A (call (.type "collections.deque") []) Q E s := by
  refine callType_gen (Q₁ := fun v s₁ => v = .ref s.heap.objs.size ∧ ∃ h', Made s.heap h' (dq [] 0) ∧ s₁ = { s with heap := h' }) called_dq typeCall_dq ?_ ?_
  · refine codeAny_call_builtin plain_dq_new entry_dq_new (wpAny_of_eq newCall_dq ?_)
    unfold Builtin.«collections.deque.__new__» Builtin.Deque.newArgs
    dsimp only
    refine wpAny_bind (wpAny_bind (m := isType (.type "collections.deque")) (wpAny_pure ?_))
    simp only [Bool.not_true, Bool.false_eq_true, ↓reduceIte]
    refine wpAny_bind (wpAny_of_eq sub_dq_self ?_)
    simp only [Bool.not_true, Bool.false_eq_true, ↓reduceIte]
    refine wpAny_pure ?_
    dsimp only
    unfold Builtin.Deque.new
    simp only [List.size_toArray, List.length_nil]
    rw [if_neg (by rw [sizeLine_eq]; omega)]
    have hnd : typeHasDict (.type "collections.deque") = false := by decide +kernel
    rw [hnd]
    simp only [Bool.false_eq_true, ↓reduceIte]
    refine wpAny_bind (wpAny_bind (wpAny_pure (wpAny_newObj_type ?_ (by show (#[Value.none, rawInt 0] ++ #[]).size ≤ sizeLine + 2; simp))))
    refine wpAny_pure ⟨rfl, _, ⟨fun b x e => Heap.get?_push_of_some _ e, Heap.get?_push_size _ rfl⟩, rfl⟩
  · rintro obj s₁ ⟨rfl, h', M, rfl⟩
    refine ⟨⟨_, M.at_, rfl⟩, codeAny_call_builtin slot_dq_init.plain entry_dq_init (slot_dq_init.check _ _ _ _ _ _ _ _ ⟨_, M.at_, rfl⟩ (args_dq_init _) ?_)⟩
    unfold Builtin.«collections.deque.__init__»
    show wpAny _ _ (setField (.ref s.heap.objs.size) 0 .none >>= fun _ => Builtin.Deque.clear (.ref s.heap.objs.size) >>= fun _ => ret .none) _ _ _
    refine wpAny_bind (wpAny_setField_rec (s := { s with heap := h' }) M.at_ (by simp) fun h₂ hg₂ hs₂ => ?_)
    unfold Builtin.Deque.clear Builtin.Deque.items
    refine wpAny_bind (wpAny_bind (wpAny_bind (wpAny_fieldsOf (s := { s with heap := h₂ }) hg₂ rfl (wpAny_pure ?_))))
    simp only [Array.size_append, Array.size_setIfInBounds]
    refine wpAny_pure (wpAny_pure ⟨rfl, h h₂ ⟨fun b x e => ?_, ?_⟩⟩)
    · exact (hs₂.2 b (Nat.ne_of_lt (Heap.lt_size e))).trans (M.keep b x e)
    · rw [hg₂]; rfl

theorem dq_state {Q : Int → Shared → Prop} (ho : s.heap.get? a = some (dq xs st)) (h : Q st s) : wpAny (model prog w) A (Builtin.Deque.state (.ref a)) Q E s := by
  unfold Builtin.Deque.state
  refine wpAny_bind (wpAny_field (x := rawInt st) ho rfl (by simp) ?_)
  exact wpAny_pure h

theorem dq_change {f : Array Value → Array Value} {ys : List Value} {Q : Unit → Shared → Prop} (ho : s.heap.get? a = some (dq xs st)) (hf : f xs.toArray = ys.toArray) (hz : ys.length ≤ sizeLine)
    (h : ∀ h', Heap.SameBut a s.heap h' → h'.get? a = some (dq ys (st + 1)) → Q () { s with heap := h' }) : wpAny (model prog w) A (Builtin.Deque.change (.ref a) f) Q E s := by
  unfold Builtin.Deque.change
  dsimp only
  refine wpAny_bind (dq_state ho ?_)
  simp only [↓reduceIte]
  have hv : #[(#[Value.none, rawInt st] ++ xs.toArray).getD 0 Value.none, rawInt (st + 1)] ++ f ((#[Value.none, rawInt st] ++ xs.toArray).extract 2 (#[Value.none, rawInt st] ++ xs.toArray).size) = #[Value.none, rawInt (st + 1)] ++ ys.toArray := by
    rw [dq_extract, hf]
    simp
  refine wpAny_updateFields ho rfl (h _ (Heap.SameBut.update _ _ _) ?_) (by rw [hv]; simp; omega)
  rw [Heap.get?_update_self _ ho rfl, mapFields_dq, hv]
  rfl

theorem call_dq_append {x : Value} {Q : Value → Shared → Prop} (ho : s.heap.get? a = some (dq xs st)) (hz : xs.length + 1 ≤ sizeLine)
    (h : ∀ h', Heap.SameBut a s.heap h' → h'.get? a = some (dq (xs ++ [x]) (st + 1)) → Q .none { s with heap := h' }) :
    wpAny (model prog w) A (call (.builtin "collections.deque.append") [.ref a, x]) Q E s := by
  refine wpAny_call_entry slot_dq_append (dq_typeIs ho) entry_dq_append ?_ (args_dq_append _ _)
  unfold Builtin.«collections.deque.append»
  refine wpAny_bind (m := selfAndOne "deque.append" _) (wpAny_pure ?_)
  dsimp only
  unfold Builtin.Deque.pushRight
  refine wpAny_bind (wpAny_bind (dq_change (ys := xs ++ [x]) ho (by simp) (by simp; omega) fun h' hs hg => ?_))
  unfold Builtin.Deque.maxlen
  refine wpAny_bind (wpAny_bind (wpAny_field (s := { s with heap := h' }) (x := Value.none) hg rfl (by simp) ?_))
  refine wpAny_pure ?_
  refine wpAny_pure ?_
  exact wpAny_pure ⟨_, rfl, h h' hs hg⟩

theorem call_dq_popleft {x : Value} {Q : Value → Shared → Prop} (ho : s.heap.get? a = some (dq (x :: xs) st)) (hz : xs.length ≤ sizeLine)
    (h : ∀ h', Heap.SameBut a s.heap h' → h'.get? a = some (dq xs (st + 1)) → Q x { s with heap := h' }) :
    wpAny (model prog w) A (call (.builtin "collections.deque.popleft") [.ref a]) Q E s := by
  refine wpAny_call_entry slot_dq_popleft (dq_typeIs ho) entry_dq_popleft ?_ (args_dq_popleft _)
  unfold Builtin.«collections.deque.popleft»
  refine wpAny_bind (m := selfOnly "deque.popleft" _) (wpAny_pure ?_)
  unfold Builtin.Deque.items
  refine wpAny_bind (wpAny_bind (wpAny_fieldsOf ho rfl (wpAny_pure ?_)))
  rw [dq_extract]
  show wpAny _ _ (Builtin.Deque.change (.ref a) (·.eraseIdxIfInBounds 0) >>= fun _ => ret x) _ _ _
  refine wpAny_bind (dq_change (ys := xs) ho (by simp [Array.eraseIdxIfInBounds]) hz fun h' hs hg => ?_)
  exact wpAny_pure ⟨_, rfl, h h' hs hg⟩

theorem dq_len_body {Q : Value → Shared → Prop} (ho : s.heap.get? a = some (dq xs st)) (hz : xs.length ≤ sizeLine)
    (h : Q (.int (xs.length : Nat) (s.toks + 1)) { s with toks := s.toks + 1 + 1 }) : wpAny (model prog w) A (Builtin.«len» ⟨[.ref a], []⟩) (fun fin s' => ∃ r, fin = .done (.ret r) ∧ Q r s') E s := by
  unfold Builtin.«len»
  refine wpAny_bind (m := oneArg "len" _) (wpAny_pure ?_)
  refine wpAny_bind (m := callSpecial? (.ref a) (Str.ofString "__len__")) (wpAny_callSpecial?_slot (name := Str.ofString "__len__") (dq_typeIs ho) slot_dq_len
    (wpAny_call_entry slot_dq_len (dq_typeIs ho) entry_dq_len ?_ (args_dq_len _)))
  unfold Builtin.«collections.deque.__len__»
  refine wpAny_bind (m := slotArgs "__len__" 0 _) (wpAny_pure ?_)
  unfold Builtin.Deque.size
  refine wpAny_bind (wpAny_bind (wpAny_fieldsOf ho rfl (wpAny_pure ?_)))
  have hsz : (#[Value.none, rawInt st] ++ xs.toArray).size - 2 = xs.length := by simp
  rw [hsz]
  unfold retInt
  refine wpAny_bind (wpAny_mkInt (wpAny_pure ⟨_, rfl, ?_⟩))
  refine wpAny_bind (wpAny_holding (wpAny_pure ?_))
  refine wpAny_bind (wpAny_letGo ?_)
  rw [sizeLine_eq] at hz
  show wpAny _ _ (if ((xs.length : Nat) : Int) < 0 then _ else _) _ _ _
  rw [if_neg (by omega)]
  show wpAny _ _ (if ((xs.length : Nat) : Int) ≥ 2 ^ 63 then _ else _) _ _ _
  rw [if_neg (by omega)]
  exact wpAny_bind (wpAny_mkInt (wpAny_pure ⟨_, rfl, h⟩))

theorem truthy_dq {Q : Bool → Shared → Prop} (ho : s.heap.get? a = some (dq xs st)) (hz : xs.length ≤ sizeLine) (h : Q (!xs.isEmpty) { s with toks := s.toks + 1 + 1 }) :
    wpAny (model prog w) A (truthy (.ref a)) Q E s := by
  have hne : ((xs.length : Int) != 0) = !xs.isEmpty := by cases xs <;> simp <;> omega
  have key : wpAny (model prog w) A (runValue (.builtin "len" ⟨[.ref a], []⟩)) (fun r s' => r = .int (xs.length : Nat) (s.toks + 1) ∧ Q (!xs.isEmpty) s') E s := by
    refine wpAny_runValue (codeAny_builtin entry_len ?_)
    rw [Around.under_plainId plain_len _]
    exact wpAny_mono (dq_len_body (Q := fun r s' => r = .int (xs.length : Nat) (s.toks + 1) ∧ Q (!xs.isEmpty) s') ho hz ⟨rfl, h⟩)
      (fun fin s' h' => by obtain ⟨r, rfl, hq⟩ := h'; exact hq) fun _ _ e => e
  unfold truthy
  refine wpAny_bind (wpAny_callSpecial?_none (name := Str.ofString "__bool__") (dq_typeIs ho) noBool_dq ?_)
  refine wpAny_bind (wpAny_specialOf (name := Str.ofString "__len__") (dq_typeIs ho) slot_dq_len.lookup ?_)
  exact wpAny_bind (wpAny_mono key (fun r s' h' => by obtain ⟨rfl, hq⟩ := h'; exact wpAny_pure (hne ▸ hq)) fun _ _ e => e)
end
end Mine
end
section
open PySem PySem.W PyProof.Rows PySem.Calls
set_option linter.unusedVariables false
set_option maxHeartbeats 4000000
namespace Mine

/-- a goal that the walk leaves to me -/
def Held (p : Prop) : Prop := p
theorem held {p : Prop} (h : Held p) : p := h

section
variable {prog : Program} {w : World} {A A₀ : Around} {s : Shared} {base h₀ : Heap} {outer : List Env} {L : Addr} {m : Str → Option Value} {env : Env} {hid : List (Addr × Obj)} {K : Frag}
  {p : Program} {loose : List Str} {mean : ExcName → Option Value} {mg mb : Str → Option Value} {Q E : Value → Shared → Prop}
  {name qual : Str} {params : Arguments} {body : List Stmt} {scope : Scope} {dV kV doc pm cdv ct oc : Value} {an od : Option Addr} {osl : Array (Option Value)} {f : Addr} {args : List Value} {binds : List (Str × Value)}

/-- a def is called; only the objects of hid may be turned by it -/
theorem call_hid (B : Below A₀ base outer h₀) (F : Fr h₀ L s.heap m) (X₀ : K.In h₀) (N : News h₀ L s.heap hid) (T : Top p loose mean mg mb h₀) (hA : A.frames = some (env :: outer)) (hf : env.frame = some L) (hke : env.scope.kind = .function)
    (ho : K.lookup f = some ⟨oc, od, .func (fnOf name qual params body scope dV kV doc pm an cdv ct), osl⟩) (hcd : codeIn K cdv qual = true) (hroom : A.depth < recursionLimit)
    (hbind : BindsTo s (fnOf name qual params body scope dV kV doc pm an cdv ct) ⟨args, []⟩ binds) (hloc : ∀ y ∈ binds, scope.names.lookup y.1 = some .local)
    (h : ∀ g L' h₁, (∀ b o, s.heap.get? b = some o → b ∉ hid.map (·.1) → g.get? b = some o) → (∀ b o, g.get? b = some o → s.heap.get? b = some o) → Fr g L' h₁ (fun y => binds.reverse.lookup y) → News g L' h₁ hid →
      Below A base (env :: outer) g → K.In g → Top p loose mean mg mb g → (∀ b o, s.heap.get? b = some o → b < L') →
      wpAny (model prog w) (A.deeper (envX qual scope L' f cdv [])) (execs body (envX qual scope L' f cdv []))
        (fun fl s' => Q (match fl with | .ret v => v | _ => .none) s') (fun _ _ => False) { s with heap := h₁, toks := s.toks + binds.length })
    (hco : scope.isCoroutine = false) (hgen : scope.isGenerator = false) (hk : scope.kind = .function)
    (hcell : ∀ x ∈ scope.names, x.2 ≠ .cell) : wpAny (model prog w) A (call (.ref f) args) Q E s := by
  obtain ⟨_, BG, st, _⟩ := groundX (R := fun _ _ => True) B F N hA hf hke
  have X := X₀.keeps F.keep
  refine wpAny_call (codeAny_call_def (fd := fnOf name qual params body scope dV kV doc pm an cdv ct) (body := body) (binds := binds) hroom (X _ _ ho) rfl (T.nolimit.keeps F.keep) (codeRec_of X hcd) rfl hbind hcell hloc (fun h₁ hns hk₁ => ?_) hco hgen hk)
  exact wpAny_mono (h _ s.heap.objs.size h₁ (fun b o e hn => hideAll_get _ e hn) (fun b o e => of_hideAll _ e) ⟨hns, fun b o e => hk₁ b o (of_hideAll _ e), Nat.le_of_eq (hideAll_size _ _)⟩
    (fun q hq => ⟨hk₁ _ _ (N q hq).1, Nat.ne_of_lt (Heap.lt_size (N q hq).1), hideAll_none _ (List.mem_map_of_mem hq)⟩) BG (X₀.keeps st) (T.keeps st) (fun b o e => Heap.lt_size e))
    (fun fl s' q => q) fun _ _ q => q.elim
end

/-- the graph: a dict from 0 .. many - 1 to sets of ints -/
structure GraphAt (prog : Program) (w : World) (h : Heap) (ga : Addr) (many : Nat) (adj : Nat → Nat) : Prop where
  lo : (ga == sysModules) = false
  le : many ≤ 6
  dict : ∃ kvs, h.DictOf (intKind prog w) ga kvs ∧ (∀ k, k < many → ∃ a, valueAt kvs (Int.ofNat k) = some (.ref a) ∧ SetAt w h a (adj k)) ∧ (∀ k, many ≤ k → valueAt kvs (Int.ofNat k) = none)
  sub : ∀ k, k < many → adj k < 2 ^ many

section
variable {prog : Program} {w : World} {A : Around} {E : Value → Shared → Prop} {s : Shared} {h h' : Heap} {ga : Addr} {many : Nat} {adj : Nat → Nat}

theorem GraphAt.keep (G : GraphAt prog w h ga many adj) (k : ∀ b o, h.get? b = some o → h'.get? b = some o) : GraphAt prog w h' ga many adj where
  lo := G.lo
  le := G.le
  dict := by
    obtain ⟨kvs, ⟨o, es, ep, ho, r⟩, h2, h3⟩ := G.dict
    exact ⟨kvs, ⟨o, es, ep, k _ _ ho, r⟩, fun i hi => let ⟨a, e, S⟩ := h2 i hi; ⟨a, e, S.keep fun o e => k _ _ e⟩, h3⟩
  sub := G.sub

theorem dictOf_mapOf {kvs : List (Int × Value)} (D : h.DictOf (intKind prog w) ga kvs) : h.MapOf (intKind prog w) ga (valueAt kvs) := by
  obtain ⟨o, es, ep, ho, hex, hd, hk, hp, _⟩ := D
  refine ⟨o, es, ep, ho, hex, hd, hk, fun k => ?_⟩
  have := hp.find k
  unfold findBy
  rw [← Array.find?_toList]
  exact this

theorem graph_item {k : Nat} {tk : Tok} {Q : Value → Shared → Prop} (G : GraphAt prog w s.heap ga many adj) (hk : k < many) (h : ∀ a, SetAt w s.heap a (adj k) → Q (.ref a) { s with toks := s.toks + 1 }) :
    wpAny (model prog w) A (getItem (.ref ga) (.int (Int.ofNat k) tk)) Q E s := by
  obtain ⟨kvs, D, h2, _⟩ := G.dict
  obtain ⟨a, e, S⟩ := h2 k hk
  exact wpAny_getItem_of (intKind_is prog w _ tk) (dictOf_mapOf D) e (h a S)

theorem graph_tail {value slice : PySem.Expr} {k : Nat} {tk : Tok} {Q : Value → Shared → Prop} (G : GraphAt prog w s.heap ga many adj) (hk : k < many) (h : ∀ a, SetAt w s.heap a (adj k) → Q (.ref a) { s with toks := s.toks + 1 })
    (hs : subscripted slice false (.ref ga) (.int (Int.ofNat k) tk) = operate [.ref ga, .int (Int.ofNat k) tk] (getItem (.ref ga) (.int (Int.ofNat k) tk)) := by with_unfolding_all rfl) :
    wpAny (model prog w) A (subscriptTail value slice (.ref ga) (.int (Int.ofNat k) tk)) Q E s := by
  obtain ⟨kvs, D, _, _⟩ := id G.dict
  exact tail_any (dictOf_mapOf D).typeIs slot_dict_getitem.lookup (graph_item G hk h) hs

theorem graph_notIn {k : Nat} {tk : Tok} {Q : Value → Shared → Prop} (G : GraphAt prog w s.heap ga many adj) (h : Q (.bool (decide (many ≤ k))) { s with toks := s.toks + 1 }) :
    wpAny (model prog w) A (compareOp .NotIn (.int (Int.ofNat k) tk) (.ref ga)) Q E s := by
  obtain ⟨kvs, D, h2, h3⟩ := G.dict
  refine wpAny_notIn_of (intKind_is prog w _ tk) G.lo (dictOf_mapOf D) ?_
  by_cases hk : k < many
  · obtain ⟨a, e, _⟩ := h2 k hk
    rw [e]
    rw [decide_eq_false (by omega)] at h
    exact h
  · rw [h3 k (by omega)]
    rw [decide_eq_true (by omega)] at h
    exact h
end
end Mine
end
section
open PySem PySem.W PyProof.Rows PySem.Calls
set_option linter.unusedVariables false
set_option maxHeartbeats 4000000
set_option linter.unusedVariables false
namespace Mine
section
variable {prog : Program} {w : World} {A : Around} {E : Value → Shared → Prop} {s : Shared} {h h' h₀ : Heap} {L D S a c : Addr} {m : Str → Option Value} {news : List (Addr × Obj)} {gl : Obj → List (Addr × Obj)} {o o' : Obj} {b d : Nat}

theorem fn_ext {pre post : List (Addr × Obj)} (F : Fr h₀ L h m) (N : News h₀ L h (pre ++ (D, o) :: post)) (h1 : ∀ p ∈ pre, p.1 ≠ D) (h2 : ∀ p ∈ post, p.1 ≠ D) (hs : ∀ x y, x ≠ D → h.get? x = some y → h'.get? x = some y) (ho : h'.get? D = some o') :
    Fr h₀ L h' m ∧ News h₀ L h' (pre ++ (D, o') :: post) := by
  have hD := N (D, o) (List.mem_append_right _ (.head _))
  refine ⟨⟨F.ns.at' fun x e => hs _ _ (Ne.symm hD.2.1) e, fun x y e => hs x y (fun q => ?_) (F.keep x y e), F.above⟩, fun p hp => ?_⟩
  · rw [q, hD.2.2] at e; cases e
  · rcases List.mem_append.mp hp with hp' | hp'
    · have := N p (List.mem_append_left _ hp'); exact ⟨hs _ _ (h1 p hp') this.1, this.2⟩
    · rcases List.mem_cons.mp hp' with rfl | hp'
      · exact ⟨ho, hD.2⟩
      · have := N p (List.mem_append_right _ (.tail _ hp')); exact ⟨hs _ _ (h2 p hp') this.1, this.2⟩

theorem fn_upd (F : Fr h₀ L h m) (N : News h₀ L h news) (U : UpdF D o news gl) (hs : ∀ x y, x ≠ D → h.get? x = some y → h'.get? x = some y) (ho : h'.get? D = some o') :
    Fr h₀ L h' m ∧ News h₀ L h' (gl o') := by
  obtain ⟨pre, post, rfl, hg, p1, p2⟩ := U.split
  rw [hg]
  exact fn_ext F N p1 p2 hs ho

theorem upd_at (N : News h₀ L h news) (U : UpdF D o news gl) : h.get? D = some o := by
  obtain ⟨pre, post, rfl, _, _, _⟩ := U.split
  exact (N (D, o) (List.mem_append_right _ (.head _))).1

theorem setAt_news (N : News h₀ L h news) (hm : (a, o) ∈ news) (Sb : SetB w b o) : SetAt w h a b := ⟨o, N.get hm, Sb⟩
theorem setAt_base (F : Fr h₀ L h m) (Sb : SetAt w h₀ a b) : SetAt w h a b := Sb.keep fun _ e => F.keep _ _ e

theorem method_of {T : String} {name : Str} {id : String} {pl : Sem Bool} {Q : Value × List Value → Shared → Prop} (ho : s.heap.get? a = some o) (hc : o.cls = .type T) (hd : o.dict = none) (pa : PlainAttrs T) (slot : Slot T name id)
    (hty : typeOf (.builtin id) = pure (.type "method_descriptor")) (hq : Q (.builtin id, [.ref a]) s) : wpAny (model prog w) A (getMethod (.ref a) name pl) Q E s :=
  getMethod_builtin ⟨o, ho, hc⟩ pa slot hty (fun b e => by injection e with e; subst e; exact ⟨o, ho, hd⟩) hq

theorem k_setmeth {pl : Sem Bool} {Q : Value × List Value → Shared → Prop} (N : News h₀ L s.heap news) (hm : (a, o) ∈ news) (Sb : SetB w b o) (hq : Q (.builtin "set.add", [.ref a]) s) :
    wpAny (model prog w) A (getMethod (.ref a) "add" pl) Q E s := method_of (N.get hm) Sb.ex.1 Sb.ex.2.1 F.plainAttrs_set F.slot_set_add F.type_set_add hq
theorem k_setadd {x : Nat} {tk : Tok} {Q : Value → Shared → Prop} (F : Fr h₀ L s.heap m) (N : News h₀ L s.heap news) (U : UpdF a o news gl) (Sb : SetB w b o) (hx : x < 6)
    (hq : ∀ h' o', Fr h₀ L h' m → News h₀ L h' (gl o') → SetB w (b ||| 2 ^ x) o' → Q .none { s with heap := h', toks := s.toks + 1 }) :
    wpAny (model prog w) A (call (.builtin "set.add") [.ref a, .int (Int.ofNat x) tk]) Q E s :=
  call_add (upd_at N U) Sb hx fun h' o' p q r => have ⟨F', N'⟩ := fn_upd F N U (fun x y hx e => (p.2 x hx).trans e) q; hq h' o' F' N' r
theorem call_set0 {Q : Value → Shared → Prop} (hq : ∀ h' o, Made s.heap h' o → SetB w 0 o → Q (.ref s.heap.objs.size) { s with heap := h' }) :
    wpAny (model prog w) A (call (.type "set") []) Q E s := by
  refine callType_gen (Q₁ := fun v s₁ => v = .ref s.heap.objs.size ∧ ∃ h' o, Made s.heap h' o ∧ SetB w 0 o ∧ s₁ = { s with heap := h' }) F.called_set F.typeCall_set_0
    (code_new F.newCall_set_0 fun h' o M S => ⟨rfl, h', o, M, S, rfl⟩) ?_
  rintro obj s₁ ⟨rfl, h', o, M, S, rfl⟩
  have hT : Shared.TypeIs { s with heap := h' } (.ref s.heap.objs.size) "set" := ⟨o, M.at_, S.ex.1⟩
  refine ⟨hT, codeAny_call_builtin F.called_set.init.plain F.entry_set_init (check_set_init hT ?_)⟩
  unfold Builtin.«set.__init__» noKeywords
  simp only [List.isEmpty_nil]
  refine wpAny_bind (wpAny_pure ?_)
  unfold typeNameOfCut shownTypeOf
  refine wpAny_bind (wpAny_bind (wpAny_bind (wpAny_typeOf hT ?_)))
  have hne : (Value.type "set" == Value.type "builtin_function_or_method") = false := by decide
  rw [hne]
  simp only [Bool.false_eq_true, ↓reduceIte]
  refine wpAny_pure ?_
  refine wpAny_pure ?_
  refine wpAny_bind (m := checkCount _ 0 1 0) (wpAny_pure ?_)
  refine wpAny_bind (wpAny_pure ?_)
  refine wpAny_bind (m := setUsed _) ?_
  unfold setUsed
  refine wpAny_bind (wp_setState (s := { s with heap := h' }) M.at_ S fun es ep t hd he ht hl hf => wpAny_pure ?_)
  have hfill : (t.fill != 0) = false := by unfold SetTable.fill; rw [ht.place, ht.dummies]; rfl
  dsimp only
  rw [hfill]
  simp only [Bool.false_eq_true, ↓reduceIte]
  exact wpAny_pure ⟨rfl, hq h' o M S⟩
theorem k_newset {Q : Value → Shared → Prop} (Fm : Fr h₀ L s.heap m) (N : News h₀ L s.heap news)
    (hq : ∀ D h' o, Fr h₀ L h' m → News h₀ L h' ((D, o) :: news) → (∀ p ∈ news, p.1 < D) → SetB w 0 o → Q (.ref D) { s with heap := h' }) :
    wpAny (model prog w) A (call (.type "set") []) Q E s :=
  call_set0 fun h' o M S => hq _ h' o (M.mk'.fr Fm) (M.mk'.news Fm N) (M.mk'.lt N) S
theorem k_sub {Q : Value → Shared → Prop} (F : Fr h₀ L s.heap m) (N : News h₀ L s.heap news) (Sa : SetAt w s.heap a b) (Sc : SetAt w s.heap c d) (hd0 : d ≠ 0)
    (hq : ∀ D h' o, Fr h₀ L h' m → News h₀ L h' ((D, o) :: news) → (∀ p ∈ news, p.1 < D) → SetB w (less b d) o → Q (.ref D) { s with heap := h' }) :
    wpAny (model prog w) A (binaryOp .Sub (.ref a) (.ref c)) Q E s :=
  wp_sub Sa Sc hd0 fun h' o M S => hq _ h' o (M.mk'.fr F) (M.mk'.news F N) (M.mk'.lt N) S
theorem k_union {Q : Value → Shared → Prop} (F : Fr h₀ L s.heap m) (N : News h₀ L s.heap news) (Sa : SetAt w s.heap a b) (Sc : SetAt w s.heap c d) (hac : a ≠ c)
    (hq : ∀ D h' o, Fr h₀ L h' m → News h₀ L h' ((D, o) :: news) → (∀ p ∈ news, p.1 < D) → SetB w (b ||| d) o → Q (.ref D) { s with heap := h' }) :
    wpAny (model prog w) A (binaryOp .BitOr (.ref a) (.ref c)) Q E s :=
  wp_union Sa Sc hac fun h' o M S => hq _ h' o (M.mk'.fr F) (M.mk'.news F N) (M.mk'.lt N) S
theorem k_setset {Q : Value → Shared → Prop} (F : Fr h₀ L s.heap m) (N : News h₀ L s.heap news) (Sc : SetAt w s.heap c d)
    (hq : ∀ D h' o, Fr h₀ L h' m → News h₀ L h' ((D, o) :: news) → (∀ p ∈ news, p.1 < D) → SetB w d o → Q (.ref D) { s with heap := h' }) :
    wpAny (model prog w) A (call (.type "set") [.ref c]) Q E s :=
  call_set_set Sc fun h' o M S => hq _ h' o (M.mk'.fr F) (M.mk'.news F N) (M.mk'.lt N) S

/-- a list of small ints: its last goes -/
theorem call_pop {vs : List Value} {v : Value} {n : Nat} {Q : Value → Shared → Prop} (ho : s.heap.get? S = some (lst (vs ++ [v]).toArray n)) (hz : vs.length + 1 ≤ 1000)
    (hq : ∀ h' n', Heap.SameBut S s.heap h' → h'.get? S = some (lst vs.toArray n') → Q v { s with heap := h' }) :
    wpAny (model prog w) A (call (.builtin "list.pop") [.ref S]) Q E s := by
  refine wpAny_call_entry F.slot_list_pop ⟨_, ho, rfl⟩ F.entry_list_pop ?_ (F.args_list_pop_1 _)
  unfold Builtin.«list.pop»
  refine wpAny_bind (m := selfAndSome "list.pop" "pop" 0 1 _) (wpAny_pure ?_)
  dsimp only
  refine wpAny_bind (wpAny_pure ?_)
  have hfit : Builtin.List.listFitsIndex (-1) = true := by decide
  rw [hfit]
  simp only [Bool.not_true, Bool.false_eq_true, ↓reduceIte]
  refine wpAny_bind (listItems_at ho rfl ?_)
  have hne : (vs ++ [v]).toArray.isEmpty = false := by simp
  rw [hne]
  simp only [Bool.false_eq_true, ↓reduceIte]
  have hsz : (vs ++ [v]).toArray.size = vs.length + 1 := by simp
  have hidx : (seqIndex? (-1) (vs ++ [v]).toArray.size).bind (fun k => (vs ++ [v]).toArray[k]?.map (k, ·)) = some (vs.length, v) := by
    rw [hsz]
    have : seqIndex? (-1) (vs.length + 1) = some vs.length := by
      unfold seqIndex?
      have e : (if (-1 : Int) < 0 then (-1 : Int) + ((vs.length + 1 : Nat) : Int) else -1) = vs.length := by
        rw [if_pos (by decide)]; omega
      rw [e]
      simp
      omega
    rw [this]
    simp
  rw [hidx]
  dsimp only
  have hf : (vs ++ [v]).toArray.eraseIdxIfInBounds vs.length = vs.toArray := by
    apply Array.toList_inj.mp
    simp [Array.eraseIdxIfInBounds, List.eraseIdx_append_of_length_le]
  refine wpAny_bind (listUpdate_at ho rfl ?_ (by rw [hsz, sizeLine_eq]; omega) (by rw [hf, sizeLine_eq]; simp; omega))
  refine wpAny_pure ⟨_, rfl, hq _ (if (vs.toArray.size == (vs ++ [v]).toArray.size) then n else n + 1) (Heap.SameBut.update _ _ _) ((get?_update_seq ho _).trans ?_)⟩
  rw [hf]

theorem vals_nats {es : Array (Int × Value)} {ep : Nat} (he : EntB b es) (hb : b < 64) : ∃ xs : List Nat, IntsAre (valsOf (walkOf w a ep es)) (xs.map Int.ofNat) ∧ xs.Perm (els b) := by
  obtain ⟨ns, hI, hp⟩ := vals_ints (w := w) (a := a) (ep := ep) he
  have hid : ∀ n ∈ ns, Int.ofNat n.toNat = n := fun n hn => by
    obtain ⟨i, _, rfl⟩ := List.mem_map.mp (hp.mem_iff.mp hn); rfl
  refine ⟨ns.map Int.toNat, ?_, ?_⟩
  · have : (ns.map Int.toNat).map Int.ofNat = ns := by
      rw [List.map_map]
      conv => rhs; rw [← List.map_id ns]
      exact List.map_congr_left fun n hn => hid n hn
    rw [this]; exact hI
  · have := hp.map Int.toNat
    have e : (hs b).map Int.toNat = els b := by
      unfold hs
      rw [List.map_map]
      conv => rhs; rw [← List.map_id (els b)]
      exact List.map_congr_left fun n _ => rfl
    rw [e] at this; exact this

theorem k_listmeth {name : Str} {id : String} {pl : Sem Bool} {vs : Array Value} {n : Nat} {Q : Value × List Value → Shared → Prop} (N : News h₀ L s.heap news) (hm : (a, lst vs n) ∈ news) (slot : Slot "list" name id)
    (hty : typeOf (.builtin id) = pure (.type "method_descriptor")) (hq : Q (.builtin id, [.ref a]) s) :
    wpAny (model prog w) A (getMethod (.ref a) name pl) Q E s := method_of (N.get hm) rfl rfl F.plainAttrs_list slot hty hq
theorem k_pop {vs : List Value} {v : Value} {n : Nat} {Q : Value → Shared → Prop} (F : Fr h₀ L s.heap m) (N : News h₀ L s.heap news) (U : UpdF a (lst (vs ++ [v]).toArray n) news gl) (hz : vs.length + 1 ≤ 1000)
    (hq : ∀ h' n', Fr h₀ L h' m → News h₀ L h' (gl (lst vs.toArray n')) → Q v { s with heap := h' }) :
    wpAny (model prog w) A (call (.builtin "list.pop") [.ref a]) Q E s :=
  call_pop (upd_at N U) hz fun h' n' p q => have ⟨F', N'⟩ := fn_upd F N U (fun x y hx e => (p.2 x hx).trans e) q; hq h' n' F' N'
theorem k_extend {ys : List Value} {n : Nat} {Q : Value → Shared → Prop} (hh : A.handled = none) (F : Fr h₀ L s.heap m) (N : News h₀ L s.heap news) (U : UpdF S (lst ys.toArray n) news gl) (Sa : SetAt w s.heap a b) (hz : ys.length ≤ 1000)
    (hq : ∀ h' n' (vs : List Value) (xs : List Nat), Fr h₀ L h' m → News h₀ L h' (gl (lst (ys ++ vs).toArray n')) → IntsAre vs (xs.map Int.ofNat) → (∀ x, x ∈ xs ↔ x < 6 ∧ b.testBit x = true) → xs.length ≤ 6 → Q .none { s with heap := h' }) :
    wpAny (model prog w) A (call (.builtin "list.extend") [.ref S, .ref a]) Q E s := by
  refine call_extend hh Sa (upd_at N U) (by rw [sizeLine_eq]; simp; omega) fun h' n' ep es hk he hS => ?_
  have ⟨F', N'⟩ := fn_upd F N U hk hS
  obtain ⟨xs, hI, hp⟩ := vals_nats (w := w) (a := a) (ep := ep) he Sa.lt
  refine hq h' n' _ xs F' (by simpa using N') hI (fun x => ?_) (by rw [hp.length_eq]; exact len_dec b Sa.lt)
  rw [hp.mem_iff]
  constructor
  · intro hx; exact els_mem_dec b Sa.lt x hx
  · rintro ⟨h1, h2⟩; exact (els_iff_dec b Sa.lt x h1).mp h2
end
end Mine
namespace Mine
section
variable {prog : Program} {w : World} {A : Around} {E : Value → Shared → Prop} {s : Shared} {h h' h₀ : Heap} {L D S a c : Addr} {m : Str → Option Value} {news : List (Addr × Obj)} {gl : Obj → List (Addr × Obj)} {o o' : Obj} {b d : Nat}
theorem k_truthyList {vs : List Value} {n : Nat} {Q : Bool → Shared → Prop} (N : News h₀ L s.heap news) (hm : (a, lst vs.toArray n) ∈ news) (hz : vs.length ≤ 1000) (hq : Q (!vs.isEmpty) { s with toks := s.toks + 1 + 1 }) :
    wpAny (model prog w) A (truthy (.ref a)) Q E s :=
  wpAny_truthy_list (items := vs.toArray) ⟨_, N.get hm, rfl, n, rfl⟩ (by simp; omega) (by simpa using hq)
theorem k_truthySet {Q : Bool → Shared → Prop} (S : SetAt w s.heap a b) (hq : Q (decide (b ≠ 0)) { s with toks := s.toks + 1 + 1 }) : wpAny (model prog w) A (truthy (.ref a)) Q E s := wp_truthySet S hq
theorem k_newlist {vs : List Value} {Q : Value → Shared → Prop} (Fm : Fr h₀ L s.heap m) (N : News h₀ L s.heap news) (hz : vs.length ≤ 1000)
    (hq : ∀ D h', Fr h₀ L h' m → News h₀ L h' ((D, lst vs.toArray 0) :: news) → (∀ p ∈ news, p.1 < D) → Q (.ref D) { s with heap := h' }) :
    wpAny (model prog w) A (newList vs) Q E s :=
  wpAny_newList (have M : Made s.heap (s.heap.push (seqObj "list" vs.toArray 0)) (lst vs.toArray 0) := ⟨fun _ _ e => Heap.get?_push_of_some _ e, Heap.get?_push_size _ rfl⟩
    hq _ _ (M.mk'.fr Fm) (M.mk'.news Fm N) (M.mk'.lt N)) (by rw [sizeLine_eq]; omega)
theorem shadow {x : Str} {a b : Option Value} {m : Str → Option Value} : (fun y => if y = x then a else if y = x then b else m y) = fun y => if y = x then a else m y := by
  funext y; by_cases h : y = x <;> simp [h]
end
end Mine
namespace Mine
theorem ints_append {vs ws : List Value} {ns ms : List Int} (h : IntsAre vs ns) (h' : IntsAre ws ms) : IntsAre (vs ++ ws) (ns ++ ms) := by
  induction h with
  | nil => exact h'
  | cons n t _ ih => exact .cons n t ih
theorem ints_nil {vs : List Value} (h : IntsAre vs []) : vs = [] := by cases h; rfl
theorem ints_concat {vs : List Value} {ns : List Int} {n : Int} (h : IntsAre vs (ns ++ [n])) : ∃ ws t, vs = ws ++ [.int n t] ∧ IntsAre ws ns := by
  induction ns generalizing vs with
  | nil =>
    cases h with
    | cons _ t h => exact ⟨[], t, by rw [ints_nil h]; rfl, .nil⟩
  | cons a r ih =>
    cases h with
    | cons _ t h =>
      obtain ⟨ws, t', rfl, h'⟩ := ih h
      exact ⟨_ :: ws, t', rfl, .cons _ _ h'⟩
section
variable {prog : Program} {w : World} {A : Around} {E : Value → Shared → Prop} {s : Shared} {h₀ : Heap} {L a : Addr} {news : List (Addr × Obj)}
theorem k_truthyNil {n : Nat} {Q : Bool → Shared → Prop} (N : News h₀ L s.heap news) (hm : (a, lst #[] n) ∈ news) (hq : Q false { s with toks := s.toks + 1 + 1 }) :
    wpAny (model prog w) A (truthy (.ref a)) Q E s := k_truthyList (vs := []) N hm (by decide) hq
theorem k_truthySnoc {vs : List Value} {v : Value} {n : Nat} {Q : Bool → Shared → Prop} (N : News h₀ L s.heap news) (hm : (a, lst (vs ++ [v]).toArray n) ∈ news) (hz : vs.length + 1 ≤ 1000) (hq : Q true { s with toks := s.toks + 1 + 1 }) :
    wpAny (model prog w) A (truthy (.ref a)) Q E s := k_truthyList (vs := vs ++ [v]) N hm (by simpa using hz) (by rw [show (vs ++ [v]).isEmpty = false by simp]; exact hq)
theorem passes_false {M : Model} {A : Around} {env : Env} : PassesOwn M A env (fun _ _ => False) := fun _ _ h => h.elim
end
theorem News.sub {h₀ h : Heap} {L : Addr} {l l' : List (Addr × Obj)} (N : News h₀ L h l) (hs : ∀ p ∈ l', p ∈ l) : News h₀ L h l' := fun p hp => N p (hs p hp)
theorem or_pow_ne (V x : Nat) : V ||| 2 ^ x ≠ 0 := fun h => by
  have := or_pow_bit' V x
  rw [h] at this
  simp at this
where or_pow_bit' (V x : Nat) : (V ||| 2 ^ x).testBit x = true := by rw [Nat.testBit_or, Nat.testBit_two_pow]; simp
end Mine

namespace Mine
theorem less_mem {a d y : Nat} (ha : a < 64) (hd : d < 64) : (y < 6 ∧ (less a d).testBit y = true) ↔ y < 6 ∧ a.testBit y = true ∧ d.testBit y = false := by
  constructor
  · rintro ⟨h1, h2⟩
    rw [less_dec a ha d hd y h1, Bool.and_eq_true, Bool.not_eq_true'] at h2
    exact ⟨h1, h2⟩
  · rintro ⟨h1, h2⟩
    refine ⟨h1, ?_⟩
    rw [less_dec a ha d hd y h1, Bool.and_eq_true, Bool.not_eq_true']
    exact h2
theorem GraphAt.lt64 {prog : Program} {w : World} {h : Heap} {ga : Addr} {many : Nat} {adj : Nat → Nat} (G : GraphAt prog w h ga many adj) {k : Nat} (hk : k < many) : adj k < 64 :=
  Nat.lt_of_lt_of_le (G.sub k hk) (by have := G.le; calc 2 ^ many ≤ 2 ^ 6 := Nat.pow_le_pow_right (by omega) this
                                                        _ = 64 := by decide)
end Mine
end
section
open PySem PySem.W PyProof.Rows PySem.Calls
set_option linter.unusedVariables false
set_option maxHeartbeats 4000000
namespace Mine

/-- what is reached from st, without going into seen -/
inductive Reach (adj : Nat → Nat) (seen st : Nat) : Nat → Prop
  | start : Reach adj seen st st
  | step {u v : Nat} : Reach adj seen st u → (adj u).testBit v = true → seen.testBit v = false → Reach adj seen st v

/-- the state of the plain search: the mask, the stack -/
structure Dfs (adj : Nat → Nat) (many V₀ st V : Nat) (xs : List Nat) : Prop where
  lt : V < 64
  grow : ∀ i, V₀.testBit i = true → V.testBit i = true
  sound : ∀ i, V.testBit i = true → V₀.testBit i = true ∨ Reach adj V₀ st i
  stack : ∀ x ∈ xs, V₀.testBit x = true ∨ Reach adj V₀ st x
  bound : ∀ x ∈ xs, x < many
  full : ∀ u, V.testBit u = true → V₀.testBit u = true ∨ ∀ v, (adj u).testBit v = true → V.testBit v = true ∨ v ∈ xs
  begun : V.testBit st = true ∨ st ∈ xs
  none : V₀.testBit st = true → V = V₀ ∧ ∀ x ∈ xs, V₀.testBit x = true

def dfsM (V : Nat) (xs : List Nat) : Nat := (6 - (els V).length) * 8 + xs.length

theorem Dfs.init {adj : Nat → Nat} {many V₀ st : Nat} (h : V₀ < 64) (hs : st < many) : Dfs adj many V₀ st V₀ [st] where
  lt := h
  grow := fun _ h => h
  sound := fun _ h => .inl h
  stack := fun x hx => by rw [List.mem_singleton.mp hx]; exact .inr .start
  bound := fun x hx => by rw [List.mem_singleton.mp hx]; exact hs
  full := fun _ h => .inl h
  begun := .inr (.head _)
  none := fun h => ⟨rfl, fun x hx => by rw [List.mem_singleton.mp hx]; exact h⟩

theorem Dfs.skip {adj : Nat → Nat} {many V₀ st V x : Nat} {xs : List Nat} (D : Dfs adj many V₀ st V (xs ++ [x])) (hx : V.testBit x = true) : Dfs adj many V₀ st V xs where
  lt := D.lt
  grow := D.grow
  sound := D.sound
  stack := fun y hy => D.stack y (List.mem_append_left _ hy)
  bound := fun y hy => D.bound y (List.mem_append_left _ hy)
  full := fun u hu => (D.full u hu).imp id fun h v hv => (h v hv).elim .inl fun hm => by
    rcases List.mem_append.mp hm with hm | hm
    · exact .inr hm
    · rw [List.mem_singleton.mp hm]; exact .inl hx
  begun := D.begun.elim .inl fun hm => by
    rcases List.mem_append.mp hm with hm | hm
    · exact .inr hm
    · rw [List.mem_singleton.mp hm]; exact .inl hx
  none := fun h => ⟨(D.none h).1, fun y hy => (D.none h).2 y (List.mem_append_left _ hy)⟩

theorem or_pow_bit (V x i : Nat) : (V ||| 2 ^ x).testBit i = (V.testBit i || decide (x = i)) := by
  rw [Nat.testBit_or, Nat.testBit_two_pow]

theorem Dfs.visit {adj : Nat → Nat} {many V₀ st V x : Nat} {xs ys : List Nat} (D : Dfs adj many V₀ st V (xs ++ [x])) (hmany : many ≤ 6) (hsub : ∀ k, k < many → adj k < 2 ^ many) (hx : V.testBit x = false)
    (hys : ∀ y, y ∈ ys ↔ y < 6 ∧ (adj x).testBit y = true ∧ (V ||| 2 ^ x).testBit y = false) : Dfs adj many V₀ st (V ||| 2 ^ x) (xs ++ ys) := by
  have hxm : x < many := D.bound x (by simp)
  have hV0x : V₀.testBit x = false := by
    cases h : V₀.testBit x with
    | false => rfl
    | true => rw [D.grow x h] at hx; cases hx
  have hst : V₀.testBit st = false := by
    cases h : V₀.testBit st with
    | false => rfl
    | true => have := (D.none h).2 x (by simp); rw [hV0x] at this; cases this
  have hRx : Reach adj V₀ st x := (D.stack x (by simp)).resolve_left (by rw [hV0x]; exact Bool.false_ne_true)
  have small : ∀ v, (adj x).testBit v = true → v < many := by
    intro v hv
    rcases Nat.lt_or_ge v many with h | h
    · exact h
    · have hlt : adj x < 2 ^ v := Nat.lt_of_lt_of_le (hsub x hxm) (Nat.pow_le_pow_right (by omega) h)
      rw [Nat.testBit_lt_two_pow hlt] at hv; cases hv
  refine ⟨or_lt_dec V D.lt x (by omega), fun i h => ?_, fun i h => ?_, fun y hy => ?_, fun y hy => ?_, fun u hu => ?_, ?_, fun h => ?_⟩
  · rw [or_pow_bit, D.grow i h]; rfl
  · rw [or_pow_bit, Bool.or_eq_true, decide_eq_true_iff] at h
    rcases h with h | rfl
    · exact D.sound i h
    · exact .inr hRx
  · rcases List.mem_append.mp hy with hy | hy
    · exact D.stack y (List.mem_append_left _ hy)
    · obtain ⟨_, h2, h3⟩ := (hys y).mp hy
      refine .inr (.step hRx h2 ?_)
      rw [or_pow_bit, Bool.or_eq_false_iff] at h3
      cases h : V₀.testBit y with
      | false => rfl
      | true => rw [D.grow y h] at h3; cases h3.1
  · rcases List.mem_append.mp hy with hy | hy
    · exact D.bound y (List.mem_append_left _ hy)
    · exact small y ((hys y).mp hy).2.1
  · rw [or_pow_bit, Bool.or_eq_true, decide_eq_true_iff] at hu
    rcases hu with hu | rfl
    · refine (D.full u hu).imp id fun h v hv => ?_
      rcases h v hv with h | h
      · exact .inl (by rw [or_pow_bit, h]; rfl)
      · rcases List.mem_append.mp h with h | h
        · exact .inr (List.mem_append_left _ h)
        · rw [List.mem_singleton.mp h]; exact .inl (by rw [or_pow_bit]; simp)
    · refine .inr fun v hv => ?_
      cases h : (V ||| 2 ^ x).testBit v with
      | true => exact .inl rfl
      | false => exact .inr (List.mem_append_right _ ((hys v).mpr ⟨by have := small v hv; omega, hv, h⟩))
  · rcases D.begun with h | h
    · exact .inl (by rw [or_pow_bit, h]; rfl)
    · rcases List.mem_append.mp h with h | h
      · exact .inr (List.mem_append_left _ h)
      · rw [List.mem_singleton.mp h]; exact .inl (by rw [or_pow_bit]; simp)
  · rw [hst] at h; cases h

theorem count_dec : ∀ V < 64, ∀ x < 6, V.testBit x = false → (els (V ||| 2 ^ x)).length = (els V).length + 1 := by decide +kernel

theorem dfsM_skip {V x : Nat} {xs : List Nat} : dfsM V xs < dfsM V (xs ++ [x]) := by unfold dfsM; rw [List.length_append, List.length_singleton]; omega
theorem dfsM_visit {V x : Nat} {xs ys : List Nat} (hV : V < 64) (hx : x < 6) (h : V.testBit x = false) (hl : ys.length ≤ 6) : dfsM (V ||| 2 ^ x) (xs ++ ys) < dfsM V (xs ++ [x]) := by
  have h1 := count_dec V hV x hx h
  have h2 := len_dec (V ||| 2 ^ x) (or_lt_dec V hV x hx)
  unfold dfsM
  rw [h1, List.length_append, List.length_append, List.length_singleton]
  rw [h1] at h2
  omega
theorem dfsM_init {V x : Nat} : dfsM V [x] ≤ 49 := by unfold dfsM; simp; omega
theorem dfsM_len {V : Nat} {xs : List Nat} : xs.length ≤ dfsM V xs := by unfold dfsM; omega

/-- what the search gives -/
def Found (adj : Nat → Nat) (V₀ st V : Nat) : Prop := (V₀.testBit st = true → V = V₀) ∧ (V₀.testBit st = false → ∀ i, V.testBit i = true ↔ V₀.testBit i = true ∨ Reach adj V₀ st i)

theorem Dfs.done {adj : Nat → Nat} {many V₀ st V : Nat} (D : Dfs adj many V₀ st V []) : Found adj V₀ st V := by
  refine ⟨fun h => (D.none h).1, fun h i => ⟨D.sound i, fun hi => ?_⟩⟩
  rcases hi with hi | hi
  · exact D.grow i hi
  · induction hi with
    | start => exact D.begun.resolve_right (fun h => nomatch h)
    | @step u v hu hv hs ih =>
      rcases D.full u ih with h0 | h0
      · cases hu with
        | start => rw [h] at h0; cases h0
        | step _ _ hs' => rw [hs'] at h0; cases h0
      · exact (h0 v hv).resolve_right (fun h => nomatch h)
end Mine
end
section
open PySem PySem.W PyProof.Rows PySem.Calls
set_option linter.unusedVariables false
set_option maxHeartbeats 4000000
namespace Mine

local macro_rules | `(tactic| ktr_rel) => `(tactic| first | (with_reducible assumption) | exact setAt_news (by k_asm) (by k_mem) (by k_asm) | exact setAt_base (by k_asm) (by k_asm))
local macro_rules | `(tactic| walk_at "compareOp NotIn int ref") => `(tactic| (k_here; k_dflt (refine' graph_notIn (GraphAt.keep ?G (Fr.keep ?F)) ?_; (case F => k_asm); (case G => k_asm))))
local macro_rules | `(tactic| walk_at "exec While Name cons nil") => `(tactic| refine held ?_)
local macro_rules | `(tactic| walk_at "newList") => `(tactic| (k_here; k_dflt (refine' k_newlist ?F ?N ?z ?_; (case F => k_asm); (case N => k_asm); (case z => decide)); intro d' h' F' N' l1; (try k_lt l1)))
local macro_rules | `(tactic| walk_at "truthy ref") => `(tactic| (k_here; k_dflt (refine' k_truthySet ?S ?_; (case S => ktr_rel))))
local macro_rules | `(tactic| walk_at "call type:set nil nil") => `(tactic| (k_here; k_dflt (refine k_newset (by k_asm) (by k_asm) ?_); intro d' h' o' F' N' l1 hs'; (try k_lt l1)))

local macro_rules | `(tactic| walk_at "truthy ref") => `(tactic| (k_here; k_dflt (first | (refine' k_truthyNil ?N ?h ?_; (case N => k_asm); (case h => k_mem)) | (refine' k_truthySnoc ?N ?h ?z ?_; (case N => k_asm); (case h => k_mem); (case z => omega)))))
local macro_rules | `(tactic| k_all) => `(tactic| first | exact List.forall_mem_nil _ | (refine' List.forall_mem_cons.mpr ⟨?a, ?b⟩; (case a => first | assumption | k_ne); (case b => k_all)))
local macro_rules | `(tactic| walk_at "getMethod ref") => `(tactic| (k_here; (with_reducible show wpAny _ _ (getMethod (Value.ref _) (PySem.Str.ofString "pop") _) _ _ _); k_dflt (refine' k_listmeth ?N ?h PySem.F.slot_list_pop PySem.F.type_list_pop ?_; (case N => k_asm); (case h => k_mem))))
local macro_rules | `(tactic| walk_at "getMethod ref") => `(tactic| (k_here; (with_reducible show wpAny _ _ (getMethod (Value.ref _) (PySem.Str.ofString "extend") _) _ _ _); k_dflt (refine' k_listmeth ?N ?h PySem.F.slot_list_extend PySem.F.type_list_extend ?_; (case N => k_asm); (case h => k_mem))))
local macro_rules | `(tactic| walk_at "getMethod ref") => `(tactic| (k_here; (with_reducible show wpAny _ _ (getMethod (Value.ref _) (PySem.Str.ofString "add") _) _ _ _); k_dflt (refine' k_setmeth ?N ?h ?S ?_; (case N => k_asm); (case h => k_mem); (case S => k_asm))))
local macro_rules | `(tactic| walk_at "call builtin:list.pop") => `(tactic| (k_here; k_dflt (refine' k_pop ?F ?N ?U ?z ?_; (case F => k_asm); (case N => k_asm); (case U => k_updF); (case z => omega)); intro h' n' F' N'; (try dsimp only at N')))
local macro_rules | `(tactic| walk_at "call builtin:list.extend") => `(tactic| (k_here; k_dflt (refine' k_extend ?A ?F ?N ?U ?S ?z ?_; (case A => first | exact rfl | assumption); (case F => k_asm); (case N => k_asm); (case U => k_updF); (case S => ktr_rel); (case z => omega)); intro h' n' vs' xs' F' N' i1 i2 i3; (try dsimp only at N')))
local macro_rules | `(tactic| walk_at "call builtin:set.add") => `(tactic| (k_here; k_dflt (refine' k_setadd ?F ?N ?U ?d ?x ?_; (case F => k_asm); (case N => k_asm); (case U => k_updF); (case d => k_asm); (case x => omega)); intro h' o' F' N' hs'; (try dsimp only at N')))
local macro_rules | `(tactic| walk_at "compareOp In int ref") => `(tactic| (k_here; k_dflt (refine' wp_in ?S ?x ?_; (case S => ktr_rel); (case x => omega))))
local macro_rules | `(tactic| walk_at "subscriptTail") => `(tactic| (k_here; k_dflt (refine' graph_tail (GraphAt.keep ?G (Fr.keep ?F)) ?k ?_; (case F => k_asm); (case G => k_asm); (case k => omega)); intro a' S'))
local macro_rules | `(tactic| walk_at "binaryOp Sub") => `(tactic| (k_here; k_dflt (refine' k_sub ?F ?N ?A ?C ?z ?_; (case F => k_asm); (case N => k_asm); (case A => ktr_rel); (case C => ktr_rel); (case z => assumption)); intro d' h' o' F' N' l1 hs'; (try k_lt l1)))

theorem lookup_ite {y k : Str} {v : Value} {r : List (Str × Value)} : List.lookup y ((k, v) :: r) = if y = k then some v else List.lookup y r := by
  rw [List.lookup_cons]
  by_cases h : y = k
  · subst h; simp
  · have : (y == k) = false := beq_eq_false_iff_ne.mpr h
    simp [this, h]

theorem fcnM_eq {l d ga : Addr} {vv sv : Value} : (fun y => if y = Str.ofString "stack" then some (Value.ref l) else if y = Str.ofString "visited" then some (Value.ref d) else if y = Str.ofString "visited" then some vv else if y = Str.ofString "start" then some sv else if y = Str.ofString "graph" then some (Value.ref ga) else none) =
    fun y => if y = Str.ofString "node" then none else if y = Str.ofString "stack" then some (Value.ref l) else if y = Str.ofString "visited" then some (Value.ref d) else if y = Str.ofString "start" then some sv else if y = Str.ofString "graph" then some (Value.ref ga) else none := by
  funext y
  by_cases h : y = Str.ofString "node"
  · subst h; rfl
  · simp only [if_neg h]
    split
    · rfl
    · split
      · rfl
      · rfl

theorem fcn_fr {g h : Heap} {L' l d ga : Addr} {vv sv : Value} (F : Fr g L' h (fun y => if y = Str.ofString "stack" then some (Value.ref l) else if y = Str.ofString "visited" then some (Value.ref d) else List.lookup y [(Str.ofString "visited", vv), (Str.ofString "start", sv), (Str.ofString "graph", Value.ref ga)])) :
    Fr g L' h (fun y => if y = Str.ofString "node" then none else if y = Str.ofString "stack" then some (Value.ref l) else if y = Str.ofString "visited" then some (Value.ref d) else if y = Str.ofString "start" then some sv else if y = Str.ofString "graph" then some (Value.ref ga) else none) := by
  have e := fcnM_eq (l := l) (d := d) (ga := ga) (vv := vv) (sv := sv)
  rw [← e]
  simpa only [lookup_ite, List.lookup_nil] using F

theorem none_of {g h : Heap} {d : Addr} {l : List Addr} (hg : g.get? d = none) (k : ∀ b o, h.get? b = some o → b ∉ l → g.get? b = some o) (hd : d ∉ l) : h.get? d = none := by
  cases e : h.get? d with
  | none => rfl
  | some o => rw [k d o e hd] at hg; cases hg

def FcnPre (w : World) (g : Heap) (L' : Addr) (h : Heap) (V : Nat) (ga : Addr) (st : Nat) (tk : Tok) (old : Addr → Prop) : Prop :=
  ∃ (l9 d9 : Addr) (so₀ : Obj), d9 ≠ l9 ∧ old d9 ∧ SetB w V so₀ ∧ News g L' h [(l9, lst #[.int (Int.ofNat st) tk] 0), (d9, so₀)] ∧
    Fr g L' h (fun y => if y = Str.ofString "node" then none else if y = Str.ofString "stack" then some (Value.ref l9) else if y = Str.ofString "visited" then some (Value.ref d9) else if y = Str.ofString "start" then some (.int (Int.ofNat st) tk) else if y = Str.ofString "graph" then some (Value.ref ga) else none)

theorem fcn {w : World} {A A₀ : Around} {s : Shared} {base h₀ : Heap} {outer : List Env} {L : Addr} {m : Str → Option Value} {env : Env}
  {mean : ExcName → Option Value} {mg mb : Str → Option Value} {Q E : Value → Shared → Prop} {ga : Addr} {st : Nat} {tks : Tok} {args : List Value} {hid : List (Addr × Obj)} {many V : Nat} {adj : Nat → Nat}
  (B : Below A₀ base outer h₀) (F : Fr h₀ L s.heap m) (X₀ : (Mine.hd.heap_39 w.params).In h₀) (N : News h₀ L s.heap hid)
  (T : Top Mine.hd.view_39 (looseW Mine.hd.view_39 [Str.ofString "find_connected_nodes"]) mean mg mb h₀) (hA : A.frames = some (env :: outer)) (hf : env.frame = some L) (hke : env.scope.kind = .function)
  (hroom : A.depth < recursionLimit) (hhd : A.handled = none)
  (hargs : (args = [.ref ga, .int (Int.ofNat st) tks] ∧ hid = [] ∧ V = 0) ∨ ∃ va so, args = [.ref ga, .int (Int.ofNat st) tks, .ref va] ∧ hid = [(va, so)] ∧ SetB w V so)
  (G : ∀ h', (∀ b o, s.heap.get? b = some o → b ∉ hid.map (·.1) → h'.get? b = some o) → GraphAt PySem.Challenge.rw_fb0020_01.row.prog w h' ga many adj) (hst : st < many)
  (ret : ∀ ra h' tk' so' V', (∀ b o, s.heap.get? b = some o → b ∉ hid.map (·.1) → h'.get? b = some o) → h'.get? ra = some so' → SetB w V' so' → Found adj V st V' → (ra ∈ hid.map (·.1) ∨ s.heap.get? ra = none) → Q (.ref ra) { s with heap := h', toks := tk' }) :
  wpAny (model PySem.Challenge.rw_fb0020_01.row.prog w) A (call (.ref 47) args) Q E s := by
  revert X₀; k_fill; intro X₀
  rcases hargs with ⟨rfl, rfl, hV0⟩ | ⟨va, so, rfl, rfl, hV⟩
  all_goals (
    k_dflt (refine' call_hid (K := Mine.hd.heap_39 w.params) B F X₀ N T hA hf hke ?k6 ?k7 hroom ?k9 ?kB ?_ ?c2 ?c3 ?c4 ?c5)
    case k6 => k_is
    case k7 => k_is
    case k9 => exact binds_K (by k_in) rfl (by k_is) rfl rfl rfl
    case c5 => decide
    case kB => exact locs rfl
    case c2 => exact rfl
    case c3 => exact rfl
    case c4 => exact rfl
    intro g L' h' keepG backG F' N' B' X' T' ltG
    have Gg := G g keepG
    have h6 := Gg.le
    dsimp only
    clear F N X₀ T B G
    k_steps)
  all_goals (unfold Held; rename Fr _ _ _ _ => F1; rename News _ _ _ _ => N1)
  · rename SetB _ _ _ => S1
    have pack : FcnPre w g L' _ V ga st tks (fun d => d ∈ ([] : List (Addr × Obj)).map (·.1) ∨ s.heap.get? d = none) := ⟨_, _, _, by k_ne, .inr (none_of (N1 _ (.tail _ (.head _))).2.2 keepG (fun h => nomatch h)), hV0.symm ▸ S1, N1, fcn_fr (vv := .none) F1⟩
    clear F1 N1 S1
    obtain ⟨l9, d9, so₀, hne, hold, S1, N1, F1⟩ := pack
    replace hne := neN hne
    refine While_inv2 (n₀ := dfsM V [st]) (fun n m₁ news₁ => n ≤ 49 ∧ ∃ (V' : Nat) (so : Obj) (ys : List Value) (xs : List Nat) (k : Nat) (vn : Option Value),
        (m₁ = fun y => if y = Str.ofString "node" then vn else if y = Str.ofString "stack" then some (Value.ref l9) else if y = Str.ofString "visited" then some (Value.ref d9) else if y = Str.ofString "start" then some (.int (Int.ofNat st) tks) else if y = Str.ofString "graph" then some (.ref ga) else none) ∧
        news₁ = [(l9, lst ys.toArray k), (d9, so)] ∧ SetB w V' so ∧ IntsAre ys (xs.map Int.ofNat) ∧ Dfs adj many V st V' xs ∧ n = dfsM V' xs) F1 N1 ?_ ?_ passes_false
    · exact ⟨dfsM_init, V, so₀, _, [st], 0, none, rfl, rfl, S1, .cons _ _ .nil, Dfs.init S1.lt hst, rfl⟩
    · clear F1 N1
      rintro n m₁ news₁ h₁ tk₁ F2 N2 ⟨hn, V', so', ys, xs, k, vn, rfl, rfl, S, hI, D, rfl⟩
      have hlen := hI.length
      have hle := dfsM_len (V := V') (xs := xs)
      rcases List.eq_nil_or_concat xs with rfl | ⟨ws, x, rfl⟩
      · obtain rfl := ints_nil hI
        k_steps
        refine ret d9 _ _ so' V' (fun b o e hb => F2.keep b o (keepG b o e hb)) (N2 _ (.tail _ (.head _))).1 S D.done hold
      · rw [List.concat_eq_append] at hI D hlen hle hn ⊢
        rw [List.map_append] at hI
        obtain ⟨ys', t, rfl, hI'⟩ := ints_concat hI
        have hx := D.bound x (by simp)
        have hor := or_pow_ne V' x
        simp only [List.length_append, List.length_map, List.length_cons, List.length_nil] at hlen hle
        k_steps
        · dsimp only [WhileStep2]
          rename Fr _ _ _ _ => F3; rename News _ _ _ _ => N3
          rename V'.testBit x = true => hin
          rw [shadow] at F3
          exact ⟨_, _, _, _, dfsM V' ws, rfl, F3, N3, dfsM_skip, Nat.le_trans (Nat.le_of_lt dfsM_skip) hn, V', so', ys', ws, _, _, rfl, rfl, S, hI', D.skip hin, rfl⟩
        · dsimp only [WhileStep2]
          rename Fr _ _ _ _ => F3; rename News _ _ _ _ => N3
          rename V'.testBit x = false => hin
          rename IntsAre _ _ => j1; rename ∀ x, _ ↔ _ => j2; rename _ ≤ 6 => j3
          rename SetB w (V' ||| 2 ^ x) _ => S3
          rw [shadow] at F3
          have hys : ∀ y, y ∈ _ ↔ y < 6 ∧ (adj x).testBit y = true ∧ (V' ||| 2 ^ x).testBit y = false := fun y => (j2 y).trans (less_mem (Gg.lt64 hx) S3.lt)
          exact ⟨_, _, _, _, dfsM (V' ||| 2 ^ x) (ws ++ _), rfl, F3, News.sub N3 (fun p hp => List.mem_cons_of_mem _ hp), dfsM_visit D.lt (by omega) hin j3, Nat.le_trans (Nat.le_of_lt (dfsM_visit D.lt (by omega) hin j3)) hn, V' ||| 2 ^ x, _, _, ws ++ _, _, _, rfl, rfl, S3, by rw [List.map_append]; exact ints_append hI' j1, D.visit h6 Gg.sub hin hys, rfl⟩
  · have pack : FcnPre w g L' _ V ga st tks (fun d => d ∈ [(va, so)].map (·.1) ∨ s.heap.get? d = none) := ⟨_, _, _, by k_ne, .inl (.head _), hV, N1, fcn_fr (vv := .ref va) F1⟩
    clear F1 N1
    obtain ⟨l9, d9, so₀, hne, hold, S1, N1, F1⟩ := pack
    replace hne := neN hne
    refine While_inv2 (n₀ := dfsM V [st]) (fun n m₁ news₁ => n ≤ 49 ∧ ∃ (V' : Nat) (so : Obj) (ys : List Value) (xs : List Nat) (k : Nat) (vn : Option Value),
        (m₁ = fun y => if y = Str.ofString "node" then vn else if y = Str.ofString "stack" then some (Value.ref l9) else if y = Str.ofString "visited" then some (Value.ref d9) else if y = Str.ofString "start" then some (.int (Int.ofNat st) tks) else if y = Str.ofString "graph" then some (.ref ga) else none) ∧
        news₁ = [(l9, lst ys.toArray k), (d9, so)] ∧ SetB w V' so ∧ IntsAre ys (xs.map Int.ofNat) ∧ Dfs adj many V st V' xs ∧ n = dfsM V' xs) F1 N1 ?_ ?_ passes_false
    · exact ⟨dfsM_init, V, so₀, _, [st], 0, none, rfl, rfl, S1, .cons _ _ .nil, Dfs.init S1.lt hst, rfl⟩
    · clear F1 N1
      rintro n m₁ news₁ h₁ tk₁ F2 N2 ⟨hn, V', so', ys, xs, k, vn, rfl, rfl, S, hI, D, rfl⟩
      have hlen := hI.length
      have hle := dfsM_len (V := V') (xs := xs)
      rcases List.eq_nil_or_concat xs with rfl | ⟨ws, x, rfl⟩
      · obtain rfl := ints_nil hI
        k_steps
        refine ret d9 _ _ so' V' (fun b o e hb => F2.keep b o (keepG b o e hb)) (N2 _ (.tail _ (.head _))).1 S D.done hold
      · rw [List.concat_eq_append] at hI D hlen hle hn ⊢
        rw [List.map_append] at hI
        obtain ⟨ys', t, rfl, hI'⟩ := ints_concat hI
        have hx := D.bound x (by simp)
        have hor := or_pow_ne V' x
        simp only [List.length_append, List.length_map, List.length_cons, List.length_nil] at hlen hle
        k_steps
        · dsimp only [WhileStep2]
          rename Fr _ _ _ _ => F3; rename News _ _ _ _ => N3
          rename V'.testBit x = true => hin
          rw [shadow] at F3
          exact ⟨_, _, _, _, dfsM V' ws, rfl, F3, N3, dfsM_skip, Nat.le_trans (Nat.le_of_lt dfsM_skip) hn, V', so', ys', ws, _, _, rfl, rfl, S, hI', D.skip hin, rfl⟩
        · dsimp only [WhileStep2]
          rename Fr _ _ _ _ => F3; rename News _ _ _ _ => N3
          rename V'.testBit x = false => hin
          rename IntsAre _ _ => j1; rename ∀ x, _ ↔ _ => j2; rename _ ≤ 6 => j3
          rename SetB w (V' ||| 2 ^ x) _ => S3
          rw [shadow] at F3
          have hys : ∀ y, y ∈ _ ↔ y < 6 ∧ (adj x).testBit y = true ∧ (V' ||| 2 ^ x).testBit y = false := fun y => (j2 y).trans (less_mem (Gg.lt64 hx) S3.lt)
          exact ⟨_, _, _, _, dfsM (V' ||| 2 ^ x) (ws ++ _), rfl, F3, News.sub N3 (fun p hp => List.mem_cons_of_mem _ hp), dfsM_visit D.lt (by omega) hin j3, Nat.le_trans (Nat.le_of_lt (dfsM_visit D.lt (by omega) hin j3)) hn, V' ||| 2 ^ x, _, _, ws ++ _, _, _, rfl, rfl, S3, by rw [List.map_append]; exact ints_append hI' j1, D.visit h6 Gg.sub hin hys, rfl⟩
  · rename SetB w 0 _ => S1
    rename va < _ => hlt
    have hV0 : V = 0 := by omega
    have pack : FcnPre w g L' _ V ga st tks (fun d => d ∈ [(va, so)].map (·.1) ∨ s.heap.get? d = none) := ⟨_, _, _, by k_ne, .inr (none_of (N1 _ (.tail _ (.head _))).2.2 keepG (fun h => absurd (List.mem_singleton.mp h) (Nat.ne_of_gt hlt))), hV0.symm ▸ S1, News.sub N1 (by simp), fcn_fr (vv := .ref va) F1⟩
    clear F1 N1 S1
    obtain ⟨l9, d9, so₀, hne, hold, S1, N1, F1⟩ := pack
    replace hne := neN hne
    refine While_inv2 (n₀ := dfsM V [st]) (fun n m₁ news₁ => n ≤ 49 ∧ ∃ (V' : Nat) (so : Obj) (ys : List Value) (xs : List Nat) (k : Nat) (vn : Option Value),
        (m₁ = fun y => if y = Str.ofString "node" then vn else if y = Str.ofString "stack" then some (Value.ref l9) else if y = Str.ofString "visited" then some (Value.ref d9) else if y = Str.ofString "start" then some (.int (Int.ofNat st) tks) else if y = Str.ofString "graph" then some (.ref ga) else none) ∧
        news₁ = [(l9, lst ys.toArray k), (d9, so)] ∧ SetB w V' so ∧ IntsAre ys (xs.map Int.ofNat) ∧ Dfs adj many V st V' xs ∧ n = dfsM V' xs) F1 N1 ?_ ?_ passes_false
    · exact ⟨dfsM_init, V, so₀, _, [st], 0, none, rfl, rfl, S1, .cons _ _ .nil, Dfs.init S1.lt hst, rfl⟩
    · clear F1 N1
      rintro n m₁ news₁ h₁ tk₁ F2 N2 ⟨hn, V', so', ys, xs, k, vn, rfl, rfl, S, hI, D, rfl⟩
      have hlen := hI.length
      have hle := dfsM_len (V := V') (xs := xs)
      rcases List.eq_nil_or_concat xs with rfl | ⟨ws, x, rfl⟩
      · obtain rfl := ints_nil hI
        k_steps
        refine ret d9 _ _ so' V' (fun b o e hb => F2.keep b o (keepG b o e hb)) (N2 _ (.tail _ (.head _))).1 S D.done hold
      · rw [List.concat_eq_append] at hI D hlen hle hn ⊢
        rw [List.map_append] at hI
        obtain ⟨ys', t, rfl, hI'⟩ := ints_concat hI
        have hx := D.bound x (by simp)
        have hor := or_pow_ne V' x
        simp only [List.length_append, List.length_map, List.length_cons, List.length_nil] at hlen hle
        k_steps
        · dsimp only [WhileStep2]
          rename Fr _ _ _ _ => F3; rename News _ _ _ _ => N3
          rename V'.testBit x = true => hin
          rw [shadow] at F3
          exact ⟨_, _, _, _, dfsM V' ws, rfl, F3, N3, dfsM_skip, Nat.le_trans (Nat.le_of_lt dfsM_skip) hn, V', so', ys', ws, _, _, rfl, rfl, S, hI', D.skip hin, rfl⟩
        · dsimp only [WhileStep2]
          rename Fr _ _ _ _ => F3; rename News _ _ _ _ => N3
          rename V'.testBit x = false => hin
          rename IntsAre _ _ => j1; rename ∀ x, _ ↔ _ => j2; rename _ ≤ 6 => j3
          rename SetB w (V' ||| 2 ^ x) _ => S3
          rw [shadow] at F3
          have hys : ∀ y, y ∈ _ ↔ y < 6 ∧ (adj x).testBit y = true ∧ (V' ||| 2 ^ x).testBit y = false := fun y => (j2 y).trans (less_mem (Gg.lt64 hx) S3.lt)
          exact ⟨_, _, _, _, dfsM (V' ||| 2 ^ x) (ws ++ _), rfl, F3, News.sub N3 (fun p hp => List.mem_cons_of_mem _ hp), dfsM_visit D.lt (by omega) hin j3, Nat.le_trans (Nat.le_of_lt (dfsM_visit D.lt (by omega) hin j3)) hn, V' ||| 2 ^ x, _, _, ws ++ _, _, _, rfl, rfl, S3, by rw [List.map_append]; exact ints_append hI' j1, D.visit h6 Gg.sub hin hys, rfl⟩
end Mine
end
section
open PySem PySem.W PyProof.Rows PySem.Calls
set_option linter.unusedVariables false
set_option maxHeartbeats 4000000
set_option linter.unusedVariables false
namespace Mine
section
variable {prog : Program} {w : World} {A : Around} {E : Value → Shared → Prop} {s : Shared} {env : Env} {h₀ : Heap} {x : Str} {px : Pos} {body : List Stmt} {R : Result → Shared → Prop}

/-- how a turn of a for ends -/
def TurnEnd (h₀ : Heap) (L I : Addr) (oI : Obj) (J : (Str → Option Value) → List (Addr × Obj) → Prop) (s : Shared) (R : Result → Shared → Prop) (f : Flow) (s₂ : Shared) : Prop :=
  match f with
  | .ret v => R (.ok (.ret v)) s₂
  | .brk => R (.ok .next) s₂
  | _ => ∃ h' tk' m' news', s₂ = { s with heap := h', toks := tk' } ∧ Fr h₀ L h' m' ∧ News h₀ L h' ((I, oI) :: news') ∧ (∀ p ∈ news', p.1 ≠ I) ∧ J m' news'

theorem loop_walk {I a : Addr} {n : Nat} {P : Nat → Value → Prop} {St : Nat → Heap → Prop} {oa oI : Obj} {m : Str → Option Value} {news : List (Addr × Obj)}
    (W : Walks prog w A I [I, a] [I] n P St) (live : ∀ i h, St i h → ∃ o, h.get? I = some o) (hx : env.kindOf x = some .local)
    (hp : (env.scope.kind == .class || (env.scope.kind == .module && env.locals != env.globals)) = false)
    (F : Fr h₀ env.locals s.heap m) (N : News h₀ env.locals s.heap ((I, oI) :: news)) (hIn : ∀ p ∈ news, p.1 ≠ I) (hst : St 0 s.heap)
    (J : Nat → (Str → Option Value) → List (Addr × Obj) → Prop) (hJ : J 0 m news) (hkeep : ∀ i m₁ news₁, J i m₁ news₁ → (a, oa) ∈ news₁)
    (turn : ∀ i v m₁ news₁ h tk oI', i < n → P i v → J i m₁ news₁ → (∀ p ∈ news₁, p.1 ≠ I) → Fr h₀ env.locals h (fun y => if y = x then some v else m₁ y) → News h₀ env.locals h ((I, oI') :: news₁) →
      wpAny (model prog w) A (execs body env) (TurnEnd h₀ env.locals I oI' (J (i + 1)) s R) (fun _ _ => False) { s with heap := h, toks := tk })
    (done : ∀ m₁ news₁ h tk, J n m₁ news₁ → Fr h₀ env.locals h m₁ → News h₀ env.locals h news₁ → R (.ok .next) { s with heap := h, toks := tk }) :
    codeAny (model prog w) A (.forLoop (.Name x px) (.ref I) body [] env) R s := by
  have hI0 := (N (I, oI) (.head _)).2
  refine codeAny_forLoop
    (fun k s' => ∃ h' tk m' news' i, s' = { s with heap := h', toks := tk } ∧ St i h' ∧ Fr h₀ env.locals h' m' ∧ News h₀ env.locals h' news' ∧ (∀ p ∈ news', p.1 ≠ I) ∧ J i m' news' ∧ i ≤ n ∧ k = n + 1 - i) ?_ (n + 1)
    ⟨s.heap, s.toks, m, news, 0, rfl, hst, F, fun p hp => N p (.tail _ hp), hIn, hJ, Nat.zero_le _, rfl⟩
  rintro k s' ⟨h', tk, m', news', i, rfl, hst', F', N', hn', hJ', hi, rfl⟩
  have next : ∀ h₁ : Heap, (∀ b o, b ∉ [I] → h'.get? b = some o → h₁.get? b = some o) → Fr h₀ env.locals h₁ m' ∧ News h₀ env.locals h₁ news' := fun h₁ hk₁ =>
    ⟨⟨F'.ns.at' fun o e => hk₁ _ o (fun hm => hI0.1 (List.mem_singleton.mp hm).symm) e, fun b o e => hk₁ b o (fun hm => by rw [List.mem_singleton.mp hm, hI0.2] at e; cases e) (F'.keep b o e), F'.above⟩,
      fun p hp => ⟨hk₁ _ _ (fun hm => hn' p hp (List.mem_singleton.mp hm)) (N' p hp).1, (N' p hp).2⟩⟩
  by_cases hlt : i < n
  · refine W.item i _ _ _ hlt hst' fun v h₁ tk₁ hP hst₁ hk₁ => ?_
    obtain ⟨F₁, N₁⟩ := next h₁ hk₁
    obtain ⟨oI', hoI'⟩ := live _ _ hst₁
    refine wpAny_assign_Name (wpAny_storeName_local hx F₁.ns (fun h₂ hn₂ hs₂ => ?_) hp)
    have F₂ := F₁.set hn₂ hs₂
    have N₂ : News h₀ env.locals h₂ ((I, oI') :: news') := fun p hp => by
      rcases List.mem_cons.mp hp with rfl | hp
      · exact ⟨(hs₂.2 I hI0.1).trans hoI', hI0⟩
      · exact (N₁.set hs₂) p hp
    have hst₂ : St (i + 1) h₂ := W.frame _ _ _ hst₁ fun b hb o e => by
      have ha := hkeep _ _ _ hJ'
      rcases List.mem_cons.mp hb with rfl | hb
      · exact (hs₂.2 b hI0.1).trans e
      · rw [List.mem_singleton.mp hb] at e ⊢
        exact (hs₂.2 a (N₁ _ ha).2.1).trans e
    refine wpAny_mono (turn i v m' news' _ _ oI' hlt hP hJ' hn' F₂ N₂) (fun f s₃ hTE => ?_) fun _ _ e => e.elim
    have fin : (∃ h' tk' m' news', s₃ = { s with heap := h', toks := tk' } ∧ Fr h₀ env.locals h' m' ∧ News h₀ env.locals h' ((I, oI') :: news') ∧ (∀ p ∈ news', p.1 ≠ I) ∧ J (i + 1) m' news') →
        ∃ k', k' < n + 1 - i ∧ ∃ h' tk m' news' i, s₃ = { s with heap := h', toks := tk } ∧ St i h' ∧ Fr h₀ env.locals h' m' ∧ News h₀ env.locals h' news' ∧ (∀ p ∈ news', p.1 ≠ I) ∧ J i m' news' ∧ i ≤ n ∧ k' = n + 1 - i := by
      rintro ⟨h₃, tk₃, m₃, news₃, rfl, F₃, N₃, hn₃, hJ₃⟩
      refine ⟨n + 1 - (i + 1), by omega, h₃, tk₃, m₃, news₃, i + 1, rfl, ?_, F₃, fun p hp => N₃ p (.tail _ hp), hn₃, hJ₃, hlt, rfl⟩
      refine W.frame _ _ _ hst₂ fun b hb o e => ?_
      rcases List.mem_cons.mp hb with rfl | hb
      · rw [(N₂ _ (.head _)).1] at e
        rw [(N₃ _ (.head _)).1]; exact e
      · rw [List.mem_singleton.mp hb] at e ⊢
        have ha := hkeep _ _ _ hJ'
        have ha' := hkeep _ _ _ hJ₃
        rw [(N₂ _ (.tail _ ha)).1] at e
        rw [(N₃ _ (.tail _ ha')).1]; exact e
    cases f with
    | ret v => exact hTE
    | brk => exact hTE
    | next => exact fin hTE
    | cont => exact fin hTE
  · have hin : i = n := by omega
    subst hin
    refine W.done _ _ _ hst' fun h₁ tk₁ hk₁ => wpAny_execs_nil ?_
    obtain ⟨F₁, N₁⟩ := next h₁ hk₁
    exact done m' news' h₁ tk₁ hJ' F₁ N₁
end
end Mine
end
section
open PySem PySem.W PyProof.Rows PySem.Calls
set_option linter.unusedVariables false
set_option maxHeartbeats 4000000
set_option linter.unusedVariables false
namespace Mine
theorem ints_getElem {vs : List Value} {ns : List Int} (h : IntsAre vs ns) {i : Nat} {v : Value} (e : vs[i]? = some v) : ∃ n t, ns[i]? = some n ∧ v = .int n t := by
  induction h generalizing i with
  | nil => simp at e
  | cons n t _ ih =>
    cases i with
    | zero => simp only [List.getElem?_cons_zero, Option.some.injEq] at e; subst e; exact ⟨n, t, rfl, rfl⟩
    | succ j => simp only [List.getElem?_cons_succ] at e ⊢; exact ih e

theorem split_at {xs : List Nat} {i x : Nat} (h : xs[i]? = some x) : xs = xs.take i ++ x :: xs.drop (i + 1) ∧ xs.take (i + 1) = xs.take i ++ [x] := by
  obtain ⟨hlt, e⟩ := List.getElem?_eq_some_iff.mp h
  subst e
  refine ⟨?_, by simp [List.take_append_getElem]⟩
  rw [List.getElem_cons_drop]; exact (List.take_append_drop i xs).symm

section
variable {prog : Program} {w : World} {A : Around} {E : Value → Shared → Prop} {s : Shared} {env : Env} {h₀ : Heap} {x : Str} {px : Pos} {body : List Stmt} {R : Result → Shared → Prop}

theorem loop_ints {I a : Addr} {xs : List Nat} {P : Nat → Value → Prop} {St : Nat → Heap → Prop} {oa oI : Obj} {m : Str → Option Value} {news : List (Addr × Obj)}
    (W : Walks prog w A I [I, a] [I] xs.length P St) (hP : ∀ i v, P i v → ∃ x tk, xs[i]? = some x ∧ v = .int (Int.ofNat x) tk) (live : ∀ i h, St i h → ∃ o, h.get? I = some o) (hx : env.kindOf x = some .local)
    (hp : (env.scope.kind == .class || (env.scope.kind == .module && env.locals != env.globals)) = false)
    (F : Fr h₀ env.locals s.heap m) (N : News h₀ env.locals s.heap ((I, oI) :: news)) (hIn : ∀ p ∈ news, p.1 ≠ I) (hst : St 0 s.heap)
    (J : List Nat → (Str → Option Value) → List (Addr × Obj) → Prop) (hJ : J [] m news) (hkeep : ∀ i m₁ news₁, J i m₁ news₁ → (a, oa) ∈ news₁)
    (turn : ∀ pre z post zt m₁ news₁ h tk oI', xs = pre ++ z :: post → J pre m₁ news₁ → (∀ p ∈ news₁, p.1 ≠ I) → Fr h₀ env.locals h (fun y => if y = x then some (.int (Int.ofNat z) zt) else m₁ y) → News h₀ env.locals h ((I, oI') :: news₁) →
      wpAny (model prog w) A (execs body env) (TurnEnd h₀ env.locals I oI' (J (pre ++ [z])) s R) (fun _ _ => False) { s with heap := h, toks := tk })
    (done : ∀ m₁ news₁ h tk, J xs m₁ news₁ → Fr h₀ env.locals h m₁ → News h₀ env.locals h news₁ → R (.ok .next) { s with heap := h, toks := tk }) :
    codeAny (model prog w) A (.forLoop (.Name x px) (.ref I) body [] env) R s := by
  refine loop_walk W live hx hp F N hIn hst (fun i => J (xs.take i)) (by simpa using hJ) (fun i => hkeep _) ?_ (by simpa using done)
  intro i v m₁ news₁ h tk oI' hi hv hJ' hne F' N'
  obtain ⟨z, zt, hz, rfl⟩ := hP i v hv
  obtain ⟨e1, e2⟩ := split_at hz
  have := turn _ z _ zt m₁ news₁ h tk oI' e1 hJ' hne F' N'
  rw [← e2] at this
  exact this

theorem for_list {l : Addr} {xs : List Nat} {vs : List Value} {c : Nat} {m : Str → Option Value} {news : List (Addr × Obj)} (hh : A.handled = none)
    (F : Fr h₀ env.locals s.heap m) (N : News h₀ env.locals s.heap news) (hm : (l, lst vs.toArray c) ∈ news) (hI : IntsAre vs (xs.map Int.ofNat)) (hx : env.kindOf x = some .local)
    (hp : (env.scope.kind == .class || (env.scope.kind == .module && env.locals != env.globals)) = false)
    (J : List Nat → (Str → Option Value) → List (Addr × Obj) → Prop) (hJ : J [] m news) (hkeep : ∀ i m₁ news₁, J i m₁ news₁ → (l, lst vs.toArray c) ∈ news₁)
    (turn : ∀ I pre z post zt m₁ news₁ h tk oI', xs = pre ++ z :: post → J pre m₁ news₁ → (∀ p ∈ news₁, p.1 ≠ I) → (∀ p ∈ news, p.1 < I) → Fr h₀ env.locals h (fun y => if y = x then some (.int (Int.ofNat z) zt) else m₁ y) → News h₀ env.locals h ((I, oI') :: news₁) →
      wpAny (model prog w) A (execs body env) (TurnEnd h₀ env.locals I oI' (J (pre ++ [z])) s R) (fun _ _ => False) { s with heap := h, toks := tk })
    (done : ∀ m₁ news₁ h tk, J xs m₁ news₁ → Fr h₀ env.locals h m₁ → News h₀ env.locals h news₁ → R (.ok .next) { s with heap := h, toks := tk }) :
    wpAny (model prog w) A (pyIter (.ref l)) (fun it s₂ => codeAny (model prog w) A (.forLoop (.Name x px) it body [] env) R s₂) E s := by
  have hl : s.heap.IsList l vs.toArray := ⟨_, N.get hm, rfl, c, rfl⟩
  have hlt : l < s.heap.objs.size := Heap.lt_size (N.get hm)
  refine wpAny_pyIter_list hl ?_
  let oI : Obj := { cls := .type "list_iterator", data := .fields #[.ref l, .int 0 0] }
  have M : Made s.heap (s.heap.push oI) oI := ⟨fun _ _ e => Heap.get?_push_of_some _ e, Heap.get?_push_size _ rfl⟩
  have W := Walks.list (prog := prog) (w := w) hh s.heap.objs.size l (Nat.ne_of_lt hlt) vs.toArray
  have hsz : vs.toArray.size = xs.length := by simpa using hI.length
  rw [hsz] at W
  refine loop_ints (s := { s with heap := s.heap.push oI }) (oI := oI) (oa := lst vs.toArray c) W ?_ (fun i h st => let ⟨o, e, _⟩ := st.1; ⟨o, e⟩) hx hp (M.mk'.fr F) (M.mk'.news F N) (fun p hp => Nat.ne_of_lt (M.mk'.lt N p hp)) ⟨⟨_, M.at_, rfl, rfl⟩, hl.at fun o e => M.keep _ _ e⟩
    J hJ hkeep (fun pre z post zt m₁ news₁ h tk oI' e j hne F' N' => turn _ pre z post zt m₁ news₁ h tk oI' e j hne (fun p hp => M.mk'.lt N p hp) F' N') done
  intro i v hv
  have hv' : vs[i]? = some v := by simpa using hv
  obtain ⟨n, t, h1, rfl⟩ := ints_getElem hI hv'
  rw [List.getElem?_map] at h1
  cases hx' : xs[i]? with
  | none => rw [hx'] at h1; cases h1
  | some z => rw [hx'] at h1; injection h1 with h1; subst h1; exact ⟨z, t, rfl, rfl⟩

theorem for_set {a : Addr} {b : Nat} {o : Obj} {m : Str → Option Value} {news : List (Addr × Obj)} (hh : A.handled = none)
    (F : Fr h₀ env.locals s.heap m) (N : News h₀ env.locals s.heap news) (hm : (a, o) ∈ news) (S : SetB w b o) (hx : env.kindOf x = some .local)
    (hp : (env.scope.kind == .class || (env.scope.kind == .module && env.locals != env.globals)) = false)
    (J : List Nat → (Str → Option Value) → List (Addr × Obj) → Prop) (hJ : J [] m news) (hkeep : ∀ i m₁ news₁, J i m₁ news₁ → (a, o) ∈ news₁)
    (turn : ∀ I xs pre z post zt m₁ news₁ h tk oI', xs.Perm (els b) → xs = pre ++ z :: post → J pre m₁ news₁ → (∀ p ∈ news₁, p.1 ≠ I) → (∀ p ∈ news, p.1 < I) → Fr h₀ env.locals h (fun y => if y = x then some (.int (Int.ofNat z) zt) else m₁ y) → News h₀ env.locals h ((I, oI') :: news₁) →
      wpAny (model prog w) A (execs body env) (TurnEnd h₀ env.locals I oI' (J (pre ++ [z])) s R) (fun _ _ => False) { s with heap := h, toks := tk })
    (done : ∀ xs m₁ news₁ h tk, xs.Perm (els b) → J xs m₁ news₁ → Fr h₀ env.locals h m₁ → News h₀ env.locals h news₁ → R (.ok .next) { s with heap := h, toks := tk }) :
    wpAny (model prog w) A (pyIter (.ref a)) (fun it s₂ => codeAny (model prog w) A (.forLoop (.Name x px) it body [] env) R s₂) E s := by
  have hlt : a < s.heap.objs.size := Heap.lt_size (N.get hm)
  refine pyIter_set (N.get hm) S fun es ep t hd he M => ?_
  have W := Walks.set (prog := prog) (w := w) (I := s.heap.objs.size) hh S hd he (Nat.ne_of_lt hlt)
  have hperm := walkOf_perm w a ep es
  let xs : List Nat := (walkOf w a ep es).toList.map fun p => p.1.toNat
  have hxs : xs.Perm (els b) := by
    have h2 := (hperm.map fun p => p.1).trans (List.Perm.of_eq he.1)
    have h3 := h2.map Int.toNat
    have e : (hs b).map Int.toNat = els b := by
      unfold hs
      rw [List.map_map]
      conv => rhs; rw [← List.map_id (els b)]
      exact List.map_congr_left fun n _ => rfl
    rw [e, List.map_map] at h3
    exact h3
  rw [← hxs.length_eq] at W
  refine loop_ints (s := { s with heap := s.heap.push _ }) (oa := o) W ?_ (fun i h st => ⟨_, st.it⟩) hx hp (M.mk'.fr F) (M.mk'.news F N) (fun p hp => Nat.ne_of_lt (M.mk'.lt N p hp)) ⟨M.at_, M.keep _ _ (N.get hm)⟩
    J hJ hkeep (fun pre z post zt m₁ news₁ h tk oI' e j hne F' N' => turn _ xs pre z post zt m₁ news₁ h tk oI' hxs e j hne (fun p hp => M.mk'.lt N p hp) F' N') (fun m₁ news₁ h tk => done xs m₁ news₁ h tk hxs)
  rintro i v ⟨z, tk, _, _, hw, rfl⟩
  refine ⟨z, tk, ?_, rfl⟩
  show ((walkOf w a ep es).toList.map fun p => p.1.toNat)[i]? = some z
  rw [List.getElem?_map, Array.getElem?_toList, hw]; rfl
end
end Mine
end
section
open PySem PySem.W PyProof.Rows PySem.Calls
set_option linter.unusedVariables false
set_option maxHeartbeats 4000000
namespace Mine

/-- a walk of d steps from st, not into seen -/
inductive WalkTo (adj : Nat → Nat) (seen st : Nat) : Nat → Nat → Prop
  | zero : WalkTo adj seen st 0 st
  | succ {d u v : Nat} : WalkTo adj seen st d u → (adj u).testBit v = true → seen.testBit v = false → WalkTo adj seen st (d + 1) v

theorem walk_reach {adj : Nat → Nat} {seen st d v : Nat} (h : WalkTo adj seen st d v) : Reach adj seen st v := by
  induction h with
  | zero => exact .start
  | succ _ a b ih => exact .step ih a b
theorem reach_walk {adj : Nat → Nat} {seen st v : Nat} (h : Reach adj seen st v) : ∃ d, WalkTo adj seen st d v := by
  induction h with
  | start => exact ⟨0, .zero⟩
  | step _ a b ih => obtain ⟨d, w⟩ := ih; exact ⟨d + 1, .succ w a b⟩

def Dist (adj : Nat → Nat) (seen st v d : Nat) : Prop := WalkTo adj seen st d v ∧ ∀ d', WalkTo adj seen st d' v → d ≤ d'

theorem bit_small {x y n : Nat} (hx : x < 2 ^ n) (h : x.testBit y = true) : y < n := by
  rcases Nat.lt_or_ge y n with h' | h'
  · exact h'
  · rw [Nat.testBit_lt_two_pow (Nat.lt_of_lt_of_le hx (Nat.pow_le_pow_right (by omega) h'))] at h; cases h

/-- the state of the plain layered search at a layer's head -/
structure Lay (adj : Nat → Nat) (many seen st L : Nat) (ps : List (Nat × Nat)) (es : List Nat) : Prop where
  nodup : (ps.map (·.1)).Nodup
  bound : ∀ p ∈ ps, p.1 < many
  dist : ∀ p ∈ ps, Dist adj seen st p.1 p.2 ∧ p.2 ≤ L
  full : ∀ v d, WalkTo adj seen st d v → d ≤ L → v ∈ ps.map (·.1)
  edge : ∀ v, v ∈ es ↔ (v, L) ∈ ps
  len : es.length ≤ ps.length

theorem Lay.init {adj : Nat → Nat} {many seen st : Nat} (h : st < many) : Lay adj many seen st 0 [(st, 0)] [st] where
  nodup := by simp
  bound := by simp [h]
  dist := fun p hp => by rw [List.mem_singleton.mp hp]; exact ⟨⟨.zero, fun _ _ => Nat.zero_le _⟩, Nat.le_refl _⟩
  full := fun v d hw hd => by
    cases hw with
    | zero => simp
    | succ => omega
  edge := by simp
  len := by simp

/-- inside a layer -/
structure LayIn (adj : Nat → Nat) (many seen st L : Nat) (ps : List (Nat × Nat)) (es pre nw : List Nat) : Prop where
  nodup : ((ps ++ nw.map fun v => (v, L + 1)).map (·.1)).Nodup
  new : ∀ v ∈ nw, v < many ∧ WalkTo adj seen st (L + 1) v
  covers : ∀ u ∈ pre, ∀ v, (adj u).testBit v = true → seen.testBit v = false → v ∈ (ps ++ nw.map fun v => (v, L + 1)).map (·.1)

theorem keys_app (ps : List (Nat × Nat)) (nw : List Nat) (L : Nat) : (ps ++ nw.map fun v => (v, L)).map (·.1) = ps.map (·.1) ++ nw := by
  rw [List.map_append, List.map_map]
  congr 1
  conv => rhs; rw [← List.map_id nw]
  exact List.map_congr_left fun _ _ => rfl

theorem nodup_len {n : Nat} {xs : List Nat} (h : xs.Nodup) (hb : ∀ x ∈ xs, x < n) : xs.length ≤ n := by
  induction n generalizing xs with
  | zero =>
    cases xs with
    | nil => exact Nat.le_refl _
    | cons a r => exact absurd (hb a (.head _)) (Nat.not_lt_zero _)
  | succ n ih =>
    have h1 := ih (h.erase n) (fun x hx => by
      obtain ⟨hne, hm⟩ := h.mem_erase_iff.mp hx
      have := hb x hm
      omega)
    have h2 : xs.length ≤ (xs.erase n).length + 1 := by rw [List.length_erase]; split <;> omega
    omega

theorem Lay.into {adj : Nat → Nat} {many seen st L : Nat} {ps : List (Nat × Nat)} {es : List Nat} (h : Lay adj many seen st L ps es) : LayIn adj many seen st L ps es [] [] where
  nodup := by simpa using h.nodup
  new := by simp
  covers := by simp

theorem LayIn.len {adj : Nat → Nat} {many seen st L : Nat} {ps : List (Nat × Nat)} {es pre nw : List Nat} (h0 : Lay adj many seen st L ps es) (h : LayIn adj many seen st L ps es pre nw) : ps.length + nw.length ≤ many := by
  have := nodup_len h.nodup (n := many) (fun x hx => by
    rw [keys_app] at hx
    rcases List.mem_append.mp hx with hx | hx
    · obtain ⟨p, hp, rfl⟩ := List.mem_map.mp hx; exact h0.bound p hp
    · exact (h.new x hx).1)
  rw [keys_app] at this
  simpa using this

/-- at a node of the layer: its first neighbours are looked at -/
def Half (adj : Nat → Nat) (many seen st L : Nat) (ps : List (Nat × Nat)) (es pre : List Nat) (pre2 nw : List Nat) : Prop :=
  LayIn adj many seen st L ps es pre nw ∧ ∀ v ∈ pre2, seen.testBit v = false → v ∈ (ps ++ nw.map fun v => (v, L + 1)).map (·.1)

theorem LayIn.half {adj : Nat → Nat} {many seen st L : Nat} {ps : List (Nat × Nat)} {es pre nw : List Nat} (h : LayIn adj many seen st L ps es pre nw) : Half adj many seen st L ps es pre [] nw := ⟨h, by simp⟩

theorem Half.skip {adj : Nat → Nat} {many seen st L v : Nat} {ps : List (Nat × Nat)} {es pre pre2 nw : List Nat} (h : Half adj many seen st L ps es pre pre2 nw)
    (hv : v ∈ (ps ++ nw.map fun v => (v, L + 1)).map (·.1) ∨ seen.testBit v = true) : Half adj many seen st L ps es pre (pre2 ++ [v]) nw :=
  ⟨h.1, fun x hx hs => by
    rcases List.mem_append.mp hx with hx | hx
    · exact h.2 x hx hs
    · rw [List.mem_singleton.mp hx] at hs ⊢
      exact hv.resolve_right (by rw [hs]; exact Bool.false_ne_true)⟩

theorem Half.take {adj : Nat → Nat} {many seen st L u v : Nat} {ps : List (Nat × Nat)} {es pre pre2 nw : List Nat} (h0 : Lay adj many seen st L ps es) (h : Half adj many seen st L ps es pre pre2 nw)
    (hu : u ∈ es) (huv : (adj u).testBit v = true) (hb : v < many) (hs : seen.testBit v = false) (hv : v ∉ (ps ++ nw.map fun v => (v, L + 1)).map (·.1)) : Half adj many seen st L ps es pre (pre2 ++ [v]) (nw ++ [v]) := by
  have grow : ∀ x, x ∈ (ps ++ nw.map fun v => (v, L + 1)).map (·.1) → x ∈ (ps ++ (nw ++ [v]).map fun v => (v, L + 1)).map (·.1) := fun x hx => by
    rw [keys_app] at hx ⊢
    rw [← List.append_assoc]
    exact List.mem_append_left _ hx
  have last : v ∈ (ps ++ (nw ++ [v]).map fun v => (v, L + 1)).map (·.1) := by rw [keys_app]; simp
  refine ⟨⟨?_, fun x hx => ?_, fun x hx y h1 h2 => grow y (h.1.covers x hx y h1 h2)⟩, fun x hx hs => ?_⟩
  · have hn := h.1.nodup
    rw [keys_app] at hn hv ⊢
    rw [← List.append_assoc]
    exact List.nodup_append.mpr ⟨hn, by simp, fun a ha b hb' => by rw [List.mem_singleton.mp hb']; rintro rfl; exact hv ha⟩
  · rcases List.mem_append.mp hx with hx | hx
    · exact h.1.new x hx
    · rw [List.mem_singleton.mp hx]; exact ⟨hb, .succ (h0.dist _ ((h0.edge u).mp hu)).1.1 huv hs⟩
  · rcases List.mem_append.mp hx with hx | hx
    · exact grow x (h.2 x hx hs)
    · rw [List.mem_singleton.mp hx]; exact last

theorem Half.done {adj : Nat → Nat} {many seen st L u : Nat} {ps : List (Nat × Nat)} {es pre ys nw : List Nat} (h : Half adj many seen st L ps es pre ys nw) (hall : ∀ v, (adj u).testBit v = true → v ∈ ys) :
    LayIn adj many seen st L ps es (pre ++ [u]) nw where
  nodup := h.1.nodup
  new := h.1.new
  covers := fun x hx v h1 h2 => by
    rcases List.mem_append.mp hx with hx | hx
    · exact h.1.covers x hx v h1 h2
    · rw [List.mem_singleton.mp hx] at h1; exact h.2 v (hall v h1) h2

theorem Lay.next {adj : Nat → Nat} {many seen st L : Nat} {ps : List (Nat × Nat)} {es nw : List Nat} (h0 : Lay adj many seen st L ps es) (h : LayIn adj many seen st L ps es es nw) :
    Lay adj many seen st (L + 1) (ps ++ nw.map fun v => (v, L + 1)) nw where
  nodup := h.nodup
  bound := fun p hp => by
    rcases List.mem_append.mp hp with hp | hp
    · exact h0.bound p hp
    · obtain ⟨v, hv, rfl⟩ := List.mem_map.mp hp; exact (h.new v hv).1
  dist := fun p hp => by
    rcases List.mem_append.mp hp with hp | hp
    · exact ⟨(h0.dist p hp).1, Nat.le_succ_of_le (h0.dist p hp).2⟩
    · obtain ⟨v, hv, rfl⟩ := List.mem_map.mp hp
      refine ⟨⟨(h.new v hv).2, fun d' hw => ?_⟩, Nat.le_refl _⟩
      rcases Nat.lt_or_ge L d' with h' | h'
      · exact h'
      · have hn := h.nodup
        rw [keys_app] at hn
        exact absurd rfl ((List.nodup_append.mp hn).2.2 v (h0.full v d' hw h') v hv)
  full := fun v d hw hd => by
    rcases Nat.lt_or_ge L d with h' | h'
    · obtain rfl : d = L + 1 := by omega
      cases hw with
      | @succ _ u _ hu h1 h2 =>
        have hm := h0.full u L hu (Nat.le_refl _)
        obtain ⟨⟨u', d'⟩, hp, rfl⟩ := List.mem_map.mp hm
        have hd := h0.dist _ hp
        by_cases hdl : d' = L
        · subst hdl
          exact h.covers u' ((h0.edge u').mpr hp) v h1 h2
        · rw [keys_app]
          exact List.mem_append_left _ (h0.full v (d' + 1) (.succ hd.1.1 h1 h2) (by have := hd.2; dsimp only at this; omega))
    · rw [keys_app]; exact List.mem_append_left _ (h0.full v d hw h')
  edge := fun v => by
    constructor
    · intro hv; exact List.mem_append_right _ (List.mem_map.mpr ⟨v, hv, rfl⟩)
    · intro hv
      rcases List.mem_append.mp hv with hv | hv
      · have := (h0.dist _ hv).2; dsimp only at this; omega
      · obtain ⟨x, hx, e⟩ := List.mem_map.mp hv; injection e with e; subst e; exact hx
  len := by simp

def layM (ps : List (Nat × Nat)) (es : List Nat) : Nat := (6 - ps.length) + (if es = [] then 0 else 1)
theorem layM_next {adj : Nat → Nat} {many seen st L : Nat} {ps : List (Nat × Nat)} {es nw : List Nat} (h6 : many ≤ 6) (h0 : Lay adj many seen st L ps es) (h : LayIn adj many seen st L ps es es nw) (hne : es ≠ []) :
    layM (ps ++ nw.map fun v => (v, L + 1)) nw < layM ps es := by
  have := h.len h0
  unfold layM
  rw [if_neg hne, List.length_append, List.length_map]
  cases nw with
  | nil => simp
  | cons a r => simp only [List.length_cons] at this ⊢; simp only [reduceCtorEq, ↓reduceIte]; omega

/-- what the layered search gives -/
structure Steps (adj : Nat → Nat) (many seen st : Nat) (ps : List (Nat × Nat)) : Prop where
  nodup : (ps.map (·.1)).Nodup
  bound : ∀ p ∈ ps, p.1 < many
  dist : ∀ p ∈ ps, Dist adj seen st p.1 p.2
  full : ∀ v, v ∈ ps.map (·.1) ↔ Reach adj seen st v

theorem Lay.done {adj : Nat → Nat} {many seen st L : Nat} {ps : List (Nat × Nat)} (h : Lay adj many seen st L ps []) : Steps adj many seen st ps where
  nodup := h.nodup
  bound := h.bound
  dist := fun p hp => (h.dist p hp).1
  full := fun v => by
    constructor
    · intro hv; obtain ⟨p, hp, rfl⟩ := List.mem_map.mp hv; exact walk_reach (h.dist p hp).1.1
    · intro hv
      induction hv with
      | start => exact h.full st 0 .zero (Nat.zero_le _)
      | @step u v _ h1 h2 ih =>
        obtain ⟨⟨u', d'⟩, hp, rfl⟩ := List.mem_map.mp ih
        have hd := h.dist _ hp
        have hne : d' ≠ L := by rintro rfl; exact absurd ((h.edge u').mpr hp) (by simp)
        exact h.full v (d' + 1) (.succ hd.1.1 h1 h2) (by have := hd.2; dsimp only at this; omega)

theorem Lay.len6 {adj : Nat → Nat} {many seen st L : Nat} {ps : List (Nat × Nat)} {es : List Nat} (h : Lay adj many seen st L ps es) : ps.length ≤ many := by
  have := nodup_len h.nodup (n := many) (fun x hx => by obtain ⟨p, hp, rfl⟩ := List.mem_map.mp hx; exact h.bound p hp)
  simpa using this

end Mine
end
section
open PySem PySem.W PyProof.Rows PySem.Calls
set_option linter.unusedVariables false
set_option maxHeartbeats 4000000
set_option linter.unusedVariables false
namespace Mine

/-- the pairs of a dict of small ints -/
inductive PairsB : List (Nat × Nat) → List (Int × Value) → Prop
  | nil : PairsB [] []
  | cons {ps kvs} (k d : Nat) (t : Tok) : PairsB ps kvs → PairsB ((k, d) :: ps) ((Int.ofNat k, .int (Int.ofNat d) t) :: kvs)

theorem PairsB.append {ps qs : List (Nat × Nat)} {kvs lvs : List (Int × Value)} (h : PairsB ps kvs) (h' : PairsB qs lvs) : PairsB (ps ++ qs) (kvs ++ lvs) := by
  induction h with
  | nil => exact h'
  | cons k d t _ ih => exact .cons k d t ih
theorem PairsB.length {ps : List (Nat × Nat)} {kvs : List (Int × Value)} (h : PairsB ps kvs) : kvs.length = ps.length := by
  induction h with
  | nil => rfl
  | cons k d t _ ih => simp [ih]
theorem PairsB.keys {ps : List (Nat × Nat)} {kvs : List (Int × Value)} (h : PairsB ps kvs) : kvs.map (·.1) = (ps.map (·.1)).map Int.ofNat := by
  induction h with
  | nil => rfl
  | cons k d t _ ih => simp only [List.map_cons, ih]
theorem valueAt_cons {kv : Int × Value} {kvs : List (Int × Value)} {k : Int} : valueAt (kv :: kvs) k = if kv.1 = k then some kv.2 else valueAt kvs k := by
  unfold valueAt
  rw [List.find?_cons]
  by_cases h : kv.1 = k <;> simp [h]
theorem PairsB.at {ps : List (Nat × Nat)} {kvs : List (Int × Value)} (h : PairsB ps kvs) {k d : Nat} (hn : (ps.map (·.1)).Nodup) (hm : (k, d) ∈ ps) : ∃ t, valueAt kvs (Int.ofNat k) = some (.int (Int.ofNat d) t) := by
  induction h with
  | nil => cases hm
  | @cons ps kvs k' d' t hp ih =>
    rw [valueAt_cons]
    rw [List.map_cons, List.nodup_cons] at hn
    rcases List.mem_cons.mp hm with e | hm
    · injection e with e1 e2
      subst e1 e2
      exact ⟨t, if_pos rfl⟩
    · have hne : k' ≠ k := by rintro rfl; exact hn.1 (List.mem_map_of_mem (f := (·.1)) hm)
      rw [if_neg (by intro e; exact hne (Int.ofNat.inj e))]
      exact ih hn.2 hm
theorem PairsB.none {ps : List (Nat × Nat)} {kvs : List (Int × Value)} (h : PairsB ps kvs) {k : Nat} (hm : k ∉ ps.map (·.1)) : valueAt kvs (Int.ofNat k) = none := by
  induction h with
  | nil => rfl
  | @cons ps kvs k' d' t hp ih =>
    rw [List.map_cons, List.mem_cons, not_or] at hm
    rw [valueAt_cons, if_neg (by intro e; exact hm.1 (Int.ofNat.inj e).symm)]
    exact ih hm.2
theorem PairsB.isSome {ps : List (Nat × Nat)} {kvs : List (Int × Value)} (h : PairsB ps kvs) {k : Nat} : (valueAt kvs (Int.ofNat k)).isSome = decide (k ∈ ps.map (·.1)) := by
  induction h with
  | nil => rfl
  | @cons ps kvs k' d' t hp ih =>
    rw [valueAt_cons]
    by_cases e : k' = k
    · subst e; rw [if_pos rfl]; simp
    · rw [if_neg (by intro e'; exact e (Int.ofNat.inj e')), ih]
      simp only [List.map_cons, List.mem_cons]
      have : k ≠ k' := fun h => e h.symm
      simp [this]

section
variable {prog : Program} {w : World} {A : Around} {E : Value → Shared → Prop} {s : Shared} {h h' h₀ : Heap} {L D S a c : Addr} {m : Str → Option Value} {news : List (Addr × Obj)} {gl : Obj → List (Addr × Obj)} {o o' : Obj} {b d : Nat} {ps : List (Nat × Nat)} {kvs : List (Int × Value)}

theorem k_dictNotIn {x : Nat} {tk : Tok} {Q : Value → Shared → Prop} (N : News h₀ L s.heap news) (hm : (a, o) ∈ news) (hd : o.IsDictOf (intKind prog w) kvs) (P : PairsB ps kvs) (lo : (a == sysModules) = false)
    (hq : Q (.bool (decide (x ∉ ps.map (·.1)))) { s with toks := s.toks + 1 }) : wpAny (model prog w) A (compareOp .NotIn (.int (Int.ofNat x) tk) (.ref a)) Q E s := by
  refine wpAny_notIn_of (intKind_is prog w _ tk) lo (dictOf_mapOf (Heap.dictOf_iff.mpr ⟨o, N.get hm, hd⟩)) ?_
  rw [P.isSome, ← decide_not]
  exact hq

theorem k_dictIn {x : Nat} {tk : Tok} {Q : Value → Shared → Prop} (N : News h₀ L s.heap news) (hm : (a, o) ∈ news) (hd : o.IsDictOf (intKind prog w) kvs) (P : PairsB ps kvs) (lo : (a == sysModules) = false)
    (hq : Q (.bool (decide (x ∈ ps.map (·.1)))) { s with toks := s.toks + 1 }) : wpAny (model prog w) A (compareOp .In (.int (Int.ofNat x) tk) (.ref a)) Q E s := by
  refine wpAny_in_of (intKind_is prog w _ tk) lo (dictOf_mapOf (Heap.dictOf_iff.mpr ⟨o, N.get hm, hd⟩)) ?_
  rw [P.isSome]
  exact hq

theorem k_dictGet {value slice : PySem.Expr} {x y : Nat} {tk : Tok} {Q : Value → Shared → Prop} (N : News h₀ L s.heap news) (hm : (a, o) ∈ news) (hd : o.IsDictOf (intKind prog w) kvs) (P : PairsB ps kvs)
    (hn : (ps.map (·.1)).Nodup) (hxy : (x, y) ∈ ps) (hq : ∀ t, Q (.int (Int.ofNat y) t) { s with toks := s.toks + 1 })
    (hs : subscripted slice false (.ref a) (.int (Int.ofNat x) tk) = operate [.ref a, .int (Int.ofNat x) tk] (getItem (.ref a) (.int (Int.ofNat x) tk)) := by with_unfolding_all rfl) :
    wpAny (model prog w) A (subscriptTail value slice (.ref a) (.int (Int.ofNat x) tk)) Q E s := by
  have hM := dictOf_mapOf (prog := prog) (w := w) (Heap.dictOf_iff.mpr ⟨o, N.get hm, hd⟩)
  obtain ⟨t, e⟩ := P.at hn hxy
  exact tail_any hM.typeIs slot_dict_getitem.lookup (wpAny_getItem_of (intKind_is prog w _ tk) hM e (hq t)) hs

theorem k_dictSet {x : Nat} {tk : Tok} {v : Value} {Q : Unit → Shared → Prop} (Fm : Fr h₀ L s.heap m) (N : News h₀ L s.heap news) (U : UpdF a o news gl) (hd : o.IsDictOf (intKind prog w) kvs) (hx : valueAt kvs (Int.ofNat x) = none) (hz : kvs.length ≤ 1000)
    (hq : ∀ h' o', Fr h₀ L h' m → News h₀ L h' (gl o') → o'.IsDictOf (intKind prog w) (kvs ++ [(Int.ofNat x, v)]) → Q () { s with heap := h', toks := s.toks + 1 }) :
    wpAny (model prog w) A (setItem (.ref a) (.int (Int.ofNat x) tk) v) Q E s := by
  refine wpAny_setItem_pairs (intKind_is prog w _ tk) (Heap.dictOf_iff.mpr ⟨o, upd_at N U, hd⟩) (fun h' hD hs => ?_) (by rw [sizeLine_eq]; omega)
  rw [stored_absent hx] at hD
  obtain ⟨o', ho', hd'⟩ := Heap.dictOf_iff.mp hD
  obtain ⟨F', N'⟩ := fn_upd Fm N U (fun x y hx e => (hs.2 x hx).trans e) ho'
  exact hq h' o' F' N' hd'

theorem k_append {vs : List Value} {n : Nat} {v : Value} {Q : Value → Shared → Prop} (Fm : Fr h₀ L s.heap m) (N : News h₀ L s.heap news) (U : UpdF a (lst vs.toArray n) news gl) (hz : vs.length ≤ 1000)
    (hq : ∀ h', Fr h₀ L h' m → News h₀ L h' (gl (lst (vs ++ [v]).toArray (n + 1))) → Q .none { s with heap := h' }) :
    wpAny (model prog w) A (call (.builtin "list.append") [.ref a, v]) Q E s := by
  have ho := upd_at N U
  have hsz : vs.toArray.size ≤ sizeLine := by rw [sizeLine_eq]; simp; omega
  refine wpAny_call_entry slot_list_append ⟨_, ho, rfl⟩ entry_list_append ?_ (args_list_append _ _)
  show wpAny _ _ (updateSeq a (·.push v) >>= fun _ => ret .none) _ _ s
  refine wpAny_bind (wpAny_updateSeq ho rfl (wpAny_pure ⟨.none, rfl, ?_⟩) hsz)
  have hs := Heap.SameBut.update s.heap a (Obj.mapSeq (·.push v))
  have e : (s.heap.update a (Obj.mapSeq (·.push v))).get? a = some (lst (vs ++ [v]).toArray (n + 1)) := by
    rw [Heap.get?_update_self _ ho (by rw [Obj.mapSeq_push_plain]; rfl), Obj.mapSeq_push_plain]
    simp
  obtain ⟨F', N'⟩ := fn_upd Fm N U (fun x y hx e => (hs.2 x hx).trans e) e
  exact hq _ F' N'

theorem k_sorted {Q : Value → Shared → Prop} (hh : A.handled = none) (Fm : Fr h₀ L s.heap m) (N : News h₀ L s.heap news) (Sa : SetAt w s.heap a b)
    (hq : ∀ D h' (vs : List Value) (n : Nat) (xs : List Nat), Fr h₀ L h' m → News h₀ L h' ((D, lst vs.toArray n) :: news) → (∀ p ∈ news, p.1 < D) → IntsAre vs (xs.map Int.ofNat) → xs.Perm (els b) → Q (.ref D) { s with heap := h' }) :
    wpAny (model prog w) A (call (.builtin "sorted") [.ref a]) Q E s := by
  refine call_sorted hh Sa fun h' D vs n ns M hI hp => ?_
  have hid : ∀ n ∈ ns, Int.ofNat n.toNat = n := fun n hn => by
    obtain ⟨i, _, rfl⟩ := List.mem_map.mp (hp.mem_iff.mp hn); rfl
  refine hq D h' vs.toList n (ns.map Int.toNat) (M.fr Fm) (by simpa using M.news Fm N) (M.lt N) ?_ ?_
  · have : (ns.map Int.toNat).map Int.ofNat = ns := by
      rw [List.map_map]
      conv => rhs; rw [← List.map_id ns]
      exact List.map_congr_left fun n hn => hid n hn
    rw [this]; exact hI
  · have := hp.map Int.toNat
    have e : (hs b).map Int.toNat = els b := by
      unfold hs
      rw [List.map_map]
      conv => rhs; rw [← List.map_id (els b)]
      exact List.map_congr_left fun n _ => rfl
    rw [e] at this; exact this
end
end Mine
end
section
open PySem PySem.W PyProof.Rows PySem.Calls
set_option linter.unusedVariables false
set_option maxHeartbeats 4000000
namespace Mine

def lrM (vone vnode vnew vedge : Option Value) (d9 sa ga : Addr) (sv : Value) : Str → Option Value := fun y =>
  if y = Str.ofString "one" then vone else if y = Str.ofString "node" then vnode else if y = Str.ofString "new" then vnew else if y = Str.ofString "edge" then vedge else
  if y = Str.ofString "steps" then some (.ref d9) else if y = Str.ofString "seen" then some (.ref sa) else if y = Str.ofString "start" then some sv else if y = Str.ofString "graph" then some (.ref ga) else none
theorem lr_ext {m m' : Str → Option Value} (h1 : m (Str.ofString "one") = m' (Str.ofString "one")) (h2 : m (Str.ofString "node") = m' (Str.ofString "node")) (h3 : m (Str.ofString "new") = m' (Str.ofString "new")) (h4 : m (Str.ofString "edge") = m' (Str.ofString "edge"))
    (h5 : ∀ y, y ≠ Str.ofString "one" → y ≠ Str.ofString "node" → y ≠ Str.ofString "new" → y ≠ Str.ofString "edge" → m y = m' y) : m = m' := by
  funext y
  by_cases a : y = Str.ofString "one"
  · subst a; exact h1
  by_cases b : y = Str.ofString "node"
  · subst b; exact h2
  by_cases c : y = Str.ofString "new"
  · subst c; exact h3
  by_cases d : y = Str.ofString "edge"
  · subst d; exact h4
  exact h5 y a b c d
theorem _root_.PyProof.Rows.Fr.lr {g h : Heap} {L : Addr} {m : Str → Option Value} (F : Fr g L h m) {vone vnode vnew vedge : Option Value} {d9 sa ga : Addr} {sv : Value}
    (h1 : m (Str.ofString "one") = vone := by rfl) (h2 : m (Str.ofString "node") = vnode := by rfl) (h3 : m (Str.ofString "new") = vnew := by rfl) (h4 : m (Str.ofString "edge") = vedge := by rfl)
    (h5 : ∀ y, y ≠ Str.ofString "one" → y ≠ Str.ofString "node" → y ≠ Str.ofString "new" → y ≠ Str.ofString "edge" → m y = lrM vone vnode vnew vedge d9 sa ga sv y := by intro y a b c d; simp only [lrM, if_neg a, if_neg b, if_neg c, if_neg d, lookup_ite, List.lookup_nil]) :
    Fr g L h (lrM vone vnode vnew vedge d9 sa ga sv) := by
  have e : m = lrM vone vnode vnew vedge d9 sa ga sv := lr_ext h1 h2 h3 h4 h5
  rw [← e]; exact F

theorem k_truthyFull {prog : Program} {w : World} {A : Around} {E : Value → Shared → Prop} {s : Shared} {h₀ : Heap} {L a : Addr} {news : List (Addr × Obj)} {vs : List Value} {n : Nat} {Q : Bool → Shared → Prop} (N : News h₀ L s.heap news) (hm : (a, lst vs.toArray n) ∈ news) (he : vs.isEmpty = false) (hz : vs.length ≤ 1000) (hq : Q true { s with toks := s.toks + 1 + 1 }) :
    wpAny (model prog w) A (truthy (.ref a)) Q E s := k_truthyList N hm hz (by rw [he]; exact hq)
theorem sub2 {α : Type} {a b c : α} : ∀ p ∈ [a, c], p ∈ [a, b, c] := fun p hp => by
  rcases List.mem_cons.mp hp with rfl | hp
  · exact .head _
  · rw [List.mem_singleton.mp hp]; exact .tail _ (.tail _ (.head _))
theorem ltN {a b : Addr} (h : a < b) : @LT.lt Nat _ a b := h
theorem off_map {I : Addr} {l l' : List (Addr × Obj)} (h : ∀ p ∈ l, p.1 ≠ I) (e : l'.map (·.1) = l.map (·.1)) : ∀ p ∈ l', p.1 ≠ I := fun p hp => by
  have : p.1 ∈ l.map (·.1) := e ▸ List.mem_map_of_mem (f := (·.1)) hp
  obtain ⟨q, hq, e'⟩ := List.mem_map.mp this
  rw [← e']; exact h q hq
theorem k_dictNotInT {prog : Program} {w : World} {A : Around} {E : Value → Shared → Prop} {s : Shared} {h₀ : Heap} {L a : Addr} {news : List (Addr × Obj)} {o : Obj} {ps : List (Nat × Nat)} {kvs : List (Int × Value)} {x : Nat} {tk : Tok} {Q : Value → Shared → Prop} (N : News h₀ L s.heap news) (hm : (a, o) ∈ news) (hd : o.IsDictOf (intKind prog w) kvs) (P : PairsB ps kvs) (lo : (a == sysModules) = false)
    (hx : x ∉ ps.map (·.1)) (hq : Q (.bool true) { s with toks := s.toks + 1 }) : wpAny (model prog w) A (compareOp .NotIn (.int (Int.ofNat x) tk) (.ref a)) Q E s :=
  k_dictNotIn N hm hd P lo (by rw [decide_eq_true hx]; exact hq)
theorem k_dictNotInF {prog : Program} {w : World} {A : Around} {E : Value → Shared → Prop} {s : Shared} {h₀ : Heap} {L a : Addr} {news : List (Addr × Obj)} {o : Obj} {ps : List (Nat × Nat)} {kvs : List (Int × Value)} {x : Nat} {tk : Tok} {Q : Value → Shared → Prop} (N : News h₀ L s.heap news) (hm : (a, o) ∈ news) (hd : o.IsDictOf (intKind prog w) kvs) (P : PairsB ps kvs) (lo : (a == sysModules) = false)
    (hx : x ∈ ps.map (·.1)) (hq : Q (.bool false) { s with toks := s.toks + 1 }) : wpAny (model prog w) A (compareOp .NotIn (.int (Int.ofNat x) tk) (.ref a)) Q E s :=
  k_dictNotIn N hm hd P lo (by rw [decide_eq_false (fun h => h hx)]; exact hq)
local macro_rules | `(tactic| walk_at "no such key 0") => `(tactic| skip)
local macro_rules | `(tactic| ktr_rel) => `(tactic| first | (with_reducible assumption) | exact setAt_news (by k_asm) (by k_mem) (by k_asm) | exact setAt_base (by k_asm) (by k_asm))
local macro_rules | `(tactic| walk_at "exec While Name cons nil") => `(tactic| refine held ?_)
local macro_rules | `(tactic| walk_at "exec For Name Name cons nil") => `(tactic| refine held ?_)
local macro_rules | `(tactic| walk_at "exec For Name Call cons nil") => `(tactic| refine held ?_)
local macro_rules | `(tactic| walk_at "pyIter ref") => `(tactic| refine held ?_)
local macro_rules | `(tactic| walk_at "newList") => `(tactic| (k_here; k_dflt (refine' k_newlist ?F ?N ?z ?_; (case F => k_asm); (case N => k_asm); (case z => decide)); intro d' h' F' N' l1; (try k_lt l1)))
local macro_rules | `(tactic| walk_at "eval Dict") => `(tactic| (k_here; k_dflt (refine' kdn_eval (knd := PySem.intKind _ _) ?F ?N ?b ?a ?l ?e ?n ?_; (case F => k_asm); (case N => first | k_asm | exact News.nil); (case b => exact Top.nolimit (by k_asm)); (case a => rfl); (case l => rfl); (case e => exact List.cons_ne_nil _ _); (case n => exact Nat.le_of_ble_eq_true rfl)); intro d' h' o' F' N' l1 lo' hd'; (try k_lt l1)))
local macro_rules | `(tactic| walk_at "KdnMade") => `(tactic| (k_here; k_dflt (refine' kdn_made_int ?F ?N ?U ?d ?k ?n ?_; (case F => k_asm); (case N => k_asm); (case U => k_updF); (case d => k_asm); (case k => rfl); (case n => exact List.nodup_cons.mpr ⟨List.not_mem_nil, List.nodup_nil⟩)); intro h' o' F' N' hd'; (try dsimp only at N')))
local macro_rules | `(tactic| k_all) => `(tactic| first | exact List.forall_mem_nil _ | (refine' List.forall_mem_cons.mpr ⟨?a, ?b⟩; (case a => first | assumption | k_ne); (case b => k_all)))
local macro_rules | `(tactic| walk_at "truthy ref") => `(tactic| (k_here; k_dflt (refine' k_truthyList ?N ?h ?z ?_; (case N => k_asm); (case h => k_mem); (case z => omega))))
local macro_rules | `(tactic| walk_at "truthy ref") => `(tactic| (k_here; k_dflt (first | (refine' k_truthyNil ?N ?h ?_; (case N => k_asm); (case h => k_mem)) | (refine' k_truthyFull ?N ?h ?e ?z ?_; (case N => k_asm); (case h => k_mem); (case e => assumption); (case z => omega)))))
local macro_rules | `(tactic| walk_at "getMethod ref") => `(tactic| (k_here; (with_reducible show wpAny _ _ (getMethod (Value.ref _) (PySem.Str.ofString "append") _) _ _ _); k_dflt (refine' k_listmeth ?N ?h slot_list_append type_list_append ?_; (case N => k_asm); (case h => k_mem))))
local macro_rules | `(tactic| walk_at "call builtin:list.append") => `(tactic| (k_here; k_dflt (refine' k_append ?F ?N ?U ?z ?_; (case F => k_asm); (case N => k_asm); (case U => k_updF); (case z => omega)); intro h' F' N'; (try dsimp only at N')))
local macro_rules | `(tactic| walk_at "call builtin:sorted") => `(tactic| (k_here; k_dflt (refine' k_sorted ?A ?F ?N ?S ?_; (case A => first | exact rfl | assumption); (case F => k_asm); (case N => k_asm); (case S => ktr_rel)); intro d' h' vs' n' xs' F' N' l1 hI' hp'; (try k_lt l1)))
local macro_rules | `(tactic| walk_at "compareOp NotIn int ref") => `(tactic| (k_here; k_dflt (first | (refine' k_dictNotInT ?N ?h ?d ?P ?lo ?x ?_; (case N => k_asm); (case h => k_mem); (case d => k_asm); (case P => k_asm); (case lo => k_asm); (case x => assumption)) | (refine' k_dictNotInF ?N ?h ?d ?P ?lo ?x ?_; (case N => k_asm); (case h => k_mem); (case d => k_asm); (case P => k_asm); (case lo => k_asm); (case x => assumption)) | (refine' wp_notIn ?S ?x ?_; (case S => ktr_rel); (case x => omega)))))
local macro_rules | `(tactic| walk_at "subscriptTail") => `(tactic| (k_here; k_dflt (first | (refine' graph_tail (GraphAt.keep ?G (Fr.keep ?F)) ?k ?_; (case F => k_asm); (case G => k_asm); (case k => omega); intro a' S') | (refine' k_dictGet ?N ?h ?d ?P ?n ?xy ?_; (case N => k_asm); (case h => k_mem); (case d => k_asm); (case P => k_asm); (case n => assumption); (case xy => assumption); intro t'))))
local macro_rules | `(tactic| walk_at "setItem ref int") => `(tactic| (k_here; k_dflt (refine' k_dictSet ?F ?N ?U ?d ?x ?z ?_; (case F => k_asm); (case N => k_asm); (case U => k_updF); (case d => k_asm); (case x => exact PairsB.none (by assumption) (by assumption)); (case z => omega)); intro h' o' F' N' hd'; (try dsimp only at N')))
theorem lr_fr0 {g h : Heap} {L' l d sa ga : Addr} {sv : Value} (F : Fr g L' h (fun y => if y = Str.ofString "edge" then some (Value.ref l) else if y = Str.ofString "steps" then some (Value.ref d) else List.lookup y [(Str.ofString "seen", Value.ref sa), (Str.ofString "start", sv), (Str.ofString "graph", Value.ref ga)])) :
    Fr g L' h (lrM none none none (some (.ref l)) d sa ga sv) := F.lr
def LrPre (prog : Program) (w : World) (g : Heap) (L' : Addr) (h : Heap) (sa ga : Addr) (st : Nat) (tk : Tok) : Prop :=
  ∃ (l9 d9 : Addr) (o₀ : Obj) (t : Tok), d9 < l9 ∧ (d9 == sysModules) = false ∧ o₀.IsDictOf (intKind prog w) [(Int.ofNat st, .int (Int.ofNat 0) t)] ∧ News g L' h [(l9, lst #[.int (Int.ofNat st) tk] 0), (d9, o₀)] ∧
    Fr g L' h (lrM none none none (some (.ref l9)) d9 sa ga (.int (Int.ofNat st) tk))
theorem lr {w : World} {A A₀ : Around} {s : Shared} {base h₀ : Heap} {outer : List Env} {L : Addr} {m : Str → Option Value} {env : Env}
  {mean : ExcName → Option Value} {mg mb : Str → Option Value} {Q E : Value → Shared → Prop} {ga sa : Addr} {st : Nat} {tks : Tok} {many V : Nat} {adj : Nat → Nat}
  (B : Below A₀ base outer h₀) (F : Fr h₀ L s.heap m) (X₀ : (Mine.hd.heap_39 w.params).In h₀)
  (T : Top Mine.hd.view_39 (looseW Mine.hd.view_39 [Str.ofString "find_connected_nodes"]) mean mg mb h₀) (hA : A.frames = some (env :: outer)) (hf : env.frame = some L) (hke : env.scope.kind = .function)
  (hroom : A.depth < recursionLimit) (hhd : A.handled = none)
  (G : GraphAt PySem.Challenge.rw_fb0020_01.row.prog w s.heap ga many adj) (hst : st < many) (Sv : SetAt w s.heap sa V)
  (ret : ∀ ra h' tk' o kvs ps, (∀ b o, s.heap.get? b = some o → h'.get? b = some o) → h'.get? ra = some o → o.IsDictOf (intKind PySem.Challenge.rw_fb0020_01.row.prog w) kvs → PairsB ps kvs → Steps adj many V st ps → s.heap.get? ra = none → (ra == sysModules) = false → Q (.ref ra) { s with heap := h', toks := tk' }) :
  wpAny (model PySem.Challenge.rw_fb0020_01.row.prog w) A (call (.ref 54) [.ref ga, .int (Int.ofNat st) tks, .ref sa]) Q E s := by
  revert X₀; k_fill; intro X₀
  k_dflt (refine' call_hid (K := Mine.hd.heap_39 w.params) B F X₀ News.nil T hA hf hke ?k6 ?k7 hroom ?k9 ?kB ?_ ?c2 ?c3 ?c4 ?c5)
  case k6 => k_is
  case k7 => k_is
  case k9 => exact BindsTo.of_eq rfl
  case c5 => decide
  case kB => exact locs rfl
  case c2 => exact rfl
  case c3 => exact rfl
  case c4 => exact rfl
  intro g L' h' keepG backG F' N' B' X' T' ltG
  have Gg := G.keep (fun b o e => keepG b o e (fun h => nomatch h))
  have Sg := Sv.keep (fun o e => keepG _ o e (fun h => nomatch h))
  have h6 := Gg.le
  dsimp only
  clear F X₀ T B G Sv
  k_steps
  unfold Held; rename Fr _ _ _ _ => F1; rename News _ _ _ _ => N1; rename (_ == sysModules) = false => lo1; rename Obj.IsDictOf _ _ _ => D1
  have pack : LrPre PySem.Challenge.rw_fb0020_01.row.prog w g L' _ sa ga st tks := ⟨_, _, _, _, by assumption, lo1, D1, N1, lr_fr0 F1⟩
  clear F1 N1 lo1 D1
  obtain ⟨e0, d9, o₀, t0, hlt0, lo, D1, N1, F1⟩ := pack
  refine While_inv2 (n₀ := layM [(st, 0)] [st]) (fun n m₁ news₁ => ∃ (e9 : Addr) (Lv : Nat) (ps : List (Nat × Nat)) (es : List Nat) (kvs : List (Int × Value)) (ys : List Value) (c : Nat) (od : Obj) (v1 v2 v3 : Option Value),
      m₁ = lrM v1 v2 v3 (some (.ref e9)) d9 sa ga (.int (Int.ofNat st) tks) ∧ news₁ = [(e9, lst ys.toArray c), (d9, od)] ∧ d9 < e9 ∧ od.IsDictOf (intKind PySem.Challenge.rw_fb0020_01.row.prog w) kvs ∧ PairsB ps kvs ∧ IntsAre ys (es.map Int.ofNat) ∧ Lay adj many V st Lv ps es ∧ n = layM ps es) F1 N1 ?_ ?_ passes_false
  · exact ⟨e0, 0, [(st, 0)], [st], _, _, _, _, _, _, _, rfl, rfl, hlt0, D1, .cons _ _ _ .nil, .cons _ _ .nil, Lay.init hst, rfl⟩
  clear F1 N1 D1
  rintro n m₁ news₁ h₁ tk₁ F2 N2 ⟨e9, Lv, ps, es, kvs, ys, c, od, v1, v2, v3, rfl, rfl, hlt, D2, P2, I2, Y2, rfl⟩
  replace hlt := ltN hlt
  have hl6 := Y2.len6
  have hlen := Y2.len
  have hys := I2.length
  have hkl := P2.length
  rw [List.length_map] at hys
  by_cases hes : es = []
  · subst hes
    obtain rfl := ints_nil I2
    unfold lrM at F2
    k_steps
    exact ret d9 _ _ od kvs ps (fun b o e => F2.keep b o (keepG b o e (fun h => nomatch h))) (N2 _ (.tail _ (.head _))).1 D2 P2 Y2.done (none_of (N2 _ (.tail _ (.head _))).2.2 keepG (fun h => nomatch h)) lo
  have hyne : ys.isEmpty = false := by
    cases ys with
    | nil => exfalso; apply hes; exact List.eq_nil_of_length_eq_zero (by simpa using hys.symm)
    | cons => rfl
  unfold lrM at F2
  k_steps
  unfold Held; rename Fr _ _ _ _ => F3; rename News _ _ _ _ => N3; rename e9 < _ ∧ _ => hlt2
  refine wpAny_For ?_
  k_steps
  unfold Held
  obtain ⟨n9, F3, N3, hlt2⟩ : ∃ n9, Fr g L' _ (lrM v1 v2 (some (.ref n9)) (some (.ref e9)) d9 sa ga (.int (Int.ofNat st) tks)) ∧ News g L' _ [(n9, lst #[] 0), (e9, lst ys.toArray c), (d9, od)] ∧ e9 < n9 ∧ d9 < n9 := ⟨_, F3.lr, N3, hlt2⟩
  replace hlt2 := And.intro (ltN hlt2.1) (ltN hlt2.2)
  refine for_list hhd F3 N3 (l := e9) (by k_mem) I2 rfl rfl
    (fun pre m₂ news₂ => ∃ (nw : List Nat) (kvs' : List (Int × Value)) (ys' : List Value) (c' : Nat) (od' : Obj) (v1' v2' : Option Value), m₂ = lrM v1' v2' (some (.ref n9)) (some (.ref e9)) d9 sa ga (.int (Int.ofNat st) tks) ∧
      news₂ = [(n9, lst ys'.toArray c'), (e9, lst ys.toArray c), (d9, od')] ∧ od'.IsDictOf (intKind PySem.Challenge.rw_fb0020_01.row.prog w) kvs' ∧ PairsB (ps ++ nw.map fun v => (v, Lv + 1)) kvs' ∧ IntsAre ys' (nw.map Int.ofNat) ∧ LayIn adj many V st Lv ps es pre nw)
    ⟨[], kvs, [], 0, od, _, _, rfl, rfl, D2, by simpa using P2, .nil, Y2.into⟩ (by rintro i m₁ news₁ ⟨nw, kvs', ys', c', od', v1', v2', rfl, rfl, r⟩; exact .tail _ (.head _)) ?_ ?_
  · clear D2 P2 F3 N3
    rintro I pre z post zt m₁ news₁ h tk oI' hsplit ⟨nw, kvs', ys', c', od', v1', v2', rfl, rfl, D3, P3, I3, Y3⟩ hneI hI F4 N4
    k_lt hI
    have hzes : z ∈ es := hsplit ▸ List.mem_append_right _ (.head _)
    have hzps := (Y2.edge z).mp hzes
    have hzm : z < many := Y2.bound _ hzps
    have F5 : Fr g L' h (lrM v1' (some (.int (Int.ofNat z) zt)) (some (.ref n9)) (some (.ref e9)) d9 sa ga (.int (Int.ofNat st) tks)) := F4.lr
    replace N4 : News g L' h _ := N4
    clear F4
    unfold lrM at F5
    k_steps
    unfold Held
    refine wpAny_For ?_
    k_steps
    unfold Held
    rename Fr _ _ _ _ => F6; rename News _ _ _ _ => N6; rename List.Perm _ _ => hperm; rename IntsAre _ (List.map _ _) => I6
    rename _ < _ ∧ _ => hltt
    rename_i t9 h9 vs9 c9 xs9
    obtain ⟨ht1, ht2, ht3, ht4⟩ := hltt
    refine for_list hhd F6 N6 (l := t9) (by k_mem) I6 (by rfl) (by rfl)
      (fun pre2 m₂ news₂ => ∃ (nw : List Nat) (kvs' : List (Int × Value)) (ys' : List Value) (c' : Nat) (od' : Obj) (v1' : Option Value), m₂ = lrM v1' (some (.int (Int.ofNat z) zt)) (some (.ref n9)) (some (.ref e9)) d9 sa ga (.int (Int.ofNat st) tks) ∧
        news₂ = [(t9, lst vs9.toArray c9), (I, oI'), (n9, lst ys'.toArray c'), (e9, lst ys.toArray c), (d9, od')] ∧ od'.IsDictOf (intKind PySem.Challenge.rw_fb0020_01.row.prog w) kvs' ∧ PairsB (ps ++ nw.map fun v => (v, Lv + 1)) kvs' ∧ IntsAre ys' (nw.map Int.ofNat) ∧ Half adj many V st Lv ps es pre pre2 nw)
      ⟨nw, kvs', ys', c', od', v1', rfl, rfl, D3, P3, I3, Y3.half⟩ (by rintro i m₁ news₁ ⟨nw, kvs', ys', c', od', v1', rfl, rfl, r⟩; exact .head _) ?_ ?_
    · clear D3 P3 I3 Y3 F6 N6 F5 N4
      rintro K pre2 z2 post2 zt2 m₁ news₁ h tk oK hsplit2 ⟨nw, kvs', ys', c', od', v1', rfl, rfl, D3, P3, I3, Y3⟩ hneK hK F4 N4
      k_lt hK
      have hmem2 : z2 ∈ els (adj z) := hperm.mem_iff.mp (hsplit2 ▸ List.mem_append_right _ (.head _))
      have hadj := els_mem_dec (adj z) (Gg.lt64 hzm) z2 hmem2
      have hz6 := hadj.1
      have hz2m : z2 < many := bit_small (Gg.sub z hzm) hadj.2
      have hl7 := Y3.1.len Y2
      have hys' := I3.length
      have hkv' := P3.length
      rw [List.length_map] at hys'
      rw [List.length_append, List.length_map] at hkv'
      have hnd := Y3.1.nodup
      have hzps' : (z, Lv) ∈ ps ++ nw.map fun v => (v, Lv + 1) := List.mem_append_left _ hzps
      have F5 : Fr g L' h (lrM (some (.int (Int.ofNat z2) zt2)) (some (.int (Int.ofNat z) zt)) (some (.ref n9)) (some (.ref e9)) d9 sa ga (.int (Int.ofNat st) tks)) := F4.lr
      replace N4 : News g L' h _ := N4
      clear F4
      unfold lrM at F5
      by_cases hin : z2 ∈ (ps ++ nw.map fun v => (v, Lv + 1)).map (·.1)
      · k_steps
        exact ⟨_, _, _, _, rfl, F5, N4, off_map hneK rfl, nw, kvs', ys', c', od', _, rfl, rfl, D3, P3, I3, Y3.skip (.inl hin)⟩
      · k_steps
        · exact ⟨_, _, _, _, rfl, F5, N4, off_map hneK rfl, nw, kvs', ys', c', od', _, rfl, rfl, D3, P3, I3, Y3.skip (.inr (by assumption))⟩
        · rename Fr _ _ _ _ => F7; rename News _ _ _ _ => N7; rename Obj.IsDictOf _ _ _ => D7
          refine ⟨_, _, _, _, rfl, F7, N7, off_map hneK rfl, nw ++ [z2], _, _, _, _, _, rfl, rfl, D7, ?_, by rw [List.map_append]; exact ints_append I3 (.cons _ _ .nil), Y3.take Y2 hzes hadj.2 hz2m (by assumption) hin⟩
          rw [List.map_append, ← List.append_assoc]
          exact P3.append (.cons z2 (Lv + 1) _ .nil)
    · clear D3 P3 I3 Y3 F6 N6 F5 N4
      rintro m₁ news₁ h tk ⟨nw, kvs', ys', c', od', v1', rfl, rfl, D3, P3, I3, Y3⟩ F4 N4
      refine wpAny_execs_nil ?_
      exact ⟨_, _, _, _, rfl, F4, News.sub N4 (fun p hp => .tail _ hp), off_map hneI rfl, nw, kvs', ys', c', od', _, _, rfl, rfl, D3, P3, I3, Y3.done (fun v hv => hperm.mem_iff.mpr ((els_iff_dec (adj z) (Gg.lt64 hzm) v (Nat.lt_of_lt_of_le (bit_small (Gg.sub z hzm) hv) h6)).mp hv))⟩
  · clear D2 P2 F3 N3
    rintro m₁ news₁ h tk ⟨nw, kvs', ys', c', od', v1', v2', rfl, rfl, D3, P3, I3, Y3⟩ F4 N4
    have F5 : Fr g L' h (lrM v1' v2' (some (.ref n9)) (some (.ref e9)) d9 sa ga (.int (Int.ofNat st) tks)) := F4
    clear F4
    unfold lrM at F5
    dsimp only
    k_steps
    dsimp only [WhileStep2]
    rename Fr _ _ _ _ => F6; rename News _ _ _ _ => N6
    exact ⟨_, _, _, _, layM (ps ++ nw.map fun v => (v, Lv + 1)) nw, rfl, F6.lr, News.sub N6 sub2, layM_next h6 Y2 Y3 hes, n9, Lv + 1, _, nw, kvs', ys', _, od', _, _, _, rfl, rfl, hlt2.2, D3, P3, I3, Y2.next Y3, rfl⟩
end Mine
end
section
open PySem PySem.W PyProof.Rows PySem.Calls
set_option linter.unusedVariables false
set_option maxHeartbeats 4000000
namespace Mine

/-- a simple path from st -/
inductive PathTo (adj : Nat → Nat) (st : Nat) : List Nat → Nat → Prop
  | one : PathTo adj st [st] st
  | snoc {p : List Nat} {u v : Nat} : PathTo adj st p u → (adj u).testBit v = true → v ∉ p → PathTo adj st (p ++ [v]) v

theorem PathTo.walk {adj : Nat → Nat} {st n : Nat} {p : List Nat} (h : PathTo adj st p n) : WalkTo adj 0 st (p.length - 1) n ∧ 1 ≤ p.length := by
  induction h with
  | one => exact ⟨.zero, Nat.le_refl _⟩
  | @snoc p u v _ a _ ih =>
    refine ⟨?_, by simp⟩
    have e : (p ++ [v]).length - 1 = (p.length - 1) + 1 := by rw [List.length_append, List.length_singleton]; omega
    rw [e]
    exact .succ ih.1 a (Nat.zero_testBit v)
theorem PathTo.nodup {adj : Nat → Nat} {st n : Nat} {p : List Nat} (h : PathTo adj st p n) : p.Nodup := by
  induction h with
  | one => simp
  | snoc _ _ hv ih => exact List.nodup_append.mpr ⟨ih, by simp, fun a ha b hb => by rw [List.mem_singleton.mp hb]; rintro rfl; exact hv ha⟩
theorem PathTo.last {adj : Nat → Nat} {st n : Nat} {p : List Nat} (h : PathTo adj st p n) : ∃ q, p = q ++ [n] := by
  cases h with
  | one => exact ⟨[], rfl⟩
  | snoc _ _ _ => exact ⟨_, rfl⟩
theorem PathTo.head {adj : Nat → Nat} {st n : Nat} {p : List Nat} (h : PathTo adj st p n) : ∃ q, p = st :: q := by
  induction h with
  | one => exact ⟨[], rfl⟩
  | snoc _ _ _ ih => obtain ⟨q, rfl⟩ := ih; exact ⟨q ++ _, rfl⟩
theorem PathTo.lt {adj : Nat → Nat} {many st n : Nat} {p : List Nat} (h : PathTo adj st p n) (hst : st < many) (hsub : ∀ k, k < many → adj k < 2 ^ many) : n < many ∧ ∀ x ∈ p, x < many := by
  induction h with
  | one => exact ⟨hst, fun x hx => by rw [List.mem_singleton.mp hx]; exact hst⟩
  | @snoc p u v _ a _ ih =>
    have hv := bit_small (hsub u ih.1) a
    refine ⟨hv, fun x hx => ?_⟩
    rcases List.mem_append.mp hx with hx | hx
    · exact ih.2 x hx
    · rw [List.mem_singleton.mp hx]; exact hv
theorem PathTo.chain {adj : Nat → Nat} {st n : Nat} {p : List Nat} (h : PathTo adj st p n) : ∀ k a b, p[k]? = some a → p[k + 1]? = some b → (adj a).testBit b = true := by
  induction h with
  | one => intro k a b h1 h2; simp at h2
  | @snoc p u v hp ha _ ih =>
    intro k a b h1 h2
    by_cases hk : k + 1 < p.length
    · rw [List.getElem?_append_left hk] at h2
      rw [List.getElem?_append_left (by omega)] at h1
      exact ih k a b h1 h2
    · by_cases hk' : k + 1 = p.length
      · obtain ⟨q, rfl⟩ := hp.last
        rw [List.length_append, List.length_singleton] at hk'
        have hq : q.length = k := by omega
        subst hq
        rw [List.getElem?_append_right (by simp)] at h2
        simp at h1 h2
        subst h1 h2
        exact ha
      · rw [List.getElem?_eq_none (by rw [List.length_append, List.length_singleton]; omega)] at h2
        cases h2
theorem PathTo.len {adj : Nat → Nat} {many st n : Nat} {p : List Nat} (h : PathTo adj st p n) (hst : st < many) (hsub : ∀ k, k < many → adj k < 2 ^ many) : p.length ≤ many := nodup_len h.nodup (h.lt hst hsub).2

/-- the state of the plain breadth first search -/
structure Bfs (adj : Nat → Nat) (st en V : Nat) (q : List (Nat × List Nat)) : Prop where
  lt : V < 64
  off : V.testBit en = false
  ok : ∀ e ∈ q, PathTo adj st e.2 e.1 ∧ e.1 ≠ en ∧ ∀ x ∈ e.2, x = e.1 ∨ V.testBit x = true
  sorted : q.Pairwise (fun e f => e.2.length ≤ f.2.length)
  spread : ∀ e ∈ q, ∀ f ∈ q, f.2.length ≤ e.2.length + 1
  covers : ∀ u, V.testBit u = true → ∀ d, WalkTo adj 0 st d u → ∀ v, (adj u).testBit v = true → V.testBit v = false → ∃ e ∈ q, e.1 = v ∧ e.2.length ≤ d + 2
  begun : V.testBit st = true ∨ q = [(st, [st])]

theorem Bfs.init {adj : Nat → Nat} {st en : Nat} (hne : st ≠ en) : Bfs adj st en 0 [(st, [st])] where
  lt := by decide
  off := Nat.zero_testBit _
  ok := fun e he => by rw [List.mem_singleton.mp he]; exact ⟨.one, hne, fun x hx => .inl (List.mem_singleton.mp hx)⟩
  sorted := by simp
  spread := fun e he f hf => by rw [List.mem_singleton.mp he, List.mem_singleton.mp hf]; simp
  covers := fun u hu => by rw [Nat.zero_testBit] at hu; cases hu
  begun := .inr rfl

theorem Bfs.key {adj : Nat → Nat} {st en V d v : Nat} {q : List (Nat × List Nat)} (B : Bfs adj st en V q) (hw : WalkTo adj 0 st d v) (hv : V.testBit v = false) : ∃ e ∈ q, e.2.length ≤ d + 1 ∧ (e.1 = v ∨ e.2.length ≤ d) := by
  induction hw with
  | zero =>
    rcases B.begun with h | rfl
    · rw [hv] at h; cases h
    · exact ⟨_, .head _, by simp, .inl rfl⟩
  | @succ d u v hu ha _ ih =>
    cases h : V.testBit u with
    | true =>
      obtain ⟨e, he, h1, h2⟩ := B.covers u h d hu v ha hv
      exact ⟨e, he, h2, .inl h1⟩
    | false =>
      obtain ⟨e, he, h1, _⟩ := ih h
      exact ⟨e, he, by omega, .inr h1⟩

theorem Bfs.front {adj : Nat → Nat} {st en V u : Nat} {p : List Nat} {q : List (Nat × List Nat)} (B : Bfs adj st en V ((u, p) :: q)) : ∀ e ∈ (u, p) :: q, p.length ≤ e.2.length ∧ e.2.length ≤ p.length + 1 := fun e he => by
  refine ⟨?_, B.spread _ (.head _) _ he⟩
  rcases List.mem_cons.mp he with rfl | he
  · exact Nat.le_refl _
  · exact (List.pairwise_cons.mp B.sorted).1 e he

theorem Bfs.found {adj : Nat → Nat} {st en V u : Nat} {p : List Nat} {q : List (Nat × List Nat)} (B : Bfs adj st en V ((u, p) :: q)) (ha : (adj u).testBit en = true) :
    PathTo adj st (p ++ [en]) en ∧ ∀ d, WalkTo adj 0 st d en → p.length ≤ d := by
  obtain ⟨h1, h2, h3⟩ := B.ok _ (.head _)
  refine ⟨.snoc h1 ha (fun hm => ?_), fun d hd => ?_⟩
  · rcases h3 en hm with h | h
    · exact h2 h.symm
    · rw [B.off] at h; cases h
  · obtain ⟨e, he, _, h5⟩ := B.key hd B.off
    rcases h5 with h5 | h5
    · exact absurd h5 (B.ok e he).2.1
    · exact Nat.le_trans (B.front e he).1 h5

theorem Bfs.none {adj : Nat → Nat} {st en V : Nat} (B : Bfs adj st en V []) : ¬ Reach adj 0 st en := fun h => by
  obtain ⟨d, hd⟩ := reach_walk h
  obtain ⟨e, he, _⟩ := B.key hd B.off
  cases he

theorem Bfs.step {adj : Nat → Nat} {many st en V u : Nat} {p xs : List Nat} {q : List (Nat × List Nat)} (B : Bfs adj st en V ((u, p) :: q)) (h6 : many ≤ 6) (hst : st < many) (hsub : ∀ k, k < many → adj k < 2 ^ many)
    (hxs : ∀ x, x ∈ xs ↔ x < 6 ∧ (adj u).testBit x = true ∧ (V ||| 2 ^ u).testBit x = false) (hen : en ∉ xs) : Bfs adj st en (V ||| 2 ^ u) (q ++ xs.map fun v => (v, p ++ [v])) := by
  obtain ⟨h1, h2, h3⟩ := B.ok _ (.head _)
  dsimp only at h1 h2 h3
  have hu := (h1.lt hst hsub).1
  have grow : ∀ x, V.testBit x = true → (V ||| 2 ^ u).testBit x = true := fun x hx => by rw [or_pow_bit, hx]; rfl
  have self : (V ||| 2 ^ u).testBit u = true := by rw [or_pow_bit]; simp
  have hp : ∀ x ∈ p, (V ||| 2 ^ u).testBit x = true := fun x hx => by
    rcases h3 x hx with rfl | h
    · exact self
    · exact grow x h
  have fr := B.front
  have mid : ∀ e ∈ q ++ xs.map fun v => (v, p ++ [v]), p.length ≤ e.2.length ∧ e.2.length ≤ p.length + 1 := fun e he => by
    rcases List.mem_append.mp he with he | he
    · exact fr e (.tail _ he)
    · obtain ⟨v, _, rfl⟩ := List.mem_map.mp he; simp
  refine ⟨or_lt_dec V B.lt u (by omega), ?_, fun e he => ?_, ?_, fun e he f hf => ?_, fun u' hu' d hd v hv hV => ?_, ?_⟩
  · rw [or_pow_bit, B.off]; simpa using h2
  · rcases List.mem_append.mp he with he | he
    · obtain ⟨a, b, c⟩ := B.ok e (.tail _ he)
      exact ⟨a, b, fun x hx => (c x hx).imp id (grow x)⟩
    · obtain ⟨v, hv, rfl⟩ := List.mem_map.mp he
      obtain ⟨_, hv1, hv2⟩ := (hxs v).mp hv
      refine ⟨.snoc h1 hv1 (fun hm => by rw [hp v hm] at hv2; cases hv2), fun e => hen (e ▸ hv), fun x hx => ?_⟩
      rcases List.mem_append.mp hx with hx | hx
      · exact .inr (hp x hx)
      · exact .inl (List.mem_singleton.mp hx)
  · refine List.pairwise_append.mpr ⟨(List.pairwise_cons.mp B.sorted).2, ?_, fun e he f hf => ?_⟩
    · rw [List.pairwise_map]
      exact List.pairwise_of_forall (fun a b => by simp)
    · obtain ⟨v, _, rfl⟩ := List.mem_map.mp hf
      have := (fr e (.tail _ he)).2
      simpa using this
  · have := (mid e he).1; have := (mid f hf).2; omega
  · have old : V.testBit u' = true → ∃ e ∈ q ++ xs.map fun v => (v, p ++ [v]), e.1 = v ∧ e.2.length ≤ d + 2 := fun h => by
      have hVv : V.testBit v = false := by
        cases h' : V.testBit v with
        | false => rfl
        | true => rw [grow v h'] at hV; cases hV
      obtain ⟨e, he, ha, hb⟩ := B.covers u' h d hd v hv hVv
      rcases List.mem_cons.mp he with rfl | he
      · dsimp only at ha; subst ha; rw [self] at hV; cases hV
      · exact ⟨e, List.mem_append_left _ he, ha, hb⟩
    cases h : V.testBit u' with
    | true => exact old h
    | false =>
      rw [or_pow_bit, h, Bool.false_or, decide_eq_true_iff] at hu'
      subst hu'
      obtain ⟨e, he, ha, _⟩ := B.key hd h
      have := (fr e he).1
      refine ⟨(v, p ++ [v]), List.mem_append_right _ (List.mem_map.mpr ⟨v, (hxs v).mpr ⟨?_, hv, hV⟩, rfl⟩), rfl, ?_⟩
      · have := bit_small (hsub u hu) hv; omega
      · simp; omega
  · rcases B.begun with h | h
    · exact .inl (grow st h)
    · injection h with h _; injection h with h _; exact .inl (h ▸ self)

def bfsM (q : List (Nat × List Nat)) : Nat := (q.map fun e => 7 ^ (7 - e.2.length)).sum
theorem bfsM_len (q : List (Nat × List Nat)) : q.length ≤ bfsM q := by
  unfold bfsM
  induction q with
  | nil => exact Nat.le_refl _
  | cons e q ih =>
    rw [List.map_cons, List.sum_cons, List.length_cons]
    have : 1 ≤ 7 ^ (7 - e.2.length) := Nat.pow_pos (by omega)
    omega
theorem bfsM_new (p xs : List Nat) : bfsM (xs.map fun v => (v, p ++ [v])) = xs.length * 7 ^ (7 - (p.length + 1)) := by
  unfold bfsM
  induction xs with
  | nil => simp
  | cons x xs ih =>
    rw [List.map_cons, List.map_cons, List.sum_cons, ih, List.length_cons, Nat.succ_mul]
    simp only [List.length_append, List.length_singleton]
    omega
theorem bfsM_step {u : Nat} {p xs : List Nat} {q : List (Nat × List Nat)} (hp : p.length ≤ 6) (hx : xs.length ≤ 6) : bfsM (q ++ xs.map fun v => (v, p ++ [v])) < bfsM ((u, p) :: q) := by
  have e1 : bfsM (q ++ xs.map fun v => (v, p ++ [v])) = bfsM q + bfsM (xs.map fun v => (v, p ++ [v])) := by unfold bfsM; rw [List.map_append, List.sum_append]
  have e2 : bfsM ((u, p) :: q) = 7 ^ (7 - p.length) + bfsM q := by unfold bfsM; rw [List.map_cons, List.sum_cons]
  rw [e1, e2, bfsM_new]
  have e3 : 7 - p.length = (7 - (p.length + 1)) + 1 := by omega
  rw [e3, Nat.pow_succ]
  have h1 : 1 ≤ 7 ^ (7 - (p.length + 1)) := Nat.pow_pos (by omega)
  have h2 := Nat.mul_le_mul_right (7 ^ (7 - (p.length + 1))) hx
  omega
end Mine
end
section
open PySem PySem.W PyProof.Rows PySem.Calls
set_option linter.unusedVariables false
set_option maxHeartbeats 4000000
set_option linter.unusedVariables false
namespace Mine
section
variable {prog : Program} {w : World} {A : Around} {E : Value → Shared → Prop} {s : Shared} {h h' h₀ : Heap} {L D S a c : Addr} {m : Str → Option Value} {news : List (Addr × Obj)} {gl : Obj → List (Addr × Obj)} {o o' : Obj} {xs : List Value} {st : Int}

theorem k_newdq {Q : Value → Shared → Prop} (Fm : Fr h₀ L s.heap m) (N : News h₀ L s.heap news)
    (hq : ∀ D h', Fr h₀ L h' m → News h₀ L h' ((D, dq [] 0) :: news) → (∀ p ∈ news, p.1 < D) → Q (.ref D) { s with heap := h' }) :
    wpAny (model prog w) A (call (.type "collections.deque") []) Q E s :=
  call_deque0 fun h' M => hq _ h' (M.mk'.fr Fm) (M.mk'.news Fm N) (M.mk'.lt N)
theorem k_dqmeth {name : Str} {id : String} {pl : Sem Bool} {Q : Value × List Value → Shared → Prop} (N : News h₀ L s.heap news) (hm : (a, dq xs st) ∈ news) (slot : Slot "collections.deque" name id)
    (hty : typeOf (.builtin id) = pure (.type "method_descriptor")) (hq : Q (.builtin id, [.ref a]) s) :
    wpAny (model prog w) A (getMethod (.ref a) name pl) Q E s := method_of (N.get hm) rfl rfl plainAttrs_dq slot hty hq
theorem k_dqappend {x : Value} {Q : Value → Shared → Prop} (F : Fr h₀ L s.heap m) (N : News h₀ L s.heap news) (U : UpdF a (dq xs st) news gl) (hz : xs.length ≤ 1000000)
    (hq : ∀ h', Fr h₀ L h' m → News h₀ L h' (gl (dq (xs ++ [x]) (st + 1))) → Q .none { s with heap := h' }) :
    wpAny (model prog w) A (call (.builtin "collections.deque.append") [.ref a, x]) Q E s :=
  call_dq_append (upd_at N U) (by rw [sizeLine_eq]; omega) fun h' p q => have ⟨F', N'⟩ := fn_upd F N U (fun x y hx e => (p.2 x hx).trans e) q; hq h' F' N'
theorem k_dqpop {x : Value} {Q : Value → Shared → Prop} (F : Fr h₀ L s.heap m) (N : News h₀ L s.heap news) (U : UpdF a (dq (x :: xs) st) news gl) (hz : xs.length ≤ 1000000)
    (hq : ∀ h', Fr h₀ L h' m → News h₀ L h' (gl (dq xs (st + 1))) → Q x { s with heap := h' }) :
    wpAny (model prog w) A (call (.builtin "collections.deque.popleft") [.ref a]) Q E s :=
  call_dq_popleft (upd_at N U) (by rw [sizeLine_eq]; omega) fun h' p q => have ⟨F', N'⟩ := fn_upd F N U (fun x y hx e => (p.2 x hx).trans e) q; hq h' F' N'
theorem k_truthyDqNil {Q : Bool → Shared → Prop} (N : News h₀ L s.heap news) (hm : (a, dq [] st) ∈ news) (hq : Q false { s with toks := s.toks + 1 + 1 }) :
    wpAny (model prog w) A (truthy (.ref a)) Q E s := truthy_dq (N.get hm) (by rw [sizeLine_eq]; simp) hq
theorem k_truthyDqCons {x : Value} {Q : Bool → Shared → Prop} (N : News h₀ L s.heap news) (hm : (a, dq (x :: xs) st) ∈ news) (hz : xs.length ≤ 1000000) (hq : Q true { s with toks := s.toks + 1 + 1 }) :
    wpAny (model prog w) A (truthy (.ref a)) Q E s := truthy_dq (N.get hm) (by rw [sizeLine_eq]; simp; omega) hq
theorem k_addl {vs ws : List Value} {n k : Nat} {Q : Value → Shared → Prop} (F : Fr h₀ L s.heap m) (N : News h₀ L s.heap news) (ha : (a, lst vs.toArray n) ∈ news) (hc : (c, lst ws.toArray k) ∈ news) (hz : vs.length + ws.length ≤ 1000)
    (hq : ∀ D h', Fr h₀ L h' m → News h₀ L h' ((D, lst (vs ++ ws).toArray 0) :: news) → (∀ p ∈ news, p.1 < D) → Q (.ref D) { s with heap := h' }) :
    wpAny (model prog w) A (binaryOp .Add (.ref a) (.ref c)) Q E s :=
  add_lists F N ⟨_, N.get ha, rfl, n, rfl⟩ ⟨_, N.get hc, rfl, k, rfl⟩ (fun h' F' N' => hq _ h' F' N' fun p hp => Heap.lt_size (N p hp).1) (by rw [sizeLine_eq]; omega)

theorem off_of_lt {d : Addr} {l : List (Addr × Obj)} (h : AllLt d l) : ∀ p ∈ l, p.1 ≠ d := by
  induction l with
  | nil => exact fun p hp => nomatch hp
  | cons q l ih =>
    intro p hp
    rcases List.mem_cons.mp hp with rfl | hp
    · exact Nat.ne_of_lt h.1
    · exact ih h.2 p hp
end

abbrev tup2 (a b : Value) : Obj := { cls := .type "tuple", data := .seq #[a, b] }
/-- the queue's items lie in the ledger -/
inductive QIn (rest : List (Addr × Obj)) : List Value → List (Nat × List Nat) → Prop
  | nil : QIn rest [] []
  | cons {items : List Value} {q : List (Nat × List Nat)} (a l : Addr) (n : Nat) (t : Tok) (vs : List Value) (c : Nat) (p : List Nat) : (a, tup2 (.int (Int.ofNat n) t) (.ref l)) ∈ rest → (l, lst vs.toArray c) ∈ rest → IntsAre vs (p.map Int.ofNat) → QIn rest items q → QIn rest (.ref a :: items) ((n, p) :: q)
theorem QIn.mono {rest rest' : List (Addr × Obj)} {items : List Value} {q : List (Nat × List Nat)} (h : QIn rest items q) (hs : ∀ p ∈ rest, p ∈ rest') : QIn rest' items q := by
  induction h with
  | nil => exact .nil
  | cons a l n t vs c p h1 h2 h3 _ ih => exact .cons a l n t vs c p (hs _ h1) (hs _ h2) h3 ih
theorem QIn.append {rest : List (Addr × Obj)} {items items' : List Value} {q q' : List (Nat × List Nat)} (h : QIn rest items q) (h' : QIn rest items' q') : QIn rest (items ++ items') (q ++ q') := by
  induction h with
  | nil => exact h'
  | cons a l n t vs c p h1 h2 h3 _ ih => exact .cons a l n t vs c p h1 h2 h3 ih
theorem QIn.length {rest : List (Addr × Obj)} {items : List Value} {q : List (Nat × List Nat)} (h : QIn rest items q) : items.length = q.length := by
  induction h with
  | nil => rfl
  | cons a l n t vs c p h1 h2 h3 _ ih => simp [ih]
end Mine
end
section
open PySem PySem.W PyProof.Rows PySem.Calls
set_option linter.unusedVariables false
set_option maxHeartbeats 4000000
namespace Mine

def fsM (vadj vnode vpath : Option Value) (v9 f9 ga : Addr) (ev sv : Value) : Str → Option Value := fun y =>
  if y = Str.ofString "adjascent_node" then vadj else if y = Str.ofString "node" then vnode else if y = Str.ofString "path" then vpath else
  if y = Str.ofString "visited" then some (.ref v9) else if y = Str.ofString "fifo" then some (.ref f9) else if y = Str.ofString "end" then some ev else if y = Str.ofString "start" then some sv else if y = Str.ofString "graph" then some (.ref ga) else none
theorem fs_ext {m m' : Str → Option Value} (h1 : m (Str.ofString "adjascent_node") = m' (Str.ofString "adjascent_node")) (h2 : m (Str.ofString "node") = m' (Str.ofString "node")) (h3 : m (Str.ofString "path") = m' (Str.ofString "path"))
    (h5 : ∀ y, y ≠ Str.ofString "adjascent_node" → y ≠ Str.ofString "node" → y ≠ Str.ofString "path" → m y = m' y) : m = m' := by
  funext y
  by_cases a : y = Str.ofString "adjascent_node"
  · subst a; exact h1
  by_cases b : y = Str.ofString "node"
  · subst b; exact h2
  by_cases c : y = Str.ofString "path"
  · subst c; exact h3
  exact h5 y a b c
theorem _root_.PyProof.Rows.Fr.fs {g h : Heap} {L : Addr} {m : Str → Option Value} (F : Fr g L h m) {vadj vnode vpath : Option Value} {v9 f9 ga : Addr} {ev sv : Value}
    (h1 : m (Str.ofString "adjascent_node") = vadj := by rfl) (h2 : m (Str.ofString "node") = vnode := by rfl) (h3 : m (Str.ofString "path") = vpath := by rfl)
    (h5 : ∀ y, y ≠ Str.ofString "adjascent_node" → y ≠ Str.ofString "node" → y ≠ Str.ofString "path" → m y = fsM vadj vnode vpath v9 f9 ga ev sv y := by intro y a b c; simp only [fsM, if_neg a, if_neg b, if_neg c, lookup_ite, List.lookup_nil]) :
    Fr g L h (fsM vadj vnode vpath v9 f9 ga ev sv) := by
  have e : m = fsM vadj vnode vpath v9 f9 ga ev sv := fs_ext h1 h2 h3 h5
  rw [← e]; exact F
theorem fs_fr0 {g h : Heap} {L' l v f ga : Addr} {ev sv : Value} (F : Fr g L' h (fun y => if y = Str.ofString "visited" then some (Value.ref v) else if y = Str.ofString "fifo" then some (Value.ref f) else if y = Str.ofString "path" then some (Value.ref l) else List.lookup y [(Str.ofString "end", ev), (Str.ofString "start", sv), (Str.ofString "graph", Value.ref ga)])) :
    Fr g L' h (fsM none none (some (.ref l)) v f ga ev sv) := F.fs

local macro_rules | `(tactic| ktr_rel) => `(tactic| first | (with_reducible assumption) | exact setAt_news (by k_asm) (by k_mem) (by k_asm) | exact setAt_base (by k_asm) (by k_asm))
local macro_rules | `(tactic| k_mem) => `(tactic| assumption)
local macro_rules | `(tactic| walk_at "exec While Name cons nil") => `(tactic| refine held ?_)
local macro_rules | `(tactic| walk_at "exec For Name BinOp cons nil") => `(tactic| refine held ?_)
local macro_rules | `(tactic| walk_at "pyIter ref") => `(tactic| refine held ?_)
local macro_rules | `(tactic| k_all) => `(tactic| first | exact List.forall_mem_nil _ | assumption | (refine' List.forall_mem_cons.mpr ⟨?a, ?b⟩; (case a => first | assumption | k_ne); (case b => k_all)))
local macro_rules | `(tactic| walk_at "newList") => `(tactic| (k_here; k_dflt (refine' k_newlist ?F ?N ?z ?_; (case F => k_asm); (case N => k_asm); (case z => decide)); intro d' h' F' N' l1; (try k_lt l1)))
local macro_rules | `(tactic| walk_at "call type:set nil nil") => `(tactic| (k_here; k_dflt (refine k_newset (by k_asm) (by k_asm) ?_); intro d' h' o' F' N' l1 hs'; (try k_lt l1)))
local macro_rules | `(tactic| walk_at "call type:collections.deque nil nil") => `(tactic| (k_here; k_dflt (refine k_newdq (by k_asm) (by k_asm) ?_); intro d' h' F' N' l1; (try k_lt l1)))
local macro_rules | `(tactic| walk_at "getMethod ref") => `(tactic| (k_here; (with_reducible show wpAny _ _ (getMethod (Value.ref _) (PySem.Str.ofString "append") _) _ _ _); k_dflt (refine' k_dqmeth ?N ?h slot_dq_append type_dq_append ?_; (case N => k_asm); (case h => k_mem))))
local macro_rules | `(tactic| walk_at "getMethod ref") => `(tactic| (k_here; (with_reducible show wpAny _ _ (getMethod (Value.ref _) (PySem.Str.ofString "popleft") _) _ _ _); k_dflt (refine' k_dqmeth ?N ?h slot_dq_popleft type_dq_popleft ?_; (case N => k_asm); (case h => k_mem))))
local macro_rules | `(tactic| walk_at "getMethod ref") => `(tactic| (k_here; (with_reducible show wpAny _ _ (getMethod (Value.ref _) (PySem.Str.ofString "add") _) _ _ _); k_dflt (refine' k_setmeth ?N ?h ?S ?_; (case N => k_asm); (case h => k_mem); (case S => k_asm))))
local macro_rules | `(tactic| walk_at "call builtin:collections.deque.append") => `(tactic| (k_here; k_dflt (refine' k_dqappend ?F ?N ?U ?z ?_; (case F => k_asm); (case N => k_asm); (case U => k_updF); (case z => first | omega | exact Nat.zero_le _)); intro h' F' N'; (try dsimp only at N')))
local macro_rules | `(tactic| walk_at "call builtin:collections.deque.popleft") => `(tactic| (k_here; k_dflt (refine' k_dqpop ?F ?N ?U ?z ?_; (case F => k_asm); (case N => k_asm); (case U => k_updF); (case z => omega)); intro h' F' N'; (try dsimp only at N')))
local macro_rules | `(tactic| walk_at "call builtin:set.add") => `(tactic| (k_here; k_dflt (refine' k_setadd ?F ?N ?U ?d ?x ?_; (case F => k_asm); (case N => k_asm); (case U => k_updF); (case d => k_asm); (case x => omega)); intro h' o' F' N' hs'; (try dsimp only at N')))
local macro_rules | `(tactic| walk_at "truthy ref") => `(tactic| (k_here; k_dflt (first | (refine' k_truthyDqNil ?N ?h ?_; (case N => k_asm); (case h => k_mem)) | (refine' k_truthyDqCons ?N ?h ?z ?_; (case N => k_asm); (case h => k_mem); (case z => omega)))))
local macro_rules | `(tactic| walk_at "subscriptTail") => `(tactic| (k_here; k_dflt (refine' graph_tail (GraphAt.keep ?G (Fr.keep ?F)) ?k ?_; (case F => k_asm); (case G => k_asm); (case k => omega)); intro a' S'))
local macro_rules | `(tactic| walk_at "binaryOp Sub") => `(tactic| (k_here; k_dflt (refine' k_sub ?F ?N ?A ?C ?z ?_; (case F => k_asm); (case N => k_asm); (case A => ktr_rel); (case C => ktr_rel); (case z => assumption)); intro d' h' o' F' N' l1 hs'; (try k_lt l1)))
local macro_rules | `(tactic| walk_at "binaryOp Add ref ref") => `(tactic| (k_here; k_dflt (refine' k_addl ?F ?N ?a ?b ?z ?_; (case F => k_asm); (case N => k_asm); (case a => k_mem); (case b => k_mem); (case z => simp only [List.length_cons, List.length_nil]; omega)); intro d' h' F' N' l1; (try k_lt l1)))

local macro_rules | `(tactic| walk_at "assign Tuple") => `(tactic| (k_here; (with_reducible show wpAny _ _ (assign (Expr.Tuple _ _ _) _ (Value.ref _)) _ _ _); k_dflt (refine' unpackN_ (items := #[_, _]) ?k1 ?k2 ?k3 ?k4 ?k5 ?k6 ?_; (case k1 => k_asm); (case k2 => k_asm); (case k3 => exact News.isTup (by k_asm) (by k_mem)); (case k4 => first | exact rfl | assumption); (case k5 => exact rfl); (case k6 => exact rfl)); intro h' F' N'))
def FsPre (w : World) (g : Heap) (L' : Addr) (h : Heap) (ga : Addr) (st en : Nat) (tk tke : Tok) : Prop :=
  ∃ (l9 f9 v9 t9 : Addr) (o₀ : Obj) (vs : List Value) (c : Nat) (k : Int) (tk' : Tok), (@LT.lt Nat _ l9 f9 ∧ @LT.lt Nat _ f9 t9 ∧ @LT.lt Nat _ t9 v9) ∧ SetB w 0 o₀ ∧ IntsAre vs ([st].map Int.ofNat) ∧
    News g L' h [(v9, o₀), (t9, tup2 (.int (Int.ofNat st) tk') (.ref l9)), (f9, dq [.ref t9] k), (l9, lst vs.toArray c)] ∧
    Fr g L' h (fsM none none (some (.ref l9)) v9 f9 ga (.int (Int.ofNat en) tke) (.int (Int.ofNat st) tk))
theorem bfsM_init {st : Nat} : bfsM [(st, [st])] ≤ 117649 := by unfold bfsM; simp
theorem perm4 {α : Type} {v t f l : α} : ∀ p ∈ [f, v, t, l], p ∈ [v, t, f, l] := by
  intro p hp; simp only [List.mem_cons] at hp ⊢; rcases hp with h | h | h | h | h <;> simp [h]
theorem perm7 {α : Type} {a b c k s f v : α} {r : List α} : ∀ p ∈ k :: s :: f :: v :: a :: b :: c :: r, p ∈ a :: b :: c :: k :: s :: f :: v :: r := by
  intro p hp; simp only [List.mem_cons] at hp ⊢; rcases hp with h | h | h | h | h | h | h | h <;> simp [h]
theorem off4 {a b c : Addr × Obj} {r : List (Addr × Obj)} {K : Addr} (h : ∀ p ∈ a :: b :: c :: r, p.1 ≠ K) : a.1 ≠ K ∧ b.1 ≠ K ∧ c.1 ≠ K ∧ ∀ p ∈ r, p.1 ≠ K :=
  ⟨h a (by simp), h b (by simp), h c (by simp), fun p hp => h p (by simp [hp])⟩
theorem off_cons {a : Addr × Obj} {r : List (Addr × Obj)} {K : Addr} (h1 : a.1 ≠ K) (h2 : ∀ p ∈ r, p.1 ≠ K) : ∀ p ∈ a :: r, p.1 ≠ K := List.forall_mem_cons.mpr ⟨h1, h2⟩
theorem dqin {st : Nat} {l9 t9 : Addr} {vs : List Value} {c : Nat} {tk : Tok} (h : IntsAre vs ([st].map Int.ofNat)) : QIn [(t9, tup2 (.int (Int.ofNat st) tk) (.ref l9)), (l9, lst vs.toArray c)] [.ref t9] [(st, [st])] :=
  .cons t9 l9 st tk vs c [st] (.head _) (.tail _ (.head _)) h .nil

theorem fsp {w : World} {A A₀ : Around} {s : Shared} {base h₀ : Heap} {outer : List Env} {L : Addr} {m : Str → Option Value} {env : Env}
  {mean : ExcName → Option Value} {mg mb : Str → Option Value} {Q E : Value → Shared → Prop} {ga : Addr} {st en : Nat} {tks tke : Tok} {many : Nat} {adj : Nat → Nat}
  (B : Below A₀ base outer h₀) (F : Fr h₀ L s.heap m) (X₀ : (Mine.hd.heap_39 w.params).In h₀)
  (T : Top Mine.hd.view_39 (looseW Mine.hd.view_39 [Str.ofString "find_connected_nodes"]) mean mg mb h₀) (hA : A.frames = some (env :: outer)) (hf : env.frame = some L) (hke : env.scope.kind = .function)
  (hroom : A.depth < recursionLimit) (hhd : A.handled = none)
  (G : GraphAt PySem.Challenge.rw_fb0020_01.row.prog w s.heap ga many adj) (hst : st < many) (hen : en < many)
  (retN : ∀ h' tk', (∀ b o, s.heap.get? b = some o → h'.get? b = some o) → ¬ Reach adj 0 st en → Q .none { s with heap := h', toks := tk' })
  (retL : ∀ ra h' tk' vs c p, (∀ b o, s.heap.get? b = some o → h'.get? b = some o) → h'.get? ra = some (lst (List.toArray vs) c) → IntsAre vs (p.map Int.ofNat) → PathTo adj st p en → (∀ d, WalkTo adj 0 st d en → p.length ≤ d + 1) → s.heap.get? ra = none → Q (.ref ra) { s with heap := h', toks := tk' }) :
  wpAny (model PySem.Challenge.rw_fb0020_01.row.prog w) A (call (.ref 39) [.ref ga, .int (Int.ofNat st) tks, .int (Int.ofNat en) tke]) Q E s := by
  revert X₀; k_fill; intro X₀
  k_dflt (refine' call_hid (K := Mine.hd.heap_39 w.params) B F X₀ News.nil T hA hf hke ?k6 ?k7 hroom ?k9 ?kB ?_ ?c2 ?c3 ?c4 ?c5)
  case k6 => k_is
  case k7 => k_is
  case k9 => exact BindsTo.of_eq rfl
  case c5 => decide
  case kB => exact locs rfl
  case c2 => exact rfl
  case c3 => exact rfl
  case c4 => exact rfl
  intro g L' h' keepG backG F' N' B' X' T' ltG
  have keepG' : ∀ b o, s.heap.get? b = some o → g.get? b = some o := fun b o e => keepG b o e (fun h => nomatch h)
  have Gg := G.keep keepG'
  have h6 := Gg.le
  dsimp only
  clear F X₀ T B G
  k_steps
  · rename Fr _ _ _ _ => F1; rename News _ _ _ _ => N1; rename Int.ofNat st = Int.ofNat en => he
    obtain rfl : st = en := Int.ofNat.inj he
    exact retL _ _ _ _ _ [st] (fun b o e => F1.keep b o (keepG' b o e)) (N1 _ (.head _)).1 (.cons _ _ .nil) .one (fun d _ => by simp) (none_of (N1 _ (.head _)).2.2 keepG (fun h => nomatch h))
  rename Int.ofNat st ≠ Int.ofNat en => hne0
  have hne : st ≠ en := fun e => hne0 (e ▸ rfl)
  unfold Held; rename Fr _ _ _ _ => F1; rename News _ _ _ _ => N1; rename SetB w 0 _ => S1
  have pack : FsPre w g L' _ ga st en tks tke := ⟨_, _, _, _, _, _, _, _, _, ⟨by omega, by omega, by omega⟩, S1, .cons _ _ .nil, N1, fs_fr0 F1⟩
  clear F1 N1 S1
  obtain ⟨l9, f9, v9, t9, o₀, vs, c, k, tk', ⟨g1, g2, g3⟩, S1, I1, N1, F1⟩ := pack
  have hfv : f9 ≠ v9 := by k_ne
  refine While_inv2 (n₀ := bfsM [(st, [st])]) (fun n m₁ news₁ => n ≤ 117649 ∧ ∃ (V : Nat) (so : Obj) (q : List (Nat × List Nat)) (items : List Value) (k : Int) (rest : List (Addr × Obj)) (v1 v2 v3 : Option Value),
      m₁ = fsM v1 v2 v3 v9 f9 ga (.int (Int.ofNat en) tke) (.int (Int.ofNat st) tks) ∧ news₁ = (f9, dq items k) :: (v9, so) :: rest ∧ SetB w V so ∧ QIn rest items q ∧ Bfs adj st en V q ∧
      (∀ p ∈ rest, p.1 ≠ f9) ∧ (∀ p ∈ rest, p.1 ≠ v9) ∧ n = bfsM q) F1 (News.sub N1 perm4) ?_ ?_ passes_false
  · exact ⟨bfsM_init, 0, o₀, [(st, [st])], _, _, _, _, _, _, rfl, rfl, S1, dqin I1, Bfs.init hne, off_cons (by k_ne) (off_cons (by k_ne) (fun _ h => nomatch h)), off_cons (by k_ne) (off_cons (by k_ne) (fun _ h => nomatch h)), rfl⟩
  clear F1 N1 S1 I1 g1 g2 g3
  replace hfv := neN hfv
  rintro n m₁ news₁ h₁ tk₁ F2 N2 ⟨hn, V, so, q, items, k, rest, v1, v2, v3, rfl, rfl, S2, Q2, B2, hr1, hr2, rfl⟩
  have hql := bfsM_len q
  have hil := Q2.length
  unfold fsM at F2
  cases Q2 with
  | nil =>
    k_steps
    exact retN _ _ (fun b o e => F2.keep b o (keepG' b o e)) B2.none
  | @cons items q a lp u tu vs c p hta hlp hip Q2 =>
    simp only [List.length_cons] at hql hil
    obtain ⟨hP, hun, hpv⟩ := B2.ok _ (.head _)
    dsimp only at hP hun hpv
    have hum := (hP.lt hst Gg.sub).1
    have hpl := hP.len hst Gg.sub
    have hvl := hip.length
    rw [List.length_map] at hvl
    have hor := or_pow_ne V u
    k_steps
    unfold Held
    refine wpAny_For ?_
    k_steps
    unfold Held
    rename Fr _ _ _ _ => F3; rename News _ _ _ _ => N3; rename SetB w (less _ _) _ => S3; rename f9 < _ ∧ _ => hlt; rename SetB w (V ||| 2 ^ u) _ => S4
    rename_i o2 _ _ _ _ s9 h9 o9
    refine for_set hhd F3.fs N3 (a := s9) (by k_mem) S3 (by rfl) (by rfl)
      (fun pre m₂ news₂ => ∃ (items2 : List Value) (k2 : Int) (rest2 : List (Addr × Obj)) (v1' : Option Value), m₂ = fsM v1' (some (.int (Int.ofNat u) tu)) (some (.ref lp)) v9 f9 ga (.int (Int.ofNat en) tke) (.int (Int.ofNat st) tks) ∧
        news₂ = (s9, o9) :: (f9, dq items2 k2) :: (v9, o2) :: rest2 ∧ QIn rest2 items2 (q ++ pre.map fun v => (v, p ++ [v])) ∧ (lp, lst vs.toArray c) ∈ rest2 ∧ (∀ p ∈ rest2, p.1 ≠ f9) ∧ (∀ p ∈ rest2, p.1 ≠ v9) ∧ en ∉ pre)
      ⟨items, k + 1, rest, _, rfl, rfl, by simpa using Q2, hlp, hr1, hr2, List.not_mem_nil⟩ (by rintro i m₁ news₁ ⟨items2, k2, rest2, v1', rfl, rfl, r⟩; exact .head _) ?_ ?_
    · clear Q2 hlp hr1 hr2 F3 N3 hta
      rintro K xs pre z post zt m₁ news₁ h tk oK hperm hsplit ⟨items2, k2, rest2, v1', rfl, rfl, Q3, hlp, hr1, hr2, hnen⟩ hneK hK F4 N4
      k_lt hK
      obtain ⟨n1, n2, n3, n4⟩ := off4 hneK
      have hxs : ∀ x, x ∈ xs ↔ x < 6 ∧ (adj u).testBit x = true ∧ (V ||| 2 ^ u).testBit x = false := fun x => by
        rw [← less_mem (Gg.lt64 hum) S4.lt, hperm.mem_iff]
        exact ⟨fun hx => els_mem_dec _ S3.lt x hx, fun hx => (els_iff_dec _ S3.lt x hx.1).mp hx.2⟩
      obtain ⟨hz6, hzu, hzV⟩ := (hxs z).mp (hsplit ▸ List.mem_append_right _ (.head _))
      have hpre : pre.length ≤ 6 := by
        have h1 := hperm.length_eq
        have h2 := len_dec _ S3.lt
        rw [hsplit, List.length_append] at h1
        omega
      have hil3 := Q3.length
      rw [List.length_append, List.length_map] at hil3
      have F5 : Fr g L' h (fsM (some (.int (Int.ofNat z) zt)) (some (.int (Int.ofNat u) tu)) (some (.ref lp)) v9 f9 ga (.int (Int.ofNat en) tke) (.int (Int.ofNat st) tks)) := F4.fs
      replace N4 : News g L' h _ := N4
      clear F4
      unfold fsM at F5
      k_steps
      · rename Fr _ _ _ _ => F7; rename News _ _ _ _ => N7; rename Int.ofNat z = Int.ofNat en => he
        obtain rfl : z = en := Int.ofNat.inj he
        have hfd := B2.found hzu
        exact retL _ _ _ _ _ (p ++ [z]) (fun b o e => F7.keep b o (keepG' b o e)) (N7 _ (.head _)).1 (by rw [List.map_append]; exact ints_append hip (.cons _ _ .nil)) hfd.1
          (fun d hd => by rw [List.length_append, List.length_singleton]; exact Nat.succ_le_succ (hfd.2 d hd)) (none_of (N7 _ (.head _)).2.2 keepG (fun h => nomatch h))
      · rename Fr _ _ _ _ => F7; rename News _ _ _ _ => N7; rename Int.ofNat z ≠ Int.ofNat en => hze
        exact ⟨_, _, _, _, rfl, F7.fs, News.sub N7 perm7, off_cons n1 (off_cons n2 (off_cons n3 (off_cons (by k_ne) (off_cons (by k_ne) (off_cons (by k_ne) n4))))), items2 ++ [_], k2 + 1, _ :: _ :: _ :: rest2, _, rfl, rfl,
          by rw [List.map_append, ← List.append_assoc]; exact (Q3.mono (fun p hp => .tail _ (.tail _ (.tail _ hp)))).append (.cons _ _ z zt _ 0 (p ++ [z]) (.head _) (.tail _ (.head _)) (by rw [List.map_append]; exact ints_append hip (.cons _ _ .nil)) .nil),
          .tail _ (.tail _ (.tail _ hlp)), off_cons (by k_ne) (off_cons (by k_ne) (off_cons (by k_ne) hr1)), off_cons (by k_ne) (off_cons (by k_ne) (off_cons (by k_ne) hr2)),
          fun hm => by
            rcases List.mem_append.mp hm with hm | hm
            · exact hnen hm
            · exact hze (by rw [List.mem_singleton.mp hm])⟩
    · clear Q2 hlp hr1 hr2 F3 N3 hta
      rintro xs m₁ news₁ h tk hperm ⟨items2, k2, rest2, v1', rfl, rfl, Q3, hlp, hr1, hr2, hnen⟩ F4 N4
      have hxs : ∀ x, x ∈ xs ↔ x < 6 ∧ (adj u).testBit x = true ∧ (V ||| 2 ^ u).testBit x = false := fun x => by
        rw [← less_mem (Gg.lt64 hum) S4.lt, hperm.mem_iff]
        exact ⟨fun hx => els_mem_dec _ S3.lt x hx, fun hx => (els_iff_dec _ S3.lt x hx.1).mp hx.2⟩
      have hxl : xs.length ≤ 6 := by rw [hperm.length_eq]; exact len_dec _ S3.lt
      have hstep := bfsM_step (u := u) (q := q) (Nat.le_trans hpl h6) hxl
      refine wpAny_execs_nil ?_
      exact ⟨_, _, _, _, bfsM (q ++ xs.map fun v => (v, p ++ [v])), rfl, F4, News.sub N4 (fun p hp => .tail _ hp), hstep, Nat.le_trans (Nat.le_of_lt hstep) hn, V ||| 2 ^ u, o2, _, items2, k2, rest2, _, _, _, rfl, rfl, S4, Q3, B2.step h6 hst Gg.sub hxs hnen, hr1, hr2, rfl⟩
end Mine
end
section
open PySem PySem.W PyProof.Rows PySem.Calls
set_option linter.unusedVariables false
set_option maxHeartbeats 4000000
namespace Mine
local macro_rules | `(tactic| walk_at "compareOp NotIn int ref") => `(tactic| (k_here; k_dflt (refine' graph_notIn (GraphAt.keep ?G (Fr.keep ?F)) ?_; (case F => k_asm); (case G => k_asm))))
theorem fcnN {w : World} {A A₀ : Around} {s : Shared} {base h₀ : Heap} {outer : List Env} {L : Addr} {m : Str → Option Value} {env : Env}
  {mean : ExcName → Option Value} {mg mb : Str → Option Value} {Q E : Value → Shared → Prop} {ga : Addr} {st : Nat} {tks : Tok} {many : Nat} {adj : Nat → Nat}
  (B : Below A₀ base outer h₀) (F : Fr h₀ L s.heap m) (X₀ : (Mine.hd.heap_39 w.params).In h₀)
  (T : Top Mine.hd.view_39 (looseW Mine.hd.view_39 [Str.ofString "find_connected_nodes"]) mean mg mb h₀) (hA : A.frames = some (env :: outer)) (hf : env.frame = some L) (hke : env.scope.kind = .function)
  (hroom : A.depth < recursionLimit)
  (G : GraphAt PySem.Challenge.rw_fb0020_01.row.prog w s.heap ga many adj) (hst : many ≤ st)
  (ret : ∀ h' tk', (∀ b o, s.heap.get? b = some o → h'.get? b = some o) → Q .none { s with heap := h', toks := tk' }) :
  wpAny (model PySem.Challenge.rw_fb0020_01.row.prog w) A (call (.ref 47) [.ref ga, .int (Int.ofNat st) tks]) Q E s := by
  revert X₀; k_fill; intro X₀
  k_dflt (refine' call_hid (K := Mine.hd.heap_39 w.params) B F X₀ News.nil T hA hf hke ?k6 ?k7 hroom ?k9 ?kB ?_ ?c2 ?c3 ?c4 ?c5)
  case k6 => k_is
  case k7 => k_is
  case k9 => exact binds_K (by k_in) rfl (by k_is) rfl rfl rfl
  case c5 => decide
  case kB => exact locs rfl
  case c2 => exact rfl
  case c3 => exact rfl
  case c4 => exact rfl
  intro g L' h' keepG backG F' N' B' X' T' ltG
  have keepG' : ∀ b o, s.heap.get? b = some o → g.get? b = some o := fun b o e => keepG b o e (fun h => nomatch h)
  have Gg := G.keep keepG'
  dsimp only
  clear F X₀ T B G
  k_steps
  · rename Fr _ _ _ _ => F1
    exact ret _ _ (fun b o e => F1.keep b o (keepG' b o e))
  all_goals (exfalso; omega)
end Mine
end
section
open PySem PySem.W PyProof.Rows PySem.Calls
set_option linter.unusedVariables false
set_option maxHeartbeats 4000000
set_option linter.unusedVariables false
namespace Mine
def RangeO (n : Nat) (o : Obj) : Prop := ∃ t u v, o = { cls := .type "range", dict := none, data := .fields #[.int 0 t, .int (Int.ofNat n) u, .int 1 v], slots := #[] }
section
variable {prog : Program} {w : World} {A : Around} {E : Value → Shared → Prop} {s : Shared} {env : Env} {h₀ : Heap} {L : Addr} {m : Str → Option Value} {news : List (Addr × Obj)} {x : Str} {px : Pos} {body : List Stmt} {R : Result → Shared → Prop}

theorem k_range {n : Nat} {t : Tok} {Q : Value → Shared → Prop} (Fm : Fr h₀ L s.heap m) (N : News h₀ L s.heap news)
    (hq : ∀ D h' tk o, Fr h₀ L h' m → News h₀ L h' ((D, o) :: news) → (∀ p ∈ news, p.1 < D) → RangeO n o → Q (.ref D) { s with heap := h', toks := tk }) :
    wpAny (model prog w) A (call (.type "range") [.int (Int.ofNat n) t]) Q E s := by
  refine call_range_1 ?_
  have M : Made s.heap (s.heap.push { cls := .type "range", data := .fields #[.int 0 s.toks, .int (Int.ofNat n) t, .int 1 (s.toks + 1)] }) _ := ⟨fun _ _ e => Heap.get?_push_of_some _ e, Heap.get?_push_size _ rfl⟩
  exact hq _ _ _ _ (M.mk'.fr Fm) (M.mk'.news Fm N) (M.mk'.lt N) ⟨_, _, _, rfl⟩

theorem iter_range {a : Addr} {n : Nat} {o : Obj} {Q : Value → Shared → Prop} (ho : s.heap.get? a = some o) (hr : RangeO n o) (hn : n ≤ 1000)
    (hq : ∀ h' oI, Made s.heap h' oI → IsRangeIter h' s.heap.objs.size 0 n 1 → Q (.ref s.heap.objs.size) { s with heap := h' }) :
    wpAny (model prog w) A (pyIter (.ref a)) Q E s := by
  obtain ⟨t, u, v, rfl⟩ := hr
  refine wpAny_pyIter_range (a := 0) (b := Int.ofNat n) (c := 1) (t := t) (u := u) (v := v) ho (small_one (by decide) (by decide) (by have := Int.natCast_nonneg n; simp only [Int.ofNat_eq_natCast]; omega) (by simp only [Int.ofNat_eq_natCast]; omega)) ?_
  have hsz : Builtin.Range.rangeSize 0 (Int.ofNat n) 1 = (n : Int) := by rw [rangeSize_nat]; simp
  rw [hsz]
  exact hq _ _ ⟨fun _ _ e => Heap.get?_push_of_some _ e, Heap.get?_push_size _ rfl⟩ (Heap.get?_push_size _ rfl)

theorem for_range {a : Addr} {n : Nat} {o : Obj} (hh : A.handled = none)
    (F : Fr h₀ env.locals s.heap m) (N : News h₀ env.locals s.heap news) (hm : (a, o) ∈ news) (hr : RangeO n o) (hn : n ≤ 1000) (hx : env.kindOf x = some .local)
    (hp : (env.scope.kind == .class || (env.scope.kind == .module && env.locals != env.globals)) = false)
    (J : Nat → (Str → Option Value) → List (Addr × Obj) → Prop) (hJ : J 0 m news) (hkeep : ∀ i m₁ news₁, J i m₁ news₁ → (a, o) ∈ news₁)
    (turn : ∀ I z zt m₁ news₁ h tk oI', z < n → J z m₁ news₁ → (∀ p ∈ news₁, p.1 ≠ I) → (∀ p ∈ news, p.1 < I) → Fr h₀ env.locals h (fun y => if y = x then some (.int (Int.ofNat z) zt) else m₁ y) → News h₀ env.locals h ((I, oI') :: news₁) →
      wpAny (model prog w) A (execs body env) (TurnEnd h₀ env.locals I oI' (J (z + 1)) s R) (fun _ _ => False) { s with heap := h, toks := tk })
    (done : ∀ m₁ news₁ h tk, J n m₁ news₁ → Fr h₀ env.locals h m₁ → News h₀ env.locals h news₁ → R (.ok .next) { s with heap := h, toks := tk }) :
    wpAny (model prog w) A (pyIter (.ref a)) (fun it s₂ => codeAny (model prog w) A (.forLoop (.Name x px) it body [] env) R s₂) E s := by
  have hlt : a < s.heap.objs.size := Heap.lt_size (N.get hm)
  refine iter_range (N.get hm) hr hn fun h' oI M hI => ?_
  have W := Walks.range (prog := prog) (w := w) hh s.heap.objs.size 0 1 n
  have W2 : Walks prog w A s.heap.objs.size [s.heap.objs.size, a] [s.heap.objs.size] n _ _ := W.mono_fp (fun b hb => by simp at hb; simp [hb])
  refine loop_walk (s := { s with heap := h' }) (oI := oI) (oa := o) W2 (fun i h st => ⟨_, st⟩) hx hp (M.mk'.fr F) (M.mk'.news F N) (fun p hp => Nat.ne_of_lt (M.mk'.lt N p hp)) ?_
    J hJ hkeep (fun i v m₁ news₁ h tk oI' hi hv j hne F' N' => ?_) done
  · simpa using hI
  · obtain ⟨t, rfl⟩ := hv
    have e : (0 : Int) + (i : Int) * 1 = Int.ofNat i := by simp
    rw [e] at F'
    exact turn _ i t m₁ news₁ h tk oI' hi j hne (fun p hp => M.mk'.lt N p hp) F' N'
end
end Mine
end
section
open PySem PySem.W PyProof.Rows PySem.Calls
set_option linter.unusedVariables false
set_option maxHeartbeats 4000000
set_option linter.unusedVariables false
namespace Mine
theorem lawMany {h₀ h : Heap} {L : Addr} {m : Str → Option Value} {k : Int} {t : Tok} (F : Fr h₀ L h (fun y => if y = Str.ofString "many" then some (.int (2 + k.fmod 5) t) else m y)) :
    ∃ (many : Nat) (tM : Tok), Fr h₀ L h (fun y => if y = Str.ofString "many" then some (.int (Int.ofNat many) tM) else m y) ∧ 2 ≤ many ∧ many ≤ 6 := by
  have h1 := Int.fmod_nonneg_of_pos k (b := 5) (by decide)
  have h2 := Int.fmod_lt_of_pos k (b := 5) (by decide)
  obtain ⟨n, hn⟩ := Int.eq_ofNat_of_zero_le (a := 2 + k.fmod 5) (by omega)
  refine ⟨n, t, ?_, by omega, by omega⟩
  rw [hn] at F
  exact F

theorem fr_self {h₀ h : Heap} {L : Addr} {m : Str → Option Value} (x : Str) (F : Fr h₀ L h m) : Fr h₀ L h (fun y => if y = x then m x else m y) := by
  have e : m = fun y => if y = x then m x else m y := by
    funext y
    by_cases h : y = x
    · subst h; rw [if_pos rfl]
    · rw [if_neg h]
  rw [← e]; exact F
/-- the graph, in parts -/
structure GraphB (w : World) (many z : Nat) (kvs : List (Int × Value)) (rest : List (Addr × Obj)) (adj : Nat → Nat) : Prop where
  len : kvs.length ≤ z
  at_ : ∀ k, k < z → ∃ a o, valueAt kvs (Int.ofNat k) = some (.ref a) ∧ (a, o) ∈ rest ∧ SetB w (adj k) o
  none : ∀ k, z ≤ k → valueAt kvs (Int.ofNat k) = none
  sub : ∀ k, k < z → adj k < 2 ^ many
theorem GraphB.init {w : World} {many : Nat} : GraphB w many 0 [] [] (fun _ => 0) where
  len := Nat.le_refl _
  at_ := fun k hk => absurd hk (Nat.not_lt_zero _)
  none := fun _ _ => rfl
  sub := fun k hk => absurd hk (Nat.not_lt_zero _)
theorem valueAt_app {kvs lvs : List (Int × Value)} {k : Int} : valueAt (kvs ++ lvs) k = (valueAt kvs k).or (valueAt lvs k) := by
  induction kvs with
  | nil => rfl
  | cons kv kvs ih =>
    rw [List.cons_append, valueAt_cons, valueAt_cons]
    split
    · rfl
    · exact ih
theorem GraphB.step {w : World} {many z b : Nat} {kvs : List (Int × Value)} {rest rest' : List (Addr × Obj)} {adj : Nat → Nat} {a : Addr} {o : Obj} (G : GraphB w many z kvs rest adj) (hs : ∀ p ∈ rest, p ∈ rest') (ha : (a, o) ∈ rest') (S : SetB w b o) (hb : b < 2 ^ many) :
    GraphB w many (z + 1) (kvs ++ [(Int.ofNat z, .ref a)]) rest' (fun k => if k = z then b else adj k) where
  len := by have := G.len; simp; omega
  at_ := fun k hk => by
    by_cases e : k = z
    · subst e
      refine ⟨a, o, ?_, ha, ?_⟩
      · rw [valueAt_app, G.none k (Nat.le_refl _), valueAt_cons, if_pos rfl]; rfl
      · rw [if_pos rfl]; exact S
    · obtain ⟨a', o', h1, h2, h3⟩ := G.at_ k (by omega)
      refine ⟨a', o', ?_, hs _ h2, ?_⟩
      · rw [valueAt_app, h1]; rfl
      · rw [if_neg e]; exact h3
  none := fun k hk => by
    rw [valueAt_app, G.none k (by omega), valueAt_cons, if_neg (by intro e; have := Int.ofNat.inj e; omega)]; rfl
  sub := fun k hk => by
    by_cases e : k = z
    · rw [if_pos e]; exact hb
    · rw [if_neg e]; exact G.sub k (by omega)
theorem GraphB.at' {prog : Program} {w : World} {h₀ h : Heap} {L gd : Addr} {og : Obj} {news : List (Addr × Obj)} {many : Nat} {kvs : List (Int × Value)} {rest : List (Addr × Obj)} {adj : Nat → Nat} (G : GraphB w many many kvs rest adj) (N : News h₀ L h news) (hg : (gd, og) ∈ news)
    (hs : ∀ p ∈ rest, p ∈ news) (hd : og.IsDictOf (intKind prog w) kvs) (lo : (gd == sysModules) = false) (h6 : many ≤ 6) : GraphAt prog w h gd many adj where
  lo := lo
  le := h6
  dict := ⟨kvs, Heap.dictOf_iff.mpr ⟨og, N.get hg, hd⟩, fun k hk => by obtain ⟨a, o, h1, h2, h3⟩ := G.at_ k hk; exact ⟨a, h1, o, N.get (hs _ h2), h3⟩, G.none⟩
  sub := G.sub
section
variable {prog : Program} {w : World} {A : Around} {E : Value → Shared → Prop} {s : Shared} {h₀ : Heap} {L a : Addr} {m : Str → Option Value} {news : List (Addr × Obj)}
theorem k_setints {vs : List Value} {xs : List Nat} {n : Nat} {Q : Value → Shared → Prop} (hh : A.handled = none) (F : Fr h₀ L s.heap m) (N : News h₀ L s.heap news) (hm : (a, lst vs.toArray n) ∈ news) (hI : IntsAre vs (xs.map Int.ofNat)) (hx : ∀ x ∈ xs, x < 6)
    (hq : ∀ D h' tk o, Fr h₀ L h' m → News h₀ L h' ((D, o) :: news) → (∀ p ∈ news, p.1 < D) → SetB w (orAll xs 0) o → Q (.ref D) { s with heap := h', toks := tk }) :
    wpAny (model prog w) A (call (.type "set") [.ref a]) Q E s :=
  call_set_ints hh ⟨_, N.get hm, rfl, n, rfl⟩ (by simpa using hI) hx fun h' tk o M S => hq _ h' tk o (M.fr F) (M.news F N) (M.lt N) S
end
theorem orAll_lt {many : Nat} {xs : List Nat} (h : ∀ x ∈ xs, x < many) : orAll xs 0 < 2 ^ many := by
  refine Nat.lt_pow_two_of_testBit _ fun i hi => ?_
  rw [orAll_bit, Nat.zero_testBit, Bool.false_or]
  exact decide_eq_false fun hm => by have := h i hm; omega
end Mine
end
section
open PySem PySem.W PyProof.Rows PySem.Calls
set_option linter.unusedVariables false
set_option maxHeartbeats 4000000
set_option linter.unusedVariables false
namespace Mine
theorem permG {α : Type} {d x i a b c e f g j k : α} {r : List α} : ∀ p ∈ i :: a :: b :: c :: e :: f :: g :: j :: k :: d :: r, p ∈ d :: x :: i :: a :: b :: c :: e :: f :: g :: j :: k :: r := by
  intro p hp; simp only [List.mem_cons] at hp ⊢; rcases hp with h | h | h | h | h | h | h | h | h | h | h <;> simp [h]
theorem off_ins {K : Addr} {l l' r : List (Addr × Obj)} {d : Addr × Obj} (h : ∀ p ∈ l ++ r, p.1 ≠ K) (hd : d.1 ≠ K) (e : l'.map (·.1) = l.map (·.1)) : ∀ p ∈ l' ++ d :: r, p.1 ≠ K := fun p hp => by
  rcases List.mem_append.mp hp with hp | hp
  · exact off_map (fun q hq => h q (List.mem_append_left _ hq)) e p hp
  · rcases List.mem_cons.mp hp with rfl | hp
    · exact hd
    · exact h p (List.mem_append_right _ hp)
section
variable {prog : Program} {w : World} {A : Around} {E : Value → Shared → Prop} {s₁ : Shared} {h₀ : Heap} {L : Addr} {m : Str → Option Value} {env : Env}

/-- a turn of the block came to its end; the ledger is as it was -/
def TurnC (h₀ : Heap) (L : Addr) (m : Str → Option Value) (s : Shared) (all : List (Addr × Obj)) (p : Value → Prop) (y : Value) (s' : Shared) : Prop :=
  p y ∧ ∃ h' tk, s' = { s with heap := h', toks := tk } ∧ Fr h₀ L h' m ∧ News h₀ L h' all
theorem TurnC.intro {s : Shared} {h' : Heap} {tk : Nat} {all all' : List (Addr × Obj)} {p : Value → Prop} {y : Value} (hp : p y) (F : Fr h₀ L h' m) (N : News h₀ L h' all') (sub : ∀ q ∈ all, q ∈ all') : TurnC h₀ L m s all p y { s with heap := h', toks := tk } :=
  ⟨hp, h', tk, rfl, F, fun q hq => N q (sub q hq)⟩

theorem comp_filter {ct elt : PySem.Expr} {x : Str} {scope : Scope} {cl : List (Str × Addr)} {Q : Value → Shared → Prop} {r : Addr} {ro : Obj} {n : Nat} {news : List (Addr × Obj)} (hh : A.handled = none) (F : Fr h₀ L s₁.heap m) (N : News h₀ L s₁.heap ((r, ro) :: news)) (hr : RangeO n ro) (hn : n ≤ 1000)
    (turn : ∀ (i : Nat) (t : Tok) (ys : List Value) (I : Addr) (oI : Obj) (C : Addr) (oC : Obj) (D : Addr) (m₂ : Str → Option Value) (h : Heap) (tk : Nat) (s : Shared) (E' : Value → Shared → Prop), i < n → LCg.NsObj oC m₂ → m₂ x = some (.int (Int.ofNat i) t) → Fr h₀ L h m → News h₀ L h ((I, oI) :: (C, oC) :: (D, LCg.lst ys) :: news) → LCg.Off3 I C D news → ((@Ne Nat I C) ∧ (@Ne Nat I D) ∧ (@Ne Nat C D)) →
      wpAny (model prog w) A (isTrue ct (compEnvC scope cl C env) (eval ct (compEnvC scope cl C env))) (fun ok s' => if ok = true then
        wpAny (model prog w) A (eval elt (compEnvC scope cl C env)) (TurnC h₀ L m { s with heap := h, toks := tk } ((I, oI) :: (C, oC) :: (D, LCg.lst ys) :: news) (fun y => ∃ t', y = .int (Int.ofNat i) t')) E' s'
        else TurnC h₀ L m { s with heap := h, toks := tk } ((I, oI) :: (C, oC) :: (D, LCg.lst ys) :: news) (fun _ => True) Value.none s') E' { s with heap := h, toks := tk })
    (fin : ∀ (D : Addr) (h : Heap) (tk : Nat) (ys : List Value) (xs : List Nat), Fr h₀ L h m → News h₀ L h ((D, LCg.lst ys) :: news) → LCg.Off1 D news → IntsAre ys (xs.map Int.ofNat) → (∀ y ∈ xs, y < n) → Q (.ref D) { s₁ with heap := h, toks := tk }) :
    LCt.CompSrcT prog w A h₀ L m env ct elt x scope cl (fun s₂ => LCg.FinE h₀ L m s₂ Q) (.ref r) s₁ := by
  obtain ⟨t, u, v, rfl⟩ := hr
  refine LCt.CompSrcT.range (a := 0) (b := Int.ofNat n) (t := t) (u := u) (v := v) (n := n) hh F (fun p hp => N p (.tail _ hp)) (N.get (.head _))
    (small_one (by decide) (by decide) (by simp only [Int.ofNat_eq_natCast]; omega) (by simp only [Int.ofNat_eq_natCast]; omega)) (by rw [rangeSize_nat]; simp) (by rw [sizeLine_eq]; omega) fun g => ?_
  have key : ∀ k i ys (xs : List Nat), i + k = n → IntsAre ys (xs.map Int.ofNat) → (∀ y ∈ xs, y < i) →
      LCt.CompRestT prog w A h₀ L m env ct elt x scope cl { s₁ with heap := g } (fun _ => True) (fun i v => ∃ t, v = .int (0 + (i : Int)) t) (LCg.FinE h₀ L m { s₁ with heap := g } Q) k i ys news := by
    intro k
    induction k with
    | zero =>
      intro i ys xs hi hI hx
      refine LCt.CompRestT.zero fun D h tk F' N' o1 => ?_
      exact fin D h tk ys xs F' N' o1 hI (fun y hy => by have := hx y hy; omega)
    | succ k ih =>
      intro i ys xs hi hI hx
      refine LCt.CompRestT.succ fun v I oI C oC D m₂ h tk E' hv hC hx' F' N' off ne => ?_
      obtain ⟨t', rfl⟩ := hv
      have e : (0 : Int) + (i : Int) = Int.ofNat i := by simp
      rw [e] at hx'
      refine wpAny_mono (turn i t' ys I oI C oC D m₂ h tk { s₁ with heap := g } E' (by omega) hC hx' F' N' off ne) (fun ok s' hs => ?_) fun _ _ q => q
      cases ok with
      | true =>
        simp only [if_true] at hs ⊢
        refine wpAny_mono hs (fun y s'' hy => ?_) fun _ _ q => q
        obtain ⟨⟨ty, rfl⟩, h', tk', rfl, F'', N''⟩ := hy
        refine ⟨h', tk', news, rfl, F'', N'', off, trivial, ?_⟩
        refine ih (i + 1) _ (xs ++ [i]) (by omega) (by rw [List.map_append]; exact ints_append hI (.cons _ _ .nil)) (fun y hy => ?_)
        rcases List.mem_append.mp hy with hy | hy
        · have := hx y hy; omega
        · rw [List.mem_singleton.mp hy]; omega
      | false =>
        simp only [Bool.false_eq_true, if_false] at hs ⊢
        obtain ⟨_, h', tk', rfl, F'', N''⟩ := hs
        exact ⟨h', tk', news, rfl, F'', N'', off, trivial, ih (i + 1) _ xs (by omega) hI (fun y hy => by have := hx y hy; omega)⟩
  exact key n 0 [] [] (by omega) .nil (by simp)

/-- a block over a range whose items are all of a kind -/
theorem comp_each {elt : PySem.Expr} {x : Str} {scope : Scope} {cl : List (Str × Addr)} {Q : Value → Shared → Prop} {r : Addr} {ro : Obj} {n : Nat} {news : List (Addr × Obj)} (hh : A.handled = none) (F : Fr h₀ L s₁.heap m) (N : News h₀ L s₁.heap ((r, ro) :: news)) (hr : RangeO n ro) (hn : n ≤ 1000) (y : Value)
    (turn : ∀ (i : Nat) (t : Tok) (ys : List Value) (I : Addr) (oI : Obj) (C : Addr) (oC : Obj) (D : Addr) (m₂ : Str → Option Value) (h : Heap) (tk : Nat) (s : Shared) (E' : Value → Shared → Prop), i < n → LCg.NsObj oC m₂ → m₂ x = some (.int (Int.ofNat i) t) → Fr h₀ L h m → News h₀ L h ((I, oI) :: (C, oC) :: (D, LCg.lst ys) :: news) → LCg.Off3 I C D news → ((@Ne Nat I C) ∧ (@Ne Nat I D) ∧ (@Ne Nat C D)) →
      wpAny (model prog w) A (eval elt (compEnvC scope cl C env)) (TurnC h₀ L m { s with heap := h, toks := tk } ((I, oI) :: (C, oC) :: (D, LCg.lst ys) :: news) (fun v => v = y)) E' { s with heap := h, toks := tk })
    (fin : ∀ (D : Addr) (h : Heap) (tk : Nat), Fr h₀ L h m → News h₀ L h ((D, LCg.lst (List.replicate n y)) :: news) → LCg.Off1 D news → Q (.ref D) { s₁ with heap := h, toks := tk }) :
    LCg.CompSrc prog w A h₀ L m env elt x scope cl (fun s₂ => LCg.FinE h₀ L m s₂ Q) (.ref r) s₁ := by
  obtain ⟨t, u, v, rfl⟩ := hr
  refine LCg.CompSrc.range (a := 0) (b := Int.ofNat n) (t := t) (u := u) (v := v) (n := n) hh F (fun p hp => N p (.tail _ hp)) (N.get (.head _))
    (small_one (by decide) (by decide) (by simp only [Int.ofNat_eq_natCast]; omega) (by simp only [Int.ofNat_eq_natCast]; omega)) (by rw [rangeSize_nat]; simp) (by rw [sizeLine_eq]; omega) fun g => ?_
  have key : ∀ k i, i + k = n →
      LCg.CompRest prog w A h₀ L m env elt x scope cl { s₁ with heap := g } (fun _ => True) (fun i v => ∃ t, v = .int (0 + (i : Int)) t) (LCg.FinE h₀ L m { s₁ with heap := g } Q) k i (List.replicate i y) news := by
    intro k
    induction k with
    | zero =>
      intro i hi
      obtain rfl : i = n := by omega
      exact LCg.CompRest.zero fun D h tk F' N' o1 => fin D h tk F' N' o1
    | succ k ih =>
      intro i hi
      refine LCg.CompRest.succ fun v I oI C oC D m₂ h tk E' hv hC hx' F' N' off ne => ?_
      obtain ⟨t', rfl⟩ := hv
      have e : (0 : Int) + (i : Int) = Int.ofNat i := by simp
      rw [e] at hx'
      refine wpAny_mono (turn i t' _ I oI C oC D m₂ h tk { s₁ with heap := g } E' (by omega) hC hx' F' N' off ne) (fun y' s'' hy => ?_) fun _ _ q => q
      obtain ⟨rfl, h', tk', rfl, F'', N''⟩ := hy
      refine ⟨h', tk', news, rfl, F'', N'', off, trivial, ?_⟩
      have e2 : List.replicate i y' ++ [y'] = List.replicate (i + 1) y' := by rw [List.replicate_succ']
      dsimp only
      rw [e2]
      exact ih (i + 1) (by omega)
  exact key n 0 (by omega)

theorem k_listget {value slice : PySem.Expr} {s : Shared} {a : Addr} {vs : List Value} {ns : List Int} {c : Nat} {k : Int} {u : Tok} {Q : Value → Shared → Prop} {news : List (Addr × Obj)} (N : News h₀ L s.heap news) (hm : (a, lst vs.toArray c) ∈ news) (hI : IntsAre vs ns) (h0 : 0 ≤ k) (hk : k < ns.length) (hb : ns.length ≤ 1000)
    (hq : ∀ n t, ns[k.toNat]? = some n → Q (.int n t) s) (hs : subscripted slice false (.ref a) (.int k u) = operate [.ref a, .int k u] (getItem (.ref a) (.int k u)) := by with_unfolding_all rfl) :
    wpAny (model prog w) A (subscriptTail value slice (.ref a) (.int k u)) Q E s := by
  have hl : s.heap.IsList a vs.toArray := ⟨_, N.get hm, rfl, c, rfl⟩
  have hlen := hI.length
  have hlt : k.toNat < vs.length := by omega
  obtain ⟨n, t, h1, h2⟩ := ints_getElem hI (List.getElem?_eq_getElem hlt)
  refine tail_any hl.typeIs slot_list_getitem.lookup (wpAny_getItem_list hl h0 (by omega) (x := .int n t) ?_ (hq n t h1)) hs
  rw [← h2]
  simp [hlt]
end
end Mine
end
section
open PySem PySem.W PyProof.Rows PySem.Calls
set_option linter.unusedVariables false
set_option maxHeartbeats 4000000
set_option linter.unusedVariables false
namespace Mine
theorem GraphB.at2 {prog : Program} {w : World} {h₀ h : Heap} {L gd va : Addr} {og : Obj} {news : List (Addr × Obj)} {many : Nat} {kvs : List (Int × Value)} {rest : List (Addr × Obj)} {adj : Nat → Nat} (G : GraphB w many many kvs rest adj) (N : News h₀ L h news) (hg : (gd, og) ∈ news)
    (hs : ∀ p ∈ rest, p ∈ news) (hd : og.IsDictOf (intKind prog w) kvs) (lo : (gd == sysModules) = false) (h6 : many ≤ 6) (hva : gd ≠ va) (hr : ∀ p ∈ rest, p.1 ≠ va) : ∀ h', (∀ b o, h.get? b = some o → b ∉ [va] → h'.get? b = some o) → GraphAt prog w h' gd many adj := fun h' hk => {
  lo := lo
  le := h6
  dict := ⟨kvs, Heap.dictOf_iff.mpr ⟨og, hk _ _ (N.get hg) (fun hm => hva (List.mem_singleton.mp hm)), hd⟩, fun k hk' => by
    obtain ⟨a, o, h1, h2, h3⟩ := G.at_ k hk'
    exact ⟨a, h1, o, hk _ _ (N.get (hs _ h2)) (fun hm => hr _ h2 (List.mem_singleton.mp hm)), h3⟩, G.none⟩
  sub := G.sub }

theorem off1_of {D : Addr} {l : List (Addr × Obj)} (h : ∀ p ∈ l, p.1 ≠ D) : LCg.Off1 D l := by
  induction l with
  | nil => trivial
  | cons p l ih => exact ⟨h p (.head _), ih fun q hq => h q (.tail _ hq)⟩
theorem off_of1 {D : Addr} {l : List (Addr × Obj)} (h : LCg.Off1 D l) : ∀ p ∈ l, p.1 ≠ D := by
  induction l with
  | nil => exact fun p hp => nomatch hp
  | cons p l ih =>
    intro q hq
    rcases List.mem_cons.mp hq with rfl | hq
    · exact h.1
    · exact ih h.2 q hq

section
variable {prog : Program} {w : World} {A A₀ : Around} {E : Value → Shared → Prop} {s : Shared} {h h' h₀ base : Heap} {outer : List Env} {L a ra : Addr} {m : Str → Option Value} {news : List (Addr × Obj)} {o : Obj} {env : Env} {mean : ExcName → Option Value} {mg mb : Str → Option Value}

theorem news_fresh (F : Fr h₀ L h m) (N : News h₀ L h news) (hk : ∀ b o, h.get? b = some o → h'.get? b = some o) (hra : h'.get? ra = some o) (hn : h.get? ra = none) : Fr h₀ L h' m ∧ News h₀ L h' ((ra, o) :: news) ∧ LCg.Off1 ra news := by
  refine ⟨F.keeps hk, fun p hp => ?_, off1_of fun p hp e => ?_⟩
  · rcases List.mem_cons.mp hp with rfl | hp
    · refine ⟨hra, fun e => ?_, ?_⟩
      · obtain ⟨o, _, _, ho, _⟩ := F.ns
        dsimp only at e
        rw [e, ho] at hn; cases hn
      · cases e : h₀.get? ra with
        | none => rfl
        | some o' => rw [F.keep _ _ e] at hn; cases hn
    · exact ⟨hk _ _ (N p hp).1, (N p hp).2⟩
  · rw [← e, (N p hp).1] at hn; cases hn

theorem k_mod {x : Int} {many : Nat} {t u : Tok} {Q : Value → Shared → Prop} (h2 : 2 ≤ many) (hq : ∀ (r : Nat) (t' : Tok) (tk : Nat), r < many → Q (.int (Int.ofNat r) t') { s with toks := tk }) : wpAny (model prog w) A (binaryOp .Mod (.int x t) (.int (Int.ofNat many) u)) Q E s := by
  refine mod_int (by simp only [Int.ofNat_eq_natCast]; omega) ?_
  have h1 := Int.fmod_nonneg_of_pos x (b := Int.ofNat many) (by simp only [Int.ofNat_eq_natCast]; omega)
  have h3 := Int.fmod_lt_of_pos x (b := Int.ofNat many) (by simp only [Int.ofNat_eq_natCast]; omega)
  obtain ⟨r, hr⟩ := Int.eq_ofNat_of_zero_le h1
  rw [hr] at h3 ⊢
  exact hq r _ _ (by simp only [Int.ofNat_eq_natCast] at h3; omega)

theorem k_natget {value slice : PySem.Expr} {vs : List Value} {xs : List Nat} {c : Nat} {k : Int} {u : Tok} {Q : Value → Shared → Prop} (N : News h₀ L s.heap news) (hm : (a, lst vs.toArray c) ∈ news) (hI : IntsAre vs (xs.map Int.ofNat)) (h0 : 0 ≤ k) (hk : k < xs.length) (hb : xs.length ≤ 1000)
    (hq : ∀ n t, xs[k.toNat]? = some n → Q (.int (Int.ofNat n) t) s) (hs : subscripted slice false (.ref a) (.int k u) = operate [.ref a, .int k u] (getItem (.ref a) (.int k u)) := by with_unfolding_all rfl) :
    wpAny (model prog w) A (subscriptTail value slice (.ref a) (.int k u)) Q E s := by
  refine k_listget N hm hI h0 (by simpa using hk) (by simpa using hb) (fun n t hn => ?_) hs
  rw [List.getElem?_map] at hn
  cases hx : xs[k.toNat]? with
  | none => rw [hx] at hn; cases hn
  | some y => rw [hx] at hn; injection hn with hn; subst hn; exact hq y t hx

theorem k_lastget {value slice : PySem.Expr} {vs : List Value} {xs : List Nat} {y : Nat} {c : Nat} {u : Tok} {Q : Value → Shared → Prop} (N : News h₀ L s.heap news) (hm : (a, lst vs.toArray c) ∈ news) (hI : IntsAre vs ((xs ++ [y]).map Int.ofNat)) (hb : xs.length ≤ 1000)
    (hq : ∀ t, Q (.int (Int.ofNat y) t) s) (hs : subscripted slice false (.ref a) (.int (-1) u) = operate [.ref a, .int (-1) u] (getItem (.ref a) (.int (-1) u)) := by with_unfolding_all rfl) :
    wpAny (model prog w) A (subscriptTail value slice (.ref a) (.int (-1) u)) Q E s := by
  have hl : s.heap.IsList a vs.toArray := ⟨_, N.get hm, rfl, c, rfl⟩
  rw [List.map_append] at hI
  obtain ⟨ws, t, rfl, hI'⟩ := ints_concat hI
  have hlen := hI'.length
  have hsz : (ws ++ [Value.int (Int.ofNat y) t]).toArray.size = ws.length + 1 := by simp
  refine tail_any hl.typeIs slot_list_getitem.lookup (wpAny_getItem_list_neg hl (by decide) (by rw [hsz]; omega) (by decide) (x := .int (Int.ofNat y) t) ?_ (hq t)) hs
  rw [hsz]
  have e : (-1 + ((ws.length + 1 : Nat) : Int)).toNat = ws.length := by omega
  rw [e]
  simp

theorem k_len {vs : List Value} {c : Nat} {Q : Value → Shared → Prop} (N : News h₀ L s.heap news) (hm : (a, lst vs.toArray c) ∈ news) (hb : vs.length ≤ 1000) (hq : ∀ t tk, Q (.int (Int.ofNat vs.length) t) { s with toks := tk }) : wpAny (model prog w) A (call (.builtin "len") [.ref a]) Q E s :=
  Calls.call_len_list (items := vs.toArray) ⟨_, N.get hm, rfl, c, rfl⟩ (by simp; omega) (by simpa using hq _ _)
theorem k_lenSet {b : Nat} {Q : Value → Shared → Prop} (S : SetAt w s.heap a b) (hq : ∀ t tk, Q (.int (Int.ofNat (els b).length) t) { s with toks := tk }) : wpAny (model prog w) A (call (.builtin "len") [.ref a]) Q E s := wp_lenSet S (hq _ _)

theorem trues : ∀ n : Nat, LSm.BoolsAre (List.replicate n (Value.bool true)) (List.replicate n true)
  | 0 => .nil
  | n + 1 => .cons true (trues n)
theorem k_all_true {n : Nat} {Q : Value → Shared → Prop} (hh : A.handled = none) (F : Fr h₀ L s.heap m) (N : News h₀ L s.heap news) (hm : (a, LCg.lst (List.replicate n (Value.bool true))) ∈ news)
    (hq : ∀ h' tk, Fr h₀ L h' m → News h₀ L h' news → Q (.bool true) { s with heap := h', toks := tk }) : wpAny (model prog w) A (call (.builtin "all") [.ref a]) Q E s := by
  refine LSm.all_bools F N hh ⟨_, N.get hm, rfl, _, rfl⟩ (trues n) fun h' tk F' N' => ?_
  have e : (List.replicate n true).all id = true := by simp
  rw [e]
  exact hq h' tk F' N'

theorem k_setdict {ps : List (Nat × Nat)} {kvs : List (Int × Value)} {Q : Value → Shared → Prop} (F : Fr h₀ L s.heap m) (N : News h₀ L s.heap news) (hm : (a, o) ∈ news) (hd : o.IsDictOf (intKind prog w) kvs) (P : PairsB ps kvs) (h6 : ∀ p ∈ ps, p.1 < 6) (hz : ps.length ≤ 6) (lo : (a == sysModules) = false)
    (hq : ∀ D h' o, Fr h₀ L h' m → News h₀ L h' ((D, o) :: news) → (∀ p ∈ news, p.1 < D) → SetB w (orAll (ps.map (·.1)) 0) o → Q (.ref D) { s with heap := h' }) : wpAny (model prog w) A (call (.type "set") [.ref a]) Q E s :=
  call_set_dict (Heap.dictOf_iff.mpr ⟨o, N.get hm, hd⟩) ⟨P.keys, fun x hx => by obtain ⟨p, hp, rfl⟩ := List.mem_map.mp hx; exact h6 p hp⟩ (by simpa using hz) lo fun h' o M S => hq _ h' o (M.mk'.fr F) (M.mk'.news F N) (M.mk'.lt N) S

theorem lr_K {Q : Value → Shared → Prop} {ga sa : Addr} {st : Nat} {tks : Tok} {many V : Nat} {adj : Nat → Nat}
  (B : Below A₀ base outer h₀) (F : Fr h₀ L s.heap m) (X₀ : (Mine.hd.heap_39 w.params).In h₀) (N : News h₀ L s.heap news)
  (T : Top Mine.hd.view_39 (looseW Mine.hd.view_39 [Str.ofString "find_connected_nodes"]) mean mg mb h₀) (hA : A.frames = some (env :: outer)) (hf : env.frame = some L) (hke : env.scope.kind = .function)
  (hroom : A.depth < recursionLimit) (hhd : A.handled = none)
  (G : GraphAt PySem.Challenge.rw_fb0020_01.row.prog w s.heap ga many adj) (hst : st < many) (Sv : SetAt w s.heap sa V)
  (hq : ∀ ra h' tk' o kvs ps, Fr h₀ L h' m → News h₀ L h' ((ra, o) :: news) → LCg.Off1 ra news → o.IsDictOf (intKind PySem.Challenge.rw_fb0020_01.row.prog w) kvs → PairsB ps kvs → Steps adj many V st ps → (ra == sysModules) = false → Q (.ref ra) { s with heap := h', toks := tk' }) :
  wpAny (model PySem.Challenge.rw_fb0020_01.row.prog w) A (call (.ref 54) [.ref ga, .int (Int.ofNat st) tks, .ref sa]) Q E s :=
  lr B F X₀ T hA hf hke hroom hhd G hst Sv fun ra h' tk' o kvs ps hk hra hd hp hs hn lo =>
    have ⟨F', N', o1⟩ := news_fresh F N hk hra hn
    hq ra h' tk' o kvs ps F' N' o1 hd hp hs lo

theorem fsp_K {Q : Value → Shared → Prop} {ga : Addr} {st en : Nat} {tks tke : Tok} {many : Nat} {adj : Nat → Nat}
  (B : Below A₀ base outer h₀) (F : Fr h₀ L s.heap m) (X₀ : (Mine.hd.heap_39 w.params).In h₀) (N : News h₀ L s.heap news)
  (T : Top Mine.hd.view_39 (looseW Mine.hd.view_39 [Str.ofString "find_connected_nodes"]) mean mg mb h₀) (hA : A.frames = some (env :: outer)) (hf : env.frame = some L) (hke : env.scope.kind = .function)
  (hroom : A.depth < recursionLimit) (hhd : A.handled = none)
  (G : GraphAt PySem.Challenge.rw_fb0020_01.row.prog w s.heap ga many adj) (hst : st < many) (hen : en < many)
  (retN : ∀ h' tk', Fr h₀ L h' m → News h₀ L h' news → ¬ Reach adj 0 st en → Q .none { s with heap := h', toks := tk' })
  (retL : ∀ ra h' tk' vs c p, Fr h₀ L h' m → News h₀ L h' ((ra, lst (List.toArray vs) c) :: news) → LCg.Off1 ra news → IntsAre vs (p.map Int.ofNat) → PathTo adj st p en → (∀ d, WalkTo adj 0 st d en → p.length ≤ d + 1) → Q (.ref ra) { s with heap := h', toks := tk' }) :
  wpAny (model PySem.Challenge.rw_fb0020_01.row.prog w) A (call (.ref 39) [.ref ga, .int (Int.ofNat st) tks, .int (Int.ofNat en) tke]) Q E s :=
  fsp B F X₀ T hA hf hke hroom hhd G hst hen (fun h' tk' hk hn => retN h' tk' (F.keeps hk) (fun p hp => ⟨hk _ _ (N p hp).1, (N p hp).2⟩) hn)
    fun ra h' tk' vs c p hk hra hI hp hw hn =>
      have ⟨F', N', o1⟩ := news_fresh F N hk hra hn
      retL ra h' tk' vs c p F' N' o1 hI hp hw

theorem fcnN_K {Q : Value → Shared → Prop} {ga : Addr} {st : Nat} {tks : Tok} {many : Nat} {adj : Nat → Nat}
  (B : Below A₀ base outer h₀) (F : Fr h₀ L s.heap m) (X₀ : (Mine.hd.heap_39 w.params).In h₀) (N : News h₀ L s.heap news)
  (T : Top Mine.hd.view_39 (looseW Mine.hd.view_39 [Str.ofString "find_connected_nodes"]) mean mg mb h₀) (hA : A.frames = some (env :: outer)) (hf : env.frame = some L) (hke : env.scope.kind = .function)
  (hroom : A.depth < recursionLimit)
  (G : GraphAt PySem.Challenge.rw_fb0020_01.row.prog w s.heap ga many adj) (hst : many ≤ st)
  (ret : ∀ h' tk', Fr h₀ L h' m → News h₀ L h' news → Q .none { s with heap := h', toks := tk' }) :
  wpAny (model PySem.Challenge.rw_fb0020_01.row.prog w) A (call (.ref 47) [.ref ga, .int (Int.ofNat st) tks]) Q E s :=
  fcnN B F X₀ T hA hf hke hroom G hst fun h' tk' hk => ret h' tk' (F.keeps hk) fun p hp => ⟨hk _ _ (N p hp).1, (N p hp).2⟩

theorem fcn0_K {Q : Value → Shared → Prop} {ga : Addr} {st : Nat} {tks : Tok} {many : Nat} {adj : Nat → Nat}
  (B : Below A₀ base outer h₀) (F : Fr h₀ L s.heap m) (X₀ : (Mine.hd.heap_39 w.params).In h₀) (N : News h₀ L s.heap news)
  (T : Top Mine.hd.view_39 (looseW Mine.hd.view_39 [Str.ofString "find_connected_nodes"]) mean mg mb h₀) (hA : A.frames = some (env :: outer)) (hf : env.frame = some L) (hke : env.scope.kind = .function)
  (hroom : A.depth < recursionLimit) (hhd : A.handled = none)
  (G : GraphAt PySem.Challenge.rw_fb0020_01.row.prog w s.heap ga many adj) (hst : st < many)
  (ret : ∀ ra h' tk' so' V', Fr h₀ L h' m → News h₀ L h' ((ra, so') :: news) → LCg.Off1 ra news → SetB w V' so' → Found adj 0 st V' → Q (.ref ra) { s with heap := h', toks := tk' }) :
  wpAny (model PySem.Challenge.rw_fb0020_01.row.prog w) A (call (.ref 47) [.ref ga, .int (Int.ofNat st) tks]) Q E s :=
  fcn (hid := []) (V := 0) B F X₀ News.nil T hA hf hke hroom hhd (.inl ⟨rfl, rfl, rfl⟩) (fun h' hk => G.keep fun b o e => hk b o e (fun h => nomatch h)) hst fun ra h' tk' so' V' hk hra hS hF hn =>
    have hn' : s.heap.get? ra = none := hn.resolve_left (fun h => nomatch h)
    have ⟨F', N', o1⟩ := news_fresh F N (fun b o e => hk b o e (fun h => nomatch h)) hra hn'
    ret ra h' tk' so' V' F' N' o1 hS hF

theorem fcn1_K {Q : Value → Shared → Prop} {ga va : Addr} {so : Obj} {st : Nat} {tks : Tok} {many V : Nat} {adj : Nat → Nat}
  (B : Below A₀ base outer h₀) (F : Fr h₀ L s.heap m) (X₀ : (Mine.hd.heap_39 w.params).In h₀) (N : News h₀ L s.heap ((va, so) :: news)) (hva : ∀ p ∈ news, p.1 ≠ va)
  (T : Top Mine.hd.view_39 (looseW Mine.hd.view_39 [Str.ofString "find_connected_nodes"]) mean mg mb h₀) (hA : A.frames = some (env :: outer)) (hf : env.frame = some L) (hke : env.scope.kind = .function)
  (hroom : A.depth < recursionLimit) (hhd : A.handled = none) (S : SetB w V so)
  (G : ∀ h', (∀ b o, s.heap.get? b = some o → b ∉ [va] → h'.get? b = some o) → GraphAt PySem.Challenge.rw_fb0020_01.row.prog w h' ga many adj) (hst : st < many)
  (ret : ∀ ra h' tk' so' V', Fr h₀ L h' m → News h₀ L h' ((ra, so') :: news) → LCg.Off1 ra news → SetB w V' so' → Found adj V st V' → Q (.ref ra) { s with heap := h', toks := tk' }) :
  wpAny (model PySem.Challenge.rw_fb0020_01.row.prog w) A (call (.ref 47) [.ref ga, .int (Int.ofNat st) tks, .ref va]) Q E s := by
  have hv := N (va, so) (.head _)
  refine fcn (hid := [(va, so)]) (V := V) B F X₀ (fun p hp => by rw [List.mem_singleton.mp hp]; exact hv) T hA hf hke hroom hhd (.inr ⟨va, so, rfl, rfl, S⟩) G hst fun ra h' tk' so' V' hk hra hS hF hn => ?_
  have hk' : ∀ b o, s.heap.get? b = some o → b ≠ va → h'.get? b = some o := fun b o e hb => hk b o e (fun hm => hb (List.mem_singleton.mp hm))
  have F' : Fr h₀ L h' m := ⟨F.ns.at' fun o e => hk' _ o e (fun q => hv.2.1 q.symm), fun b o e => hk' b o (F.keep b o e) (fun q => by rw [q, hv.2.2] at e; cases e), F.above⟩
  have hne : ∀ p ∈ news, p.1 ≠ ra := fun p hp e => by
    rcases hn with hn | hn
    · exact hva p hp (e.trans (List.mem_singleton.mp hn))
    · rw [← e, (N p (.tail _ hp)).1] at hn; cases hn
  have hra' : ra ≠ L ∧ h₀.get? ra = none := by
    rcases hn with hn | hn
    · rw [List.mem_singleton.mp hn]; exact hv.2
    · refine ⟨fun e => ?_, ?_⟩
      · obtain ⟨o, _, _, ho, _⟩ := F.ns
        rw [e, ho] at hn; cases hn
      · cases e : h₀.get? ra with
        | none => rfl
        | some o' => rw [F.keep _ _ e] at hn; cases hn
  refine ret ra h' tk' so' V' F' (fun p hp => ?_) (off1_of hne) hS hF
  rcases List.mem_cons.mp hp with rfl | hp
  · exact ⟨hra, hra'⟩
  · exact ⟨hk' _ _ (N p (.tail _ hp)).1 (hva p hp), (N p (.tail _ hp)).2⟩
end
end Mine
end
section
open PySem PySem.W PyProof.Rows PySem.Calls
set_option linter.unusedVariables false
set_option maxHeartbeats 4000000
set_option linter.unusedVariables false
namespace Mine
theorem ne_lt {D : Addr} {l : List (Addr × Obj)} (h : ∀ p ∈ l, p.1 < D) : ∀ p ∈ l, p.1 ≠ D := fun p hp => Nat.ne_of_lt (h p hp)
theorem rest_ne {D : Addr} {l rest : List (Addr × Obj)} (h : ∀ p ∈ l, p.1 < D) (hs : ∀ p ∈ rest, p ∈ l) : ∀ p ∈ rest, p.1 ≠ D := fun p hp => Nat.ne_of_lt (h p (hs p hp))
theorem path_lt {p : List Nat} {k x n : Nat} (h : p[k]? = some x) (hp : ∀ y ∈ p, y < n) : x < n := hp x (List.mem_of_getElem? h)
theorem found_eqT {adj : Nat → Nat} {V st V' : Nat} (F : Found adj V st V') (h : V.testBit st = true) : V' = V := F.1 h
theorem found_eqF {w : World} {o o' : Obj} {adj : Nat → Nat} {many V st V' : Nat} {ps : List (Nat × Nat)} (F : Found adj V st V') (h : V.testBit st = false) (S : Steps adj many V st ps) (S' : SetB w V' o) (SV : SetB w V o') : V' = orAll (ps.map (·.1)) 0 ||| V := by
  apply Nat.eq_of_testBit_eq
  intro i
  rw [Nat.testBit_or, orAll_bit, Nat.zero_testBit, Bool.false_or]
  have h1 := F.2 h i
  have h2 := S.full i
  rw [Bool.eq_iff_iff, Bool.or_eq_true, decide_eq_true_iff, h1, h2]
  exact Or.comm
theorem found_eq0 {adj : Nat → Nat} {many st V' : Nat} {ps : List (Nat × Nat)} (F : Found adj 0 st V') (S : Steps adj many 0 st ps) : V' = orAll (ps.map (·.1)) 0 := by
  apply Nat.eq_of_testBit_eq
  intro i
  rw [orAll_bit, Nat.zero_testBit, Bool.false_or]
  have h1 := F.2 (Nat.zero_testBit _) i
  rw [Nat.zero_testBit] at h1
  have h2 := S.full i
  rw [Bool.eq_iff_iff, decide_eq_true_iff, h1, h2]
  exact ⟨fun h => h.resolve_left Bool.false_ne_true, .inr⟩
theorem Steps.len {adj : Nat → Nat} {many V st : Nat} {ps : List (Nat × Nat)} (S : Steps adj many V st ps) : ps.length ≤ many := by
  have := nodup_len S.nodup (n := many) (fun x hx => by obtain ⟨p, hp, rfl⟩ := List.mem_map.mp hx; exact S.bound p hp)
  simpa using this
theorem Steps.lt6 {adj : Nat → Nat} {many V st : Nat} {ps : List (Nat × Nat)} (S : Steps adj many V st ps) (h6 : many ≤ 6) : ∀ p ∈ ps, p.1 < 6 := fun p hp => Nat.lt_of_lt_of_le (S.bound p hp) h6
/-- the path that is found, and the steps -/
theorem way_facts {adj : Nat → Nat} {many st en : Nat} {ps : List (Nat × Nat)} {p : List Nat} (S : Steps adj many 0 st ps) (P : PathTo adj st p en) (hmin : ∀ d, WalkTo adj 0 st d en → p.length ≤ d + 1) :
    ∃ d, (en, d) ∈ ps ∧ p.length = d + 1 := by
  have hw := P.walk
  obtain ⟨⟨e, d⟩, hm, rfl⟩ := List.mem_map.mp ((S.full en).mpr (walk_reach hw.1))
  have hd := S.dist _ hm
  refine ⟨d, hm, ?_⟩
  have h1 := hd.2 _ hw.1
  have h2 := hmin d hd.1
  dsimp only at h1 h2
  omega
theorem els_orAll {p : List Nat} (hn : p.Nodup) (h6 : ∀ x ∈ p, x < 6) : (els (orAll p 0)).length = p.length := by
  have hlt : orAll p 0 < 64 := orAll_lt (many := 6) h6
  have hb : ∀ x, x < 6 → (x ∈ els (orAll p 0) ↔ x ∈ p) := fun x hx => by
    rw [← els_iff_dec _ hlt x hx, orAll_bit, Nat.zero_testBit, Bool.false_or, decide_eq_true_iff]
  have key : ∀ x, x ∈ els (orAll p 0) ↔ x ∈ p := fun x => by
    constructor
    · intro hx; exact (hb x (els_mem_dec _ hlt x hx).1).mp hx
    · intro hx; exact (hb x (h6 x hx)).mpr hx
  have hn' : (els (orAll p 0)).Nodup := els_nodup_dec _ hlt
  exact Nat.le_antisymm (nodup_le hn' fun x hx => (key x).mp hx) (nodup_le hn fun x hx => (key x).mpr hx)
where
  nodup_le {a b : List Nat} (hn : a.Nodup) (hs : ∀ x ∈ a, x ∈ b) : a.length ≤ b.length := by
    induction a generalizing b with
    | nil => exact Nat.zero_le _
    | cons x a ih =>
      rw [List.nodup_cons] at hn
      have hx := hs x (.head _)
      have h1 := ih (b := b.erase x) hn.2 (fun y hy => (List.mem_erase_of_ne (by rintro rfl; exact hn.1 hy)).mpr (hs y (.tail _ hy)))
      have h2 := List.length_erase_of_mem hx
      have h3 : 0 < b.length := List.length_pos_of_mem hx
      rw [List.length_cons]; omega
  els_nodup_dec : ∀ b < 64, (els b).Nodup := by decide +kernel

theorem Steps.nin {adj : Nat → Nat} {many V st v : Nat} {ps : List (Nat × Nat)} (S : Steps adj many V st ps) (h : ¬ Reach adj V st v) : v ∉ ps.map (·.1) := fun hm => h ((S.full v).mp hm)
theorem way_all {adj : Nat → Nat} {many st en : Nat} {ps : List (Nat × Nat)} {p : List Nat} (S : Steps adj many 0 st ps) (P : PathTo adj st p en) (hmin : ∀ d, WalkTo adj 0 st d en → p.length ≤ d + 1) (hst : st < many) (hsub : ∀ k, k < many → adj k < 2 ^ many) (h6 : many ≤ 6) :
    ∃ d q q2, p = q ++ [en] ∧ (q ++ [en] = st :: q2) ∧ (en, d) ∈ ps ∧ en ∈ ps.map (·.1) ∧ (∀ x ∈ q ++ [en], x < many) ∧ (∀ x ∈ q ++ [en], x < 6) ∧ q.length + 1 ≤ 6 ∧ Int.ofNat (q ++ [en]).length = Int.ofNat d + 1 ∧
      Int.ofNat (els (orAll (q ++ [en]) 0)).length = Int.ofNat (q ++ [en]).length ∧ Int.ofNat (q ++ [en]).length - 1 = Int.ofNat q.length ∧ (q ++ [en]).length = q.length + 1 ∧ (∀ k a b, (q ++ [en])[k]? = some a → (q ++ [en])[k + 1]? = some b → (adj a).testBit b = true) := by
  obtain ⟨d, hmd, hlen⟩ := way_facts S P hmin
  have hm := (P.lt hst hsub).2
  have hl := P.len hst hsub
  have hs := els_orAll P.nodup (fun x hx => Nat.lt_of_lt_of_le (hm x hx) h6)
  have hc := P.chain
  obtain ⟨q2, hq2⟩ := P.head
  obtain ⟨q, rfl⟩ := P.last
  have e : (q ++ [en]).length = q.length + 1 := by simp
  exact ⟨d, q, q2, rfl, hq2, hmd, List.mem_map.mpr ⟨_, hmd, rfl⟩, hm, fun x hx => Nat.lt_of_lt_of_le (hm x hx) h6, by omega, by rw [hlen]; rfl, by rw [hs], by rw [e]; simp, e, hc⟩
theorem units_ok {env : Env} : (callerA.deeper env).units < cLine := by
  have h := cLine_is
  simp only [units_deeper, units_caller]
  omega
theorem head_eq {p q : List Nat} {n st : Nat} (h : p[(0 : Int).toNat]? = some n) (e : p = st :: q) : Int.ofNat n = Int.ofNat st := by
  subst e
  have : n = st := by simpa using h.symm
  rw [this]
section
variable {prog : Program} {w : World} {A : Around} {E : Value → Shared → Prop} {s : Shared} {h₀ : Heap} {L a c : Addr} {m : Str → Option Value} {news : List (Addr × Obj)}
theorem k_range2 {n : Nat} {x : Int} {t : Tok} {Q : Value → Shared → Prop} (Fm : Fr h₀ L s.heap m) (N : News h₀ L s.heap news) (e : x = Int.ofNat n)
    (hq : ∀ D h' tk o, Fr h₀ L h' m → News h₀ L h' ((D, o) :: news) → (∀ p ∈ news, p.1 < D) → RangeO n o → Q (.ref D) { s with heap := h', toks := tk }) :
    wpAny (model prog w) A (call (.type "range") [.int x t]) Q E s := by subst e; exact k_range Fm N hq
theorem k_natlen {vs : List Value} {xs : List Nat} {k : Nat} {Q : Value → Shared → Prop} (N : News h₀ L s.heap news) (hm : (a, lst vs.toArray k) ∈ news) (hI : IntsAre vs (xs.map Int.ofNat)) (hb : xs.length ≤ 1000) (hq : ∀ t tk, Q (.int (Int.ofNat xs.length) t) { s with toks := tk }) : wpAny (model prog w) A (call (.builtin "len") [.ref a]) Q E s := by
  have h1 := hI.length
  rw [List.length_map] at h1
  refine k_len N hm (by omega) ?_
  rw [h1]; exact hq
theorem k_eqSets {b d : Nat} {Q : Value → Shared → Prop} (hu : A.units < cLine) (Sa : SetAt w s.heap a b) (Sc : SetAt w s.heap c d) (e : b = d) (h : Q (.bool true) s) : wpAny (model prog w) A (compareOp .Eq (.ref a) (.ref c)) Q E s := by
  subst e; exact wp_eqSets hu Sa Sc h
theorem k_eqT {x y : Int} {t u : Tok} {Q : Value → Shared → Prop} (e : x = y) (h : Q (.bool true) s) : wpAny (model prog w) A (compareOp .Eq (.int x t) (.int y u)) Q E s :=
  eq_int (by subst e; simpa using h)
theorem k_setInT {x : Nat} {tk : Tok} {b : Nat} {Q : Value → Shared → Prop} (S : SetAt w s.heap a b) (hx : x < 6) (hb : b.testBit x = true) (hq : Q (.bool true) { s with toks := s.toks + 1 }) : wpAny (model prog w) A (compareOp .In (.int (Int.ofNat x) tk) (.ref a)) Q E s :=
  wp_in S hx (by rw [hb]; exact hq)
end
end Mine
end
section
open PySem PySem.W PyProof.Rows PySem.Calls
set_option linter.unusedVariables false
set_option maxHeartbeats 8000000
namespace Mine
local macro_rules | `(tactic| k_mem) => `(tactic| assumption)
local macro_rules | `(tactic| k_all) => `(tactic| first | exact List.forall_mem_nil _ | assumption | (refine' List.forall_mem_cons.mpr ⟨?a, ?b⟩; (case a => first | assumption | k_ne); (case b => k_all)))
local macro_rules | `(tactic| ktr_rel) => `(tactic| first | (with_reducible assumption) | exact setAt_news (by k_asm) (by k_mem) (by k_asm) | exact setAt_base (by k_asm) (by k_asm))
local macro_rules | `(tactic| walk_at "exec While") => `(tactic| refine held ?_)
local macro_rules | `(tactic| walk_at "exec For Name Call cons nil") => `(tactic| refine held ?_)
local macro_rules | `(tactic| walk_at "pyIter ref") => `(tactic| refine held ?_)
local macro_rules | `(tactic| walk_at "call type:range") => `(tactic| (k_here; k_dflt (refine' k_range ?F ?N ?_; (case F => k_asm); (case N => k_asm)); intro d' h' tk' o' F' N' l1 hr'; (try k_lt l1)))
local macro_rules | `(tactic| walk_at "getMethod ref") => `(tactic| (k_here; (with_reducible show wpAny _ _ (getMethod (Value.ref _) (PySem.Str.ofString "append") _) _ _ _); k_dflt (refine' k_listmeth ?N ?h slot_list_append type_list_append ?_; (case N => k_asm); (case h => k_mem))))
local macro_rules | `(tactic| walk_at "call builtin:list.append") => `(tactic| (k_here; k_dflt (refine' k_append ?F ?N ?U ?z ?_; (case F => k_asm); (case N => k_asm); (case U => k_updF); (case z => omega)); intro h' F' N'; (try dsimp only at N')))
local macro_rules | `(tactic| walk_at "eval ListComp") => `(tactic| refine held ?_)
local macro_rules | `(tactic| walk_at "CompSrcT") => `(tactic| refine held ?_)
local macro_rules | `(tactic| walk_at "CompSrc") => `(tactic| refine held ?_)
local macro_rules | `(tactic| walk_at "subscriptTail") => `(tactic| (k_here; k_dflt (refine' k_listget ?N ?m ?I ?z ?k ?b ?_; (case N => k_asm); (case m => k_mem); (case I => k_asm); (case z => first | omega | (simp only [Int.ofNat_eq_natCast] at *; omega)); (case k => first | omega | (simp only [Int.ofNat_eq_natCast] at *; omega)); (case b => omega)); intro n' t' hn'))
local macro_rules | `(tactic| walk_at "call type:set") => `(tactic| (k_here; k_dflt (refine' k_setints ?A ?F ?N ?m ?I ?x ?_; (case A => first | exact rfl | assumption); (case F => k_asm); (case N => k_asm); (case m => k_mem); (case I => k_asm); (case x => assumption)); intro d' h' tk' o' F' N' l1 hs'; (try k_lt l1)))
local macro_rules | `(tactic| walk_at "setItem ref int") => `(tactic| (k_here; k_dflt (refine' k_dictSet ?F ?N ?U ?d ?x ?z ?_; (case F => k_asm); (case N => k_asm); (case U => k_updF); (case d => k_asm); (case x => assumption); (case z => omega)); intro h' o' F' N' hd'; (try dsimp only at N')))
local macro_rules | `(tactic| walk_at "binaryOp Mod int int") => `(tactic| (k_here; k_dflt (refine' k_mod ?h ?_; (case h => assumption)); intro r' t' tk' hr'))
local macro_rules | `(tactic| walk_at "subscriptTail") => `(tactic| (k_here; k_dflt (refine' k_natget ?N ?m ?I ?z ?k ?b ?_; (case N => k_asm); (case m => k_mem); (case I => with_reducible assumption); (case z => first | omega | (simp only [Int.ofNat_eq_natCast] at *; omega)); (case k => first | omega | (simp only [Int.ofNat_eq_natCast] at *; omega)); (case b => omega)); intro n' t' hn'))
local macro_rules | `(tactic| walk_at "subscriptTail") => `(tactic| (k_here; (with_reducible show wpAny _ _ (subscriptTail _ _ (Value.ref _) (Value.int (-1) _)) _ _ _); k_dflt (refine' k_lastget ?N ?m ?I ?b ?_; (case N => k_asm); (case m => k_mem); (case I => k_asm); (case b => omega)); intro t'))
local macro_rules | `(tactic| walk_at "subscriptTail") => `(tactic| (k_here; (with_reducible show wpAny _ _ (subscriptTail _ _ (Value.ref _) (Value.int (Int.ofNat _) _)) _ _ _); k_dflt (refine' k_dictGet ?N ?h ?d ?P ?n ?xy ?_; (case N => k_asm); (case h => k_mem); (case d => with_reducible assumption); (case P => with_reducible assumption); (case n => exact Steps.nodup (by assumption)); (case xy => assumption)); intro t'))
local macro_rules | `(tactic| walk_at "subscriptTail") => `(tactic| (k_here; (with_reducible show wpAny _ _ (subscriptTail _ _ (Value.ref _) (Value.int (Int.ofNat _) _)) _ _ _); k_dflt (refine' graph_tail ?G ?k ?_; (case G => (refine' GraphB.at' ?g1 ?g2 ?g3 ?g4 ?g5 ?g6 ?g7; (case g1 => assumption); (case g2 => k_asm); (case g3 => k_mem); (case g4 => intro p hp; k_mem); (case g5 => assumption); (case g6 => assumption); (case g7 => assumption))); (case k => first | omega | exact path_lt (by assumption) (by assumption))); intro a' S'))
local macro_rules | `(tactic| walk_at "call type:set nil nil") => `(tactic| (k_here; k_dflt (refine k_newset (by k_asm) (by k_asm) ?_); intro d' h' o' F' N' l1 hs'; (try k_lt l1)))
local macro_rules | `(tactic| walk_at "call type:set") => `(tactic| (k_here; k_dflt (refine' k_setset ?F ?N ?S ?_; (case F => k_asm); (case N => k_asm); (case S => ktr_rel)); intro d' h' o' F' N' l1 hs'; have l1c := l1; (try k_lt l1)))
local macro_rules | `(tactic| walk_at "call type:set") => `(tactic| (k_here; k_dflt (refine' k_setdict ?F ?N ?m ?d ?P ?x ?z ?lo ?_; (case F => k_asm); (case N => k_asm); (case m => k_mem); (case d => with_reducible assumption); (case P => with_reducible assumption); (case x => exact Steps.lt6 (by assumption) (by assumption)); (case z => exact Nat.le_trans (Steps.len (by assumption)) (by assumption)); (case lo => assumption)); intro d' h' o' F' N' l1 hs'; (try k_lt l1)))
local macro_rules | `(tactic| walk_at "call builtin:len") => `(tactic| (k_here; k_dflt (first | (refine' k_natlen ?N ?m ?I ?b ?_; (case N => k_asm); (case m => k_mem); (case I => with_reducible assumption); (case b => omega)) | (refine' k_lenSet ?S ?_; (case S => ktr_rel))); intro t' tk'))
local macro_rules | `(tactic| walk_at "call type:range") => `(tactic| (k_here; k_dflt (refine' k_range2 ?F ?N ?e ?_; (case F => k_asm); (case N => k_asm); (case e => with_reducible assumption)); intro d' h' tk' o' F' N' l1 hr'; (try k_lt l1)))
local macro_rules | `(tactic| walk_at "call builtin:all") => `(tactic| (k_here; k_dflt (refine' k_all_true ?A ?F ?N ?m ?_; (case A => exact rfl); (case F => k_asm); (case N => k_asm); (case m => k_mem)); intro h' tk' F' N'))
local macro_rules | `(tactic| walk_at "compareOp NotIn int ref") => `(tactic| (k_here; k_dflt (first | (refine' k_dictNotInT ?N ?h ?d ?P ?lo ?x ?_; (case N => k_asm); (case h => k_mem); (case d => with_reducible assumption); (case P => with_reducible assumption); (case lo => k_asm); (case x => assumption)) | (refine' k_dictNotInF ?N ?h ?d ?P ?lo ?x ?_; (case N => k_asm); (case h => k_mem); (case d => with_reducible assumption); (case P => with_reducible assumption); (case lo => k_asm); (case x => assumption)))))
local macro_rules | `(tactic| walk_at "compareOp In int ref") => `(tactic| (k_here; k_dflt (refine' wp_in ?S ?x ?_; (case S => ktr_rel); (case x => first | omega | exact path_lt (by assumption) (by assumption)))))
local macro_rules | `(tactic| walk_at "binaryOp BitOr") => `(tactic| (k_here; k_dflt (refine' k_union ?F ?N ?A ?C ?z ?_; (case F => k_asm); (case N => k_asm); (case A => ktr_rel); (case C => ktr_rel); (case z => k_ne)); intro d' h' o' F' N' l1 hs'; (try k_lt l1)))
local macro_rules | `(tactic| walk_at "compareOp Eq ref ref") => `(tactic| (k_here; k_dflt (refine' k_eqSets ?u ?A ?C ?e ?_; (case A => ktr_rel); (case C => ktr_rel); (case e => first | exact found_eqT (by assumption) (by assumption) | exact found_eqF (by assumption) (by assumption) (by assumption) (by assumption) (by assumption) | exact found_eq0 (by assumption) (by assumption)); (case u => exact units_ok))))
local macro_rules | `(tactic| walk_at "call ref") => `(tactic| (k_here; (with_reducible show wpAny _ _ (call (Value.ref 54) _) _ _ _); k_dflt (refine' lr_K ?B ?F ?X ?N ?T ?hA ?hf ?hk ?ho ?hh ?G ?st ?S ?_; (case B => k_asm); (case F => k_asm); (case X => k_asm); (case N => k_asm); (case T => k_asm); (case hA => exact rfl); (case hf => exact rfl); (case hk => exact rfl); (case ho => first | decide | k_room); (case hh => exact rfl); (case G => (refine' GraphB.at' ?g1 ?g2 ?g3 ?g4 ?g5 ?g6 ?g7; (case g1 => assumption); (case g2 => k_asm); (case g3 => k_mem); (case g4 => intro p hp; k_mem); (case g5 => assumption); (case g6 => assumption); (case g7 => assumption))); (case st => assumption); (case S => ktr_rel)); intro d' h' tk' o' kvs' ps' F' N' o1 hd' P' S' lo'; simp only [LCg.Off1] at o1))
local macro_rules | `(tactic| walk_at "call ref") => `(tactic| (k_here; (with_reducible show wpAny _ _ (call (Value.ref 39) _) _ _ _); k_dflt (refine' fsp_K ?B ?F ?X ?N ?T ?hA ?hf ?hk ?ho ?hh ?G ?st ?en ?_ ?_; (case B => k_asm); (case F => k_asm); (case X => k_asm); (case N => k_asm); (case T => k_asm); (case hA => exact rfl); (case hf => exact rfl); (case hk => exact rfl); (case ho => first | decide | k_room); (case hh => exact rfl); (case G => (refine' GraphB.at' ?g1 ?g2 ?g3 ?g4 ?g5 ?g6 ?g7; (case g1 => assumption); (case g2 => k_asm); (case g3 => k_mem); (case g4 => intro p hp; k_mem); (case g5 => assumption); (case g6 => assumption); (case g7 => assumption))); (case st => assumption); (case en => assumption)); (all_goals (refine held ?_))))
local macro_rules | `(tactic| walk_at "compareOp Eq int int") => `(tactic| (k_here; k_dflt (refine' k_eqT ?e ?_; (case e => first | with_reducible assumption | with_reducible rfl | exact head_eq (by assumption) (by assumption)))))
local macro_rules | `(tactic| walk_at "subscriptTail Name Constant ref int") => `(tactic| (k_here; k_dflt (refine' k_natget ?N ?m ?I ?z ?k ?b ?_; (case N => k_asm); (case m => k_mem); (case I => with_reducible assumption); (case z => first | omega | (simp only [Int.ofNat_eq_natCast] at *; omega)); (case k => first | omega | (simp only [Int.ofNat_eq_natCast] at *; omega)); (case b => omega)); intro n' t' hn'))
local macro_rules | `(tactic| walk_at "subscriptTail Name UnaryOp ref int") => `(tactic| (k_here; (with_reducible show wpAny _ _ (subscriptTail _ _ (Value.ref _) (Value.int (-1) _)) _ _ _); k_dflt (refine' k_lastget ?N ?m ?I ?b ?_; (case N => k_asm); (case m => k_mem); (case I => k_asm); (case b => omega)); intro t'))
local macro_rules | `(tactic| walk_at "call ref") => `(tactic| (k_here; (with_reducible show wpAny _ _ (call (Value.ref 47) [_, _, _]) _ _ _); k_dflt (refine' fcn1_K ?B ?F ?X ?N ?va ?T ?hA ?hf ?hk ?ho ?hh ?S ?G ?st ?_; (case B => k_asm); (case F => k_asm); (case X => k_asm); (case N => k_asm); (case va => exact ne_lt (by assumption)); (case T => k_asm); (case hA => exact rfl); (case hf => exact rfl); (case hk => exact rfl); (case ho => first | decide | k_room); (case hh => exact rfl); (case S => assumption); (case G => (refine' GraphB.at2 ?g1 ?g2 ?g3 ?g4 ?g5 ?g6 ?g7 ?g8 ?g9; (case g1 => assumption); (case g2 => k_asm); (case g3 => k_mem); (case g4 => intro p hp; k_mem); (case g5 => assumption); (case g6 => assumption); (case g7 => assumption); (case g8 => k_ne); (case g9 => (refine rest_ne (by assumption) ?_; intro p hp; k_mem)))); (case st => assumption)); intro d' h' tk' o' V' F' N' o1 S' Fd'; simp only [LCg.Off1] at o1))
local macro_rules | `(tactic| walk_at "call ref") => `(tactic| (k_here; (with_reducible show wpAny _ _ (call (Value.ref 47) [_, _]) _ _ _); k_dflt (refine' fcn0_K ?B ?F ?X ?N ?T ?hA ?hf ?hk ?ho ?hh ?G ?st ?_; (case B => k_asm); (case F => k_asm); (case X => k_asm); (case N => k_asm); (case T => k_asm); (case hA => exact rfl); (case hf => exact rfl); (case hk => exact rfl); (case ho => first | decide | k_room); (case hh => exact rfl); (case G => (refine' GraphB.at' ?g1 ?g2 ?g3 ?g4 ?g5 ?g6 ?g7; (case g1 => assumption); (case g2 => k_asm); (case g3 => k_mem); (case g4 => intro p hp; k_mem); (case g5 => assumption); (case g6 => assumption); (case g7 => assumption))); (case st => assumption)); intro d' h' tk' o' V' F' N' o1 S' Fd'; simp only [LCg.Off1] at o1))
local macro_rules | `(tactic| walk_at "call ref") => `(tactic| (k_here; (with_reducible show wpAny _ _ (call (Value.ref 47) [_, _]) _ _ _); k_dflt (refine' fcnN_K ?B ?F ?X ?N ?T ?hA ?hf ?hk ?ho ?G ?st ?_; (case st => with_reducible exact Nat.le_refl _); (case B => k_asm); (case F => k_asm); (case X => k_asm); (case N => k_asm); (case T => k_asm); (case hA => exact rfl); (case hf => exact rfl); (case hk => exact rfl); (case ho => first | decide | k_room); (case G => (refine' GraphB.at' ?g1 ?g2 ?g3 ?g4 ?g5 ?g6 ?g7; (case g1 => assumption); (case g2 => k_asm); (case g3 => k_mem); (case g4 => intro p hp; k_mem); (case g5 => assumption); (case g6 => assumption); (case g7 => assumption)))); intro h' tk' F' N'))
local macro_rules | `(tactic| walk_at "subscriptTail Name BinOp ref int") => `(tactic| (k_here; k_dflt (refine' k_natget ?N ?m ?I ?z ?k ?b ?_; (case N => k_asm); (case m => k_mem); (case I => with_reducible assumption); (case z => first | omega | (simp only [Int.ofNat_eq_natCast] at *; omega)); (case k => first | omega | (simp only [Int.ofNat_eq_natCast] at *; omega)); (case b => omega)); intro n' t' hn'))
local macro_rules | `(tactic| walk_at "subscriptTail Name Name ref int") => `(tactic| (k_here; k_dflt (refine' k_natget ?N ?m ?I ?z ?k ?b ?_; (case N => k_asm); (case m => k_mem); (case I => with_reducible assumption); (case z => first | omega | (simp only [Int.ofNat_eq_natCast] at *; omega)); (case k => first | omega | (simp only [Int.ofNat_eq_natCast] at *; omega)); (case b => omega)); intro n' t' hn'))
local macro_rules | `(tactic| walk_at "subscriptTail Name Subscript ref int") => `(tactic| (k_here; (with_reducible show wpAny _ _ (subscriptTail _ _ (Value.ref _) (Value.int (Int.ofNat _) _)) _ _ _); k_dflt (refine' graph_tail ?G ?k ?_; (case G => (refine' GraphB.at' ?g1 ?g2 ?g3 ?g4 ?g5 ?g6 ?g7; (case g1 => assumption); (case g2 => k_asm); (case g3 => k_mem); (case g4 => intro p hp; k_mem); (case g5 => assumption); (case g6 => assumption); (case g7 => assumption))); (case k => first | omega | exact path_lt (by assumption) (by assumption))); intro a' S'))
theorem t1 : PySem.Challenge.rw_fb0020_01.Holds := hd (by
  w_strict (
    k_go0; (all_goals try k_fold); k_steps
    unfold Held
    rename Fr _ _ _ _ => F1; rename News _ _ _ _ => N1; rename IntsAre _ (List.take _ _) => hI1
    rename_i ow on0 og0 oc0 hd3 hd2 hd1 hd0 X0 dB wsB hB2 hCB hLB l1B dN cN hB1 l1N hB0 ocn dcn
    clear X0 hd0 hCB hLB
    rename World => w9
    rename Shared => s1
    rename Frag.In _ _ => KX; rename Top _ _ _ _ _ _ => TT; rename Below _ _ _ _ => BB
    obtain ⟨m0, ns0, F1, hI1, hl9⟩ : ∃ m0 ns0, Fr _ _ _ m0 ∧ IntsAre _ ns0 ∧ ns0.length ≤ 9 := ⟨_, _, F1, hI1, List.length_take_le 9 _⟩
    refine wpAny_mono (E := fun _ _ => False) ?_ (fun _ _ q => q) (fun _ _ h => h.elim)
    refine While_inv2 (fun n m₁ news₁ => ∃ (vs : List Value) (ns : List Int) (c : Nat), m₁ = m0 ∧ news₁ = (_, lst vs.toArray c) :: _ ∧ IntsAre vs ns ∧ ns.length ≤ 9 ∧ n = 4 - ns.length) F1 N1 ⟨_, _, _, rfl, rfl, hI1, hl9, rfl⟩ ?_ passes_false
    clear F1 N1
    rintro n m₁ news₁ h₁ tk₁ F2 N2 ⟨vs, ns, c, rfl, rfl, hI2, hn9, rfl⟩
    have hvl := hI2.length
    k_steps
    · dsimp only [WhileStep2]
      rename Fr _ _ _ _ => F3; rename News _ _ _ _ => N3
      exact ⟨_, _, _, _, 4 - (ns.length + 1), rfl, F3, N3, by omega, vs ++ [_], ns ++ [0], _, rfl, rfl, ints_append hI2 (.cons _ _ .nil), by rw [List.length_append, List.length_singleton]; omega, by rw [List.length_append, List.length_singleton]⟩
    unfold Held
    rename Fr _ _ _ _ => F3; rename News _ _ _ _ => N3
    have hge : 4 ≤ ns.length := by omega
    rename (_ == sysModules) = false => lo
    rename Obj.IsDictOf (intKind _ _) _ _ => D3
    rename_i t2 h2 gd h3 og hs9 fs9 fi9 hlgd h4 ocg dcg
    clear hs9 fs9 fi9
    obtain ⟨many, tM, F3, hm2, hm6⟩ := lawMany F3
    refine wpAny_For ?_
    k_steps
    unfold Held
    rename Fr _ _ _ _ => F4; rename News _ _ _ _ => N4; rename RangeO _ _ => hr; rename gd < _ ∧ _ => hlr
    rename_i rA hr0 tkr ro
    refine for_range rfl (fr_self (Str.ofString "node") F4) N4 (by k_mem) hr (by omega) (by rfl) (by rfl)
      (fun z m₂ news₂ => ∃ (kvs : List (Int × Value)) (og on : Obj) (v0 : Option Value) (rest : List (Addr × Obj)) (adj : Nat → Nat) (vnode : Option Value),
        m₂ = (fun y => if y = Str.ofString "node" then vnode else if y = Str.ofString "many" then some (.int (Int.ofNat many) tM) else m₁ y) ∧
        news₂ = (rA, ro) :: (gd, og) :: (dN, lst vs.toArray c) :: (dB, lst wsB.toArray 0) :: (s1.heap.objs.size + 1 + 1 + 1 + 1, ow) :: (s1.heap.objs.size + 1 + 1 + 1, on) :: (s1.heap.objs.size + 1 + 1, ocg) :: (s1.heap.objs.size + 1, ocn) :: rest ∧ on.data = .cell v0 ∧ og.IsDictOf (intKind PySem.Challenge.rw_fb0020_01.row.prog w9) kvs ∧ GraphB w9 many z kvs rest adj ∧
        (∀ p ∈ rest, p.1 ≠ gd) ∧ (∀ p ∈ rest, p.1 ≠ s1.heap.objs.size + 1 + 1 + 1) ∧ (∀ p ∈ rest, p.1 ≠ s1.heap.objs.size + 1 + 1 + 1 + 1))
      ⟨[], og, _, _, [], _, _, rfl, rfl, by assumption, D3, GraphB.init, (fun _ h => nomatch h), (fun _ h => nomatch h), (fun _ h => nomatch h)⟩ (by rintro i m₁ news₁ ⟨kvs, og, on, v0, rest, adj, vnode, rfl, rfl, r⟩; exact .head _) ?_ ?_
    · clear F3 N3 F4 N4 D3
      rintro I z zt m₂ news₂ h tk oI hz ⟨kvs, og, on, v0, rest, adj, vnode, rfl, rfl, hon, D4, G4, hr1, hr2, hr3⟩ hneI hI F5 N5
      k_lt hI
      replace F5 : Fr s1.heap s1.heap.objs.size h _ := F5
      replace N5 : News s1.heap s1.heap.objs.size h _ := N5
      rw [shadow] at F5
      have hnone := G4.none z (Nat.le_refl _)
      have hlen4 := G4.len
      k_steps
      all_goals (
        unfold Held
        k_dflt (refine LCt.ListComp_T (F₀ := by k_asm) (by with_unfolding_all rfl) (by decide) (by rfl) (by decide) (by rfl) ?_)
        k_steps
        unfold Held
        rename Fr _ _ _ _ => F6; rename News _ _ _ _ => N6; rename RangeO _ _ => hr6
        refine comp_filter rfl F6 N6 hr6 (by omega) ?_ ?_
        · rintro i t ys I3 oI3 C3 oC3 D3 m3 h3 tk3 s3 E3 hi3 hC3 hx3 F7 N7 off7 ne7
          simp only [LCg.Off3] at off7
          k_steps
          all_goals first | exact absurd (by assumption) (Int.not_lt.mpr (Int.natCast_nonneg i)) | exact TurnC.intro ⟨_, rfl⟩ F7 N7 (fun _ h => h) | exact TurnC.intro trivial F7 N7 (fun _ h => h)
        · intro D9 h9 tk9 ys9 xs9 F8 N8 o8 hI8 hx8
          simp only [LCg.Off1] at o8
          have hx86 : ∀ x ∈ xs9, x < 6 := fun x hx => Nat.lt_of_lt_of_le (hx8 x hx) hm6
          k_steps
          rename Fr _ _ _ _ => F9; rename News _ _ _ _ => N9; rename SetB _ (orAll _ _) _ => S9; rename Obj.IsDictOf _ _ _ => D9d
          exact ⟨_, _, _, _, rfl, F9, News.sub N9 permG, off_ins (l := [_, _, _, _, _, _, _, _]) (l' := [_, _, _, _, _, _, _, _]) hneI (by k_ne) rfl, _, _, _, _, _ :: rest, _, _, rfl, rfl, by assumption, D9d, G4.step (fun p hp => .tail _ hp) (.head _) S9 (orAll_lt hx8),
            off_cons (by k_ne) hr1, off_cons (by k_ne) hr2, off_cons (by k_ne) hr3⟩)
    · clear F3 N3 F4 N4 D3
      rintro m₂ news₂ h tk ⟨kvs, og, on, v0, rest, adj, vnode, rfl, rfl, hon, D4, G4, hr1, hr2, hr3⟩ F5 N5
      replace F5 : Fr s1.heap s1.heap.objs.size h _ := F5
      replace N5 : News s1.heap s1.heap.objs.size h _ := N5
      dsimp only
      k_steps
      unfold Held
      k_dflt (refine LCt.ListComp_T (F₀ := by k_asm) (by with_unfolding_all rfl) (by decide) (by rfl) (by decide) (by rfl) ?_)
      k_steps
      unfold Held
      rename Fr _ _ _ _ => F6; rename News _ _ _ _ => N6; rename RangeO _ _ => hr6
      refine comp_filter rfl F6 N6 hr6 (by omega) ?_ ?_
      · rintro i t ys I3 oI3 C3 oC3 D3 m3 h3 tk3 s3 E3 hi3 hC3 hx3 F7 N7 off7 ne7
        simp only [LCg.Off3] at off7
        k_steps
        all_goals first | exact absurd (by assumption) (Int.not_lt.mpr (Int.natCast_nonneg i)) | exact TurnC.intro ⟨_, rfl⟩ F7 N7 (fun _ h => h) | exact TurnC.intro trivial F7 N7 (fun _ h => h)
      · intro D9 h9 tk9 ys9 xs9 F8 N8 o8 hI8 hx8
        simp only [LCg.Off1] at o8
        have hx86 : ∀ x ∈ xs9, x < 6 := fun x hx => Nat.lt_of_lt_of_le (hx8 x hx) hm6
        k_steps
        all_goals (rename Steps _ _ _ _ _ => S10; rename PairsB _ _ => P10)
        · unfold Held
          intro h11 tk11 F11 N11 hnr
          have hnin := S10.nin hnr
          k_steps
        · unfold Held
          intro ra h11 tk11 vsW cW pW F11 N11 o11 hIW PW hminW
          simp only [LCg.Off1] at o11
          obtain ⟨d, qW, qW2, rfl, hqW2, hmd, hin, hWm, hW6, hWl, hE1, hE2, hE3, hE4, hWc⟩ := way_all S10 PW hminW (by assumption) G4.sub hm6
          k_steps
          unfold Held
          k_dflt (refine LCg.ListComp_U (F₀ := by k_asm) (by with_unfolding_all rfl) (by decide) (by rfl) (by decide) (by rfl) ?_)
          k_steps
          unfold Held
          rename Fr _ _ _ _ => F12; rename News _ _ _ _ => N12; rename RangeO _ _ => hr12
          refine comp_each rfl F12 N12 hr12 (by omega) (.bool true) ?_ ?_
          · rintro i t ys I3 oI3 C3 oC3 D3 m3 h3 tk3 s3 E3 hi3 hC3 hx3 F7 N7 off7 ne7
            simp only [LCg.Off3] at off7
            have hi0 : Int.ofNat i = (i : Int) := rfl
            k_steps
            all_goals exact TurnC.intro (congrArg Value.bool (hWc i _ _ (by assumption) (by assumption))) F7 N7 (fun _ h => h)
          · intro D12 h12 tk12 F13 N13 o13
            simp only [LCg.Off1] at o13
            k_steps))
end Mine
end
theorem PySem.Challenge.cw_fb0020_01_holds : PySem.Challenge.rw_fb0020_01.Holds := by
  exact Mine.t1
