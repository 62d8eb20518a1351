import JvmDerived
import JvmDerived.Pilot.@@N@@Statement
import JvmDerived.Pilot.@@N@@Code
set_option linter.unusedVariables false
set_option linter.unusedSimpArgs false
set_option maxRecDepth 65536
set_option maxHeartbeats 4000000
namespace Jvm.Pilot.@@N@@
open Jvm Jvm.ClassFile Sem Op Lib Jvm.Free Jvm.Stand Jvm.LawKit Jvm.RoadKit Bundle Jvm.Pilot.@@N@@.Jvm.D
theorem tw0 : Jvm.Cond.arrayClass FieldType.int ∈ tables_1 := List.mem_of_getElem? (i := 0) rfl
theorem tw1 : Jvm.Cond.constant "shelfmark/XmlCharsIsNameStartPinLaw" (14 : Nat) (55295 : Int32) ∈ tables_1 := List.mem_of_getElem? (i := 1) rfl
theorem tw2 : Jvm.Cond.constant "shelfmark/XmlCharsIsNameStartPinLaw" (15 : Nat) (63744 : Int32) ∈ tables_1 := List.mem_of_getElem? (i := 2) rfl
theorem tw3 : Jvm.Cond.constant "shelfmark/XmlCharsIsNameStartPinLaw" (16 : Nat) (64975 : Int32) ∈ tables_1 := List.mem_of_getElem? (i := 3) rfl
theorem tw4 : Jvm.Cond.constant "shelfmark/XmlCharsIsNameStartPinLaw" (17 : Nat) (65008 : Int32) ∈ tables_1 := List.mem_of_getElem? (i := 4) rfl
theorem tw5 : Jvm.Cond.constant "shelfmark/XmlCharsIsNameStartPinLaw" (18 : Nat) (65533 : Int32) ∈ tables_1 := List.mem_of_getElem? (i := 5) rfl
theorem tw6 : Jvm.Cond.constant "shelfmark/XmlCharsIsNameStartPinLaw" (19 : Nat) (65536 : Int32) ∈ tables_1 := List.mem_of_getElem? (i := 6) rfl
theorem tw7 : Jvm.Cond.constant "shelfmark/XmlCharsIsNameStartPinLaw" (7 : Nat) (983039 : Int32) ∈ tables_1 := List.mem_of_getElem? (i := 7) rfl
theorem tw8 : Jvm.Cond.constant "shelfmark/XmlCharsIsNameStartPinLaw" (20 : Nat) (2147483647 : Int32) ∈ tables_1 := List.mem_of_getElem? (i := 8) rfl
theorem tw9 : Jvm.Cond.methodLink "shelfmark/XmlCharsIsNameStartPinLaw" (21 : Nat) (⟨"shelfmark/XmlChars", "isNameStart", "(I)Z"⟩ : MethodName) ∈ tables_1 := List.mem_of_getElem? (i := 9) rfl
theorem tw10 : Jvm.Cond.static (⟨"shelfmark/XmlChars", "isNameStart", "(I)Z"⟩ : MethodName) ∈ tables_1 := List.mem_of_getElem? (i := 10) rfl
theorem tw11 : Jvm.Cond.initialized "shelfmark/XmlChars" ∈ tables_1 := List.mem_of_getElem? (i := 11) rfl
theorem tw12 : Jvm.Cond.code (⟨"shelfmark/XmlChars", "isNameStart", "(I)Z"⟩ : MethodName) prog_77_method_6_code (1 : Nat) (Option.some FieldType.boolean) ∈ tables_1 := List.mem_of_getElem? (i := 12) rfl
theorem tw13 : Jvm.Cond.methodLink "shelfmark/XmlCharsIsNameStartPinLaw" (27 : Nat) (⟨"shelfmark/XmlCharsIsNameStartPinLaw", "ref", "(I)Z"⟩ : MethodName) ∈ tables_1 := List.mem_of_getElem? (i := 13) rfl
theorem tw14 : Jvm.Cond.static (⟨"shelfmark/XmlCharsIsNameStartPinLaw", "ref", "(I)Z"⟩ : MethodName) ∈ tables_1 := List.mem_of_getElem? (i := 14) rfl
theorem tw15 : Jvm.Cond.initialized "shelfmark/XmlCharsIsNameStartPinLaw" ∈ tables_1 := List.mem_of_getElem? (i := 15) rfl
theorem tw16 : Jvm.Cond.code (⟨"shelfmark/XmlCharsIsNameStartPinLaw", "ref", "(I)Z"⟩ : MethodName) method_2_code (1 : Nat) (Option.some FieldType.boolean) ∈ tables_1 := List.mem_of_getElem? (i := 16) rfl
theorem tw17 : Jvm.Cond.constant "shelfmark/XmlCharsIsNameStartPinLaw" (8 : Nat) (55296 : Int32) ∈ tables_1 := List.mem_of_getElem? (i := 17) rfl
theorem tw18 : Jvm.Cond.constant "shelfmark/XmlCharsIsNameStartPinLaw" (10 : Nat) (64976 : Int32) ∈ tables_1 := List.mem_of_getElem? (i := 18) rfl
theorem tw19 : Jvm.Cond.constant "shelfmark/XmlCharsIsNameStartPinLaw" (12 : Nat) (65534 : Int32) ∈ tables_1 := List.mem_of_getElem? (i := 19) rfl
theorem tw20 : Jvm.Cond.constant "shelfmark/XmlChars" (16 : Nat) (63744 : Int32) ∈ tables_1 := List.mem_of_getElem? (i := 20) rfl
theorem tw21 : Jvm.Cond.constant "shelfmark/XmlChars" (18 : Nat) (65008 : Int32) ∈ tables_1 := List.mem_of_getElem? (i := 21) rfl
theorem tw22 : Jvm.Cond.constant "shelfmark/XmlChars" (9 : Nat) (65536 : Int32) ∈ tables_1 := List.mem_of_getElem? (i := 22) rfl
theorem tw23 : Jvm.Cond.constant "shelfmark/XmlChars" (13 : Nat) (55295 : Int32) ∈ tables_1 := List.mem_of_getElem? (i := 23) rfl
theorem tw24 : Jvm.Cond.constant "shelfmark/XmlChars" (17 : Nat) (64975 : Int32) ∈ tables_1 := List.mem_of_getElem? (i := 24) rfl
theorem tw25 : Jvm.Cond.constant "shelfmark/XmlChars" (15 : Nat) (65533 : Int32) ∈ tables_1 := List.mem_of_getElem? (i := 25) rfl
theorem tw26 : Jvm.Cond.constant "shelfmark/XmlChars" (19 : Nat) (983039 : Int32) ∈ tables_1 := List.mem_of_getElem? (i := 26) rfl
theorem tw27 : Jvm.Cond.constant "shelfmark/XmlCharsIsNameStartPinLaw" (9 : Nat) (63743 : Int32) ∈ tables_1 := List.mem_of_getElem? (i := 27) rfl
theorem tw28 : Jvm.Cond.constant "shelfmark/XmlCharsIsNameStartPinLaw" (11 : Nat) (65007 : Int32) ∈ tables_1 := List.mem_of_getElem? (i := 28) rfl
theorem tw29 : Jvm.Cond.constant "shelfmark/XmlCharsIsNameStartPinLaw" (13 : Nat) (65535 : Int32) ∈ tables_1 := List.mem_of_getElem? (i := 29) rfl
def lay (t : Nat) : String × List (String × String) := ("", [])
theorem lay_word (t : Nat) (nd : String × String) (h : nd ∈ (lay t).2) : Jvm.Cond.lays (lay t).1 (lay t).1 nd.1 nd.2 ∈ tables_1 ∨ Jvm.Cond.laysFinal (lay t).1 (lay t).1 nd.1 nd.2 ∈ tables_1 := by simp [lay] at h
theorem lay_parse (t : Nat) (nd : String × String) (h : nd ∈ (lay t).2) : ∃ ty, parseFieldDescriptor nd.2 = some ty := by simp [lay] at h
theorem lay_names (t k k' : Nat) (nd nd' : String × String) (h1 : (lay t).2[k]? = some nd) (h2 : (lay t).2[k']? = some nd') (ne : k ≠ k') : nd.1 ≠ nd'.1 := by simp [lay] at h1
/-! the abstract machine over the library's laws -/
abbrev Obj := Sum (FieldType × List Value) (Nat × List Value)
abbrev Gx := Launch × State × Array Value × Nat
abbrev Kx := Program × Env × Room × State × MethodId × Array Value × List Frame × Method × Code × Nat × Nat
/-- a reference of the model is the number of an own object; the object of number 0 lies at n -/
def sh (n : Nat) : Value → Value
  | .ref i => .ref (n + i)
  | v => v
theorem sh_cat (n : Nat) (v : Value) : (sh n v).category = v.category := by cases v <;> rfl
/-! local variables -/
def Wf (f : Nat → Option Slot) : Prop :=
  (∀ (k : Nat) (v : Value), f k = some (Slot.val v) → v.category = 2 → f (k + 1) = some .second) ∧ (∀ k, f k = some .second → ∃ v : Value, 1 ≤ k ∧ f (k - 1) = some (Slot.val v) ∧ v.category = 2)
def Lrel (n : Nat) (Ls : List (Option Value)) (L : Array Slot) : Prop :=
  L.size = Ls.length ∧ Wf (fun k => L[k]?) ∧ ∀ (k : Nat) (v : Value), Ls[k]? = some (some v) → L[k]? = some (Slot.val (sh n v))
def clr (Ls : List (Option Value)) : Nat → List (Option Value)
  | 0 => Ls
  | j + 1 => match Ls[j]? with
    | some (some w) => if w.category = 2 then Ls.set j none else Ls
    | _ => Ls
def stor (Ls : List (Option Value)) (i : Nat) (v : Value) : Option (List (Option Value)) :=
  if v.category = 2 then (if i + 1 < Ls.length then some (((clr Ls i).set i (some v)).set (i + 1) none) else none) else (if i < Ls.length then some ((clr Ls i).set i (some v)) else none)
theorem wf_gen {f f' : Nat → Option Slot} (hf : Wf f) {i last : Nat} {v : Value} (hl : (v.category = 2 ∧ last = i + 1 ∧ f' (i + 1) = some .second) ∨ (v.category ≠ 2 ∧ last = i)) (h0 : f' i = some (Slot.val v))
    (h1 : ∀ k, k + 1 = i → ∀ w : Value, f k = some (Slot.val w) → w.category = 2 → f' k = some .unset) (h2 : f (last + 1) = some .second → f' (last + 1) = some .unset)
    (h3 : ∀ k, k < i ∨ last < k → f' k = f k ∨ (f' k = some .unset ∧ ((k + 1 = i ∧ ∃ w : Value, f k = some (Slot.val w) ∧ w.category = 2) ∨ (k = last + 1 ∧ f k = some .second)))) : Wf f' := by
  have hc : ∀ k, k = i ∨ (k = i + 1 ∧ last = i + 1 ∧ f' (i + 1) = some .second) ∨ (k < i ∨ last < k) := fun k => by
    rcases hl with ⟨-, a, b⟩ | ⟨-, a⟩
    · by_cases h : k = i; · exact Or.inl h
      by_cases h' : k = i + 1; · exact Or.inr (Or.inl ⟨h', a, b⟩)
      exact Or.inr (Or.inr (by omega))
    · by_cases h : k = i; · exact Or.inl h
      exact Or.inr (Or.inr (by omega))
  have hli : i ≤ last := by omega
  constructor
  · intro k w hk hw
    rcases hc k with rfl | ⟨rfl, -, b⟩ | h
    · rcases hl with ⟨-, -, b⟩ | ⟨a, -⟩
      · exact b
      · rw [h0] at hk; cases hk; exact absurd hw a
    · rw [b] at hk; cases hk
    · rcases h3 k h with q | ⟨q, -⟩
      · rw [q] at hk
        have hs := hf.1 k w hk hw
        by_cases e1 : k + 1 = i
        · have := h1 k e1 w hk hw; rw [q, hk] at this; cases this
        · have h' : k + 1 < i ∨ last < k + 1 := by omega
          rcases h3 (k + 1) h' with q' | ⟨-, ⟨-, w', a, -⟩ | ⟨a, -⟩⟩
          · rw [q']; exact hs
          · rw [hs] at a; cases a
          · omega
      · rw [q] at hk; cases hk
  · intro k hk
    rcases hc k with rfl | ⟨rfl, a, b⟩ | h
    · rw [h0] at hk; cases hk
    · rcases hl with ⟨c, -, -⟩ | ⟨-, c⟩
      · exact ⟨v, by omega, by simpa using h0, c⟩
      · omega
    · rcases h3 k h with q | ⟨q, -⟩
      · rw [q] at hk
        obtain ⟨w, k1, hw, hw2⟩ := hf.2 k hk
        by_cases e1 : k = last + 1
        · subst e1; have := h2 hk; rw [q, hk] at this; cases this
        · have h' : k - 1 < i ∨ last < k - 1 := by
            rcases h with h | h
            · exact Or.inl (by omega)
            · exact Or.inr (by omega)
          rcases h3 (k - 1) h' with q' | ⟨-, ⟨a, -⟩ | ⟨a, b⟩⟩
          · exact ⟨w, k1, by rw [q']; exact hw, hw2⟩
          · have : k = i := by omega
            omega
          · rw [hw] at b; cases b
      · rw [q] at hk; cases hk
theorem clr_get {Ls : List (Option Value)} {i k : Nat} {w : Value} (h : (clr Ls i)[k]? = some (some w)) : Ls[k]? = some (some w) ∧ (k + 1 = i → w.category ≠ 2) := by
  cases i with
  | zero => exact ⟨h, fun q => by omega⟩
  | succ j =>
    simp only [clr] at h
    split at h
    · rename_i w' hw'
      split at h
      · rename_i h2
        by_cases e : j = k
        · subst e; rw [List.getElem?_set] at h; simp at h
        · rw [List.getElem?_set_ne e] at h; exact ⟨h, fun q => by omega⟩
      · rename_i h2
        refine ⟨h, fun q => ?_⟩
        have : j = k := by omega
        subst this; rw [hw'] at h; cases h; exact h2
    · rename_i hn
      refine ⟨h, fun q => ?_⟩
      have : j = k := by omega
      subst this; exact absurd h (hn w)
theorem clr_len (Ls : List (Option Value)) (i : Nat) : (clr Ls i).length = Ls.length := by
  cases i with
  | zero => rfl
  | succ j => simp only [clr]; split <;> (try split) <;> simp
theorem lrel_gen {n : Nat} {Ls Ls' : List (Option Value)} {L L' : Array Slot} {i last : Nat} {v : Value} (h : Lrel n Ls L) (hsz : L'.size = L.size) (hlen : Ls'.length = Ls.length)
    (hl : (v.category = 2 ∧ last = i + 1 ∧ L'[i + 1]? = some .second) ∨ (v.category ≠ 2 ∧ last = i)) (h0 : L'[i]? = some (Slot.val (sh n v)))
    (h1 : ∀ k, k + 1 = i → ∀ w : Value, L[k]? = some (Slot.val w) → w.category = 2 → L'[k]? = some .unset) (h2 : L[last + 1]? = some .second → L'[last + 1]? = some .unset)
    (h3 : ∀ k, k < i ∨ last < k → L'[k]? = L[k]? ∨ (L'[k]? = some .unset ∧ ((k + 1 = i ∧ ∃ w : Value, L[k]? = some (Slot.val w) ∧ w.category = 2) ∨ (k = last + 1 ∧ L[k]? = some .second))))
    (hs : ∀ k w, Ls'[k]? = some (some w) → (k = i ∧ w = v) ∨ ((k < i ∨ last < k) ∧ Ls[k]? = some (some w) ∧ (k + 1 = i → w.category ≠ 2))) : Lrel n Ls' L' := by
  refine ⟨by rw [hsz, hlen]; exact h.1, wf_gen (f := fun k => L[k]?) (f' := fun k => L'[k]?) (v := sh n v) h.2.1 (by rw [sh_cat]; exact hl) h0 h1 h2 h3, fun k w hk => ?_⟩
  rcases hs k w hk with ⟨rfl, rfl⟩ | ⟨a, b, c⟩
  · exact h0
  · have hb := h.2.2 k w b
    rcases h3 k a with q | ⟨-, ⟨q, w', r1, r2⟩ | ⟨-, r⟩⟩
    · rw [q]; exact hb
    · rw [hb] at r1; cases r1; exact absurd (by rw [← sh_cat n w]; exact r2) (c q)
    · rw [hb] at r; cases r
theorem get_set (L : Array Slot) (i j : Nat) (x : Slot) (hi : i < L.size) : (L.setIfInBounds i x)[j]? = if i = j then some x else L[j]? := by
  rw [Array.getElem?_setIfInBounds]; simp [hi]
theorem store_1 {n : Nat} {Ls Ls' : List (Option Value)} {L : Array Slot} {i : Nat} {v : Value} (h : Lrel n Ls L) (hc : v.category = 1) (hl : stor Ls i v = some Ls') : ∃ L', storeLocals L i (sh n v) = some L' ∧ Lrel n Ls' L' := by
  have hc2 : ¬ v.category = 2 := by omega
  simp only [stor, hc2, if_false] at hl
  have hi : i < Ls.length := Decidable.byContradiction fun hi => by rw [if_neg hi] at hl; cases hl
  rw [if_pos hi] at hl
  cases hl
  have hiL : i < L.size := by rw [h.1]; exact hi
  have hcs : (sh n v).category = 1 := (sh_cat n v).trans hc
  have hs : ∀ k w, ((clr Ls i).set i (some v))[k]? = some (some w) → (k = i ∧ w = v) ∨ ((k < i ∨ i < k) ∧ Ls[k]? = some (some w) ∧ (k + 1 = i → w.category ≠ 2)) := fun k w hk => by
    by_cases e : i = k
    · subst e
      rw [List.getElem?_set_self (by rw [clr_len]; exact hi)] at hk
      cases hk; exact Or.inl ⟨rfl, rfl⟩
    · rw [List.getElem?_set_ne e] at hk
      exact Or.inr ⟨by omega, clr_get hk⟩
  have hlen : ((clr Ls i).set i (some v)).length = Ls.length := by simp [clr_len]
  have hgo : L[i]? = some L[i] := Array.getElem?_eq_getElem hiL
  cases hq : L[i] with
  | unset =>
    rw [hq] at hgo
    refine ⟨L.setIfInBounds i (.val (sh n v)), by simp [storeLocals, storeSelf, setAt, hgo, hcs, hiL, hq], lrel_gen (i := i) (last := i) (v := v) h (by simp) hlen (Or.inr ⟨hc2, rfl⟩) ?_ ?_ ?_ ?_ hs⟩
    · rw [get_set _ _ _ _ hiL]; simp
    · intro k hk w hw hw2; have := h.2.1.1 k w hw hw2; simp only [hk] at this; rw [hgo] at this; cases this
    · intro hk; obtain ⟨w, -, a, -⟩ := h.2.1.2 _ hk; simp only [Nat.add_sub_cancel] at a; rw [hgo] at a; cases a
    · intro k hk; left; rw [get_set _ _ _ _ hiL, if_neg (by omega)]
  | second =>
    rw [hq] at hgo
    obtain ⟨w0, i1, hw0, hw2⟩ := h.2.1.2 _ hgo
    simp only at hw0
    have hi1 : i - 1 < L.size := by omega
    refine ⟨(L.setIfInBounds (i - 1) .unset).setIfInBounds i (.val (sh n v)), by simp [storeLocals, storeSelf, setAt, hgo, hcs, hiL, hi1, hq], lrel_gen (i := i) (last := i) (v := v) h (by simp) hlen (Or.inr ⟨hc2, rfl⟩) ?_ ?_ ?_ ?_ hs⟩
    · rw [get_set _ _ _ _ (by simpa using hiL)]; simp
    · intro k hk w hw hw2'; rw [get_set _ _ _ _ (by simpa using hiL), get_set _ _ _ _ hi1, if_neg (by omega), if_pos (by omega)]
    · intro hk; obtain ⟨w, -, a, -⟩ := h.2.1.2 _ hk; simp only [Nat.add_sub_cancel] at a; rw [hgo] at a; cases a
    · intro k hk; rw [get_set _ _ _ _ (by simpa using hiL), get_set _ _ _ _ hi1, if_neg (by omega)]
      by_cases e : i - 1 = k
      · subst e; rw [if_pos rfl]; exact Or.inr ⟨rfl, Or.inl ⟨by omega, w0, hw0, hw2⟩⟩
      · rw [if_neg e]; exact Or.inl rfl
  | val old =>
    rw [hq] at hgo
    have hnl : ∀ k, k + 1 = i → ∀ w : Value, L[k]? = some (Slot.val w) → w.category = 2 → False := fun k hk w hw hw2 => by
      have := h.2.1.1 k w hw hw2; simp only [hk] at this; rw [hgo] at this; cases this
    by_cases ho : old.category = 2
    · have hn : L[i + 1]? = some .second := h.2.1.1 i old hgo ho
      have hi1 : i + 1 < L.size := (Array.getElem?_eq_some_iff.mp hn).1
      refine ⟨(L.setIfInBounds (i + 1) .unset).setIfInBounds i (.val (sh n v)), by simp [storeLocals, storeSelf, setAt, hgo, hcs, hiL, hi1, ho, hq], lrel_gen (i := i) (last := i) (v := v) h (by simp) hlen (Or.inr ⟨hc2, rfl⟩) ?_ ?_ ?_ ?_ hs⟩
      · rw [get_set _ _ _ _ (by simpa using hiL)]; simp
      · intro k hk w hw hw2; exact (hnl k hk w hw hw2).elim
      · intro _; rw [get_set _ _ _ _ (by simpa using hiL), get_set _ _ _ _ hi1, if_neg (by omega), if_pos rfl]
      · intro k hk; rw [get_set _ _ _ _ (by simpa using hiL), get_set _ _ _ _ hi1, if_neg (by omega)]
        by_cases e : i + 1 = k
        · subst e; rw [if_pos rfl]; exact Or.inr ⟨rfl, Or.inr ⟨rfl, hn⟩⟩
        · rw [if_neg e]; exact Or.inl rfl
    · refine ⟨L.setIfInBounds i (.val (sh n v)), by simp [storeLocals, storeSelf, setAt, hgo, hcs, hiL, ho, hq], lrel_gen (i := i) (last := i) (v := v) h (by simp) hlen (Or.inr ⟨hc2, rfl⟩) ?_ ?_ ?_ ?_ hs⟩
      · rw [get_set _ _ _ _ hiL]; simp
      · intro k hk w hw hw2; exact (hnl k hk w hw hw2).elim
      · intro hk; obtain ⟨w, -, a, b⟩ := h.2.1.2 _ hk; simp only [Nat.add_sub_cancel] at a; rw [hgo] at a; cases a; exact absurd b ho
      · intro k hk; left; rw [get_set _ _ _ _ hiL, if_neg (by omega)]
/-- the second half of a long's store -/
theorem self_2 {l : Array Slot} {i : Nat} {v : Value} (hc : v.category = 2) (h1 : i + 1 < l.size) (hw : ∀ w : Value, l[i + 1]? = some (Slot.val w) → w.category = 2 → i + 2 < l.size) :
    ∃ l', storeSelf l i v = some l' ∧ l'.size = l.size ∧ l'[i]? = some (Slot.val v) ∧ l'[i + 1]? = some .second ∧ (∀ k, k < i ∨ i + 2 < k → l'[k]? = l[k]?) ∧
      ((∃ w : Value, l[i + 1]? = some (Slot.val w) ∧ w.category = 2) ∧ l'[i + 2]? = some .unset ∨ (¬ ∃ w : Value, l[i + 1]? = some (Slot.val w) ∧ w.category = 2) ∧ l'[i + 2]? = l[i + 2]?) := by
  have hi : i < l.size := by omega
  have hgo : l[i + 1]? = some l[i + 1] := Array.getElem?_eq_getElem h1
  have hgo' : (l.setIfInBounds i (.val v))[i + 1]? = some l[i + 1] := by rw [get_set _ _ _ _ hi, if_neg (by omega)]; exact hgo
  by_cases hx : ∃ w : Value, l[i + 1]? = some (Slot.val w) ∧ w.category = 2
  · obtain ⟨w, a, b⟩ := hx
    have h2 := hw w a b
    have e : l[i + 1] = .val w := Option.some.inj (hgo.symm.trans a)
    refine ⟨((l.setIfInBounds i (.val v)).setIfInBounds (i + 2) .unset).setIfInBounds (i + 1) .second, ?_, by simp, ?_, ?_, ?_, Or.inl ⟨⟨w, a, b⟩, ?_⟩⟩
    · rw [e] at hgo'
      simp [storeSelf, setAt, hi, hc, hgo', b, h1, h2, e]
    · rw [get_set _ _ _ _ (by simpa using h1), if_neg (by omega), get_set _ _ _ _ (by simpa using h2), if_neg (by omega), get_set _ _ _ _ hi, if_pos rfl]
    · rw [get_set _ _ _ _ (by simpa using h1), if_pos rfl]
    · intro k hk; rw [get_set _ _ _ _ (by simpa using h1), if_neg (by omega), get_set _ _ _ _ (by simpa using h2), if_neg (by omega), get_set _ _ _ _ hi, if_neg (by omega)]
    · rw [get_set _ _ _ _ (by simpa using h1), if_neg (by omega), get_set _ _ _ _ (by simpa using h2), if_pos rfl]
  · refine ⟨(l.setIfInBounds i (.val v)).setIfInBounds (i + 1) .second, ?_, by simp, ?_, ?_, ?_, Or.inr ⟨hx, ?_⟩⟩
    · cases e : l[i + 1] with
      | unset => rw [e] at hgo'; simp [storeSelf, setAt, hi, hc, hgo', h1, e]
      | second => rw [e] at hgo'; simp [storeSelf, setAt, hi, hc, hgo', h1, e]
      | val w =>
        rw [e] at hgo' hgo
        have hn : ¬ w.category = 2 := fun q => hx ⟨w, hgo, q⟩
        simp [storeSelf, setAt, hi, hc, hgo', h1, hn, e]
    · rw [get_set _ _ _ _ (by simpa using h1), if_neg (by omega), get_set _ _ _ _ hi, if_pos rfl]
    · rw [get_set _ _ _ _ (by simpa using h1), if_pos rfl]
    · intro k hk; rw [get_set _ _ _ _ (by simpa using h1), if_neg (by omega), get_set _ _ _ _ hi, if_neg (by omega)]
    · rw [get_set _ _ _ _ (by simpa using h1), if_neg (by omega), get_set _ _ _ _ hi, if_neg (by omega)]
theorem store_2 {n : Nat} {Ls Ls' : List (Option Value)} {L : Array Slot} {i : Nat} {v : Value} (h : Lrel n Ls L) (hc : v.category = 2) (hl : stor Ls i v = some Ls') : ∃ L', storeLocals L i (sh n v) = some L' ∧ Lrel n Ls' L' := by
  simp only [stor, hc, if_true] at hl
  have hi : i + 1 < Ls.length := Decidable.byContradiction fun hi => by rw [if_neg hi] at hl; cases hl
  rw [if_pos hi] at hl
  cases hl
  have hiL : i + 1 < L.size := by rw [h.1]; exact hi
  have hi0 : i < L.size := by omega
  have hcs : (sh n v).category = 2 := (sh_cat n v).trans hc
  have hs : ∀ k w, (((clr Ls i).set i (some v)).set (i + 1) none)[k]? = some (some w) → (k = i ∧ w = v) ∨ ((k < i ∨ i + 1 < k) ∧ Ls[k]? = some (some w) ∧ (k + 1 = i → w.category ≠ 2)) := fun k w hk => by
    by_cases e' : i + 1 = k
    · subst e'
      rw [List.getElem?_set_self (by simp [clr_len]; exact hi)] at hk
      cases hk
    · rw [List.getElem?_set_ne e'] at hk
      by_cases e : i = k
      · subst e
        rw [List.getElem?_set_self (by rw [clr_len]; omega)] at hk
        cases hk; exact Or.inl ⟨rfl, rfl⟩
      · rw [List.getElem?_set_ne e] at hk
        exact Or.inr ⟨by omega, clr_get hk⟩
  have hlen : (((clr Ls i).set i (some v)).set (i + 1) none).length = Ls.length := by simp [clr_len]
  have hgo : L[i]? = some L[i] := Array.getElem?_eq_getElem hi0
  have hW := h.2.1
  -- the first half: l1
  have key : ∃ l1, storeLocals L i (sh n v) = storeSelf l1 i (sh n v) ∧ l1.size = L.size ∧ (∀ k, k + 1 = i → ∀ w : Value, L[k]? = some (Slot.val w) → w.category = 2 → l1[k]? = some .unset) ∧
      (∀ k, k < i ∨ i + 1 < k → l1[k]? = L[k]? ∨ (l1[k]? = some .unset ∧ k + 1 = i ∧ ∃ w : Value, L[k]? = some (Slot.val w) ∧ w.category = 2)) ∧
      ((∃ w : Value, l1[i + 1]? = some (Slot.val w) ∧ w.category = 2) → L[i + 1]? = l1[i + 1]?) ∧ (L[i + 1]? = l1[i + 1]? ∨ L[i + 1]? = some .second) := by
    cases hq : L[i] with
    | unset =>
      rw [hq] at hgo
      refine ⟨L, by simp [storeLocals, hgo, hq], rfl, ?_, fun k _ => Or.inl rfl, fun _ => rfl, Or.inl rfl⟩
      intro k hk w hw hw2; have := hW.1 k w hw hw2; simp only [hk] at this; rw [hgo] at this; cases this
    | second =>
      rw [hq] at hgo
      obtain ⟨w0, i1, hw0, hw2⟩ := hW.2 _ hgo
      simp only at hw0
      have hi1 : i - 1 < L.size := by omega
      refine ⟨L.setIfInBounds (i - 1) .unset, by simp [storeLocals, setAt, hgo, hi1, hq], by simp, ?_, ?_, fun _ => by rw [get_set _ _ _ _ hi1, if_neg (by omega)], Or.inl (by rw [get_set _ _ _ _ hi1, if_neg (by omega)])⟩
      · intro k hk w hw hw2'; rw [get_set _ _ _ _ hi1, if_pos (by omega)]
      · intro k hk; rw [get_set _ _ _ _ hi1]
        by_cases e : i - 1 = k
        · subst e; rw [if_pos rfl]; exact Or.inr ⟨rfl, by omega, w0, hw0, hw2⟩
        · rw [if_neg e]; exact Or.inl rfl
    | val old =>
      rw [hq] at hgo
      have hnl : ∀ k, k + 1 = i → ∀ w : Value, L[k]? = some (Slot.val w) → w.category = 2 → False := fun k hk w hw hw2 => by
        have := hW.1 k w hw hw2; simp only [hk] at this; rw [hgo] at this; cases this
      by_cases ho : old.category = 2
      · have hn : L[i + 1]? = some .second := hW.1 i old hgo ho
        refine ⟨L.setIfInBounds (i + 1) .unset, by simp [storeLocals, setAt, hgo, hiL, ho, hq], by simp, fun k hk w hw hw2 => (hnl k hk w hw hw2).elim, ?_, ?_, Or.inr hn⟩
        · intro k hk; left; rw [get_set _ _ _ _ hiL, if_neg (by omega)]
        · rintro ⟨w, a, -⟩; rw [get_set _ _ _ _ hiL, if_pos rfl] at a; cases a
      · exact ⟨L, by simp [storeLocals, hgo, ho, hq], rfl, fun k hk w hw hw2 => (hnl k hk w hw hw2).elim, fun k _ => Or.inl rfl, fun _ => rfl, Or.inl rfl⟩
  obtain ⟨l1, k1, k2, k3, k4, k5, k6⟩ := key
  have hw2 : ∀ w : Value, l1[i + 1]? = some (Slot.val w) → w.category = 2 → i + 2 < l1.size := fun w a b => by
    have e := k5 ⟨w, a, b⟩
    rw [a] at e
    have := hW.1 (i + 1) w e b
    rw [k2]; exact (Array.getElem?_eq_some_iff.mp this).1
  obtain ⟨l', s1, s2, s3, s4, s5, s6⟩ := self_2 (v := sh n v) hcs (by rw [k2]; exact hiL) hw2
  refine ⟨l', by rw [k1]; exact s1, lrel_gen (i := i) (last := i + 1) (v := v) h (by rw [s2, k2]) hlen (Or.inl ⟨hc, rfl, s4⟩) s3 ?_ ?_ ?_ hs⟩
  · intro k hk w hw hw2'; rw [s5 k (by omega)]; exact k3 k hk w hw hw2'
  · intro hk
    obtain ⟨w, -, a, b⟩ := hW.2 _ hk
    simp only [Nat.add_sub_cancel] at a
    rcases s6 with ⟨-, q⟩ | ⟨q, -⟩
    · exact q
    · rcases k6 with k6 | k6
      · exact absurd ⟨w, by rw [← k6]; exact a, b⟩ q
      · rw [a] at k6; cases k6
  · intro k hk
    by_cases e : k = i + 2
    · subst e
      rcases s6 with ⟨⟨w, a, b⟩, q⟩ | ⟨-, q⟩
      · have e := k5 ⟨w, a, b⟩
        rw [a] at e
        exact Or.inr ⟨q, Or.inr ⟨rfl, hW.1 (i + 1) w e b⟩⟩
      · rcases k4 (i + 2) (by omega) with r | ⟨-, r, -⟩
        · left; rw [q, r]
        · omega
    · rw [s5 k (by omega)]
      rcases k4 k hk with r | ⟨r1, r2, r3⟩
      · exact Or.inl r
      · exact Or.inr ⟨r1, Or.inl ⟨r2, r3⟩⟩
/-! the entry -/
def aloc1 : List Value → List (Option Value)
  | [] => []
  | v :: r => if v.category = 2 then some v :: none :: aloc1 r else some v :: aloc1 r
def aloc (as : List Value) (maxL : Nat) : List (Option Value) := aloc1 as ++ List.replicate (maxL - (aloc1 as).length) none
def aslot : List Value → List Slot
  | [] => []
  | v :: r => if v.category = 2 then .val v :: .second :: aslot r else .val v :: aslot r
theorem aslot_eq (as : List Value) : ∀ acc : Array Slot, as.foldl (fun acc v => if v.category = 2 then (acc.push (Slot.val v)).push Slot.second else acc.push (Slot.val v)) acc = acc ++ (aslot as).toArray := by
  induction as with
  | nil => intro acc; simp [aslot]
  | cons v r ih =>
    intro acc
    rw [List.foldl_cons, ih]
    simp only [aslot]
    split <;> (apply Array.ext'; simp)
theorem aslot_len (n : Nat) (as : List Value) : (aslot (as.map (sh n))).length = (aloc1 as).length := by
  induction as with
  | nil => rfl
  | cons v r ih => simp only [List.map_cons, aslot, aloc1, sh_cat]; split <;> simp [ih]
theorem aslot_wf (as : List Value) : (∀ (k : Nat) (v : Value), (aslot as)[k]? = some (Slot.val v) → v.category = 2 → (aslot as)[k + 1]? = some .second) ∧ (∀ k, (aslot as)[k]? = some .second → ∃ v : Value, 1 ≤ k ∧ (aslot as)[k - 1]? = some (Slot.val v) ∧ v.category = 2) := by
  induction as with
  | nil => constructor <;> intro k <;> simp [aslot]
  | cons v r ih =>
    simp only [aslot]
    by_cases h : v.category = 2
    · rw [if_pos h]
      constructor
      · intro k w hk hw
        match k, hk with
        | 0, hk => rfl
        | 1, hk => simp at hk
        | k + 2, hk => simpa using ih.1 k w (by simpa using hk) hw
      · intro k hk
        match k, hk with
        | 0, hk => simp at hk
        | 1, hk => exact ⟨v, by omega, by simp, h⟩
        | k + 2, hk =>
          obtain ⟨w, a, b, c⟩ := ih.2 k (by simpa using hk)
          match k, a, b with
          | k + 1, a, b => exact ⟨w, by omega, by simpa using b, c⟩
    · rw [if_neg h]
      constructor
      · intro k w hk hw
        match k, hk with
        | 0, hk => simp at hk; subst hk; exact absurd hw h
        | k + 1, hk => simpa using ih.1 k w (by simpa using hk) hw
      · intro k hk
        match k, hk with
        | 0, hk => simp at hk
        | k + 1, hk =>
          obtain ⟨w, a, b, c⟩ := ih.2 k (by simpa using hk)
          match k, a, b with
          | k + 1, a, b => exact ⟨w, by omega, by simpa using b, c⟩
theorem aslot_val (n : Nat) (as : List Value) : ∀ (k : Nat) (v : Value), (aloc1 as)[k]? = some (some v) → (aslot (as.map (sh n)))[k]? = some (Slot.val (sh n v)) := by
  induction as with
  | nil => intro k v; simp [aloc1]
  | cons v r ih =>
    intro k w
    simp only [aloc1, List.map_cons, aslot, sh_cat]
    split
    · match k with
      | 0 => simp; intro h; rw [h]
      | 1 => simp
      | k + 2 => simpa using ih k w
    · match k with
      | 0 => simp; intro h; rw [h]
      | k + 1 => simpa using ih k w
theorem entry_rel (n : Nat) (as : List Value) (maxL : Nat) : Lrel n (aloc as maxL) (argsToLocals (as.map (sh n)).toArray maxL) := by
  have e : argsToLocals (as.map (sh n)).toArray maxL = (aslot (as.map (sh n)) ++ List.replicate (maxL - (aloc1 as).length) Slot.unset).toArray := by
    unfold argsToLocals
    simp only [List.foldl_toArray']
    rw [aslot_eq]
    apply Array.ext'
    simp [aslot_len]
  rw [e]
  have hl := aslot_len n as
  refine ⟨by simp [aloc, hl], ?_, ?_⟩
  · have hw := aslot_wf (as.map (sh n))
    constructor
    · intro k v hk hv
      simp only [List.getElem?_toArray] at hk ⊢
      by_cases h : k < (aslot (as.map (sh n))).length
      · rw [List.getElem?_append_left h] at hk
        have q := hw.1 k v hk hv
        rw [List.getElem?_append_left (List.getElem?_eq_some_iff.mp q).1]; exact q
      · rw [List.getElem?_append_right (by omega), List.getElem?_replicate] at hk
        split at hk <;> cases hk
    · intro k hk
      simp only [List.getElem?_toArray] at hk ⊢
      by_cases h : k < (aslot (as.map (sh n))).length
      · rw [List.getElem?_append_left h] at hk
        obtain ⟨v, a, b, c⟩ := hw.2 k hk
        exact ⟨v, a, by rw [List.getElem?_append_left (List.getElem?_eq_some_iff.mp b).1]; exact b, c⟩
      · rw [List.getElem?_append_right (by omega), List.getElem?_replicate] at hk
        split at hk <;> cases hk
  · intro k v hk
    simp only [List.getElem?_toArray]
    simp only [aloc] at hk
    by_cases h : k < (aloc1 as).length
    · rw [List.getElem?_append_left h] at hk
      rw [List.getElem?_append_left (by rw [hl]; exact h)]; exact aslot_val n as k v hk
    · rw [List.getElem?_append_right (by omega), List.getElem?_replicate] at hk
      split at hk <;> cases hk
/-! the heap -/
def ObjOk (Z : State) (n : Nat) (h : Heap) (a : Addr) : Obj → Prop
  | .inl (ty, vs) => Exa Z h a ("[" ++ ty.toString) ∧ ∃ c : Cell, Arr Z h a c ty ∧ c.slots = (vs.map (sh n)).toArray
  | .inr (t, vs) => Exa Z h a (lay t).1 ∧ vs.length = (lay t).2.length ∧ ∀ (k : Nat) (nd : String × String) (v : Value), (lay t).2[k]? = some nd → vs[k]? = some v → Fld Z h a (lay t).1 nd.1 nd.2 (sh n v)
def Sim (G : Gx) (H : List Obj) (h : Heap) : Prop := h.size = G.2.2.2 + H.length ∧ ∀ (i : Nat) (o : Obj), H[i]? = some o → ObjOk G.2.1 G.2.2.2 h (G.2.2.2 + i) o
def Done (G : Gx) (K : Kx) (rv : Option Value) (Hf : List Obj) (S0 : State) : Prop := match G, K with
  | (l, Z, a0, n), (p, e, R, s, m, args, below, meth, c, kc, ks) =>
    ∃ t o, Steps p.tables e below S0 t ∧ t.status = .running ∧ Ended t below o ∧ ∃ v L, o = .returned v ∧ (v = rv.map (sh n) ∧ Fr n L ∧ Sim (l, Z, a0, n) Hf t.heap ∧ s.heap.size + kc = n + Hf.length) ∧ FrameEnd s o t L kc ks
def Run (G : Gx) (K : Kx) (rv : Option Value) (Hf : List Obj) (pc : Nat) (Ls : List (Option Value)) (st : List Value) (H : List Obj) (cells slots : Nat) : Prop := match G, K with
  | (l, Z, a0, n), (p, e, R, s, m, args, below, meth, c, kc, ks) => ∀ T locs real, Stand p l e R s m args below meth c T locs cells slots → Fr n locs → Sim (l, Z, a0, n) H T.heap → s.heap.size + cells = n + H.length → Lrel n Ls real →
    Done (l, Z, a0, n) (p, e, R, s, m, args, below, meth, c, kc, ks) rv Hf (T.setTop (mkF m pc real (st.map (sh n))))
def Ok (G : Gx) (K : Kx) (own : String) (bytes : ByteArray) (maxL : Nat) (ret : Option FieldType) (R : Room) (mn : String) (kc ks : Nat) : Prop := match G, K with
  | (l, Z, a0, n), (p, e, R', s, m, args, below, meth, c, kc', ks') => p.tables.exec = Jvm.exec ∧ Z.Warmed39 s.vm ∧ s.vm.findClass own = some m.cls ∧ c.code = bytes ∧ c.maxLocals = maxL ∧ meth.sig.returnType = ret ∧ meth.locks = false ∧ R' = R ∧ meth.name = mn ∧ kc' = kc ∧ ks' = ks ∧ ∀ d ∈ tables_1, d.before a0 Z = true
def Con (G : Gx) (y : MethodName) (bytes : ByteArray) (maxL : Nat) (ret : Option FieldType) (rm : Room) (as : List Value) (H : List Obj) (rv : Option Value) (Hf : List Obj) : Prop := match G with
  | (l, Z, a0, n) => ∀ h0, Sim (l, Z, a0, n) H h0 → MetFree l y (head1 [Cond.code y bytes maxL ret] rm) (fun a U => a = (as.map (sh n)).toArray ∧ Z.Warmed39 U.vm ∧ U.heap = h0) (fun _ _ _ _ _ => True)
      (fun _ U o U' => ∃ v L, o = .returned v ∧ (v = rv.map (sh n) ∧ Fr n L ∧ Sim (l, Z, a0, n) Hf U'.heap ∧ Hf.length = H.length + rm.cells) ∧ FrameEnd U o U' L rm.cells rm.slots)
section Laws
variable {G : Gx} {K : Kx} {rv : Option Value} {Hf : List Obj} {pc pc' : Nat} {Ls Ls' : List (Option Value)} {st : List Value} {H : List Obj} {cells slots : Nat} {own : String} {bytes : ByteArray} {maxL : Nat} {ret : Option FieldType} {R : Room} {mn : String} {kc ks : Nat}
theorem Done.step {l : Launch} {Z : State} {a0 : Array Value} {n : Nat} {p : Program} {e : Env} {R : Room} {s : State} {m : MethodId} {args : Array Value} {below : List Frame} {meth : Method} {c : Code} {kc ks : Nat} {S0 S1 : State}
    (h : ∀ t, Steps p.tables e below S1 t → Steps p.tables e below S0 t) (k : Done (l, Z, a0, n) (p, e, R, s, m, args, below, meth, c, kc, ks) rv Hf S1) : Done (l, Z, a0, n) (p, e, R, s, m, args, below, meth, c, kc, ks) rv Hf S0 := by
  obtain ⟨t, o, h1, r⟩ := k
  exact ⟨t, o, h t h1, r⟩
theorem g_iconst {i : Int} {v : Int32} (O : Ok G K own bytes maxL ret R mn kc ks) (hd : decode bytes pc = .ok (.iconst i, 1)) (hv : Int32.ofInt i = v) (hp : pc + 1 = pc')
    (k : Run G K rv Hf pc' Ls (.int v :: st) H cells slots) : Run G K rv Hf pc Ls (st) H cells slots := by
  obtain ⟨l, Z, a0, n⟩ := G; obtain ⟨p, e, R', s, m, args, below, meth, c, kc', ks'⟩ := K
  obtain ⟨hx, hZ, hown, hby, hml, hret, hlk, rfl, hnm, rfl, rfl, hw⟩ := O
  subst hp
  intro T locs real X N S A L
  exact Done.step (fun t q => XT.iconstV X.here hx rfl v (hb hby hd) hv q) (k T locs real X N S A L)
theorem g_bipush {i : Int} {v : Int32} (O : Ok G K own bytes maxL ret R mn kc ks) (hd : decode bytes pc = .ok (.bipush i, 2)) (hv : (Int8.ofInt i).toInt32 = v) (hp : pc + 2 = pc')
    (k : Run G K rv Hf pc' Ls (.int v :: st) H cells slots) : Run G K rv Hf pc Ls (st) H cells slots := by
  obtain ⟨l, Z, a0, n⟩ := G; obtain ⟨p, e, R', s, m, args, below, meth, c, kc', ks'⟩ := K
  obtain ⟨hx, hZ, hown, hby, hml, hret, hlk, rfl, hnm, rfl, rfl, hw⟩ := O
  subst hp
  intro T locs real X N S A L
  exact Done.step (fun t q => XT.bipushV X.here hx rfl v (hb hby hd) hv q) (k T locs real X N S A L)
theorem g_sipush {i : Int} {v : Int32} (O : Ok G K own bytes maxL ret R mn kc ks) (hd : decode bytes pc = .ok (.sipush i, 3)) (hv : (Int16.ofInt i).toInt32 = v) (hp : pc + 3 = pc')
    (k : Run G K rv Hf pc' Ls (.int v :: st) H cells slots) : Run G K rv Hf pc Ls (st) H cells slots := by
  obtain ⟨l, Z, a0, n⟩ := G; obtain ⟨p, e, R', s, m, args, below, meth, c, kc', ks'⟩ := K
  obtain ⟨hx, hZ, hown, hby, hml, hret, hlk, rfl, hnm, rfl, rfl, hw⟩ := O
  subst hp
  intro T locs real X N S A L
  exact Done.step (fun t q => XT.sipushV X.here hx rfl v (hb hby hd) hv q) (k T locs real X N S A L)
theorem g_lconst {i : Fin 2} {v : Int64} (O : Ok G K own bytes maxL ret R mn kc ks) (hd : decode bytes pc = .ok (.lconst i, 1)) (hv : Int64.ofNat i = v) (hp : pc + 1 = pc')
    (k : Run G K rv Hf pc' Ls (.long v :: st) H cells slots) : Run G K rv Hf pc Ls (st) H cells slots := by
  obtain ⟨l, Z, a0, n⟩ := G; obtain ⟨p, e, R', s, m, args, below, meth, c, kc', ks'⟩ := K
  obtain ⟨hx, hZ, hown, hby, hml, hret, hlk, rfl, hnm, rfl, rfl, hw⟩ := O
  subst hp
  intro T locs real X N S A L
  exact Done.step (fun t q => XT.lconstV X.here hx rfl v (hb hby hd) hv q) (k T locs real X N S A L)
theorem g_iadd {x y : Int32} (O : Ok G K own bytes maxL ret R mn kc ks) (hd : decode bytes pc = .ok (.iadd, 1))  (hp : pc + 1 = pc')
    (k : Run G K rv Hf pc' Ls (.int (x + y) :: st) H cells slots) : Run G K rv Hf pc Ls (.int y :: .int x :: st) H cells slots := by
  obtain ⟨l, Z, a0, n⟩ := G; obtain ⟨p, e, R', s, m, args, below, meth, c, kc', ks'⟩ := K
  obtain ⟨hx, hZ, hown, hby, hml, hret, hlk, rfl, hnm, rfl, rfl, hw⟩ := O
  subst hp
  intro T locs real X N S A L
  exact Done.step (fun t q => XS.iadd X.here hx rfl (hb hby hd) rfl q) (k T locs real X N S A L)
theorem g_isub {x y : Int32} (O : Ok G K own bytes maxL ret R mn kc ks) (hd : decode bytes pc = .ok (.isub, 1))  (hp : pc + 1 = pc')
    (k : Run G K rv Hf pc' Ls (.int (x - y) :: st) H cells slots) : Run G K rv Hf pc Ls (.int y :: .int x :: st) H cells slots := by
  obtain ⟨l, Z, a0, n⟩ := G; obtain ⟨p, e, R', s, m, args, below, meth, c, kc', ks'⟩ := K
  obtain ⟨hx, hZ, hown, hby, hml, hret, hlk, rfl, hnm, rfl, rfl, hw⟩ := O
  subst hp
  intro T locs real X N S A L
  exact Done.step (fun t q => XS.isub X.here hx rfl (hb hby hd) rfl q) (k T locs real X N S A L)
theorem g_imul {x y : Int32} (O : Ok G K own bytes maxL ret R mn kc ks) (hd : decode bytes pc = .ok (.imul, 1))  (hp : pc + 1 = pc')
    (k : Run G K rv Hf pc' Ls (.int (x * y) :: st) H cells slots) : Run G K rv Hf pc Ls (.int y :: .int x :: st) H cells slots := by
  obtain ⟨l, Z, a0, n⟩ := G; obtain ⟨p, e, R', s, m, args, below, meth, c, kc', ks'⟩ := K
  obtain ⟨hx, hZ, hown, hby, hml, hret, hlk, rfl, hnm, rfl, rfl, hw⟩ := O
  subst hp
  intro T locs real X N S A L
  exact Done.step (fun t q => XS.imul X.here hx rfl (hb hby hd) rfl q) (k T locs real X N S A L)
theorem g_iand {x y : Int32} (O : Ok G K own bytes maxL ret R mn kc ks) (hd : decode bytes pc = .ok (.iand, 1))  (hp : pc + 1 = pc')
    (k : Run G K rv Hf pc' Ls (.int (x &&& y) :: st) H cells slots) : Run G K rv Hf pc Ls (.int y :: .int x :: st) H cells slots := by
  obtain ⟨l, Z, a0, n⟩ := G; obtain ⟨p, e, R', s, m, args, below, meth, c, kc', ks'⟩ := K
  obtain ⟨hx, hZ, hown, hby, hml, hret, hlk, rfl, hnm, rfl, rfl, hw⟩ := O
  subst hp
  intro T locs real X N S A L
  exact Done.step (fun t q => XS.iand X.here hx rfl (hb hby hd) rfl q) (k T locs real X N S A L)
theorem g_ior {x y : Int32} (O : Ok G K own bytes maxL ret R mn kc ks) (hd : decode bytes pc = .ok (.ior, 1))  (hp : pc + 1 = pc')
    (k : Run G K rv Hf pc' Ls (.int (x ||| y) :: st) H cells slots) : Run G K rv Hf pc Ls (.int y :: .int x :: st) H cells slots := by
  obtain ⟨l, Z, a0, n⟩ := G; obtain ⟨p, e, R', s, m, args, below, meth, c, kc', ks'⟩ := K
  obtain ⟨hx, hZ, hown, hby, hml, hret, hlk, rfl, hnm, rfl, rfl, hw⟩ := O
  subst hp
  intro T locs real X N S A L
  exact Done.step (fun t q => XT.ior X.here hx rfl (hb hby hd) rfl q) (k T locs real X N S A L)
theorem g_ixor {x y : Int32} (O : Ok G K own bytes maxL ret R mn kc ks) (hd : decode bytes pc = .ok (.ixor, 1))  (hp : pc + 1 = pc')
    (k : Run G K rv Hf pc' Ls (.int (x ^^^ y) :: st) H cells slots) : Run G K rv Hf pc Ls (.int y :: .int x :: st) H cells slots := by
  obtain ⟨l, Z, a0, n⟩ := G; obtain ⟨p, e, R', s, m, args, below, meth, c, kc', ks'⟩ := K
  obtain ⟨hx, hZ, hown, hby, hml, hret, hlk, rfl, hnm, rfl, rfl, hw⟩ := O
  subst hp
  intro T locs real X N S A L
  exact Done.step (fun t q => XT.ixor X.here hx rfl (hb hby hd) rfl q) (k T locs real X N S A L)
theorem g_ishl {x y : Int32} (O : Ok G K own bytes maxL ret R mn kc ks) (hd : decode bytes pc = .ok (.ishl, 1))  (hp : pc + 1 = pc')
    (k : Run G K rv Hf pc' Ls (.int (x <<< (y &&& 31)) :: st) H cells slots) : Run G K rv Hf pc Ls (.int y :: .int x :: st) H cells slots := by
  obtain ⟨l, Z, a0, n⟩ := G; obtain ⟨p, e, R', s, m, args, below, meth, c, kc', ks'⟩ := K
  obtain ⟨hx, hZ, hown, hby, hml, hret, hlk, rfl, hnm, rfl, rfl, hw⟩ := O
  subst hp
  intro T locs real X N S A L
  exact Done.step (fun t q => XT.ishl X.here hx rfl (hb hby hd) rfl q) (k T locs real X N S A L)
theorem g_ishr {x y : Int32} (O : Ok G K own bytes maxL ret R mn kc ks) (hd : decode bytes pc = .ok (.ishr, 1))  (hp : pc + 1 = pc')
    (k : Run G K rv Hf pc' Ls (.int (x >>> (y &&& 31)) :: st) H cells slots) : Run G K rv Hf pc Ls (.int y :: .int x :: st) H cells slots := by
  obtain ⟨l, Z, a0, n⟩ := G; obtain ⟨p, e, R', s, m, args, below, meth, c, kc', ks'⟩ := K
  obtain ⟨hx, hZ, hown, hby, hml, hret, hlk, rfl, hnm, rfl, rfl, hw⟩ := O
  subst hp
  intro T locs real X N S A L
  exact Done.step (fun t q => XT.ishr X.here hx rfl (hb hby hd) rfl q) (k T locs real X N S A L)
theorem g_iushr {x y : Int32} (O : Ok G K own bytes maxL ret R mn kc ks) (hd : decode bytes pc = .ok (.iushr, 1))  (hp : pc + 1 = pc')
    (k : Run G K rv Hf pc' Ls (.int (XT.ushr x y) :: st) H cells slots) : Run G K rv Hf pc Ls (.int y :: .int x :: st) H cells slots := by
  obtain ⟨l, Z, a0, n⟩ := G; obtain ⟨p, e, R', s, m, args, below, meth, c, kc', ks'⟩ := K
  obtain ⟨hx, hZ, hown, hby, hml, hret, hlk, rfl, hnm, rfl, rfl, hw⟩ := O
  subst hp
  intro T locs real X N S A L
  exact Done.step (fun t q => XT.iushr X.here hx rfl (hb hby hd) rfl q) (k T locs real X N S A L)
theorem g_ladd {x y : Int64} (O : Ok G K own bytes maxL ret R mn kc ks) (hd : decode bytes pc = .ok (.ladd, 1))  (hp : pc + 1 = pc')
    (k : Run G K rv Hf pc' Ls (.long (x + y) :: st) H cells slots) : Run G K rv Hf pc Ls (.long y :: .long x :: st) H cells slots := by
  obtain ⟨l, Z, a0, n⟩ := G; obtain ⟨p, e, R', s, m, args, below, meth, c, kc', ks'⟩ := K
  obtain ⟨hx, hZ, hown, hby, hml, hret, hlk, rfl, hnm, rfl, rfl, hw⟩ := O
  subst hp
  intro T locs real X N S A L
  exact Done.step (fun t q => XT.ladd X.here hx rfl (hb hby hd) rfl q) (k T locs real X N S A L)
theorem g_lsub {x y : Int64} (O : Ok G K own bytes maxL ret R mn kc ks) (hd : decode bytes pc = .ok (.lsub, 1))  (hp : pc + 1 = pc')
    (k : Run G K rv Hf pc' Ls (.long (x - y) :: st) H cells slots) : Run G K rv Hf pc Ls (.long y :: .long x :: st) H cells slots := by
  obtain ⟨l, Z, a0, n⟩ := G; obtain ⟨p, e, R', s, m, args, below, meth, c, kc', ks'⟩ := K
  obtain ⟨hx, hZ, hown, hby, hml, hret, hlk, rfl, hnm, rfl, rfl, hw⟩ := O
  subst hp
  intro T locs real X N S A L
  exact Done.step (fun t q => XT.lsub X.here hx rfl (hb hby hd) rfl q) (k T locs real X N S A L)
theorem g_lmul {x y : Int64} (O : Ok G K own bytes maxL ret R mn kc ks) (hd : decode bytes pc = .ok (.lmul, 1))  (hp : pc + 1 = pc')
    (k : Run G K rv Hf pc' Ls (.long (x * y) :: st) H cells slots) : Run G K rv Hf pc Ls (.long y :: .long x :: st) H cells slots := by
  obtain ⟨l, Z, a0, n⟩ := G; obtain ⟨p, e, R', s, m, args, below, meth, c, kc', ks'⟩ := K
  obtain ⟨hx, hZ, hown, hby, hml, hret, hlk, rfl, hnm, rfl, rfl, hw⟩ := O
  subst hp
  intro T locs real X N S A L
  exact Done.step (fun t q => XT.lmul X.here hx rfl (hb hby hd) rfl q) (k T locs real X N S A L)
theorem g_land {x y : Int64} (O : Ok G K own bytes maxL ret R mn kc ks) (hd : decode bytes pc = .ok (.land, 1))  (hp : pc + 1 = pc')
    (k : Run G K rv Hf pc' Ls (.long (x &&& y) :: st) H cells slots) : Run G K rv Hf pc Ls (.long y :: .long x :: st) H cells slots := by
  obtain ⟨l, Z, a0, n⟩ := G; obtain ⟨p, e, R', s, m, args, below, meth, c, kc', ks'⟩ := K
  obtain ⟨hx, hZ, hown, hby, hml, hret, hlk, rfl, hnm, rfl, rfl, hw⟩ := O
  subst hp
  intro T locs real X N S A L
  exact Done.step (fun t q => XT.land X.here hx rfl (hb hby hd) rfl q) (k T locs real X N S A L)
theorem g_lor {x y : Int64} (O : Ok G K own bytes maxL ret R mn kc ks) (hd : decode bytes pc = .ok (.lor, 1))  (hp : pc + 1 = pc')
    (k : Run G K rv Hf pc' Ls (.long (x ||| y) :: st) H cells slots) : Run G K rv Hf pc Ls (.long y :: .long x :: st) H cells slots := by
  obtain ⟨l, Z, a0, n⟩ := G; obtain ⟨p, e, R', s, m, args, below, meth, c, kc', ks'⟩ := K
  obtain ⟨hx, hZ, hown, hby, hml, hret, hlk, rfl, hnm, rfl, rfl, hw⟩ := O
  subst hp
  intro T locs real X N S A L
  exact Done.step (fun t q => XT.lor X.here hx rfl (hb hby hd) rfl q) (k T locs real X N S A L)
theorem g_lxor {x y : Int64} (O : Ok G K own bytes maxL ret R mn kc ks) (hd : decode bytes pc = .ok (.lxor, 1))  (hp : pc + 1 = pc')
    (k : Run G K rv Hf pc' Ls (.long (x ^^^ y) :: st) H cells slots) : Run G K rv Hf pc Ls (.long y :: .long x :: st) H cells slots := by
  obtain ⟨l, Z, a0, n⟩ := G; obtain ⟨p, e, R', s, m, args, below, meth, c, kc', ks'⟩ := K
  obtain ⟨hx, hZ, hown, hby, hml, hret, hlk, rfl, hnm, rfl, rfl, hw⟩ := O
  subst hp
  intro T locs real X N S A L
  exact Done.step (fun t q => XT.lxor X.here hx rfl (hb hby hd) rfl q) (k T locs real X N S A L)
theorem g_lshl {x : Int64} {y : Int32} (O : Ok G K own bytes maxL ret R mn kc ks) (hd : decode bytes pc = .ok (.lshl, 1))  (hp : pc + 1 = pc')
    (k : Run G K rv Hf pc' Ls (.long (x <<< (y.toInt64 &&& 63)) :: st) H cells slots) : Run G K rv Hf pc Ls (.int y :: .long x :: st) H cells slots := by
  obtain ⟨l, Z, a0, n⟩ := G; obtain ⟨p, e, R', s, m, args, below, meth, c, kc', ks'⟩ := K
  obtain ⟨hx, hZ, hown, hby, hml, hret, hlk, rfl, hnm, rfl, rfl, hw⟩ := O
  subst hp
  intro T locs real X N S A L
  exact Done.step (fun t q => XT.lshl X.here hx rfl (hb hby hd) rfl q) (k T locs real X N S A L)
theorem g_lshr {x : Int64} {y : Int32} (O : Ok G K own bytes maxL ret R mn kc ks) (hd : decode bytes pc = .ok (.lshr, 1))  (hp : pc + 1 = pc')
    (k : Run G K rv Hf pc' Ls (.long (x >>> (y.toInt64 &&& 63)) :: st) H cells slots) : Run G K rv Hf pc Ls (.int y :: .long x :: st) H cells slots := by
  obtain ⟨l, Z, a0, n⟩ := G; obtain ⟨p, e, R', s, m, args, below, meth, c, kc', ks'⟩ := K
  obtain ⟨hx, hZ, hown, hby, hml, hret, hlk, rfl, hnm, rfl, rfl, hw⟩ := O
  subst hp
  intro T locs real X N S A L
  exact Done.step (fun t q => XT.lshr X.here hx rfl (hb hby hd) rfl q) (k T locs real X N S A L)
theorem g_lushr {x : Int64} {y : Int32} (O : Ok G K own bytes maxL ret R mn kc ks) (hd : decode bytes pc = .ok (.lushr, 1))  (hp : pc + 1 = pc')
    (k : Run G K rv Hf pc' Ls (.long (XT.ushrL x y) :: st) H cells slots) : Run G K rv Hf pc Ls (.int y :: .long x :: st) H cells slots := by
  obtain ⟨l, Z, a0, n⟩ := G; obtain ⟨p, e, R', s, m, args, below, meth, c, kc', ks'⟩ := K
  obtain ⟨hx, hZ, hown, hby, hml, hret, hlk, rfl, hnm, rfl, rfl, hw⟩ := O
  subst hp
  intro T locs real X N S A L
  exact Done.step (fun t q => XT.lushr X.here hx rfl (hb hby hd) rfl q) (k T locs real X N S A L)
theorem g_idiv {x y : Int32} (O : Ok G K own bytes maxL ret R mn kc ks) (hd : decode bytes pc = .ok (.idiv, 1)) (hy : y ≠ 0) (hp : pc + 1 = pc')
    (k : Run G K rv Hf pc' Ls (.int (x / y) :: st) H cells slots) : Run G K rv Hf pc Ls (.int y :: .int x :: st) H cells slots := by
  obtain ⟨l, Z, a0, n⟩ := G; obtain ⟨p, e, R', s, m, args, below, meth, c, kc', ks'⟩ := K
  obtain ⟨hx, hZ, hown, hby, hml, hret, hlk, rfl, hnm, rfl, rfl, hw⟩ := O
  subst hp
  intro T locs real X N S A L
  exact Done.step (fun t q => XS.idiv X.here hx rfl (hb hby hd) rfl hy q) (k T locs real X N S A L)
theorem g_irem {x y : Int32} (O : Ok G K own bytes maxL ret R mn kc ks) (hd : decode bytes pc = .ok (.irem, 1)) (hy : y ≠ 0) (hp : pc + 1 = pc')
    (k : Run G K rv Hf pc' Ls (.int (x % y) :: st) H cells slots) : Run G K rv Hf pc Ls (.int y :: .int x :: st) H cells slots := by
  obtain ⟨l, Z, a0, n⟩ := G; obtain ⟨p, e, R', s, m, args, below, meth, c, kc', ks'⟩ := K
  obtain ⟨hx, hZ, hown, hby, hml, hret, hlk, rfl, hnm, rfl, rfl, hw⟩ := O
  subst hp
  intro T locs real X N S A L
  exact Done.step (fun t q => iremM X hx rfl (hb hby hd) rfl hy q) (k T locs real X N S A L)
theorem g_ldiv {x y : Int64} (O : Ok G K own bytes maxL ret R mn kc ks) (hd : decode bytes pc = .ok (.ldiv, 1)) (hy : y ≠ 0) (hp : pc + 1 = pc')
    (k : Run G K rv Hf pc' Ls (.long (x / y) :: st) H cells slots) : Run G K rv Hf pc Ls (.long y :: .long x :: st) H cells slots := by
  obtain ⟨l, Z, a0, n⟩ := G; obtain ⟨p, e, R', s, m, args, below, meth, c, kc', ks'⟩ := K
  obtain ⟨hx, hZ, hown, hby, hml, hret, hlk, rfl, hnm, rfl, rfl, hw⟩ := O
  subst hp
  intro T locs real X N S A L
  exact Done.step (fun t q => XT.ldiv X.here hx rfl (hb hby hd) rfl hy q) (k T locs real X N S A L)
theorem g_lrem {x y : Int64} (O : Ok G K own bytes maxL ret R mn kc ks) (hd : decode bytes pc = .ok (.lrem, 1)) (hy : y ≠ 0) (hp : pc + 1 = pc')
    (k : Run G K rv Hf pc' Ls (.long (x % y) :: st) H cells slots) : Run G K rv Hf pc Ls (.long y :: .long x :: st) H cells slots := by
  obtain ⟨l, Z, a0, n⟩ := G; obtain ⟨p, e, R', s, m, args, below, meth, c, kc', ks'⟩ := K
  obtain ⟨hx, hZ, hown, hby, hml, hret, hlk, rfl, hnm, rfl, rfl, hw⟩ := O
  subst hp
  intro T locs real X N S A L
  exact Done.step (fun t q => XT.lrem X.here hx rfl (hb hby hd) rfl hy (by rw [lrem_mod]; exact q)) (k T locs real X N S A L)
theorem g_i2l {x : Int32} (O : Ok G K own bytes maxL ret R mn kc ks) (hd : decode bytes pc = .ok (.i2l, 1))  (hp : pc + 1 = pc')
    (k : Run G K rv Hf pc' Ls (.long x.toInt64 :: st) H cells slots) : Run G K rv Hf pc Ls (.int x :: st) H cells slots := by
  obtain ⟨l, Z, a0, n⟩ := G; obtain ⟨p, e, R', s, m, args, below, meth, c, kc', ks'⟩ := K
  obtain ⟨hx, hZ, hown, hby, hml, hret, hlk, rfl, hnm, rfl, rfl, hw⟩ := O
  subst hp
  intro T locs real X N S A L
  exact Done.step (fun t q => XT.i2l X.here hx rfl (hb hby hd) rfl q) (k T locs real X N S A L)
theorem g_l2i {x : Int64} (O : Ok G K own bytes maxL ret R mn kc ks) (hd : decode bytes pc = .ok (.l2i, 1))  (hp : pc + 1 = pc')
    (k : Run G K rv Hf pc' Ls (.int x.toInt32 :: st) H cells slots) : Run G K rv Hf pc Ls (.long x :: st) H cells slots := by
  obtain ⟨l, Z, a0, n⟩ := G; obtain ⟨p, e, R', s, m, args, below, meth, c, kc', ks'⟩ := K
  obtain ⟨hx, hZ, hown, hby, hml, hret, hlk, rfl, hnm, rfl, rfl, hw⟩ := O
  subst hp
  intro T locs real X N S A L
  exact Done.step (fun t q => XT.l2i X.here hx rfl (hb hby hd) rfl q) (k T locs real X N S A L)
theorem g_i2b {x : Int32} (O : Ok G K own bytes maxL ret R mn kc ks) (hd : decode bytes pc = .ok (.i2b, 1))  (hp : pc + 1 = pc')
    (k : Run G K rv Hf pc' Ls (.int x.toInt8.toInt32 :: st) H cells slots) : Run G K rv Hf pc Ls (.int x :: st) H cells slots := by
  obtain ⟨l, Z, a0, n⟩ := G; obtain ⟨p, e, R', s, m, args, below, meth, c, kc', ks'⟩ := K
  obtain ⟨hx, hZ, hown, hby, hml, hret, hlk, rfl, hnm, rfl, rfl, hw⟩ := O
  subst hp
  intro T locs real X N S A L
  exact Done.step (fun t q => XT.i2b X.here hx rfl (hb hby hd) rfl q) (k T locs real X N S A L)
theorem g_i2c {x : Int32} (O : Ok G K own bytes maxL ret R mn kc ks) (hd : decode bytes pc = .ok (.i2c, 1))  (hp : pc + 1 = pc')
    (k : Run G K rv Hf pc' Ls (.int x.toUInt32.toUInt16.toUInt32.toInt32 :: st) H cells slots) : Run G K rv Hf pc Ls (.int x :: st) H cells slots := by
  obtain ⟨l, Z, a0, n⟩ := G; obtain ⟨p, e, R', s, m, args, below, meth, c, kc', ks'⟩ := K
  obtain ⟨hx, hZ, hown, hby, hml, hret, hlk, rfl, hnm, rfl, rfl, hw⟩ := O
  subst hp
  intro T locs real X N S A L
  exact Done.step (fun t q => XT.i2c X.here hx rfl (hb hby hd) rfl q) (k T locs real X N S A L)
theorem g_dup {x : Value} (O : Ok G K own bytes maxL ret R mn kc ks) (hd : decode bytes pc = .ok (.dup, 1)) (hc : x.category = 1) (hp : pc + 1 = pc')
    (k : Run G K rv Hf pc' Ls (x :: x :: st) H cells slots) : Run G K rv Hf pc Ls (x :: st) H cells slots := by
  obtain ⟨l, Z, a0, n⟩ := G; obtain ⟨p, e, R', s, m, args, below, meth, c, kc', ks'⟩ := K
  obtain ⟨hx, hZ, hown, hby, hml, hret, hlk, rfl, hnm, rfl, rfl, hw⟩ := O
  subst hp
  intro T locs real X N S A L
  exact Done.step (fun t q => XS.dup X.here hx rfl (hb hby hd) rfl ((sh_cat n x).trans hc) q) (k T locs real X N S A L)
theorem g_dup_x1 {x y : Value} (O : Ok G K own bytes maxL ret R mn kc ks) (hd : decode bytes pc = .ok (.dup_x1, 1)) (hc : x.category = 1) (hc' : y.category = 1) (hp : pc + 1 = pc')
    (k : Run G K rv Hf pc' Ls (x :: y :: x :: st) H cells slots) : Run G K rv Hf pc Ls (x :: y :: st) H cells slots := by
  obtain ⟨l, Z, a0, n⟩ := G; obtain ⟨p, e, R', s, m, args, below, meth, c, kc', ks'⟩ := K
  obtain ⟨hx, hZ, hown, hby, hml, hret, hlk, rfl, hnm, rfl, rfl, hw⟩ := O
  subst hp
  intro T locs real X N S A L
  exact Done.step (fun t q => XT.dupX1 X.here hx rfl (hb hby hd) rfl ((sh_cat n x).trans hc) ((sh_cat n y).trans hc') q) (k T locs real X N S A L)
theorem g_pop {x : Value} (O : Ok G K own bytes maxL ret R mn kc ks) (hd : decode bytes pc = .ok (.pop, 1)) (hc : x.category = 1) (hp : pc + 1 = pc')
    (k : Run G K rv Hf pc' Ls (st) H cells slots) : Run G K rv Hf pc Ls (x :: st) H cells slots := by
  obtain ⟨l, Z, a0, n⟩ := G; obtain ⟨p, e, R', s, m, args, below, meth, c, kc', ks'⟩ := K
  obtain ⟨hx, hZ, hown, hby, hml, hret, hlk, rfl, hnm, rfl, rfl, hw⟩ := O
  subst hp
  intro T locs real X N S A L
  exact Done.step (fun t q => XT.pop X.here hx rfl (hb hby hd) rfl ((sh_cat n x).trans hc) q) (k T locs real X N S A L)
theorem g_iload {j : Nat} {v : Int32} (O : Ok G K own bytes maxL ret R mn kc ks) (hd : decode bytes pc = .ok (.iload j, 2)) (hl : Ls[j]? = some (some (.int v))) (hp : pc + 2 = pc')
    (k : Run G K rv Hf pc' Ls (.int v :: st) H cells slots) : Run G K rv Hf pc Ls st H cells slots := by
  obtain ⟨l, Z, a0, n⟩ := G; obtain ⟨p, e, R', s, m, args, below, meth, c, kc', ks'⟩ := K
  obtain ⟨hx, hZ, hown, hby, hml, hret, hlk, rfl, hnm, rfl, rfl, hw⟩ := O
  subst hp
  intro T locs real X N S A L
  exact Done.step (fun t q => XS.iload X.here hx rfl (hb hby hd) (L.2.2 _ _ hl) q) (k T locs real X N S A L)
theorem g_iload_n {j : Fin 4} {v : Int32} (O : Ok G K own bytes maxL ret R mn kc ks) (hd : decode bytes pc = .ok (.iload_n j, 1)) (hl : Ls[j.val]? = some (some (.int v))) (hp : pc + 1 = pc')
    (k : Run G K rv Hf pc' Ls (.int v :: st) H cells slots) : Run G K rv Hf pc Ls st H cells slots := by
  obtain ⟨l, Z, a0, n⟩ := G; obtain ⟨p, e, R', s, m, args, below, meth, c, kc', ks'⟩ := K
  obtain ⟨hx, hZ, hown, hby, hml, hret, hlk, rfl, hnm, rfl, rfl, hw⟩ := O
  subst hp
  intro T locs real X N S A L
  exact Done.step (fun t q => XS.iloadN X.here hx rfl (hb hby hd) (L.2.2 _ _ hl) q) (k T locs real X N S A L)
theorem g_lload {j : Nat} {v : Int64} (O : Ok G K own bytes maxL ret R mn kc ks) (hd : decode bytes pc = .ok (.lload j, 2)) (hl : Ls[j]? = some (some (.long v))) (hp : pc + 2 = pc')
    (k : Run G K rv Hf pc' Ls (.long v :: st) H cells slots) : Run G K rv Hf pc Ls st H cells slots := by
  obtain ⟨l, Z, a0, n⟩ := G; obtain ⟨p, e, R', s, m, args, below, meth, c, kc', ks'⟩ := K
  obtain ⟨hx, hZ, hown, hby, hml, hret, hlk, rfl, hnm, rfl, rfl, hw⟩ := O
  subst hp
  intro T locs real X N S A L
  exact Done.step (fun t q => XT.lload X.here hx rfl (hb hby hd) (L.2.2 _ _ hl) q) (k T locs real X N S A L)
theorem g_lload_n {j : Fin 4} {v : Int64} (O : Ok G K own bytes maxL ret R mn kc ks) (hd : decode bytes pc = .ok (.lload_n j, 1)) (hl : Ls[j.val]? = some (some (.long v))) (hp : pc + 1 = pc')
    (k : Run G K rv Hf pc' Ls (.long v :: st) H cells slots) : Run G K rv Hf pc Ls st H cells slots := by
  obtain ⟨l, Z, a0, n⟩ := G; obtain ⟨p, e, R', s, m, args, below, meth, c, kc', ks'⟩ := K
  obtain ⟨hx, hZ, hown, hby, hml, hret, hlk, rfl, hnm, rfl, rfl, hw⟩ := O
  subst hp
  intro T locs real X N S A L
  exact Done.step (fun t q => XT.lloadN X.here hx rfl (hb hby hd) (L.2.2 _ _ hl) q) (k T locs real X N S A L)
theorem g_aload {j : Nat} {v : Nat} (O : Ok G K own bytes maxL ret R mn kc ks) (hd : decode bytes pc = .ok (.aload j, 2)) (hl : Ls[j]? = some (some (.ref v))) (hp : pc + 2 = pc')
    (k : Run G K rv Hf pc' Ls (.ref v :: st) H cells slots) : Run G K rv Hf pc Ls st H cells slots := by
  obtain ⟨l, Z, a0, n⟩ := G; obtain ⟨p, e, R', s, m, args, below, meth, c, kc', ks'⟩ := K
  obtain ⟨hx, hZ, hown, hby, hml, hret, hlk, rfl, hnm, rfl, rfl, hw⟩ := O
  subst hp
  intro T locs real X N S A L
  exact Done.step (fun t q => XS.aload X.here hx rfl (hb hby hd) (L.2.2 _ _ hl) rfl q) (k T locs real X N S A L)
theorem g_aload_n {j : Fin 4} {v : Nat} (O : Ok G K own bytes maxL ret R mn kc ks) (hd : decode bytes pc = .ok (.aload_n j, 1)) (hl : Ls[j.val]? = some (some (.ref v))) (hp : pc + 1 = pc')
    (k : Run G K rv Hf pc' Ls (.ref v :: st) H cells slots) : Run G K rv Hf pc Ls st H cells slots := by
  obtain ⟨l, Z, a0, n⟩ := G; obtain ⟨p, e, R', s, m, args, below, meth, c, kc', ks'⟩ := K
  obtain ⟨hx, hZ, hown, hby, hml, hret, hlk, rfl, hnm, rfl, rfl, hw⟩ := O
  subst hp
  intro T locs real X N S A L
  exact Done.step (fun t q => XS.aloadN X.here hx rfl (hb hby hd) (L.2.2 _ _ hl) rfl q) (k T locs real X N S A L)
theorem g_istore {j : Nat} {v : Int32} (O : Ok G K own bytes maxL ret R mn kc ks) (hd : decode bytes pc = .ok (.istore j, 2)) (hl : stor Ls j (.int v) = some Ls') (hp : pc + 2 = pc')
    (k : Run G K rv Hf pc' Ls' st H cells slots) : Run G K rv Hf pc Ls (.int v :: st) H cells slots := by
  obtain ⟨l, Z, a0, n⟩ := G; obtain ⟨p, e, R', s, m, args, below, meth, c, kc', ks'⟩ := K
  obtain ⟨hx, hZ, hown, hby, hml, hret, hlk, rfl, hnm, rfl, rfl, hw⟩ := O
  subst hp
  intro T locs real X N S A L
  obtain ⟨real', e1, L'⟩ := store_1 L rfl hl
  exact Done.step (fun t q => XS.istore X.here hx rfl (hb hby hd) rfl e1 q) (k T locs real' X N S A L')
theorem g_istore_n {j : Fin 4} {v : Int32} (O : Ok G K own bytes maxL ret R mn kc ks) (hd : decode bytes pc = .ok (.istore_n j, 1)) (hl : stor Ls j.val (.int v) = some Ls') (hp : pc + 1 = pc')
    (k : Run G K rv Hf pc' Ls' st H cells slots) : Run G K rv Hf pc Ls (.int v :: st) H cells slots := by
  obtain ⟨l, Z, a0, n⟩ := G; obtain ⟨p, e, R', s, m, args, below, meth, c, kc', ks'⟩ := K
  obtain ⟨hx, hZ, hown, hby, hml, hret, hlk, rfl, hnm, rfl, rfl, hw⟩ := O
  subst hp
  intro T locs real X N S A L
  obtain ⟨real', e1, L'⟩ := store_1 L rfl hl
  exact Done.step (fun t q => XS.istoreN X.here hx rfl (hb hby hd) rfl e1 q) (k T locs real' X N S A L')
theorem g_lstore {j : Nat} {v : Int64} (O : Ok G K own bytes maxL ret R mn kc ks) (hd : decode bytes pc = .ok (.lstore j, 2)) (hl : stor Ls j (.long v) = some Ls') (hp : pc + 2 = pc')
    (k : Run G K rv Hf pc' Ls' st H cells slots) : Run G K rv Hf pc Ls (.long v :: st) H cells slots := by
  obtain ⟨l, Z, a0, n⟩ := G; obtain ⟨p, e, R', s, m, args, below, meth, c, kc', ks'⟩ := K
  obtain ⟨hx, hZ, hown, hby, hml, hret, hlk, rfl, hnm, rfl, rfl, hw⟩ := O
  subst hp
  intro T locs real X N S A L
  obtain ⟨real', e1, L'⟩ := store_2 L rfl hl
  exact Done.step (fun t q => XT.lstore X.here hx rfl (hb hby hd) rfl e1 q) (k T locs real' X N S A L')
theorem g_lstore_n {j : Fin 4} {v : Int64} (O : Ok G K own bytes maxL ret R mn kc ks) (hd : decode bytes pc = .ok (.lstore_n j, 1)) (hl : stor Ls j.val (.long v) = some Ls') (hp : pc + 1 = pc')
    (k : Run G K rv Hf pc' Ls' st H cells slots) : Run G K rv Hf pc Ls (.long v :: st) H cells slots := by
  obtain ⟨l, Z, a0, n⟩ := G; obtain ⟨p, e, R', s, m, args, below, meth, c, kc', ks'⟩ := K
  obtain ⟨hx, hZ, hown, hby, hml, hret, hlk, rfl, hnm, rfl, rfl, hw⟩ := O
  subst hp
  intro T locs real X N S A L
  obtain ⟨real', e1, L'⟩ := store_2 L rfl hl
  exact Done.step (fun t q => XT.lstoreN X.here hx rfl (hb hby hd) rfl e1 q) (k T locs real' X N S A L')
theorem g_astore {j : Nat} {v : Nat} (O : Ok G K own bytes maxL ret R mn kc ks) (hd : decode bytes pc = .ok (.astore j, 2)) (hl : stor Ls j (.ref v) = some Ls') (hp : pc + 2 = pc')
    (k : Run G K rv Hf pc' Ls' st H cells slots) : Run G K rv Hf pc Ls (.ref v :: st) H cells slots := by
  obtain ⟨l, Z, a0, n⟩ := G; obtain ⟨p, e, R', s, m, args, below, meth, c, kc', ks'⟩ := K
  obtain ⟨hx, hZ, hown, hby, hml, hret, hlk, rfl, hnm, rfl, rfl, hw⟩ := O
  subst hp
  intro T locs real X N S A L
  obtain ⟨real', e1, L'⟩ := store_1 L rfl hl
  exact Done.step (fun t q => XS.astore X.here hx rfl (hb hby hd) rfl rfl e1 q) (k T locs real' X N S A L')
theorem g_astore_n {j : Fin 4} {v : Nat} (O : Ok G K own bytes maxL ret R mn kc ks) (hd : decode bytes pc = .ok (.astore_n j, 1)) (hl : stor Ls j.val (.ref v) = some Ls') (hp : pc + 1 = pc')
    (k : Run G K rv Hf pc' Ls' st H cells slots) : Run G K rv Hf pc Ls (.ref v :: st) H cells slots := by
  obtain ⟨l, Z, a0, n⟩ := G; obtain ⟨p, e, R', s, m, args, below, meth, c, kc', ks'⟩ := K
  obtain ⟨hx, hZ, hown, hby, hml, hret, hlk, rfl, hnm, rfl, rfl, hw⟩ := O
  subst hp
  intro T locs real X N S A L
  obtain ⟨real', e1, L'⟩ := store_1 L rfl hl
  exact Done.step (fun t q => XS.astoreN X.here hx rfl (hb hby hd) rfl rfl e1 q) (k T locs real' X N S A L')
theorem g_iinc {j : Nat} {i : Int} {v w : Int32} (O : Ok G K own bytes maxL ret R mn kc ks) (hd : decode bytes pc = .ok (.iinc j i, 3)) (hv : Int32.ofInt i = w) (hg : Ls[j]? = some (some (.int v))) (hl : stor Ls j (.int (v + w)) = some Ls') (hp : pc + 3 = pc')
    (k : Run G K rv Hf pc' Ls' st H cells slots) : Run G K rv Hf pc Ls st H cells slots := by
  obtain ⟨l, Z, a0, n⟩ := G; obtain ⟨p, e, R', s, m, args, below, meth, c, kc', ks'⟩ := K
  obtain ⟨hx, hZ, hown, hby, hml, hret, hlk, rfl, hnm, rfl, rfl, hw⟩ := O
  subst hp
  intro T locs real X N S A L
  obtain ⟨real', e1, L'⟩ := store_1 L rfl hl
  exact Done.step (fun t q => XT.iincV X.here hx rfl w (hb hby hd) hv (L.2.2 _ _ hg) e1 q) (k T locs real' X N S A L')
theorem g_goto {o : Int} (O : Ok G K own bytes maxL ret R mn kc ks) (hd : decode bytes pc = .ok (.goto o, 3)) (ho : 0 ≤ (pc : Int) + o) (hp : ((pc : Int) + o).toNat = pc')
    (k : Run G K rv Hf pc' Ls st H cells slots) : Run G K rv Hf pc Ls st H cells slots := by
  obtain ⟨l, Z, a0, n⟩ := G; obtain ⟨p, e, R', s, m, args, below, meth, c, kc', ks'⟩ := K
  obtain ⟨hx, hZ, hown, hby, hml, hret, hlk, rfl, hnm, rfl, rfl, hw⟩ := O
  intro T locs real X N S A L
  exact Done.step (fun t q => XS.goto X.here hx rfl (pc0 := pc) rfl (hb hby hd) ho hp q) (k T locs real X N S A L)
theorem g_icmp_eq {x y : Int32} {o : Int} {pc1 : Nat} (O : Ok G K own bytes maxL ret R mn kc ks) (hd : decode bytes pc = .ok (.if_icmp .eq o, 3)) (hp : pc + 3 = pc') (ho : 0 ≤ (pc : Int) + o) (ht : ((pc : Int) + o).toNat = pc1)
    (kt : x = y → Run G K rv Hf pc1 Ls st H cells slots) (kf : ¬ x = y → Run G K rv Hf pc' Ls st H cells slots) : Run G K rv Hf pc Ls (.int y :: .int x :: st) H cells slots := by
  obtain ⟨l, Z, a0, n⟩ := G; obtain ⟨p, e, R', s, m, args, below, meth, c, kc', ks'⟩ := K
  obtain ⟨hx, hZ, hown, hby, hml, hret, hlk, rfl, hnm, rfl, rfl, hw⟩ := O
  subst hp
  intro T locs real X N S A L
  by_cases h : x = y
  · exact Done.step (fun t q => XS.icmpYes X.here hx rfl (pc0 := pc) rfl (hb hby hd) rfl (XT.ii_eq_t h) ho ht q) (kt h T locs real X N S A L)
  · exact Done.step (fun t q => XS.icmpNo X.here hx rfl (hb hby hd) rfl (XT.ii_eq_f h) q) (kf h T locs real X N S A L)
theorem g_if_eq {x : Int32} {o : Int} {pc1 : Nat} (O : Ok G K own bytes maxL ret R mn kc ks) (hd : decode bytes pc = .ok (.ifCond .eq o, 3)) (hp : pc + 3 = pc') (ho : 0 ≤ (pc : Int) + o) (ht : ((pc : Int) + o).toNat = pc1)
    (kt : x = 0 → Run G K rv Hf pc1 Ls st H cells slots) (kf : ¬ x = 0 → Run G K rv Hf pc' Ls st H cells slots) : Run G K rv Hf pc Ls (.int x :: st) H cells slots := by
  obtain ⟨l, Z, a0, n⟩ := G; obtain ⟨p, e, R', s, m, args, below, meth, c, kc', ks'⟩ := K
  obtain ⟨hx, hZ, hown, hby, hml, hret, hlk, rfl, hnm, rfl, rfl, hw⟩ := O
  subst hp
  intro T locs real X N S A L
  by_cases h : x = 0
  · exact Done.step (fun t q => XS.ifYes X.here hx rfl (pc0 := pc) rfl (hb hby hd) rfl (XT.i0_eq_t h) ho ht q) (kt h T locs real X N S A L)
  · exact Done.step (fun t q => XS.ifNo X.here hx rfl (hb hby hd) rfl (XT.i0_eq_f h) q) (kf h T locs real X N S A L)
theorem g_lcmp_eq {x y : Int64} {pq : Nat} {o : Int} {pc1 : Nat} (O : Ok G K own bytes maxL ret R mn kc ks) (hd0 : decode bytes pc = .ok (.lcmp, 1)) (hq : pc + 1 = pq) (hd : decode bytes pq = .ok (.ifCond .eq o, 3)) (hp : pq + 3 = pc') (ho : 0 ≤ (pq : Int) + o) (ht : ((pq : Int) + o).toNat = pc1)
    (kt : x = y → Run G K rv Hf pc1 Ls st H cells slots) (kf : ¬ x = y → Run G K rv Hf pc' Ls st H cells slots) : Run G K rv Hf pc Ls (.long y :: .long x :: st) H cells slots := by
  obtain ⟨l, Z, a0, n⟩ := G; obtain ⟨p, e, R', s, m, args, below, meth, c, kc', ks'⟩ := K
  obtain ⟨hx, hZ, hown, hby, hml, hret, hlk, rfl, hnm, rfl, rfl, hw⟩ := O
  subst hq
  subst hp
  intro T locs real X N S A L
  by_cases h : x = y
  · exact Done.step (fun t q => XT.lcmp X.here hx rfl (hb hby hd0) rfl (XS.ifYes X.here hx rfl (pc0 := pc + 1) rfl (hb hby hd) rfl (XT.ll_eq_t h) ho ht q)) (kt h T locs real X N S A L)
  · exact Done.step (fun t q => XT.lcmp X.here hx rfl (hb hby hd0) rfl (XS.ifNo X.here hx rfl (hb hby hd) rfl (XT.ll_eq_f h) q)) (kf h T locs real X N S A L)
theorem g_icmp_ne {x y : Int32} {o : Int} {pc1 : Nat} (O : Ok G K own bytes maxL ret R mn kc ks) (hd : decode bytes pc = .ok (.if_icmp .ne o, 3)) (hp : pc + 3 = pc') (ho : 0 ≤ (pc : Int) + o) (ht : ((pc : Int) + o).toNat = pc1)
    (kt : ¬ x = y → Run G K rv Hf pc1 Ls st H cells slots) (kf : x = y → Run G K rv Hf pc' Ls st H cells slots) : Run G K rv Hf pc Ls (.int y :: .int x :: st) H cells slots := by
  obtain ⟨l, Z, a0, n⟩ := G; obtain ⟨p, e, R', s, m, args, below, meth, c, kc', ks'⟩ := K
  obtain ⟨hx, hZ, hown, hby, hml, hret, hlk, rfl, hnm, rfl, rfl, hw⟩ := O
  subst hp
  intro T locs real X N S A L
  by_cases h : x = y
  · exact Done.step (fun t q => XS.icmpNo X.here hx rfl (hb hby hd) rfl (XT.ii_ne_f h) q) (kf h T locs real X N S A L)
  · exact Done.step (fun t q => XS.icmpYes X.here hx rfl (pc0 := pc) rfl (hb hby hd) rfl (XT.ii_ne_t h) ho ht q) (kt h T locs real X N S A L)
theorem g_if_ne {x : Int32} {o : Int} {pc1 : Nat} (O : Ok G K own bytes maxL ret R mn kc ks) (hd : decode bytes pc = .ok (.ifCond .ne o, 3)) (hp : pc + 3 = pc') (ho : 0 ≤ (pc : Int) + o) (ht : ((pc : Int) + o).toNat = pc1)
    (kt : ¬ x = 0 → Run G K rv Hf pc1 Ls st H cells slots) (kf : x = 0 → Run G K rv Hf pc' Ls st H cells slots) : Run G K rv Hf pc Ls (.int x :: st) H cells slots := by
  obtain ⟨l, Z, a0, n⟩ := G; obtain ⟨p, e, R', s, m, args, below, meth, c, kc', ks'⟩ := K
  obtain ⟨hx, hZ, hown, hby, hml, hret, hlk, rfl, hnm, rfl, rfl, hw⟩ := O
  subst hp
  intro T locs real X N S A L
  by_cases h : x = 0
  · exact Done.step (fun t q => XS.ifNo X.here hx rfl (hb hby hd) rfl (XT.i0_ne_f h) q) (kf h T locs real X N S A L)
  · exact Done.step (fun t q => XS.ifYes X.here hx rfl (pc0 := pc) rfl (hb hby hd) rfl (XT.i0_ne_t h) ho ht q) (kt h T locs real X N S A L)
theorem g_lcmp_ne {x y : Int64} {pq : Nat} {o : Int} {pc1 : Nat} (O : Ok G K own bytes maxL ret R mn kc ks) (hd0 : decode bytes pc = .ok (.lcmp, 1)) (hq : pc + 1 = pq) (hd : decode bytes pq = .ok (.ifCond .ne o, 3)) (hp : pq + 3 = pc') (ho : 0 ≤ (pq : Int) + o) (ht : ((pq : Int) + o).toNat = pc1)
    (kt : ¬ x = y → Run G K rv Hf pc1 Ls st H cells slots) (kf : x = y → Run G K rv Hf pc' Ls st H cells slots) : Run G K rv Hf pc Ls (.long y :: .long x :: st) H cells slots := by
  obtain ⟨l, Z, a0, n⟩ := G; obtain ⟨p, e, R', s, m, args, below, meth, c, kc', ks'⟩ := K
  obtain ⟨hx, hZ, hown, hby, hml, hret, hlk, rfl, hnm, rfl, rfl, hw⟩ := O
  subst hq
  subst hp
  intro T locs real X N S A L
  by_cases h : x = y
  · exact Done.step (fun t q => XT.lcmp X.here hx rfl (hb hby hd0) rfl (XS.ifNo X.here hx rfl (hb hby hd) rfl (XT.ll_ne_f h) q)) (kf h T locs real X N S A L)
  · exact Done.step (fun t q => XT.lcmp X.here hx rfl (hb hby hd0) rfl (XS.ifYes X.here hx rfl (pc0 := pc + 1) rfl (hb hby hd) rfl (XT.ll_ne_t h) ho ht q)) (kt h T locs real X N S A L)
theorem g_icmp_lt {x y : Int32} {o : Int} {pc1 : Nat} (O : Ok G K own bytes maxL ret R mn kc ks) (hd : decode bytes pc = .ok (.if_icmp .lt o, 3)) (hp : pc + 3 = pc') (ho : 0 ≤ (pc : Int) + o) (ht : ((pc : Int) + o).toNat = pc1)
    (kt : x < y → Run G K rv Hf pc1 Ls st H cells slots) (kf : ¬ x < y → Run G K rv Hf pc' Ls st H cells slots) : Run G K rv Hf pc Ls (.int y :: .int x :: st) H cells slots := by
  obtain ⟨l, Z, a0, n⟩ := G; obtain ⟨p, e, R', s, m, args, below, meth, c, kc', ks'⟩ := K
  obtain ⟨hx, hZ, hown, hby, hml, hret, hlk, rfl, hnm, rfl, rfl, hw⟩ := O
  subst hp
  intro T locs real X N S A L
  by_cases h : x < y
  · exact Done.step (fun t q => XS.icmpYes X.here hx rfl (pc0 := pc) rfl (hb hby hd) rfl (XT.ii_lt_t h) ho ht q) (kt h T locs real X N S A L)
  · exact Done.step (fun t q => XS.icmpNo X.here hx rfl (hb hby hd) rfl (XT.ii_lt_f h) q) (kf h T locs real X N S A L)
theorem g_if_lt {x : Int32} {o : Int} {pc1 : Nat} (O : Ok G K own bytes maxL ret R mn kc ks) (hd : decode bytes pc = .ok (.ifCond .lt o, 3)) (hp : pc + 3 = pc') (ho : 0 ≤ (pc : Int) + o) (ht : ((pc : Int) + o).toNat = pc1)
    (kt : x < 0 → Run G K rv Hf pc1 Ls st H cells slots) (kf : ¬ x < 0 → Run G K rv Hf pc' Ls st H cells slots) : Run G K rv Hf pc Ls (.int x :: st) H cells slots := by
  obtain ⟨l, Z, a0, n⟩ := G; obtain ⟨p, e, R', s, m, args, below, meth, c, kc', ks'⟩ := K
  obtain ⟨hx, hZ, hown, hby, hml, hret, hlk, rfl, hnm, rfl, rfl, hw⟩ := O
  subst hp
  intro T locs real X N S A L
  by_cases h : x < 0
  · exact Done.step (fun t q => XS.ifYes X.here hx rfl (pc0 := pc) rfl (hb hby hd) rfl (XT.i0_lt_t h) ho ht q) (kt h T locs real X N S A L)
  · exact Done.step (fun t q => XS.ifNo X.here hx rfl (hb hby hd) rfl (XT.i0_lt_f h) q) (kf h T locs real X N S A L)
theorem g_lcmp_lt {x y : Int64} {pq : Nat} {o : Int} {pc1 : Nat} (O : Ok G K own bytes maxL ret R mn kc ks) (hd0 : decode bytes pc = .ok (.lcmp, 1)) (hq : pc + 1 = pq) (hd : decode bytes pq = .ok (.ifCond .lt o, 3)) (hp : pq + 3 = pc') (ho : 0 ≤ (pq : Int) + o) (ht : ((pq : Int) + o).toNat = pc1)
    (kt : x < y → Run G K rv Hf pc1 Ls st H cells slots) (kf : ¬ x < y → Run G K rv Hf pc' Ls st H cells slots) : Run G K rv Hf pc Ls (.long y :: .long x :: st) H cells slots := by
  obtain ⟨l, Z, a0, n⟩ := G; obtain ⟨p, e, R', s, m, args, below, meth, c, kc', ks'⟩ := K
  obtain ⟨hx, hZ, hown, hby, hml, hret, hlk, rfl, hnm, rfl, rfl, hw⟩ := O
  subst hq
  subst hp
  intro T locs real X N S A L
  by_cases h : x < y
  · exact Done.step (fun t q => XT.lcmp X.here hx rfl (hb hby hd0) rfl (XS.ifYes X.here hx rfl (pc0 := pc + 1) rfl (hb hby hd) rfl (XT.ll_lt_t h) ho ht q)) (kt h T locs real X N S A L)
  · exact Done.step (fun t q => XT.lcmp X.here hx rfl (hb hby hd0) rfl (XS.ifNo X.here hx rfl (hb hby hd) rfl (XT.ll_lt_f h) q)) (kf h T locs real X N S A L)
theorem g_icmp_ge {x y : Int32} {o : Int} {pc1 : Nat} (O : Ok G K own bytes maxL ret R mn kc ks) (hd : decode bytes pc = .ok (.if_icmp .ge o, 3)) (hp : pc + 3 = pc') (ho : 0 ≤ (pc : Int) + o) (ht : ((pc : Int) + o).toNat = pc1)
    (kt : ¬ x < y → Run G K rv Hf pc1 Ls st H cells slots) (kf : x < y → Run G K rv Hf pc' Ls st H cells slots) : Run G K rv Hf pc Ls (.int y :: .int x :: st) H cells slots := by
  obtain ⟨l, Z, a0, n⟩ := G; obtain ⟨p, e, R', s, m, args, below, meth, c, kc', ks'⟩ := K
  obtain ⟨hx, hZ, hown, hby, hml, hret, hlk, rfl, hnm, rfl, rfl, hw⟩ := O
  subst hp
  intro T locs real X N S A L
  by_cases h : x < y
  · exact Done.step (fun t q => XS.icmpNo X.here hx rfl (hb hby hd) rfl (XT.ii_ge_f h) q) (kf h T locs real X N S A L)
  · exact Done.step (fun t q => XS.icmpYes X.here hx rfl (pc0 := pc) rfl (hb hby hd) rfl (XT.ii_ge_t h) ho ht q) (kt h T locs real X N S A L)
theorem g_if_ge {x : Int32} {o : Int} {pc1 : Nat} (O : Ok G K own bytes maxL ret R mn kc ks) (hd : decode bytes pc = .ok (.ifCond .ge o, 3)) (hp : pc + 3 = pc') (ho : 0 ≤ (pc : Int) + o) (ht : ((pc : Int) + o).toNat = pc1)
    (kt : ¬ x < 0 → Run G K rv Hf pc1 Ls st H cells slots) (kf : x < 0 → Run G K rv Hf pc' Ls st H cells slots) : Run G K rv Hf pc Ls (.int x :: st) H cells slots := by
  obtain ⟨l, Z, a0, n⟩ := G; obtain ⟨p, e, R', s, m, args, below, meth, c, kc', ks'⟩ := K
  obtain ⟨hx, hZ, hown, hby, hml, hret, hlk, rfl, hnm, rfl, rfl, hw⟩ := O
  subst hp
  intro T locs real X N S A L
  by_cases h : x < 0
  · exact Done.step (fun t q => XS.ifNo X.here hx rfl (hb hby hd) rfl (XT.i0_ge_f h) q) (kf h T locs real X N S A L)
  · exact Done.step (fun t q => XS.ifYes X.here hx rfl (pc0 := pc) rfl (hb hby hd) rfl (XT.i0_ge_t h) ho ht q) (kt h T locs real X N S A L)
theorem g_lcmp_ge {x y : Int64} {pq : Nat} {o : Int} {pc1 : Nat} (O : Ok G K own bytes maxL ret R mn kc ks) (hd0 : decode bytes pc = .ok (.lcmp, 1)) (hq : pc + 1 = pq) (hd : decode bytes pq = .ok (.ifCond .ge o, 3)) (hp : pq + 3 = pc') (ho : 0 ≤ (pq : Int) + o) (ht : ((pq : Int) + o).toNat = pc1)
    (kt : ¬ x < y → Run G K rv Hf pc1 Ls st H cells slots) (kf : x < y → Run G K rv Hf pc' Ls st H cells slots) : Run G K rv Hf pc Ls (.long y :: .long x :: st) H cells slots := by
  obtain ⟨l, Z, a0, n⟩ := G; obtain ⟨p, e, R', s, m, args, below, meth, c, kc', ks'⟩ := K
  obtain ⟨hx, hZ, hown, hby, hml, hret, hlk, rfl, hnm, rfl, rfl, hw⟩ := O
  subst hq
  subst hp
  intro T locs real X N S A L
  by_cases h : x < y
  · exact Done.step (fun t q => XT.lcmp X.here hx rfl (hb hby hd0) rfl (XS.ifNo X.here hx rfl (hb hby hd) rfl (XT.ll_ge_f h) q)) (kf h T locs real X N S A L)
  · exact Done.step (fun t q => XT.lcmp X.here hx rfl (hb hby hd0) rfl (XS.ifYes X.here hx rfl (pc0 := pc + 1) rfl (hb hby hd) rfl (XT.ll_ge_t h) ho ht q)) (kt h T locs real X N S A L)
theorem g_icmp_gt {x y : Int32} {o : Int} {pc1 : Nat} (O : Ok G K own bytes maxL ret R mn kc ks) (hd : decode bytes pc = .ok (.if_icmp .gt o, 3)) (hp : pc + 3 = pc') (ho : 0 ≤ (pc : Int) + o) (ht : ((pc : Int) + o).toNat = pc1)
    (kt : y < x → Run G K rv Hf pc1 Ls st H cells slots) (kf : ¬ y < x → Run G K rv Hf pc' Ls st H cells slots) : Run G K rv Hf pc Ls (.int y :: .int x :: st) H cells slots := by
  obtain ⟨l, Z, a0, n⟩ := G; obtain ⟨p, e, R', s, m, args, below, meth, c, kc', ks'⟩ := K
  obtain ⟨hx, hZ, hown, hby, hml, hret, hlk, rfl, hnm, rfl, rfl, hw⟩ := O
  subst hp
  intro T locs real X N S A L
  by_cases h : y < x
  · exact Done.step (fun t q => XS.icmpYes X.here hx rfl (pc0 := pc) rfl (hb hby hd) rfl (XT.ii_gt_t h) ho ht q) (kt h T locs real X N S A L)
  · exact Done.step (fun t q => XS.icmpNo X.here hx rfl (hb hby hd) rfl (XT.ii_gt_f h) q) (kf h T locs real X N S A L)
theorem g_if_gt {x : Int32} {o : Int} {pc1 : Nat} (O : Ok G K own bytes maxL ret R mn kc ks) (hd : decode bytes pc = .ok (.ifCond .gt o, 3)) (hp : pc + 3 = pc') (ho : 0 ≤ (pc : Int) + o) (ht : ((pc : Int) + o).toNat = pc1)
    (kt : 0 < x → Run G K rv Hf pc1 Ls st H cells slots) (kf : ¬ 0 < x → Run G K rv Hf pc' Ls st H cells slots) : Run G K rv Hf pc Ls (.int x :: st) H cells slots := by
  obtain ⟨l, Z, a0, n⟩ := G; obtain ⟨p, e, R', s, m, args, below, meth, c, kc', ks'⟩ := K
  obtain ⟨hx, hZ, hown, hby, hml, hret, hlk, rfl, hnm, rfl, rfl, hw⟩ := O
  subst hp
  intro T locs real X N S A L
  by_cases h : 0 < x
  · exact Done.step (fun t q => XS.ifYes X.here hx rfl (pc0 := pc) rfl (hb hby hd) rfl (XT.i0_gt_t h) ho ht q) (kt h T locs real X N S A L)
  · exact Done.step (fun t q => XS.ifNo X.here hx rfl (hb hby hd) rfl (XT.i0_gt_f h) q) (kf h T locs real X N S A L)
theorem g_lcmp_gt {x y : Int64} {pq : Nat} {o : Int} {pc1 : Nat} (O : Ok G K own bytes maxL ret R mn kc ks) (hd0 : decode bytes pc = .ok (.lcmp, 1)) (hq : pc + 1 = pq) (hd : decode bytes pq = .ok (.ifCond .gt o, 3)) (hp : pq + 3 = pc') (ho : 0 ≤ (pq : Int) + o) (ht : ((pq : Int) + o).toNat = pc1)
    (kt : y < x → Run G K rv Hf pc1 Ls st H cells slots) (kf : ¬ y < x → Run G K rv Hf pc' Ls st H cells slots) : Run G K rv Hf pc Ls (.long y :: .long x :: st) H cells slots := by
  obtain ⟨l, Z, a0, n⟩ := G; obtain ⟨p, e, R', s, m, args, below, meth, c, kc', ks'⟩ := K
  obtain ⟨hx, hZ, hown, hby, hml, hret, hlk, rfl, hnm, rfl, rfl, hw⟩ := O
  subst hq
  subst hp
  intro T locs real X N S A L
  by_cases h : y < x
  · exact Done.step (fun t q => XT.lcmp X.here hx rfl (hb hby hd0) rfl (XS.ifYes X.here hx rfl (pc0 := pc + 1) rfl (hb hby hd) rfl (XT.ll_gt_t h) ho ht q)) (kt h T locs real X N S A L)
  · exact Done.step (fun t q => XT.lcmp X.here hx rfl (hb hby hd0) rfl (XS.ifNo X.here hx rfl (hb hby hd) rfl (XT.ll_gt_f h) q)) (kf h T locs real X N S A L)
theorem g_icmp_le {x y : Int32} {o : Int} {pc1 : Nat} (O : Ok G K own bytes maxL ret R mn kc ks) (hd : decode bytes pc = .ok (.if_icmp .le o, 3)) (hp : pc + 3 = pc') (ho : 0 ≤ (pc : Int) + o) (ht : ((pc : Int) + o).toNat = pc1)
    (kt : ¬ y < x → Run G K rv Hf pc1 Ls st H cells slots) (kf : y < x → Run G K rv Hf pc' Ls st H cells slots) : Run G K rv Hf pc Ls (.int y :: .int x :: st) H cells slots := by
  obtain ⟨l, Z, a0, n⟩ := G; obtain ⟨p, e, R', s, m, args, below, meth, c, kc', ks'⟩ := K
  obtain ⟨hx, hZ, hown, hby, hml, hret, hlk, rfl, hnm, rfl, rfl, hw⟩ := O
  subst hp
  intro T locs real X N S A L
  by_cases h : y < x
  · exact Done.step (fun t q => XS.icmpNo X.here hx rfl (hb hby hd) rfl (XT.ii_le_f h) q) (kf h T locs real X N S A L)
  · exact Done.step (fun t q => XS.icmpYes X.here hx rfl (pc0 := pc) rfl (hb hby hd) rfl (XT.ii_le_t h) ho ht q) (kt h T locs real X N S A L)
theorem g_if_le {x : Int32} {o : Int} {pc1 : Nat} (O : Ok G K own bytes maxL ret R mn kc ks) (hd : decode bytes pc = .ok (.ifCond .le o, 3)) (hp : pc + 3 = pc') (ho : 0 ≤ (pc : Int) + o) (ht : ((pc : Int) + o).toNat = pc1)
    (kt : ¬ 0 < x → Run G K rv Hf pc1 Ls st H cells slots) (kf : 0 < x → Run G K rv Hf pc' Ls st H cells slots) : Run G K rv Hf pc Ls (.int x :: st) H cells slots := by
  obtain ⟨l, Z, a0, n⟩ := G; obtain ⟨p, e, R', s, m, args, below, meth, c, kc', ks'⟩ := K
  obtain ⟨hx, hZ, hown, hby, hml, hret, hlk, rfl, hnm, rfl, rfl, hw⟩ := O
  subst hp
  intro T locs real X N S A L
  by_cases h : 0 < x
  · exact Done.step (fun t q => XS.ifNo X.here hx rfl (hb hby hd) rfl (XT.i0_le_f h) q) (kf h T locs real X N S A L)
  · exact Done.step (fun t q => XS.ifYes X.here hx rfl (pc0 := pc) rfl (hb hby hd) rfl (XT.i0_le_t h) ho ht q) (kt h T locs real X N S A L)
theorem g_lcmp_le {x y : Int64} {pq : Nat} {o : Int} {pc1 : Nat} (O : Ok G K own bytes maxL ret R mn kc ks) (hd0 : decode bytes pc = .ok (.lcmp, 1)) (hq : pc + 1 = pq) (hd : decode bytes pq = .ok (.ifCond .le o, 3)) (hp : pq + 3 = pc') (ho : 0 ≤ (pq : Int) + o) (ht : ((pq : Int) + o).toNat = pc1)
    (kt : ¬ y < x → Run G K rv Hf pc1 Ls st H cells slots) (kf : y < x → Run G K rv Hf pc' Ls st H cells slots) : Run G K rv Hf pc Ls (.long y :: .long x :: st) H cells slots := by
  obtain ⟨l, Z, a0, n⟩ := G; obtain ⟨p, e, R', s, m, args, below, meth, c, kc', ks'⟩ := K
  obtain ⟨hx, hZ, hown, hby, hml, hret, hlk, rfl, hnm, rfl, rfl, hw⟩ := O
  subst hq
  subst hp
  intro T locs real X N S A L
  by_cases h : y < x
  · exact Done.step (fun t q => XT.lcmp X.here hx rfl (hb hby hd0) rfl (XS.ifNo X.here hx rfl (hb hby hd) rfl (XT.ll_le_f h) q)) (kf h T locs real X N S A L)
  · exact Done.step (fun t q => XT.lcmp X.here hx rfl (hb hby hd0) rfl (XS.ifYes X.here hx rfl (pc0 := pc + 1) rfl (hb hby hd) rfl (XT.ll_le_t h) ho ht q)) (kt h T locs real X N S A L)
/-! reading and writing the heap, in the model -/
def arr (ty : FieldType) (H : List Obj) (i : Nat) : Option (List Value) := match H[i]? with
  | some (.inl (t, vs)) => if t = ty then some vs else none
  | _ => none
def rd (ty : FieldType) (H : List Obj) (i : Nat) (j : Int32) : Option Value := (arr ty H i).bind fun vs => if j < 0 then none else vs[j.toNatClampNeg]?
def getI : Value → Option Int32
  | .int x => some x
  | _ => none
def getJ : Value → Option Int64
  | .long x => some x
  | _ => none
def getA : Value → Option Nat
  | .ref x => some x
  | _ => none
def rdI (ty : FieldType) (H : List Obj) (i : Nat) (j : Int32) : Option Int32 := (rd ty H i j).bind getI
def rdJ (H : List Obj) (i : Nat) (j : Int32) : Option Int64 := (rd .long H i j).bind getJ
def wr (ty : FieldType) (H : List Obj) (i : Nat) (j : Int32) (v : Value) : Option (List Obj) := (arr ty H i).bind fun vs => if j < 0 ∨ vs.length ≤ j.toNatClampNeg then none else some (H.set i (.inl (ty, vs.set j.toNatClampNeg v)))
def alen (H : List Obj) (i : Nat) : Option Int32 := match H[i]? with
  | some (.inl (_, vs)) => some vs.length.toInt32
  | _ => none
def mkArr (ty : FieldType) (cap : Nat) (H : List Obj) (j : Int32) : Option (List Obj) := if j < 0 ∨ cap < j.toNatClampNeg then none else some (H ++ [.inl (ty, List.replicate j.toNatClampNeg (defaultValue ty))])
def obj (t : Nat) (H : List Obj) (i : Nat) : Option (List Value) := match H[i]? with
  | some (.inr (t', vs)) => if t' = t then some vs else none
  | _ => none
def fld (t k : Nat) (H : List Obj) (i : Nat) : Option Value := (obj t H i).bind fun vs => vs[k]?
def fldI (t k : Nat) (H : List Obj) (i : Nat) : Option Int32 := (fld t k H i).bind getI
def fldJ (t k : Nat) (H : List Obj) (i : Nat) : Option Int64 := (fld t k H i).bind getJ
def fldA (t k : Nat) (H : List Obj) (i : Nat) : Option Nat := (fld t k H i).bind getA
def setF (t k : Nat) (H : List Obj) (i : Nat) (v : Value) : Option (List Obj) := (obj t H i).bind fun vs => if k < vs.length then some (H.set i (.inr (t, vs.set k v))) else none
theorem getI_e {v : Value} {x : Int32} (h : getI v = some x) : v = .int x := by cases v <;> simp [getI] at h; rw [h]
theorem getJ_e {v : Value} {x : Int64} (h : getJ v = some x) : v = .long x := by cases v <;> simp [getJ] at h; rw [h]
theorem getA_e {v : Value} {x : Nat} (h : getA v = some x) : v = .ref x := by cases v <;> simp [getA] at h; rw [h]
theorem rdI_e {ty : FieldType} {i : Nat} {j x : Int32} (h : rdI ty H i j = some x) : rd ty H i j = some (.int x) := by
  obtain ⟨v, h1, h2⟩ := Option.bind_eq_some_iff.mp h; rw [h1, getI_e h2]
theorem rdJ_e {i : Nat} {j : Int32} {x : Int64} (h : rdJ H i j = some x) : rd .long H i j = some (.long x) := by
  obtain ⟨v, h1, h2⟩ := Option.bind_eq_some_iff.mp h; rw [h1, getJ_e h2]
theorem fldI_e {t k i : Nat} {x : Int32} (h : fldI t k H i = some x) : fld t k H i = some (.int x) := by
  obtain ⟨v, h1, h2⟩ := Option.bind_eq_some_iff.mp h; rw [h1, getI_e h2]
theorem fldJ_e {t k i : Nat} {x : Int64} (h : fldJ t k H i = some x) : fld t k H i = some (.long x) := by
  obtain ⟨v, h1, h2⟩ := Option.bind_eq_some_iff.mp h; rw [h1, getJ_e h2]
theorem fldA_e {t k i x : Nat} (h : fldA t k H i = some x) : fld t k H i = some (.ref x) := by
  obtain ⟨v, h1, h2⟩ := Option.bind_eq_some_iff.mp h; rw [h1, getA_e h2]
theorem arr_e {ty : FieldType} {i : Nat} {vs : List Value} (h : arr ty H i = some vs) : H[i]? = some (.inl (ty, vs)) := by
  unfold arr at h; split at h
  · rename_i t us hh; split at h
    · rename_i e; cases h; rw [hh, e]
    · cases h
  · cases h
theorem obj_e {t i : Nat} {vs : List Value} (h : obj t H i = some vs) : H[i]? = some (.inr (t, vs)) := by
  unfold obj at h; split at h
  · rename_i t us hh; split at h
    · rename_i e; cases h; rw [hh, e]
    · cases h
  · cases h
theorem sim_arr {h : Heap} {ty : FieldType} {i : Nat} {vs : List Value} (S : Sim G H h) (e : arr ty H i = some vs) : ∃ c : Cell, Arr G.2.1 h (G.2.2.2 + i) c ty ∧ c.slots = (vs.map (sh G.2.2.2)).toArray := (S.2 i _ (arr_e e)).2
theorem sim_obj {h : Heap} {t i : Nat} {vs : List Value} (S : Sim G H h) (e : obj t H i = some vs) : Exa G.2.1 h (G.2.2.2 + i) (lay t).1 ∧ vs.length = (lay t).2.length ∧ ∀ (k : Nat) (nd : String × String) (v : Value), (lay t).2[k]? = some nd → vs[k]? = some v → Fld G.2.1 h (G.2.2.2 + i) (lay t).1 nd.1 nd.2 (sh G.2.2.2 v) := S.2 i _ (obj_e e)
theorem sim_ext {h h' : Heap} {o : Obj} (S : Sim G H h) (E : Ext h h') (hs : h'.size = h.size + 1) (ho : ObjOk G.2.1 G.2.2.2 h' h.size o) : Sim G (H ++ [o]) h' := by
  refine ⟨by rw [hs, S.1, List.length_append]; rfl, fun i q hq => ?_⟩
  by_cases hi : i < H.length
  · rw [List.getElem?_append_left hi] at hq
    have r := S.2 i q hq
    rcases q with ⟨ty, vs⟩ | ⟨t, vs⟩
    · obtain ⟨X, c, A, r⟩ := r; exact ⟨X.ext E, c, A.ext E, r⟩
    · obtain ⟨X, l, F⟩ := r; exact ⟨X.ext E, l, fun k nd v h1 h2 => (F k nd v h1 h2).ext E⟩
  · rw [List.getElem?_append_right (Nat.le_of_not_lt hi)] at hq
    have : i - H.length = 0 := by
      have := (List.getElem?_eq_some_iff.mp hq).1; simp at this; omega
    rw [this] at hq
    cases hq
    have : G.2.2.2 + i = h.size := by rw [S.1]; have := Nat.le_of_not_lt hi; omega
    rw [this]; exact ho
theorem sim_wr {h h' : Heap} {ty : FieldType} {i j : Nat} {vs : List Value} {v : Value} (S : Sim G H h) (e : arr ty H i = some vs) (W : Wr h h' (G.2.2.2 + i) j (sh G.2.2.2 v)) : Sim G (H.set i (.inl (ty, vs.set j v))) h' := by
  refine ⟨by rw [W.size, S.1, List.length_set], fun i' q hq => ?_⟩
  have hlt := (List.getElem?_eq_some_iff.mp (arr_e e)).1
  by_cases hi : i = i'
  · subst hi
    rw [List.getElem?_set_self hlt] at hq
    cases hq
    obtain ⟨X, c, A, r⟩ := S.2 i _ (arr_e e)
    exact ⟨X.wr W, _, A.same W, by simp [Cell.setSlot, r, List.map_set]⟩
  · rw [List.getElem?_set_ne hi] at hq
    have r := S.2 i' q hq
    have ne : G.2.2.2 + i' ≠ G.2.2.2 + i := by omega
    rcases q with ⟨ty, vs⟩ | ⟨t, vs⟩
    · obtain ⟨X, c, A, r⟩ := r; exact ⟨X.wr W, c, A.other W ne, r⟩
    · obtain ⟨X, l, F⟩ := r; exact ⟨X.wr W, l, fun k nd v h1 h2 => (F k nd v h1 h2).other W (Or.inl ne)⟩
theorem lay_slot {Z : State} {a0 : Array Value} (hw : ∀ d ∈ tables_1, d.before a0 Z = true) {t k k' : Nat} {nd nd' : String × String} (h1 : (lay t).2[k]? = some nd) (h2 : (lay t).2[k']? = some nd') (ne : k ≠ k') : Jvm.RoadKit.slotOf Z (lay t).1 nd.1 nd.2 ≠ Jvm.RoadKit.slotOf Z (lay t).1 nd'.1 nd'.2 := by
  obtain ⟨t1, p1⟩ := lay_parse t nd (List.mem_of_getElem? h1)
  obtain ⟨t2, p2⟩ := lay_parse t nd' (List.mem_of_getElem? h2)
  exact slot_ne (C := (lay t).1) (a0 := a0) ((lay_word t nd (List.mem_of_getElem? h1)).imp (hw _) (hw _)) ((lay_word t nd' (List.mem_of_getElem? h2)).imp (hw _) (hw _)) (lay_names t k k' nd nd' h1 h2 ne) p1 p2
theorem sim_put {h h' : Heap} {t i k : Nat} {nd : String × String} {vs : List Value} {v : Value} (hw : ∀ d ∈ tables_1, d.before G.2.2.1 G.2.1 = true) (S : Sim G H h) (e : obj t H i = some vs) (hk : (lay t).2[k]? = some nd) (W : Wr h h' (G.2.2.2 + i) (Jvm.RoadKit.slotOf G.2.1 (lay t).1 nd.1 nd.2) (sh G.2.2.2 v)) : Sim G (H.set i (.inr (t, vs.set k v))) h' := by
  refine ⟨by rw [W.size, S.1, List.length_set], fun i' q hq => ?_⟩
  have hlt := (List.getElem?_eq_some_iff.mp (obj_e e)).1
  by_cases hi : i = i'
  · subst hi
    rw [List.getElem?_set_self hlt] at hq
    cases hq
    obtain ⟨X, l, F⟩ := S.2 i _ (obj_e e)
    refine ⟨X.wr W, by rw [List.length_set]; exact l, fun k' nd' v' h1 h2 => ?_⟩
    have hkl : k < vs.length := by rw [l]; exact (List.getElem?_eq_some_iff.mp hk).1
    by_cases ek : k = k'
    · subst ek
      rw [List.getElem?_set_self hkl] at h2
      cases h2
      cases hk.symm.trans h1
      exact (F k nd _ hk (List.getElem?_eq_getElem hkl)).same W
    · rw [List.getElem?_set_ne ek] at h2
      exact (F k' nd' v' h1 h2).other W (Or.inr (lay_slot hw h1 hk (Ne.symm ek)))
  · rw [List.getElem?_set_ne hi] at hq
    have r := S.2 i' q hq
    have ne : G.2.2.2 + i' ≠ G.2.2.2 + i := by omega
    rcases q with ⟨ty, vs⟩ | ⟨t, vs⟩
    · obtain ⟨X, c, A, r⟩ := r; exact ⟨X.wr W, c, A.other W ne, r⟩
    · obtain ⟨X, l, F⟩ := r; exact ⟨X.wr W, l, fun k nd v h1 h2 => (F k nd v h1 h2).other W (Or.inl ne)⟩
/-! the steps that read the tables or the heap -/
theorem g_ldc {ix : Nat} {v : Int32} (O : Ok G K own bytes maxL ret R mn kc ks) (hd : decode bytes pc = .ok (.ldc ix, 2)) (w : Jvm.Cond.constant own ix v ∈ tables_1) (hp : pc + 2 = pc')
    (k : Run G K rv Hf pc' Ls (.int v :: st) H cells slots) : Run G K rv Hf pc Ls st H cells slots := by
  obtain ⟨l, Z, a0, n⟩ := G; obtain ⟨p, e, R', s, m, args, below, meth, c, kc', ks'⟩ := K
  obtain ⟨hx, hZ, hown, hby, hml, hret, hlk, rfl, hnm, rfl, rfl, hw⟩ := O
  subst hp
  intro T locs real X N S A L
  exact Done.step (fun t q => X.ldcI hx hown (mv hZ (hw _ w)) rfl (hb hby hd) q) (k T locs real X N S A L)
theorem g_ldc2 {ix : Nat} {v : Int64} (O : Ok G K own bytes maxL ret R mn kc ks) (hd : decode bytes pc = .ok (.ldc2_w ix, 3)) (w : Jvm.Cond.constantLong own ix v ∈ tables_1) (hp : pc + 3 = pc')
    (k : Run G K rv Hf pc' Ls (.long v :: st) H cells slots) : Run G K rv Hf pc Ls st H cells slots := by
  obtain ⟨l, Z, a0, n⟩ := G; obtain ⟨p, e, R', s, m, args, below, meth, c, kc', ks'⟩ := K
  obtain ⟨hx, hZ, hown, hby, hml, hret, hlk, rfl, hnm, rfl, rfl, hw⟩ := O
  subst hp
  intro T locs real X N S A L
  exact Done.step (fun t q => X.ldc2J hx hown (mv hZ (hw _ w)) rfl (hb hby hd) q) (k T locs real X N S A L)
theorem rd_e {ty : FieldType} {i : Nat} {j : Int32} {v : Value} (h : rd ty H i j = some v) : ∃ vs, arr ty H i = some vs ∧ ¬ j < 0 ∧ vs[j.toNatClampNeg]? = some v := by
  obtain ⟨vs, h1, h2⟩ := Option.bind_eq_some_iff.mp h
  split at h2
  · cases h2
  · exact ⟨vs, h1, by assumption, h2⟩
theorem inb_sl {c : Cell} {vs : List Value} {n : Nat} {j : Int32} {v : Value} (e : c.slots = (vs.map (sh n)).toArray) (h0 : ¬ j < 0) (h : vs[j.toNatClampNeg]? = some v) : ¬ (j < 0 ∨ c.slots.size ≤ j.toNatClampNeg) ∧ c.slots[j.toNatClampNeg]? = some (sh n v) := by
  have := (List.getElem?_eq_some_iff.mp h).1
  refine ⟨fun q => q.elim h0 (fun q => by rw [e] at q; simp at q; omega), by rw [e]; simp [h]⟩
theorem g_iaload {i : Nat} {j : Int32} {v : Int32} (O : Ok G K own bytes maxL ret R mn kc ks) (hd : decode bytes pc = .ok (.iaload, 1)) (hr : rdI .int H i j = some v) (hp : pc + 1 = pc')
    (k : Run G K rv Hf pc' Ls (.int v :: st) H cells slots) : Run G K rv Hf pc Ls (.int j :: .ref i :: st) H cells slots := by
  obtain ⟨l, Z, a0, n⟩ := G; obtain ⟨p, e, R', s, m, args, below, meth, c, kc', ks'⟩ := K
  obtain ⟨hx, hZ, hown, hby, hml, hret, hlk, rfl, hnm, rfl, rfl, hw⟩ := O
  subst hp
  intro T locs real X N S A L
  obtain ⟨vs, h1, h2, h3⟩ := rd_e (rdI_e hr)
  obtain ⟨cl, B, es⟩ := sim_arr S h1
  obtain ⟨q1, q2⟩ := inb_sl es h2 h3
  exact Done.step (fun t q => X.iaload hx B.1 (State.isArrayOf_alike hZ.alike B.2.1) B.2.2 q1 q2 (g := mkF m pc real ((.int j :: .ref i :: st).map (sh n))) rfl rfl (hb hby hd) t q) (k T locs real X N S A L)
theorem g_caload {i : Nat} {j : Int32} {v : Int32} (O : Ok G K own bytes maxL ret R mn kc ks) (hd : decode bytes pc = .ok (.caload, 1)) (hr : rdI .char H i j = some v) (hp : pc + 1 = pc')
    (k : Run G K rv Hf pc' Ls (.int v :: st) H cells slots) : Run G K rv Hf pc Ls (.int j :: .ref i :: st) H cells slots := by
  obtain ⟨l, Z, a0, n⟩ := G; obtain ⟨p, e, R', s, m, args, below, meth, c, kc', ks'⟩ := K
  obtain ⟨hx, hZ, hown, hby, hml, hret, hlk, rfl, hnm, rfl, rfl, hw⟩ := O
  subst hp
  intro T locs real X N S A L
  obtain ⟨vs, h1, h2, h3⟩ := rd_e (rdI_e hr)
  obtain ⟨cl, B, es⟩ := sim_arr S h1
  obtain ⟨q1, q2⟩ := inb_sl es h2 h3
  exact Done.step (fun t q => X.caload hx B.1 (State.isArrayOf_alike hZ.alike B.2.1) B.2.2 q1 q2 (g := mkF m pc real ((.int j :: .ref i :: st).map (sh n))) rfl rfl (hb hby hd) t q) (k T locs real X N S A L)
theorem g_baload {i : Nat} {j : Int32} {v : Int32} (O : Ok G K own bytes maxL ret R mn kc ks) (hd : decode bytes pc = .ok (.baload, 1)) (hr : rdI .byte H i j = some v) (hp : pc + 1 = pc')
    (k : Run G K rv Hf pc' Ls (.int v :: st) H cells slots) : Run G K rv Hf pc Ls (.int j :: .ref i :: st) H cells slots := by
  obtain ⟨l, Z, a0, n⟩ := G; obtain ⟨p, e, R', s, m, args, below, meth, c, kc', ks'⟩ := K
  obtain ⟨hx, hZ, hown, hby, hml, hret, hlk, rfl, hnm, rfl, rfl, hw⟩ := O
  subst hp
  intro T locs real X N S A L
  obtain ⟨vs, h1, h2, h3⟩ := rd_e (rdI_e hr)
  obtain ⟨cl, B, es⟩ := sim_arr S h1
  obtain ⟨q1, q2⟩ := inb_sl es h2 h3
  exact Done.step (fun t q => X.baloadBytes hx B.1 (State.isArrayOf_alike hZ.alike B.2.1) B.2.2 q1 q2 (g := mkF m pc real ((.int j :: .ref i :: st).map (sh n))) rfl rfl (hb hby hd) t q) (k T locs real X N S A L)
theorem g_laload {i : Nat} {j : Int32} {v : Int64} (O : Ok G K own bytes maxL ret R mn kc ks) (hd : decode bytes pc = .ok (.laload, 1)) (hr : rdJ H i j = some v) (hp : pc + 1 = pc')
    (k : Run G K rv Hf pc' Ls (.long v :: st) H cells slots) : Run G K rv Hf pc Ls (.int j :: .ref i :: st) H cells slots := by
  obtain ⟨l, Z, a0, n⟩ := G; obtain ⟨p, e, R', s, m, args, below, meth, c, kc', ks'⟩ := K
  obtain ⟨hx, hZ, hown, hby, hml, hret, hlk, rfl, hnm, rfl, rfl, hw⟩ := O
  subst hp
  intro T locs real X N S A L
  obtain ⟨vs, h1, h2, h3⟩ := rd_e (rdJ_e hr)
  obtain ⟨cl, B, es⟩ := sim_arr S h1
  obtain ⟨q1, q2⟩ := inb_sl es h2 h3
  exact Done.step (fun t q => X.laload hx B.1 (State.isArrayOf_alike hZ.alike B.2.1) B.2.2 q1 q2 (g := mkF m pc real ((.int j :: .ref i :: st).map (sh n))) rfl rfl (hb hby hd) t q) (k T locs real X N S A L)
theorem g_arraylength {i : Nat} {v : Int32} (O : Ok G K own bytes maxL ret R mn kc ks) (hd : decode bytes pc = .ok (.arraylength, 1)) (hr : alen H i = some v) (hp : pc + 1 = pc')
    (k : Run G K rv Hf pc' Ls (.int v :: st) H cells slots) : Run G K rv Hf pc Ls (.ref i :: st) H cells slots := by
  obtain ⟨l, Z, a0, n⟩ := G; obtain ⟨p, e, R', s, m, args, below, meth, c, kc', ks'⟩ := K
  obtain ⟨hx, hZ, hown, hby, hml, hret, hlk, rfl, hnm, rfl, rfl, hw⟩ := O
  subst hp
  intro T locs real X N S A L
  unfold alen at hr
  split at hr
  · rename_i ty vs hh
    cases hr
    obtain ⟨-, cl, B, es⟩ := S.2 i _ hh
    have q1 : cl.slots.size = vs.length := by rw [es]; simp
    exact Done.step (fun t q => X.arraylength hx B.1 (State.isArrayOf_alike hZ.alike B.2.1) (g := mkF m pc real ((.ref i :: st).map (sh n))) rfl rfl (hb hby hd) t (by rw [q1]; exact q)) (k T locs real X N S A L)
  · cases hr
theorem wr_e {ty : FieldType} {i : Nat} {j : Int32} {v : Value} {H' : List Obj} (h : wr ty H i j v = some H') : ∃ vs, arr ty H i = some vs ∧ ¬ (j < 0 ∨ vs.length ≤ j.toNatClampNeg) ∧ H' = H.set i (.inl (ty, vs.set j.toNatClampNeg v)) := by
  obtain ⟨vs, h1, h2⟩ := Option.bind_eq_some_iff.mp h
  split at h2
  · cases h2
  · cases h2; exact ⟨vs, h1, by assumption, rfl⟩
theorem wr_len {ty : FieldType} {i : Nat} {j : Int32} {v : Value} {H' : List Obj} (h : wr ty H i j v = some H') : H'.length = H.length := by
  obtain ⟨vs, -, -, rfl⟩ := wr_e h; simp
theorem sl_len {c : Cell} {vs : List Value} {n : Nat} (e : c.slots = (vs.map (sh n)).toArray) : c.slots.size = vs.length := by rw [e]; simp
theorem g_iastore {i : Nat} {j x : Int32} {H' : List Obj} (O : Ok G K own bytes maxL ret R mn kc ks) (hd : decode bytes pc = .ok (.iastore, 1)) (hr : wr .int H i j (.int x) = some H') (hp : pc + 1 = pc')
    (k : Run G K rv Hf pc' Ls st H' cells slots) : Run G K rv Hf pc Ls (.int x :: .int j :: .ref i :: st) H cells slots := by
  obtain ⟨l, Z, a0, n⟩ := G; obtain ⟨p, e, R', s, m, args, below, meth, c, kc', ks'⟩ := K
  obtain ⟨hx, hZ, hown, hby, hml, hret, hlk, rfl, hnm, rfl, rfl, hw⟩ := O
  subst hp
  intro T locs real X N S A L
  obtain ⟨vs, h1, h2, rfl⟩ := wr_e hr
  obtain ⟨cl, B, es⟩ := sim_arr S h1
  obtain ⟨T', h', X', e', W, stp⟩ := stI X hx hZ rfl B (j := j) (x := x) (by rw [sl_len es]; exact h2) (g := mkF m pc real ((.int x :: .int j :: .ref i :: st).map (sh n))) rfl rfl (hb hby hd)
  exact Done.step stp (k T' _ real X' (Fr.snoc X' N (Nat.le_add_right _ _)) (by rw [e']; exact sim_wr (v := .int x) S h1 W) (by simpa using A) L)
theorem g_lastore {i : Nat} {j : Int32} {x : Int64} {H' : List Obj} (O : Ok G K own bytes maxL ret R mn kc ks) (hd : decode bytes pc = .ok (.lastore, 1)) (hr : wr .long H i j (.long x) = some H') (hp : pc + 1 = pc')
    (k : Run G K rv Hf pc' Ls st H' cells slots) : Run G K rv Hf pc Ls (.long x :: .int j :: .ref i :: st) H cells slots := by
  obtain ⟨l, Z, a0, n⟩ := G; obtain ⟨p, e, R', s, m, args, below, meth, c, kc', ks'⟩ := K
  obtain ⟨hx, hZ, hown, hby, hml, hret, hlk, rfl, hnm, rfl, rfl, hw⟩ := O
  subst hp
  intro T locs real X N S A L
  obtain ⟨vs, h1, h2, rfl⟩ := wr_e hr
  obtain ⟨cl, B, es⟩ := sim_arr S h1
  obtain ⟨T', h', X', e', W, stp⟩ := stJ X hx hZ rfl B (j := j) (x := x) (by rw [sl_len es]; exact h2) (g := mkF m pc real ((.long x :: .int j :: .ref i :: st).map (sh n))) rfl rfl (hb hby hd)
  exact Done.step stp (k T' _ real X' (Fr.snoc X' N (Nat.le_add_right _ _)) (by rw [e']; exact sim_wr (v := .long x) S h1 W) (by simpa using A) L)
theorem g_bastore {i : Nat} {j x : Int32} {H' : List Obj} (O : Ok G K own bytes maxL ret R mn kc ks) (hd : decode bytes pc = .ok (.bastore, 1)) (hr : wr .byte H i j (.int (nar .byte x)) = some H') (hp : pc + 1 = pc')
    (k : Run G K rv Hf pc' Ls st H' cells slots) : Run G K rv Hf pc Ls (.int x :: .int j :: .ref i :: st) H cells slots := by
  obtain ⟨l, Z, a0, n⟩ := G; obtain ⟨p, e, R', s, m, args, below, meth, c, kc', ks'⟩ := K
  obtain ⟨hx, hZ, hown, hby, hml, hret, hlk, rfl, hnm, rfl, rfl, hw⟩ := O
  subst hp
  intro T locs real X N S A L
  obtain ⟨vs, h1, h2, rfl⟩ := wr_e hr
  obtain ⟨cl, B, es⟩ := sim_arr S h1
  obtain ⟨T', h', X', e', W, stp⟩ := stB X hx hZ rfl B (j := j) (x := x) (by rw [sl_len es]; exact h2) (g := mkF m pc real ((.int x :: .int j :: .ref i :: st).map (sh n))) rfl rfl (hb hby hd)
  exact Done.step stp (k T' _ real X' (Fr.snoc X' N (Nat.le_add_right _ _)) (by rw [e']; exact sim_wr (v := .int (nar .byte x)) S h1 W) (by simpa using A) L)
theorem g_castore {i : Nat} {j x : Int32} {H' : List Obj} (O : Ok G K own bytes maxL ret R mn kc ks) (hd : decode bytes pc = .ok (.castore, 1)) (hr : wr .char H i j (.int (nar .char x)) = some H') (hp : pc + 1 = pc')
    (k : Run G K rv Hf pc' Ls st H' cells slots) : Run G K rv Hf pc Ls (.int x :: .int j :: .ref i :: st) H cells slots := by
  obtain ⟨l, Z, a0, n⟩ := G; obtain ⟨p, e, R', s, m, args, below, meth, c, kc', ks'⟩ := K
  obtain ⟨hx, hZ, hown, hby, hml, hret, hlk, rfl, hnm, rfl, rfl, hw⟩ := O
  subst hp
  intro T locs real X N S A L
  obtain ⟨vs, h1, h2, rfl⟩ := wr_e hr
  obtain ⟨cl, B, es⟩ := sim_arr S h1
  obtain ⟨T', h', X', e', W, stp⟩ := stC X hx hZ rfl B (j := j) (x := x) (by rw [sl_len es]; exact h2) (g := mkF m pc real ((.int x :: .int j :: .ref i :: st).map (sh n))) rfl rfl (hb hby hd)
  exact Done.step stp (k T' _ real X' (Fr.snoc X' N (Nat.le_add_right _ _)) (by rw [e']; exact sim_wr (v := .int (nar .char x)) S h1 W) (by simpa using A) L)
theorem g_newarray {aty : ArrayType} {cap : Nat} {j : Int32} {H' : List Obj} (O : Ok G K own bytes maxL ret R mn kc ks) (hd : decode bytes pc = .ok (.newarray aty, 2)) (w : Jvm.Cond.arrayClass (newarray.typeOf aty) ∈ tables_1)
    (hr : mkArr (newarray.typeOf aty) cap H j = some H') (hb8 : cap * 8 ≤ 536870912) {c2 s2 : Nat} (hc2 : cells + 1 = c2) (hs2 : slots + cap = s2) (hc : c2 ≤ R.cells) (hs : s2 ≤ R.slots) (hp : pc + 2 = pc')
    (k : Run G K rv Hf pc' Ls (.ref H.length :: st) H' c2 s2) : Run G K rv Hf pc Ls (.int j :: st) H cells slots := by
  obtain ⟨l, Z, a0, n⟩ := G; obtain ⟨p, e, R', s, m, args, below, meth, c, kc', ks'⟩ := K
  obtain ⟨hx, hZ, hown, hby, hml, hret, hlk, rfl, hnm, rfl, rfl, hw⟩ := O
  subst hp hc2 hs2
  intro T locs real X N S A L
  unfold mkArr at hr
  split at hr
  · cases hr
  rename_i hj
  cases hr
  have hj0 : ¬ j < 0 := fun q => hj (Or.inl q)
  obtain ⟨T', h', cA, X', e', E, B, EX, stp⟩ := newPE X hx hZ (hw _ w) rfl (g := mkF m pc real ((.int j :: st).map (sh n))) rfl (hb hby hd) rfl hj0 (cap := cap) (Nat.le_of_not_lt fun q => hj (Or.inr q)) hb8 hc hs rfl
  have hsz : h'.size = T.heap.size + 1 := by
    have a1 : Array.size T.heap < Array.size h' := B.lt
    have a2 : Array.size T'.heap ≤ Array.size s.heap + (cells + 1) := X'.heapSize
    rw [e'] at a2
    have a3 : Array.size T.heap = n + H.length := S.1
    have a4 : Array.size s.heap + cells = n + H.length := A
    omega
  have ea : T.heap.size = n + H.length := S.1
  have S' : Sim (l, Z, a0, n) (H ++ [.inl (newarray.typeOf aty, List.replicate j.toNatClampNeg (defaultValue (newarray.typeOf aty)))]) T'.heap := by
    rw [e']
    refine sim_ext S E hsz ⟨EX, _, B, ?_⟩
    have : sh n (defaultValue (newarray.typeOf aty)) = defaultValue (newarray.typeOf aty) := by cases aty <;> rfl
    simp [newA, this]
  refine Done.step stp ?_
  have k' := k T' locs real X' N S' (by simp only [List.length_append, List.length_singleton] at A ⊢; omega) L
  rw [ea]
  exact k'
theorem g_new {ix t nn : Nat} {H' : List Obj} (O : Ok G K own bytes maxL ret R mn kc ks) (hd : decode bytes pc = .ok (.new ix, 3)) (w1 : Jvm.Cond.classLink own ix (lay t).1 ∈ tables_1) (w2 : Jvm.Cond.instantiable (lay t).1 nn ∈ tables_1) (w3 : Jvm.Cond.initialized (lay t).1 ∈ tables_1)
    {vs : List Value} (hvs : (lay t).2.map (fun nd => (parseFieldDescriptor nd.2).map defaultValue) = vs.map some) (hH : H' = H ++ [.inr (t, vs)]) {c2 s2 : Nat} (hc2 : cells + 1 = c2) (hs2 : slots + nn = s2) (hc : c2 ≤ R.cells) (hs : s2 ≤ R.slots) (hp : pc + 3 = pc')
    (k : Run G K rv Hf pc' Ls (.ref H.length :: st) H' c2 s2) : Run G K rv Hf pc Ls st H cells slots := by
  obtain ⟨l, Z, a0, n⟩ := G; obtain ⟨p, e, R', s, m, args, below, meth, c, kc', ks'⟩ := K
  obtain ⟨hx, hZ, hown, hby, hml, hret, hlk, rfl, hnm, rfl, rfl, hw⟩ := O
  subst hp hH hc2 hs2
  intro T locs real X N S A L
  obtain ⟨T', h', X', e', E, B, D, -, stp⟩ := newO X hx hZ hown (hw _ w1) (hw _ w2) (hw _ w3) rfl (g := mkF m pc real (st.map (sh n))) rfl (hb hby hd) hc hs
  have hsz : h'.size = T.heap.size + 1 := by
    have a1 : Array.size T.heap < Array.size h' := B.lt
    have a2 : Array.size T'.heap ≤ Array.size s.heap + (cells + 1) := X'.heapSize
    rw [e'] at a2
    have a3 : Array.size T.heap = n + H.length := S.1
    have a4 : Array.size s.heap + cells = n + H.length := A
    omega
  have ea : T.heap.size = n + H.length := S.1
  have S' : Sim (l, Z, a0, n) (H ++ [.inr (t, vs)]) T'.heap := by
    rw [e']
    refine sim_ext S E hsz ⟨B, by have := congrArg List.length hvs; simpa using this.symm, fun k nd v h1 h2 => ?_⟩
    have q : ((lay t).2.map (fun nd => (parseFieldDescriptor nd.2).map defaultValue))[k]? = some (some v) := by rw [hvs]; simp [h2]
    rw [List.getElem?_map, h1] at q
    simp only [Option.map_some, Option.some.injEq, Option.map_eq_some_iff] at q
    obtain ⟨ty, q1, q2⟩ := q
    have q3 : sh n v = defaultValue ty := by rw [← q2]; cases ty <;> rfl
    rw [q3]
    exact D ((lay_word t nd (List.mem_of_getElem? h1)).imp (hw _) (hw _)) q1
  refine Done.step stp ?_
  have k' := k T' locs real X' N S' (by simp only [List.length_append, List.length_singleton] at A ⊢; omega) L
  rw [ea]
  exact k'
theorem g_getfield {ix t kf i : Nat} {nd : String × String} {v : Value} (O : Ok G K own bytes maxL ret R mn kc ks) (hd : decode bytes pc = .ok (.getfield ix, 3)) (hk : (lay t).2[kf]? = some nd) (w : Jvm.Cond.fieldLink own ix (lay t).1 nd.1 nd.2 ∈ tables_1)
    (hr : fld t kf H i = some v) (hp : pc + 3 = pc') (k : Run G K rv Hf pc' Ls (v :: st) H cells slots) : Run G K rv Hf pc Ls (.ref i :: st) H cells slots := by
  obtain ⟨l, Z, a0, n⟩ := G; obtain ⟨p, e, R', s, m, args, below, meth, c, kc', ks'⟩ := K
  obtain ⟨hx, hZ, hown, hby, hml, hret, hlk, rfl, hnm, rfl, rfl, hw⟩ := O
  subst hp
  intro T locs real X N S A L
  obtain ⟨vs, h1, h2⟩ := Option.bind_eq_some_iff.mp hr
  obtain ⟨B, l1, F⟩ := sim_obj S h1
  obtain ⟨T', X', e', stp⟩ := getF X hx hZ hown (host := "") (Or.inl (hw _ w)) Via.refl rfl (F kf nd v hk h2) (g := mkF m pc real ((.ref i :: st).map (sh n))) rfl rfl (hb hby hd)
  exact Done.step stp (k T' locs real X' N (by rw [e']; exact S) A L)
theorem g_putfield {ix t kf i nn : Nat} {nd : String × String} {v : Value} {ty : FieldType} {H' : List Obj} (O : Ok G K own bytes maxL ret R mn kc ks) (hd : decode bytes pc = .ok (.putfield ix, 3)) (hk : (lay t).2[kf]? = some nd) (w : Jvm.Cond.fieldLink own ix (lay t).1 nd.1 nd.2 ∈ tables_1)
    (w2 : Jvm.Cond.lays (lay t).1 (lay t).1 nd.1 nd.2 ∈ tables_1 ∨ (Jvm.Cond.laysFinal (lay t).1 (lay t).1 nd.1 nd.2 ∈ tables_1 ∧ own = (lay t).1 ∧ mn = "<init>")) (w3 : Jvm.Cond.instantiable (lay t).1 nn ∈ tables_1) (hty : parseFieldDescriptor nd.2 = some ty) (hn : ∀ n, narrow ty (sh n v) = sh n v) (hf : ∀ n, fits ty (sh n v) = true)
    (hr : setF t kf H i v = some H') (hp : pc + 3 = pc') (k : Run G K rv Hf pc' Ls st H' cells slots) : Run G K rv Hf pc Ls (v :: .ref i :: st) H cells slots := by
  obtain ⟨l, Z, a0, n⟩ := G; obtain ⟨p, e, R', s, m, args, below, meth, c, kc', ks'⟩ := K
  obtain ⟨hx, hZ, hown, hby, hml, hret, hlk, rfl, hnm, rfl, rfl, hw⟩ := O
  subst hp
  intro T locs real X N S A L
  obtain ⟨vs, h1, h2⟩ := Option.bind_eq_some_iff.mp hr
  have hkv : kf < vs.length := Decidable.byContradiction fun hkv => by rw [if_neg hkv] at h2; cases h2
  rw [if_pos hkv] at h2
  cases h2
  obtain ⟨B, l1, F⟩ := sim_obj S h1
  obtain ⟨T', h', X', e', W, stp⟩ := putF X hx hZ hown (host := "") (Or.inl (hw _ w)) Via.refl rfl (F kf nd _ hk (List.getElem?_eq_getElem hkv)) B (w2.imp (hw _) fun q => ⟨hw _ q.1, q.2.1, hnm.trans q.2.2⟩) (hw _ w3) hty (hn n) (hf n) (g := mkF m pc real ((v :: .ref i :: st).map (sh n))) rfl rfl (hb hby hd)
  exact Done.step stp (k T' _ real X' (Fr.snoc X' N (Nat.le_add_right _ _)) (by rw [e']; exact sim_put hw S h1 hk W) (by simpa using A) L)
theorem g_objinit {ix i W : Nat} (O : Ok G K own bytes maxL ret R mn kc ks) (hd : decode bytes pc = .ok (.invokespecial ix, 3)) (w1 : Jvm.Cond.methodLink own ix Lib.objectInit ∈ tables_1) (w2 : Jvm.Cond.instanceMethod Lib.objectInit ∈ tables_1) (w3 : Jvm.Cond.code Lib.objectInit ⟨#[0xb1]⟩ 1 none ∈ tables_1)
    (hLs : Ls.length = maxL) (hW : (st.map fun v => v.category).sum = W) (hf : 1 ≤ R.frames) (hl : W + 12 ≤ R.locals) (hp : pc + 3 = pc') (k : Run G K rv Hf pc' Ls st H cells slots) : Run G K rv Hf pc Ls (.ref i :: st) H cells slots := by
  obtain ⟨l, Z, a0, n⟩ := G; obtain ⟨p, e, R', s, m, args, below, meth, c, kc', ks'⟩ := K
  obtain ⟨hx, hZ, hown, hby, hml, hret, hlk, rfl, hnm, rfl, rfl, hw⟩ := O
  subst hp
  intro T locs real X N S A L
  obtain ⟨T', X', e', stp⟩ := initO X hx hZ hown (hw _ w1) (hw _ w2) (hw _ w3) rfl (g := mkF m pc real ((.ref i :: st).map (sh n))) rfl (by show real.size = _; rw [L.1, hml]; exact hLs) rfl (hb hby hd) hf (W := W) (by show 2 * 0 + ((st.map (sh n)).map _).sum ≤ _; rw [List.map_map, ← hW]; simp [Function.comp_def, sh_cat]) hl
  exact Done.step stp (k T' locs real X' N (by rw [e']; exact S) A L)
def Fg : List (Option Value) → List (Option Value) → Prop
  | [], [] => True
  | _ :: a, none :: b => Fg a b
  | x :: a, some v :: b => x = some v ∧ Fg a b
  | [], _ :: _ => False
  | _ :: _, [] => False
theorem Fg.spec : ∀ {A B : List (Option Value)}, Fg A B → A.length = B.length ∧ ∀ (k : Nat) (v : Value), B[k]? = some (some v) → A[k]? = some (some v)
  | [], [], _ => ⟨rfl, fun k v h => h⟩
  | x :: a, none :: b, h => by
    obtain ⟨h1, h2⟩ := Fg.spec (A := a) (B := b) h
    refine ⟨by simp [h1], fun k v hk => ?_⟩
    cases k with
    | zero => simp at hk
    | succ k => simpa using h2 k v (by simpa using hk)
  | x :: a, some w :: b, h => by
    have h' : x = some w ∧ Fg a b := h
    obtain ⟨h1, h2⟩ := Fg.spec (A := a) (B := b) h'.2
    refine ⟨by simp [h1], fun k v hk => ?_⟩
    cases k with
    | zero => simp at hk; simp [h'.1, hk]
    | succ k => simpa using h2 k v (by simpa using hk)
theorem g_forget (h : Fg Ls Ls') (k : Run G K rv Hf pc Ls' st H cells slots) : Run G K rv Hf pc Ls st H cells slots := by
  obtain ⟨l, Z, a0, n⟩ := G; obtain ⟨p, e, R', s, m, args, below, meth, c, kc', ks'⟩ := K
  obtain ⟨h1, h2⟩ := h.spec
  intro T locs real X N S A L
  exact k T locs real X N S A ⟨L.1.trans h1, L.2.1, fun j v hj => L.2.2 j v (h2 j v hj)⟩
/-! calls and returns -/
theorem cat_sum (n : Nat) (st : List Value) : ((st.map (sh n)).map fun v => v.category).sum = (st.map fun v => v.category).sum := by rw [List.map_map]; simp [Function.comp_def, sh_cat]
theorem g_static {ix : Nat} {y : MethodName} {bytes' : ByteArray} {maxL' : Nat} {ret' : Option FieldType} {rm : Room} {as : List Value} {H' : List Obj} {v : Option Value} {ps : List FieldType} {W : Nat} {stk : List Value} (O : Ok G K own bytes maxL ret R mn kc ks) (hd : decode bytes pc = .ok (.invokestatic ix, 3))
    (w1 : Jvm.Cond.methodLink own ix y ∈ tables_1) (w2 : Jvm.Cond.static y ∈ tables_1) (w3 : Jvm.Cond.initialized y.cls ∈ tables_1) (w4 : Jvm.Cond.code y bytes' maxL' ret' ∈ tables_1) (hy : y.cls ≠ "java/lang/invoke/MethodHandle" ∧ y.cls ≠ "java/lang/invoke/VarHandle")
    (pd : parseMethodDescriptor y.desc = some ⟨ps, ret'⟩) (hl : as.length = ps.length) (hstk : stk = as.reverse ++ st) (hLs : Ls.length = maxL) (hW : (st.map fun v => v.category).sum = W) (hf : rm.frames + 1 ≤ R.frames) (hlo : W + (maxL' + 11) + rm.locals ≤ R.locals) {c2 s2 : Nat} (hc2 : cells + rm.cells = c2) (hs2 : slots + rm.slots = s2) (hc : c2 ≤ R.cells) (hs : s2 ≤ R.slots)
    (con : Con G y bytes' maxL' ret' rm as H v H') (hp : pc + 3 = pc') (k : Run G K rv Hf pc' Ls (v.toList ++ st) H' c2 s2) : Run G K rv Hf pc Ls stk H cells slots := by
  obtain ⟨l, Z, a0, n⟩ := G; obtain ⟨p, e, R', s, m, args, below, meth, c, kc', ks'⟩ := K
  obtain ⟨hx, hZ, hown, hby, hml, hret, hlk, rfl, hnm, rfl, rfl, hw⟩ := O
  subst hp hstk hc2 hs2
  intro T locs real X N S A L
  obtain ⟨v', _, ⟨T', L', k', n'⟩, -, X', ⟨Lc, ⟨hv, N', S', hlen⟩, l1, y1, z1⟩, stp⟩ := Jvm.LawKit.callS X hx (y := y) hown (mvT hZ (hw _ w1)) (mvT hZ (hw _ w2)) (mvT hZ (hw _ w3)) (mvT hZ (hw _ w4)) hy (backOf (W := W) (Q := fun u hh LL => u = Option.map (sh n) v ∧ Fr n LL ∧ Sim (l, Z, a0, n) H' hh ∧ H'.length = H.length + rm.cells) (con T.heap S) hZ (hw _ w4) (hw _ w3) hf hlo) (g := mkF m pc real ((as.reverse ++ st).map (sh n))) rfl (by show real.size = _; rw [L.1, hml]; exact hLs)
    (argsL := as.map (sh n)) (rest := st.map (sh n)) (lenOf pd (by simpa using hl)) (by simp) (by show 2 * 0 + _ ≤ _; rw [cat_sum, hW]; exact Nat.le_of_eq (Nat.zero_add _)) (hb hby hd) (fun _ _ => ⟨rfl, rfl, hc, hs⟩)
  dsimp only [Pt.U, Pt.locs, Pt.cells, Pt.slots] at X' l1 y1 z1 stp S' N'
  subst l1 y1 z1 hv
  have k2 := k T' _ real X' (Fr.app N N') S' (by omega) L
  refine Done.step stp ?_
  cases v <;> exact k2
theorem g_special {ix i : Nat} {y : MethodName} {bytes' : ByteArray} {maxL' : Nat} {rm : Room} {as : List Value} {H' : List Obj} {ps : List FieldType} {W : Nat} {stk : List Value} (O : Ok G K own bytes maxL ret R mn kc ks) (hd : decode bytes pc = .ok (.invokespecial ix, 3)) (hy1 : y.name = "<init>")
    (w1 : Jvm.Cond.methodLink own ix y ∈ tables_1) (w2 : Jvm.Cond.instanceMethod y ∈ tables_1) (w3 : Jvm.Cond.initialized y.cls ∈ tables_1) (w4 : Jvm.Cond.code y bytes' maxL' none ∈ tables_1) (hy : y.cls ≠ "java/lang/invoke/MethodHandle" ∧ y.cls ≠ "java/lang/invoke/VarHandle")
    (pd : parseMethodDescriptor y.desc = some ⟨ps, none⟩) (hl : as.length = ps.length) (hstk : stk = as.reverse ++ .ref i :: st) (hLs : Ls.length = maxL) (hW : (st.map fun v => v.category).sum = W) (hf : rm.frames + 1 ≤ R.frames) (hlo : W + (maxL' + 11) + rm.locals ≤ R.locals) {c2 s2 : Nat} (hc2 : cells + rm.cells = c2) (hs2 : slots + rm.slots = s2) (hc : c2 ≤ R.cells) (hs : s2 ≤ R.slots)
    (con : Con G y bytes' maxL' none rm (.ref i :: as) H none H') (hp : pc + 3 = pc') (k : Run G K rv Hf pc' Ls st H' c2 s2) : Run G K rv Hf pc Ls stk H cells slots := by
  obtain ⟨l, Z, a0, n⟩ := G; obtain ⟨p, e, R', s, m, args, below, meth, c, kc', ks'⟩ := K
  obtain ⟨hx, hZ, hown, hby, hml, hret, hlk, rfl, hnm, rfl, rfl, hw⟩ := O
  subst hp hstk hc2 hs2
  intro T locs real X N S A L
  obtain ⟨v', _, ⟨T', L', k', n'⟩, -, X', ⟨Lc, ⟨hv, N', S', hlen⟩, l1, y1, z1⟩, stp⟩ := X.specialBack hx (y := y) hy1 hown (mvT hZ (hw _ w1)) (mvT hZ (hw _ w2)) (mvT hZ (hw _ w4)) hy (backOf (W := W) (Q := fun u hh LL => u = Option.map (sh n) none ∧ Fr n LL ∧ Sim (l, Z, a0, n) H' hh ∧ H'.length = H.length + rm.cells) (con T.heap S) hZ (hw _ w4) (hw _ w3) hf hlo) (g := mkF m pc real ((as.reverse ++ .ref i :: st).map (sh n))) rfl (by show real.size = _; rw [L.1, hml]; exact hLs) (Steps.refl _)
    (a := n + i) (argsL := as.map (sh n)) (rest := st.map (sh n)) (lenOf pd (by simpa using hl)) (by simp [sh]) (by show 2 * 0 + _ ≤ _; rw [cat_sum, hW]; exact Nat.le_of_eq (Nat.zero_add _)) (hb hby hd) (fun _ _ => ⟨rfl, rfl, hc, hs⟩)
  dsimp only [Pt.U, Pt.locs, Pt.cells, Pt.slots] at X' l1 y1 z1 stp S' N'
  subst l1 y1 z1 hv
  exact Done.step (fun t q => stp.trans q) (k T' _ real X' (Fr.app N N') S' (by omega) L)
theorem g_virtual {ix i t : Nat} {y : MethodName} {bytes' : ByteArray} {maxL' : Nat} {ret' : Option FieldType} {rm : Room} {as vs : List Value} {H' : List Obj} {v : Option Value} {ps : List FieldType} {W : Nat} {stk : List Value} (O : Ok G K own bytes maxL ret R mn kc ks) (hd : decode bytes pc = .ok (.invokevirtual ix, 3))
    (w1 : Jvm.Cond.methodLink own ix y ∈ tables_1) (w2 : Jvm.Cond.declares y ∈ tables_1) (w5 : Jvm.Cond.selects (lay t).1 y y ∈ tables_1) (w6 : Jvm.Cond.instanceMethod y ∈ tables_1) (w3 : Jvm.Cond.initialized y.cls ∈ tables_1) (w4 : Jvm.Cond.code y bytes' maxL' ret' ∈ tables_1) (hy : y.cls ≠ "java/lang/invoke/MethodHandle" ∧ y.cls ≠ "java/lang/invoke/VarHandle")
    (ho : obj t H i = some vs) (pd : parseMethodDescriptor y.desc = some ⟨ps, ret'⟩) (hl : as.length = ps.length) (hstk : stk = as.reverse ++ .ref i :: st) (hLs : Ls.length = maxL) (hW : (st.map fun v => v.category).sum = W) (hf : rm.frames + 1 ≤ R.frames) (hlo : W + (maxL' + 11) + rm.locals ≤ R.locals) {c2 s2 : Nat} (hc2 : cells + rm.cells = c2) (hs2 : slots + rm.slots = s2) (hc : c2 ≤ R.cells) (hs : s2 ≤ R.slots)
    (con : Con G y bytes' maxL' ret' rm (.ref i :: as) H v H') (hp : pc + 3 = pc') (k : Run G K rv Hf pc' Ls (v.toList ++ st) H' c2 s2) : Run G K rv Hf pc Ls stk H cells slots := by
  obtain ⟨l, Z, a0, n⟩ := G; obtain ⟨p, e, R', s, m, args, below, meth, c, kc', ks'⟩ := K
  obtain ⟨hx, hZ, hown, hby, hml, hret, hlk, rfl, hnm, rfl, rfl, hw⟩ := O
  subst hp hstk hc2 hs2
  intro T locs real X N S A L
  obtain ⟨cq, kq, qa, qb, qc⟩ := isOf hZ (T := T) rfl (sim_obj S ho).1
  obtain ⟨v', _, ⟨T', L', k', n'⟩, -, X', ⟨Lc, ⟨hv, N', S', hlen⟩, l1, y1, z1⟩, stp⟩ := X.virtualBack hx (y := y) (z := y) hown (mvT hZ (hw _ w1)) (mvT hZ (hw _ w2)) (notFace_of_selects (args := #[]) (mvT hZ (hw _ w5))) (mvT hZ (hw _ w5)) (mvT hZ (hw _ w6)) hy (backOf (W := W) (Q := fun u hh LL => u = Option.map (sh n) v ∧ Fr n LL ∧ Sim (l, Z, a0, n) H' hh ∧ H'.length = H.length + rm.cells) (con T.heap S) hZ (hw _ w4) (hw _ w3) hf hlo) qa qc (g := mkF m pc real ((as.reverse ++ .ref i :: st).map (sh n))) rfl (by show real.size = _; rw [L.1, hml]; exact hLs) (Steps.refl _)
    (argsL := as.map (sh n)) (rest := st.map (sh n)) (lenOf pd (by simpa using hl)) (by simp [sh]) (by show 2 * 0 + _ ≤ _; rw [cat_sum, hW]; exact Nat.le_of_eq (Nat.zero_add _)) (hb hby hd) (fun _ _ => ⟨rfl, rfl, hc, hs⟩)
  dsimp only [Pt.U, Pt.locs, Pt.cells, Pt.slots] at X' l1 y1 z1 stp S' N'
  subst l1 y1 z1 hv
  have k2 := k T' _ real X' (Fr.app N N') S' (by omega) L
  refine Done.step (fun t q => stp.trans q) ?_
  cases v <;> exact k2
theorem g_ret_void (O : Ok G K own bytes maxL none R mn kc ks) (hd : decode bytes pc = .ok (.return_, 1)) (hc : cells = kc) (hs : slots ≤ ks) : Run G K none H pc Ls [] H cells slots := by
  obtain ⟨l, Z, a0, n⟩ := G; obtain ⟨p, e, R', s, m, args, below, meth, c, kc', ks'⟩ := K
  obtain ⟨hx, hZ, hown, hby, hml, hret, hlk, rfl, hnm, rfl, rfl, hw⟩ := O
  intro T locs real X N S A L
  subst hc
  obtain ⟨fs, hr, hrun, hended, hW, hsame⟩ := X.leave (v := none) (fun _ => rfl) hlk
  exact ⟨_, _, X.returnOut hx hret (hb hby hd) hr, hrun, hended, _, _, rfl, ⟨rfl, N, S, A⟩, ⟨_, rfl⟩, hW, hsame.mono (Nat.le_refl _) hs⟩
theorem g_ret_int {x : Int32} (O : Ok G K own bytes maxL (some .int) R mn kc ks) (hd : decode bytes pc = .ok (.ireturn, 1)) (hc : cells = kc) (hs : slots ≤ ks) : Run G K (some (.int x)) H pc Ls (.int x :: st) H cells slots := by
  obtain ⟨l, Z, a0, n⟩ := G; obtain ⟨p, e, R', s, m, args, below, meth, c, kc', ks'⟩ := K
  obtain ⟨hx, hZ, hown, hby, hml, hret, hlk, rfl, hnm, rfl, rfl, hw⟩ := O
  intro T locs real X N S A L
  subst hc
  obtain ⟨fs, hr, hrun, hended, hW, hsame⟩ := X.leave (v := some (.int x)) (fun h => by rw [hret] at h; cases h) hlk
  exact ⟨_, _, retOut X hx hret rfl (Or.inl ⟨rfl, Or.inl rfl, x, rfl⟩) (hb hby hd) hr, hrun, hended, _, _, rfl, ⟨rfl, N, S, A⟩, ⟨_, rfl⟩, hW, hsame.mono (Nat.le_refl _) hs⟩
theorem g_ret_nar {t : FieldType} {x y : Int32} (O : Ok G K own bytes maxL (some t) R mn kc ks) (hd : decode bytes pc = .ok (.ireturn, 1)) (ht : t = .boolean ∨ t = .byte ∨ t = .char ∨ t = .short) (hy : nar t x = y) (hc : cells = kc) (hs : slots ≤ ks) : Run G K (some (.int y)) H pc Ls (.int x :: st) H cells slots := by
  obtain ⟨l, Z, a0, n⟩ := G; obtain ⟨p, e, R', s, m, args, below, meth, c, kc', ks'⟩ := K
  obtain ⟨hx, hZ, hown, hby, hml, hret, hlk, rfl, hnm, rfl, rfl, hw⟩ := O
  intro T locs real X N S A L
  subst hc hy
  obtain ⟨fs, hr, hrun, hended, hW, hsame⟩ := X.leave (v := some (.int (nar t x))) (fun h => by rw [hret] at h; cases h) hlk
  exact ⟨_, _, retN X hx hret ht (hb hby hd) hr, hrun, hended, _, _, rfl, ⟨rfl, N, S, A⟩, ⟨_, rfl⟩, hW, hsame.mono (Nat.le_refl _) hs⟩
theorem g_ret_long {x : Int64} (O : Ok G K own bytes maxL (some .long) R mn kc ks) (hd : decode bytes pc = .ok (.lreturn, 1)) (hc : cells = kc) (hs : slots ≤ ks) : Run G K (some (.long x)) H pc Ls (.long x :: st) H cells slots := by
  obtain ⟨l, Z, a0, n⟩ := G; obtain ⟨p, e, R', s, m, args, below, meth, c, kc', ks'⟩ := K
  obtain ⟨hx, hZ, hown, hby, hml, hret, hlk, rfl, hnm, rfl, rfl, hw⟩ := O
  intro T locs real X N S A L
  subst hc
  obtain ⟨fs, hr, hrun, hended, hW, hsame⟩ := X.leave (v := some (.long x)) (fun h => by rw [hret] at h; cases h) hlk
  exact ⟨_, _, retOut X hx hret rfl (Or.inr (Or.inl ⟨rfl, rfl, x, rfl⟩)) (hb hby hd) hr, hrun, hended, _, _, rfl, ⟨rfl, N, S, A⟩, ⟨_, rfl⟩, hW, hsame.mono (Nat.le_refl _) hs⟩
theorem g_ret_ref {t : FieldType} {i : Nat} (O : Ok G K own bytes maxL (some t) R mn kc ks) (hd : decode bytes pc = .ok (.areturn, 1)) (ht : t.isReference = true) (hn : ∀ a, narrow t (.ref a) = .ref a) (hc : cells = kc) (hs : slots ≤ ks) : Run G K (some (.ref i)) H pc Ls (.ref i :: st) H cells slots := by
  obtain ⟨l, Z, a0, n⟩ := G; obtain ⟨p, e, R', s, m, args, below, meth, c, kc', ks'⟩ := K
  obtain ⟨hx, hZ, hown, hby, hml, hret, hlk, rfl, hnm, rfl, rfl, hw⟩ := O
  intro T locs real X N S A L
  subst hc
  obtain ⟨fs, hr, hrun, hended, hW, hsame⟩ := X.leave (v := some (.ref (n + i))) (fun h => by rw [hret] at h; cases h) hlk
  exact ⟨_, _, retOut X hx hret (hn _) (Or.inr (Or.inr (Or.inr (Or.inr ⟨rfl, ht, rfl⟩)))) (hb hby hd) hr, hrun, hended, _, _, rfl, ⟨rfl, N, S, A⟩, ⟨_, rfl⟩, hW, hsame.mono (Nat.le_refl _) hs⟩
theorem con_of {y : MethodName} {rm : Room} {as : List Value} (hw : ∀ d ∈ tables_1, d.before G.2.2.1 G.2.1 = true) (pn : plainFor y = true) (hL : aloc as maxL = Ls) (body : ∀ K, Ok G K y.cls bytes maxL ret rm y.name rm.cells rm.slots → Run G K rv Hf 0 Ls [] H 0 0) : Con G y bytes maxL ret rm as H rv Hf := by
  obtain ⟨l, Z, a0, n⟩ := G
  intro h0 S0
  refine MetFree.of_bodySF pn hisR ?_
  intro p e s m args below meth c s₁ Bd hml0 hP hK
  obtain ⟨rfl, hZ, rfl⟩ := hP
  have X0 : Stand p l e rm s m _ below meth c s₁ [] 0 0 := Stand.of_body Bd
  have e0 : s₁.heap = s.heap := by rw [Bd.state]; rfl
  have k := body (p, e, rm, s, m, (as.map (sh n)).toArray, below, meth, c, rm.cells, rm.slots) ⟨Bd.exec, hZ, findClass_of_methodNamed Bd.named, Bd.bytes, hml0, Bd.returns, Bd.notSynchronized, rfl, (name_of_methodNamed Bd.named Bd.method).1, rfl, rfl, hw⟩
  subst hL
  obtain ⟨t, o, h1, h2, h3, v, L, h4, ⟨h5, h6, h7, h8⟩, h9⟩ := k s₁ [] _ X0 (Fr.nil n) (by rw [e0]; exact S0) (by rw [Nat.add_zero]; exact S0.1) (entry_rel n as maxL)
  refine ⟨t, o, h1, h2, h3, v, L, h4, ⟨h5, h6, h7, ?_⟩, h9⟩
  have := S0.1
  simp only at this
  omega
/-- the law itself, over an empty own heap -/
theorem law_of {l : Launch} {s : State} {a0 : Array Value} {as : List Value} {k0 k1 : Nat} (hw : ∀ d ∈ tables_1, d.before a0 s = true) (pn : plainFor x = true) (hL : aloc as maxLocals = Ls) (hid : as.map (sh s.heap.size) = as)
    (body : ∀ K, Ok (l, s, a0, s.heap.size) K x.cls code maxLocals Jvm.Pilot.@@N@@.ret room_1 x.name k0 k1 → Run (l, s, a0, s.heap.size) K rv Hf 0 Ls [] [] 0 0) :
    MetFree l x (head1 (Jvm.Cond.code x code maxLocals Jvm.Pilot.@@N@@.ret :: tables_1) room_1) (fun a U => a = as.toArray ∧ s.Warmed39 U.vm ∧ U.heap = s.heap) (fun _ _ _ _ _ => True) (fun _ U o U' => ∃ v L, o = .returned v ∧ (v = rv.map (sh s.heap.size) ∧ Fr s.heap.size L) ∧ FrameEnd U o U' L k0 k1) := by
  refine MetFree.of_bodySF pn hisR ?_
  intro p e U m args below meth c s₁ Bd hml0 hP hK
  obtain ⟨rfl, hZ, hU⟩ := hP
  have X0 : Stand p l e room_1 U m _ below meth c s₁ [] 0 0 := Stand.of_body Bd
  have e0 : s₁.heap = U.heap := by rw [Bd.state]; rfl
  have k := body (p, e, room_1, U, m, as.toArray, below, meth, c, k0, k1) ⟨Bd.exec, hZ, findClass_of_methodNamed Bd.named, Bd.bytes, hml0, Bd.returns, Bd.notSynchronized, rfl, (name_of_methodNamed Bd.named Bd.method).1, rfl, rfl, hw⟩
  subst hL
  have S0 : Sim (l, s, a0, s.heap.size) [] s₁.heap := ⟨by rw [e0, hU]; rfl, fun i o h => by simp at h⟩
  have er := entry_rel s.heap.size as maxLocals
  rw [hid] at er
  obtain ⟨t, o, h1, h2, h3, v, L, h4, ⟨h5, h6, h7, h8⟩, h9⟩ := k s₁ [] _ X0 (Fr.nil _) S0 (by rw [hU]; rfl) er
  exact ⟨t, o, h1, h2, h3, v, L, h4, ⟨h5, h6⟩, h9⟩
theorem Ok.w (O : Ok G K own bytes maxL ret R mn kc ks) : ∀ d ∈ tables_1, d.before G.2.2.1 G.2.1 = true := by
  obtain ⟨l, Z, a0, n⟩ := G; obtain ⟨p, e, R', s, m, args, below, meth, c, kc', ks'⟩ := K
  obtain ⟨-, -, -, -, -, -, -, -, -, -, -, hw⟩ := O
  exact hw
theorem bnd {α β : Type} {o : Option α} {f : α → Option β} {b : β} (h : o.bind f = some b) : ∃ a, o = some a ∧ f a = some b := Option.bind_eq_some_iff.mp h
theorem g_static1 {ix : Nat} {y : MethodName} {bytes' : ByteArray} {maxL' : Nat} {ret' : Option FieldType} {rm : Room} {as : List Value} {H' : List Obj} {v : Value} {ps : List FieldType} {W : Nat} {stk : List Value} (O : Ok G K own bytes maxL ret R mn kc ks) (hd : decode bytes pc = .ok (.invokestatic ix, 3))
    (w1 : Jvm.Cond.methodLink own ix y ∈ tables_1) (w2 : Jvm.Cond.static y ∈ tables_1) (w3 : Jvm.Cond.initialized y.cls ∈ tables_1) (w4 : Jvm.Cond.code y bytes' maxL' ret' ∈ tables_1) (hy : y.cls ≠ "java/lang/invoke/MethodHandle" ∧ y.cls ≠ "java/lang/invoke/VarHandle")
    (pd : parseMethodDescriptor y.desc = some ⟨ps, ret'⟩) (hl : as.length = ps.length) (hstk : stk = as.reverse ++ st) (hLs : Ls.length = maxL) (hW : (st.map fun v => v.category).sum = W) (hf : rm.frames + 1 ≤ R.frames) (hlo : W + (maxL' + 11) + rm.locals ≤ R.locals) {c2 s2 : Nat} (hc2 : cells + rm.cells = c2) (hs2 : slots + rm.slots = s2) (hc : c2 ≤ R.cells) (hs : s2 ≤ R.slots)
    (con : Con G y bytes' maxL' ret' rm as H (some v) H') (hp : pc + 3 = pc') (k : Run G K rv Hf pc' Ls (v :: st) H' c2 s2) : Run G K rv Hf pc Ls stk H cells slots := g_static O hd w1 w2 w3 w4 hy pd hl hstk hLs hW hf hlo hc2 hs2 hc hs con hp k
theorem g_static0 {ix : Nat} {y : MethodName} {bytes' : ByteArray} {maxL' : Nat} {ret' : Option FieldType} {rm : Room} {as : List Value} {H' : List Obj} {ps : List FieldType} {W : Nat} {stk : List Value} (O : Ok G K own bytes maxL ret R mn kc ks) (hd : decode bytes pc = .ok (.invokestatic ix, 3))
    (w1 : Jvm.Cond.methodLink own ix y ∈ tables_1) (w2 : Jvm.Cond.static y ∈ tables_1) (w3 : Jvm.Cond.initialized y.cls ∈ tables_1) (w4 : Jvm.Cond.code y bytes' maxL' ret' ∈ tables_1) (hy : y.cls ≠ "java/lang/invoke/MethodHandle" ∧ y.cls ≠ "java/lang/invoke/VarHandle")
    (pd : parseMethodDescriptor y.desc = some ⟨ps, ret'⟩) (hl : as.length = ps.length) (hstk : stk = as.reverse ++ st) (hLs : Ls.length = maxL) (hW : (st.map fun v => v.category).sum = W) (hf : rm.frames + 1 ≤ R.frames) (hlo : W + (maxL' + 11) + rm.locals ≤ R.locals) {c2 s2 : Nat} (hc2 : cells + rm.cells = c2) (hs2 : slots + rm.slots = s2) (hc : c2 ≤ R.cells) (hs : s2 ≤ R.slots)
    (con : Con G y bytes' maxL' ret' rm as H none H') (hp : pc + 3 = pc') (k : Run G K rv Hf pc' Ls st H' c2 s2) : Run G K rv Hf pc Ls stk H cells slots := g_static O hd w1 w2 w3 w4 hy pd hl hstk hLs hW hf hlo hc2 hs2 hc hs con hp k
theorem g_virtual1 {ix i t : Nat} {y : MethodName} {bytes' : ByteArray} {maxL' : Nat} {ret' : Option FieldType} {rm : Room} {as vs : List Value} {H' : List Obj} {v : Value} {ps : List FieldType} {W : Nat} {stk : List Value} (O : Ok G K own bytes maxL ret R mn kc ks) (hd : decode bytes pc = .ok (.invokevirtual ix, 3))
    (w1 : Jvm.Cond.methodLink own ix y ∈ tables_1) (w2 : Jvm.Cond.declares y ∈ tables_1) (w5 : Jvm.Cond.selects (lay t).1 y y ∈ tables_1) (w6 : Jvm.Cond.instanceMethod y ∈ tables_1) (w3 : Jvm.Cond.initialized y.cls ∈ tables_1) (w4 : Jvm.Cond.code y bytes' maxL' ret' ∈ tables_1) (hy : y.cls ≠ "java/lang/invoke/MethodHandle" ∧ y.cls ≠ "java/lang/invoke/VarHandle")
    (ho : obj t H i = some vs) (pd : parseMethodDescriptor y.desc = some ⟨ps, ret'⟩) (hl : as.length = ps.length) (hstk : stk = as.reverse ++ .ref i :: st) (hLs : Ls.length = maxL) (hW : (st.map fun v => v.category).sum = W) (hf : rm.frames + 1 ≤ R.frames) (hlo : W + (maxL' + 11) + rm.locals ≤ R.locals) {c2 s2 : Nat} (hc2 : cells + rm.cells = c2) (hs2 : slots + rm.slots = s2) (hc : c2 ≤ R.cells) (hs : s2 ≤ R.slots)
    (con : Con G y bytes' maxL' ret' rm (.ref i :: as) H (some v) H') (hp : pc + 3 = pc') (k : Run G K rv Hf pc' Ls (v :: st) H' c2 s2) : Run G K rv Hf pc Ls stk H cells slots := g_virtual O hd w1 w2 w5 w6 w3 w4 hy ho pd hl hstk hLs hW hf hlo hc2 hs2 hc hs con hp k
theorem g_virtual0 {ix i t : Nat} {y : MethodName} {bytes' : ByteArray} {maxL' : Nat} {ret' : Option FieldType} {rm : Room} {as vs : List Value} {H' : List Obj} {ps : List FieldType} {W : Nat} {stk : List Value} (O : Ok G K own bytes maxL ret R mn kc ks) (hd : decode bytes pc = .ok (.invokevirtual ix, 3))
    (w1 : Jvm.Cond.methodLink own ix y ∈ tables_1) (w2 : Jvm.Cond.declares y ∈ tables_1) (w5 : Jvm.Cond.selects (lay t).1 y y ∈ tables_1) (w6 : Jvm.Cond.instanceMethod y ∈ tables_1) (w3 : Jvm.Cond.initialized y.cls ∈ tables_1) (w4 : Jvm.Cond.code y bytes' maxL' ret' ∈ tables_1) (hy : y.cls ≠ "java/lang/invoke/MethodHandle" ∧ y.cls ≠ "java/lang/invoke/VarHandle")
    (ho : obj t H i = some vs) (pd : parseMethodDescriptor y.desc = some ⟨ps, ret'⟩) (hl : as.length = ps.length) (hstk : stk = as.reverse ++ .ref i :: st) (hLs : Ls.length = maxL) (hW : (st.map fun v => v.category).sum = W) (hf : rm.frames + 1 ≤ R.frames) (hlo : W + (maxL' + 11) + rm.locals ≤ R.locals) {c2 s2 : Nat} (hc2 : cells + rm.cells = c2) (hs2 : slots + rm.slots = s2) (hc : c2 ≤ R.cells) (hs : s2 ≤ R.slots)
    (con : Con G y bytes' maxL' ret' rm (.ref i :: as) H none H') (hp : pc + 3 = pc') (k : Run G K rv Hf pc' Ls st H' c2 s2) : Run G K rv Hf pc Ls stk H cells slots := g_virtual O hd w1 w2 w5 w6 w3 w4 hy ho pd hl hstk hLs hW hf hlo hc2 hs2 hc hs con hp k
/-- clone() of an int[] -/
def cloneI (cap : Nat) (H : List Obj) (i : Nat) : Option (List Obj) := (arr .int H i).bind fun vs => if vs.length ≤ cap ∧ vs.all (fun v => (getI v).isSome) = true then some (H ++ [.inl (.int, vs)]) else none
theorem g_cloneI {ix i cap W : Nat} {H' : List Obj} (O : Ok G K own bytes maxL ret R mn kc ks) (hd : decode bytes pc = .ok (.invokevirtual ix, 3)) (w1 : Jvm.Cond.methodLink own ix (⟨"[I", "clone", "()Ljava/lang/Object;"⟩ : MethodName) ∈ tables_1) (w2 : Jvm.Cond.sameMethod "[I" "java/lang/Object" "clone" "()Ljava/lang/Object;" ∈ tables_1) (w3 : Jvm.Cond.native (⟨"java/lang/Object", "clone", "()Ljava/lang/Object;"⟩ : MethodName) ∈ tables_1)
    (w4 : Jvm.Cond.instanceMethod (⟨"java/lang/Object", "clone", "()Ljava/lang/Object;"⟩ : MethodName) ∈ tables_1) (w5 : Jvm.Cond.selects "[I" (⟨"[I", "clone", "()Ljava/lang/Object;"⟩ : MethodName) (⟨"java/lang/Object", "clone", "()Ljava/lang/Object;"⟩ : MethodName) ∈ tables_1) (w6 : Jvm.Cond.castable "[I" "java/lang/Cloneable" ∈ tables_1) (hr : cloneI cap H i = some H')
    (hLs : Ls.length = maxL) (hW : (st.map fun v => v.category).sum = W) (hf : 1 ≤ R.frames) (hl : W + 14 ≤ R.locals) {c2 s2 : Nat} (hc2 : cells + 1 = c2) (hs2 : slots + cap = s2) (hc : c2 ≤ R.cells) (hs : s2 ≤ R.slots) (hp : pc + 3 = pc')
    (k : Run G K rv Hf pc' Ls (.ref H.length :: st) H' c2 s2) : Run G K rv Hf pc Ls (.ref i :: st) H cells slots := by
  obtain ⟨l, Z, a0, n⟩ := G; obtain ⟨p, e, R', s, m, args, below, meth, c, kc', ks'⟩ := K
  obtain ⟨hx, hZ, hown, hby, hml, hret, hlk, rfl, hnm, rfl, rfl, hw⟩ := O
  subst hp hc2 hs2
  intro T locs real X N S A L
  obtain ⟨vs, h1, h2⟩ := bnd hr
  have hv : vs.length ≤ cap ∧ vs.all (fun v => (getI v).isSome) = true := Decidable.byContradiction fun hv => by rw [if_neg hv] at h2; cases h2
  rw [if_pos hv] at h2
  cases h2
  obtain ⟨EX, cl, B, es⟩ := S.2 i _ (arr_e h1)
  have FC : FitC Z cl := fitC_of B fun j hj v hjv => by
    rw [es] at hjv
    simp only [List.getElem?_toArray, List.getElem?_map, Option.map_eq_some_iff] at hjv
    obtain ⟨u, q1, q2⟩ := hjv
    have := List.all_eq_true.mp hv.2 u (List.mem_of_getElem? q1)
    cases u <;> simp [getI] at this
    rw [← q2]; rfl
  obtain ⟨T', h', X', e', E, B', EX', stp⟩ := cloneA X hx hZ hown (hw _ w1) (hw _ w2) (hw _ w3) (hw _ w4) (hw _ w5) (hw _ w6) rfl B EX FC (g := mkF m pc real ((.ref i :: st).map (sh n))) rfl (by show real.size = _; rw [L.1, hml]; exact hLs) rfl (hb hby hd) hf (W := W) (cap := cap) (by show 2 * 0 + _ ≤ _; rw [cat_sum, hW]; exact Nat.le_of_eq (Nat.zero_add _)) hl (by rw [sl_len es]; exact hv.1) hc hs
  have hsz : h'.size = T.heap.size + 1 := by
    have a1 : Array.size T.heap < Array.size h' := B'.lt
    have a2 : Array.size T'.heap ≤ Array.size s.heap + (cells + 1) := X'.heapSize
    rw [e'] at a2
    have a3 : Array.size T.heap = n + H.length := S.1
    have a4 : Array.size s.heap + cells = n + H.length := A
    omega
  have ea : T.heap.size = n + H.length := S.1
  have S' : Sim (l, Z, a0, n) (H ++ [.inl (.int, vs)]) T'.heap := by
    rw [e']
    exact sim_ext S E hsz ⟨EX', _, B', es⟩
  refine Done.step stp ?_
  have k' := k T' locs real X' N S' (by simp only [List.length_append, List.length_singleton] at A ⊢; omega) L
  rw [ea]
  exact k'
theorem g_checkcastI {ix i : Nat} {vs : List Value} (O : Ok G K own bytes maxL ret R mn kc ks) (hd : decode bytes pc = .ok (.checkcast ix, 3)) (w1 : Jvm.Cond.classLink own ix "[I" ∈ tables_1) (ha : arr .int H i = some vs) (hp : pc + 3 = pc')
    (k : Run G K rv Hf pc' Ls (.ref i :: st) H cells slots) : Run G K rv Hf pc Ls (.ref i :: st) H cells slots := by
  obtain ⟨l, Z, a0, n⟩ := G; obtain ⟨p, e, R', s, m, args, below, meth, c, kc', ks'⟩ := K
  obtain ⟨hx, hZ, hown, hby, hml, hret, hlk, rfl, hnm, rfl, rfl, hw⟩ := O
  subst hp
  intro T locs real X N S A L
  obtain ⟨EX, cl, B, es⟩ := S.2 i _ (arr_e ha)
  obtain ⟨T', X', e', stp⟩ := castY X hx hZ hown (hw _ w1) rfl (Ins.self EX) (g := mkF m pc real ((.ref i :: st).map (sh n))) rfl rfl (hb hby hd)
  exact Done.step stp (k T' locs real X' N (by rw [e']; exact S) A L)
end Laws
/-! small facts on numbers -/
theorem own_n0 : nar .boolean 0 = 0 := rfl
theorem own_n1 : nar .boolean 1 = 1 := rfl
theorem own_fin {r : Int32} {N : Nat} (h0 : 0 ≤ r.toInt) (h1 : r.toInt < N) (hN : N ≤ 2147483648) : ∃ j : Fin N, r = (j.1).toInt32 := by
  refine ⟨⟨r.toInt.toNat, by omega⟩, Int32.toInt_inj.mp ?_⟩
  show r.toInt = (r.toInt.toNat).toInt32.toInt
  rw [len_toInt (by show r.toInt.toNat < 2 ^ 31; omega)]
  omega
theorem own_lt {x y : Int32} : x < y ↔ x.toInt < y.toInt := Int32.lt_iff_toInt_lt
theorem own_le {x y : Int32} : x ≤ y ↔ x.toInt ≤ y.toInt := Int32.le_iff_toInt_le
theorem own_eq {x y : Int32} : x = y ↔ x.toInt = y.toInt := Int32.toInt_inj.symm
theorem own_ltL {x y : Int64} : x < y ↔ x.toInt < y.toInt := Int64.lt_iff_toInt_lt
theorem own_eqL {x y : Int64} : x = y ↔ x.toInt = y.toInt := Int64.toInt_inj.symm
/-- x & (2^31 - 1), then a remainder by a small number -/
theorem own_m31 (a : Int32) : (a &&& 2147483647).toInt = a.toInt % 2147483648 := c_mask a 2147483647 31 (by decide) (by decide)
theorem own_mod {a y : Int32} {d : Int} (hy : y.toInt = d) (h : 0 ≤ a.toInt) : (a % y).toInt = a.toInt % d := (c_irem a y d hy).1 h

/-! body 1 -/
theorem d1_0 : decode prog_77_method_6_code 0 = .ok (.iload_n 0, 1) := by decide +kernel
theorem d1_1 : decode prog_77_method_6_code 1 = .ok (.sipush 128, 3) := by decide +kernel
theorem d1_4 : decode prog_77_method_6_code 4 = .ok (.if_icmp .ge 39, 3) := by decide +kernel
theorem d1_7 : decode prog_77_method_6_code 7 = .ok (.iload_n 0, 1) := by decide +kernel
theorem d1_8 : decode prog_77_method_6_code 8 = .ok (.bipush 65, 2) := by decide +kernel
theorem d1_10 : decode prog_77_method_6_code 10 = .ok (.if_icmp .lt 9, 3) := by decide +kernel
theorem d1_13 : decode prog_77_method_6_code 13 = .ok (.iload_n 0, 1) := by decide +kernel
theorem d1_14 : decode prog_77_method_6_code 14 = .ok (.bipush 90, 2) := by decide +kernel
theorem d1_16 : decode prog_77_method_6_code 16 = .ok (.if_icmp .le 21, 3) := by decide +kernel
theorem d1_19 : decode prog_77_method_6_code 19 = .ok (.iload_n 0, 1) := by decide +kernel
theorem d1_20 : decode prog_77_method_6_code 20 = .ok (.bipush 97, 2) := by decide +kernel
theorem d1_22 : decode prog_77_method_6_code 22 = .ok (.if_icmp .lt 9, 3) := by decide +kernel
theorem d1_25 : decode prog_77_method_6_code 25 = .ok (.iload_n 0, 1) := by decide +kernel
theorem d1_26 : decode prog_77_method_6_code 26 = .ok (.bipush 122, 2) := by decide +kernel
theorem d1_28 : decode prog_77_method_6_code 28 = .ok (.if_icmp .le 9, 3) := by decide +kernel
theorem d1_31 : decode prog_77_method_6_code 31 = .ok (.iload_n 0, 1) := by decide +kernel
theorem d1_32 : decode prog_77_method_6_code 32 = .ok (.bipush 95, 2) := by decide +kernel
theorem d1_34 : decode prog_77_method_6_code 34 = .ok (.if_icmp .ne 7, 3) := by decide +kernel
theorem d1_37 : decode prog_77_method_6_code 37 = .ok (.iconst 1, 1) := by decide +kernel
theorem d1_38 : decode prog_77_method_6_code 38 = .ok (.goto 4, 3) := by decide +kernel
theorem d1_41 : decode prog_77_method_6_code 41 = .ok (.iconst 0, 1) := by decide +kernel
theorem d1_42 : decode prog_77_method_6_code 42 = .ok (.ireturn, 1) := by decide +kernel
theorem d1_43 : decode prog_77_method_6_code 43 = .ok (.iload_n 0, 1) := by decide +kernel
theorem d1_44 : decode prog_77_method_6_code 44 = .ok (.sipush 192, 3) := by decide +kernel
theorem d1_47 : decode prog_77_method_6_code 47 = .ok (.if_icmp .lt 10, 3) := by decide +kernel
theorem d1_50 : decode prog_77_method_6_code 50 = .ok (.iload_n 0, 1) := by decide +kernel
theorem d1_51 : decode prog_77_method_6_code 51 = .ok (.sipush 214, 3) := by decide +kernel
theorem d1_54 : decode prog_77_method_6_code 54 = .ok (.if_icmp .le 150, 3) := by decide +kernel
theorem d1_57 : decode prog_77_method_6_code 57 = .ok (.iload_n 0, 1) := by decide +kernel
theorem d1_58 : decode prog_77_method_6_code 58 = .ok (.sipush 216, 3) := by decide +kernel
theorem d1_61 : decode prog_77_method_6_code 61 = .ok (.if_icmp .lt 10, 3) := by decide +kernel
theorem d1_64 : decode prog_77_method_6_code 64 = .ok (.iload_n 0, 1) := by decide +kernel
theorem d1_65 : decode prog_77_method_6_code 65 = .ok (.sipush 246, 3) := by decide +kernel
theorem d1_68 : decode prog_77_method_6_code 68 = .ok (.if_icmp .le 136, 3) := by decide +kernel
theorem d1_71 : decode prog_77_method_6_code 71 = .ok (.iload_n 0, 1) := by decide +kernel
theorem d1_72 : decode prog_77_method_6_code 72 = .ok (.sipush 248, 3) := by decide +kernel
theorem d1_75 : decode prog_77_method_6_code 75 = .ok (.if_icmp .lt 10, 3) := by decide +kernel
theorem d1_78 : decode prog_77_method_6_code 78 = .ok (.iload_n 0, 1) := by decide +kernel
theorem d1_79 : decode prog_77_method_6_code 79 = .ok (.sipush 767, 3) := by decide +kernel
theorem d1_82 : decode prog_77_method_6_code 82 = .ok (.if_icmp .le 122, 3) := by decide +kernel
theorem d1_85 : decode prog_77_method_6_code 85 = .ok (.iload_n 0, 1) := by decide +kernel
theorem d1_86 : decode prog_77_method_6_code 86 = .ok (.sipush 880, 3) := by decide +kernel
theorem d1_89 : decode prog_77_method_6_code 89 = .ok (.if_icmp .lt 10, 3) := by decide +kernel
theorem d1_92 : decode prog_77_method_6_code 92 = .ok (.iload_n 0, 1) := by decide +kernel
theorem d1_93 : decode prog_77_method_6_code 93 = .ok (.sipush 893, 3) := by decide +kernel
theorem d1_96 : decode prog_77_method_6_code 96 = .ok (.if_icmp .le 108, 3) := by decide +kernel
theorem d1_99 : decode prog_77_method_6_code 99 = .ok (.iload_n 0, 1) := by decide +kernel
theorem d1_100 : decode prog_77_method_6_code 100 = .ok (.sipush 895, 3) := by decide +kernel
theorem d1_103 : decode prog_77_method_6_code 103 = .ok (.if_icmp .lt 10, 3) := by decide +kernel
theorem d1_106 : decode prog_77_method_6_code 106 = .ok (.iload_n 0, 1) := by decide +kernel
theorem d1_107 : decode prog_77_method_6_code 107 = .ok (.sipush 8191, 3) := by decide +kernel
theorem d1_110 : decode prog_77_method_6_code 110 = .ok (.if_icmp .le 94, 3) := by decide +kernel
theorem d1_113 : decode prog_77_method_6_code 113 = .ok (.iload_n 0, 1) := by decide +kernel
theorem d1_114 : decode prog_77_method_6_code 114 = .ok (.sipush 8204, 3) := by decide +kernel
theorem d1_117 : decode prog_77_method_6_code 117 = .ok (.if_icmp .lt 10, 3) := by decide +kernel
theorem d1_120 : decode prog_77_method_6_code 120 = .ok (.iload_n 0, 1) := by decide +kernel
theorem d1_121 : decode prog_77_method_6_code 121 = .ok (.sipush 8205, 3) := by decide +kernel
theorem d1_124 : decode prog_77_method_6_code 124 = .ok (.if_icmp .le 80, 3) := by decide +kernel
theorem d1_127 : decode prog_77_method_6_code 127 = .ok (.iload_n 0, 1) := by decide +kernel
theorem d1_128 : decode prog_77_method_6_code 128 = .ok (.sipush 8304, 3) := by decide +kernel
theorem d1_131 : decode prog_77_method_6_code 131 = .ok (.if_icmp .lt 10, 3) := by decide +kernel
theorem d1_134 : decode prog_77_method_6_code 134 = .ok (.iload_n 0, 1) := by decide +kernel
theorem d1_135 : decode prog_77_method_6_code 135 = .ok (.sipush 8591, 3) := by decide +kernel
theorem d1_138 : decode prog_77_method_6_code 138 = .ok (.if_icmp .le 66, 3) := by decide +kernel
theorem d1_141 : decode prog_77_method_6_code 141 = .ok (.iload_n 0, 1) := by decide +kernel
theorem d1_142 : decode prog_77_method_6_code 142 = .ok (.sipush 11264, 3) := by decide +kernel
theorem d1_145 : decode prog_77_method_6_code 145 = .ok (.if_icmp .lt 10, 3) := by decide +kernel
theorem d1_148 : decode prog_77_method_6_code 148 = .ok (.iload_n 0, 1) := by decide +kernel
theorem d1_149 : decode prog_77_method_6_code 149 = .ok (.sipush 12271, 3) := by decide +kernel
theorem d1_152 : decode prog_77_method_6_code 152 = .ok (.if_icmp .le 52, 3) := by decide +kernel
theorem d1_155 : decode prog_77_method_6_code 155 = .ok (.iload_n 0, 1) := by decide +kernel
theorem d1_156 : decode prog_77_method_6_code 156 = .ok (.sipush 12289, 3) := by decide +kernel
theorem d1_159 : decode prog_77_method_6_code 159 = .ok (.if_icmp .lt 9, 3) := by decide +kernel
theorem d1_162 : decode prog_77_method_6_code 162 = .ok (.iload_n 0, 1) := by decide +kernel
theorem d1_163 : decode prog_77_method_6_code 163 = .ok (.ldc 13, 2) := by decide +kernel
theorem d1_165 : decode prog_77_method_6_code 165 = .ok (.if_icmp .le 39, 3) := by decide +kernel
theorem d1_168 : decode prog_77_method_6_code 168 = .ok (.iload_n 0, 1) := by decide +kernel
theorem d1_169 : decode prog_77_method_6_code 169 = .ok (.ldc 16, 2) := by decide +kernel
theorem d1_171 : decode prog_77_method_6_code 171 = .ok (.if_icmp .lt 9, 3) := by decide +kernel
theorem d1_174 : decode prog_77_method_6_code 174 = .ok (.iload_n 0, 1) := by decide +kernel
theorem d1_175 : decode prog_77_method_6_code 175 = .ok (.ldc 17, 2) := by decide +kernel
theorem d1_177 : decode prog_77_method_6_code 177 = .ok (.if_icmp .le 27, 3) := by decide +kernel
theorem d1_180 : decode prog_77_method_6_code 180 = .ok (.iload_n 0, 1) := by decide +kernel
theorem d1_181 : decode prog_77_method_6_code 181 = .ok (.ldc 18, 2) := by decide +kernel
theorem d1_183 : decode prog_77_method_6_code 183 = .ok (.if_icmp .lt 9, 3) := by decide +kernel
theorem d1_186 : decode prog_77_method_6_code 186 = .ok (.iload_n 0, 1) := by decide +kernel
theorem d1_187 : decode prog_77_method_6_code 187 = .ok (.ldc 15, 2) := by decide +kernel
theorem d1_189 : decode prog_77_method_6_code 189 = .ok (.if_icmp .le 15, 3) := by decide +kernel
theorem d1_192 : decode prog_77_method_6_code 192 = .ok (.iload_n 0, 1) := by decide +kernel
theorem d1_193 : decode prog_77_method_6_code 193 = .ok (.ldc 9, 2) := by decide +kernel
theorem d1_195 : decode prog_77_method_6_code 195 = .ok (.if_icmp .lt 13, 3) := by decide +kernel
theorem d1_198 : decode prog_77_method_6_code 198 = .ok (.iload_n 0, 1) := by decide +kernel
theorem d1_199 : decode prog_77_method_6_code 199 = .ok (.ldc 19, 2) := by decide +kernel
theorem d1_201 : decode prog_77_method_6_code 201 = .ok (.if_icmp .gt 7, 3) := by decide +kernel
theorem d1_204 : decode prog_77_method_6_code 204 = .ok (.iconst 1, 1) := by decide +kernel
theorem d1_205 : decode prog_77_method_6_code 205 = .ok (.goto 4, 3) := by decide +kernel
theorem d1_208 : decode prog_77_method_6_code 208 = .ok (.iconst 0, 1) := by decide +kernel
theorem d1_209 : decode prog_77_method_6_code 209 = .ok (.ireturn, 1) := by decide +kernel
theorem pd1 : parseMethodDescriptor "(I)Z" = some ⟨[.int], some .boolean⟩ := by decide +kernel
theorem pn1 : plainFor (⟨"shelfmark/XmlChars", "isNameStart", "(I)Z"⟩ : MethodName) = true := by first | exact plainFor_of_name (by first | (simp [plainName, overriddenIn]; done) | decide +kernel) | decide +kernel
abbrev rm1 : Room := { frames := 0, cells := 0, slots := 0, locals := 0 }
abbrev Ok1 (G : Gx) (K : Kx) : Prop := Ok G K "shelfmark/XmlChars" prog_77_method_6_code 1 (Option.some FieldType.boolean) rm1 "isNameStart" 0 0
def m1_b42 (t0 : Int32) : Int32 :=
  (nar .boolean t0)
theorem m1_t42 {G : Gx} {K : Kx} (O : Ok1 G K) (t0 : Int32) (H : List Obj) : Run G K (some (.int (m1_b42 t0))) H 42 [none] [(.int t0)] H 0 0 := by
  unfold m1_b42
  exact g_ret_nar O d1_42 (by simp) rfl rfl (by decide)
def m1_b37 : Int32 :=
  m1_b42 (1 : Int32)
theorem m1_t37 {G : Gx} {K : Kx} (O : Ok1 G K) (H : List Obj) : Run G K (some (.int (m1_b37))) H 37 [none] [] H 0 0 := by
  unfold m1_b37
  refine g_iconst O (pc' := 38) d1_37 (v := 1) (by decide) rfl ?_
  refine g_goto O d1_38 (by decide) (pc' := 42) (by decide) ?_
  exact m1_t42 O (1 : Int32) H
def m1_b31 (v0 : Int32) : Int32 :=
  if v0 = (95 : Int32) then
    m1_b37
  else
    m1_b42 (0 : Int32)
theorem m1_t31 {G : Gx} {K : Kx} (O : Ok1 G K) (v0 : Int32) (H : List Obj) : Run G K (some (.int (m1_b31 v0))) H 31 [some (.int v0)] [] H 0 0 := by
  unfold m1_b31
  refine g_iload_n O (pc' := 32) d1_31 (v := v0) rfl rfl ?_
  refine g_bipush O (pc' := 34) d1_32 (v := 95) (by decide) rfl ?_
  refine g_icmp_ne O (pc' := 37) d1_34 rfl (by decide) (pc1 := 41) (by decide) (fun h34 => ?_) (fun h34 => ?_)
  · rw [if_neg h34]
    refine g_iconst O (pc' := 42) d1_41 (v := 0) (by decide) rfl ?_
    refine g_forget (Ls' := [none]) trivial ?_
    exact m1_t42 O (0 : Int32) H
  · rw [if_pos h34]
    refine g_forget (Ls' := [none]) trivial ?_
    exact m1_t37 O H
def m1_b19 (v0 : Int32) : Int32 :=
  if v0 < (97 : Int32) then
    m1_b31 v0
  else
    if (122 : Int32) < v0 then
      m1_b31 v0
    else
      m1_b37
theorem m1_t19 {G : Gx} {K : Kx} (O : Ok1 G K) (v0 : Int32) (H : List Obj) : Run G K (some (.int (m1_b19 v0))) H 19 [some (.int v0)] [] H 0 0 := by
  unfold m1_b19
  refine g_iload_n O (pc' := 20) d1_19 (v := v0) rfl rfl ?_
  refine g_bipush O (pc' := 22) d1_20 (v := 97) (by decide) rfl ?_
  refine g_icmp_lt O (pc' := 25) d1_22 rfl (by decide) (pc1 := 31) (by decide) (fun h22 => ?_) (fun h22 => ?_)
  · rw [if_pos h22]
    exact m1_t31 O v0 H
  · rw [if_neg h22]
    refine g_iload_n O (pc' := 26) d1_25 (v := v0) rfl rfl ?_
    refine g_bipush O (pc' := 28) d1_26 (v := 122) (by decide) rfl ?_
    refine g_icmp_le O (pc' := 31) d1_28 rfl (by decide) (pc1 := 37) (by decide) (fun h28 => ?_) (fun h28 => ?_)
    · rw [if_neg h28]
      refine g_forget (Ls' := [none]) trivial ?_
      exact m1_t37 O H
    · rw [if_pos h28]
      exact m1_t31 O v0 H
def m1_b209 (t0 : Int32) : Int32 :=
  (nar .boolean t0)
theorem m1_t209 {G : Gx} {K : Kx} (O : Ok1 G K) (t0 : Int32) (H : List Obj) : Run G K (some (.int (m1_b209 t0))) H 209 [none] [(.int t0)] H 0 0 := by
  unfold m1_b209
  exact g_ret_nar O d1_209 (by simp) rfl rfl (by decide)
def m1_b208 : Int32 :=
  m1_b209 (0 : Int32)
theorem m1_t208 {G : Gx} {K : Kx} (O : Ok1 G K) (H : List Obj) : Run G K (some (.int (m1_b208))) H 208 [none] [] H 0 0 := by
  unfold m1_b208
  refine g_iconst O (pc' := 209) d1_208 (v := 0) (by decide) rfl ?_
  exact m1_t209 O (0 : Int32) H
def m1_b204 : Int32 :=
  m1_b209 (1 : Int32)
theorem m1_t204 {G : Gx} {K : Kx} (O : Ok1 G K) (H : List Obj) : Run G K (some (.int (m1_b204))) H 204 [none] [] H 0 0 := by
  unfold m1_b204
  refine g_iconst O (pc' := 205) d1_204 (v := 1) (by decide) rfl ?_
  refine g_goto O d1_205 (by decide) (pc' := 209) (by decide) ?_
  exact m1_t209 O (1 : Int32) H
def m1_b192 (v0 : Int32) : Int32 :=
  if v0 < (65536 : Int32) then
    m1_b208
  else
    if (983039 : Int32) < v0 then
      m1_b208
    else
      m1_b204
theorem m1_t192 {G : Gx} {K : Kx} (O : Ok1 G K) (v0 : Int32) (H : List Obj) : Run G K (some (.int (m1_b192 v0))) H 192 [some (.int v0)] [] H 0 0 := by
  unfold m1_b192
  refine g_iload_n O (pc' := 193) d1_192 (v := v0) rfl rfl ?_
  refine g_ldc O (pc' := 195) d1_193 tw22 rfl ?_
  refine g_icmp_lt O (pc' := 198) d1_195 rfl (by decide) (pc1 := 208) (by decide) (fun h195 => ?_) (fun h195 => ?_)
  · rw [if_pos h195]
    refine g_forget (Ls' := [none]) trivial ?_
    exact m1_t208 O H
  · rw [if_neg h195]
    refine g_iload_n O (pc' := 199) d1_198 (v := v0) rfl rfl ?_
    refine g_ldc O (pc' := 201) d1_199 tw26 rfl ?_
    refine g_icmp_gt O (pc' := 204) d1_201 rfl (by decide) (pc1 := 208) (by decide) (fun h201 => ?_) (fun h201 => ?_)
    · rw [if_pos h201]
      refine g_forget (Ls' := [none]) trivial ?_
      exact m1_t208 O H
    · rw [if_neg h201]
      refine g_forget (Ls' := [none]) trivial ?_
      exact m1_t204 O H
def m1_b180 (v0 : Int32) : Int32 :=
  if v0 < (65008 : Int32) then
    m1_b192 v0
  else
    if (65533 : Int32) < v0 then
      m1_b192 v0
    else
      m1_b204
theorem m1_t180 {G : Gx} {K : Kx} (O : Ok1 G K) (v0 : Int32) (H : List Obj) : Run G K (some (.int (m1_b180 v0))) H 180 [some (.int v0)] [] H 0 0 := by
  unfold m1_b180
  refine g_iload_n O (pc' := 181) d1_180 (v := v0) rfl rfl ?_
  refine g_ldc O (pc' := 183) d1_181 tw21 rfl ?_
  refine g_icmp_lt O (pc' := 186) d1_183 rfl (by decide) (pc1 := 192) (by decide) (fun h183 => ?_) (fun h183 => ?_)
  · rw [if_pos h183]
    exact m1_t192 O v0 H
  · rw [if_neg h183]
    refine g_iload_n O (pc' := 187) d1_186 (v := v0) rfl rfl ?_
    refine g_ldc O (pc' := 189) d1_187 tw25 rfl ?_
    refine g_icmp_le O (pc' := 192) d1_189 rfl (by decide) (pc1 := 204) (by decide) (fun h189 => ?_) (fun h189 => ?_)
    · rw [if_neg h189]
      refine g_forget (Ls' := [none]) trivial ?_
      exact m1_t204 O H
    · rw [if_pos h189]
      exact m1_t192 O v0 H
def m1_b168 (v0 : Int32) : Int32 :=
  if v0 < (63744 : Int32) then
    m1_b180 v0
  else
    if (64975 : Int32) < v0 then
      m1_b180 v0
    else
      m1_b204
theorem m1_t168 {G : Gx} {K : Kx} (O : Ok1 G K) (v0 : Int32) (H : List Obj) : Run G K (some (.int (m1_b168 v0))) H 168 [some (.int v0)] [] H 0 0 := by
  unfold m1_b168
  refine g_iload_n O (pc' := 169) d1_168 (v := v0) rfl rfl ?_
  refine g_ldc O (pc' := 171) d1_169 tw20 rfl ?_
  refine g_icmp_lt O (pc' := 174) d1_171 rfl (by decide) (pc1 := 180) (by decide) (fun h171 => ?_) (fun h171 => ?_)
  · rw [if_pos h171]
    exact m1_t180 O v0 H
  · rw [if_neg h171]
    refine g_iload_n O (pc' := 175) d1_174 (v := v0) rfl rfl ?_
    refine g_ldc O (pc' := 177) d1_175 tw24 rfl ?_
    refine g_icmp_le O (pc' := 180) d1_177 rfl (by decide) (pc1 := 204) (by decide) (fun h177 => ?_) (fun h177 => ?_)
    · rw [if_neg h177]
      refine g_forget (Ls' := [none]) trivial ?_
      exact m1_t204 O H
    · rw [if_pos h177]
      exact m1_t180 O v0 H
def m1_b155 (v0 : Int32) : Int32 :=
  if v0 < (12289 : Int32) then
    m1_b168 v0
  else
    if (55295 : Int32) < v0 then
      m1_b168 v0
    else
      m1_b204
theorem m1_t155 {G : Gx} {K : Kx} (O : Ok1 G K) (v0 : Int32) (H : List Obj) : Run G K (some (.int (m1_b155 v0))) H 155 [some (.int v0)] [] H 0 0 := by
  unfold m1_b155
  refine g_iload_n O (pc' := 156) d1_155 (v := v0) rfl rfl ?_
  refine g_sipush O (pc' := 159) d1_156 (v := 12289) (by decide) rfl ?_
  refine g_icmp_lt O (pc' := 162) d1_159 rfl (by decide) (pc1 := 168) (by decide) (fun h159 => ?_) (fun h159 => ?_)
  · rw [if_pos h159]
    exact m1_t168 O v0 H
  · rw [if_neg h159]
    refine g_iload_n O (pc' := 163) d1_162 (v := v0) rfl rfl ?_
    refine g_ldc O (pc' := 165) d1_163 tw23 rfl ?_
    refine g_icmp_le O (pc' := 168) d1_165 rfl (by decide) (pc1 := 204) (by decide) (fun h165 => ?_) (fun h165 => ?_)
    · rw [if_neg h165]
      refine g_forget (Ls' := [none]) trivial ?_
      exact m1_t204 O H
    · rw [if_pos h165]
      exact m1_t168 O v0 H
def m1_b141 (v0 : Int32) : Int32 :=
  if v0 < (11264 : Int32) then
    m1_b155 v0
  else
    if (12271 : Int32) < v0 then
      m1_b155 v0
    else
      m1_b204
theorem m1_t141 {G : Gx} {K : Kx} (O : Ok1 G K) (v0 : Int32) (H : List Obj) : Run G K (some (.int (m1_b141 v0))) H 141 [some (.int v0)] [] H 0 0 := by
  unfold m1_b141
  refine g_iload_n O (pc' := 142) d1_141 (v := v0) rfl rfl ?_
  refine g_sipush O (pc' := 145) d1_142 (v := 11264) (by decide) rfl ?_
  refine g_icmp_lt O (pc' := 148) d1_145 rfl (by decide) (pc1 := 155) (by decide) (fun h145 => ?_) (fun h145 => ?_)
  · rw [if_pos h145]
    exact m1_t155 O v0 H
  · rw [if_neg h145]
    refine g_iload_n O (pc' := 149) d1_148 (v := v0) rfl rfl ?_
    refine g_sipush O (pc' := 152) d1_149 (v := 12271) (by decide) rfl ?_
    refine g_icmp_le O (pc' := 155) d1_152 rfl (by decide) (pc1 := 204) (by decide) (fun h152 => ?_) (fun h152 => ?_)
    · rw [if_neg h152]
      refine g_forget (Ls' := [none]) trivial ?_
      exact m1_t204 O H
    · rw [if_pos h152]
      exact m1_t155 O v0 H
def m1_b127 (v0 : Int32) : Int32 :=
  if v0 < (8304 : Int32) then
    m1_b141 v0
  else
    if (8591 : Int32) < v0 then
      m1_b141 v0
    else
      m1_b204
theorem m1_t127 {G : Gx} {K : Kx} (O : Ok1 G K) (v0 : Int32) (H : List Obj) : Run G K (some (.int (m1_b127 v0))) H 127 [some (.int v0)] [] H 0 0 := by
  unfold m1_b127
  refine g_iload_n O (pc' := 128) d1_127 (v := v0) rfl rfl ?_
  refine g_sipush O (pc' := 131) d1_128 (v := 8304) (by decide) rfl ?_
  refine g_icmp_lt O (pc' := 134) d1_131 rfl (by decide) (pc1 := 141) (by decide) (fun h131 => ?_) (fun h131 => ?_)
  · rw [if_pos h131]
    exact m1_t141 O v0 H
  · rw [if_neg h131]
    refine g_iload_n O (pc' := 135) d1_134 (v := v0) rfl rfl ?_
    refine g_sipush O (pc' := 138) d1_135 (v := 8591) (by decide) rfl ?_
    refine g_icmp_le O (pc' := 141) d1_138 rfl (by decide) (pc1 := 204) (by decide) (fun h138 => ?_) (fun h138 => ?_)
    · rw [if_neg h138]
      refine g_forget (Ls' := [none]) trivial ?_
      exact m1_t204 O H
    · rw [if_pos h138]
      exact m1_t141 O v0 H
def m1_b113 (v0 : Int32) : Int32 :=
  if v0 < (8204 : Int32) then
    m1_b127 v0
  else
    if (8205 : Int32) < v0 then
      m1_b127 v0
    else
      m1_b204
theorem m1_t113 {G : Gx} {K : Kx} (O : Ok1 G K) (v0 : Int32) (H : List Obj) : Run G K (some (.int (m1_b113 v0))) H 113 [some (.int v0)] [] H 0 0 := by
  unfold m1_b113
  refine g_iload_n O (pc' := 114) d1_113 (v := v0) rfl rfl ?_
  refine g_sipush O (pc' := 117) d1_114 (v := 8204) (by decide) rfl ?_
  refine g_icmp_lt O (pc' := 120) d1_117 rfl (by decide) (pc1 := 127) (by decide) (fun h117 => ?_) (fun h117 => ?_)
  · rw [if_pos h117]
    exact m1_t127 O v0 H
  · rw [if_neg h117]
    refine g_iload_n O (pc' := 121) d1_120 (v := v0) rfl rfl ?_
    refine g_sipush O (pc' := 124) d1_121 (v := 8205) (by decide) rfl ?_
    refine g_icmp_le O (pc' := 127) d1_124 rfl (by decide) (pc1 := 204) (by decide) (fun h124 => ?_) (fun h124 => ?_)
    · rw [if_neg h124]
      refine g_forget (Ls' := [none]) trivial ?_
      exact m1_t204 O H
    · rw [if_pos h124]
      exact m1_t127 O v0 H
def m1_b99 (v0 : Int32) : Int32 :=
  if v0 < (895 : Int32) then
    m1_b113 v0
  else
    if (8191 : Int32) < v0 then
      m1_b113 v0
    else
      m1_b204
theorem m1_t99 {G : Gx} {K : Kx} (O : Ok1 G K) (v0 : Int32) (H : List Obj) : Run G K (some (.int (m1_b99 v0))) H 99 [some (.int v0)] [] H 0 0 := by
  unfold m1_b99
  refine g_iload_n O (pc' := 100) d1_99 (v := v0) rfl rfl ?_
  refine g_sipush O (pc' := 103) d1_100 (v := 895) (by decide) rfl ?_
  refine g_icmp_lt O (pc' := 106) d1_103 rfl (by decide) (pc1 := 113) (by decide) (fun h103 => ?_) (fun h103 => ?_)
  · rw [if_pos h103]
    exact m1_t113 O v0 H
  · rw [if_neg h103]
    refine g_iload_n O (pc' := 107) d1_106 (v := v0) rfl rfl ?_
    refine g_sipush O (pc' := 110) d1_107 (v := 8191) (by decide) rfl ?_
    refine g_icmp_le O (pc' := 113) d1_110 rfl (by decide) (pc1 := 204) (by decide) (fun h110 => ?_) (fun h110 => ?_)
    · rw [if_neg h110]
      refine g_forget (Ls' := [none]) trivial ?_
      exact m1_t204 O H
    · rw [if_pos h110]
      exact m1_t113 O v0 H
def m1_b85 (v0 : Int32) : Int32 :=
  if v0 < (880 : Int32) then
    m1_b99 v0
  else
    if (893 : Int32) < v0 then
      m1_b99 v0
    else
      m1_b204
theorem m1_t85 {G : Gx} {K : Kx} (O : Ok1 G K) (v0 : Int32) (H : List Obj) : Run G K (some (.int (m1_b85 v0))) H 85 [some (.int v0)] [] H 0 0 := by
  unfold m1_b85
  refine g_iload_n O (pc' := 86) d1_85 (v := v0) rfl rfl ?_
  refine g_sipush O (pc' := 89) d1_86 (v := 880) (by decide) rfl ?_
  refine g_icmp_lt O (pc' := 92) d1_89 rfl (by decide) (pc1 := 99) (by decide) (fun h89 => ?_) (fun h89 => ?_)
  · rw [if_pos h89]
    exact m1_t99 O v0 H
  · rw [if_neg h89]
    refine g_iload_n O (pc' := 93) d1_92 (v := v0) rfl rfl ?_
    refine g_sipush O (pc' := 96) d1_93 (v := 893) (by decide) rfl ?_
    refine g_icmp_le O (pc' := 99) d1_96 rfl (by decide) (pc1 := 204) (by decide) (fun h96 => ?_) (fun h96 => ?_)
    · rw [if_neg h96]
      refine g_forget (Ls' := [none]) trivial ?_
      exact m1_t204 O H
    · rw [if_pos h96]
      exact m1_t99 O v0 H
def m1_b71 (v0 : Int32) : Int32 :=
  if v0 < (248 : Int32) then
    m1_b85 v0
  else
    if (767 : Int32) < v0 then
      m1_b85 v0
    else
      m1_b204
theorem m1_t71 {G : Gx} {K : Kx} (O : Ok1 G K) (v0 : Int32) (H : List Obj) : Run G K (some (.int (m1_b71 v0))) H 71 [some (.int v0)] [] H 0 0 := by
  unfold m1_b71
  refine g_iload_n O (pc' := 72) d1_71 (v := v0) rfl rfl ?_
  refine g_sipush O (pc' := 75) d1_72 (v := 248) (by decide) rfl ?_
  refine g_icmp_lt O (pc' := 78) d1_75 rfl (by decide) (pc1 := 85) (by decide) (fun h75 => ?_) (fun h75 => ?_)
  · rw [if_pos h75]
    exact m1_t85 O v0 H
  · rw [if_neg h75]
    refine g_iload_n O (pc' := 79) d1_78 (v := v0) rfl rfl ?_
    refine g_sipush O (pc' := 82) d1_79 (v := 767) (by decide) rfl ?_
    refine g_icmp_le O (pc' := 85) d1_82 rfl (by decide) (pc1 := 204) (by decide) (fun h82 => ?_) (fun h82 => ?_)
    · rw [if_neg h82]
      refine g_forget (Ls' := [none]) trivial ?_
      exact m1_t204 O H
    · rw [if_pos h82]
      exact m1_t85 O v0 H
def m1_b57 (v0 : Int32) : Int32 :=
  if v0 < (216 : Int32) then
    m1_b71 v0
  else
    if (246 : Int32) < v0 then
      m1_b71 v0
    else
      m1_b204
theorem m1_t57 {G : Gx} {K : Kx} (O : Ok1 G K) (v0 : Int32) (H : List Obj) : Run G K (some (.int (m1_b57 v0))) H 57 [some (.int v0)] [] H 0 0 := by
  unfold m1_b57
  refine g_iload_n O (pc' := 58) d1_57 (v := v0) rfl rfl ?_
  refine g_sipush O (pc' := 61) d1_58 (v := 216) (by decide) rfl ?_
  refine g_icmp_lt O (pc' := 64) d1_61 rfl (by decide) (pc1 := 71) (by decide) (fun h61 => ?_) (fun h61 => ?_)
  · rw [if_pos h61]
    exact m1_t71 O v0 H
  · rw [if_neg h61]
    refine g_iload_n O (pc' := 65) d1_64 (v := v0) rfl rfl ?_
    refine g_sipush O (pc' := 68) d1_65 (v := 246) (by decide) rfl ?_
    refine g_icmp_le O (pc' := 71) d1_68 rfl (by decide) (pc1 := 204) (by decide) (fun h68 => ?_) (fun h68 => ?_)
    · rw [if_neg h68]
      refine g_forget (Ls' := [none]) trivial ?_
      exact m1_t204 O H
    · rw [if_pos h68]
      exact m1_t71 O v0 H
def m1_b0 (v0 : Int32) : Int32 :=
  if v0 < (128 : Int32) then
    if v0 < (65 : Int32) then
      m1_b19 v0
    else
      if (90 : Int32) < v0 then
        m1_b19 v0
      else
        m1_b37
  else
    if v0 < (192 : Int32) then
      m1_b57 v0
    else
      if (214 : Int32) < v0 then
        m1_b57 v0
      else
        m1_b204
theorem m1_t0 {G : Gx} {K : Kx} (O : Ok1 G K) (v0 : Int32) (H : List Obj) : Run G K (some (.int (m1_b0 v0))) H 0 [some (.int v0)] [] H 0 0 := by
  unfold m1_b0
  refine g_iload_n O (pc' := 1) d1_0 (v := v0) rfl rfl ?_
  refine g_sipush O (pc' := 4) d1_1 (v := 128) (by decide) rfl ?_
  refine g_icmp_ge O (pc' := 7) d1_4 rfl (by decide) (pc1 := 43) (by decide) (fun h4 => ?_) (fun h4 => ?_)
  · rw [if_neg h4]
    refine g_iload_n O (pc' := 44) d1_43 (v := v0) rfl rfl ?_
    refine g_sipush O (pc' := 47) d1_44 (v := 192) (by decide) rfl ?_
    refine g_icmp_lt O (pc' := 50) d1_47 rfl (by decide) (pc1 := 57) (by decide) (fun h47 => ?_) (fun h47 => ?_)
    · rw [if_pos h47]
      exact m1_t57 O v0 H
    · rw [if_neg h47]
      refine g_iload_n O (pc' := 51) d1_50 (v := v0) rfl rfl ?_
      refine g_sipush O (pc' := 54) d1_51 (v := 214) (by decide) rfl ?_
      refine g_icmp_le O (pc' := 57) d1_54 rfl (by decide) (pc1 := 204) (by decide) (fun h54 => ?_) (fun h54 => ?_)
      · rw [if_neg h54]
        refine g_forget (Ls' := [none]) trivial ?_
        exact m1_t204 O H
      · rw [if_pos h54]
        exact m1_t57 O v0 H
  · rw [if_pos h4]
    refine g_iload_n O (pc' := 8) d1_7 (v := v0) rfl rfl ?_
    refine g_bipush O (pc' := 10) d1_8 (v := 65) (by decide) rfl ?_
    refine g_icmp_lt O (pc' := 13) d1_10 rfl (by decide) (pc1 := 19) (by decide) (fun h10 => ?_) (fun h10 => ?_)
    · rw [if_pos h10]
      exact m1_t19 O v0 H
    · rw [if_neg h10]
      refine g_iload_n O (pc' := 14) d1_13 (v := v0) rfl rfl ?_
      refine g_bipush O (pc' := 16) d1_14 (v := 90) (by decide) rfl ?_
      refine g_icmp_le O (pc' := 19) d1_16 rfl (by decide) (pc1 := 37) (by decide) (fun h16 => ?_) (fun h16 => ?_)
      · rw [if_neg h16]
        refine g_forget (Ls' := [none]) trivial ?_
        exact m1_t37 O H
      · rw [if_pos h16]
        exact m1_t19 O v0 H
abbrev m1 (v0 : Int32) : Int32 := m1_b0 v0
theorem con1 {G : Gx} (hw : ∀ d ∈ tables_1, d.before G.2.2.1 G.2.1 = true) (v0 : Int32) (H : List Obj) : Con G (⟨"shelfmark/XmlChars", "isNameStart", "(I)Z"⟩ : MethodName) prog_77_method_6_code 1 (Option.some FieldType.boolean) rm1 [(.int v0)] H (some (.int (m1 v0))) H :=
  con_of hw pn1 rfl fun K O => m1_t0 O v0 H

/-! body 2 -/
theorem d2_0 : decode method_2_code 0 = .ok (.iload_n 0, 1) := by decide +kernel
theorem d2_1 : decode method_2_code 1 = .ok (.ifCond .lt 9, 3) := by decide +kernel
theorem d2_4 : decode method_2_code 4 = .ok (.iload_n 0, 1) := by decide +kernel
theorem d2_5 : decode method_2_code 5 = .ok (.ldc 7, 2) := by decide +kernel
theorem d2_7 : decode method_2_code 7 = .ok (.if_icmp .le 5, 3) := by decide +kernel
theorem d2_10 : decode method_2_code 10 = .ok (.iconst 0, 1) := by decide +kernel
theorem d2_11 : decode method_2_code 11 = .ok (.ireturn, 1) := by decide +kernel
theorem d2_12 : decode method_2_code 12 = .ok (.iload_n 0, 1) := by decide +kernel
theorem d2_13 : decode method_2_code 13 = .ok (.bipush 64, 2) := by decide +kernel
theorem d2_15 : decode method_2_code 15 = .ok (.if_icmp .gt 5, 3) := by decide +kernel
theorem d2_18 : decode method_2_code 18 = .ok (.iconst 0, 1) := by decide +kernel
theorem d2_19 : decode method_2_code 19 = .ok (.ireturn, 1) := by decide +kernel
theorem d2_20 : decode method_2_code 20 = .ok (.iload_n 0, 1) := by decide +kernel
theorem d2_21 : decode method_2_code 21 = .ok (.bipush 91, 2) := by decide +kernel
theorem d2_23 : decode method_2_code 23 = .ok (.if_icmp .lt 11, 3) := by decide +kernel
theorem d2_26 : decode method_2_code 26 = .ok (.iload_n 0, 1) := by decide +kernel
theorem d2_27 : decode method_2_code 27 = .ok (.bipush 94, 2) := by decide +kernel
theorem d2_29 : decode method_2_code 29 = .ok (.if_icmp .gt 5, 3) := by decide +kernel
theorem d2_32 : decode method_2_code 32 = .ok (.iconst 0, 1) := by decide +kernel
theorem d2_33 : decode method_2_code 33 = .ok (.ireturn, 1) := by decide +kernel
theorem d2_34 : decode method_2_code 34 = .ok (.iload_n 0, 1) := by decide +kernel
theorem d2_35 : decode method_2_code 35 = .ok (.bipush 96, 2) := by decide +kernel
theorem d2_37 : decode method_2_code 37 = .ok (.if_icmp .ne 5, 3) := by decide +kernel
theorem d2_40 : decode method_2_code 40 = .ok (.iconst 0, 1) := by decide +kernel
theorem d2_41 : decode method_2_code 41 = .ok (.ireturn, 1) := by decide +kernel
theorem d2_42 : decode method_2_code 42 = .ok (.iload_n 0, 1) := by decide +kernel
theorem d2_43 : decode method_2_code 43 = .ok (.bipush 123, 2) := by decide +kernel
theorem d2_45 : decode method_2_code 45 = .ok (.if_icmp .lt 12, 3) := by decide +kernel
theorem d2_48 : decode method_2_code 48 = .ok (.iload_n 0, 1) := by decide +kernel
theorem d2_49 : decode method_2_code 49 = .ok (.sipush 191, 3) := by decide +kernel
theorem d2_52 : decode method_2_code 52 = .ok (.if_icmp .gt 5, 3) := by decide +kernel
theorem d2_55 : decode method_2_code 55 = .ok (.iconst 0, 1) := by decide +kernel
theorem d2_56 : decode method_2_code 56 = .ok (.ireturn, 1) := by decide +kernel
theorem d2_57 : decode method_2_code 57 = .ok (.iload_n 0, 1) := by decide +kernel
theorem d2_58 : decode method_2_code 58 = .ok (.sipush 215, 3) := by decide +kernel
theorem d2_61 : decode method_2_code 61 = .ok (.if_icmp .eq 10, 3) := by decide +kernel
theorem d2_64 : decode method_2_code 64 = .ok (.iload_n 0, 1) := by decide +kernel
theorem d2_65 : decode method_2_code 65 = .ok (.sipush 247, 3) := by decide +kernel
theorem d2_68 : decode method_2_code 68 = .ok (.if_icmp .ne 5, 3) := by decide +kernel
theorem d2_71 : decode method_2_code 71 = .ok (.iconst 0, 1) := by decide +kernel
theorem d2_72 : decode method_2_code 72 = .ok (.ireturn, 1) := by decide +kernel
theorem d2_73 : decode method_2_code 73 = .ok (.iload_n 0, 1) := by decide +kernel
theorem d2_74 : decode method_2_code 74 = .ok (.sipush 768, 3) := by decide +kernel
theorem d2_77 : decode method_2_code 77 = .ok (.if_icmp .lt 12, 3) := by decide +kernel
theorem d2_80 : decode method_2_code 80 = .ok (.iload_n 0, 1) := by decide +kernel
theorem d2_81 : decode method_2_code 81 = .ok (.sipush 879, 3) := by decide +kernel
theorem d2_84 : decode method_2_code 84 = .ok (.if_icmp .gt 5, 3) := by decide +kernel
theorem d2_87 : decode method_2_code 87 = .ok (.iconst 0, 1) := by decide +kernel
theorem d2_88 : decode method_2_code 88 = .ok (.ireturn, 1) := by decide +kernel
theorem d2_89 : decode method_2_code 89 = .ok (.iload_n 0, 1) := by decide +kernel
theorem d2_90 : decode method_2_code 90 = .ok (.sipush 894, 3) := by decide +kernel
theorem d2_93 : decode method_2_code 93 = .ok (.if_icmp .ne 5, 3) := by decide +kernel
theorem d2_96 : decode method_2_code 96 = .ok (.iconst 0, 1) := by decide +kernel
theorem d2_97 : decode method_2_code 97 = .ok (.ireturn, 1) := by decide +kernel
theorem d2_98 : decode method_2_code 98 = .ok (.iload_n 0, 1) := by decide +kernel
theorem d2_99 : decode method_2_code 99 = .ok (.sipush 8192, 3) := by decide +kernel
theorem d2_102 : decode method_2_code 102 = .ok (.if_icmp .lt 12, 3) := by decide +kernel
theorem d2_105 : decode method_2_code 105 = .ok (.iload_n 0, 1) := by decide +kernel
theorem d2_106 : decode method_2_code 106 = .ok (.sipush 8203, 3) := by decide +kernel
theorem d2_109 : decode method_2_code 109 = .ok (.if_icmp .gt 5, 3) := by decide +kernel
theorem d2_112 : decode method_2_code 112 = .ok (.iconst 0, 1) := by decide +kernel
theorem d2_113 : decode method_2_code 113 = .ok (.ireturn, 1) := by decide +kernel
theorem d2_114 : decode method_2_code 114 = .ok (.iload_n 0, 1) := by decide +kernel
theorem d2_115 : decode method_2_code 115 = .ok (.sipush 8206, 3) := by decide +kernel
theorem d2_118 : decode method_2_code 118 = .ok (.if_icmp .lt 12, 3) := by decide +kernel
theorem d2_121 : decode method_2_code 121 = .ok (.iload_n 0, 1) := by decide +kernel
theorem d2_122 : decode method_2_code 122 = .ok (.sipush 8303, 3) := by decide +kernel
theorem d2_125 : decode method_2_code 125 = .ok (.if_icmp .gt 5, 3) := by decide +kernel
theorem d2_128 : decode method_2_code 128 = .ok (.iconst 0, 1) := by decide +kernel
theorem d2_129 : decode method_2_code 129 = .ok (.ireturn, 1) := by decide +kernel
theorem d2_130 : decode method_2_code 130 = .ok (.iload_n 0, 1) := by decide +kernel
theorem d2_131 : decode method_2_code 131 = .ok (.sipush 8592, 3) := by decide +kernel
theorem d2_134 : decode method_2_code 134 = .ok (.if_icmp .lt 12, 3) := by decide +kernel
theorem d2_137 : decode method_2_code 137 = .ok (.iload_n 0, 1) := by decide +kernel
theorem d2_138 : decode method_2_code 138 = .ok (.sipush 11263, 3) := by decide +kernel
theorem d2_141 : decode method_2_code 141 = .ok (.if_icmp .gt 5, 3) := by decide +kernel
theorem d2_144 : decode method_2_code 144 = .ok (.iconst 0, 1) := by decide +kernel
theorem d2_145 : decode method_2_code 145 = .ok (.ireturn, 1) := by decide +kernel
theorem d2_146 : decode method_2_code 146 = .ok (.iload_n 0, 1) := by decide +kernel
theorem d2_147 : decode method_2_code 147 = .ok (.sipush 12272, 3) := by decide +kernel
theorem d2_150 : decode method_2_code 150 = .ok (.if_icmp .lt 12, 3) := by decide +kernel
theorem d2_153 : decode method_2_code 153 = .ok (.iload_n 0, 1) := by decide +kernel
theorem d2_154 : decode method_2_code 154 = .ok (.sipush 12288, 3) := by decide +kernel
theorem d2_157 : decode method_2_code 157 = .ok (.if_icmp .gt 5, 3) := by decide +kernel
theorem d2_160 : decode method_2_code 160 = .ok (.iconst 0, 1) := by decide +kernel
theorem d2_161 : decode method_2_code 161 = .ok (.ireturn, 1) := by decide +kernel
theorem d2_162 : decode method_2_code 162 = .ok (.iload_n 0, 1) := by decide +kernel
theorem d2_163 : decode method_2_code 163 = .ok (.ldc 8, 2) := by decide +kernel
theorem d2_165 : decode method_2_code 165 = .ok (.if_icmp .lt 11, 3) := by decide +kernel
theorem d2_168 : decode method_2_code 168 = .ok (.iload_n 0, 1) := by decide +kernel
theorem d2_169 : decode method_2_code 169 = .ok (.ldc 9, 2) := by decide +kernel
theorem d2_171 : decode method_2_code 171 = .ok (.if_icmp .gt 5, 3) := by decide +kernel
theorem d2_174 : decode method_2_code 174 = .ok (.iconst 0, 1) := by decide +kernel
theorem d2_175 : decode method_2_code 175 = .ok (.ireturn, 1) := by decide +kernel
theorem d2_176 : decode method_2_code 176 = .ok (.iload_n 0, 1) := by decide +kernel
theorem d2_177 : decode method_2_code 177 = .ok (.ldc 10, 2) := by decide +kernel
theorem d2_179 : decode method_2_code 179 = .ok (.if_icmp .lt 11, 3) := by decide +kernel
theorem d2_182 : decode method_2_code 182 = .ok (.iload_n 0, 1) := by decide +kernel
theorem d2_183 : decode method_2_code 183 = .ok (.ldc 11, 2) := by decide +kernel
theorem d2_185 : decode method_2_code 185 = .ok (.if_icmp .gt 5, 3) := by decide +kernel
theorem d2_188 : decode method_2_code 188 = .ok (.iconst 0, 1) := by decide +kernel
theorem d2_189 : decode method_2_code 189 = .ok (.ireturn, 1) := by decide +kernel
theorem d2_190 : decode method_2_code 190 = .ok (.iload_n 0, 1) := by decide +kernel
theorem d2_191 : decode method_2_code 191 = .ok (.ldc 12, 2) := by decide +kernel
theorem d2_193 : decode method_2_code 193 = .ok (.if_icmp .lt 11, 3) := by decide +kernel
theorem d2_196 : decode method_2_code 196 = .ok (.iload_n 0, 1) := by decide +kernel
theorem d2_197 : decode method_2_code 197 = .ok (.ldc 13, 2) := by decide +kernel
theorem d2_199 : decode method_2_code 199 = .ok (.if_icmp .gt 5, 3) := by decide +kernel
theorem d2_202 : decode method_2_code 202 = .ok (.iconst 0, 1) := by decide +kernel
theorem d2_203 : decode method_2_code 203 = .ok (.ireturn, 1) := by decide +kernel
theorem d2_204 : decode method_2_code 204 = .ok (.iconst 1, 1) := by decide +kernel
theorem d2_205 : decode method_2_code 205 = .ok (.ireturn, 1) := by decide +kernel
theorem pd2 : parseMethodDescriptor "(I)Z" = some ⟨[.int], some .boolean⟩ := by decide +kernel
theorem pn2 : plainFor (⟨"shelfmark/XmlCharsIsNameStartPinLaw", "ref", "(I)Z"⟩ : MethodName) = true := by first | exact plainFor_of_name (by first | (simp [plainName, overriddenIn]; done) | decide +kernel) | decide +kernel
abbrev rm2 : Room := { frames := 0, cells := 0, slots := 0, locals := 0 }
abbrev Ok2 (G : Gx) (K : Kx) : Prop := Ok G K "shelfmark/XmlCharsIsNameStartPinLaw" method_2_code 1 (Option.some FieldType.boolean) rm2 "ref" 0 0
def m2_b10 : Int32 :=
  (0 : Int32)
theorem m2_t10 {G : Gx} {K : Kx} (O : Ok2 G K) (H : List Obj) : Run G K (some (.int (m2_b10))) H 10 [none] [] H 0 0 := by
  unfold m2_b10
  refine g_iconst O (pc' := 11) d2_10 (v := 0) (by decide) rfl ?_
  exact g_ret_nar O d2_11 (by simp) (by decide) rfl (by decide)
def m2_b71 : Int32 :=
  (0 : Int32)
theorem m2_t71 {G : Gx} {K : Kx} (O : Ok2 G K) (H : List Obj) : Run G K (some (.int (m2_b71))) H 71 [none] [] H 0 0 := by
  unfold m2_b71
  refine g_iconst O (pc' := 72) d2_71 (v := 0) (by decide) rfl ?_
  exact g_ret_nar O d2_72 (by simp) (by decide) rfl (by decide)
def m2_b204 : Int32 :=
  (1 : Int32)
theorem m2_t204 {G : Gx} {K : Kx} (O : Ok2 G K) (H : List Obj) : Run G K (some (.int (m2_b204))) H 204 [none] [] H 0 0 := by
  unfold m2_b204
  refine g_iconst O (pc' := 205) d2_204 (v := 1) (by decide) rfl ?_
  exact g_ret_nar O d2_205 (by simp) (by decide) rfl (by decide)
def m2_b190 (v0 : Int32) : Int32 :=
  if v0 < (65534 : Int32) then
    m2_b204
  else
    if (65535 : Int32) < v0 then
      m2_b204
    else
      (0 : Int32)
theorem m2_t190 {G : Gx} {K : Kx} (O : Ok2 G K) (v0 : Int32) (H : List Obj) : Run G K (some (.int (m2_b190 v0))) H 190 [some (.int v0)] [] H 0 0 := by
  unfold m2_b190
  refine g_iload_n O (pc' := 191) d2_190 (v := v0) rfl rfl ?_
  refine g_ldc O (pc' := 193) d2_191 tw19 rfl ?_
  refine g_icmp_lt O (pc' := 196) d2_193 rfl (by decide) (pc1 := 204) (by decide) (fun h193 => ?_) (fun h193 => ?_)
  · rw [if_pos h193]
    refine g_forget (Ls' := [none]) trivial ?_
    exact m2_t204 O H
  · rw [if_neg h193]
    refine g_iload_n O (pc' := 197) d2_196 (v := v0) rfl rfl ?_
    refine g_ldc O (pc' := 199) d2_197 tw29 rfl ?_
    refine g_icmp_gt O (pc' := 202) d2_199 rfl (by decide) (pc1 := 204) (by decide) (fun h199 => ?_) (fun h199 => ?_)
    · rw [if_pos h199]
      refine g_forget (Ls' := [none]) trivial ?_
      exact m2_t204 O H
    · rw [if_neg h199]
      refine g_iconst O (pc' := 203) d2_202 (v := 0) (by decide) rfl ?_
      exact g_ret_nar O d2_203 (by simp) (by decide) rfl (by decide)
def m2_b176 (v0 : Int32) : Int32 :=
  if v0 < (64976 : Int32) then
    m2_b190 v0
  else
    if (65007 : Int32) < v0 then
      m2_b190 v0
    else
      (0 : Int32)
theorem m2_t176 {G : Gx} {K : Kx} (O : Ok2 G K) (v0 : Int32) (H : List Obj) : Run G K (some (.int (m2_b176 v0))) H 176 [some (.int v0)] [] H 0 0 := by
  unfold m2_b176
  refine g_iload_n O (pc' := 177) d2_176 (v := v0) rfl rfl ?_
  refine g_ldc O (pc' := 179) d2_177 tw18 rfl ?_
  refine g_icmp_lt O (pc' := 182) d2_179 rfl (by decide) (pc1 := 190) (by decide) (fun h179 => ?_) (fun h179 => ?_)
  · rw [if_pos h179]
    exact m2_t190 O v0 H
  · rw [if_neg h179]
    refine g_iload_n O (pc' := 183) d2_182 (v := v0) rfl rfl ?_
    refine g_ldc O (pc' := 185) d2_183 tw28 rfl ?_
    refine g_icmp_gt O (pc' := 188) d2_185 rfl (by decide) (pc1 := 190) (by decide) (fun h185 => ?_) (fun h185 => ?_)
    · rw [if_pos h185]
      exact m2_t190 O v0 H
    · rw [if_neg h185]
      refine g_iconst O (pc' := 189) d2_188 (v := 0) (by decide) rfl ?_
      exact g_ret_nar O d2_189 (by simp) (by decide) rfl (by decide)
def m2_b162 (v0 : Int32) : Int32 :=
  if v0 < (55296 : Int32) then
    m2_b176 v0
  else
    if (63743 : Int32) < v0 then
      m2_b176 v0
    else
      (0 : Int32)
theorem m2_t162 {G : Gx} {K : Kx} (O : Ok2 G K) (v0 : Int32) (H : List Obj) : Run G K (some (.int (m2_b162 v0))) H 162 [some (.int v0)] [] H 0 0 := by
  unfold m2_b162
  refine g_iload_n O (pc' := 163) d2_162 (v := v0) rfl rfl ?_
  refine g_ldc O (pc' := 165) d2_163 tw17 rfl ?_
  refine g_icmp_lt O (pc' := 168) d2_165 rfl (by decide) (pc1 := 176) (by decide) (fun h165 => ?_) (fun h165 => ?_)
  · rw [if_pos h165]
    exact m2_t176 O v0 H
  · rw [if_neg h165]
    refine g_iload_n O (pc' := 169) d2_168 (v := v0) rfl rfl ?_
    refine g_ldc O (pc' := 171) d2_169 tw27 rfl ?_
    refine g_icmp_gt O (pc' := 174) d2_171 rfl (by decide) (pc1 := 176) (by decide) (fun h171 => ?_) (fun h171 => ?_)
    · rw [if_pos h171]
      exact m2_t176 O v0 H
    · rw [if_neg h171]
      refine g_iconst O (pc' := 175) d2_174 (v := 0) (by decide) rfl ?_
      exact g_ret_nar O d2_175 (by simp) (by decide) rfl (by decide)
def m2_b146 (v0 : Int32) : Int32 :=
  if v0 < (12272 : Int32) then
    m2_b162 v0
  else
    if (12288 : Int32) < v0 then
      m2_b162 v0
    else
      (0 : Int32)
theorem m2_t146 {G : Gx} {K : Kx} (O : Ok2 G K) (v0 : Int32) (H : List Obj) : Run G K (some (.int (m2_b146 v0))) H 146 [some (.int v0)] [] H 0 0 := by
  unfold m2_b146
  refine g_iload_n O (pc' := 147) d2_146 (v := v0) rfl rfl ?_
  refine g_sipush O (pc' := 150) d2_147 (v := 12272) (by decide) rfl ?_
  refine g_icmp_lt O (pc' := 153) d2_150 rfl (by decide) (pc1 := 162) (by decide) (fun h150 => ?_) (fun h150 => ?_)
  · rw [if_pos h150]
    exact m2_t162 O v0 H
  · rw [if_neg h150]
    refine g_iload_n O (pc' := 154) d2_153 (v := v0) rfl rfl ?_
    refine g_sipush O (pc' := 157) d2_154 (v := 12288) (by decide) rfl ?_
    refine g_icmp_gt O (pc' := 160) d2_157 rfl (by decide) (pc1 := 162) (by decide) (fun h157 => ?_) (fun h157 => ?_)
    · rw [if_pos h157]
      exact m2_t162 O v0 H
    · rw [if_neg h157]
      refine g_iconst O (pc' := 161) d2_160 (v := 0) (by decide) rfl ?_
      exact g_ret_nar O d2_161 (by simp) (by decide) rfl (by decide)
def m2_b130 (v0 : Int32) : Int32 :=
  if v0 < (8592 : Int32) then
    m2_b146 v0
  else
    if (11263 : Int32) < v0 then
      m2_b146 v0
    else
      (0 : Int32)
theorem m2_t130 {G : Gx} {K : Kx} (O : Ok2 G K) (v0 : Int32) (H : List Obj) : Run G K (some (.int (m2_b130 v0))) H 130 [some (.int v0)] [] H 0 0 := by
  unfold m2_b130
  refine g_iload_n O (pc' := 131) d2_130 (v := v0) rfl rfl ?_
  refine g_sipush O (pc' := 134) d2_131 (v := 8592) (by decide) rfl ?_
  refine g_icmp_lt O (pc' := 137) d2_134 rfl (by decide) (pc1 := 146) (by decide) (fun h134 => ?_) (fun h134 => ?_)
  · rw [if_pos h134]
    exact m2_t146 O v0 H
  · rw [if_neg h134]
    refine g_iload_n O (pc' := 138) d2_137 (v := v0) rfl rfl ?_
    refine g_sipush O (pc' := 141) d2_138 (v := 11263) (by decide) rfl ?_
    refine g_icmp_gt O (pc' := 144) d2_141 rfl (by decide) (pc1 := 146) (by decide) (fun h141 => ?_) (fun h141 => ?_)
    · rw [if_pos h141]
      exact m2_t146 O v0 H
    · rw [if_neg h141]
      refine g_iconst O (pc' := 145) d2_144 (v := 0) (by decide) rfl ?_
      exact g_ret_nar O d2_145 (by simp) (by decide) rfl (by decide)
def m2_b114 (v0 : Int32) : Int32 :=
  if v0 < (8206 : Int32) then
    m2_b130 v0
  else
    if (8303 : Int32) < v0 then
      m2_b130 v0
    else
      (0 : Int32)
theorem m2_t114 {G : Gx} {K : Kx} (O : Ok2 G K) (v0 : Int32) (H : List Obj) : Run G K (some (.int (m2_b114 v0))) H 114 [some (.int v0)] [] H 0 0 := by
  unfold m2_b114
  refine g_iload_n O (pc' := 115) d2_114 (v := v0) rfl rfl ?_
  refine g_sipush O (pc' := 118) d2_115 (v := 8206) (by decide) rfl ?_
  refine g_icmp_lt O (pc' := 121) d2_118 rfl (by decide) (pc1 := 130) (by decide) (fun h118 => ?_) (fun h118 => ?_)
  · rw [if_pos h118]
    exact m2_t130 O v0 H
  · rw [if_neg h118]
    refine g_iload_n O (pc' := 122) d2_121 (v := v0) rfl rfl ?_
    refine g_sipush O (pc' := 125) d2_122 (v := 8303) (by decide) rfl ?_
    refine g_icmp_gt O (pc' := 128) d2_125 rfl (by decide) (pc1 := 130) (by decide) (fun h125 => ?_) (fun h125 => ?_)
    · rw [if_pos h125]
      exact m2_t130 O v0 H
    · rw [if_neg h125]
      refine g_iconst O (pc' := 129) d2_128 (v := 0) (by decide) rfl ?_
      exact g_ret_nar O d2_129 (by simp) (by decide) rfl (by decide)
def m2_b89 (v0 : Int32) : Int32 :=
  if v0 = (894 : Int32) then
    (0 : Int32)
  else
    if v0 < (8192 : Int32) then
      m2_b114 v0
    else
      if (8203 : Int32) < v0 then
        m2_b114 v0
      else
        (0 : Int32)
theorem m2_t89 {G : Gx} {K : Kx} (O : Ok2 G K) (v0 : Int32) (H : List Obj) : Run G K (some (.int (m2_b89 v0))) H 89 [some (.int v0)] [] H 0 0 := by
  unfold m2_b89
  refine g_iload_n O (pc' := 90) d2_89 (v := v0) rfl rfl ?_
  refine g_sipush O (pc' := 93) d2_90 (v := 894) (by decide) rfl ?_
  refine g_icmp_ne O (pc' := 96) d2_93 rfl (by decide) (pc1 := 98) (by decide) (fun h93 => ?_) (fun h93 => ?_)
  · rw [if_neg h93]
    refine g_iload_n O (pc' := 99) d2_98 (v := v0) rfl rfl ?_
    refine g_sipush O (pc' := 102) d2_99 (v := 8192) (by decide) rfl ?_
    refine g_icmp_lt O (pc' := 105) d2_102 rfl (by decide) (pc1 := 114) (by decide) (fun h102 => ?_) (fun h102 => ?_)
    · rw [if_pos h102]
      exact m2_t114 O v0 H
    · rw [if_neg h102]
      refine g_iload_n O (pc' := 106) d2_105 (v := v0) rfl rfl ?_
      refine g_sipush O (pc' := 109) d2_106 (v := 8203) (by decide) rfl ?_
      refine g_icmp_gt O (pc' := 112) d2_109 rfl (by decide) (pc1 := 114) (by decide) (fun h109 => ?_) (fun h109 => ?_)
      · rw [if_pos h109]
        exact m2_t114 O v0 H
      · rw [if_neg h109]
        refine g_iconst O (pc' := 113) d2_112 (v := 0) (by decide) rfl ?_
        exact g_ret_nar O d2_113 (by simp) (by decide) rfl (by decide)
  · rw [if_pos h93]
    refine g_iconst O (pc' := 97) d2_96 (v := 0) (by decide) rfl ?_
    exact g_ret_nar O d2_97 (by simp) (by decide) rfl (by decide)
def m2_b57 (v0 : Int32) : Int32 :=
  if v0 = (215 : Int32) then
    m2_b71
  else
    if v0 = (247 : Int32) then
      m2_b71
    else
      if v0 < (768 : Int32) then
        m2_b89 v0
      else
        if (879 : Int32) < v0 then
          m2_b89 v0
        else
          (0 : Int32)
theorem m2_t57 {G : Gx} {K : Kx} (O : Ok2 G K) (v0 : Int32) (H : List Obj) : Run G K (some (.int (m2_b57 v0))) H 57 [some (.int v0)] [] H 0 0 := by
  unfold m2_b57
  refine g_iload_n O (pc' := 58) d2_57 (v := v0) rfl rfl ?_
  refine g_sipush O (pc' := 61) d2_58 (v := 215) (by decide) rfl ?_
  refine g_icmp_eq O (pc' := 64) d2_61 rfl (by decide) (pc1 := 71) (by decide) (fun h61 => ?_) (fun h61 => ?_)
  · rw [if_pos h61]
    refine g_forget (Ls' := [none]) trivial ?_
    exact m2_t71 O H
  · rw [if_neg h61]
    refine g_iload_n O (pc' := 65) d2_64 (v := v0) rfl rfl ?_
    refine g_sipush O (pc' := 68) d2_65 (v := 247) (by decide) rfl ?_
    refine g_icmp_ne O (pc' := 71) d2_68 rfl (by decide) (pc1 := 73) (by decide) (fun h68 => ?_) (fun h68 => ?_)
    · rw [if_neg h68]
      refine g_iload_n O (pc' := 74) d2_73 (v := v0) rfl rfl ?_
      refine g_sipush O (pc' := 77) d2_74 (v := 768) (by decide) rfl ?_
      refine g_icmp_lt O (pc' := 80) d2_77 rfl (by decide) (pc1 := 89) (by decide) (fun h77 => ?_) (fun h77 => ?_)
      · rw [if_pos h77]
        exact m2_t89 O v0 H
      · rw [if_neg h77]
        refine g_iload_n O (pc' := 81) d2_80 (v := v0) rfl rfl ?_
        refine g_sipush O (pc' := 84) d2_81 (v := 879) (by decide) rfl ?_
        refine g_icmp_gt O (pc' := 87) d2_84 rfl (by decide) (pc1 := 89) (by decide) (fun h84 => ?_) (fun h84 => ?_)
        · rw [if_pos h84]
          exact m2_t89 O v0 H
        · rw [if_neg h84]
          refine g_iconst O (pc' := 88) d2_87 (v := 0) (by decide) rfl ?_
          exact g_ret_nar O d2_88 (by simp) (by decide) rfl (by decide)
    · rw [if_pos h68]
      refine g_forget (Ls' := [none]) trivial ?_
      exact m2_t71 O H
def m2_b34 (v0 : Int32) : Int32 :=
  if v0 = (96 : Int32) then
    (0 : Int32)
  else
    if v0 < (123 : Int32) then
      m2_b57 v0
    else
      if (191 : Int32) < v0 then
        m2_b57 v0
      else
        (0 : Int32)
theorem m2_t34 {G : Gx} {K : Kx} (O : Ok2 G K) (v0 : Int32) (H : List Obj) : Run G K (some (.int (m2_b34 v0))) H 34 [some (.int v0)] [] H 0 0 := by
  unfold m2_b34
  refine g_iload_n O (pc' := 35) d2_34 (v := v0) rfl rfl ?_
  refine g_bipush O (pc' := 37) d2_35 (v := 96) (by decide) rfl ?_
  refine g_icmp_ne O (pc' := 40) d2_37 rfl (by decide) (pc1 := 42) (by decide) (fun h37 => ?_) (fun h37 => ?_)
  · rw [if_neg h37]
    refine g_iload_n O (pc' := 43) d2_42 (v := v0) rfl rfl ?_
    refine g_bipush O (pc' := 45) d2_43 (v := 123) (by decide) rfl ?_
    refine g_icmp_lt O (pc' := 48) d2_45 rfl (by decide) (pc1 := 57) (by decide) (fun h45 => ?_) (fun h45 => ?_)
    · rw [if_pos h45]
      exact m2_t57 O v0 H
    · rw [if_neg h45]
      refine g_iload_n O (pc' := 49) d2_48 (v := v0) rfl rfl ?_
      refine g_sipush O (pc' := 52) d2_49 (v := 191) (by decide) rfl ?_
      refine g_icmp_gt O (pc' := 55) d2_52 rfl (by decide) (pc1 := 57) (by decide) (fun h52 => ?_) (fun h52 => ?_)
      · rw [if_pos h52]
        exact m2_t57 O v0 H
      · rw [if_neg h52]
        refine g_iconst O (pc' := 56) d2_55 (v := 0) (by decide) rfl ?_
        exact g_ret_nar O d2_56 (by simp) (by decide) rfl (by decide)
  · rw [if_pos h37]
    refine g_iconst O (pc' := 41) d2_40 (v := 0) (by decide) rfl ?_
    exact g_ret_nar O d2_41 (by simp) (by decide) rfl (by decide)
def m2_b0 (v0 : Int32) : Int32 :=
  if v0 < 0 then
    m2_b10
  else
    if (983039 : Int32) < v0 then
      m2_b10
    else
      if (64 : Int32) < v0 then
        if v0 < (91 : Int32) then
          m2_b34 v0
        else
          if (94 : Int32) < v0 then
            m2_b34 v0
          else
            (0 : Int32)
      else
        (0 : Int32)
theorem m2_t0 {G : Gx} {K : Kx} (O : Ok2 G K) (v0 : Int32) (H : List Obj) : Run G K (some (.int (m2_b0 v0))) H 0 [some (.int v0)] [] H 0 0 := by
  unfold m2_b0
  refine g_iload_n O (pc' := 1) d2_0 (v := v0) rfl rfl ?_
  refine g_if_lt O (pc' := 4) d2_1 rfl (by decide) (pc1 := 10) (by decide) (fun h1 => ?_) (fun h1 => ?_)
  · rw [if_pos h1]
    refine g_forget (Ls' := [none]) trivial ?_
    exact m2_t10 O H
  · rw [if_neg h1]
    refine g_iload_n O (pc' := 5) d2_4 (v := v0) rfl rfl ?_
    refine g_ldc O (pc' := 7) d2_5 tw7 rfl ?_
    refine g_icmp_le O (pc' := 10) d2_7 rfl (by decide) (pc1 := 12) (by decide) (fun h7 => ?_) (fun h7 => ?_)
    · rw [if_neg h7]
      refine g_iload_n O (pc' := 13) d2_12 (v := v0) rfl rfl ?_
      refine g_bipush O (pc' := 15) d2_13 (v := 64) (by decide) rfl ?_
      refine g_icmp_gt O (pc' := 18) d2_15 rfl (by decide) (pc1 := 20) (by decide) (fun h15 => ?_) (fun h15 => ?_)
      · rw [if_pos h15]
        refine g_iload_n O (pc' := 21) d2_20 (v := v0) rfl rfl ?_
        refine g_bipush O (pc' := 23) d2_21 (v := 91) (by decide) rfl ?_
        refine g_icmp_lt O (pc' := 26) d2_23 rfl (by decide) (pc1 := 34) (by decide) (fun h23 => ?_) (fun h23 => ?_)
        · rw [if_pos h23]
          exact m2_t34 O v0 H
        · rw [if_neg h23]
          refine g_iload_n O (pc' := 27) d2_26 (v := v0) rfl rfl ?_
          refine g_bipush O (pc' := 29) d2_27 (v := 94) (by decide) rfl ?_
          refine g_icmp_gt O (pc' := 32) d2_29 rfl (by decide) (pc1 := 34) (by decide) (fun h29 => ?_) (fun h29 => ?_)
          · rw [if_pos h29]
            exact m2_t34 O v0 H
          · rw [if_neg h29]
            refine g_iconst O (pc' := 33) d2_32 (v := 0) (by decide) rfl ?_
            exact g_ret_nar O d2_33 (by simp) (by decide) rfl (by decide)
      · rw [if_neg h15]
        refine g_iconst O (pc' := 19) d2_18 (v := 0) (by decide) rfl ?_
        exact g_ret_nar O d2_19 (by simp) (by decide) rfl (by decide)
    · rw [if_pos h7]
      refine g_forget (Ls' := [none]) trivial ?_
      exact m2_t10 O H
abbrev m2 (v0 : Int32) : Int32 := m2_b0 v0
theorem con2 {G : Gx} (hw : ∀ d ∈ tables_1, d.before G.2.2.1 G.2.1 = true) (v0 : Int32) (H : List Obj) : Con G (⟨"shelfmark/XmlCharsIsNameStartPinLaw", "ref", "(I)Z"⟩ : MethodName) method_2_code 1 (Option.some FieldType.boolean) rm2 [(.int v0)] H (some (.int (m2 v0))) H :=
  con_of hw pn2 rfl fun K O => m2_t0 O v0 H

/-! body 0 -/
theorem pn0 : plainFor x = true := by first | exact plainFor_of_name (by first | (simp [plainName, overriddenIn]; done) | decide +kernel) | decide +kernel
abbrev Ok0 (G : Gx) (K : Kx) : Prop := Ok G K x.cls code maxLocals ret room_1 x.name 1 32
def m0_b276 (t0 : Int32) (H : List Obj) : Option (Int32 × List Obj) :=
  some ((nar .boolean t0), H)
theorem m0_t276 {G : Gx} {K : Kx} (O : Ok0 G K) (t0 : Int32) (H : List Obj) (r : Int32) (Hf : List Obj) (hf : m0_b276 t0 H = some (r, Hf)) : Run G K (some (.int r)) Hf 276 [none, none, none, none, none, none, none] [(.int t0)] H 1 32 := by
  unfold m0_b276 at hf
  cases hf
  exact g_ret_nar O at_276 (by simp) rfl rfl (by decide)
def m0_b275 (H : List Obj) : Option (Int32 × List Obj) :=
  m0_b276 (0 : Int32) H
theorem m0_t275 {G : Gx} {K : Kx} (O : Ok0 G K) (H : List Obj) (r : Int32) (Hf : List Obj) (hf : m0_b275 H = some (r, Hf)) : Run G K (some (.int r)) Hf 275 [none, none, none, none, none, none, none] [] H 1 32 := by
  unfold m0_b275 at hf
  refine g_iconst O (pc' := 276) at_275 (v := 0) (by decide) rfl ?_
  exact m0_t276 O (0 : Int32) H _ _ hf
def m0_b259 (v5 : Int32) (t0 : Int32) (H : List Obj) : Option (Int32 × List Obj) :=
  if v5 = 0 then
    m0_b275 H
  else
    if t0 = 0 then
      m0_b275 H
    else
      m0_b276 (1 : Int32) H
theorem m0_t259 {G : Gx} {K : Kx} (O : Ok0 G K) (v5 : Int32) (t0 : Int32) (H : List Obj) (r : Int32) (Hf : List Obj) (hf : m0_b259 v5 t0 H = some (r, Hf)) : Run G K (some (.int r)) Hf 259 [none, none, none, none, none, some (.int v5), none] [(.int t0)] H 1 32 := by
  unfold m0_b259 at hf
  refine g_istore O (pc' := 261) at_259 (Ls' := [none, none, none, none, none, some (.int v5), some (.int t0)]) rfl rfl ?_
  refine g_iload O (pc' := 263) at_261 (v := v5) rfl rfl ?_
  refine g_if_eq O (pc' := 266) at_263 rfl (by decide) (pc1 := 275) (by decide) (fun h263 => ?_) (fun h263 => ?_)
  · rw [if_pos h263] at hf
    refine g_forget (Ls' := [none, none, none, none, none, none, none]) trivial ?_
    exact m0_t275 O H _ _ hf
  · rw [if_neg h263] at hf
    refine g_iload O (pc' := 268) at_266 (v := t0) rfl rfl ?_
    refine g_if_eq O (pc' := 271) at_268 rfl (by decide) (pc1 := 275) (by decide) (fun h268 => ?_) (fun h268 => ?_)
    · rw [if_pos h268] at hf
      refine g_forget (Ls' := [none, none, none, none, none, none, none]) trivial ?_
      exact m0_t275 O H _ _ hf
    · rw [if_neg h268] at hf
      refine g_iconst O (pc' := 272) at_271 (v := 1) (by decide) rfl ?_
      refine g_goto O at_272 (by decide) (pc' := 276) (by decide) ?_
      refine g_forget (Ls' := [none, none, none, none, none, none, none]) trivial ?_
      exact m0_t276 O (1 : Int32) H _ _ hf
def m0_b239 (v4 : Int32) (t0 : Int32) (H : List Obj) : Option (Int32 × List Obj) :=
  if (m1 v4) = (m2 v4) then
    m0_b259 t0 (1 : Int32) H
  else
    m0_b259 t0 (0 : Int32) H
theorem m0_t239 {G : Gx} {K : Kx} (O : Ok0 G K) (v4 : Int32) (t0 : Int32) (H : List Obj) (r : Int32) (Hf : List Obj) (hf : m0_b239 v4 t0 H = some (r, Hf)) : Run G K (some (.int r)) Hf 239 [none, none, none, none, some (.int v4), none, none] [(.int t0)] H 1 32 := by
  unfold m0_b239 at hf
  refine g_istore O (pc' := 241) at_239 (Ls' := [none, none, none, none, some (.int v4), some (.int t0), none]) rfl rfl ?_
  refine g_iload O (pc' := 243) at_241 (v := v4) rfl rfl ?_
  refine g_static1 O (pc' := 246) at_243 tw9 tw10 tw11 tw12 (by decide) pd1 (as := [(.int v4)]) rfl (st := []) rfl rfl (W := 0) rfl (rm := rm1) (by decide) (by decide) (c2 := 1) (s2 := 32) rfl rfl (by decide) (by decide) (con1 (Ok.w O) v4 H) rfl ?_
  refine g_iload O (pc' := 248) at_246 (v := v4) rfl rfl ?_
  refine g_static1 O (pc' := 251) at_248 tw13 tw14 tw15 tw16 (by decide) pd2 (as := [(.int v4)]) rfl (st := [(.int (m1 v4))]) rfl rfl (W := 1) rfl (rm := rm2) (by decide) (by decide) (c2 := 1) (s2 := 32) rfl rfl (by decide) (by decide) (con2 (Ok.w O) v4 H) rfl ?_
  refine g_icmp_ne O (pc' := 254) at_251 rfl (by decide) (pc1 := 258) (by decide) (fun h251 => ?_) (fun h251 => ?_)
  · rw [if_neg h251] at hf
    refine g_iconst O (pc' := 259) at_258 (v := 0) (by decide) rfl ?_
    refine g_forget (Ls' := [none, none, none, none, none, some (.int t0), none]) (And.intro rfl trivial) ?_
    exact m0_t259 O t0 (0 : Int32) H _ _ hf
  · rw [if_pos h251] at hf
    refine g_iconst O (pc' := 255) at_254 (v := 1) (by decide) rfl ?_
    refine g_goto O at_255 (by decide) (pc' := 259) (by decide) ?_
    refine g_forget (Ls' := [none, none, none, none, none, some (.int t0), none]) (And.intro rfl trivial) ?_
    exact m0_t259 O t0 (1 : Int32) H _ _ hf
def m0_b0 (v0 : Int32) (v1 : Int32) (v2 : Int32) (H : List Obj) : Option (Int32 × List Obj) :=
  (mkArr .int 32 H (32 : Int32)).bind fun H2 =>
  (wr .int H2 (H.length) (0 : Int32) (.int (0 : Int32))).bind fun H7 =>
  (wr .int H7 (H.length) (1 : Int32) (.int (58 : Int32))).bind fun H12 =>
  (wr .int H12 (H.length) (2 : Int32) (.int (65 : Int32))).bind fun H17 =>
  (wr .int H17 (H.length) (3 : Int32) (.int (90 : Int32))).bind fun H22 =>
  (wr .int H22 (H.length) (4 : Int32) (.int (95 : Int32))).bind fun H27 =>
  (wr .int H27 (H.length) (5 : Int32) (.int (97 : Int32))).bind fun H32 =>
  (wr .int H32 (H.length) (6 : Int32) (.int (122 : Int32))).bind fun H38 =>
  (wr .int H38 (H.length) (7 : Int32) (.int (128 : Int32))).bind fun H45 =>
  (wr .int H45 (H.length) (8 : Int32) (.int (192 : Int32))).bind fun H52 =>
  (wr .int H52 (H.length) (9 : Int32) (.int (214 : Int32))).bind fun H59 =>
  (wr .int H59 (H.length) (10 : Int32) (.int (216 : Int32))).bind fun H66 =>
  (wr .int H66 (H.length) (11 : Int32) (.int (246 : Int32))).bind fun H73 =>
  (wr .int H73 (H.length) (12 : Int32) (.int (248 : Int32))).bind fun H80 =>
  (wr .int H80 (H.length) (13 : Int32) (.int (767 : Int32))).bind fun H87 =>
  (wr .int H87 (H.length) (14 : Int32) (.int (880 : Int32))).bind fun H94 =>
  (wr .int H94 (H.length) (15 : Int32) (.int (893 : Int32))).bind fun H101 =>
  (wr .int H101 (H.length) (16 : Int32) (.int (895 : Int32))).bind fun H108 =>
  (wr .int H108 (H.length) (17 : Int32) (.int (8191 : Int32))).bind fun H115 =>
  (wr .int H115 (H.length) (18 : Int32) (.int (8204 : Int32))).bind fun H122 =>
  (wr .int H122 (H.length) (19 : Int32) (.int (8205 : Int32))).bind fun H129 =>
  (wr .int H129 (H.length) (20 : Int32) (.int (8304 : Int32))).bind fun H136 =>
  (wr .int H136 (H.length) (21 : Int32) (.int (8591 : Int32))).bind fun H143 =>
  (wr .int H143 (H.length) (22 : Int32) (.int (11264 : Int32))).bind fun H150 =>
  (wr .int H150 (H.length) (23 : Int32) (.int (12271 : Int32))).bind fun H157 =>
  (wr .int H157 (H.length) (24 : Int32) (.int (12289 : Int32))).bind fun H164 =>
  (wr .int H164 (H.length) (25 : Int32) (.int (55295 : Int32))).bind fun H170 =>
  (wr .int H170 (H.length) (26 : Int32) (.int (63744 : Int32))).bind fun H176 =>
  (wr .int H176 (H.length) (27 : Int32) (.int (64975 : Int32))).bind fun H182 =>
  (wr .int H182 (H.length) (28 : Int32) (.int (65008 : Int32))).bind fun H188 =>
  (wr .int H188 (H.length) (29 : Int32) (.int (65533 : Int32))).bind fun H194 =>
  (wr .int H194 (H.length) (30 : Int32) (.int (65536 : Int32))).bind fun H200 =>
  (wr .int H200 (H.length) (31 : Int32) (.int (983039 : Int32))).bind fun H206 =>
  (alen H206 (H.length)).bind fun x214 =>
  if x214 = 0 then none else
  (rdI .int H206 (H.length) ((v1 &&& (2147483647 : Int32)) % x214)).bind fun x216 =>
  if (m1 v0) = (m2 v0) then
    m0_b239 (x216 + (v2 % (3 : Int32))) (1 : Int32) H206
  else
    m0_b239 (x216 + (v2 % (3 : Int32))) (0 : Int32) H206
theorem m0_t0 {G : Gx} {K : Kx} (O : Ok0 G K) (v0 : Int32) (v1 : Int32) (v2 : Int32) (H : List Obj) (r : Int32) (Hf : List Obj) (hf : m0_b0 v0 v1 v2 H = some (r, Hf)) : Run G K (some (.int r)) Hf 0 [some (.int v0), some (.int v1), some (.int v2), none, none, none, none] [] H 0 0 := by
  unfold m0_b0 at hf
  refine g_bipush O (pc' := 2) at_0 (v := 32) (by decide) rfl ?_
  obtain ⟨H2, h2, hf⟩ := bnd hf
  refine g_newarray O (pc' := 4) at_2 (cap := 32) tw0 h2 (by decide) (c2 := 1) (s2 := 32) rfl rfl (by decide) (by decide) rfl ?_
  refine g_dup O (pc' := 5) at_4 rfl rfl ?_
  refine g_iconst O (pc' := 6) at_5 (v := 0) (by decide) rfl ?_
  refine g_iconst O (pc' := 7) at_6 (v := 0) (by decide) rfl ?_
  obtain ⟨H7, h7, hf⟩ := bnd hf
  refine g_iastore O (pc' := 8) at_7 h7 rfl ?_
  refine g_dup O (pc' := 9) at_8 rfl rfl ?_
  refine g_iconst O (pc' := 10) at_9 (v := 1) (by decide) rfl ?_
  refine g_bipush O (pc' := 12) at_10 (v := 58) (by decide) rfl ?_
  obtain ⟨H12, h12, hf⟩ := bnd hf
  refine g_iastore O (pc' := 13) at_12 h12 rfl ?_
  refine g_dup O (pc' := 14) at_13 rfl rfl ?_
  refine g_iconst O (pc' := 15) at_14 (v := 2) (by decide) rfl ?_
  refine g_bipush O (pc' := 17) at_15 (v := 65) (by decide) rfl ?_
  obtain ⟨H17, h17, hf⟩ := bnd hf
  refine g_iastore O (pc' := 18) at_17 h17 rfl ?_
  refine g_dup O (pc' := 19) at_18 rfl rfl ?_
  refine g_iconst O (pc' := 20) at_19 (v := 3) (by decide) rfl ?_
  refine g_bipush O (pc' := 22) at_20 (v := 90) (by decide) rfl ?_
  obtain ⟨H22, h22, hf⟩ := bnd hf
  refine g_iastore O (pc' := 23) at_22 h22 rfl ?_
  refine g_dup O (pc' := 24) at_23 rfl rfl ?_
  refine g_iconst O (pc' := 25) at_24 (v := 4) (by decide) rfl ?_
  refine g_bipush O (pc' := 27) at_25 (v := 95) (by decide) rfl ?_
  obtain ⟨H27, h27, hf⟩ := bnd hf
  refine g_iastore O (pc' := 28) at_27 h27 rfl ?_
  refine g_dup O (pc' := 29) at_28 rfl rfl ?_
  refine g_iconst O (pc' := 30) at_29 (v := 5) (by decide) rfl ?_
  refine g_bipush O (pc' := 32) at_30 (v := 97) (by decide) rfl ?_
  obtain ⟨H32, h32, hf⟩ := bnd hf
  refine g_iastore O (pc' := 33) at_32 h32 rfl ?_
  refine g_dup O (pc' := 34) at_33 rfl rfl ?_
  refine g_bipush O (pc' := 36) at_34 (v := 6) (by decide) rfl ?_
  refine g_bipush O (pc' := 38) at_36 (v := 122) (by decide) rfl ?_
  obtain ⟨H38, h38, hf⟩ := bnd hf
  refine g_iastore O (pc' := 39) at_38 h38 rfl ?_
  refine g_dup O (pc' := 40) at_39 rfl rfl ?_
  refine g_bipush O (pc' := 42) at_40 (v := 7) (by decide) rfl ?_
  refine g_sipush O (pc' := 45) at_42 (v := 128) (by decide) rfl ?_
  obtain ⟨H45, h45, hf⟩ := bnd hf
  refine g_iastore O (pc' := 46) at_45 h45 rfl ?_
  refine g_dup O (pc' := 47) at_46 rfl rfl ?_
  refine g_bipush O (pc' := 49) at_47 (v := 8) (by decide) rfl ?_
  refine g_sipush O (pc' := 52) at_49 (v := 192) (by decide) rfl ?_
  obtain ⟨H52, h52, hf⟩ := bnd hf
  refine g_iastore O (pc' := 53) at_52 h52 rfl ?_
  refine g_dup O (pc' := 54) at_53 rfl rfl ?_
  refine g_bipush O (pc' := 56) at_54 (v := 9) (by decide) rfl ?_
  refine g_sipush O (pc' := 59) at_56 (v := 214) (by decide) rfl ?_
  obtain ⟨H59, h59, hf⟩ := bnd hf
  refine g_iastore O (pc' := 60) at_59 h59 rfl ?_
  refine g_dup O (pc' := 61) at_60 rfl rfl ?_
  refine g_bipush O (pc' := 63) at_61 (v := 10) (by decide) rfl ?_
  refine g_sipush O (pc' := 66) at_63 (v := 216) (by decide) rfl ?_
  obtain ⟨H66, h66, hf⟩ := bnd hf
  refine g_iastore O (pc' := 67) at_66 h66 rfl ?_
  refine g_dup O (pc' := 68) at_67 rfl rfl ?_
  refine g_bipush O (pc' := 70) at_68 (v := 11) (by decide) rfl ?_
  refine g_sipush O (pc' := 73) at_70 (v := 246) (by decide) rfl ?_
  obtain ⟨H73, h73, hf⟩ := bnd hf
  refine g_iastore O (pc' := 74) at_73 h73 rfl ?_
  refine g_dup O (pc' := 75) at_74 rfl rfl ?_
  refine g_bipush O (pc' := 77) at_75 (v := 12) (by decide) rfl ?_
  refine g_sipush O (pc' := 80) at_77 (v := 248) (by decide) rfl ?_
  obtain ⟨H80, h80, hf⟩ := bnd hf
  refine g_iastore O (pc' := 81) at_80 h80 rfl ?_
  refine g_dup O (pc' := 82) at_81 rfl rfl ?_
  refine g_bipush O (pc' := 84) at_82 (v := 13) (by decide) rfl ?_
  refine g_sipush O (pc' := 87) at_84 (v := 767) (by decide) rfl ?_
  obtain ⟨H87, h87, hf⟩ := bnd hf
  refine g_iastore O (pc' := 88) at_87 h87 rfl ?_
  refine g_dup O (pc' := 89) at_88 rfl rfl ?_
  refine g_bipush O (pc' := 91) at_89 (v := 14) (by decide) rfl ?_
  refine g_sipush O (pc' := 94) at_91 (v := 880) (by decide) rfl ?_
  obtain ⟨H94, h94, hf⟩ := bnd hf
  refine g_iastore O (pc' := 95) at_94 h94 rfl ?_
  refine g_dup O (pc' := 96) at_95 rfl rfl ?_
  refine g_bipush O (pc' := 98) at_96 (v := 15) (by decide) rfl ?_
  refine g_sipush O (pc' := 101) at_98 (v := 893) (by decide) rfl ?_
  obtain ⟨H101, h101, hf⟩ := bnd hf
  refine g_iastore O (pc' := 102) at_101 h101 rfl ?_
  refine g_dup O (pc' := 103) at_102 rfl rfl ?_
  refine g_bipush O (pc' := 105) at_103 (v := 16) (by decide) rfl ?_
  refine g_sipush O (pc' := 108) at_105 (v := 895) (by decide) rfl ?_
  obtain ⟨H108, h108, hf⟩ := bnd hf
  refine g_iastore O (pc' := 109) at_108 h108 rfl ?_
  refine g_dup O (pc' := 110) at_109 rfl rfl ?_
  refine g_bipush O (pc' := 112) at_110 (v := 17) (by decide) rfl ?_
  refine g_sipush O (pc' := 115) at_112 (v := 8191) (by decide) rfl ?_
  obtain ⟨H115, h115, hf⟩ := bnd hf
  refine g_iastore O (pc' := 116) at_115 h115 rfl ?_
  refine g_dup O (pc' := 117) at_116 rfl rfl ?_
  refine g_bipush O (pc' := 119) at_117 (v := 18) (by decide) rfl ?_
  refine g_sipush O (pc' := 122) at_119 (v := 8204) (by decide) rfl ?_
  obtain ⟨H122, h122, hf⟩ := bnd hf
  refine g_iastore O (pc' := 123) at_122 h122 rfl ?_
  refine g_dup O (pc' := 124) at_123 rfl rfl ?_
  refine g_bipush O (pc' := 126) at_124 (v := 19) (by decide) rfl ?_
  refine g_sipush O (pc' := 129) at_126 (v := 8205) (by decide) rfl ?_
  obtain ⟨H129, h129, hf⟩ := bnd hf
  refine g_iastore O (pc' := 130) at_129 h129 rfl ?_
  refine g_dup O (pc' := 131) at_130 rfl rfl ?_
  refine g_bipush O (pc' := 133) at_131 (v := 20) (by decide) rfl ?_
  refine g_sipush O (pc' := 136) at_133 (v := 8304) (by decide) rfl ?_
  obtain ⟨H136, h136, hf⟩ := bnd hf
  refine g_iastore O (pc' := 137) at_136 h136 rfl ?_
  refine g_dup O (pc' := 138) at_137 rfl rfl ?_
  refine g_bipush O (pc' := 140) at_138 (v := 21) (by decide) rfl ?_
  refine g_sipush O (pc' := 143) at_140 (v := 8591) (by decide) rfl ?_
  obtain ⟨H143, h143, hf⟩ := bnd hf
  refine g_iastore O (pc' := 144) at_143 h143 rfl ?_
  refine g_dup O (pc' := 145) at_144 rfl rfl ?_
  refine g_bipush O (pc' := 147) at_145 (v := 22) (by decide) rfl ?_
  refine g_sipush O (pc' := 150) at_147 (v := 11264) (by decide) rfl ?_
  obtain ⟨H150, h150, hf⟩ := bnd hf
  refine g_iastore O (pc' := 151) at_150 h150 rfl ?_
  refine g_dup O (pc' := 152) at_151 rfl rfl ?_
  refine g_bipush O (pc' := 154) at_152 (v := 23) (by decide) rfl ?_
  refine g_sipush O (pc' := 157) at_154 (v := 12271) (by decide) rfl ?_
  obtain ⟨H157, h157, hf⟩ := bnd hf
  refine g_iastore O (pc' := 158) at_157 h157 rfl ?_
  refine g_dup O (pc' := 159) at_158 rfl rfl ?_
  refine g_bipush O (pc' := 161) at_159 (v := 24) (by decide) rfl ?_
  refine g_sipush O (pc' := 164) at_161 (v := 12289) (by decide) rfl ?_
  obtain ⟨H164, h164, hf⟩ := bnd hf
  refine g_iastore O (pc' := 165) at_164 h164 rfl ?_
  refine g_dup O (pc' := 166) at_165 rfl rfl ?_
  refine g_bipush O (pc' := 168) at_166 (v := 25) (by decide) rfl ?_
  refine g_ldc O (pc' := 170) at_168 tw1 rfl ?_
  obtain ⟨H170, h170, hf⟩ := bnd hf
  refine g_iastore O (pc' := 171) at_170 h170 rfl ?_
  refine g_dup O (pc' := 172) at_171 rfl rfl ?_
  refine g_bipush O (pc' := 174) at_172 (v := 26) (by decide) rfl ?_
  refine g_ldc O (pc' := 176) at_174 tw2 rfl ?_
  obtain ⟨H176, h176, hf⟩ := bnd hf
  refine g_iastore O (pc' := 177) at_176 h176 rfl ?_
  refine g_dup O (pc' := 178) at_177 rfl rfl ?_
  refine g_bipush O (pc' := 180) at_178 (v := 27) (by decide) rfl ?_
  refine g_ldc O (pc' := 182) at_180 tw3 rfl ?_
  obtain ⟨H182, h182, hf⟩ := bnd hf
  refine g_iastore O (pc' := 183) at_182 h182 rfl ?_
  refine g_dup O (pc' := 184) at_183 rfl rfl ?_
  refine g_bipush O (pc' := 186) at_184 (v := 28) (by decide) rfl ?_
  refine g_ldc O (pc' := 188) at_186 tw4 rfl ?_
  obtain ⟨H188, h188, hf⟩ := bnd hf
  refine g_iastore O (pc' := 189) at_188 h188 rfl ?_
  refine g_dup O (pc' := 190) at_189 rfl rfl ?_
  refine g_bipush O (pc' := 192) at_190 (v := 29) (by decide) rfl ?_
  refine g_ldc O (pc' := 194) at_192 tw5 rfl ?_
  obtain ⟨H194, h194, hf⟩ := bnd hf
  refine g_iastore O (pc' := 195) at_194 h194 rfl ?_
  refine g_dup O (pc' := 196) at_195 rfl rfl ?_
  refine g_bipush O (pc' := 198) at_196 (v := 30) (by decide) rfl ?_
  refine g_ldc O (pc' := 200) at_198 tw6 rfl ?_
  obtain ⟨H200, h200, hf⟩ := bnd hf
  refine g_iastore O (pc' := 201) at_200 h200 rfl ?_
  refine g_dup O (pc' := 202) at_201 rfl rfl ?_
  refine g_bipush O (pc' := 204) at_202 (v := 31) (by decide) rfl ?_
  refine g_ldc O (pc' := 206) at_204 tw7 rfl ?_
  obtain ⟨H206, h206, hf⟩ := bnd hf
  refine g_iastore O (pc' := 207) at_206 h206 rfl ?_
  refine g_astore_n O (pc' := 208) at_207 (Ls' := [some (.int v0), some (.int v1), some (.int v2), some (.ref (H.length)), none, none, none]) rfl rfl ?_
  refine g_aload_n O (pc' := 209) at_208 (v := (H.length)) rfl rfl ?_
  refine g_iload_n O (pc' := 210) at_209 (v := v1) rfl rfl ?_
  refine g_ldc O (pc' := 212) at_210 tw8 rfl ?_
  refine g_iand O (pc' := 213) at_212 rfl ?_
  refine g_aload_n O (pc' := 214) at_213 (v := (H.length)) rfl rfl ?_
  obtain ⟨x214, h214, hf⟩ := bnd hf
  refine g_arraylength O (pc' := 215) at_214 h214 rfl ?_
  by_cases h215 : x214 = 0
  · rw [if_pos h215] at hf; cases hf
  rw [if_neg h215] at hf
  refine g_irem O (pc' := 216) at_215 h215 rfl ?_
  obtain ⟨x216, h216, hf⟩ := bnd hf
  refine g_iaload O (pc' := 217) at_216 h216 rfl ?_
  refine g_iload_n O (pc' := 218) at_217 (v := v2) rfl rfl ?_
  refine g_iconst O (pc' := 219) at_218 (v := 3) (by decide) rfl ?_
  refine g_irem O (pc' := 220) at_219 (by decide) rfl ?_
  refine g_iadd O (pc' := 221) at_220 rfl ?_
  refine g_istore O (pc' := 223) at_221 (Ls' := [some (.int v0), some (.int v1), some (.int v2), some (.ref (H.length)), some (.int (x216 + (v2 % (3 : Int32)))), none, none]) rfl rfl ?_
  refine g_iload_n O (pc' := 224) at_223 (v := v0) rfl rfl ?_
  refine g_static1 O (pc' := 227) at_224 tw9 tw10 tw11 tw12 (by decide) pd1 (as := [(.int v0)]) rfl (st := []) rfl rfl (W := 0) rfl (rm := rm1) (by decide) (by decide) (c2 := 1) (s2 := 32) rfl rfl (by decide) (by decide) (con1 (Ok.w O) v0 H206) rfl ?_
  refine g_iload_n O (pc' := 228) at_227 (v := v0) rfl rfl ?_
  refine g_static1 O (pc' := 231) at_228 tw13 tw14 tw15 tw16 (by decide) pd2 (as := [(.int v0)]) rfl (st := [(.int (m1 v0))]) rfl rfl (W := 1) rfl (rm := rm2) (by decide) (by decide) (c2 := 1) (s2 := 32) rfl rfl (by decide) (by decide) (con2 (Ok.w O) v0 H206) rfl ?_
  refine g_icmp_ne O (pc' := 234) at_231 rfl (by decide) (pc1 := 238) (by decide) (fun h231 => ?_) (fun h231 => ?_)
  · rw [if_neg h231] at hf
    refine g_iconst O (pc' := 239) at_238 (v := 0) (by decide) rfl ?_
    refine g_forget (Ls' := [none, none, none, none, some (.int (x216 + (v2 % (3 : Int32)))), none, none]) (And.intro rfl trivial) ?_
    exact m0_t239 O (x216 + (v2 % (3 : Int32))) (0 : Int32) H206 _ _ hf
  · rw [if_pos h231] at hf
    refine g_iconst O (pc' := 235) at_234 (v := 1) (by decide) rfl ?_
    refine g_goto O at_235 (by decide) (pc' := 239) (by decide) ?_
    refine g_forget (Ls' := [none, none, none, none, some (.int (x216 + (v2 % (3 : Int32)))), none, none]) (And.intro rfl trivial) ?_
    exact m0_t239 O (x216 + (v2 % (3 : Int32))) (1 : Int32) H206 _ _ hf
abbrev m0 (v0 : Int32) (v1 : Int32) (v2 : Int32) (H : List Obj) : Option (Int32 × List Obj) := m0_b0 v0 v1 v2 H

theorem own_rng {c lo hi f : Int32} {P : Prop} [Decidable P] (h : f = if P then 1 else 0) : (if c < lo then f else if hi < c then f else 1) = if (lo.toInt ≤ c.toInt ∧ c.toInt ≤ hi.toInt) ∨ P then 1 else 0 := by
  by_cases h1 : c < lo
  · rw [if_pos h1, h]; rw [own_lt] at h1
    by_cases p : P
    · rw [if_pos p, if_pos (Or.inr p)]
    · rw [if_neg p, if_neg (fun q => q.elim (fun q => by omega) p)]
  · rw [if_neg h1]; rw [own_lt] at h1
    by_cases h2 : hi < c
    · rw [if_pos h2, h]; rw [own_lt] at h2
      by_cases p : P
      · rw [if_pos p, if_pos (Or.inr p)]
      · rw [if_neg p, if_neg (fun q => q.elim (fun q => by omega) p)]
    · rw [if_neg h2]; rw [own_lt] at h2; rw [if_pos (Or.inl ⟨by omega, by omega⟩)]
theorem own_exc {c lo hi f : Int32} {P : Prop} [Decidable P] (h : f = if P then 1 else 0) : (if c < lo then f else if hi < c then f else 0) = if ¬ (lo.toInt ≤ c.toInt ∧ c.toInt ≤ hi.toInt) ∧ P then 1 else 0 := by
  by_cases h1 : c < lo
  · rw [if_pos h1, h]; rw [own_lt] at h1
    by_cases p : P
    · rw [if_pos p, if_pos ⟨by omega, p⟩]
    · rw [if_neg p, if_neg (fun q => p q.2)]
  · rw [if_neg h1]; rw [own_lt] at h1
    by_cases h2 : hi < c
    · rw [if_pos h2, h]; rw [own_lt] at h2
      by_cases p : P
      · rw [if_pos p, if_pos ⟨by omega, p⟩]
      · rw [if_neg p, if_neg (fun q => p q.2)]
    · rw [if_neg h2]; rw [own_lt] at h2; rw [if_neg (fun q => q.1 ⟨by omega, by omega⟩)]
theorem own_exe {c k f : Int32} {P : Prop} [Decidable P] (h : f = if P then 1 else 0) : (if c = k then 0 else f) = if ¬ c.toInt = k.toInt ∧ P then 1 else 0 := by
  by_cases h1 : c = k
  · rw [if_pos h1]; rw [own_eq] at h1; rw [if_neg (fun q => q.1 h1)]
  · rw [if_neg h1, h]; rw [own_eq] at h1
    by_cases p : P
    · rw [if_pos p, if_pos ⟨h1, p⟩]
    · rw [if_neg p, if_neg (fun q => p q.2)]
theorem own_a192 (c : Int32) : m1_b192 c = if (((65536 : Int32).toInt ≤ c.toInt ∧ c.toInt ≤ (983039 : Int32).toInt) ∨ False) then 1 else 0 := own_rng (c := c) (lo := 65536) (hi := 983039) (show (0 : Int32) = if False then 1 else 0 from rfl)
theorem own_a180 (c : Int32) : m1_b180 c = if (((65008 : Int32).toInt ≤ c.toInt ∧ c.toInt ≤ (65533 : Int32).toInt) ∨ (((65536 : Int32).toInt ≤ c.toInt ∧ c.toInt ≤ (983039 : Int32).toInt) ∨ False)) then 1 else 0 := own_rng (c := c) (lo := 65008) (hi := 65533) (own_a192 c)
theorem own_a168 (c : Int32) : m1_b168 c = if (((63744 : Int32).toInt ≤ c.toInt ∧ c.toInt ≤ (64975 : Int32).toInt) ∨ (((65008 : Int32).toInt ≤ c.toInt ∧ c.toInt ≤ (65533 : Int32).toInt) ∨ (((65536 : Int32).toInt ≤ c.toInt ∧ c.toInt ≤ (983039 : Int32).toInt) ∨ False))) then 1 else 0 := own_rng (c := c) (lo := 63744) (hi := 64975) (own_a180 c)
theorem own_a155 (c : Int32) : m1_b155 c = if (((12289 : Int32).toInt ≤ c.toInt ∧ c.toInt ≤ (55295 : Int32).toInt) ∨ (((63744 : Int32).toInt ≤ c.toInt ∧ c.toInt ≤ (64975 : Int32).toInt) ∨ (((65008 : Int32).toInt ≤ c.toInt ∧ c.toInt ≤ (65533 : Int32).toInt) ∨ (((65536 : Int32).toInt ≤ c.toInt ∧ c.toInt ≤ (983039 : Int32).toInt) ∨ False)))) then 1 else 0 := own_rng (c := c) (lo := 12289) (hi := 55295) (own_a168 c)
theorem own_a141 (c : Int32) : m1_b141 c = if (((11264 : Int32).toInt ≤ c.toInt ∧ c.toInt ≤ (12271 : Int32).toInt) ∨ (((12289 : Int32).toInt ≤ c.toInt ∧ c.toInt ≤ (55295 : Int32).toInt) ∨ (((63744 : Int32).toInt ≤ c.toInt ∧ c.toInt ≤ (64975 : Int32).toInt) ∨ (((65008 : Int32).toInt ≤ c.toInt ∧ c.toInt ≤ (65533 : Int32).toInt) ∨ (((65536 : Int32).toInt ≤ c.toInt ∧ c.toInt ≤ (983039 : Int32).toInt) ∨ False))))) then 1 else 0 := own_rng (c := c) (lo := 11264) (hi := 12271) (own_a155 c)
theorem own_a127 (c : Int32) : m1_b127 c = if (((8304 : Int32).toInt ≤ c.toInt ∧ c.toInt ≤ (8591 : Int32).toInt) ∨ (((11264 : Int32).toInt ≤ c.toInt ∧ c.toInt ≤ (12271 : Int32).toInt) ∨ (((12289 : Int32).toInt ≤ c.toInt ∧ c.toInt ≤ (55295 : Int32).toInt) ∨ (((63744 : Int32).toInt ≤ c.toInt ∧ c.toInt ≤ (64975 : Int32).toInt) ∨ (((65008 : Int32).toInt ≤ c.toInt ∧ c.toInt ≤ (65533 : Int32).toInt) ∨ (((65536 : Int32).toInt ≤ c.toInt ∧ c.toInt ≤ (983039 : Int32).toInt) ∨ False)))))) then 1 else 0 := own_rng (c := c) (lo := 8304) (hi := 8591) (own_a141 c)
theorem own_a113 (c : Int32) : m1_b113 c = if (((8204 : Int32).toInt ≤ c.toInt ∧ c.toInt ≤ (8205 : Int32).toInt) ∨ (((8304 : Int32).toInt ≤ c.toInt ∧ c.toInt ≤ (8591 : Int32).toInt) ∨ (((11264 : Int32).toInt ≤ c.toInt ∧ c.toInt ≤ (12271 : Int32).toInt) ∨ (((12289 : Int32).toInt ≤ c.toInt ∧ c.toInt ≤ (55295 : Int32).toInt) ∨ (((63744 : Int32).toInt ≤ c.toInt ∧ c.toInt ≤ (64975 : Int32).toInt) ∨ (((65008 : Int32).toInt ≤ c.toInt ∧ c.toInt ≤ (65533 : Int32).toInt) ∨ (((65536 : Int32).toInt ≤ c.toInt ∧ c.toInt ≤ (983039 : Int32).toInt) ∨ False))))))) then 1 else 0 := own_rng (c := c) (lo := 8204) (hi := 8205) (own_a127 c)
theorem own_a99 (c : Int32) : m1_b99 c = if (((895 : Int32).toInt ≤ c.toInt ∧ c.toInt ≤ (8191 : Int32).toInt) ∨ (((8204 : Int32).toInt ≤ c.toInt ∧ c.toInt ≤ (8205 : Int32).toInt) ∨ (((8304 : Int32).toInt ≤ c.toInt ∧ c.toInt ≤ (8591 : Int32).toInt) ∨ (((11264 : Int32).toInt ≤ c.toInt ∧ c.toInt ≤ (12271 : Int32).toInt) ∨ (((12289 : Int32).toInt ≤ c.toInt ∧ c.toInt ≤ (55295 : Int32).toInt) ∨ (((63744 : Int32).toInt ≤ c.toInt ∧ c.toInt ≤ (64975 : Int32).toInt) ∨ (((65008 : Int32).toInt ≤ c.toInt ∧ c.toInt ≤ (65533 : Int32).toInt) ∨ (((65536 : Int32).toInt ≤ c.toInt ∧ c.toInt ≤ (983039 : Int32).toInt) ∨ False)))))))) then 1 else 0 := own_rng (c := c) (lo := 895) (hi := 8191) (own_a113 c)
theorem own_a85 (c : Int32) : m1_b85 c = if (((880 : Int32).toInt ≤ c.toInt ∧ c.toInt ≤ (893 : Int32).toInt) ∨ (((895 : Int32).toInt ≤ c.toInt ∧ c.toInt ≤ (8191 : Int32).toInt) ∨ (((8204 : Int32).toInt ≤ c.toInt ∧ c.toInt ≤ (8205 : Int32).toInt) ∨ (((8304 : Int32).toInt ≤ c.toInt ∧ c.toInt ≤ (8591 : Int32).toInt) ∨ (((11264 : Int32).toInt ≤ c.toInt ∧ c.toInt ≤ (12271 : Int32).toInt) ∨ (((12289 : Int32).toInt ≤ c.toInt ∧ c.toInt ≤ (55295 : Int32).toInt) ∨ (((63744 : Int32).toInt ≤ c.toInt ∧ c.toInt ≤ (64975 : Int32).toInt) ∨ (((65008 : Int32).toInt ≤ c.toInt ∧ c.toInt ≤ (65533 : Int32).toInt) ∨ (((65536 : Int32).toInt ≤ c.toInt ∧ c.toInt ≤ (983039 : Int32).toInt) ∨ False))))))))) then 1 else 0 := own_rng (c := c) (lo := 880) (hi := 893) (own_a99 c)
theorem own_a71 (c : Int32) : m1_b71 c = if (((248 : Int32).toInt ≤ c.toInt ∧ c.toInt ≤ (767 : Int32).toInt) ∨ (((880 : Int32).toInt ≤ c.toInt ∧ c.toInt ≤ (893 : Int32).toInt) ∨ (((895 : Int32).toInt ≤ c.toInt ∧ c.toInt ≤ (8191 : Int32).toInt) ∨ (((8204 : Int32).toInt ≤ c.toInt ∧ c.toInt ≤ (8205 : Int32).toInt) ∨ (((8304 : Int32).toInt ≤ c.toInt ∧ c.toInt ≤ (8591 : Int32).toInt) ∨ (((11264 : Int32).toInt ≤ c.toInt ∧ c.toInt ≤ (12271 : Int32).toInt) ∨ (((12289 : Int32).toInt ≤ c.toInt ∧ c.toInt ≤ (55295 : Int32).toInt) ∨ (((63744 : Int32).toInt ≤ c.toInt ∧ c.toInt ≤ (64975 : Int32).toInt) ∨ (((65008 : Int32).toInt ≤ c.toInt ∧ c.toInt ≤ (65533 : Int32).toInt) ∨ (((65536 : Int32).toInt ≤ c.toInt ∧ c.toInt ≤ (983039 : Int32).toInt) ∨ False)))))))))) then 1 else 0 := own_rng (c := c) (lo := 248) (hi := 767) (own_a85 c)
theorem own_a57 (c : Int32) : m1_b57 c = if (((216 : Int32).toInt ≤ c.toInt ∧ c.toInt ≤ (246 : Int32).toInt) ∨ (((248 : Int32).toInt ≤ c.toInt ∧ c.toInt ≤ (767 : Int32).toInt) ∨ (((880 : Int32).toInt ≤ c.toInt ∧ c.toInt ≤ (893 : Int32).toInt) ∨ (((895 : Int32).toInt ≤ c.toInt ∧ c.toInt ≤ (8191 : Int32).toInt) ∨ (((8204 : Int32).toInt ≤ c.toInt ∧ c.toInt ≤ (8205 : Int32).toInt) ∨ (((8304 : Int32).toInt ≤ c.toInt ∧ c.toInt ≤ (8591 : Int32).toInt) ∨ (((11264 : Int32).toInt ≤ c.toInt ∧ c.toInt ≤ (12271 : Int32).toInt) ∨ (((12289 : Int32).toInt ≤ c.toInt ∧ c.toInt ≤ (55295 : Int32).toInt) ∨ (((63744 : Int32).toInt ≤ c.toInt ∧ c.toInt ≤ (64975 : Int32).toInt) ∨ (((65008 : Int32).toInt ≤ c.toInt ∧ c.toInt ≤ (65533 : Int32).toInt) ∨ (((65536 : Int32).toInt ≤ c.toInt ∧ c.toInt ≤ (983039 : Int32).toInt) ∨ False))))))))))) then 1 else 0 := own_rng (c := c) (lo := 216) (hi := 246) (own_a71 c)
theorem own_a31 (c : Int32) : m1_b31 c = if c.toInt = (95 : Int32).toInt then 1 else 0 := by
  unfold m1_b31
  by_cases h : c = 95
  · rw [if_pos h]; rw [own_eq] at h; rw [if_pos h]; rfl
  · rw [if_neg h]; rw [own_eq] at h; rw [if_neg h]; rfl
theorem own_a19 (c : Int32) : m1_b19 c = if (((97 : Int32).toInt ≤ c.toInt ∧ c.toInt ≤ (122 : Int32).toInt) ∨ c.toInt = (95 : Int32).toInt) then 1 else 0 := own_rng (c := c) (lo := 97) (hi := 122) (own_a31 c)
theorem own_lo (c : Int32) : (if c < 65 then m1_b19 c else if 90 < c then m1_b19 c else m1_b37) = if (((65 : Int32).toInt ≤ c.toInt ∧ c.toInt ≤ (90 : Int32).toInt) ∨ (((97 : Int32).toInt ≤ c.toInt ∧ c.toInt ≤ (122 : Int32).toInt) ∨ c.toInt = (95 : Int32).toInt)) then 1 else 0 := own_rng (c := c) (lo := 65) (hi := 90) (own_a19 c)
theorem own_hi (c : Int32) : (if c < 192 then m1_b57 c else if 214 < c then m1_b57 c else m1_b204) = if (((192 : Int32).toInt ≤ c.toInt ∧ c.toInt ≤ (214 : Int32).toInt) ∨ (((216 : Int32).toInt ≤ c.toInt ∧ c.toInt ≤ (246 : Int32).toInt) ∨ (((248 : Int32).toInt ≤ c.toInt ∧ c.toInt ≤ (767 : Int32).toInt) ∨ (((880 : Int32).toInt ≤ c.toInt ∧ c.toInt ≤ (893 : Int32).toInt) ∨ (((895 : Int32).toInt ≤ c.toInt ∧ c.toInt ≤ (8191 : Int32).toInt) ∨ (((8204 : Int32).toInt ≤ c.toInt ∧ c.toInt ≤ (8205 : Int32).toInt) ∨ (((8304 : Int32).toInt ≤ c.toInt ∧ c.toInt ≤ (8591 : Int32).toInt) ∨ (((11264 : Int32).toInt ≤ c.toInt ∧ c.toInt ≤ (12271 : Int32).toInt) ∨ (((12289 : Int32).toInt ≤ c.toInt ∧ c.toInt ≤ (55295 : Int32).toInt) ∨ (((63744 : Int32).toInt ≤ c.toInt ∧ c.toInt ≤ (64975 : Int32).toInt) ∨ (((65008 : Int32).toInt ≤ c.toInt ∧ c.toInt ≤ (65533 : Int32).toInt) ∨ (((65536 : Int32).toInt ≤ c.toInt ∧ c.toInt ≤ (983039 : Int32).toInt) ∨ False)))))))))))) then 1 else 0 := own_rng (c := c) (lo := 192) (hi := 214) (own_a57 c)
theorem own_e190 (c : Int32) : m2_b190 c = if (¬ ((65534 : Int32).toInt ≤ c.toInt ∧ c.toInt ≤ (65535 : Int32).toInt) ∧ True) then 1 else 0 := own_exc (c := c) (lo := 65534) (hi := 65535) (show (1 : Int32) = if True then 1 else 0 from rfl)
theorem own_e176 (c : Int32) : m2_b176 c = if (¬ ((64976 : Int32).toInt ≤ c.toInt ∧ c.toInt ≤ (65007 : Int32).toInt) ∧ (¬ ((65534 : Int32).toInt ≤ c.toInt ∧ c.toInt ≤ (65535 : Int32).toInt) ∧ True)) then 1 else 0 := own_exc (c := c) (lo := 64976) (hi := 65007) (own_e190 c)
theorem own_e162 (c : Int32) : m2_b162 c = if (¬ ((55296 : Int32).toInt ≤ c.toInt ∧ c.toInt ≤ (63743 : Int32).toInt) ∧ (¬ ((64976 : Int32).toInt ≤ c.toInt ∧ c.toInt ≤ (65007 : Int32).toInt) ∧ (¬ ((65534 : Int32).toInt ≤ c.toInt ∧ c.toInt ≤ (65535 : Int32).toInt) ∧ True))) then 1 else 0 := own_exc (c := c) (lo := 55296) (hi := 63743) (own_e176 c)
theorem own_e146 (c : Int32) : m2_b146 c = if (¬ ((12272 : Int32).toInt ≤ c.toInt ∧ c.toInt ≤ (12288 : Int32).toInt) ∧ (¬ ((55296 : Int32).toInt ≤ c.toInt ∧ c.toInt ≤ (63743 : Int32).toInt) ∧ (¬ ((64976 : Int32).toInt ≤ c.toInt ∧ c.toInt ≤ (65007 : Int32).toInt) ∧ (¬ ((65534 : Int32).toInt ≤ c.toInt ∧ c.toInt ≤ (65535 : Int32).toInt) ∧ True)))) then 1 else 0 := own_exc (c := c) (lo := 12272) (hi := 12288) (own_e162 c)
theorem own_e130 (c : Int32) : m2_b130 c = if (¬ ((8592 : Int32).toInt ≤ c.toInt ∧ c.toInt ≤ (11263 : Int32).toInt) ∧ (¬ ((12272 : Int32).toInt ≤ c.toInt ∧ c.toInt ≤ (12288 : Int32).toInt) ∧ (¬ ((55296 : Int32).toInt ≤ c.toInt ∧ c.toInt ≤ (63743 : Int32).toInt) ∧ (¬ ((64976 : Int32).toInt ≤ c.toInt ∧ c.toInt ≤ (65007 : Int32).toInt) ∧ (¬ ((65534 : Int32).toInt ≤ c.toInt ∧ c.toInt ≤ (65535 : Int32).toInt) ∧ True))))) then 1 else 0 := own_exc (c := c) (lo := 8592) (hi := 11263) (own_e146 c)
theorem own_e114 (c : Int32) : m2_b114 c = if (¬ ((8206 : Int32).toInt ≤ c.toInt ∧ c.toInt ≤ (8303 : Int32).toInt) ∧ (¬ ((8592 : Int32).toInt ≤ c.toInt ∧ c.toInt ≤ (11263 : Int32).toInt) ∧ (¬ ((12272 : Int32).toInt ≤ c.toInt ∧ c.toInt ≤ (12288 : Int32).toInt) ∧ (¬ ((55296 : Int32).toInt ≤ c.toInt ∧ c.toInt ≤ (63743 : Int32).toInt) ∧ (¬ ((64976 : Int32).toInt ≤ c.toInt ∧ c.toInt ≤ (65007 : Int32).toInt) ∧ (¬ ((65534 : Int32).toInt ≤ c.toInt ∧ c.toInt ≤ (65535 : Int32).toInt) ∧ True)))))) then 1 else 0 := own_exc (c := c) (lo := 8206) (hi := 8303) (own_e130 c)
theorem own_e89 (c : Int32) : m2_b89 c = if (¬ c.toInt = (894 : Int32).toInt ∧ (¬ ((8192 : Int32).toInt ≤ c.toInt ∧ c.toInt ≤ (8203 : Int32).toInt) ∧ (¬ ((8206 : Int32).toInt ≤ c.toInt ∧ c.toInt ≤ (8303 : Int32).toInt) ∧ (¬ ((8592 : Int32).toInt ≤ c.toInt ∧ c.toInt ≤ (11263 : Int32).toInt) ∧ (¬ ((12272 : Int32).toInt ≤ c.toInt ∧ c.toInt ≤ (12288 : Int32).toInt) ∧ (¬ ((55296 : Int32).toInt ≤ c.toInt ∧ c.toInt ≤ (63743 : Int32).toInt) ∧ (¬ ((64976 : Int32).toInt ≤ c.toInt ∧ c.toInt ≤ (65007 : Int32).toInt) ∧ (¬ ((65534 : Int32).toInt ≤ c.toInt ∧ c.toInt ≤ (65535 : Int32).toInt) ∧ True)))))))) then 1 else 0 := own_exe (c := c) (k := 894) (own_exc (c := c) (lo := 8192) (hi := 8203) (own_e114 c))
theorem own_e57 (c : Int32) : m2_b57 c = if (¬ c.toInt = (215 : Int32).toInt ∧ (¬ c.toInt = (247 : Int32).toInt ∧ (¬ ((768 : Int32).toInt ≤ c.toInt ∧ c.toInt ≤ (879 : Int32).toInt) ∧ (¬ c.toInt = (894 : Int32).toInt ∧ (¬ ((8192 : Int32).toInt ≤ c.toInt ∧ c.toInt ≤ (8203 : Int32).toInt) ∧ (¬ ((8206 : Int32).toInt ≤ c.toInt ∧ c.toInt ≤ (8303 : Int32).toInt) ∧ (¬ ((8592 : Int32).toInt ≤ c.toInt ∧ c.toInt ≤ (11263 : Int32).toInt) ∧ (¬ ((12272 : Int32).toInt ≤ c.toInt ∧ c.toInt ≤ (12288 : Int32).toInt) ∧ (¬ ((55296 : Int32).toInt ≤ c.toInt ∧ c.toInt ≤ (63743 : Int32).toInt) ∧ (¬ ((64976 : Int32).toInt ≤ c.toInt ∧ c.toInt ≤ (65007 : Int32).toInt) ∧ (¬ ((65534 : Int32).toInt ≤ c.toInt ∧ c.toInt ≤ (65535 : Int32).toInt) ∧ True))))))))))) then 1 else 0 := own_exe (c := c) (k := 215) (own_exe (c := c) (k := 247) (own_exc (c := c) (lo := 768) (hi := 879) (own_e89 c)))
theorem own_e34 (c : Int32) : m2_b34 c = if (¬ c.toInt = (96 : Int32).toInt ∧ (¬ ((123 : Int32).toInt ≤ c.toInt ∧ c.toInt ≤ (191 : Int32).toInt) ∧ (¬ c.toInt = (215 : Int32).toInt ∧ (¬ c.toInt = (247 : Int32).toInt ∧ (¬ ((768 : Int32).toInt ≤ c.toInt ∧ c.toInt ≤ (879 : Int32).toInt) ∧ (¬ c.toInt = (894 : Int32).toInt ∧ (¬ ((8192 : Int32).toInt ≤ c.toInt ∧ c.toInt ≤ (8203 : Int32).toInt) ∧ (¬ ((8206 : Int32).toInt ≤ c.toInt ∧ c.toInt ≤ (8303 : Int32).toInt) ∧ (¬ ((8592 : Int32).toInt ≤ c.toInt ∧ c.toInt ≤ (11263 : Int32).toInt) ∧ (¬ ((12272 : Int32).toInt ≤ c.toInt ∧ c.toInt ≤ (12288 : Int32).toInt) ∧ (¬ ((55296 : Int32).toInt ≤ c.toInt ∧ c.toInt ≤ (63743 : Int32).toInt) ∧ (¬ ((64976 : Int32).toInt ≤ c.toInt ∧ c.toInt ≤ (65007 : Int32).toInt) ∧ (¬ ((65534 : Int32).toInt ≤ c.toInt ∧ c.toInt ≤ (65535 : Int32).toInt) ∧ True))))))))))))) then 1 else 0 := own_exe (c := c) (k := 96) (own_exc (c := c) (lo := 123) (hi := 191) (own_e57 c))
theorem own_e65 (c : Int32) : (if c < 91 then m2_b34 c else if 94 < c then m2_b34 c else 0) = if (¬ ((91 : Int32).toInt ≤ c.toInt ∧ c.toInt ≤ (94 : Int32).toInt) ∧ (¬ c.toInt = (96 : Int32).toInt ∧ (¬ ((123 : Int32).toInt ≤ c.toInt ∧ c.toInt ≤ (191 : Int32).toInt) ∧ (¬ c.toInt = (215 : Int32).toInt ∧ (¬ c.toInt = (247 : Int32).toInt ∧ (¬ ((768 : Int32).toInt ≤ c.toInt ∧ c.toInt ≤ (879 : Int32).toInt) ∧ (¬ c.toInt = (894 : Int32).toInt ∧ (¬ ((8192 : Int32).toInt ≤ c.toInt ∧ c.toInt ≤ (8203 : Int32).toInt) ∧ (¬ ((8206 : Int32).toInt ≤ c.toInt ∧ c.toInt ≤ (8303 : Int32).toInt) ∧ (¬ ((8592 : Int32).toInt ≤ c.toInt ∧ c.toInt ≤ (11263 : Int32).toInt) ∧ (¬ ((12272 : Int32).toInt ≤ c.toInt ∧ c.toInt ≤ (12288 : Int32).toInt) ∧ (¬ ((55296 : Int32).toInt ≤ c.toInt ∧ c.toInt ≤ (63743 : Int32).toInt) ∧ (¬ ((64976 : Int32).toInt ≤ c.toInt ∧ c.toInt ≤ (65007 : Int32).toInt) ∧ (¬ ((65534 : Int32).toInt ≤ c.toInt ∧ c.toInt ≤ (65535 : Int32).toInt) ∧ True)))))))))))))) then 1 else 0 := own_exc (c := c) (lo := 91) (hi := 94) (own_e34 c)
theorem own_eqf (c : Int32) : m1 c = m2 c := by
  have y0 : (0 : Int32).toInt = 0 := by decide
  have y64 : (64 : Int32).toInt = 64 := by decide
  have y65 : (65 : Int32).toInt = 65 := by decide
  have y90 : (90 : Int32).toInt = 90 := by decide
  have y91 : (91 : Int32).toInt = 91 := by decide
  have y94 : (94 : Int32).toInt = 94 := by decide
  have y95 : (95 : Int32).toInt = 95 := by decide
  have y96 : (96 : Int32).toInt = 96 := by decide
  have y97 : (97 : Int32).toInt = 97 := by decide
  have y122 : (122 : Int32).toInt = 122 := by decide
  have y123 : (123 : Int32).toInt = 123 := by decide
  have y128 : (128 : Int32).toInt = 128 := by decide
  have y191 : (191 : Int32).toInt = 191 := by decide
  have y192 : (192 : Int32).toInt = 192 := by decide
  have y214 : (214 : Int32).toInt = 214 := by decide
  have y215 : (215 : Int32).toInt = 215 := by decide
  have y216 : (216 : Int32).toInt = 216 := by decide
  have y246 : (246 : Int32).toInt = 246 := by decide
  have y247 : (247 : Int32).toInt = 247 := by decide
  have y248 : (248 : Int32).toInt = 248 := by decide
  have y767 : (767 : Int32).toInt = 767 := by decide
  have y768 : (768 : Int32).toInt = 768 := by decide
  have y879 : (879 : Int32).toInt = 879 := by decide
  have y880 : (880 : Int32).toInt = 880 := by decide
  have y893 : (893 : Int32).toInt = 893 := by decide
  have y894 : (894 : Int32).toInt = 894 := by decide
  have y895 : (895 : Int32).toInt = 895 := by decide
  have y8191 : (8191 : Int32).toInt = 8191 := by decide
  have y8192 : (8192 : Int32).toInt = 8192 := by decide
  have y8203 : (8203 : Int32).toInt = 8203 := by decide
  have y8204 : (8204 : Int32).toInt = 8204 := by decide
  have y8205 : (8205 : Int32).toInt = 8205 := by decide
  have y8206 : (8206 : Int32).toInt = 8206 := by decide
  have y8303 : (8303 : Int32).toInt = 8303 := by decide
  have y8304 : (8304 : Int32).toInt = 8304 := by decide
  have y8591 : (8591 : Int32).toInt = 8591 := by decide
  have y8592 : (8592 : Int32).toInt = 8592 := by decide
  have y11263 : (11263 : Int32).toInt = 11263 := by decide
  have y11264 : (11264 : Int32).toInt = 11264 := by decide
  have y12271 : (12271 : Int32).toInt = 12271 := by decide
  have y12272 : (12272 : Int32).toInt = 12272 := by decide
  have y12288 : (12288 : Int32).toInt = 12288 := by decide
  have y12289 : (12289 : Int32).toInt = 12289 := by decide
  have y55295 : (55295 : Int32).toInt = 55295 := by decide
  have y55296 : (55296 : Int32).toInt = 55296 := by decide
  have y63743 : (63743 : Int32).toInt = 63743 := by decide
  have y63744 : (63744 : Int32).toInt = 63744 := by decide
  have y64975 : (64975 : Int32).toInt = 64975 := by decide
  have y64976 : (64976 : Int32).toInt = 64976 := by decide
  have y65007 : (65007 : Int32).toInt = 65007 := by decide
  have y65008 : (65008 : Int32).toInt = 65008 := by decide
  have y65533 : (65533 : Int32).toInt = 65533 := by decide
  have y65534 : (65534 : Int32).toInt = 65534 := by decide
  have y65535 : (65535 : Int32).toInt = 65535 := by decide
  have y65536 : (65536 : Int32).toInt = 65536 := by decide
  have y983039 : (983039 : Int32).toInt = 983039 := by decide
  show m1_b0 c = m2_b0 c
  unfold m1_b0 m2_b0
  rw [own_lo, own_hi, own_e65]
  simp only [own_lt, and_true, or_false, y0, y64, y65, y90, y91, y94, y95, y96, y97, y122, y123, y128, y191, y192, y214, y215, y216, y246, y247, y248, y767, y768, y879, y880, y893, y894, y895, y8191, y8192, y8203, y8204, y8205, y8206, y8303, y8304, y8591, y8592, y11263, y11264, y12271, y12272, y12288, y12289, y55295, y55296, y63743, y63744, y64975, y64976, y65007, y65008, y65533, y65534, y65535, y65536, y983039]
  show _ = if c.toInt < 0 then (0 : Int32) else if 983039 < c.toInt then (0 : Int32) else _
  repeat' split
  all_goals first | rfl | (exfalso; omega)

theorem own_k (a : Int32) : ∃ j : Fin 32, (a &&& 2147483647) % 32 = (j.1).toInt32 := by
  have h1 := own_m31 a
  have h2 := own_mod (a := a &&& 2147483647) (y := 32) (d := 32) (by decide) (by omega)
  exact own_fin (by omega) (by omega) (by decide)
abbrev tab : List Int32 := [0, 58, 65, 90, 95, 97, 122, 128, 192, 214, 216, 246, 248, 767, 880, 893, 895, 8191, 8204, 8205, 8304, 8591, 11264, 12271, 12289, 55295, 63744, 64975, 65008, 65533, 65536, 983039]
theorem own_t : ∀ j : Fin 32, (rdI .int [.inl (.int, tab.map Value.int)] 0 (j.1).toInt32).isSome = true := by decide +kernel
theorem plain (i0 : Int32) (i1 : Int32) (i2 : Int32) : ∃ Hf, m0 i0 i1 i2 [] = some (1, Hf) := by
  have e : m0 i0 i1 i2 [] = ((rdI .int [.inl (.int, tab.map Value.int)] 0 ((i1 &&& 2147483647) % 32)).bind fun x216 => if (m1 i0) = (m2 i0) then m0_b239 (x216 + (i2 % (3 : Int32))) (1 : Int32) [.inl (.int, tab.map Value.int)] else m0_b239 (x216 + (i2 % (3 : Int32))) (0 : Int32) [.inl (.int, tab.map Value.int)]) := rfl
  obtain ⟨j, hj⟩ := own_k i1
  obtain ⟨x, hx⟩ := Option.isSome_iff_exists.mp (own_t j)
  rw [e, hj, hx, Option.bind_some, if_pos (own_eqf _)]
  unfold m0_b239
  rw [if_pos (own_eqf _)]
  exact ⟨_, rfl⟩

theorem comes_1 {Post : Tables → Env → Array Value → State → Outcome → State → Prop} (hpost : ∀ tb e args s v u, (limb_1_1.after args s (.returned v) u = true ∧ limb_1_2.after args s (.returned v) u = true ∧ True) → FrameEnd s (.returned v) u (Jvm.fieldLocs frame_1_writes args s ++ Jvm.arrayLocs frame_1_arrays args s ++ Jvm.staticLocs frame_1_statics s) 16 128 → Post tb e args s (.returned v) u) :
    ArmFor flags0 classFile x code maxLocals ret World_1 tables_1 room_1 Calls_1 rest_1 Pre_1 Post := by
  intro l hfl _ _ p e ha hc hk s m args below hf hA hF happ hP
  obtain ⟨hcalls, hrest, hpre⟩ := hP
  obtain ⟨-, -, -, hnamed, -, -, -, hat⟩ := (Spec.applies_iff hf).mp happ
  obtain ⟨hg, hn⟩ := and_e (Cond.before_iff.mp (show (Jvm.Cond.and given_1 narrow_1).before args s = true from hpre))
  obtain ⟨h1, g0⟩ := and_e hg
  obtain ⟨w0, w1, w2, rfl⟩ : ∃ w0 w1 w2 : Value, args = #[w0, w1, w2] := by
    have hs : args.size = 3 := by simpa [Cond.value, given_1] using h1
    obtain ⟨L⟩ := args
    match L, hs with
    | [w0, w1, w2], _ => exact ⟨w0, w1, w2, rfl⟩
  have hw := fun d (hd : d ∈ tables_1) => atoms_spec (ws := Jvm.Cond.code x code maxLocals ret :: tables_1) hat d (List.mem_cons_of_mem _ hd)
  obtain ⟨a0, g1⟩ := and_e g0
  obtain ⟨i0, e0⟩ := is_v a0
  obtain rfl : w0 = (.int i0) := Option.some.inj e0
  obtain ⟨a1, g2⟩ := and_e g1
  obtain ⟨i1, e1⟩ := is_v a1
  obtain rfl : w1 = (.int i1) := Option.some.inj e1
  obtain ⟨i2, e2⟩ := is_v g2
  obtain rfl : w2 = (.int i2) := Option.some.inj e2
  obtain ⟨Hf, hlaw⟩ := plain i0 i1 i2
  obtain ⟨n, o, h1, h2, h3, _, L, rfl, ⟨rfl, N⟩, hq⟩ := law_of (l := l) (s := s) (as := [(.int i0), (.int i1), (.int i2)]) (k0 := 1) (k1 := 32) hw pn0 rfl rfl (fun K O => m0_t0 O i0 i1 i2 [] 1 Hf hlaw) p e ha hc hk s m _ below hf ((Spec.applies_iff_loose hf).mp happ).1 ⟨rfl, State.Warmed39.refl s, rfl⟩ trivial
  refine ⟨n, _, h1, h2, h3, hpost _ _ _ _ _ _ ⟨Cond.after_iff.mpr rfl, Cond.after_iff.mpr (eq_i res_at (Term.int_eval (1)) rfl), trivial⟩ ⟨hq.1, hq.2.1, (hq.2.2.sift fun y hy => Or.inr (N y hy)).mono (by decide) (by decide)⟩⟩
theorem main_1_1 : Claimed_1_1 := comes_1 fun _ _ _ _ _ _ h hF => ⟨h.1, hF⟩
theorem main_1_2 : Claimed_1_2 := comes_1 fun _ _ _ _ _ _ h hF => ⟨h.2.1, hF⟩
end Jvm.Pilot.@@N@@
namespace Jvm.Pilot.@@N@@
open Jvm Jvm.ClassFile Sem Op Lib Jvm.Free Jvm.Stand Jvm.Pilot.@@N@@.Jvm.D
/-! MADE BY PROGRAM (witnessworld.py) out of the Statement's table words and the real class files: 9 classes; the members and pool entries that the words name. The judged class is class 1, her method 2. -/
namespace start1
open Jvm.ClassFile
def u (s : String) : CpInfo := .utf8 (stringToUtf16 s)
/-- a pool by its gaps: so many unusable entries, then the entry; so many at the end -/
def gap : Nat → List CpInfo → List CpInfo
  | 0, r => r
  | n + 1, r => .unusable :: gap n r
def poolList (es : List (Nat × CpInfo)) (last : Nat) : List CpInfo := es.foldr (fun e r => gap e.1 (e.2 :: r)) (gap last [])
def pool (es : List (Nat × CpInfo)) (last : Nat) : Array CpInfo := ⟨poolList es last⟩
def fileOf (pool : Array CpInfo) (this : Nat) (attrs : Array Attribute := #[]) (ms : Array MethodInfo := #[]) (fl : Nat := 33) (sup : Nat := 0) (ifs : Array Nat := #[]) (fds : Array FieldInfo := #[]) : ClassFile where
  minorVersion := 0
  majorVersion := 65
  constantPool := pool
  accessFlags := fl
  thisClass := this
  superClass := sup
  interfaces := ifs
  fields := fds
  methods := ms
  attributes := attrs
def plain (name : String) (sup : Option ClassId) : Class where
  name := name
  kind := .ordinary
  loader := none
  accessFlags := 33
  super := sup
  interfaces := #[]
  cf := none
  fields := #[]
  methods := #[]
  instanceTypes := #[]
  staticTypes := #[]
  resolved := #[]
  callSites := []
  init := .initialized
  statics := none
  mirror := none

def pool0 : Array CpInfo := pool [(5, u "<init>"), (0, u "()V"), (1, .class_ 10), (1, u "java/lang/Object")] 113

def k0m0 : Method := { name := "<init>", desc := "()V", sig := { parameters := [], returnType := none }, accessFlags := 1, code := none }
/-- java/lang/Object -/
def k0 : Class := { plain "java/lang/Object" none with
  accessFlags := 33
  interfaces := #[]
  cf := some (fileOf pool0 8 #[] #[{ accessFlags := 1, nameIndex := 5, descriptorIndex := 6, attributes := #[] }] 33 0 #[] #[])
  fields := #[]
  methods := #[k0m0]
  instanceTypes := #[]
  staticTypes := #[]
  resolved := Array.replicate 124 none
  statics := none }

def pool1 : Array CpInfo := pool [(2, .class_ 4), (1, u "java/lang/Object"), (0, u "<init>"), (0, u "()V"), (0, .integer 983039), (0, .integer 55296), (0, .integer 63743), (0, .integer 64976), (0, .integer 65007), (0, .integer 65534), (0, .integer 65535), (0, .integer 55295), (0, .integer 63744), (0, .integer 64975), (0, .integer 65008), (0, .integer 65533), (0, .integer 65536), (0, .integer 2147483647), (0, .methodref 22 23), (0, .class_ 24), (0, .nameAndType 25 26), (0, u "shelfmark/XmlChars"), (0, u "isNameStart"), (0, u "(I)Z"), (0, .methodref 28 29), (0, .class_ 30), (0, .nameAndType 31 26), (0, u "shelfmark/XmlCharsIsNameStartPinLaw"), (0, u "ref"), (3, u "law"), (0, u "(III)Z")] 4

def k1m0 : Method := { name := "<init>", desc := "()V", sig := { parameters := [], returnType := none }, accessFlags := 2, code := none }
def k1c1 : Code := { maxStack := 2, maxLocals := 1, code := method_2_code, exceptionTable := #[], attributes := #[] }
def k1m1 : Method := { name := "ref", desc := "(I)Z", sig := { parameters := [.int], returnType := some .boolean }, accessFlags := 10, code := some k1c1 }
def k1c2 : Code := { maxStack := 4, maxLocals := 7, code := code, exceptionTable := #[], attributes := #[] }
def k1m2 : Method := { name := "law", desc := "(III)Z", sig := { parameters := [.int, .int, .int], returnType := some .boolean }, accessFlags := 9, code := some k1c2 }
/-- shelfmark/XmlCharsIsNameStartPinLaw -/
def k1 : Class := { plain "shelfmark/XmlCharsIsNameStartPinLaw" (some 0) with
  accessFlags := 49
  interfaces := #[]
  cf := some (fileOf pool1 28 #[] #[{ accessFlags := 2, nameIndex := 5, descriptorIndex := 6, attributes := #[] }, { accessFlags := 10, nameIndex := 31, descriptorIndex := 26, attributes := #[] }, { accessFlags := 9, nameIndex := 35, descriptorIndex := 36, attributes := #[] }] 49 2 #[] #[])
  fields := #[]
  methods := #[k1m0, k1m1, k1m2]
  instanceTypes := #[]
  staticTypes := #[]
  resolved := Array.replicate 41 none
  statics := none }

def pool2 : Array CpInfo := pool [(1, .class_ 2), (0, u "shelfmark/XmlChars"), (1, .class_ 6), (1, u "java/lang/Object"), (0, u "<init>"), (0, u "()V"), (0, .integer 65536), (3, .integer 55295), (1, .integer 65533), (0, .integer 63744), (0, .integer 64975), (0, .integer 65008), (0, .integer 983039), (2, u "isNameStart"), (0, u "(I)Z"), (0, u "NOT_UTF8"), (0, u "I"), (2, u "CUT"), (1, u "LENGTH_BITS"), (1, u "LENGTH_MASK")] 16

def k2m0 : Method := { name := "<init>", desc := "()V", sig := { parameters := [], returnType := none }, accessFlags := 2, code := none }
def k2c1 : Code := { maxStack := 2, maxLocals := 1, code := prog_77_method_6_code, exceptionTable := #[], attributes := #[] }
def k2m1 : Method := { name := "isNameStart", desc := "(I)Z", sig := { parameters := [.int], returnType := some .boolean }, accessFlags := 8, code := some k2c1 }
/-- shelfmark/XmlChars -/
def k2 : Class := { plain "shelfmark/XmlChars" (some 0) with
  accessFlags := 48
  interfaces := #[]
  cf := some (fileOf pool2 1 #[] #[{ accessFlags := 2, nameIndex := 7, descriptorIndex := 8, attributes := #[] }, { accessFlags := 8, nameIndex := 22, descriptorIndex := 23, attributes := #[] }] 48 4 #[] #[{ accessFlags := 24, nameIndex := 24, descriptorIndex := 25, attributes := #[] }, { accessFlags := 24, nameIndex := 28, descriptorIndex := 25, attributes := #[] }, { accessFlags := 24, nameIndex := 30, descriptorIndex := 25, attributes := #[] }, { accessFlags := 24, nameIndex := 32, descriptorIndex := 25, attributes := #[] }])
  fields := #[{ name := "NOT_UTF8", type := .int, accessFlags := 24, slot := 0, constantValue := 0 }, { name := "CUT", type := .int, accessFlags := 24, slot := 1, constantValue := 0 }, { name := "LENGTH_BITS", type := .int, accessFlags := 24, slot := 2, constantValue := 0 }, { name := "LENGTH_MASK", type := .int, accessFlags := 24, slot := 3, constantValue := 0 }]
  methods := #[k2m0, k2m1]
  instanceTypes := #[]
  staticTypes := #[.int, .int, .int, .int]
  resolved := Array.replicate 49 none
  statics := none }

def pool3 : Array CpInfo := pool [(1, u "java/lang/Cloneable"), (0, .class_ 1), (0, u "java/lang/Object"), (0, .class_ 3)] 3

/-- java/lang/Cloneable -/
def k3 : Class := { plain "java/lang/Cloneable" (some 0) with
  accessFlags := 1537
  interfaces := #[]
  cf := some (fileOf pool3 2 #[] #[] 1537 4 #[] #[])
  fields := #[]
  methods := #[]
  instanceTypes := #[]
  staticTypes := #[]
  resolved := Array.replicate 8 none
  statics := none }

def pool4 : Array CpInfo := pool [(1, u "java/io/Serializable"), (0, .class_ 1), (0, u "java/lang/Object"), (0, .class_ 3)] 3

/-- java/io/Serializable -/
def k4 : Class := { plain "java/io/Serializable" (some 0) with
  accessFlags := 1537
  interfaces := #[]
  cf := some (fileOf pool4 2 #[] #[] 1537 4 #[] #[])
  fields := #[]
  methods := #[]
  instanceTypes := #[]
  staticTypes := #[]
  resolved := Array.replicate 8 none
  statics := none }

/-- the primitive byte -/
def k5 : Class := { plain "byte" none with kind := .primitive 'B', accessFlags := 0x411 }
/-- [B -/
def k6 : Class := { plain "[B" (some 0) with kind := .array 5 .byte, interfaces := #[3, 4], accessFlags := 1041 }

/-- the primitive int -/
def k7 : Class := { plain "int" none with kind := .primitive 'I', accessFlags := 0x411 }
/-- [I -/
def k8 : Class := { plain "[I" (some 0) with kind := .array 7 .int, interfaces := #[3, 4], accessFlags := 1041 }

def heap : Heap := #[]
def classes : Array Class := #[k0, k1, k2, k3, k4, k5, k6, k7, k8]
def interned : List (Array UInt16 × Addr) := []
def slotsUsed : Nat := 0
def theMethod : MethodId := ⟨1, 2⟩
def args0 : Array Value := #[.int 5, .int 5, .int 5]
def aboutOver (below : List Frame) : State where
  vm := { classes := classes, interned := interned.toArray }
  heap := heap
  slotsUsed := slotsUsed
  threads := #[{ frames := .invoking theMethod args0 :: below }]
def below0 : List Frame := [.native { method := ⟨0, 0⟩, args := #[] }]
def about1 : State := aboutOver below0
def p0 : Program := .bare "" "" ""
def e0 : Env := launch0.env 0 0 0
theorem w_frames : about1.frames = Frame.invoking theMethod args0 :: below0 := rfl
set_option maxRecDepth 65536 in
theorem w_args : argsFit about1.vm theMethod args0 = true := by decide +kernel
set_option maxRecDepth 65536 in
theorem w_heap : heapFits about1 = true := by decide +kernel
set_option maxRecDepth 65536 in
theorem w_runnable : about1.curStatus? = some .runnable := by decide +kernel
set_option maxRecDepth 65536 in
theorem w_alone : about1.alone = true := by decide +kernel
set_option maxRecDepth 65536 in
theorem w_named : about1.methodNamed? x = some theMethod := by decide +kernel
set_option maxRecDepth 65536 in
theorem w_hears : about1.hears theMethod below0 = true := by decide +kernel
set_option maxRecDepth 65536 in
theorem w_ripe : about1.ripe theMethod args0 below0 = true := by decide +kernel
theorem w_running : about1.status = .running := rfl
set_option maxRecDepth 65536 in
theorem w_room : about1.hasRoom e0.platform room_1 = true :=
  launch0.hasRoom_least _ room_1 (by decide +kernel) (by decide +kernel) (by decide +kernel) (by decide +kernel) (by decide +kernel) (by decide +kernel)
theorem allAtoms_all (ts : List Jvm.Cond) (a : Array Jvm.Value) (st : Jvm.State) : (allAtoms ts).before a st = ts.all (fun c => c.before a st) := by
  induction ts with
  | nil => rfl
  | cons c t ih =>
    show (Jvm.Cond.and c (allAtoms t)).before a st = _
    rw [Jvm.Cond.before_and, ih, List.all_cons]
def words1 : List Jvm.Cond := Jvm.Cond.code x code maxLocals ret :: tables_1
/-- a 'code' word, met by the world's own term for the bytes: nothing is compared byte by byte -/
theorem code_word {y : MethodName} {bytes : ByteArray} {mx : Nat} {rt : Option FieldType} {a : Array Value} {s : State} {m : MethodId} {meth : Method} {c : Code} (h1 : s.methodNamed? y = some m) (h2 : s.vm.method? m = some meth) (h3 : meth.code = some c) (h4 : c.code = bytes)
    (h5 : (c.maxLocals == mx && c.exceptionTable.isEmpty && decide (c.maxStack ≤ mostOperands) && decide (meth.sig.returnType = rt) && !meth.locks && decide (parseMethodDescriptor y.desc = some meth.sig)) = true) : (Jvm.Cond.code y bytes mx rt).before a s = true := by
  simp only [Bool.and_eq_true, beq_iff_eq, Bool.not_eq_true', decide_eq_true_eq] at h5
  obtain ⟨⟨⟨⟨⟨g1, g2⟩, g3⟩, g4⟩, g5⟩, g6⟩ := h5
  simp [Cond.before, Cond.holds, Cond.value, h1, h2, h3, h4, g1, g2, g3, g4, g5, g6]
def isCode : Jvm.Cond → Bool
  | .code _ _ _ _ => true
  | _ => false
theorem all_split {L : List Jvm.Cond} {P : Jvm.Cond → Bool} (h1 : L.all (fun c => isCode c || P c) = true) (h2 : ∀ c ∈ L.filter isCode, P c = true) : L.all P = true := by
  refine List.all_eq_true.mpr fun c hc => ?_
  have h := List.all_eq_true.mp h1 c hc
  rcases Bool.eq_false_or_eq_true (isCode c) with hi | hi
  · exact h2 c (List.mem_filter.mpr ⟨hc, hi⟩)
  · simpa [hi] using h
set_option maxRecDepth 65536 in
theorem w_c0 : (Jvm.Cond.code x code maxLocals ret).before args0 about1 = true := code_word (m := ⟨1, 2⟩) (meth := k1m2) (c := k1c2) (by decide +kernel) rfl rfl rfl (by decide +kernel)
set_option maxRecDepth 65536 in
theorem w_c1 : (Jvm.Cond.code ({ cls := "shelfmark/XmlChars", name := "isNameStart", desc := "(I)Z" } : Jvm.MethodName) prog_77_method_6_code (1 : Nat) (Option.some Jvm.ClassFile.FieldType.boolean)).before args0 about1 = true := code_word (m := ⟨2, 1⟩) (meth := k2m1) (c := k2c1) (by decide +kernel) rfl rfl rfl (by decide +kernel)
set_option maxRecDepth 65536 in
theorem w_c2 : (Jvm.Cond.code ({ cls := "shelfmark/XmlCharsIsNameStartPinLaw", name := "ref", desc := "(I)Z" } : Jvm.MethodName) method_2_code (1 : Nat) (Option.some Jvm.ClassFile.FieldType.boolean)).before args0 about1 = true := code_word (m := ⟨1, 1⟩) (meth := k1m1) (c := k1c1) (by decide +kernel) rfl rfl rfl (by decide +kernel)
def codes1 : List Jvm.Cond := [Jvm.Cond.code x code maxLocals ret, Jvm.Cond.code ({ cls := "shelfmark/XmlChars", name := "isNameStart", desc := "(I)Z" } : Jvm.MethodName) prog_77_method_6_code (1 : Nat) (Option.some Jvm.ClassFile.FieldType.boolean), Jvm.Cond.code ({ cls := "shelfmark/XmlCharsIsNameStartPinLaw", name := "ref", desc := "(I)Z" } : Jvm.MethodName) method_2_code (1 : Nat) (Option.some Jvm.ClassFile.FieldType.boolean)]
set_option maxRecDepth 65536 in
theorem codes_eq : words1.filter isCode = codes1 := rfl
theorem w_codes : ∀ c ∈ words1.filter isCode, c.before args0 about1 = true := by
  rw [codes_eq]
  intro c hc
  simp only [codes1, List.mem_cons, List.not_mem_nil, or_false] at hc
  rcases hc with rfl | rfl | rfl
  · exact w_c0
  · exact w_c1
  · exact w_c2
set_option maxRecDepth 65536 in
theorem w_t1 : (words1.take 24).all (fun c => isCode c || c.before args0 about1) = true := by decide +kernel
set_option maxRecDepth 65536 in
theorem w_t2 : (words1.drop 24).all (fun c => isCode c || c.before args0 about1) = true := by decide +kernel
theorem w_tables : (allAtoms (Jvm.Cond.code x code maxLocals ret :: tables_1)).before args0 about1 = true := by
  rw [allAtoms_all]
  show words1.all (fun c => c.before args0 about1) = true
  refine all_split ?_ w_codes
  rw [← List.take_append_drop 24 words1, List.all_append, w_t1, w_t2]
  rfl
set_option maxRecDepth 65536 in
theorem w_case : (Jvm.Cond.and given_1 narrow_1).before args0 about1 = true := by decide +kernel
theorem w_applies : (headSpec (Jvm.Cond.code x code maxLocals ret :: tables_1) room_1).applies x e0.platform about1 = true :=
  (Spec.applies_iff w_frames).mpr ⟨w_running, w_runnable, w_alone, w_named, w_hears, w_ripe, w_room, w_tables⟩
theorem atStart : AtStart classFile x code maxLocals ret World_1 tables_1 room_1 Calls_1 rest_1 Pre_1 launch0 p0 e0 about1 theMethod args0 below0 :=
  ⟨lists_1, trivial, launch0.admits_env _ _ _, launch0.least_env, fairChoices_fair.cas, fairChoices_fair.clock, w_frames, w_args, w_heap, w_applies, trivial, trivial, w_case⟩
end start1
theorem witness_1 : WitnessClaimed_1 := ⟨start1.p0, start1.e0, start1.about1, start1.theMethod, start1.args0, start1.below0, start1.atStart⟩
end Jvm.Pilot.@@N@@
