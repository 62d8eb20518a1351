import JvmDerived
import JvmDerived.Pilot.@@N@@Statement
import JvmDerived.Pilot.@@N@@Code
set_option linter.unusedVariables false
set_option linter.unusedSimpArgs false
set_option maxRecDepth 65536
set_option maxHeartbeats 4000000
namespace Jvm.Pilot.@@N@@
open Jvm Jvm.ClassFile Sem Op Lib Jvm.Free Jvm.Stand Jvm.LawKit Jvm.RoadKit Bundle Jvm.Pilot.@@N@@.Jvm.D
theorem tw0 : Jvm.Cond.constant "shelfmark/XmlCharsEncodePinLaw" (7 : Nat) (2147483647 : Int32) ∈ tables_1 := List.mem_of_getElem? (i := 0) rfl
theorem tw1 : Jvm.Cond.constant "shelfmark/XmlCharsEncodePinLaw" (8 : Nat) (1112064 : Int32) ∈ tables_1 := List.mem_of_getElem? (i := 1) rfl
theorem tw2 : Jvm.Cond.constant "shelfmark/XmlCharsEncodePinLaw" (9 : Nat) (55296 : Int32) ∈ tables_1 := List.mem_of_getElem? (i := 2) rfl
theorem tw3 : Jvm.Cond.arrayClass FieldType.byte ∈ tables_1 := List.mem_of_getElem? (i := 3) rfl
theorem tw4 : Jvm.Cond.methodLink "shelfmark/XmlCharsEncodePinLaw" (10 : Nat) (⟨"shelfmark/XmlChars", "encode", "(I[BI)I"⟩ : MethodName) ∈ tables_1 := List.mem_of_getElem? (i := 4) rfl
theorem tw5 : Jvm.Cond.static (⟨"shelfmark/XmlChars", "encode", "(I[BI)I"⟩ : MethodName) ∈ tables_1 := List.mem_of_getElem? (i := 5) rfl
theorem tw6 : Jvm.Cond.initialized "shelfmark/XmlChars" ∈ tables_1 := List.mem_of_getElem? (i := 6) rfl
theorem tw7 : Jvm.Cond.code (⟨"shelfmark/XmlChars", "encode", "(I[BI)I"⟩ : MethodName) prog_77_method_9_code (4 : Nat) (Option.some FieldType.int) ∈ tables_1 := List.mem_of_getElem? (i := 7) rfl
theorem tw8 : Jvm.Cond.methodLink "shelfmark/XmlCharsEncodePinLaw" (21 : Nat) (⟨"shelfmark/XmlCharsEncodePinLaw", "keep", "([BIIIB)Z"⟩ : MethodName) ∈ tables_1 := List.mem_of_getElem? (i := 8) rfl
theorem tw9 : Jvm.Cond.static (⟨"shelfmark/XmlCharsEncodePinLaw", "keep", "([BIIIB)Z"⟩ : MethodName) ∈ tables_1 := List.mem_of_getElem? (i := 9) rfl
theorem tw10 : Jvm.Cond.initialized "shelfmark/XmlCharsEncodePinLaw" ∈ tables_1 := List.mem_of_getElem? (i := 10) rfl
theorem tw11 : Jvm.Cond.code (⟨"shelfmark/XmlCharsEncodePinLaw", "keep", "([BIIIB)Z"⟩ : MethodName) method_2_code (5 : Nat) (Option.some FieldType.boolean) ∈ tables_1 := List.mem_of_getElem? (i := 11) rfl
theorem tw12 : Jvm.Cond.methodLink "shelfmark/XmlCharsEncodePinLaw" (17 : Nat) (⟨"shelfmark/XmlChars", "decode", "([BII)I"⟩ : MethodName) ∈ tables_1 := List.mem_of_getElem? (i := 12) rfl
theorem tw13 : Jvm.Cond.static (⟨"shelfmark/XmlChars", "decode", "([BII)I"⟩ : MethodName) ∈ tables_1 := List.mem_of_getElem? (i := 13) rfl
theorem tw14 : Jvm.Cond.code (⟨"shelfmark/XmlChars", "decode", "([BII)I"⟩ : MethodName) prog_77_method_2_code (9 : Nat) (Option.some FieldType.int) ∈ tables_1 := List.mem_of_getElem? (i := 14) rfl
theorem tw15 : Jvm.Cond.constant "shelfmark/XmlChars" (10 : Nat) (1114111 : Int32) ∈ tables_1 := List.mem_of_getElem? (i := 15) rfl
theorem tw16 : Jvm.Cond.constant "shelfmark/XmlChars" (11 : Nat) (55296 : Int32) ∈ tables_1 := List.mem_of_getElem? (i := 16) rfl
theorem tw17 : Jvm.Cond.constant "shelfmark/XmlChars" (9 : Nat) (65536 : Int32) ∈ tables_1 := List.mem_of_getElem? (i := 17) rfl
theorem tw18 : Jvm.Cond.constant "shelfmark/XmlCharsEncodePinLaw" (16 : Nat) (65536 : Int32) ∈ tables_1 := List.mem_of_getElem? (i := 18) rfl
theorem tw19 : Jvm.Cond.constant "shelfmark/XmlChars" (12 : Nat) (57343 : Int32) ∈ tables_1 := List.mem_of_getElem? (i := 19) rfl
def lay (t : Nat) : String × List (String × String) := ("", [])
theorem lay_word (t : Nat) (nd : String × String) (h : nd ∈ (lay t).2) : Jvm.Cond.lays (lay t).1 (lay t).1 nd.1 nd.2 ∈ tables_1 ∨ Jvm.Cond.laysFinal (lay t).1 (lay t).1 nd.1 nd.2 ∈ tables_1 := by simp [lay] at h
theorem lay_parse (t : Nat) (nd : String × String) (h : nd ∈ (lay t).2) : ∃ ty, parseFieldDescriptor nd.2 = some ty := by simp [lay] at h
theorem lay_names (t k k' : Nat) (nd nd' : String × String) (h1 : (lay t).2[k]? = some nd) (h2 : (lay t).2[k']? = some nd') (ne : k ≠ k') : nd.1 ≠ nd'.1 := by simp [lay] at h1
/-! the abstract machine over the library's laws -/
abbrev Obj := Sum (FieldType × List Value) (Nat × List Value)
abbrev Gx := Launch × State × Array Value × Nat
abbrev Kx := Program × Env × Room × State × MethodId × Array Value × List Frame × Method × Code × Nat × Nat
/-- a reference of the model is the number of an own object; the object of number 0 lies at n -/
def sh (n : Nat) : Value → Value
  | .ref i => .ref (n + i)
  | v => v
theorem sh_cat (n : Nat) (v : Value) : (sh n v).category = v.category := by cases v <;> rfl
/-! local variables -/
def Wf (f : Nat → Option Slot) : Prop :=
  (∀ (k : Nat) (v : Value), f k = some (Slot.val v) → v.category = 2 → f (k + 1) = some .second) ∧ (∀ k, f k = some .second → ∃ v : Value, 1 ≤ k ∧ f (k - 1) = some (Slot.val v) ∧ v.category = 2)
def Lrel (n : Nat) (Ls : List (Option Value)) (L : Array Slot) : Prop :=
  L.size = Ls.length ∧ Wf (fun k => L[k]?) ∧ ∀ (k : Nat) (v : Value), Ls[k]? = some (some v) → L[k]? = some (Slot.val (sh n v))
def clr (Ls : List (Option Value)) : Nat → List (Option Value)
  | 0 => Ls
  | j + 1 => match Ls[j]? with
    | some (some w) => if w.category = 2 then Ls.set j none else Ls
    | _ => Ls
def stor (Ls : List (Option Value)) (i : Nat) (v : Value) : Option (List (Option Value)) :=
  if v.category = 2 then (if i + 1 < Ls.length then some (((clr Ls i).set i (some v)).set (i + 1) none) else none) else (if i < Ls.length then some ((clr Ls i).set i (some v)) else none)
theorem wf_gen {f f' : Nat → Option Slot} (hf : Wf f) {i last : Nat} {v : Value} (hl : (v.category = 2 ∧ last = i + 1 ∧ f' (i + 1) = some .second) ∨ (v.category ≠ 2 ∧ last = i)) (h0 : f' i = some (Slot.val v))
    (h1 : ∀ k, k + 1 = i → ∀ w : Value, f k = some (Slot.val w) → w.category = 2 → f' k = some .unset) (h2 : f (last + 1) = some .second → f' (last + 1) = some .unset)
    (h3 : ∀ k, k < i ∨ last < k → f' k = f k ∨ (f' k = some .unset ∧ ((k + 1 = i ∧ ∃ w : Value, f k = some (Slot.val w) ∧ w.category = 2) ∨ (k = last + 1 ∧ f k = some .second)))) : Wf f' := by
  have hc : ∀ k, k = i ∨ (k = i + 1 ∧ last = i + 1 ∧ f' (i + 1) = some .second) ∨ (k < i ∨ last < k) := fun k => by
    rcases hl with ⟨-, a, b⟩ | ⟨-, a⟩
    · by_cases h : k = i; · exact Or.inl h
      by_cases h' : k = i + 1; · exact Or.inr (Or.inl ⟨h', a, b⟩)
      exact Or.inr (Or.inr (by omega))
    · by_cases h : k = i; · exact Or.inl h
      exact Or.inr (Or.inr (by omega))
  have hli : i ≤ last := by omega
  constructor
  · intro k w hk hw
    rcases hc k with rfl | ⟨rfl, -, b⟩ | h
    · rcases hl with ⟨-, -, b⟩ | ⟨a, -⟩
      · exact b
      · rw [h0] at hk; cases hk; exact absurd hw a
    · rw [b] at hk; cases hk
    · rcases h3 k h with q | ⟨q, -⟩
      · rw [q] at hk
        have hs := hf.1 k w hk hw
        by_cases e1 : k + 1 = i
        · have := h1 k e1 w hk hw; rw [q, hk] at this; cases this
        · have h' : k + 1 < i ∨ last < k + 1 := by omega
          rcases h3 (k + 1) h' with q' | ⟨-, ⟨-, w', a, -⟩ | ⟨a, -⟩⟩
          · rw [q']; exact hs
          · rw [hs] at a; cases a
          · omega
      · rw [q] at hk; cases hk
  · intro k hk
    rcases hc k with rfl | ⟨rfl, a, b⟩ | h
    · rw [h0] at hk; cases hk
    · rcases hl with ⟨c, -, -⟩ | ⟨-, c⟩
      · exact ⟨v, by omega, by simpa using h0, c⟩
      · omega
    · rcases h3 k h with q | ⟨q, -⟩
      · rw [q] at hk
        obtain ⟨w, k1, hw, hw2⟩ := hf.2 k hk
        by_cases e1 : k = last + 1
        · subst e1; have := h2 hk; rw [q, hk] at this; cases this
        · have h' : k - 1 < i ∨ last < k - 1 := by
            rcases h with h | h
            · exact Or.inl (by omega)
            · exact Or.inr (by omega)
          rcases h3 (k - 1) h' with q' | ⟨-, ⟨a, -⟩ | ⟨a, b⟩⟩
          · exact ⟨w, k1, by rw [q']; exact hw, hw2⟩
          · have : k = i := by omega
            omega
          · rw [hw] at b; cases b
      · rw [q] at hk; cases hk
theorem clr_get {Ls : List (Option Value)} {i k : Nat} {w : Value} (h : (clr Ls i)[k]? = some (some w)) : Ls[k]? = some (some w) ∧ (k + 1 = i → w.category ≠ 2) := by
  cases i with
  | zero => exact ⟨h, fun q => by omega⟩
  | succ j =>
    simp only [clr] at h
    split at h
    · rename_i w' hw'
      split at h
      · rename_i h2
        by_cases e : j = k
        · subst e; rw [List.getElem?_set] at h; simp at h
        · rw [List.getElem?_set_ne e] at h; exact ⟨h, fun q => by omega⟩
      · rename_i h2
        refine ⟨h, fun q => ?_⟩
        have : j = k := by omega
        subst this; rw [hw'] at h; cases h; exact h2
    · rename_i hn
      refine ⟨h, fun q => ?_⟩
      have : j = k := by omega
      subst this; exact absurd h (hn w)
theorem clr_len (Ls : List (Option Value)) (i : Nat) : (clr Ls i).length = Ls.length := by
  cases i with
  | zero => rfl
  | succ j => simp only [clr]; split <;> (try split) <;> simp
theorem lrel_gen {n : Nat} {Ls Ls' : List (Option Value)} {L L' : Array Slot} {i last : Nat} {v : Value} (h : Lrel n Ls L) (hsz : L'.size = L.size) (hlen : Ls'.length = Ls.length)
    (hl : (v.category = 2 ∧ last = i + 1 ∧ L'[i + 1]? = some .second) ∨ (v.category ≠ 2 ∧ last = i)) (h0 : L'[i]? = some (Slot.val (sh n v)))
    (h1 : ∀ k, k + 1 = i → ∀ w : Value, L[k]? = some (Slot.val w) → w.category = 2 → L'[k]? = some .unset) (h2 : L[last + 1]? = some .second → L'[last + 1]? = some .unset)
    (h3 : ∀ k, k < i ∨ last < k → L'[k]? = L[k]? ∨ (L'[k]? = some .unset ∧ ((k + 1 = i ∧ ∃ w : Value, L[k]? = some (Slot.val w) ∧ w.category = 2) ∨ (k = last + 1 ∧ L[k]? = some .second))))
    (hs : ∀ k w, Ls'[k]? = some (some w) → (k = i ∧ w = v) ∨ ((k < i ∨ last < k) ∧ Ls[k]? = some (some w) ∧ (k + 1 = i → w.category ≠ 2))) : Lrel n Ls' L' := by
  refine ⟨by rw [hsz, hlen]; exact h.1, wf_gen (f := fun k => L[k]?) (f' := fun k => L'[k]?) (v := sh n v) h.2.1 (by rw [sh_cat]; exact hl) h0 h1 h2 h3, fun k w hk => ?_⟩
  rcases hs k w hk with ⟨rfl, rfl⟩ | ⟨a, b, c⟩
  · exact h0
  · have hb := h.2.2 k w b
    rcases h3 k a with q | ⟨-, ⟨q, w', r1, r2⟩ | ⟨-, r⟩⟩
    · rw [q]; exact hb
    · rw [hb] at r1; cases r1; exact absurd (by rw [← sh_cat n w]; exact r2) (c q)
    · rw [hb] at r; cases r
theorem get_set (L : Array Slot) (i j : Nat) (x : Slot) (hi : i < L.size) : (L.setIfInBounds i x)[j]? = if i = j then some x else L[j]? := by
  rw [Array.getElem?_setIfInBounds]; simp [hi]
theorem store_1 {n : Nat} {Ls Ls' : List (Option Value)} {L : Array Slot} {i : Nat} {v : Value} (h : Lrel n Ls L) (hc : v.category = 1) (hl : stor Ls i v = some Ls') : ∃ L', storeLocals L i (sh n v) = some L' ∧ Lrel n Ls' L' := by
  have hc2 : ¬ v.category = 2 := by omega
  simp only [stor, hc2, if_false] at hl
  have hi : i < Ls.length := Decidable.byContradiction fun hi => by rw [if_neg hi] at hl; cases hl
  rw [if_pos hi] at hl
  cases hl
  have hiL : i < L.size := by rw [h.1]; exact hi
  have hcs : (sh n v).category = 1 := (sh_cat n v).trans hc
  have hs : ∀ k w, ((clr Ls i).set i (some v))[k]? = some (some w) → (k = i ∧ w = v) ∨ ((k < i ∨ i < k) ∧ Ls[k]? = some (some w) ∧ (k + 1 = i → w.category ≠ 2)) := fun k w hk => by
    by_cases e : i = k
    · subst e
      rw [List.getElem?_set_self (by rw [clr_len]; exact hi)] at hk
      cases hk; exact Or.inl ⟨rfl, rfl⟩
    · rw [List.getElem?_set_ne e] at hk
      exact Or.inr ⟨by omega, clr_get hk⟩
  have hlen : ((clr Ls i).set i (some v)).length = Ls.length := by simp [clr_len]
  have hgo : L[i]? = some L[i] := Array.getElem?_eq_getElem hiL
  cases hq : L[i] with
  | unset =>
    rw [hq] at hgo
    refine ⟨L.setIfInBounds i (.val (sh n v)), by simp [storeLocals, storeSelf, setAt, hgo, hcs, hiL, hq], lrel_gen (i := i) (last := i) (v := v) h (by simp) hlen (Or.inr ⟨hc2, rfl⟩) ?_ ?_ ?_ ?_ hs⟩
    · rw [get_set _ _ _ _ hiL]; simp
    · intro k hk w hw hw2; have := h.2.1.1 k w hw hw2; simp only [hk] at this; rw [hgo] at this; cases this
    · intro hk; obtain ⟨w, -, a, -⟩ := h.2.1.2 _ hk; simp only [Nat.add_sub_cancel] at a; rw [hgo] at a; cases a
    · intro k hk; left; rw [get_set _ _ _ _ hiL, if_neg (by omega)]
  | second =>
    rw [hq] at hgo
    obtain ⟨w0, i1, hw0, hw2⟩ := h.2.1.2 _ hgo
    simp only at hw0
    have hi1 : i - 1 < L.size := by omega
    refine ⟨(L.setIfInBounds (i - 1) .unset).setIfInBounds i (.val (sh n v)), by simp [storeLocals, storeSelf, setAt, hgo, hcs, hiL, hi1, hq], lrel_gen (i := i) (last := i) (v := v) h (by simp) hlen (Or.inr ⟨hc2, rfl⟩) ?_ ?_ ?_ ?_ hs⟩
    · rw [get_set _ _ _ _ (by simpa using hiL)]; simp
    · intro k hk w hw hw2'; rw [get_set _ _ _ _ (by simpa using hiL), get_set _ _ _ _ hi1, if_neg (by omega), if_pos (by omega)]
    · intro hk; obtain ⟨w, -, a, -⟩ := h.2.1.2 _ hk; simp only [Nat.add_sub_cancel] at a; rw [hgo] at a; cases a
    · intro k hk; rw [get_set _ _ _ _ (by simpa using hiL), get_set _ _ _ _ hi1, if_neg (by omega)]
      by_cases e : i - 1 = k
      · subst e; rw [if_pos rfl]; exact Or.inr ⟨rfl, Or.inl ⟨by omega, w0, hw0, hw2⟩⟩
      · rw [if_neg e]; exact Or.inl rfl
  | val old =>
    rw [hq] at hgo
    have hnl : ∀ k, k + 1 = i → ∀ w : Value, L[k]? = some (Slot.val w) → w.category = 2 → False := fun k hk w hw hw2 => by
      have := h.2.1.1 k w hw hw2; simp only [hk] at this; rw [hgo] at this; cases this
    by_cases ho : old.category = 2
    · have hn : L[i + 1]? = some .second := h.2.1.1 i old hgo ho
      have hi1 : i + 1 < L.size := (Array.getElem?_eq_some_iff.mp hn).1
      refine ⟨(L.setIfInBounds (i + 1) .unset).setIfInBounds i (.val (sh n v)), by simp [storeLocals, storeSelf, setAt, hgo, hcs, hiL, hi1, ho, hq], lrel_gen (i := i) (last := i) (v := v) h (by simp) hlen (Or.inr ⟨hc2, rfl⟩) ?_ ?_ ?_ ?_ hs⟩
      · rw [get_set _ _ _ _ (by simpa using hiL)]; simp
      · intro k hk w hw hw2; exact (hnl k hk w hw hw2).elim
      · intro _; rw [get_set _ _ _ _ (by simpa using hiL), get_set _ _ _ _ hi1, if_neg (by omega), if_pos rfl]
      · intro k hk; rw [get_set _ _ _ _ (by simpa using hiL), get_set _ _ _ _ hi1, if_neg (by omega)]
        by_cases e : i + 1 = k
        · subst e; rw [if_pos rfl]; exact Or.inr ⟨rfl, Or.inr ⟨rfl, hn⟩⟩
        · rw [if_neg e]; exact Or.inl rfl
    · refine ⟨L.setIfInBounds i (.val (sh n v)), by simp [storeLocals, storeSelf, setAt, hgo, hcs, hiL, ho, hq], lrel_gen (i := i) (last := i) (v := v) h (by simp) hlen (Or.inr ⟨hc2, rfl⟩) ?_ ?_ ?_ ?_ hs⟩
      · rw [get_set _ _ _ _ hiL]; simp
      · intro k hk w hw hw2; exact (hnl k hk w hw hw2).elim
      · intro hk; obtain ⟨w, -, a, b⟩ := h.2.1.2 _ hk; simp only [Nat.add_sub_cancel] at a; rw [hgo] at a; cases a; exact absurd b ho
      · intro k hk; left; rw [get_set _ _ _ _ hiL, if_neg (by omega)]
/-- the second half of a long's store -/
theorem self_2 {l : Array Slot} {i : Nat} {v : Value} (hc : v.category = 2) (h1 : i + 1 < l.size) (hw : ∀ w : Value, l[i + 1]? = some (Slot.val w) → w.category = 2 → i + 2 < l.size) :
    ∃ l', storeSelf l i v = some l' ∧ l'.size = l.size ∧ l'[i]? = some (Slot.val v) ∧ l'[i + 1]? = some .second ∧ (∀ k, k < i ∨ i + 2 < k → l'[k]? = l[k]?) ∧
      ((∃ w : Value, l[i + 1]? = some (Slot.val w) ∧ w.category = 2) ∧ l'[i + 2]? = some .unset ∨ (¬ ∃ w : Value, l[i + 1]? = some (Slot.val w) ∧ w.category = 2) ∧ l'[i + 2]? = l[i + 2]?) := by
  have hi : i < l.size := by omega
  have hgo : l[i + 1]? = some l[i + 1] := Array.getElem?_eq_getElem h1
  have hgo' : (l.setIfInBounds i (.val v))[i + 1]? = some l[i + 1] := by rw [get_set _ _ _ _ hi, if_neg (by omega)]; exact hgo
  by_cases hx : ∃ w : Value, l[i + 1]? = some (Slot.val w) ∧ w.category = 2
  · obtain ⟨w, a, b⟩ := hx
    have h2 := hw w a b
    have e : l[i + 1] = .val w := Option.some.inj (hgo.symm.trans a)
    refine ⟨((l.setIfInBounds i (.val v)).setIfInBounds (i + 2) .unset).setIfInBounds (i + 1) .second, ?_, by simp, ?_, ?_, ?_, Or.inl ⟨⟨w, a, b⟩, ?_⟩⟩
    · rw [e] at hgo'
      simp [storeSelf, setAt, hi, hc, hgo', b, h1, h2, e]
    · rw [get_set _ _ _ _ (by simpa using h1), if_neg (by omega), get_set _ _ _ _ (by simpa using h2), if_neg (by omega), get_set _ _ _ _ hi, if_pos rfl]
    · rw [get_set _ _ _ _ (by simpa using h1), if_pos rfl]
    · intro k hk; rw [get_set _ _ _ _ (by simpa using h1), if_neg (by omega), get_set _ _ _ _ (by simpa using h2), if_neg (by omega), get_set _ _ _ _ hi, if_neg (by omega)]
    · rw [get_set _ _ _ _ (by simpa using h1), if_neg (by omega), get_set _ _ _ _ (by simpa using h2), if_pos rfl]
  · refine ⟨(l.setIfInBounds i (.val v)).setIfInBounds (i + 1) .second, ?_, by simp, ?_, ?_, ?_, Or.inr ⟨hx, ?_⟩⟩
    · cases e : l[i + 1] with
      | unset => rw [e] at hgo'; simp [storeSelf, setAt, hi, hc, hgo', h1, e]
      | second => rw [e] at hgo'; simp [storeSelf, setAt, hi, hc, hgo', h1, e]
      | val w =>
        rw [e] at hgo' hgo
        have hn : ¬ w.category = 2 := fun q => hx ⟨w, hgo, q⟩
        simp [storeSelf, setAt, hi, hc, hgo', h1, hn, e]
    · rw [get_set _ _ _ _ (by simpa using h1), if_neg (by omega), get_set _ _ _ _ hi, if_pos rfl]
    · rw [get_set _ _ _ _ (by simpa using h1), if_pos rfl]
    · intro k hk; rw [get_set _ _ _ _ (by simpa using h1), if_neg (by omega), get_set _ _ _ _ hi, if_neg (by omega)]
    · rw [get_set _ _ _ _ (by simpa using h1), if_neg (by omega), get_set _ _ _ _ hi, if_neg (by omega)]
theorem store_2 {n : Nat} {Ls Ls' : List (Option Value)} {L : Array Slot} {i : Nat} {v : Value} (h : Lrel n Ls L) (hc : v.category = 2) (hl : stor Ls i v = some Ls') : ∃ L', storeLocals L i (sh n v) = some L' ∧ Lrel n Ls' L' := by
  simp only [stor, hc, if_true] at hl
  have hi : i + 1 < Ls.length := Decidable.byContradiction fun hi => by rw [if_neg hi] at hl; cases hl
  rw [if_pos hi] at hl
  cases hl
  have hiL : i + 1 < L.size := by rw [h.1]; exact hi
  have hi0 : i < L.size := by omega
  have hcs : (sh n v).category = 2 := (sh_cat n v).trans hc
  have hs : ∀ k w, (((clr Ls i).set i (some v)).set (i + 1) none)[k]? = some (some w) → (k = i ∧ w = v) ∨ ((k < i ∨ i + 1 < k) ∧ Ls[k]? = some (some w) ∧ (k + 1 = i → w.category ≠ 2)) := fun k w hk => by
    by_cases e' : i + 1 = k
    · subst e'
      rw [List.getElem?_set_self (by simp [clr_len]; exact hi)] at hk
      cases hk
    · rw [List.getElem?_set_ne e'] at hk
      by_cases e : i = k
      · subst e
        rw [List.getElem?_set_self (by rw [clr_len]; omega)] at hk
        cases hk; exact Or.inl ⟨rfl, rfl⟩
      · rw [List.getElem?_set_ne e] at hk
        exact Or.inr ⟨by omega, clr_get hk⟩
  have hlen : (((clr Ls i).set i (some v)).set (i + 1) none).length = Ls.length := by simp [clr_len]
  have hgo : L[i]? = some L[i] := Array.getElem?_eq_getElem hi0
  have hW := h.2.1
  -- the first half: l1
  have key : ∃ l1, storeLocals L i (sh n v) = storeSelf l1 i (sh n v) ∧ l1.size = L.size ∧ (∀ k, k + 1 = i → ∀ w : Value, L[k]? = some (Slot.val w) → w.category = 2 → l1[k]? = some .unset) ∧
      (∀ k, k < i ∨ i + 1 < k → l1[k]? = L[k]? ∨ (l1[k]? = some .unset ∧ k + 1 = i ∧ ∃ w : Value, L[k]? = some (Slot.val w) ∧ w.category = 2)) ∧
      ((∃ w : Value, l1[i + 1]? = some (Slot.val w) ∧ w.category = 2) → L[i + 1]? = l1[i + 1]?) ∧ (L[i + 1]? = l1[i + 1]? ∨ L[i + 1]? = some .second) := by
    cases hq : L[i] with
    | unset =>
      rw [hq] at hgo
      refine ⟨L, by simp [storeLocals, hgo, hq], rfl, ?_, fun k _ => Or.inl rfl, fun _ => rfl, Or.inl rfl⟩
      intro k hk w hw hw2; have := hW.1 k w hw hw2; simp only [hk] at this; rw [hgo] at this; cases this
    | second =>
      rw [hq] at hgo
      obtain ⟨w0, i1, hw0, hw2⟩ := hW.2 _ hgo
      simp only at hw0
      have hi1 : i - 1 < L.size := by omega
      refine ⟨L.setIfInBounds (i - 1) .unset, by simp [storeLocals, setAt, hgo, hi1, hq], by simp, ?_, ?_, fun _ => by rw [get_set _ _ _ _ hi1, if_neg (by omega)], Or.inl (by rw [get_set _ _ _ _ hi1, if_neg (by omega)])⟩
      · intro k hk w hw hw2'; rw [get_set _ _ _ _ hi1, if_pos (by omega)]
      · intro k hk; rw [get_set _ _ _ _ hi1]
        by_cases e : i - 1 = k
        · subst e; rw [if_pos rfl]; exact Or.inr ⟨rfl, by omega, w0, hw0, hw2⟩
        · rw [if_neg e]; exact Or.inl rfl
    | val old =>
      rw [hq] at hgo
      have hnl : ∀ k, k + 1 = i → ∀ w : Value, L[k]? = some (Slot.val w) → w.category = 2 → False := fun k hk w hw hw2 => by
        have := hW.1 k w hw hw2; simp only [hk] at this; rw [hgo] at this; cases this
      by_cases ho : old.category = 2
      · have hn : L[i + 1]? = some .second := hW.1 i old hgo ho
        refine ⟨L.setIfInBounds (i + 1) .unset, by simp [storeLocals, setAt, hgo, hiL, ho, hq], by simp, fun k hk w hw hw2 => (hnl k hk w hw hw2).elim, ?_, ?_, Or.inr hn⟩
        · intro k hk; left; rw [get_set _ _ _ _ hiL, if_neg (by omega)]
        · rintro ⟨w, a, -⟩; rw [get_set _ _ _ _ hiL, if_pos rfl] at a; cases a
      · exact ⟨L, by simp [storeLocals, hgo, ho, hq], rfl, fun k hk w hw hw2 => (hnl k hk w hw hw2).elim, fun k _ => Or.inl rfl, fun _ => rfl, Or.inl rfl⟩
  obtain ⟨l1, k1, k2, k3, k4, k5, k6⟩ := key
  have hw2 : ∀ w : Value, l1[i + 1]? = some (Slot.val w) → w.category = 2 → i + 2 < l1.size := fun w a b => by
    have e := k5 ⟨w, a, b⟩
    rw [a] at e
    have := hW.1 (i + 1) w e b
    rw [k2]; exact (Array.getElem?_eq_some_iff.mp this).1
  obtain ⟨l', s1, s2, s3, s4, s5, s6⟩ := self_2 (v := sh n v) hcs (by rw [k2]; exact hiL) hw2
  refine ⟨l', by rw [k1]; exact s1, lrel_gen (i := i) (last := i + 1) (v := v) h (by rw [s2, k2]) hlen (Or.inl ⟨hc, rfl, s4⟩) s3 ?_ ?_ ?_ hs⟩
  · intro k hk w hw hw2'; rw [s5 k (by omega)]; exact k3 k hk w hw hw2'
  · intro hk
    obtain ⟨w, -, a, b⟩ := hW.2 _ hk
    simp only [Nat.add_sub_cancel] at a
    rcases s6 with ⟨-, q⟩ | ⟨q, -⟩
    · exact q
    · rcases k6 with k6 | k6
      · exact absurd ⟨w, by rw [← k6]; exact a, b⟩ q
      · rw [a] at k6; cases k6
  · intro k hk
    by_cases e : k = i + 2
    · subst e
      rcases s6 with ⟨⟨w, a, b⟩, q⟩ | ⟨-, q⟩
      · have e := k5 ⟨w, a, b⟩
        rw [a] at e
        exact Or.inr ⟨q, Or.inr ⟨rfl, hW.1 (i + 1) w e b⟩⟩
      · rcases k4 (i + 2) (by omega) with r | ⟨-, r, -⟩
        · left; rw [q, r]
        · omega
    · rw [s5 k (by omega)]
      rcases k4 k hk with r | ⟨r1, r2, r3⟩
      · exact Or.inl r
      · exact Or.inr ⟨r1, Or.inl ⟨r2, r3⟩⟩
/-! the entry -/
def aloc1 : List Value → List (Option Value)
  | [] => []
  | v :: r => if v.category = 2 then some v :: none :: aloc1 r else some v :: aloc1 r
def aloc (as : List Value) (maxL : Nat) : List (Option Value) := aloc1 as ++ List.replicate (maxL - (aloc1 as).length) none
def aslot : List Value → List Slot
  | [] => []
  | v :: r => if v.category = 2 then .val v :: .second :: aslot r else .val v :: aslot r
theorem aslot_eq (as : List Value) : ∀ acc : Array Slot, as.foldl (fun acc v => if v.category = 2 then (acc.push (Slot.val v)).push Slot.second else acc.push (Slot.val v)) acc = acc ++ (aslot as).toArray := by
  induction as with
  | nil => intro acc; simp [aslot]
  | cons v r ih =>
    intro acc
    rw [List.foldl_cons, ih]
    simp only [aslot]
    split <;> (apply Array.ext'; simp)
theorem aslot_len (n : Nat) (as : List Value) : (aslot (as.map (sh n))).length = (aloc1 as).length := by
  induction as with
  | nil => rfl
  | cons v r ih => simp only [List.map_cons, aslot, aloc1, sh_cat]; split <;> simp [ih]
theorem aslot_wf (as : List Value) : (∀ (k : Nat) (v : Value), (aslot as)[k]? = some (Slot.val v) → v.category = 2 → (aslot as)[k + 1]? = some .second) ∧ (∀ k, (aslot as)[k]? = some .second → ∃ v : Value, 1 ≤ k ∧ (aslot as)[k - 1]? = some (Slot.val v) ∧ v.category = 2) := by
  induction as with
  | nil => constructor <;> intro k <;> simp [aslot]
  | cons v r ih =>
    simp only [aslot]
    by_cases h : v.category = 2
    · rw [if_pos h]
      constructor
      · intro k w hk hw
        match k, hk with
        | 0, hk => rfl
        | 1, hk => simp at hk
        | k + 2, hk => simpa using ih.1 k w (by simpa using hk) hw
      · intro k hk
        match k, hk with
        | 0, hk => simp at hk
        | 1, hk => exact ⟨v, by omega, by simp, h⟩
        | k + 2, hk =>
          obtain ⟨w, a, b, c⟩ := ih.2 k (by simpa using hk)
          match k, a, b with
          | k + 1, a, b => exact ⟨w, by omega, by simpa using b, c⟩
    · rw [if_neg h]
      constructor
      · intro k w hk hw
        match k, hk with
        | 0, hk => simp at hk; subst hk; exact absurd hw h
        | k + 1, hk => simpa using ih.1 k w (by simpa using hk) hw
      · intro k hk
        match k, hk with
        | 0, hk => simp at hk
        | k + 1, hk =>
          obtain ⟨w, a, b, c⟩ := ih.2 k (by simpa using hk)
          match k, a, b with
          | k + 1, a, b => exact ⟨w, by omega, by simpa using b, c⟩
theorem aslot_val (n : Nat) (as : List Value) : ∀ (k : Nat) (v : Value), (aloc1 as)[k]? = some (some v) → (aslot (as.map (sh n)))[k]? = some (Slot.val (sh n v)) := by
  induction as with
  | nil => intro k v; simp [aloc1]
  | cons v r ih =>
    intro k w
    simp only [aloc1, List.map_cons, aslot, sh_cat]
    split
    · match k with
      | 0 => simp; intro h; rw [h]
      | 1 => simp
      | k + 2 => simpa using ih k w
    · match k with
      | 0 => simp; intro h; rw [h]
      | k + 1 => simpa using ih k w
theorem entry_rel (n : Nat) (as : List Value) (maxL : Nat) : Lrel n (aloc as maxL) (argsToLocals (as.map (sh n)).toArray maxL) := by
  have e : argsToLocals (as.map (sh n)).toArray maxL = (aslot (as.map (sh n)) ++ List.replicate (maxL - (aloc1 as).length) Slot.unset).toArray := by
    unfold argsToLocals
    simp only [List.foldl_toArray']
    rw [aslot_eq]
    apply Array.ext'
    simp [aslot_len]
  rw [e]
  have hl := aslot_len n as
  refine ⟨by simp [aloc, hl], ?_, ?_⟩
  · have hw := aslot_wf (as.map (sh n))
    constructor
    · intro k v hk hv
      simp only [List.getElem?_toArray] at hk ⊢
      by_cases h : k < (aslot (as.map (sh n))).length
      · rw [List.getElem?_append_left h] at hk
        have q := hw.1 k v hk hv
        rw [List.getElem?_append_left (List.getElem?_eq_some_iff.mp q).1]; exact q
      · rw [List.getElem?_append_right (by omega), List.getElem?_replicate] at hk
        split at hk <;> cases hk
    · intro k hk
      simp only [List.getElem?_toArray] at hk ⊢
      by_cases h : k < (aslot (as.map (sh n))).length
      · rw [List.getElem?_append_left h] at hk
        obtain ⟨v, a, b, c⟩ := hw.2 k hk
        exact ⟨v, a, by rw [List.getElem?_append_left (List.getElem?_eq_some_iff.mp b).1]; exact b, c⟩
      · rw [List.getElem?_append_right (by omega), List.getElem?_replicate] at hk
        split at hk <;> cases hk
  · intro k v hk
    simp only [List.getElem?_toArray]
    simp only [aloc] at hk
    by_cases h : k < (aloc1 as).length
    · rw [List.getElem?_append_left h] at hk
      rw [List.getElem?_append_left (by rw [hl]; exact h)]; exact aslot_val n as k v hk
    · rw [List.getElem?_append_right (by omega), List.getElem?_replicate] at hk
      split at hk <;> cases hk
/-! the heap -/
def ObjOk (Z : State) (n : Nat) (h : Heap) (a : Addr) : Obj → Prop
  | .inl (ty, vs) => Exa Z h a ("[" ++ ty.toString) ∧ ∃ c : Cell, Arr Z h a c ty ∧ c.slots = (vs.map (sh n)).toArray
  | .inr (t, vs) => Exa Z h a (lay t).1 ∧ vs.length = (lay t).2.length ∧ ∀ (k : Nat) (nd : String × String) (v : Value), (lay t).2[k]? = some nd → vs[k]? = some v → Fld Z h a (lay t).1 nd.1 nd.2 (sh n v)
def Sim (G : Gx) (H : List Obj) (h : Heap) : Prop := h.size = G.2.2.2 + H.length ∧ ∀ (i : Nat) (o : Obj), H[i]? = some o → ObjOk G.2.1 G.2.2.2 h (G.2.2.2 + i) o
def Done (G : Gx) (K : Kx) (rv : Option Value) (Hf : List Obj) (S0 : State) : Prop := match G, K with
  | (l, Z, a0, n), (p, e, R, s, m, args, below, meth, c, kc, ks) =>
    ∃ t o, Steps p.tables e below S0 t ∧ t.status = .running ∧ Ended t below o ∧ ∃ v L, o = .returned v ∧ (v = rv.map (sh n) ∧ Fr n L ∧ Sim (l, Z, a0, n) Hf t.heap ∧ s.heap.size + kc = n + Hf.length) ∧ FrameEnd s o t L kc ks
def Run (G : Gx) (K : Kx) (rv : Option Value) (Hf : List Obj) (pc : Nat) (Ls : List (Option Value)) (st : List Value) (H : List Obj) (cells slots : Nat) : Prop := match G, K with
  | (l, Z, a0, n), (p, e, R, s, m, args, below, meth, c, kc, ks) => ∀ T locs real, Stand p l e R s m args below meth c T locs cells slots → Fr n locs → Sim (l, Z, a0, n) H T.heap → s.heap.size + cells = n + H.length → Lrel n Ls real →
    Done (l, Z, a0, n) (p, e, R, s, m, args, below, meth, c, kc, ks) rv Hf (T.setTop (mkF m pc real (st.map (sh n))))
def Ok (G : Gx) (K : Kx) (own : String) (bytes : ByteArray) (maxL : Nat) (ret : Option FieldType) (R : Room) (mn : String) (kc ks : Nat) : Prop := match G, K with
  | (l, Z, a0, n), (p, e, R', s, m, args, below, meth, c, kc', ks') => p.tables.exec = Jvm.exec ∧ Z.Warmed39 s.vm ∧ s.vm.findClass own = some m.cls ∧ c.code = bytes ∧ c.maxLocals = maxL ∧ meth.sig.returnType = ret ∧ meth.locks = false ∧ R' = R ∧ meth.name = mn ∧ kc' = kc ∧ ks' = ks ∧ ∀ d ∈ tables_1, d.before a0 Z = true
def Con (G : Gx) (y : MethodName) (bytes : ByteArray) (maxL : Nat) (ret : Option FieldType) (rm : Room) (as : List Value) (H : List Obj) (rv : Option Value) (Hf : List Obj) : Prop := match G with
  | (l, Z, a0, n) => ∀ h0, Sim (l, Z, a0, n) H h0 → MetFree l y (head1 [Cond.code y bytes maxL ret] rm) (fun a U => a = (as.map (sh n)).toArray ∧ Z.Warmed39 U.vm ∧ U.heap = h0) (fun _ _ _ _ _ => True)
      (fun _ U o U' => ∃ v L, o = .returned v ∧ (v = rv.map (sh n) ∧ Fr n L ∧ Sim (l, Z, a0, n) Hf U'.heap ∧ Hf.length = H.length + rm.cells) ∧ FrameEnd U o U' L rm.cells rm.slots)
section Laws
variable {G : Gx} {K : Kx} {rv : Option Value} {Hf : List Obj} {pc pc' : Nat} {Ls Ls' : List (Option Value)} {st : List Value} {H : List Obj} {cells slots : Nat} {own : String} {bytes : ByteArray} {maxL : Nat} {ret : Option FieldType} {R : Room} {mn : String} {kc ks : Nat}
theorem Done.step {l : Launch} {Z : State} {a0 : Array Value} {n : Nat} {p : Program} {e : Env} {R : Room} {s : State} {m : MethodId} {args : Array Value} {below : List Frame} {meth : Method} {c : Code} {kc ks : Nat} {S0 S1 : State}
    (h : ∀ t, Steps p.tables e below S1 t → Steps p.tables e below S0 t) (k : Done (l, Z, a0, n) (p, e, R, s, m, args, below, meth, c, kc, ks) rv Hf S1) : Done (l, Z, a0, n) (p, e, R, s, m, args, below, meth, c, kc, ks) rv Hf S0 := by
  obtain ⟨t, o, h1, r⟩ := k
  exact ⟨t, o, h t h1, r⟩
theorem g_iconst {i : Int} {v : Int32} (O : Ok G K own bytes maxL ret R mn kc ks) (hd : decode bytes pc = .ok (.iconst i, 1)) (hv : Int32.ofInt i = v) (hp : pc + 1 = pc')
    (k : Run G K rv Hf pc' Ls (.int v :: st) H cells slots) : Run G K rv Hf pc Ls (st) H cells slots := by
  obtain ⟨l, Z, a0, n⟩ := G; obtain ⟨p, e, R', s, m, args, below, meth, c, kc', ks'⟩ := K
  obtain ⟨hx, hZ, hown, hby, hml, hret, hlk, rfl, hnm, rfl, rfl, hw⟩ := O
  subst hp
  intro T locs real X N S A L
  exact Done.step (fun t q => XT.iconstV X.here hx rfl v (hb hby hd) hv q) (k T locs real X N S A L)
theorem g_bipush {i : Int} {v : Int32} (O : Ok G K own bytes maxL ret R mn kc ks) (hd : decode bytes pc = .ok (.bipush i, 2)) (hv : (Int8.ofInt i).toInt32 = v) (hp : pc + 2 = pc')
    (k : Run G K rv Hf pc' Ls (.int v :: st) H cells slots) : Run G K rv Hf pc Ls (st) H cells slots := by
  obtain ⟨l, Z, a0, n⟩ := G; obtain ⟨p, e, R', s, m, args, below, meth, c, kc', ks'⟩ := K
  obtain ⟨hx, hZ, hown, hby, hml, hret, hlk, rfl, hnm, rfl, rfl, hw⟩ := O
  subst hp
  intro T locs real X N S A L
  exact Done.step (fun t q => XT.bipushV X.here hx rfl v (hb hby hd) hv q) (k T locs real X N S A L)
theorem g_sipush {i : Int} {v : Int32} (O : Ok G K own bytes maxL ret R mn kc ks) (hd : decode bytes pc = .ok (.sipush i, 3)) (hv : (Int16.ofInt i).toInt32 = v) (hp : pc + 3 = pc')
    (k : Run G K rv Hf pc' Ls (.int v :: st) H cells slots) : Run G K rv Hf pc Ls (st) H cells slots := by
  obtain ⟨l, Z, a0, n⟩ := G; obtain ⟨p, e, R', s, m, args, below, meth, c, kc', ks'⟩ := K
  obtain ⟨hx, hZ, hown, hby, hml, hret, hlk, rfl, hnm, rfl, rfl, hw⟩ := O
  subst hp
  intro T locs real X N S A L
  exact Done.step (fun t q => XT.sipushV X.here hx rfl v (hb hby hd) hv q) (k T locs real X N S A L)
theorem g_lconst {i : Fin 2} {v : Int64} (O : Ok G K own bytes maxL ret R mn kc ks) (hd : decode bytes pc = .ok (.lconst i, 1)) (hv : Int64.ofNat i = v) (hp : pc + 1 = pc')
    (k : Run G K rv Hf pc' Ls (.long v :: st) H cells slots) : Run G K rv Hf pc Ls (st) H cells slots := by
  obtain ⟨l, Z, a0, n⟩ := G; obtain ⟨p, e, R', s, m, args, below, meth, c, kc', ks'⟩ := K
  obtain ⟨hx, hZ, hown, hby, hml, hret, hlk, rfl, hnm, rfl, rfl, hw⟩ := O
  subst hp
  intro T locs real X N S A L
  exact Done.step (fun t q => XT.lconstV X.here hx rfl v (hb hby hd) hv q) (k T locs real X N S A L)
theorem g_iadd {x y : Int32} (O : Ok G K own bytes maxL ret R mn kc ks) (hd : decode bytes pc = .ok (.iadd, 1))  (hp : pc + 1 = pc')
    (k : Run G K rv Hf pc' Ls (.int (x + y) :: st) H cells slots) : Run G K rv Hf pc Ls (.int y :: .int x :: st) H cells slots := by
  obtain ⟨l, Z, a0, n⟩ := G; obtain ⟨p, e, R', s, m, args, below, meth, c, kc', ks'⟩ := K
  obtain ⟨hx, hZ, hown, hby, hml, hret, hlk, rfl, hnm, rfl, rfl, hw⟩ := O
  subst hp
  intro T locs real X N S A L
  exact Done.step (fun t q => XS.iadd X.here hx rfl (hb hby hd) rfl q) (k T locs real X N S A L)
theorem g_isub {x y : Int32} (O : Ok G K own bytes maxL ret R mn kc ks) (hd : decode bytes pc = .ok (.isub, 1))  (hp : pc + 1 = pc')
    (k : Run G K rv Hf pc' Ls (.int (x - y) :: st) H cells slots) : Run G K rv Hf pc Ls (.int y :: .int x :: st) H cells slots := by
  obtain ⟨l, Z, a0, n⟩ := G; obtain ⟨p, e, R', s, m, args, below, meth, c, kc', ks'⟩ := K
  obtain ⟨hx, hZ, hown, hby, hml, hret, hlk, rfl, hnm, rfl, rfl, hw⟩ := O
  subst hp
  intro T locs real X N S A L
  exact Done.step (fun t q => XS.isub X.here hx rfl (hb hby hd) rfl q) (k T locs real X N S A L)
theorem g_imul {x y : Int32} (O : Ok G K own bytes maxL ret R mn kc ks) (hd : decode bytes pc = .ok (.imul, 1))  (hp : pc + 1 = pc')
    (k : Run G K rv Hf pc' Ls (.int (x * y) :: st) H cells slots) : Run G K rv Hf pc Ls (.int y :: .int x :: st) H cells slots := by
  obtain ⟨l, Z, a0, n⟩ := G; obtain ⟨p, e, R', s, m, args, below, meth, c, kc', ks'⟩ := K
  obtain ⟨hx, hZ, hown, hby, hml, hret, hlk, rfl, hnm, rfl, rfl, hw⟩ := O
  subst hp
  intro T locs real X N S A L
  exact Done.step (fun t q => XS.imul X.here hx rfl (hb hby hd) rfl q) (k T locs real X N S A L)
theorem g_iand {x y : Int32} (O : Ok G K own bytes maxL ret R mn kc ks) (hd : decode bytes pc = .ok (.iand, 1))  (hp : pc + 1 = pc')
    (k : Run G K rv Hf pc' Ls (.int (x &&& y) :: st) H cells slots) : Run G K rv Hf pc Ls (.int y :: .int x :: st) H cells slots := by
  obtain ⟨l, Z, a0, n⟩ := G; obtain ⟨p, e, R', s, m, args, below, meth, c, kc', ks'⟩ := K
  obtain ⟨hx, hZ, hown, hby, hml, hret, hlk, rfl, hnm, rfl, rfl, hw⟩ := O
  subst hp
  intro T locs real X N S A L
  exact Done.step (fun t q => XS.iand X.here hx rfl (hb hby hd) rfl q) (k T locs real X N S A L)
theorem g_ior {x y : Int32} (O : Ok G K own bytes maxL ret R mn kc ks) (hd : decode bytes pc = .ok (.ior, 1))  (hp : pc + 1 = pc')
    (k : Run G K rv Hf pc' Ls (.int (x ||| y) :: st) H cells slots) : Run G K rv Hf pc Ls (.int y :: .int x :: st) H cells slots := by
  obtain ⟨l, Z, a0, n⟩ := G; obtain ⟨p, e, R', s, m, args, below, meth, c, kc', ks'⟩ := K
  obtain ⟨hx, hZ, hown, hby, hml, hret, hlk, rfl, hnm, rfl, rfl, hw⟩ := O
  subst hp
  intro T locs real X N S A L
  exact Done.step (fun t q => XT.ior X.here hx rfl (hb hby hd) rfl q) (k T locs real X N S A L)
theorem g_ixor {x y : Int32} (O : Ok G K own bytes maxL ret R mn kc ks) (hd : decode bytes pc = .ok (.ixor, 1))  (hp : pc + 1 = pc')
    (k : Run G K rv Hf pc' Ls (.int (x ^^^ y) :: st) H cells slots) : Run G K rv Hf pc Ls (.int y :: .int x :: st) H cells slots := by
  obtain ⟨l, Z, a0, n⟩ := G; obtain ⟨p, e, R', s, m, args, below, meth, c, kc', ks'⟩ := K
  obtain ⟨hx, hZ, hown, hby, hml, hret, hlk, rfl, hnm, rfl, rfl, hw⟩ := O
  subst hp
  intro T locs real X N S A L
  exact Done.step (fun t q => XT.ixor X.here hx rfl (hb hby hd) rfl q) (k T locs real X N S A L)
theorem g_ishl {x y : Int32} (O : Ok G K own bytes maxL ret R mn kc ks) (hd : decode bytes pc = .ok (.ishl, 1))  (hp : pc + 1 = pc')
    (k : Run G K rv Hf pc' Ls (.int (x <<< (y &&& 31)) :: st) H cells slots) : Run G K rv Hf pc Ls (.int y :: .int x :: st) H cells slots := by
  obtain ⟨l, Z, a0, n⟩ := G; obtain ⟨p, e, R', s, m, args, below, meth, c, kc', ks'⟩ := K
  obtain ⟨hx, hZ, hown, hby, hml, hret, hlk, rfl, hnm, rfl, rfl, hw⟩ := O
  subst hp
  intro T locs real X N S A L
  exact Done.step (fun t q => XT.ishl X.here hx rfl (hb hby hd) rfl q) (k T locs real X N S A L)
theorem g_ishr {x y : Int32} (O : Ok G K own bytes maxL ret R mn kc ks) (hd : decode bytes pc = .ok (.ishr, 1))  (hp : pc + 1 = pc')
    (k : Run G K rv Hf pc' Ls (.int (x >>> (y &&& 31)) :: st) H cells slots) : Run G K rv Hf pc Ls (.int y :: .int x :: st) H cells slots := by
  obtain ⟨l, Z, a0, n⟩ := G; obtain ⟨p, e, R', s, m, args, below, meth, c, kc', ks'⟩ := K
  obtain ⟨hx, hZ, hown, hby, hml, hret, hlk, rfl, hnm, rfl, rfl, hw⟩ := O
  subst hp
  intro T locs real X N S A L
  exact Done.step (fun t q => XT.ishr X.here hx rfl (hb hby hd) rfl q) (k T locs real X N S A L)
theorem g_iushr {x y : Int32} (O : Ok G K own bytes maxL ret R mn kc ks) (hd : decode bytes pc = .ok (.iushr, 1))  (hp : pc + 1 = pc')
    (k : Run G K rv Hf pc' Ls (.int (XT.ushr x y) :: st) H cells slots) : Run G K rv Hf pc Ls (.int y :: .int x :: st) H cells slots := by
  obtain ⟨l, Z, a0, n⟩ := G; obtain ⟨p, e, R', s, m, args, below, meth, c, kc', ks'⟩ := K
  obtain ⟨hx, hZ, hown, hby, hml, hret, hlk, rfl, hnm, rfl, rfl, hw⟩ := O
  subst hp
  intro T locs real X N S A L
  exact Done.step (fun t q => XT.iushr X.here hx rfl (hb hby hd) rfl q) (k T locs real X N S A L)
theorem g_ladd {x y : Int64} (O : Ok G K own bytes maxL ret R mn kc ks) (hd : decode bytes pc = .ok (.ladd, 1))  (hp : pc + 1 = pc')
    (k : Run G K rv Hf pc' Ls (.long (x + y) :: st) H cells slots) : Run G K rv Hf pc Ls (.long y :: .long x :: st) H cells slots := by
  obtain ⟨l, Z, a0, n⟩ := G; obtain ⟨p, e, R', s, m, args, below, meth, c, kc', ks'⟩ := K
  obtain ⟨hx, hZ, hown, hby, hml, hret, hlk, rfl, hnm, rfl, rfl, hw⟩ := O
  subst hp
  intro T locs real X N S A L
  exact Done.step (fun t q => XT.ladd X.here hx rfl (hb hby hd) rfl q) (k T locs real X N S A L)
theorem g_lsub {x y : Int64} (O : Ok G K own bytes maxL ret R mn kc ks) (hd : decode bytes pc = .ok (.lsub, 1))  (hp : pc + 1 = pc')
    (k : Run G K rv Hf pc' Ls (.long (x - y) :: st) H cells slots) : Run G K rv Hf pc Ls (.long y :: .long x :: st) H cells slots := by
  obtain ⟨l, Z, a0, n⟩ := G; obtain ⟨p, e, R', s, m, args, below, meth, c, kc', ks'⟩ := K
  obtain ⟨hx, hZ, hown, hby, hml, hret, hlk, rfl, hnm, rfl, rfl, hw⟩ := O
  subst hp
  intro T locs real X N S A L
  exact Done.step (fun t q => XT.lsub X.here hx rfl (hb hby hd) rfl q) (k T locs real X N S A L)
theorem g_lmul {x y : Int64} (O : Ok G K own bytes maxL ret R mn kc ks) (hd : decode bytes pc = .ok (.lmul, 1))  (hp : pc + 1 = pc')
    (k : Run G K rv Hf pc' Ls (.long (x * y) :: st) H cells slots) : Run G K rv Hf pc Ls (.long y :: .long x :: st) H cells slots := by
  obtain ⟨l, Z, a0, n⟩ := G; obtain ⟨p, e, R', s, m, args, below, meth, c, kc', ks'⟩ := K
  obtain ⟨hx, hZ, hown, hby, hml, hret, hlk, rfl, hnm, rfl, rfl, hw⟩ := O
  subst hp
  intro T locs real X N S A L
  exact Done.step (fun t q => XT.lmul X.here hx rfl (hb hby hd) rfl q) (k T locs real X N S A L)
theorem g_land {x y : Int64} (O : Ok G K own bytes maxL ret R mn kc ks) (hd : decode bytes pc = .ok (.land, 1))  (hp : pc + 1 = pc')
    (k : Run G K rv Hf pc' Ls (.long (x &&& y) :: st) H cells slots) : Run G K rv Hf pc Ls (.long y :: .long x :: st) H cells slots := by
  obtain ⟨l, Z, a0, n⟩ := G; obtain ⟨p, e, R', s, m, args, below, meth, c, kc', ks'⟩ := K
  obtain ⟨hx, hZ, hown, hby, hml, hret, hlk, rfl, hnm, rfl, rfl, hw⟩ := O
  subst hp
  intro T locs real X N S A L
  exact Done.step (fun t q => XT.land X.here hx rfl (hb hby hd) rfl q) (k T locs real X N S A L)
theorem g_lor {x y : Int64} (O : Ok G K own bytes maxL ret R mn kc ks) (hd : decode bytes pc = .ok (.lor, 1))  (hp : pc + 1 = pc')
    (k : Run G K rv Hf pc' Ls (.long (x ||| y) :: st) H cells slots) : Run G K rv Hf pc Ls (.long y :: .long x :: st) H cells slots := by
  obtain ⟨l, Z, a0, n⟩ := G; obtain ⟨p, e, R', s, m, args, below, meth, c, kc', ks'⟩ := K
  obtain ⟨hx, hZ, hown, hby, hml, hret, hlk, rfl, hnm, rfl, rfl, hw⟩ := O
  subst hp
  intro T locs real X N S A L
  exact Done.step (fun t q => XT.lor X.here hx rfl (hb hby hd) rfl q) (k T locs real X N S A L)
theorem g_lxor {x y : Int64} (O : Ok G K own bytes maxL ret R mn kc ks) (hd : decode bytes pc = .ok (.lxor, 1))  (hp : pc + 1 = pc')
    (k : Run G K rv Hf pc' Ls (.long (x ^^^ y) :: st) H cells slots) : Run G K rv Hf pc Ls (.long y :: .long x :: st) H cells slots := by
  obtain ⟨l, Z, a0, n⟩ := G; obtain ⟨p, e, R', s, m, args, below, meth, c, kc', ks'⟩ := K
  obtain ⟨hx, hZ, hown, hby, hml, hret, hlk, rfl, hnm, rfl, rfl, hw⟩ := O
  subst hp
  intro T locs real X N S A L
  exact Done.step (fun t q => XT.lxor X.here hx rfl (hb hby hd) rfl q) (k T locs real X N S A L)
theorem g_lshl {x : Int64} {y : Int32} (O : Ok G K own bytes maxL ret R mn kc ks) (hd : decode bytes pc = .ok (.lshl, 1))  (hp : pc + 1 = pc')
    (k : Run G K rv Hf pc' Ls (.long (x <<< (y.toInt64 &&& 63)) :: st) H cells slots) : Run G K rv Hf pc Ls (.int y :: .long x :: st) H cells slots := by
  obtain ⟨l, Z, a0, n⟩ := G; obtain ⟨p, e, R', s, m, args, below, meth, c, kc', ks'⟩ := K
  obtain ⟨hx, hZ, hown, hby, hml, hret, hlk, rfl, hnm, rfl, rfl, hw⟩ := O
  subst hp
  intro T locs real X N S A L
  exact Done.step (fun t q => XT.lshl X.here hx rfl (hb hby hd) rfl q) (k T locs real X N S A L)
theorem g_lshr {x : Int64} {y : Int32} (O : Ok G K own bytes maxL ret R mn kc ks) (hd : decode bytes pc = .ok (.lshr, 1))  (hp : pc + 1 = pc')
    (k : Run G K rv Hf pc' Ls (.long (x >>> (y.toInt64 &&& 63)) :: st) H cells slots) : Run G K rv Hf pc Ls (.int y :: .long x :: st) H cells slots := by
  obtain ⟨l, Z, a0, n⟩ := G; obtain ⟨p, e, R', s, m, args, below, meth, c, kc', ks'⟩ := K
  obtain ⟨hx, hZ, hown, hby, hml, hret, hlk, rfl, hnm, rfl, rfl, hw⟩ := O
  subst hp
  intro T locs real X N S A L
  exact Done.step (fun t q => XT.lshr X.here hx rfl (hb hby hd) rfl q) (k T locs real X N S A L)
theorem g_lushr {x : Int64} {y : Int32} (O : Ok G K own bytes maxL ret R mn kc ks) (hd : decode bytes pc = .ok (.lushr, 1))  (hp : pc + 1 = pc')
    (k : Run G K rv Hf pc' Ls (.long (XT.ushrL x y) :: st) H cells slots) : Run G K rv Hf pc Ls (.int y :: .long x :: st) H cells slots := by
  obtain ⟨l, Z, a0, n⟩ := G; obtain ⟨p, e, R', s, m, args, below, meth, c, kc', ks'⟩ := K
  obtain ⟨hx, hZ, hown, hby, hml, hret, hlk, rfl, hnm, rfl, rfl, hw⟩ := O
  subst hp
  intro T locs real X N S A L
  exact Done.step (fun t q => XT.lushr X.here hx rfl (hb hby hd) rfl q) (k T locs real X N S A L)
theorem g_idiv {x y : Int32} (O : Ok G K own bytes maxL ret R mn kc ks) (hd : decode bytes pc = .ok (.idiv, 1)) (hy : y ≠ 0) (hp : pc + 1 = pc')
    (k : Run G K rv Hf pc' Ls (.int (x / y) :: st) H cells slots) : Run G K rv Hf pc Ls (.int y :: .int x :: st) H cells slots := by
  obtain ⟨l, Z, a0, n⟩ := G; obtain ⟨p, e, R', s, m, args, below, meth, c, kc', ks'⟩ := K
  obtain ⟨hx, hZ, hown, hby, hml, hret, hlk, rfl, hnm, rfl, rfl, hw⟩ := O
  subst hp
  intro T locs real X N S A L
  exact Done.step (fun t q => XS.idiv X.here hx rfl (hb hby hd) rfl hy q) (k T locs real X N S A L)
theorem g_irem {x y : Int32} (O : Ok G K own bytes maxL ret R mn kc ks) (hd : decode bytes pc = .ok (.irem, 1)) (hy : y ≠ 0) (hp : pc + 1 = pc')
    (k : Run G K rv Hf pc' Ls (.int (x % y) :: st) H cells slots) : Run G K rv Hf pc Ls (.int y :: .int x :: st) H cells slots := by
  obtain ⟨l, Z, a0, n⟩ := G; obtain ⟨p, e, R', s, m, args, below, meth, c, kc', ks'⟩ := K
  obtain ⟨hx, hZ, hown, hby, hml, hret, hlk, rfl, hnm, rfl, rfl, hw⟩ := O
  subst hp
  intro T locs real X N S A L
  exact Done.step (fun t q => iremM X hx rfl (hb hby hd) rfl hy q) (k T locs real X N S A L)
theorem g_ldiv {x y : Int64} (O : Ok G K own bytes maxL ret R mn kc ks) (hd : decode bytes pc = .ok (.ldiv, 1)) (hy : y ≠ 0) (hp : pc + 1 = pc')
    (k : Run G K rv Hf pc' Ls (.long (x / y) :: st) H cells slots) : Run G K rv Hf pc Ls (.long y :: .long x :: st) H cells slots := by
  obtain ⟨l, Z, a0, n⟩ := G; obtain ⟨p, e, R', s, m, args, below, meth, c, kc', ks'⟩ := K
  obtain ⟨hx, hZ, hown, hby, hml, hret, hlk, rfl, hnm, rfl, rfl, hw⟩ := O
  subst hp
  intro T locs real X N S A L
  exact Done.step (fun t q => XT.ldiv X.here hx rfl (hb hby hd) rfl hy q) (k T locs real X N S A L)
theorem g_lrem {x y : Int64} (O : Ok G K own bytes maxL ret R mn kc ks) (hd : decode bytes pc = .ok (.lrem, 1)) (hy : y ≠ 0) (hp : pc + 1 = pc')
    (k : Run G K rv Hf pc' Ls (.long (x % y) :: st) H cells slots) : Run G K rv Hf pc Ls (.long y :: .long x :: st) H cells slots := by
  obtain ⟨l, Z, a0, n⟩ := G; obtain ⟨p, e, R', s, m, args, below, meth, c, kc', ks'⟩ := K
  obtain ⟨hx, hZ, hown, hby, hml, hret, hlk, rfl, hnm, rfl, rfl, hw⟩ := O
  subst hp
  intro T locs real X N S A L
  exact Done.step (fun t q => XT.lrem X.here hx rfl (hb hby hd) rfl hy (by rw [lrem_mod]; exact q)) (k T locs real X N S A L)
theorem g_i2l {x : Int32} (O : Ok G K own bytes maxL ret R mn kc ks) (hd : decode bytes pc = .ok (.i2l, 1))  (hp : pc + 1 = pc')
    (k : Run G K rv Hf pc' Ls (.long x.toInt64 :: st) H cells slots) : Run G K rv Hf pc Ls (.int x :: st) H cells slots := by
  obtain ⟨l, Z, a0, n⟩ := G; obtain ⟨p, e, R', s, m, args, below, meth, c, kc', ks'⟩ := K
  obtain ⟨hx, hZ, hown, hby, hml, hret, hlk, rfl, hnm, rfl, rfl, hw⟩ := O
  subst hp
  intro T locs real X N S A L
  exact Done.step (fun t q => XT.i2l X.here hx rfl (hb hby hd) rfl q) (k T locs real X N S A L)
theorem g_l2i {x : Int64} (O : Ok G K own bytes maxL ret R mn kc ks) (hd : decode bytes pc = .ok (.l2i, 1))  (hp : pc + 1 = pc')
    (k : Run G K rv Hf pc' Ls (.int x.toInt32 :: st) H cells slots) : Run G K rv Hf pc Ls (.long x :: st) H cells slots := by
  obtain ⟨l, Z, a0, n⟩ := G; obtain ⟨p, e, R', s, m, args, below, meth, c, kc', ks'⟩ := K
  obtain ⟨hx, hZ, hown, hby, hml, hret, hlk, rfl, hnm, rfl, rfl, hw⟩ := O
  subst hp
  intro T locs real X N S A L
  exact Done.step (fun t q => XT.l2i X.here hx rfl (hb hby hd) rfl q) (k T locs real X N S A L)
theorem g_i2b {x : Int32} (O : Ok G K own bytes maxL ret R mn kc ks) (hd : decode bytes pc = .ok (.i2b, 1))  (hp : pc + 1 = pc')
    (k : Run G K rv Hf pc' Ls (.int x.toInt8.toInt32 :: st) H cells slots) : Run G K rv Hf pc Ls (.int x :: st) H cells slots := by
  obtain ⟨l, Z, a0, n⟩ := G; obtain ⟨p, e, R', s, m, args, below, meth, c, kc', ks'⟩ := K
  obtain ⟨hx, hZ, hown, hby, hml, hret, hlk, rfl, hnm, rfl, rfl, hw⟩ := O
  subst hp
  intro T locs real X N S A L
  exact Done.step (fun t q => XT.i2b X.here hx rfl (hb hby hd) rfl q) (k T locs real X N S A L)
theorem g_i2c {x : Int32} (O : Ok G K own bytes maxL ret R mn kc ks) (hd : decode bytes pc = .ok (.i2c, 1))  (hp : pc + 1 = pc')
    (k : Run G K rv Hf pc' Ls (.int x.toUInt32.toUInt16.toUInt32.toInt32 :: st) H cells slots) : Run G K rv Hf pc Ls (.int x :: st) H cells slots := by
  obtain ⟨l, Z, a0, n⟩ := G; obtain ⟨p, e, R', s, m, args, below, meth, c, kc', ks'⟩ := K
  obtain ⟨hx, hZ, hown, hby, hml, hret, hlk, rfl, hnm, rfl, rfl, hw⟩ := O
  subst hp
  intro T locs real X N S A L
  exact Done.step (fun t q => XT.i2c X.here hx rfl (hb hby hd) rfl q) (k T locs real X N S A L)
theorem g_dup {x : Value} (O : Ok G K own bytes maxL ret R mn kc ks) (hd : decode bytes pc = .ok (.dup, 1)) (hc : x.category = 1) (hp : pc + 1 = pc')
    (k : Run G K rv Hf pc' Ls (x :: x :: st) H cells slots) : Run G K rv Hf pc Ls (x :: st) H cells slots := by
  obtain ⟨l, Z, a0, n⟩ := G; obtain ⟨p, e, R', s, m, args, below, meth, c, kc', ks'⟩ := K
  obtain ⟨hx, hZ, hown, hby, hml, hret, hlk, rfl, hnm, rfl, rfl, hw⟩ := O
  subst hp
  intro T locs real X N S A L
  exact Done.step (fun t q => XS.dup X.here hx rfl (hb hby hd) rfl ((sh_cat n x).trans hc) q) (k T locs real X N S A L)
theorem g_dup_x1 {x y : Value} (O : Ok G K own bytes maxL ret R mn kc ks) (hd : decode bytes pc = .ok (.dup_x1, 1)) (hc : x.category = 1) (hc' : y.category = 1) (hp : pc + 1 = pc')
    (k : Run G K rv Hf pc' Ls (x :: y :: x :: st) H cells slots) : Run G K rv Hf pc Ls (x :: y :: st) H cells slots := by
  obtain ⟨l, Z, a0, n⟩ := G; obtain ⟨p, e, R', s, m, args, below, meth, c, kc', ks'⟩ := K
  obtain ⟨hx, hZ, hown, hby, hml, hret, hlk, rfl, hnm, rfl, rfl, hw⟩ := O
  subst hp
  intro T locs real X N S A L
  exact Done.step (fun t q => XT.dupX1 X.here hx rfl (hb hby hd) rfl ((sh_cat n x).trans hc) ((sh_cat n y).trans hc') q) (k T locs real X N S A L)
theorem g_pop {x : Value} (O : Ok G K own bytes maxL ret R mn kc ks) (hd : decode bytes pc = .ok (.pop, 1)) (hc : x.category = 1) (hp : pc + 1 = pc')
    (k : Run G K rv Hf pc' Ls (st) H cells slots) : Run G K rv Hf pc Ls (x :: st) H cells slots := by
  obtain ⟨l, Z, a0, n⟩ := G; obtain ⟨p, e, R', s, m, args, below, meth, c, kc', ks'⟩ := K
  obtain ⟨hx, hZ, hown, hby, hml, hret, hlk, rfl, hnm, rfl, rfl, hw⟩ := O
  subst hp
  intro T locs real X N S A L
  exact Done.step (fun t q => XT.pop X.here hx rfl (hb hby hd) rfl ((sh_cat n x).trans hc) q) (k T locs real X N S A L)
theorem g_iload {j : Nat} {v : Int32} (O : Ok G K own bytes maxL ret R mn kc ks) (hd : decode bytes pc = .ok (.iload j, 2)) (hl : Ls[j]? = some (some (.int v))) (hp : pc + 2 = pc')
    (k : Run G K rv Hf pc' Ls (.int v :: st) H cells slots) : Run G K rv Hf pc Ls st H cells slots := by
  obtain ⟨l, Z, a0, n⟩ := G; obtain ⟨p, e, R', s, m, args, below, meth, c, kc', ks'⟩ := K
  obtain ⟨hx, hZ, hown, hby, hml, hret, hlk, rfl, hnm, rfl, rfl, hw⟩ := O
  subst hp
  intro T locs real X N S A L
  exact Done.step (fun t q => XS.iload X.here hx rfl (hb hby hd) (L.2.2 _ _ hl) q) (k T locs real X N S A L)
theorem g_iload_n {j : Fin 4} {v : Int32} (O : Ok G K own bytes maxL ret R mn kc ks) (hd : decode bytes pc = .ok (.iload_n j, 1)) (hl : Ls[j.val]? = some (some (.int v))) (hp : pc + 1 = pc')
    (k : Run G K rv Hf pc' Ls (.int v :: st) H cells slots) : Run G K rv Hf pc Ls st H cells slots := by
  obtain ⟨l, Z, a0, n⟩ := G; obtain ⟨p, e, R', s, m, args, below, meth, c, kc', ks'⟩ := K
  obtain ⟨hx, hZ, hown, hby, hml, hret, hlk, rfl, hnm, rfl, rfl, hw⟩ := O
  subst hp
  intro T locs real X N S A L
  exact Done.step (fun t q => XS.iloadN X.here hx rfl (hb hby hd) (L.2.2 _ _ hl) q) (k T locs real X N S A L)
theorem g_lload {j : Nat} {v : Int64} (O : Ok G K own bytes maxL ret R mn kc ks) (hd : decode bytes pc = .ok (.lload j, 2)) (hl : Ls[j]? = some (some (.long v))) (hp : pc + 2 = pc')
    (k : Run G K rv Hf pc' Ls (.long v :: st) H cells slots) : Run G K rv Hf pc Ls st H cells slots := by
  obtain ⟨l, Z, a0, n⟩ := G; obtain ⟨p, e, R', s, m, args, below, meth, c, kc', ks'⟩ := K
  obtain ⟨hx, hZ, hown, hby, hml, hret, hlk, rfl, hnm, rfl, rfl, hw⟩ := O
  subst hp
  intro T locs real X N S A L
  exact Done.step (fun t q => XT.lload X.here hx rfl (hb hby hd) (L.2.2 _ _ hl) q) (k T locs real X N S A L)
theorem g_lload_n {j : Fin 4} {v : Int64} (O : Ok G K own bytes maxL ret R mn kc ks) (hd : decode bytes pc = .ok (.lload_n j, 1)) (hl : Ls[j.val]? = some (some (.long v))) (hp : pc + 1 = pc')
    (k : Run G K rv Hf pc' Ls (.long v :: st) H cells slots) : Run G K rv Hf pc Ls st H cells slots := by
  obtain ⟨l, Z, a0, n⟩ := G; obtain ⟨p, e, R', s, m, args, below, meth, c, kc', ks'⟩ := K
  obtain ⟨hx, hZ, hown, hby, hml, hret, hlk, rfl, hnm, rfl, rfl, hw⟩ := O
  subst hp
  intro T locs real X N S A L
  exact Done.step (fun t q => XT.lloadN X.here hx rfl (hb hby hd) (L.2.2 _ _ hl) q) (k T locs real X N S A L)
theorem g_aload {j : Nat} {v : Nat} (O : Ok G K own bytes maxL ret R mn kc ks) (hd : decode bytes pc = .ok (.aload j, 2)) (hl : Ls[j]? = some (some (.ref v))) (hp : pc + 2 = pc')
    (k : Run G K rv Hf pc' Ls (.ref v :: st) H cells slots) : Run G K rv Hf pc Ls st H cells slots := by
  obtain ⟨l, Z, a0, n⟩ := G; obtain ⟨p, e, R', s, m, args, below, meth, c, kc', ks'⟩ := K
  obtain ⟨hx, hZ, hown, hby, hml, hret, hlk, rfl, hnm, rfl, rfl, hw⟩ := O
  subst hp
  intro T locs real X N S A L
  exact Done.step (fun t q => XS.aload X.here hx rfl (hb hby hd) (L.2.2 _ _ hl) rfl q) (k T locs real X N S A L)
theorem g_aload_n {j : Fin 4} {v : Nat} (O : Ok G K own bytes maxL ret R mn kc ks) (hd : decode bytes pc = .ok (.aload_n j, 1)) (hl : Ls[j.val]? = some (some (.ref v))) (hp : pc + 1 = pc')
    (k : Run G K rv Hf pc' Ls (.ref v :: st) H cells slots) : Run G K rv Hf pc Ls st H cells slots := by
  obtain ⟨l, Z, a0, n⟩ := G; obtain ⟨p, e, R', s, m, args, below, meth, c, kc', ks'⟩ := K
  obtain ⟨hx, hZ, hown, hby, hml, hret, hlk, rfl, hnm, rfl, rfl, hw⟩ := O
  subst hp
  intro T locs real X N S A L
  exact Done.step (fun t q => XS.aloadN X.here hx rfl (hb hby hd) (L.2.2 _ _ hl) rfl q) (k T locs real X N S A L)
theorem g_istore {j : Nat} {v : Int32} (O : Ok G K own bytes maxL ret R mn kc ks) (hd : decode bytes pc = .ok (.istore j, 2)) (hl : stor Ls j (.int v) = some Ls') (hp : pc + 2 = pc')
    (k : Run G K rv Hf pc' Ls' st H cells slots) : Run G K rv Hf pc Ls (.int v :: st) H cells slots := by
  obtain ⟨l, Z, a0, n⟩ := G; obtain ⟨p, e, R', s, m, args, below, meth, c, kc', ks'⟩ := K
  obtain ⟨hx, hZ, hown, hby, hml, hret, hlk, rfl, hnm, rfl, rfl, hw⟩ := O
  subst hp
  intro T locs real X N S A L
  obtain ⟨real', e1, L'⟩ := store_1 L rfl hl
  exact Done.step (fun t q => XS.istore X.here hx rfl (hb hby hd) rfl e1 q) (k T locs real' X N S A L')
theorem g_istore_n {j : Fin 4} {v : Int32} (O : Ok G K own bytes maxL ret R mn kc ks) (hd : decode bytes pc = .ok (.istore_n j, 1)) (hl : stor Ls j.val (.int v) = some Ls') (hp : pc + 1 = pc')
    (k : Run G K rv Hf pc' Ls' st H cells slots) : Run G K rv Hf pc Ls (.int v :: st) H cells slots := by
  obtain ⟨l, Z, a0, n⟩ := G; obtain ⟨p, e, R', s, m, args, below, meth, c, kc', ks'⟩ := K
  obtain ⟨hx, hZ, hown, hby, hml, hret, hlk, rfl, hnm, rfl, rfl, hw⟩ := O
  subst hp
  intro T locs real X N S A L
  obtain ⟨real', e1, L'⟩ := store_1 L rfl hl
  exact Done.step (fun t q => XS.istoreN X.here hx rfl (hb hby hd) rfl e1 q) (k T locs real' X N S A L')
theorem g_lstore {j : Nat} {v : Int64} (O : Ok G K own bytes maxL ret R mn kc ks) (hd : decode bytes pc = .ok (.lstore j, 2)) (hl : stor Ls j (.long v) = some Ls') (hp : pc + 2 = pc')
    (k : Run G K rv Hf pc' Ls' st H cells slots) : Run G K rv Hf pc Ls (.long v :: st) H cells slots := by
  obtain ⟨l, Z, a0, n⟩ := G; obtain ⟨p, e, R', s, m, args, below, meth, c, kc', ks'⟩ := K
  obtain ⟨hx, hZ, hown, hby, hml, hret, hlk, rfl, hnm, rfl, rfl, hw⟩ := O
  subst hp
  intro T locs real X N S A L
  obtain ⟨real', e1, L'⟩ := store_2 L rfl hl
  exact Done.step (fun t q => XT.lstore X.here hx rfl (hb hby hd) rfl e1 q) (k T locs real' X N S A L')
theorem g_lstore_n {j : Fin 4} {v : Int64} (O : Ok G K own bytes maxL ret R mn kc ks) (hd : decode bytes pc = .ok (.lstore_n j, 1)) (hl : stor Ls j.val (.long v) = some Ls') (hp : pc + 1 = pc')
    (k : Run G K rv Hf pc' Ls' st H cells slots) : Run G K rv Hf pc Ls (.long v :: st) H cells slots := by
  obtain ⟨l, Z, a0, n⟩ := G; obtain ⟨p, e, R', s, m, args, below, meth, c, kc', ks'⟩ := K
  obtain ⟨hx, hZ, hown, hby, hml, hret, hlk, rfl, hnm, rfl, rfl, hw⟩ := O
  subst hp
  intro T locs real X N S A L
  obtain ⟨real', e1, L'⟩ := store_2 L rfl hl
  exact Done.step (fun t q => XT.lstoreN X.here hx rfl (hb hby hd) rfl e1 q) (k T locs real' X N S A L')
theorem g_astore {j : Nat} {v : Nat} (O : Ok G K own bytes maxL ret R mn kc ks) (hd : decode bytes pc = .ok (.astore j, 2)) (hl : stor Ls j (.ref v) = some Ls') (hp : pc + 2 = pc')
    (k : Run G K rv Hf pc' Ls' st H cells slots) : Run G K rv Hf pc Ls (.ref v :: st) H cells slots := by
  obtain ⟨l, Z, a0, n⟩ := G; obtain ⟨p, e, R', s, m, args, below, meth, c, kc', ks'⟩ := K
  obtain ⟨hx, hZ, hown, hby, hml, hret, hlk, rfl, hnm, rfl, rfl, hw⟩ := O
  subst hp
  intro T locs real X N S A L
  obtain ⟨real', e1, L'⟩ := store_1 L rfl hl
  exact Done.step (fun t q => XS.astore X.here hx rfl (hb hby hd) rfl rfl e1 q) (k T locs real' X N S A L')
theorem g_astore_n {j : Fin 4} {v : Nat} (O : Ok G K own bytes maxL ret R mn kc ks) (hd : decode bytes pc = .ok (.astore_n j, 1)) (hl : stor Ls j.val (.ref v) = some Ls') (hp : pc + 1 = pc')
    (k : Run G K rv Hf pc' Ls' st H cells slots) : Run G K rv Hf pc Ls (.ref v :: st) H cells slots := by
  obtain ⟨l, Z, a0, n⟩ := G; obtain ⟨p, e, R', s, m, args, below, meth, c, kc', ks'⟩ := K
  obtain ⟨hx, hZ, hown, hby, hml, hret, hlk, rfl, hnm, rfl, rfl, hw⟩ := O
  subst hp
  intro T locs real X N S A L
  obtain ⟨real', e1, L'⟩ := store_1 L rfl hl
  exact Done.step (fun t q => XS.astoreN X.here hx rfl (hb hby hd) rfl rfl e1 q) (k T locs real' X N S A L')
theorem g_iinc {j : Nat} {i : Int} {v w : Int32} (O : Ok G K own bytes maxL ret R mn kc ks) (hd : decode bytes pc = .ok (.iinc j i, 3)) (hv : Int32.ofInt i = w) (hg : Ls[j]? = some (some (.int v))) (hl : stor Ls j (.int (v + w)) = some Ls') (hp : pc + 3 = pc')
    (k : Run G K rv Hf pc' Ls' st H cells slots) : Run G K rv Hf pc Ls st H cells slots := by
  obtain ⟨l, Z, a0, n⟩ := G; obtain ⟨p, e, R', s, m, args, below, meth, c, kc', ks'⟩ := K
  obtain ⟨hx, hZ, hown, hby, hml, hret, hlk, rfl, hnm, rfl, rfl, hw⟩ := O
  subst hp
  intro T locs real X N S A L
  obtain ⟨real', e1, L'⟩ := store_1 L rfl hl
  exact Done.step (fun t q => XT.iincV X.here hx rfl w (hb hby hd) hv (L.2.2 _ _ hg) e1 q) (k T locs real' X N S A L')
theorem g_goto {o : Int} (O : Ok G K own bytes maxL ret R mn kc ks) (hd : decode bytes pc = .ok (.goto o, 3)) (ho : 0 ≤ (pc : Int) + o) (hp : ((pc : Int) + o).toNat = pc')
    (k : Run G K rv Hf pc' Ls st H cells slots) : Run G K rv Hf pc Ls st H cells slots := by
  obtain ⟨l, Z, a0, n⟩ := G; obtain ⟨p, e, R', s, m, args, below, meth, c, kc', ks'⟩ := K
  obtain ⟨hx, hZ, hown, hby, hml, hret, hlk, rfl, hnm, rfl, rfl, hw⟩ := O
  intro T locs real X N S A L
  exact Done.step (fun t q => XS.goto X.here hx rfl (pc0 := pc) rfl (hb hby hd) ho hp q) (k T locs real X N S A L)
theorem g_icmp_eq {x y : Int32} {o : Int} {pc1 : Nat} (O : Ok G K own bytes maxL ret R mn kc ks) (hd : decode bytes pc = .ok (.if_icmp .eq o, 3)) (hp : pc + 3 = pc') (ho : 0 ≤ (pc : Int) + o) (ht : ((pc : Int) + o).toNat = pc1)
    (kt : x = y → Run G K rv Hf pc1 Ls st H cells slots) (kf : ¬ x = y → Run G K rv Hf pc' Ls st H cells slots) : Run G K rv Hf pc Ls (.int y :: .int x :: st) H cells slots := by
  obtain ⟨l, Z, a0, n⟩ := G; obtain ⟨p, e, R', s, m, args, below, meth, c, kc', ks'⟩ := K
  obtain ⟨hx, hZ, hown, hby, hml, hret, hlk, rfl, hnm, rfl, rfl, hw⟩ := O
  subst hp
  intro T locs real X N S A L
  by_cases h : x = y
  · exact Done.step (fun t q => XS.icmpYes X.here hx rfl (pc0 := pc) rfl (hb hby hd) rfl (XT.ii_eq_t h) ho ht q) (kt h T locs real X N S A L)
  · exact Done.step (fun t q => XS.icmpNo X.here hx rfl (hb hby hd) rfl (XT.ii_eq_f h) q) (kf h T locs real X N S A L)
theorem g_if_eq {x : Int32} {o : Int} {pc1 : Nat} (O : Ok G K own bytes maxL ret R mn kc ks) (hd : decode bytes pc = .ok (.ifCond .eq o, 3)) (hp : pc + 3 = pc') (ho : 0 ≤ (pc : Int) + o) (ht : ((pc : Int) + o).toNat = pc1)
    (kt : x = 0 → Run G K rv Hf pc1 Ls st H cells slots) (kf : ¬ x = 0 → Run G K rv Hf pc' Ls st H cells slots) : Run G K rv Hf pc Ls (.int x :: st) H cells slots := by
  obtain ⟨l, Z, a0, n⟩ := G; obtain ⟨p, e, R', s, m, args, below, meth, c, kc', ks'⟩ := K
  obtain ⟨hx, hZ, hown, hby, hml, hret, hlk, rfl, hnm, rfl, rfl, hw⟩ := O
  subst hp
  intro T locs real X N S A L
  by_cases h : x = 0
  · exact Done.step (fun t q => XS.ifYes X.here hx rfl (pc0 := pc) rfl (hb hby hd) rfl (XT.i0_eq_t h) ho ht q) (kt h T locs real X N S A L)
  · exact Done.step (fun t q => XS.ifNo X.here hx rfl (hb hby hd) rfl (XT.i0_eq_f h) q) (kf h T locs real X N S A L)
theorem g_lcmp_eq {x y : Int64} {pq : Nat} {o : Int} {pc1 : Nat} (O : Ok G K own bytes maxL ret R mn kc ks) (hd0 : decode bytes pc = .ok (.lcmp, 1)) (hq : pc + 1 = pq) (hd : decode bytes pq = .ok (.ifCond .eq o, 3)) (hp : pq + 3 = pc') (ho : 0 ≤ (pq : Int) + o) (ht : ((pq : Int) + o).toNat = pc1)
    (kt : x = y → Run G K rv Hf pc1 Ls st H cells slots) (kf : ¬ x = y → Run G K rv Hf pc' Ls st H cells slots) : Run G K rv Hf pc Ls (.long y :: .long x :: st) H cells slots := by
  obtain ⟨l, Z, a0, n⟩ := G; obtain ⟨p, e, R', s, m, args, below, meth, c, kc', ks'⟩ := K
  obtain ⟨hx, hZ, hown, hby, hml, hret, hlk, rfl, hnm, rfl, rfl, hw⟩ := O
  subst hq
  subst hp
  intro T locs real X N S A L
  by_cases h : x = y
  · exact Done.step (fun t q => XT.lcmp X.here hx rfl (hb hby hd0) rfl (XS.ifYes X.here hx rfl (pc0 := pc + 1) rfl (hb hby hd) rfl (XT.ll_eq_t h) ho ht q)) (kt h T locs real X N S A L)
  · exact Done.step (fun t q => XT.lcmp X.here hx rfl (hb hby hd0) rfl (XS.ifNo X.here hx rfl (hb hby hd) rfl (XT.ll_eq_f h) q)) (kf h T locs real X N S A L)
theorem g_icmp_ne {x y : Int32} {o : Int} {pc1 : Nat} (O : Ok G K own bytes maxL ret R mn kc ks) (hd : decode bytes pc = .ok (.if_icmp .ne o, 3)) (hp : pc + 3 = pc') (ho : 0 ≤ (pc : Int) + o) (ht : ((pc : Int) + o).toNat = pc1)
    (kt : ¬ x = y → Run G K rv Hf pc1 Ls st H cells slots) (kf : x = y → Run G K rv Hf pc' Ls st H cells slots) : Run G K rv Hf pc Ls (.int y :: .int x :: st) H cells slots := by
  obtain ⟨l, Z, a0, n⟩ := G; obtain ⟨p, e, R', s, m, args, below, meth, c, kc', ks'⟩ := K
  obtain ⟨hx, hZ, hown, hby, hml, hret, hlk, rfl, hnm, rfl, rfl, hw⟩ := O
  subst hp
  intro T locs real X N S A L
  by_cases h : x = y
  · exact Done.step (fun t q => XS.icmpNo X.here hx rfl (hb hby hd) rfl (XT.ii_ne_f h) q) (kf h T locs real X N S A L)
  · exact Done.step (fun t q => XS.icmpYes X.here hx rfl (pc0 := pc) rfl (hb hby hd) rfl (XT.ii_ne_t h) ho ht q) (kt h T locs real X N S A L)
theorem g_if_ne {x : Int32} {o : Int} {pc1 : Nat} (O : Ok G K own bytes maxL ret R mn kc ks) (hd : decode bytes pc = .ok (.ifCond .ne o, 3)) (hp : pc + 3 = pc') (ho : 0 ≤ (pc : Int) + o) (ht : ((pc : Int) + o).toNat = pc1)
    (kt : ¬ x = 0 → Run G K rv Hf pc1 Ls st H cells slots) (kf : x = 0 → Run G K rv Hf pc' Ls st H cells slots) : Run G K rv Hf pc Ls (.int x :: st) H cells slots := by
  obtain ⟨l, Z, a0, n⟩ := G; obtain ⟨p, e, R', s, m, args, below, meth, c, kc', ks'⟩ := K
  obtain ⟨hx, hZ, hown, hby, hml, hret, hlk, rfl, hnm, rfl, rfl, hw⟩ := O
  subst hp
  intro T locs real X N S A L
  by_cases h : x = 0
  · exact Done.step (fun t q => XS.ifNo X.here hx rfl (hb hby hd) rfl (XT.i0_ne_f h) q) (kf h T locs real X N S A L)
  · exact Done.step (fun t q => XS.ifYes X.here hx rfl (pc0 := pc) rfl (hb hby hd) rfl (XT.i0_ne_t h) ho ht q) (kt h T locs real X N S A L)
theorem g_lcmp_ne {x y : Int64} {pq : Nat} {o : Int} {pc1 : Nat} (O : Ok G K own bytes maxL ret R mn kc ks) (hd0 : decode bytes pc = .ok (.lcmp, 1)) (hq : pc + 1 = pq) (hd : decode bytes pq = .ok (.ifCond .ne o, 3)) (hp : pq + 3 = pc') (ho : 0 ≤ (pq : Int) + o) (ht : ((pq : Int) + o).toNat = pc1)
    (kt : ¬ x = y → Run G K rv Hf pc1 Ls st H cells slots) (kf : x = y → Run G K rv Hf pc' Ls st H cells slots) : Run G K rv Hf pc Ls (.long y :: .long x :: st) H cells slots := by
  obtain ⟨l, Z, a0, n⟩ := G; obtain ⟨p, e, R', s, m, args, below, meth, c, kc', ks'⟩ := K
  obtain ⟨hx, hZ, hown, hby, hml, hret, hlk, rfl, hnm, rfl, rfl, hw⟩ := O
  subst hq
  subst hp
  intro T locs real X N S A L
  by_cases h : x = y
  · exact Done.step (fun t q => XT.lcmp X.here hx rfl (hb hby hd0) rfl (XS.ifNo X.here hx rfl (hb hby hd) rfl (XT.ll_ne_f h) q)) (kf h T locs real X N S A L)
  · exact Done.step (fun t q => XT.lcmp X.here hx rfl (hb hby hd0) rfl (XS.ifYes X.here hx rfl (pc0 := pc + 1) rfl (hb hby hd) rfl (XT.ll_ne_t h) ho ht q)) (kt h T locs real X N S A L)
theorem g_icmp_lt {x y : Int32} {o : Int} {pc1 : Nat} (O : Ok G K own bytes maxL ret R mn kc ks) (hd : decode bytes pc = .ok (.if_icmp .lt o, 3)) (hp : pc + 3 = pc') (ho : 0 ≤ (pc : Int) + o) (ht : ((pc : Int) + o).toNat = pc1)
    (kt : x < y → Run G K rv Hf pc1 Ls st H cells slots) (kf : ¬ x < y → Run G K rv Hf pc' Ls st H cells slots) : Run G K rv Hf pc Ls (.int y :: .int x :: st) H cells slots := by
  obtain ⟨l, Z, a0, n⟩ := G; obtain ⟨p, e, R', s, m, args, below, meth, c, kc', ks'⟩ := K
  obtain ⟨hx, hZ, hown, hby, hml, hret, hlk, rfl, hnm, rfl, rfl, hw⟩ := O
  subst hp
  intro T locs real X N S A L
  by_cases h : x < y
  · exact Done.step (fun t q => XS.icmpYes X.here hx rfl (pc0 := pc) rfl (hb hby hd) rfl (XT.ii_lt_t h) ho ht q) (kt h T locs real X N S A L)
  · exact Done.step (fun t q => XS.icmpNo X.here hx rfl (hb hby hd) rfl (XT.ii_lt_f h) q) (kf h T locs real X N S A L)
theorem g_if_lt {x : Int32} {o : Int} {pc1 : Nat} (O : Ok G K own bytes maxL ret R mn kc ks) (hd : decode bytes pc = .ok (.ifCond .lt o, 3)) (hp : pc + 3 = pc') (ho : 0 ≤ (pc : Int) + o) (ht : ((pc : Int) + o).toNat = pc1)
    (kt : x < 0 → Run G K rv Hf pc1 Ls st H cells slots) (kf : ¬ x < 0 → Run G K rv Hf pc' Ls st H cells slots) : Run G K rv Hf pc Ls (.int x :: st) H cells slots := by
  obtain ⟨l, Z, a0, n⟩ := G; obtain ⟨p, e, R', s, m, args, below, meth, c, kc', ks'⟩ := K
  obtain ⟨hx, hZ, hown, hby, hml, hret, hlk, rfl, hnm, rfl, rfl, hw⟩ := O
  subst hp
  intro T locs real X N S A L
  by_cases h : x < 0
  · exact Done.step (fun t q => XS.ifYes X.here hx rfl (pc0 := pc) rfl (hb hby hd) rfl (XT.i0_lt_t h) ho ht q) (kt h T locs real X N S A L)
  · exact Done.step (fun t q => XS.ifNo X.here hx rfl (hb hby hd) rfl (XT.i0_lt_f h) q) (kf h T locs real X N S A L)
theorem g_lcmp_lt {x y : Int64} {pq : Nat} {o : Int} {pc1 : Nat} (O : Ok G K own bytes maxL ret R mn kc ks) (hd0 : decode bytes pc = .ok (.lcmp, 1)) (hq : pc + 1 = pq) (hd : decode bytes pq = .ok (.ifCond .lt o, 3)) (hp : pq + 3 = pc') (ho : 0 ≤ (pq : Int) + o) (ht : ((pq : Int) + o).toNat = pc1)
    (kt : x < y → Run G K rv Hf pc1 Ls st H cells slots) (kf : ¬ x < y → Run G K rv Hf pc' Ls st H cells slots) : Run G K rv Hf pc Ls (.long y :: .long x :: st) H cells slots := by
  obtain ⟨l, Z, a0, n⟩ := G; obtain ⟨p, e, R', s, m, args, below, meth, c, kc', ks'⟩ := K
  obtain ⟨hx, hZ, hown, hby, hml, hret, hlk, rfl, hnm, rfl, rfl, hw⟩ := O
  subst hq
  subst hp
  intro T locs real X N S A L
  by_cases h : x < y
  · exact Done.step (fun t q => XT.lcmp X.here hx rfl (hb hby hd0) rfl (XS.ifYes X.here hx rfl (pc0 := pc + 1) rfl (hb hby hd) rfl (XT.ll_lt_t h) ho ht q)) (kt h T locs real X N S A L)
  · exact Done.step (fun t q => XT.lcmp X.here hx rfl (hb hby hd0) rfl (XS.ifNo X.here hx rfl (hb hby hd) rfl (XT.ll_lt_f h) q)) (kf h T locs real X N S A L)
theorem g_icmp_ge {x y : Int32} {o : Int} {pc1 : Nat} (O : Ok G K own bytes maxL ret R mn kc ks) (hd : decode bytes pc = .ok (.if_icmp .ge o, 3)) (hp : pc + 3 = pc') (ho : 0 ≤ (pc : Int) + o) (ht : ((pc : Int) + o).toNat = pc1)
    (kt : ¬ x < y → Run G K rv Hf pc1 Ls st H cells slots) (kf : x < y → Run G K rv Hf pc' Ls st H cells slots) : Run G K rv Hf pc Ls (.int y :: .int x :: st) H cells slots := by
  obtain ⟨l, Z, a0, n⟩ := G; obtain ⟨p, e, R', s, m, args, below, meth, c, kc', ks'⟩ := K
  obtain ⟨hx, hZ, hown, hby, hml, hret, hlk, rfl, hnm, rfl, rfl, hw⟩ := O
  subst hp
  intro T locs real X N S A L
  by_cases h : x < y
  · exact Done.step (fun t q => XS.icmpNo X.here hx rfl (hb hby hd) rfl (XT.ii_ge_f h) q) (kf h T locs real X N S A L)
  · exact Done.step (fun t q => XS.icmpYes X.here hx rfl (pc0 := pc) rfl (hb hby hd) rfl (XT.ii_ge_t h) ho ht q) (kt h T locs real X N S A L)
theorem g_if_ge {x : Int32} {o : Int} {pc1 : Nat} (O : Ok G K own bytes maxL ret R mn kc ks) (hd : decode bytes pc = .ok (.ifCond .ge o, 3)) (hp : pc + 3 = pc') (ho : 0 ≤ (pc : Int) + o) (ht : ((pc : Int) + o).toNat = pc1)
    (kt : ¬ x < 0 → Run G K rv Hf pc1 Ls st H cells slots) (kf : x < 0 → Run G K rv Hf pc' Ls st H cells slots) : Run G K rv Hf pc Ls (.int x :: st) H cells slots := by
  obtain ⟨l, Z, a0, n⟩ := G; obtain ⟨p, e, R', s, m, args, below, meth, c, kc', ks'⟩ := K
  obtain ⟨hx, hZ, hown, hby, hml, hret, hlk, rfl, hnm, rfl, rfl, hw⟩ := O
  subst hp
  intro T locs real X N S A L
  by_cases h : x < 0
  · exact Done.step (fun t q => XS.ifNo X.here hx rfl (hb hby hd) rfl (XT.i0_ge_f h) q) (kf h T locs real X N S A L)
  · exact Done.step (fun t q => XS.ifYes X.here hx rfl (pc0 := pc) rfl (hb hby hd) rfl (XT.i0_ge_t h) ho ht q) (kt h T locs real X N S A L)
theorem g_lcmp_ge {x y : Int64} {pq : Nat} {o : Int} {pc1 : Nat} (O : Ok G K own bytes maxL ret R mn kc ks) (hd0 : decode bytes pc = .ok (.lcmp, 1)) (hq : pc + 1 = pq) (hd : decode bytes pq = .ok (.ifCond .ge o, 3)) (hp : pq + 3 = pc') (ho : 0 ≤ (pq : Int) + o) (ht : ((pq : Int) + o).toNat = pc1)
    (kt : ¬ x < y → Run G K rv Hf pc1 Ls st H cells slots) (kf : x < y → Run G K rv Hf pc' Ls st H cells slots) : Run G K rv Hf pc Ls (.long y :: .long x :: st) H cells slots := by
  obtain ⟨l, Z, a0, n⟩ := G; obtain ⟨p, e, R', s, m, args, below, meth, c, kc', ks'⟩ := K
  obtain ⟨hx, hZ, hown, hby, hml, hret, hlk, rfl, hnm, rfl, rfl, hw⟩ := O
  subst hq
  subst hp
  intro T locs real X N S A L
  by_cases h : x < y
  · exact Done.step (fun t q => XT.lcmp X.here hx rfl (hb hby hd0) rfl (XS.ifNo X.here hx rfl (hb hby hd) rfl (XT.ll_ge_f h) q)) (kf h T locs real X N S A L)
  · exact Done.step (fun t q => XT.lcmp X.here hx rfl (hb hby hd0) rfl (XS.ifYes X.here hx rfl (pc0 := pc + 1) rfl (hb hby hd) rfl (XT.ll_ge_t h) ho ht q)) (kt h T locs real X N S A L)
theorem g_icmp_gt {x y : Int32} {o : Int} {pc1 : Nat} (O : Ok G K own bytes maxL ret R mn kc ks) (hd : decode bytes pc = .ok (.if_icmp .gt o, 3)) (hp : pc + 3 = pc') (ho : 0 ≤ (pc : Int) + o) (ht : ((pc : Int) + o).toNat = pc1)
    (kt : y < x → Run G K rv Hf pc1 Ls st H cells slots) (kf : ¬ y < x → Run G K rv Hf pc' Ls st H cells slots) : Run G K rv Hf pc Ls (.int y :: .int x :: st) H cells slots := by
  obtain ⟨l, Z, a0, n⟩ := G; obtain ⟨p, e, R', s, m, args, below, meth, c, kc', ks'⟩ := K
  obtain ⟨hx, hZ, hown, hby, hml, hret, hlk, rfl, hnm, rfl, rfl, hw⟩ := O
  subst hp
  intro T locs real X N S A L
  by_cases h : y < x
  · exact Done.step (fun t q => XS.icmpYes X.here hx rfl (pc0 := pc) rfl (hb hby hd) rfl (XT.ii_gt_t h) ho ht q) (kt h T locs real X N S A L)
  · exact Done.step (fun t q => XS.icmpNo X.here hx rfl (hb hby hd) rfl (XT.ii_gt_f h) q) (kf h T locs real X N S A L)
theorem g_if_gt {x : Int32} {o : Int} {pc1 : Nat} (O : Ok G K own bytes maxL ret R mn kc ks) (hd : decode bytes pc = .ok (.ifCond .gt o, 3)) (hp : pc + 3 = pc') (ho : 0 ≤ (pc : Int) + o) (ht : ((pc : Int) + o).toNat = pc1)
    (kt : 0 < x → Run G K rv Hf pc1 Ls st H cells slots) (kf : ¬ 0 < x → Run G K rv Hf pc' Ls st H cells slots) : Run G K rv Hf pc Ls (.int x :: st) H cells slots := by
  obtain ⟨l, Z, a0, n⟩ := G; obtain ⟨p, e, R', s, m, args, below, meth, c, kc', ks'⟩ := K
  obtain ⟨hx, hZ, hown, hby, hml, hret, hlk, rfl, hnm, rfl, rfl, hw⟩ := O
  subst hp
  intro T locs real X N S A L
  by_cases h : 0 < x
  · exact Done.step (fun t q => XS.ifYes X.here hx rfl (pc0 := pc) rfl (hb hby hd) rfl (XT.i0_gt_t h) ho ht q) (kt h T locs real X N S A L)
  · exact Done.step (fun t q => XS.ifNo X.here hx rfl (hb hby hd) rfl (XT.i0_gt_f h) q) (kf h T locs real X N S A L)
theorem g_lcmp_gt {x y : Int64} {pq : Nat} {o : Int} {pc1 : Nat} (O : Ok G K own bytes maxL ret R mn kc ks) (hd0 : decode bytes pc = .ok (.lcmp, 1)) (hq : pc + 1 = pq) (hd : decode bytes pq = .ok (.ifCond .gt o, 3)) (hp : pq + 3 = pc') (ho : 0 ≤ (pq : Int) + o) (ht : ((pq : Int) + o).toNat = pc1)
    (kt : y < x → Run G K rv Hf pc1 Ls st H cells slots) (kf : ¬ y < x → Run G K rv Hf pc' Ls st H cells slots) : Run G K rv Hf pc Ls (.long y :: .long x :: st) H cells slots := by
  obtain ⟨l, Z, a0, n⟩ := G; obtain ⟨p, e, R', s, m, args, below, meth, c, kc', ks'⟩ := K
  obtain ⟨hx, hZ, hown, hby, hml, hret, hlk, rfl, hnm, rfl, rfl, hw⟩ := O
  subst hq
  subst hp
  intro T locs real X N S A L
  by_cases h : y < x
  · exact Done.step (fun t q => XT.lcmp X.here hx rfl (hb hby hd0) rfl (XS.ifYes X.here hx rfl (pc0 := pc + 1) rfl (hb hby hd) rfl (XT.ll_gt_t h) ho ht q)) (kt h T locs real X N S A L)
  · exact Done.step (fun t q => XT.lcmp X.here hx rfl (hb hby hd0) rfl (XS.ifNo X.here hx rfl (hb hby hd) rfl (XT.ll_gt_f h) q)) (kf h T locs real X N S A L)
theorem g_icmp_le {x y : Int32} {o : Int} {pc1 : Nat} (O : Ok G K own bytes maxL ret R mn kc ks) (hd : decode bytes pc = .ok (.if_icmp .le o, 3)) (hp : pc + 3 = pc') (ho : 0 ≤ (pc : Int) + o) (ht : ((pc : Int) + o).toNat = pc1)
    (kt : ¬ y < x → Run G K rv Hf pc1 Ls st H cells slots) (kf : y < x → Run G K rv Hf pc' Ls st H cells slots) : Run G K rv Hf pc Ls (.int y :: .int x :: st) H cells slots := by
  obtain ⟨l, Z, a0, n⟩ := G; obtain ⟨p, e, R', s, m, args, below, meth, c, kc', ks'⟩ := K
  obtain ⟨hx, hZ, hown, hby, hml, hret, hlk, rfl, hnm, rfl, rfl, hw⟩ := O
  subst hp
  intro T locs real X N S A L
  by_cases h : y < x
  · exact Done.step (fun t q => XS.icmpNo X.here hx rfl (hb hby hd) rfl (XT.ii_le_f h) q) (kf h T locs real X N S A L)
  · exact Done.step (fun t q => XS.icmpYes X.here hx rfl (pc0 := pc) rfl (hb hby hd) rfl (XT.ii_le_t h) ho ht q) (kt h T locs real X N S A L)
theorem g_if_le {x : Int32} {o : Int} {pc1 : Nat} (O : Ok G K own bytes maxL ret R mn kc ks) (hd : decode bytes pc = .ok (.ifCond .le o, 3)) (hp : pc + 3 = pc') (ho : 0 ≤ (pc : Int) + o) (ht : ((pc : Int) + o).toNat = pc1)
    (kt : ¬ 0 < x → Run G K rv Hf pc1 Ls st H cells slots) (kf : 0 < x → Run G K rv Hf pc' Ls st H cells slots) : Run G K rv Hf pc Ls (.int x :: st) H cells slots := by
  obtain ⟨l, Z, a0, n⟩ := G; obtain ⟨p, e, R', s, m, args, below, meth, c, kc', ks'⟩ := K
  obtain ⟨hx, hZ, hown, hby, hml, hret, hlk, rfl, hnm, rfl, rfl, hw⟩ := O
  subst hp
  intro T locs real X N S A L
  by_cases h : 0 < x
  · exact Done.step (fun t q => XS.ifNo X.here hx rfl (hb hby hd) rfl (XT.i0_le_f h) q) (kf h T locs real X N S A L)
  · exact Done.step (fun t q => XS.ifYes X.here hx rfl (pc0 := pc) rfl (hb hby hd) rfl (XT.i0_le_t h) ho ht q) (kt h T locs real X N S A L)
theorem g_lcmp_le {x y : Int64} {pq : Nat} {o : Int} {pc1 : Nat} (O : Ok G K own bytes maxL ret R mn kc ks) (hd0 : decode bytes pc = .ok (.lcmp, 1)) (hq : pc + 1 = pq) (hd : decode bytes pq = .ok (.ifCond .le o, 3)) (hp : pq + 3 = pc') (ho : 0 ≤ (pq : Int) + o) (ht : ((pq : Int) + o).toNat = pc1)
    (kt : ¬ y < x → Run G K rv Hf pc1 Ls st H cells slots) (kf : y < x → Run G K rv Hf pc' Ls st H cells slots) : Run G K rv Hf pc Ls (.long y :: .long x :: st) H cells slots := by
  obtain ⟨l, Z, a0, n⟩ := G; obtain ⟨p, e, R', s, m, args, below, meth, c, kc', ks'⟩ := K
  obtain ⟨hx, hZ, hown, hby, hml, hret, hlk, rfl, hnm, rfl, rfl, hw⟩ := O
  subst hq
  subst hp
  intro T locs real X N S A L
  by_cases h : y < x
  · exact Done.step (fun t q => XT.lcmp X.here hx rfl (hb hby hd0) rfl (XS.ifNo X.here hx rfl (hb hby hd) rfl (XT.ll_le_f h) q)) (kf h T locs real X N S A L)
  · exact Done.step (fun t q => XT.lcmp X.here hx rfl (hb hby hd0) rfl (XS.ifYes X.here hx rfl (pc0 := pc + 1) rfl (hb hby hd) rfl (XT.ll_le_t h) ho ht q)) (kt h T locs real X N S A L)
/-! reading and writing the heap, in the model -/
def arr (ty : FieldType) (H : List Obj) (i : Nat) : Option (List Value) := match H[i]? with
  | some (.inl (t, vs)) => if t = ty then some vs else none
  | _ => none
def rd (ty : FieldType) (H : List Obj) (i : Nat) (j : Int32) : Option Value := (arr ty H i).bind fun vs => if j < 0 then none else vs[j.toNatClampNeg]?
def getI : Value → Option Int32
  | .int x => some x
  | _ => none
def getJ : Value → Option Int64
  | .long x => some x
  | _ => none
def getA : Value → Option Nat
  | .ref x => some x
  | _ => none
def rdI (ty : FieldType) (H : List Obj) (i : Nat) (j : Int32) : Option Int32 := (rd ty H i j).bind getI
def rdJ (H : List Obj) (i : Nat) (j : Int32) : Option Int64 := (rd .long H i j).bind getJ
def wr (ty : FieldType) (H : List Obj) (i : Nat) (j : Int32) (v : Value) : Option (List Obj) := (arr ty H i).bind fun vs => if j < 0 ∨ vs.length ≤ j.toNatClampNeg then none else some (H.set i (.inl (ty, vs.set j.toNatClampNeg v)))
def alen (H : List Obj) (i : Nat) : Option Int32 := match H[i]? with
  | some (.inl (_, vs)) => some vs.length.toInt32
  | _ => none
def mkArr (ty : FieldType) (cap : Nat) (H : List Obj) (j : Int32) : Option (List Obj) := if j < 0 ∨ cap < j.toNatClampNeg then none else some (H ++ [.inl (ty, List.replicate j.toNatClampNeg (defaultValue ty))])
def obj (t : Nat) (H : List Obj) (i : Nat) : Option (List Value) := match H[i]? with
  | some (.inr (t', vs)) => if t' = t then some vs else none
  | _ => none
def fld (t k : Nat) (H : List Obj) (i : Nat) : Option Value := (obj t H i).bind fun vs => vs[k]?
def fldI (t k : Nat) (H : List Obj) (i : Nat) : Option Int32 := (fld t k H i).bind getI
def fldJ (t k : Nat) (H : List Obj) (i : Nat) : Option Int64 := (fld t k H i).bind getJ
def fldA (t k : Nat) (H : List Obj) (i : Nat) : Option Nat := (fld t k H i).bind getA
def setF (t k : Nat) (H : List Obj) (i : Nat) (v : Value) : Option (List Obj) := (obj t H i).bind fun vs => if k < vs.length then some (H.set i (.inr (t, vs.set k v))) else none
theorem getI_e {v : Value} {x : Int32} (h : getI v = some x) : v = .int x := by cases v <;> simp [getI] at h; rw [h]
theorem getJ_e {v : Value} {x : Int64} (h : getJ v = some x) : v = .long x := by cases v <;> simp [getJ] at h; rw [h]
theorem getA_e {v : Value} {x : Nat} (h : getA v = some x) : v = .ref x := by cases v <;> simp [getA] at h; rw [h]
theorem rdI_e {ty : FieldType} {i : Nat} {j x : Int32} (h : rdI ty H i j = some x) : rd ty H i j = some (.int x) := by
  obtain ⟨v, h1, h2⟩ := Option.bind_eq_some_iff.mp h; rw [h1, getI_e h2]
theorem rdJ_e {i : Nat} {j : Int32} {x : Int64} (h : rdJ H i j = some x) : rd .long H i j = some (.long x) := by
  obtain ⟨v, h1, h2⟩ := Option.bind_eq_some_iff.mp h; rw [h1, getJ_e h2]
theorem fldI_e {t k i : Nat} {x : Int32} (h : fldI t k H i = some x) : fld t k H i = some (.int x) := by
  obtain ⟨v, h1, h2⟩ := Option.bind_eq_some_iff.mp h; rw [h1, getI_e h2]
theorem fldJ_e {t k i : Nat} {x : Int64} (h : fldJ t k H i = some x) : fld t k H i = some (.long x) := by
  obtain ⟨v, h1, h2⟩ := Option.bind_eq_some_iff.mp h; rw [h1, getJ_e h2]
theorem fldA_e {t k i x : Nat} (h : fldA t k H i = some x) : fld t k H i = some (.ref x) := by
  obtain ⟨v, h1, h2⟩ := Option.bind_eq_some_iff.mp h; rw [h1, getA_e h2]
theorem arr_e {ty : FieldType} {i : Nat} {vs : List Value} (h : arr ty H i = some vs) : H[i]? = some (.inl (ty, vs)) := by
  unfold arr at h; split at h
  · rename_i t us hh; split at h
    · rename_i e; cases h; rw [hh, e]
    · cases h
  · cases h
theorem obj_e {t i : Nat} {vs : List Value} (h : obj t H i = some vs) : H[i]? = some (.inr (t, vs)) := by
  unfold obj at h; split at h
  · rename_i t us hh; split at h
    · rename_i e; cases h; rw [hh, e]
    · cases h
  · cases h
theorem sim_arr {h : Heap} {ty : FieldType} {i : Nat} {vs : List Value} (S : Sim G H h) (e : arr ty H i = some vs) : ∃ c : Cell, Arr G.2.1 h (G.2.2.2 + i) c ty ∧ c.slots = (vs.map (sh G.2.2.2)).toArray := (S.2 i _ (arr_e e)).2
theorem sim_obj {h : Heap} {t i : Nat} {vs : List Value} (S : Sim G H h) (e : obj t H i = some vs) : Exa G.2.1 h (G.2.2.2 + i) (lay t).1 ∧ vs.length = (lay t).2.length ∧ ∀ (k : Nat) (nd : String × String) (v : Value), (lay t).2[k]? = some nd → vs[k]? = some v → Fld G.2.1 h (G.2.2.2 + i) (lay t).1 nd.1 nd.2 (sh G.2.2.2 v) := S.2 i _ (obj_e e)
theorem sim_ext {h h' : Heap} {o : Obj} (S : Sim G H h) (E : Ext h h') (hs : h'.size = h.size + 1) (ho : ObjOk G.2.1 G.2.2.2 h' h.size o) : Sim G (H ++ [o]) h' := by
  refine ⟨by rw [hs, S.1, List.length_append]; rfl, fun i q hq => ?_⟩
  by_cases hi : i < H.length
  · rw [List.getElem?_append_left hi] at hq
    have r := S.2 i q hq
    rcases q with ⟨ty, vs⟩ | ⟨t, vs⟩
    · obtain ⟨X, c, A, r⟩ := r; exact ⟨X.ext E, c, A.ext E, r⟩
    · obtain ⟨X, l, F⟩ := r; exact ⟨X.ext E, l, fun k nd v h1 h2 => (F k nd v h1 h2).ext E⟩
  · rw [List.getElem?_append_right (Nat.le_of_not_lt hi)] at hq
    have : i - H.length = 0 := by
      have := (List.getElem?_eq_some_iff.mp hq).1; simp at this; omega
    rw [this] at hq
    cases hq
    have : G.2.2.2 + i = h.size := by rw [S.1]; have := Nat.le_of_not_lt hi; omega
    rw [this]; exact ho
theorem sim_wr {h h' : Heap} {ty : FieldType} {i j : Nat} {vs : List Value} {v : Value} (S : Sim G H h) (e : arr ty H i = some vs) (W : Wr h h' (G.2.2.2 + i) j (sh G.2.2.2 v)) : Sim G (H.set i (.inl (ty, vs.set j v))) h' := by
  refine ⟨by rw [W.size, S.1, List.length_set], fun i' q hq => ?_⟩
  have hlt := (List.getElem?_eq_some_iff.mp (arr_e e)).1
  by_cases hi : i = i'
  · subst hi
    rw [List.getElem?_set_self hlt] at hq
    cases hq
    obtain ⟨X, c, A, r⟩ := S.2 i _ (arr_e e)
    exact ⟨X.wr W, _, A.same W, by simp [Cell.setSlot, r, List.map_set]⟩
  · rw [List.getElem?_set_ne hi] at hq
    have r := S.2 i' q hq
    have ne : G.2.2.2 + i' ≠ G.2.2.2 + i := by omega
    rcases q with ⟨ty, vs⟩ | ⟨t, vs⟩
    · obtain ⟨X, c, A, r⟩ := r; exact ⟨X.wr W, c, A.other W ne, r⟩
    · obtain ⟨X, l, F⟩ := r; exact ⟨X.wr W, l, fun k nd v h1 h2 => (F k nd v h1 h2).other W (Or.inl ne)⟩
theorem lay_slot {Z : State} {a0 : Array Value} (hw : ∀ d ∈ tables_1, d.before a0 Z = true) {t k k' : Nat} {nd nd' : String × String} (h1 : (lay t).2[k]? = some nd) (h2 : (lay t).2[k']? = some nd') (ne : k ≠ k') : Jvm.RoadKit.slotOf Z (lay t).1 nd.1 nd.2 ≠ Jvm.RoadKit.slotOf Z (lay t).1 nd'.1 nd'.2 := by
  obtain ⟨t1, p1⟩ := lay_parse t nd (List.mem_of_getElem? h1)
  obtain ⟨t2, p2⟩ := lay_parse t nd' (List.mem_of_getElem? h2)
  exact slot_ne (C := (lay t).1) (a0 := a0) ((lay_word t nd (List.mem_of_getElem? h1)).imp (hw _) (hw _)) ((lay_word t nd' (List.mem_of_getElem? h2)).imp (hw _) (hw _)) (lay_names t k k' nd nd' h1 h2 ne) p1 p2
theorem sim_put {h h' : Heap} {t i k : Nat} {nd : String × String} {vs : List Value} {v : Value} (hw : ∀ d ∈ tables_1, d.before G.2.2.1 G.2.1 = true) (S : Sim G H h) (e : obj t H i = some vs) (hk : (lay t).2[k]? = some nd) (W : Wr h h' (G.2.2.2 + i) (Jvm.RoadKit.slotOf G.2.1 (lay t).1 nd.1 nd.2) (sh G.2.2.2 v)) : Sim G (H.set i (.inr (t, vs.set k v))) h' := by
  refine ⟨by rw [W.size, S.1, List.length_set], fun i' q hq => ?_⟩
  have hlt := (List.getElem?_eq_some_iff.mp (obj_e e)).1
  by_cases hi : i = i'
  · subst hi
    rw [List.getElem?_set_self hlt] at hq
    cases hq
    obtain ⟨X, l, F⟩ := S.2 i _ (obj_e e)
    refine ⟨X.wr W, by rw [List.length_set]; exact l, fun k' nd' v' h1 h2 => ?_⟩
    have hkl : k < vs.length := by rw [l]; exact (List.getElem?_eq_some_iff.mp hk).1
    by_cases ek : k = k'
    · subst ek
      rw [List.getElem?_set_self hkl] at h2
      cases h2
      cases hk.symm.trans h1
      exact (F k nd _ hk (List.getElem?_eq_getElem hkl)).same W
    · rw [List.getElem?_set_ne ek] at h2
      exact (F k' nd' v' h1 h2).other W (Or.inr (lay_slot hw h1 hk (Ne.symm ek)))
  · rw [List.getElem?_set_ne hi] at hq
    have r := S.2 i' q hq
    have ne : G.2.2.2 + i' ≠ G.2.2.2 + i := by omega
    rcases q with ⟨ty, vs⟩ | ⟨t, vs⟩
    · obtain ⟨X, c, A, r⟩ := r; exact ⟨X.wr W, c, A.other W ne, r⟩
    · obtain ⟨X, l, F⟩ := r; exact ⟨X.wr W, l, fun k nd v h1 h2 => (F k nd v h1 h2).other W (Or.inl ne)⟩
/-! the steps that read the tables or the heap -/
theorem g_ldc {ix : Nat} {v : Int32} (O : Ok G K own bytes maxL ret R mn kc ks) (hd : decode bytes pc = .ok (.ldc ix, 2)) (w : Jvm.Cond.constant own ix v ∈ tables_1) (hp : pc + 2 = pc')
    (k : Run G K rv Hf pc' Ls (.int v :: st) H cells slots) : Run G K rv Hf pc Ls st H cells slots := by
  obtain ⟨l, Z, a0, n⟩ := G; obtain ⟨p, e, R', s, m, args, below, meth, c, kc', ks'⟩ := K
  obtain ⟨hx, hZ, hown, hby, hml, hret, hlk, rfl, hnm, rfl, rfl, hw⟩ := O
  subst hp
  intro T locs real X N S A L
  exact Done.step (fun t q => X.ldcI hx hown (mv hZ (hw _ w)) rfl (hb hby hd) q) (k T locs real X N S A L)
theorem g_ldc2 {ix : Nat} {v : Int64} (O : Ok G K own bytes maxL ret R mn kc ks) (hd : decode bytes pc = .ok (.ldc2_w ix, 3)) (w : Jvm.Cond.constantLong own ix v ∈ tables_1) (hp : pc + 3 = pc')
    (k : Run G K rv Hf pc' Ls (.long v :: st) H cells slots) : Run G K rv Hf pc Ls st H cells slots := by
  obtain ⟨l, Z, a0, n⟩ := G; obtain ⟨p, e, R', s, m, args, below, meth, c, kc', ks'⟩ := K
  obtain ⟨hx, hZ, hown, hby, hml, hret, hlk, rfl, hnm, rfl, rfl, hw⟩ := O
  subst hp
  intro T locs real X N S A L
  exact Done.step (fun t q => X.ldc2J hx hown (mv hZ (hw _ w)) rfl (hb hby hd) q) (k T locs real X N S A L)
theorem rd_e {ty : FieldType} {i : Nat} {j : Int32} {v : Value} (h : rd ty H i j = some v) : ∃ vs, arr ty H i = some vs ∧ ¬ j < 0 ∧ vs[j.toNatClampNeg]? = some v := by
  obtain ⟨vs, h1, h2⟩ := Option.bind_eq_some_iff.mp h
  split at h2
  · cases h2
  · exact ⟨vs, h1, by assumption, h2⟩
theorem inb_sl {c : Cell} {vs : List Value} {n : Nat} {j : Int32} {v : Value} (e : c.slots = (vs.map (sh n)).toArray) (h0 : ¬ j < 0) (h : vs[j.toNatClampNeg]? = some v) : ¬ (j < 0 ∨ c.slots.size ≤ j.toNatClampNeg) ∧ c.slots[j.toNatClampNeg]? = some (sh n v) := by
  have := (List.getElem?_eq_some_iff.mp h).1
  refine ⟨fun q => q.elim h0 (fun q => by rw [e] at q; simp at q; omega), by rw [e]; simp [h]⟩
theorem g_iaload {i : Nat} {j : Int32} {v : Int32} (O : Ok G K own bytes maxL ret R mn kc ks) (hd : decode bytes pc = .ok (.iaload, 1)) (hr : rdI .int H i j = some v) (hp : pc + 1 = pc')
    (k : Run G K rv Hf pc' Ls (.int v :: st) H cells slots) : Run G K rv Hf pc Ls (.int j :: .ref i :: st) H cells slots := by
  obtain ⟨l, Z, a0, n⟩ := G; obtain ⟨p, e, R', s, m, args, below, meth, c, kc', ks'⟩ := K
  obtain ⟨hx, hZ, hown, hby, hml, hret, hlk, rfl, hnm, rfl, rfl, hw⟩ := O
  subst hp
  intro T locs real X N S A L
  obtain ⟨vs, h1, h2, h3⟩ := rd_e (rdI_e hr)
  obtain ⟨cl, B, es⟩ := sim_arr S h1
  obtain ⟨q1, q2⟩ := inb_sl es h2 h3
  exact Done.step (fun t q => X.iaload hx B.1 (State.isArrayOf_alike hZ.alike B.2.1) B.2.2 q1 q2 (g := mkF m pc real ((.int j :: .ref i :: st).map (sh n))) rfl rfl (hb hby hd) t q) (k T locs real X N S A L)
theorem g_caload {i : Nat} {j : Int32} {v : Int32} (O : Ok G K own bytes maxL ret R mn kc ks) (hd : decode bytes pc = .ok (.caload, 1)) (hr : rdI .char H i j = some v) (hp : pc + 1 = pc')
    (k : Run G K rv Hf pc' Ls (.int v :: st) H cells slots) : Run G K rv Hf pc Ls (.int j :: .ref i :: st) H cells slots := by
  obtain ⟨l, Z, a0, n⟩ := G; obtain ⟨p, e, R', s, m, args, below, meth, c, kc', ks'⟩ := K
  obtain ⟨hx, hZ, hown, hby, hml, hret, hlk, rfl, hnm, rfl, rfl, hw⟩ := O
  subst hp
  intro T locs real X N S A L
  obtain ⟨vs, h1, h2, h3⟩ := rd_e (rdI_e hr)
  obtain ⟨cl, B, es⟩ := sim_arr S h1
  obtain ⟨q1, q2⟩ := inb_sl es h2 h3
  exact Done.step (fun t q => X.caload hx B.1 (State.isArrayOf_alike hZ.alike B.2.1) B.2.2 q1 q2 (g := mkF m pc real ((.int j :: .ref i :: st).map (sh n))) rfl rfl (hb hby hd) t q) (k T locs real X N S A L)
theorem g_baload {i : Nat} {j : Int32} {v : Int32} (O : Ok G K own bytes maxL ret R mn kc ks) (hd : decode bytes pc = .ok (.baload, 1)) (hr : rdI .byte H i j = some v) (hp : pc + 1 = pc')
    (k : Run G K rv Hf pc' Ls (.int v :: st) H cells slots) : Run G K rv Hf pc Ls (.int j :: .ref i :: st) H cells slots := by
  obtain ⟨l, Z, a0, n⟩ := G; obtain ⟨p, e, R', s, m, args, below, meth, c, kc', ks'⟩ := K
  obtain ⟨hx, hZ, hown, hby, hml, hret, hlk, rfl, hnm, rfl, rfl, hw⟩ := O
  subst hp
  intro T locs real X N S A L
  obtain ⟨vs, h1, h2, h3⟩ := rd_e (rdI_e hr)
  obtain ⟨cl, B, es⟩ := sim_arr S h1
  obtain ⟨q1, q2⟩ := inb_sl es h2 h3
  exact Done.step (fun t q => X.baloadBytes hx B.1 (State.isArrayOf_alike hZ.alike B.2.1) B.2.2 q1 q2 (g := mkF m pc real ((.int j :: .ref i :: st).map (sh n))) rfl rfl (hb hby hd) t q) (k T locs real X N S A L)
theorem g_laload {i : Nat} {j : Int32} {v : Int64} (O : Ok G K own bytes maxL ret R mn kc ks) (hd : decode bytes pc = .ok (.laload, 1)) (hr : rdJ H i j = some v) (hp : pc + 1 = pc')
    (k : Run G K rv Hf pc' Ls (.long v :: st) H cells slots) : Run G K rv Hf pc Ls (.int j :: .ref i :: st) H cells slots := by
  obtain ⟨l, Z, a0, n⟩ := G; obtain ⟨p, e, R', s, m, args, below, meth, c, kc', ks'⟩ := K
  obtain ⟨hx, hZ, hown, hby, hml, hret, hlk, rfl, hnm, rfl, rfl, hw⟩ := O
  subst hp
  intro T locs real X N S A L
  obtain ⟨vs, h1, h2, h3⟩ := rd_e (rdJ_e hr)
  obtain ⟨cl, B, es⟩ := sim_arr S h1
  obtain ⟨q1, q2⟩ := inb_sl es h2 h3
  exact Done.step (fun t q => X.laload hx B.1 (State.isArrayOf_alike hZ.alike B.2.1) B.2.2 q1 q2 (g := mkF m pc real ((.int j :: .ref i :: st).map (sh n))) rfl rfl (hb hby hd) t q) (k T locs real X N S A L)
theorem g_arraylength {i : Nat} {v : Int32} (O : Ok G K own bytes maxL ret R mn kc ks) (hd : decode bytes pc = .ok (.arraylength, 1)) (hr : alen H i = some v) (hp : pc + 1 = pc')
    (k : Run G K rv Hf pc' Ls (.int v :: st) H cells slots) : Run G K rv Hf pc Ls (.ref i :: st) H cells slots := by
  obtain ⟨l, Z, a0, n⟩ := G; obtain ⟨p, e, R', s, m, args, below, meth, c, kc', ks'⟩ := K
  obtain ⟨hx, hZ, hown, hby, hml, hret, hlk, rfl, hnm, rfl, rfl, hw⟩ := O
  subst hp
  intro T locs real X N S A L
  unfold alen at hr
  split at hr
  · rename_i ty vs hh
    cases hr
    obtain ⟨-, cl, B, es⟩ := S.2 i _ hh
    have q1 : cl.slots.size = vs.length := by rw [es]; simp
    exact Done.step (fun t q => X.arraylength hx B.1 (State.isArrayOf_alike hZ.alike B.2.1) (g := mkF m pc real ((.ref i :: st).map (sh n))) rfl rfl (hb hby hd) t (by rw [q1]; exact q)) (k T locs real X N S A L)
  · cases hr
theorem wr_e {ty : FieldType} {i : Nat} {j : Int32} {v : Value} {H' : List Obj} (h : wr ty H i j v = some H') : ∃ vs, arr ty H i = some vs ∧ ¬ (j < 0 ∨ vs.length ≤ j.toNatClampNeg) ∧ H' = H.set i (.inl (ty, vs.set j.toNatClampNeg v)) := by
  obtain ⟨vs, h1, h2⟩ := Option.bind_eq_some_iff.mp h
  split at h2
  · cases h2
  · cases h2; exact ⟨vs, h1, by assumption, rfl⟩
theorem wr_len {ty : FieldType} {i : Nat} {j : Int32} {v : Value} {H' : List Obj} (h : wr ty H i j v = some H') : H'.length = H.length := by
  obtain ⟨vs, -, -, rfl⟩ := wr_e h; simp
theorem sl_len {c : Cell} {vs : List Value} {n : Nat} (e : c.slots = (vs.map (sh n)).toArray) : c.slots.size = vs.length := by rw [e]; simp
theorem g_iastore {i : Nat} {j x : Int32} {H' : List Obj} (O : Ok G K own bytes maxL ret R mn kc ks) (hd : decode bytes pc = .ok (.iastore, 1)) (hr : wr .int H i j (.int x) = some H') (hp : pc + 1 = pc')
    (k : Run G K rv Hf pc' Ls st H' cells slots) : Run G K rv Hf pc Ls (.int x :: .int j :: .ref i :: st) H cells slots := by
  obtain ⟨l, Z, a0, n⟩ := G; obtain ⟨p, e, R', s, m, args, below, meth, c, kc', ks'⟩ := K
  obtain ⟨hx, hZ, hown, hby, hml, hret, hlk, rfl, hnm, rfl, rfl, hw⟩ := O
  subst hp
  intro T locs real X N S A L
  obtain ⟨vs, h1, h2, rfl⟩ := wr_e hr
  obtain ⟨cl, B, es⟩ := sim_arr S h1
  obtain ⟨T', h', X', e', W, stp⟩ := stI X hx hZ rfl B (j := j) (x := x) (by rw [sl_len es]; exact h2) (g := mkF m pc real ((.int x :: .int j :: .ref i :: st).map (sh n))) rfl rfl (hb hby hd)
  exact Done.step stp (k T' _ real X' (Fr.snoc X' N (Nat.le_add_right _ _)) (by rw [e']; exact sim_wr (v := .int x) S h1 W) (by simpa using A) L)
theorem g_lastore {i : Nat} {j : Int32} {x : Int64} {H' : List Obj} (O : Ok G K own bytes maxL ret R mn kc ks) (hd : decode bytes pc = .ok (.lastore, 1)) (hr : wr .long H i j (.long x) = some H') (hp : pc + 1 = pc')
    (k : Run G K rv Hf pc' Ls st H' cells slots) : Run G K rv Hf pc Ls (.long x :: .int j :: .ref i :: st) H cells slots := by
  obtain ⟨l, Z, a0, n⟩ := G; obtain ⟨p, e, R', s, m, args, below, meth, c, kc', ks'⟩ := K
  obtain ⟨hx, hZ, hown, hby, hml, hret, hlk, rfl, hnm, rfl, rfl, hw⟩ := O
  subst hp
  intro T locs real X N S A L
  obtain ⟨vs, h1, h2, rfl⟩ := wr_e hr
  obtain ⟨cl, B, es⟩ := sim_arr S h1
  obtain ⟨T', h', X', e', W, stp⟩ := stJ X hx hZ rfl B (j := j) (x := x) (by rw [sl_len es]; exact h2) (g := mkF m pc real ((.long x :: .int j :: .ref i :: st).map (sh n))) rfl rfl (hb hby hd)
  exact Done.step stp (k T' _ real X' (Fr.snoc X' N (Nat.le_add_right _ _)) (by rw [e']; exact sim_wr (v := .long x) S h1 W) (by simpa using A) L)
theorem g_bastore {i : Nat} {j x : Int32} {H' : List Obj} (O : Ok G K own bytes maxL ret R mn kc ks) (hd : decode bytes pc = .ok (.bastore, 1)) (hr : wr .byte H i j (.int (nar .byte x)) = some H') (hp : pc + 1 = pc')
    (k : Run G K rv Hf pc' Ls st H' cells slots) : Run G K rv Hf pc Ls (.int x :: .int j :: .ref i :: st) H cells slots := by
  obtain ⟨l, Z, a0, n⟩ := G; obtain ⟨p, e, R', s, m, args, below, meth, c, kc', ks'⟩ := K
  obtain ⟨hx, hZ, hown, hby, hml, hret, hlk, rfl, hnm, rfl, rfl, hw⟩ := O
  subst hp
  intro T locs real X N S A L
  obtain ⟨vs, h1, h2, rfl⟩ := wr_e hr
  obtain ⟨cl, B, es⟩ := sim_arr S h1
  obtain ⟨T', h', X', e', W, stp⟩ := stB X hx hZ rfl B (j := j) (x := x) (by rw [sl_len es]; exact h2) (g := mkF m pc real ((.int x :: .int j :: .ref i :: st).map (sh n))) rfl rfl (hb hby hd)
  exact Done.step stp (k T' _ real X' (Fr.snoc X' N (Nat.le_add_right _ _)) (by rw [e']; exact sim_wr (v := .int (nar .byte x)) S h1 W) (by simpa using A) L)
theorem g_castore {i : Nat} {j x : Int32} {H' : List Obj} (O : Ok G K own bytes maxL ret R mn kc ks) (hd : decode bytes pc = .ok (.castore, 1)) (hr : wr .char H i j (.int (nar .char x)) = some H') (hp : pc + 1 = pc')
    (k : Run G K rv Hf pc' Ls st H' cells slots) : Run G K rv Hf pc Ls (.int x :: .int j :: .ref i :: st) H cells slots := by
  obtain ⟨l, Z, a0, n⟩ := G; obtain ⟨p, e, R', s, m, args, below, meth, c, kc', ks'⟩ := K
  obtain ⟨hx, hZ, hown, hby, hml, hret, hlk, rfl, hnm, rfl, rfl, hw⟩ := O
  subst hp
  intro T locs real X N S A L
  obtain ⟨vs, h1, h2, rfl⟩ := wr_e hr
  obtain ⟨cl, B, es⟩ := sim_arr S h1
  obtain ⟨T', h', X', e', W, stp⟩ := stC X hx hZ rfl B (j := j) (x := x) (by rw [sl_len es]; exact h2) (g := mkF m pc real ((.int x :: .int j :: .ref i :: st).map (sh n))) rfl rfl (hb hby hd)
  exact Done.step stp (k T' _ real X' (Fr.snoc X' N (Nat.le_add_right _ _)) (by rw [e']; exact sim_wr (v := .int (nar .char x)) S h1 W) (by simpa using A) L)
theorem g_newarray {aty : ArrayType} {cap : Nat} {j : Int32} {H' : List Obj} (O : Ok G K own bytes maxL ret R mn kc ks) (hd : decode bytes pc = .ok (.newarray aty, 2)) (w : Jvm.Cond.arrayClass (newarray.typeOf aty) ∈ tables_1)
    (hr : mkArr (newarray.typeOf aty) cap H j = some H') (hb8 : cap * 8 ≤ 536870912) {c2 s2 : Nat} (hc2 : cells + 1 = c2) (hs2 : slots + cap = s2) (hc : c2 ≤ R.cells) (hs : s2 ≤ R.slots) (hp : pc + 2 = pc')
    (k : Run G K rv Hf pc' Ls (.ref H.length :: st) H' c2 s2) : Run G K rv Hf pc Ls (.int j :: st) H cells slots := by
  obtain ⟨l, Z, a0, n⟩ := G; obtain ⟨p, e, R', s, m, args, below, meth, c, kc', ks'⟩ := K
  obtain ⟨hx, hZ, hown, hby, hml, hret, hlk, rfl, hnm, rfl, rfl, hw⟩ := O
  subst hp hc2 hs2
  intro T locs real X N S A L
  unfold mkArr at hr
  split at hr
  · cases hr
  rename_i hj
  cases hr
  have hj0 : ¬ j < 0 := fun q => hj (Or.inl q)
  obtain ⟨T', h', cA, X', e', E, B, EX, stp⟩ := newPE X hx hZ (hw _ w) rfl (g := mkF m pc real ((.int j :: st).map (sh n))) rfl (hb hby hd) rfl hj0 (cap := cap) (Nat.le_of_not_lt fun q => hj (Or.inr q)) hb8 hc hs rfl
  have hsz : h'.size = T.heap.size + 1 := by
    have a1 : Array.size T.heap < Array.size h' := B.lt
    have a2 : Array.size T'.heap ≤ Array.size s.heap + (cells + 1) := X'.heapSize
    rw [e'] at a2
    have a3 : Array.size T.heap = n + H.length := S.1
    have a4 : Array.size s.heap + cells = n + H.length := A
    omega
  have ea : T.heap.size = n + H.length := S.1
  have S' : Sim (l, Z, a0, n) (H ++ [.inl (newarray.typeOf aty, List.replicate j.toNatClampNeg (defaultValue (newarray.typeOf aty)))]) T'.heap := by
    rw [e']
    refine sim_ext S E hsz ⟨EX, _, B, ?_⟩
    have : sh n (defaultValue (newarray.typeOf aty)) = defaultValue (newarray.typeOf aty) := by cases aty <;> rfl
    simp [newA, this]
  refine Done.step stp ?_
  have k' := k T' locs real X' N S' (by simp only [List.length_append, List.length_singleton] at A ⊢; omega) L
  rw [ea]
  exact k'
theorem g_new {ix t nn : Nat} {H' : List Obj} (O : Ok G K own bytes maxL ret R mn kc ks) (hd : decode bytes pc = .ok (.new ix, 3)) (w1 : Jvm.Cond.classLink own ix (lay t).1 ∈ tables_1) (w2 : Jvm.Cond.instantiable (lay t).1 nn ∈ tables_1) (w3 : Jvm.Cond.initialized (lay t).1 ∈ tables_1)
    {vs : List Value} (hvs : (lay t).2.map (fun nd => (parseFieldDescriptor nd.2).map defaultValue) = vs.map some) (hH : H' = H ++ [.inr (t, vs)]) {c2 s2 : Nat} (hc2 : cells + 1 = c2) (hs2 : slots + nn = s2) (hc : c2 ≤ R.cells) (hs : s2 ≤ R.slots) (hp : pc + 3 = pc')
    (k : Run G K rv Hf pc' Ls (.ref H.length :: st) H' c2 s2) : Run G K rv Hf pc Ls st H cells slots := by
  obtain ⟨l, Z, a0, n⟩ := G; obtain ⟨p, e, R', s, m, args, below, meth, c, kc', ks'⟩ := K
  obtain ⟨hx, hZ, hown, hby, hml, hret, hlk, rfl, hnm, rfl, rfl, hw⟩ := O
  subst hp hH hc2 hs2
  intro T locs real X N S A L
  obtain ⟨T', h', X', e', E, B, D, -, stp⟩ := newO X hx hZ hown (hw _ w1) (hw _ w2) (hw _ w3) rfl (g := mkF m pc real (st.map (sh n))) rfl (hb hby hd) hc hs
  have hsz : h'.size = T.heap.size + 1 := by
    have a1 : Array.size T.heap < Array.size h' := B.lt
    have a2 : Array.size T'.heap ≤ Array.size s.heap + (cells + 1) := X'.heapSize
    rw [e'] at a2
    have a3 : Array.size T.heap = n + H.length := S.1
    have a4 : Array.size s.heap + cells = n + H.length := A
    omega
  have ea : T.heap.size = n + H.length := S.1
  have S' : Sim (l, Z, a0, n) (H ++ [.inr (t, vs)]) T'.heap := by
    rw [e']
    refine sim_ext S E hsz ⟨B, by have := congrArg List.length hvs; simpa using this.symm, fun k nd v h1 h2 => ?_⟩
    have q : ((lay t).2.map (fun nd => (parseFieldDescriptor nd.2).map defaultValue))[k]? = some (some v) := by rw [hvs]; simp [h2]
    rw [List.getElem?_map, h1] at q
    simp only [Option.map_some, Option.some.injEq, Option.map_eq_some_iff] at q
    obtain ⟨ty, q1, q2⟩ := q
    have q3 : sh n v = defaultValue ty := by rw [← q2]; cases ty <;> rfl
    rw [q3]
    exact D ((lay_word t nd (List.mem_of_getElem? h1)).imp (hw _) (hw _)) q1
  refine Done.step stp ?_
  have k' := k T' locs real X' N S' (by simp only [List.length_append, List.length_singleton] at A ⊢; omega) L
  rw [ea]
  exact k'
theorem g_getfield {ix t kf i : Nat} {nd : String × String} {v : Value} (O : Ok G K own bytes maxL ret R mn kc ks) (hd : decode bytes pc = .ok (.getfield ix, 3)) (hk : (lay t).2[kf]? = some nd) (w : Jvm.Cond.fieldLink own ix (lay t).1 nd.1 nd.2 ∈ tables_1)
    (hr : fld t kf H i = some v) (hp : pc + 3 = pc') (k : Run G K rv Hf pc' Ls (v :: st) H cells slots) : Run G K rv Hf pc Ls (.ref i :: st) H cells slots := by
  obtain ⟨l, Z, a0, n⟩ := G; obtain ⟨p, e, R', s, m, args, below, meth, c, kc', ks'⟩ := K
  obtain ⟨hx, hZ, hown, hby, hml, hret, hlk, rfl, hnm, rfl, rfl, hw⟩ := O
  subst hp
  intro T locs real X N S A L
  obtain ⟨vs, h1, h2⟩ := Option.bind_eq_some_iff.mp hr
  obtain ⟨B, l1, F⟩ := sim_obj S h1
  obtain ⟨T', X', e', stp⟩ := getF X hx hZ hown (host := "") (Or.inl (hw _ w)) Via.refl rfl (F kf nd v hk h2) (g := mkF m pc real ((.ref i :: st).map (sh n))) rfl rfl (hb hby hd)
  exact Done.step stp (k T' locs real X' N (by rw [e']; exact S) A L)
theorem g_putfield {ix t kf i nn : Nat} {nd : String × String} {v : Value} {ty : FieldType} {H' : List Obj} (O : Ok G K own bytes maxL ret R mn kc ks) (hd : decode bytes pc = .ok (.putfield ix, 3)) (hk : (lay t).2[kf]? = some nd) (w : Jvm.Cond.fieldLink own ix (lay t).1 nd.1 nd.2 ∈ tables_1)
    (w2 : Jvm.Cond.lays (lay t).1 (lay t).1 nd.1 nd.2 ∈ tables_1 ∨ (Jvm.Cond.laysFinal (lay t).1 (lay t).1 nd.1 nd.2 ∈ tables_1 ∧ own = (lay t).1 ∧ mn = "<init>")) (w3 : Jvm.Cond.instantiable (lay t).1 nn ∈ tables_1) (hty : parseFieldDescriptor nd.2 = some ty) (hn : ∀ n, narrow ty (sh n v) = sh n v) (hf : ∀ n, fits ty (sh n v) = true)
    (hr : setF t kf H i v = some H') (hp : pc + 3 = pc') (k : Run G K rv Hf pc' Ls st H' cells slots) : Run G K rv Hf pc Ls (v :: .ref i :: st) H cells slots := by
  obtain ⟨l, Z, a0, n⟩ := G; obtain ⟨p, e, R', s, m, args, below, meth, c, kc', ks'⟩ := K
  obtain ⟨hx, hZ, hown, hby, hml, hret, hlk, rfl, hnm, rfl, rfl, hw⟩ := O
  subst hp
  intro T locs real X N S A L
  obtain ⟨vs, h1, h2⟩ := Option.bind_eq_some_iff.mp hr
  have hkv : kf < vs.length := Decidable.byContradiction fun hkv => by rw [if_neg hkv] at h2; cases h2
  rw [if_pos hkv] at h2
  cases h2
  obtain ⟨B, l1, F⟩ := sim_obj S h1
  obtain ⟨T', h', X', e', W, stp⟩ := putF X hx hZ hown (host := "") (Or.inl (hw _ w)) Via.refl rfl (F kf nd _ hk (List.getElem?_eq_getElem hkv)) B (w2.imp (hw _) fun q => ⟨hw _ q.1, q.2.1, hnm.trans q.2.2⟩) (hw _ w3) hty (hn n) (hf n) (g := mkF m pc real ((v :: .ref i :: st).map (sh n))) rfl rfl (hb hby hd)
  exact Done.step stp (k T' _ real X' (Fr.snoc X' N (Nat.le_add_right _ _)) (by rw [e']; exact sim_put hw S h1 hk W) (by simpa using A) L)
theorem g_objinit {ix i W : Nat} (O : Ok G K own bytes maxL ret R mn kc ks) (hd : decode bytes pc = .ok (.invokespecial ix, 3)) (w1 : Jvm.Cond.methodLink own ix Lib.objectInit ∈ tables_1) (w2 : Jvm.Cond.instanceMethod Lib.objectInit ∈ tables_1) (w3 : Jvm.Cond.code Lib.objectInit ⟨#[0xb1]⟩ 1 none ∈ tables_1)
    (hLs : Ls.length = maxL) (hW : (st.map fun v => v.category).sum = W) (hf : 1 ≤ R.frames) (hl : W + 12 ≤ R.locals) (hp : pc + 3 = pc') (k : Run G K rv Hf pc' Ls st H cells slots) : Run G K rv Hf pc Ls (.ref i :: st) H cells slots := by
  obtain ⟨l, Z, a0, n⟩ := G; obtain ⟨p, e, R', s, m, args, below, meth, c, kc', ks'⟩ := K
  obtain ⟨hx, hZ, hown, hby, hml, hret, hlk, rfl, hnm, rfl, rfl, hw⟩ := O
  subst hp
  intro T locs real X N S A L
  obtain ⟨T', X', e', stp⟩ := initO X hx hZ hown (hw _ w1) (hw _ w2) (hw _ w3) rfl (g := mkF m pc real ((.ref i :: st).map (sh n))) rfl (by show real.size = _; rw [L.1, hml]; exact hLs) rfl (hb hby hd) hf (W := W) (by show 2 * 0 + ((st.map (sh n)).map _).sum ≤ _; rw [List.map_map, ← hW]; simp [Function.comp_def, sh_cat]) hl
  exact Done.step stp (k T' locs real X' N (by rw [e']; exact S) A L)
def Fg : List (Option Value) → List (Option Value) → Prop
  | [], [] => True
  | _ :: a, none :: b => Fg a b
  | x :: a, some v :: b => x = some v ∧ Fg a b
  | [], _ :: _ => False
  | _ :: _, [] => False
theorem Fg.spec : ∀ {A B : List (Option Value)}, Fg A B → A.length = B.length ∧ ∀ (k : Nat) (v : Value), B[k]? = some (some v) → A[k]? = some (some v)
  | [], [], _ => ⟨rfl, fun k v h => h⟩
  | x :: a, none :: b, h => by
    obtain ⟨h1, h2⟩ := Fg.spec (A := a) (B := b) h
    refine ⟨by simp [h1], fun k v hk => ?_⟩
    cases k with
    | zero => simp at hk
    | succ k => simpa using h2 k v (by simpa using hk)
  | x :: a, some w :: b, h => by
    have h' : x = some w ∧ Fg a b := h
    obtain ⟨h1, h2⟩ := Fg.spec (A := a) (B := b) h'.2
    refine ⟨by simp [h1], fun k v hk => ?_⟩
    cases k with
    | zero => simp at hk; simp [h'.1, hk]
    | succ k => simpa using h2 k v (by simpa using hk)
theorem g_forget (h : Fg Ls Ls') (k : Run G K rv Hf pc Ls' st H cells slots) : Run G K rv Hf pc Ls st H cells slots := by
  obtain ⟨l, Z, a0, n⟩ := G; obtain ⟨p, e, R', s, m, args, below, meth, c, kc', ks'⟩ := K
  obtain ⟨h1, h2⟩ := h.spec
  intro T locs real X N S A L
  exact k T locs real X N S A ⟨L.1.trans h1, L.2.1, fun j v hj => L.2.2 j v (h2 j v hj)⟩
/-! calls and returns -/
theorem cat_sum (n : Nat) (st : List Value) : ((st.map (sh n)).map fun v => v.category).sum = (st.map fun v => v.category).sum := by rw [List.map_map]; simp [Function.comp_def, sh_cat]
theorem g_static {ix : Nat} {y : MethodName} {bytes' : ByteArray} {maxL' : Nat} {ret' : Option FieldType} {rm : Room} {as : List Value} {H' : List Obj} {v : Option Value} {ps : List FieldType} {W : Nat} {stk : List Value} (O : Ok G K own bytes maxL ret R mn kc ks) (hd : decode bytes pc = .ok (.invokestatic ix, 3))
    (w1 : Jvm.Cond.methodLink own ix y ∈ tables_1) (w2 : Jvm.Cond.static y ∈ tables_1) (w3 : Jvm.Cond.initialized y.cls ∈ tables_1) (w4 : Jvm.Cond.code y bytes' maxL' ret' ∈ tables_1) (hy : y.cls ≠ "java/lang/invoke/MethodHandle" ∧ y.cls ≠ "java/lang/invoke/VarHandle")
    (pd : parseMethodDescriptor y.desc = some ⟨ps, ret'⟩) (hl : as.length = ps.length) (hstk : stk = as.reverse ++ st) (hLs : Ls.length = maxL) (hW : (st.map fun v => v.category).sum = W) (hf : rm.frames + 1 ≤ R.frames) (hlo : W + (maxL' + 11) + rm.locals ≤ R.locals) {c2 s2 : Nat} (hc2 : cells + rm.cells = c2) (hs2 : slots + rm.slots = s2) (hc : c2 ≤ R.cells) (hs : s2 ≤ R.slots)
    (con : Con G y bytes' maxL' ret' rm as H v H') (hp : pc + 3 = pc') (k : Run G K rv Hf pc' Ls (v.toList ++ st) H' c2 s2) : Run G K rv Hf pc Ls stk H cells slots := by
  obtain ⟨l, Z, a0, n⟩ := G; obtain ⟨p, e, R', s, m, args, below, meth, c, kc', ks'⟩ := K
  obtain ⟨hx, hZ, hown, hby, hml, hret, hlk, rfl, hnm, rfl, rfl, hw⟩ := O
  subst hp hstk hc2 hs2
  intro T locs real X N S A L
  obtain ⟨v', _, ⟨T', L', k', n'⟩, -, X', ⟨Lc, ⟨hv, N', S', hlen⟩, l1, y1, z1⟩, stp⟩ := Jvm.LawKit.callS X hx (y := y) hown (mvT hZ (hw _ w1)) (mvT hZ (hw _ w2)) (mvT hZ (hw _ w3)) (mvT hZ (hw _ w4)) hy (backOf (W := W) (Q := fun u hh LL => u = Option.map (sh n) v ∧ Fr n LL ∧ Sim (l, Z, a0, n) H' hh ∧ H'.length = H.length + rm.cells) (con T.heap S) hZ (hw _ w4) (hw _ w3) hf hlo) (g := mkF m pc real ((as.reverse ++ st).map (sh n))) rfl (by show real.size = _; rw [L.1, hml]; exact hLs)
    (argsL := as.map (sh n)) (rest := st.map (sh n)) (lenOf pd (by simpa using hl)) (by simp) (by show 2 * 0 + _ ≤ _; rw [cat_sum, hW]; exact Nat.le_of_eq (Nat.zero_add _)) (hb hby hd) (fun _ _ => ⟨rfl, rfl, hc, hs⟩)
  dsimp only [Pt.U, Pt.locs, Pt.cells, Pt.slots] at X' l1 y1 z1 stp S' N'
  subst l1 y1 z1 hv
  have k2 := k T' _ real X' (Fr.app N N') S' (by omega) L
  refine Done.step stp ?_
  cases v <;> exact k2
theorem g_special {ix i : Nat} {y : MethodName} {bytes' : ByteArray} {maxL' : Nat} {rm : Room} {as : List Value} {H' : List Obj} {ps : List FieldType} {W : Nat} {stk : List Value} (O : Ok G K own bytes maxL ret R mn kc ks) (hd : decode bytes pc = .ok (.invokespecial ix, 3)) (hy1 : y.name = "<init>")
    (w1 : Jvm.Cond.methodLink own ix y ∈ tables_1) (w2 : Jvm.Cond.instanceMethod y ∈ tables_1) (w3 : Jvm.Cond.initialized y.cls ∈ tables_1) (w4 : Jvm.Cond.code y bytes' maxL' none ∈ tables_1) (hy : y.cls ≠ "java/lang/invoke/MethodHandle" ∧ y.cls ≠ "java/lang/invoke/VarHandle")
    (pd : parseMethodDescriptor y.desc = some ⟨ps, none⟩) (hl : as.length = ps.length) (hstk : stk = as.reverse ++ .ref i :: st) (hLs : Ls.length = maxL) (hW : (st.map fun v => v.category).sum = W) (hf : rm.frames + 1 ≤ R.frames) (hlo : W + (maxL' + 11) + rm.locals ≤ R.locals) {c2 s2 : Nat} (hc2 : cells + rm.cells = c2) (hs2 : slots + rm.slots = s2) (hc : c2 ≤ R.cells) (hs : s2 ≤ R.slots)
    (con : Con G y bytes' maxL' none rm (.ref i :: as) H none H') (hp : pc + 3 = pc') (k : Run G K rv Hf pc' Ls st H' c2 s2) : Run G K rv Hf pc Ls stk H cells slots := by
  obtain ⟨l, Z, a0, n⟩ := G; obtain ⟨p, e, R', s, m, args, below, meth, c, kc', ks'⟩ := K
  obtain ⟨hx, hZ, hown, hby, hml, hret, hlk, rfl, hnm, rfl, rfl, hw⟩ := O
  subst hp hstk hc2 hs2
  intro T locs real X N S A L
  obtain ⟨v', _, ⟨T', L', k', n'⟩, -, X', ⟨Lc, ⟨hv, N', S', hlen⟩, l1, y1, z1⟩, stp⟩ := X.specialBack hx (y := y) hy1 hown (mvT hZ (hw _ w1)) (mvT hZ (hw _ w2)) (mvT hZ (hw _ w4)) hy (backOf (W := W) (Q := fun u hh LL => u = Option.map (sh n) none ∧ Fr n LL ∧ Sim (l, Z, a0, n) H' hh ∧ H'.length = H.length + rm.cells) (con T.heap S) hZ (hw _ w4) (hw _ w3) hf hlo) (g := mkF m pc real ((as.reverse ++ .ref i :: st).map (sh n))) rfl (by show real.size = _; rw [L.1, hml]; exact hLs) (Steps.refl _)
    (a := n + i) (argsL := as.map (sh n)) (rest := st.map (sh n)) (lenOf pd (by simpa using hl)) (by simp [sh]) (by show 2 * 0 + _ ≤ _; rw [cat_sum, hW]; exact Nat.le_of_eq (Nat.zero_add _)) (hb hby hd) (fun _ _ => ⟨rfl, rfl, hc, hs⟩)
  dsimp only [Pt.U, Pt.locs, Pt.cells, Pt.slots] at X' l1 y1 z1 stp S' N'
  subst l1 y1 z1 hv
  exact Done.step (fun t q => stp.trans q) (k T' _ real X' (Fr.app N N') S' (by omega) L)
theorem g_virtual {ix i t : Nat} {y : MethodName} {bytes' : ByteArray} {maxL' : Nat} {ret' : Option FieldType} {rm : Room} {as vs : List Value} {H' : List Obj} {v : Option Value} {ps : List FieldType} {W : Nat} {stk : List Value} (O : Ok G K own bytes maxL ret R mn kc ks) (hd : decode bytes pc = .ok (.invokevirtual ix, 3))
    (w1 : Jvm.Cond.methodLink own ix y ∈ tables_1) (w2 : Jvm.Cond.declares y ∈ tables_1) (w5 : Jvm.Cond.selects (lay t).1 y y ∈ tables_1) (w6 : Jvm.Cond.instanceMethod y ∈ tables_1) (w3 : Jvm.Cond.initialized y.cls ∈ tables_1) (w4 : Jvm.Cond.code y bytes' maxL' ret' ∈ tables_1) (hy : y.cls ≠ "java/lang/invoke/MethodHandle" ∧ y.cls ≠ "java/lang/invoke/VarHandle")
    (ho : obj t H i = some vs) (pd : parseMethodDescriptor y.desc = some ⟨ps, ret'⟩) (hl : as.length = ps.length) (hstk : stk = as.reverse ++ .ref i :: st) (hLs : Ls.length = maxL) (hW : (st.map fun v => v.category).sum = W) (hf : rm.frames + 1 ≤ R.frames) (hlo : W + (maxL' + 11) + rm.locals ≤ R.locals) {c2 s2 : Nat} (hc2 : cells + rm.cells = c2) (hs2 : slots + rm.slots = s2) (hc : c2 ≤ R.cells) (hs : s2 ≤ R.slots)
    (con : Con G y bytes' maxL' ret' rm (.ref i :: as) H v H') (hp : pc + 3 = pc') (k : Run G K rv Hf pc' Ls (v.toList ++ st) H' c2 s2) : Run G K rv Hf pc Ls stk H cells slots := by
  obtain ⟨l, Z, a0, n⟩ := G; obtain ⟨p, e, R', s, m, args, below, meth, c, kc', ks'⟩ := K
  obtain ⟨hx, hZ, hown, hby, hml, hret, hlk, rfl, hnm, rfl, rfl, hw⟩ := O
  subst hp hstk hc2 hs2
  intro T locs real X N S A L
  obtain ⟨cq, kq, qa, qb, qc⟩ := isOf hZ (T := T) rfl (sim_obj S ho).1
  obtain ⟨v', _, ⟨T', L', k', n'⟩, -, X', ⟨Lc, ⟨hv, N', S', hlen⟩, l1, y1, z1⟩, stp⟩ := X.virtualBack hx (y := y) (z := y) hown (mvT hZ (hw _ w1)) (mvT hZ (hw _ w2)) (notFace_of_selects (args := #[]) (mvT hZ (hw _ w5))) (mvT hZ (hw _ w5)) (mvT hZ (hw _ w6)) hy (backOf (W := W) (Q := fun u hh LL => u = Option.map (sh n) v ∧ Fr n LL ∧ Sim (l, Z, a0, n) H' hh ∧ H'.length = H.length + rm.cells) (con T.heap S) hZ (hw _ w4) (hw _ w3) hf hlo) qa qc (g := mkF m pc real ((as.reverse ++ .ref i :: st).map (sh n))) rfl (by show real.size = _; rw [L.1, hml]; exact hLs) (Steps.refl _)
    (argsL := as.map (sh n)) (rest := st.map (sh n)) (lenOf pd (by simpa using hl)) (by simp [sh]) (by show 2 * 0 + _ ≤ _; rw [cat_sum, hW]; exact Nat.le_of_eq (Nat.zero_add _)) (hb hby hd) (fun _ _ => ⟨rfl, rfl, hc, hs⟩)
  dsimp only [Pt.U, Pt.locs, Pt.cells, Pt.slots] at X' l1 y1 z1 stp S' N'
  subst l1 y1 z1 hv
  have k2 := k T' _ real X' (Fr.app N N') S' (by omega) L
  refine Done.step (fun t q => stp.trans q) ?_
  cases v <;> exact k2
theorem g_ret_void (O : Ok G K own bytes maxL none R mn kc ks) (hd : decode bytes pc = .ok (.return_, 1)) (hc : cells = kc) (hs : slots ≤ ks) : Run G K none H pc Ls [] H cells slots := by
  obtain ⟨l, Z, a0, n⟩ := G; obtain ⟨p, e, R', s, m, args, below, meth, c, kc', ks'⟩ := K
  obtain ⟨hx, hZ, hown, hby, hml, hret, hlk, rfl, hnm, rfl, rfl, hw⟩ := O
  intro T locs real X N S A L
  subst hc
  obtain ⟨fs, hr, hrun, hended, hW, hsame⟩ := X.leave (v := none) (fun _ => rfl) hlk
  exact ⟨_, _, X.returnOut hx hret (hb hby hd) hr, hrun, hended, _, _, rfl, ⟨rfl, N, S, A⟩, ⟨_, rfl⟩, hW, hsame.mono (Nat.le_refl _) hs⟩
theorem g_ret_int {x : Int32} (O : Ok G K own bytes maxL (some .int) R mn kc ks) (hd : decode bytes pc = .ok (.ireturn, 1)) (hc : cells = kc) (hs : slots ≤ ks) : Run G K (some (.int x)) H pc Ls (.int x :: st) H cells slots := by
  obtain ⟨l, Z, a0, n⟩ := G; obtain ⟨p, e, R', s, m, args, below, meth, c, kc', ks'⟩ := K
  obtain ⟨hx, hZ, hown, hby, hml, hret, hlk, rfl, hnm, rfl, rfl, hw⟩ := O
  intro T locs real X N S A L
  subst hc
  obtain ⟨fs, hr, hrun, hended, hW, hsame⟩ := X.leave (v := some (.int x)) (fun h => by rw [hret] at h; cases h) hlk
  exact ⟨_, _, retOut X hx hret rfl (Or.inl ⟨rfl, Or.inl rfl, x, rfl⟩) (hb hby hd) hr, hrun, hended, _, _, rfl, ⟨rfl, N, S, A⟩, ⟨_, rfl⟩, hW, hsame.mono (Nat.le_refl _) hs⟩
theorem g_ret_nar {t : FieldType} {x y : Int32} (O : Ok G K own bytes maxL (some t) R mn kc ks) (hd : decode bytes pc = .ok (.ireturn, 1)) (ht : t = .boolean ∨ t = .byte ∨ t = .char ∨ t = .short) (hy : nar t x = y) (hc : cells = kc) (hs : slots ≤ ks) : Run G K (some (.int y)) H pc Ls (.int x :: st) H cells slots := by
  obtain ⟨l, Z, a0, n⟩ := G; obtain ⟨p, e, R', s, m, args, below, meth, c, kc', ks'⟩ := K
  obtain ⟨hx, hZ, hown, hby, hml, hret, hlk, rfl, hnm, rfl, rfl, hw⟩ := O
  intro T locs real X N S A L
  subst hc hy
  obtain ⟨fs, hr, hrun, hended, hW, hsame⟩ := X.leave (v := some (.int (nar t x))) (fun h => by rw [hret] at h; cases h) hlk
  exact ⟨_, _, retN X hx hret ht (hb hby hd) hr, hrun, hended, _, _, rfl, ⟨rfl, N, S, A⟩, ⟨_, rfl⟩, hW, hsame.mono (Nat.le_refl _) hs⟩
theorem g_ret_long {x : Int64} (O : Ok G K own bytes maxL (some .long) R mn kc ks) (hd : decode bytes pc = .ok (.lreturn, 1)) (hc : cells = kc) (hs : slots ≤ ks) : Run G K (some (.long x)) H pc Ls (.long x :: st) H cells slots := by
  obtain ⟨l, Z, a0, n⟩ := G; obtain ⟨p, e, R', s, m, args, below, meth, c, kc', ks'⟩ := K
  obtain ⟨hx, hZ, hown, hby, hml, hret, hlk, rfl, hnm, rfl, rfl, hw⟩ := O
  intro T locs real X N S A L
  subst hc
  obtain ⟨fs, hr, hrun, hended, hW, hsame⟩ := X.leave (v := some (.long x)) (fun h => by rw [hret] at h; cases h) hlk
  exact ⟨_, _, retOut X hx hret rfl (Or.inr (Or.inl ⟨rfl, rfl, x, rfl⟩)) (hb hby hd) hr, hrun, hended, _, _, rfl, ⟨rfl, N, S, A⟩, ⟨_, rfl⟩, hW, hsame.mono (Nat.le_refl _) hs⟩
theorem g_ret_ref {t : FieldType} {i : Nat} (O : Ok G K own bytes maxL (some t) R mn kc ks) (hd : decode bytes pc = .ok (.areturn, 1)) (ht : t.isReference = true) (hn : ∀ a, narrow t (.ref a) = .ref a) (hc : cells = kc) (hs : slots ≤ ks) : Run G K (some (.ref i)) H pc Ls (.ref i :: st) H cells slots := by
  obtain ⟨l, Z, a0, n⟩ := G; obtain ⟨p, e, R', s, m, args, below, meth, c, kc', ks'⟩ := K
  obtain ⟨hx, hZ, hown, hby, hml, hret, hlk, rfl, hnm, rfl, rfl, hw⟩ := O
  intro T locs real X N S A L
  subst hc
  obtain ⟨fs, hr, hrun, hended, hW, hsame⟩ := X.leave (v := some (.ref (n + i))) (fun h => by rw [hret] at h; cases h) hlk
  exact ⟨_, _, retOut X hx hret (hn _) (Or.inr (Or.inr (Or.inr (Or.inr ⟨rfl, ht, rfl⟩)))) (hb hby hd) hr, hrun, hended, _, _, rfl, ⟨rfl, N, S, A⟩, ⟨_, rfl⟩, hW, hsame.mono (Nat.le_refl _) hs⟩
theorem con_of {y : MethodName} {rm : Room} {as : List Value} (hw : ∀ d ∈ tables_1, d.before G.2.2.1 G.2.1 = true) (pn : plainFor y = true) (hL : aloc as maxL = Ls) (body : ∀ K, Ok G K y.cls bytes maxL ret rm y.name rm.cells rm.slots → Run G K rv Hf 0 Ls [] H 0 0) : Con G y bytes maxL ret rm as H rv Hf := by
  obtain ⟨l, Z, a0, n⟩ := G
  intro h0 S0
  refine MetFree.of_bodySF pn hisR ?_
  intro p e s m args below meth c s₁ Bd hml0 hP hK
  obtain ⟨rfl, hZ, rfl⟩ := hP
  have X0 : Stand p l e rm s m _ below meth c s₁ [] 0 0 := Stand.of_body Bd
  have e0 : s₁.heap = s.heap := by rw [Bd.state]; rfl
  have k := body (p, e, rm, s, m, (as.map (sh n)).toArray, below, meth, c, rm.cells, rm.slots) ⟨Bd.exec, hZ, findClass_of_methodNamed Bd.named, Bd.bytes, hml0, Bd.returns, Bd.notSynchronized, rfl, (name_of_methodNamed Bd.named Bd.method).1, rfl, rfl, hw⟩
  subst hL
  obtain ⟨t, o, h1, h2, h3, v, L, h4, ⟨h5, h6, h7, h8⟩, h9⟩ := k s₁ [] _ X0 (Fr.nil n) (by rw [e0]; exact S0) (by rw [Nat.add_zero]; exact S0.1) (entry_rel n as maxL)
  refine ⟨t, o, h1, h2, h3, v, L, h4, ⟨h5, h6, h7, ?_⟩, h9⟩
  have := S0.1
  simp only at this
  omega
/-- the law itself, over an empty own heap -/
theorem law_of {l : Launch} {s : State} {a0 : Array Value} {as : List Value} {k0 k1 : Nat} (hw : ∀ d ∈ tables_1, d.before a0 s = true) (pn : plainFor x = true) (hL : aloc as maxLocals = Ls) (hid : as.map (sh s.heap.size) = as)
    (body : ∀ K, Ok (l, s, a0, s.heap.size) K x.cls code maxLocals Jvm.Pilot.@@N@@.ret room_1 x.name k0 k1 → Run (l, s, a0, s.heap.size) K rv Hf 0 Ls [] [] 0 0) :
    MetFree l x (head1 (Jvm.Cond.code x code maxLocals Jvm.Pilot.@@N@@.ret :: tables_1) room_1) (fun a U => a = as.toArray ∧ s.Warmed39 U.vm ∧ U.heap = s.heap) (fun _ _ _ _ _ => True) (fun _ U o U' => ∃ v L, o = .returned v ∧ (v = rv.map (sh s.heap.size) ∧ Fr s.heap.size L) ∧ FrameEnd U o U' L k0 k1) := by
  refine MetFree.of_bodySF pn hisR ?_
  intro p e U m args below meth c s₁ Bd hml0 hP hK
  obtain ⟨rfl, hZ, hU⟩ := hP
  have X0 : Stand p l e room_1 U m _ below meth c s₁ [] 0 0 := Stand.of_body Bd
  have e0 : s₁.heap = U.heap := by rw [Bd.state]; rfl
  have k := body (p, e, room_1, U, m, as.toArray, below, meth, c, k0, k1) ⟨Bd.exec, hZ, findClass_of_methodNamed Bd.named, Bd.bytes, hml0, Bd.returns, Bd.notSynchronized, rfl, (name_of_methodNamed Bd.named Bd.method).1, rfl, rfl, hw⟩
  subst hL
  have S0 : Sim (l, s, a0, s.heap.size) [] s₁.heap := ⟨by rw [e0, hU]; rfl, fun i o h => by simp at h⟩
  have er := entry_rel s.heap.size as maxLocals
  rw [hid] at er
  obtain ⟨t, o, h1, h2, h3, v, L, h4, ⟨h5, h6, h7, h8⟩, h9⟩ := k s₁ [] _ X0 (Fr.nil _) S0 (by rw [hU]; rfl) er
  exact ⟨t, o, h1, h2, h3, v, L, h4, ⟨h5, h6⟩, h9⟩
theorem Ok.w (O : Ok G K own bytes maxL ret R mn kc ks) : ∀ d ∈ tables_1, d.before G.2.2.1 G.2.1 = true := by
  obtain ⟨l, Z, a0, n⟩ := G; obtain ⟨p, e, R', s, m, args, below, meth, c, kc', ks'⟩ := K
  obtain ⟨-, -, -, -, -, -, -, -, -, -, -, hw⟩ := O
  exact hw
theorem bnd {α β : Type} {o : Option α} {f : α → Option β} {b : β} (h : o.bind f = some b) : ∃ a, o = some a ∧ f a = some b := Option.bind_eq_some_iff.mp h
theorem g_static1 {ix : Nat} {y : MethodName} {bytes' : ByteArray} {maxL' : Nat} {ret' : Option FieldType} {rm : Room} {as : List Value} {H' : List Obj} {v : Value} {ps : List FieldType} {W : Nat} {stk : List Value} (O : Ok G K own bytes maxL ret R mn kc ks) (hd : decode bytes pc = .ok (.invokestatic ix, 3))
    (w1 : Jvm.Cond.methodLink own ix y ∈ tables_1) (w2 : Jvm.Cond.static y ∈ tables_1) (w3 : Jvm.Cond.initialized y.cls ∈ tables_1) (w4 : Jvm.Cond.code y bytes' maxL' ret' ∈ tables_1) (hy : y.cls ≠ "java/lang/invoke/MethodHandle" ∧ y.cls ≠ "java/lang/invoke/VarHandle")
    (pd : parseMethodDescriptor y.desc = some ⟨ps, ret'⟩) (hl : as.length = ps.length) (hstk : stk = as.reverse ++ st) (hLs : Ls.length = maxL) (hW : (st.map fun v => v.category).sum = W) (hf : rm.frames + 1 ≤ R.frames) (hlo : W + (maxL' + 11) + rm.locals ≤ R.locals) {c2 s2 : Nat} (hc2 : cells + rm.cells = c2) (hs2 : slots + rm.slots = s2) (hc : c2 ≤ R.cells) (hs : s2 ≤ R.slots)
    (con : Con G y bytes' maxL' ret' rm as H (some v) H') (hp : pc + 3 = pc') (k : Run G K rv Hf pc' Ls (v :: st) H' c2 s2) : Run G K rv Hf pc Ls stk H cells slots := g_static O hd w1 w2 w3 w4 hy pd hl hstk hLs hW hf hlo hc2 hs2 hc hs con hp k
theorem g_static0 {ix : Nat} {y : MethodName} {bytes' : ByteArray} {maxL' : Nat} {ret' : Option FieldType} {rm : Room} {as : List Value} {H' : List Obj} {ps : List FieldType} {W : Nat} {stk : List Value} (O : Ok G K own bytes maxL ret R mn kc ks) (hd : decode bytes pc = .ok (.invokestatic ix, 3))
    (w1 : Jvm.Cond.methodLink own ix y ∈ tables_1) (w2 : Jvm.Cond.static y ∈ tables_1) (w3 : Jvm.Cond.initialized y.cls ∈ tables_1) (w4 : Jvm.Cond.code y bytes' maxL' ret' ∈ tables_1) (hy : y.cls ≠ "java/lang/invoke/MethodHandle" ∧ y.cls ≠ "java/lang/invoke/VarHandle")
    (pd : parseMethodDescriptor y.desc = some ⟨ps, ret'⟩) (hl : as.length = ps.length) (hstk : stk = as.reverse ++ st) (hLs : Ls.length = maxL) (hW : (st.map fun v => v.category).sum = W) (hf : rm.frames + 1 ≤ R.frames) (hlo : W + (maxL' + 11) + rm.locals ≤ R.locals) {c2 s2 : Nat} (hc2 : cells + rm.cells = c2) (hs2 : slots + rm.slots = s2) (hc : c2 ≤ R.cells) (hs : s2 ≤ R.slots)
    (con : Con G y bytes' maxL' ret' rm as H none H') (hp : pc + 3 = pc') (k : Run G K rv Hf pc' Ls st H' c2 s2) : Run G K rv Hf pc Ls stk H cells slots := g_static O hd w1 w2 w3 w4 hy pd hl hstk hLs hW hf hlo hc2 hs2 hc hs con hp k
theorem g_virtual1 {ix i t : Nat} {y : MethodName} {bytes' : ByteArray} {maxL' : Nat} {ret' : Option FieldType} {rm : Room} {as vs : List Value} {H' : List Obj} {v : Value} {ps : List FieldType} {W : Nat} {stk : List Value} (O : Ok G K own bytes maxL ret R mn kc ks) (hd : decode bytes pc = .ok (.invokevirtual ix, 3))
    (w1 : Jvm.Cond.methodLink own ix y ∈ tables_1) (w2 : Jvm.Cond.declares y ∈ tables_1) (w5 : Jvm.Cond.selects (lay t).1 y y ∈ tables_1) (w6 : Jvm.Cond.instanceMethod y ∈ tables_1) (w3 : Jvm.Cond.initialized y.cls ∈ tables_1) (w4 : Jvm.Cond.code y bytes' maxL' ret' ∈ tables_1) (hy : y.cls ≠ "java/lang/invoke/MethodHandle" ∧ y.cls ≠ "java/lang/invoke/VarHandle")
    (ho : obj t H i = some vs) (pd : parseMethodDescriptor y.desc = some ⟨ps, ret'⟩) (hl : as.length = ps.length) (hstk : stk = as.reverse ++ .ref i :: st) (hLs : Ls.length = maxL) (hW : (st.map fun v => v.category).sum = W) (hf : rm.frames + 1 ≤ R.frames) (hlo : W + (maxL' + 11) + rm.locals ≤ R.locals) {c2 s2 : Nat} (hc2 : cells + rm.cells = c2) (hs2 : slots + rm.slots = s2) (hc : c2 ≤ R.cells) (hs : s2 ≤ R.slots)
    (con : Con G y bytes' maxL' ret' rm (.ref i :: as) H (some v) H') (hp : pc + 3 = pc') (k : Run G K rv Hf pc' Ls (v :: st) H' c2 s2) : Run G K rv Hf pc Ls stk H cells slots := g_virtual O hd w1 w2 w5 w6 w3 w4 hy ho pd hl hstk hLs hW hf hlo hc2 hs2 hc hs con hp k
theorem g_virtual0 {ix i t : Nat} {y : MethodName} {bytes' : ByteArray} {maxL' : Nat} {ret' : Option FieldType} {rm : Room} {as vs : List Value} {H' : List Obj} {ps : List FieldType} {W : Nat} {stk : List Value} (O : Ok G K own bytes maxL ret R mn kc ks) (hd : decode bytes pc = .ok (.invokevirtual ix, 3))
    (w1 : Jvm.Cond.methodLink own ix y ∈ tables_1) (w2 : Jvm.Cond.declares y ∈ tables_1) (w5 : Jvm.Cond.selects (lay t).1 y y ∈ tables_1) (w6 : Jvm.Cond.instanceMethod y ∈ tables_1) (w3 : Jvm.Cond.initialized y.cls ∈ tables_1) (w4 : Jvm.Cond.code y bytes' maxL' ret' ∈ tables_1) (hy : y.cls ≠ "java/lang/invoke/MethodHandle" ∧ y.cls ≠ "java/lang/invoke/VarHandle")
    (ho : obj t H i = some vs) (pd : parseMethodDescriptor y.desc = some ⟨ps, ret'⟩) (hl : as.length = ps.length) (hstk : stk = as.reverse ++ .ref i :: st) (hLs : Ls.length = maxL) (hW : (st.map fun v => v.category).sum = W) (hf : rm.frames + 1 ≤ R.frames) (hlo : W + (maxL' + 11) + rm.locals ≤ R.locals) {c2 s2 : Nat} (hc2 : cells + rm.cells = c2) (hs2 : slots + rm.slots = s2) (hc : c2 ≤ R.cells) (hs : s2 ≤ R.slots)
    (con : Con G y bytes' maxL' ret' rm (.ref i :: as) H none H') (hp : pc + 3 = pc') (k : Run G K rv Hf pc' Ls st H' c2 s2) : Run G K rv Hf pc Ls stk H cells slots := g_virtual O hd w1 w2 w5 w6 w3 w4 hy ho pd hl hstk hLs hW hf hlo hc2 hs2 hc hs con hp k
/-- clone() of an int[] -/
def cloneI (cap : Nat) (H : List Obj) (i : Nat) : Option (List Obj) := (arr .int H i).bind fun vs => if vs.length ≤ cap ∧ vs.all (fun v => (getI v).isSome) = true then some (H ++ [.inl (.int, vs)]) else none
theorem g_cloneI {ix i cap W : Nat} {H' : List Obj} (O : Ok G K own bytes maxL ret R mn kc ks) (hd : decode bytes pc = .ok (.invokevirtual ix, 3)) (w1 : Jvm.Cond.methodLink own ix (⟨"[I", "clone", "()Ljava/lang/Object;"⟩ : MethodName) ∈ tables_1) (w2 : Jvm.Cond.sameMethod "[I" "java/lang/Object" "clone" "()Ljava/lang/Object;" ∈ tables_1) (w3 : Jvm.Cond.native (⟨"java/lang/Object", "clone", "()Ljava/lang/Object;"⟩ : MethodName) ∈ tables_1)
    (w4 : Jvm.Cond.instanceMethod (⟨"java/lang/Object", "clone", "()Ljava/lang/Object;"⟩ : MethodName) ∈ tables_1) (w5 : Jvm.Cond.selects "[I" (⟨"[I", "clone", "()Ljava/lang/Object;"⟩ : MethodName) (⟨"java/lang/Object", "clone", "()Ljava/lang/Object;"⟩ : MethodName) ∈ tables_1) (w6 : Jvm.Cond.castable "[I" "java/lang/Cloneable" ∈ tables_1) (hr : cloneI cap H i = some H')
    (hLs : Ls.length = maxL) (hW : (st.map fun v => v.category).sum = W) (hf : 1 ≤ R.frames) (hl : W + 14 ≤ R.locals) {c2 s2 : Nat} (hc2 : cells + 1 = c2) (hs2 : slots + cap = s2) (hc : c2 ≤ R.cells) (hs : s2 ≤ R.slots) (hp : pc + 3 = pc')
    (k : Run G K rv Hf pc' Ls (.ref H.length :: st) H' c2 s2) : Run G K rv Hf pc Ls (.ref i :: st) H cells slots := by
  obtain ⟨l, Z, a0, n⟩ := G; obtain ⟨p, e, R', s, m, args, below, meth, c, kc', ks'⟩ := K
  obtain ⟨hx, hZ, hown, hby, hml, hret, hlk, rfl, hnm, rfl, rfl, hw⟩ := O
  subst hp hc2 hs2
  intro T locs real X N S A L
  obtain ⟨vs, h1, h2⟩ := bnd hr
  have hv : vs.length ≤ cap ∧ vs.all (fun v => (getI v).isSome) = true := Decidable.byContradiction fun hv => by rw [if_neg hv] at h2; cases h2
  rw [if_pos hv] at h2
  cases h2
  obtain ⟨EX, cl, B, es⟩ := S.2 i _ (arr_e h1)
  have FC : FitC Z cl := fitC_of B fun j hj v hjv => by
    rw [es] at hjv
    simp only [List.getElem?_toArray, List.getElem?_map, Option.map_eq_some_iff] at hjv
    obtain ⟨u, q1, q2⟩ := hjv
    have := List.all_eq_true.mp hv.2 u (List.mem_of_getElem? q1)
    cases u <;> simp [getI] at this
    rw [← q2]; rfl
  obtain ⟨T', h', X', e', E, B', EX', stp⟩ := cloneA X hx hZ hown (hw _ w1) (hw _ w2) (hw _ w3) (hw _ w4) (hw _ w5) (hw _ w6) rfl B EX FC (g := mkF m pc real ((.ref i :: st).map (sh n))) rfl (by show real.size = _; rw [L.1, hml]; exact hLs) rfl (hb hby hd) hf (W := W) (cap := cap) (by show 2 * 0 + _ ≤ _; rw [cat_sum, hW]; exact Nat.le_of_eq (Nat.zero_add _)) hl (by rw [sl_len es]; exact hv.1) hc hs
  have hsz : h'.size = T.heap.size + 1 := by
    have a1 : Array.size T.heap < Array.size h' := B'.lt
    have a2 : Array.size T'.heap ≤ Array.size s.heap + (cells + 1) := X'.heapSize
    rw [e'] at a2
    have a3 : Array.size T.heap = n + H.length := S.1
    have a4 : Array.size s.heap + cells = n + H.length := A
    omega
  have ea : T.heap.size = n + H.length := S.1
  have S' : Sim (l, Z, a0, n) (H ++ [.inl (.int, vs)]) T'.heap := by
    rw [e']
    exact sim_ext S E hsz ⟨EX', _, B', es⟩
  refine Done.step stp ?_
  have k' := k T' locs real X' N S' (by simp only [List.length_append, List.length_singleton] at A ⊢; omega) L
  rw [ea]
  exact k'
theorem g_checkcastI {ix i : Nat} {vs : List Value} (O : Ok G K own bytes maxL ret R mn kc ks) (hd : decode bytes pc = .ok (.checkcast ix, 3)) (w1 : Jvm.Cond.classLink own ix "[I" ∈ tables_1) (ha : arr .int H i = some vs) (hp : pc + 3 = pc')
    (k : Run G K rv Hf pc' Ls (.ref i :: st) H cells slots) : Run G K rv Hf pc Ls (.ref i :: st) H cells slots := by
  obtain ⟨l, Z, a0, n⟩ := G; obtain ⟨p, e, R', s, m, args, below, meth, c, kc', ks'⟩ := K
  obtain ⟨hx, hZ, hown, hby, hml, hret, hlk, rfl, hnm, rfl, rfl, hw⟩ := O
  subst hp
  intro T locs real X N S A L
  obtain ⟨EX, cl, B, es⟩ := S.2 i _ (arr_e ha)
  obtain ⟨T', X', e', stp⟩ := castY X hx hZ hown (hw _ w1) rfl (Ins.self EX) (g := mkF m pc real ((.ref i :: st).map (sh n))) rfl rfl (hb hby hd)
  exact Done.step stp (k T' locs real X' N (by rw [e']; exact S) A L)
end Laws
/-! small facts on numbers -/
theorem own_n0 : nar .boolean 0 = 0 := rfl
theorem own_n1 : nar .boolean 1 = 1 := rfl
theorem own_fin {r : Int32} {N : Nat} (h0 : 0 ≤ r.toInt) (h1 : r.toInt < N) (hN : N ≤ 2147483648) : ∃ j : Fin N, r = (j.1).toInt32 := by
  refine ⟨⟨r.toInt.toNat, by omega⟩, Int32.toInt_inj.mp ?_⟩
  show r.toInt = (r.toInt.toNat).toInt32.toInt
  rw [len_toInt (by show r.toInt.toNat < 2 ^ 31; omega)]
  omega
theorem own_lt {x y : Int32} : x < y ↔ x.toInt < y.toInt := Int32.lt_iff_toInt_lt
theorem own_le {x y : Int32} : x ≤ y ↔ x.toInt ≤ y.toInt := Int32.le_iff_toInt_le
theorem own_eq {x y : Int32} : x = y ↔ x.toInt = y.toInt := Int32.toInt_inj.symm
theorem own_ltL {x y : Int64} : x < y ↔ x.toInt < y.toInt := Int64.lt_iff_toInt_lt
theorem own_eqL {x y : Int64} : x = y ↔ x.toInt = y.toInt := Int64.toInt_inj.symm
/-- x & (2^31 - 1), then a remainder by a small number -/
theorem own_m31 (a : Int32) : (a &&& 2147483647).toInt = a.toInt % 2147483648 := c_mask a 2147483647 31 (by decide) (by decide)
theorem own_mod {a y : Int32} {d : Int} (hy : y.toInt = d) (h : 0 ≤ a.toInt) : (a % y).toInt = a.toInt % d := (c_irem a y d hy).1 h

/-! body 1 -/
theorem d1_0 : decode prog_77_method_9_code 0 = .ok (.iload_n 0, 1) := by decide +kernel
theorem d1_1 : decode prog_77_method_9_code 1 = .ok (.sipush 128, 3) := by decide +kernel
theorem d1_4 : decode prog_77_method_9_code 4 = .ok (.if_icmp .ge 13, 3) := by decide +kernel
theorem d1_7 : decode prog_77_method_9_code 7 = .ok (.aload_n 1, 1) := by decide +kernel
theorem d1_8 : decode prog_77_method_9_code 8 = .ok (.iload_n 2, 1) := by decide +kernel
theorem d1_9 : decode prog_77_method_9_code 9 = .ok (.iload_n 0, 1) := by decide +kernel
theorem d1_10 : decode prog_77_method_9_code 10 = .ok (.i2b, 1) := by decide +kernel
theorem d1_11 : decode prog_77_method_9_code 11 = .ok (.bastore, 1) := by decide +kernel
theorem d1_12 : decode prog_77_method_9_code 12 = .ok (.iconst 1, 1) := by decide +kernel
theorem d1_13 : decode prog_77_method_9_code 13 = .ok (.istore_n 3, 1) := by decide +kernel
theorem d1_14 : decode prog_77_method_9_code 14 = .ok (.goto 157, 3) := by decide +kernel
theorem d1_17 : decode prog_77_method_9_code 17 = .ok (.iload_n 0, 1) := by decide +kernel
theorem d1_18 : decode prog_77_method_9_code 18 = .ok (.sipush 2048, 3) := by decide +kernel
theorem d1_21 : decode prog_77_method_9_code 21 = .ok (.if_icmp .ge 34, 3) := by decide +kernel
theorem d1_24 : decode prog_77_method_9_code 24 = .ok (.aload_n 1, 1) := by decide +kernel
theorem d1_25 : decode prog_77_method_9_code 25 = .ok (.iload_n 2, 1) := by decide +kernel
theorem d1_26 : decode prog_77_method_9_code 26 = .ok (.sipush 192, 3) := by decide +kernel
theorem d1_29 : decode prog_77_method_9_code 29 = .ok (.iload_n 0, 1) := by decide +kernel
theorem d1_30 : decode prog_77_method_9_code 30 = .ok (.bipush 6, 2) := by decide +kernel
theorem d1_32 : decode prog_77_method_9_code 32 = .ok (.ishr, 1) := by decide +kernel
theorem d1_33 : decode prog_77_method_9_code 33 = .ok (.ior, 1) := by decide +kernel
theorem d1_34 : decode prog_77_method_9_code 34 = .ok (.i2b, 1) := by decide +kernel
theorem d1_35 : decode prog_77_method_9_code 35 = .ok (.bastore, 1) := by decide +kernel
theorem d1_36 : decode prog_77_method_9_code 36 = .ok (.aload_n 1, 1) := by decide +kernel
theorem d1_37 : decode prog_77_method_9_code 37 = .ok (.iload_n 2, 1) := by decide +kernel
theorem d1_38 : decode prog_77_method_9_code 38 = .ok (.iconst 1, 1) := by decide +kernel
theorem d1_39 : decode prog_77_method_9_code 39 = .ok (.iadd, 1) := by decide +kernel
theorem d1_40 : decode prog_77_method_9_code 40 = .ok (.sipush 128, 3) := by decide +kernel
theorem d1_43 : decode prog_77_method_9_code 43 = .ok (.iload_n 0, 1) := by decide +kernel
theorem d1_44 : decode prog_77_method_9_code 44 = .ok (.bipush 63, 2) := by decide +kernel
theorem d1_46 : decode prog_77_method_9_code 46 = .ok (.iand, 1) := by decide +kernel
theorem d1_47 : decode prog_77_method_9_code 47 = .ok (.ior, 1) := by decide +kernel
theorem d1_48 : decode prog_77_method_9_code 48 = .ok (.i2b, 1) := by decide +kernel
theorem d1_49 : decode prog_77_method_9_code 49 = .ok (.bastore, 1) := by decide +kernel
theorem d1_50 : decode prog_77_method_9_code 50 = .ok (.iconst 2, 1) := by decide +kernel
theorem d1_51 : decode prog_77_method_9_code 51 = .ok (.istore_n 3, 1) := by decide +kernel
theorem d1_52 : decode prog_77_method_9_code 52 = .ok (.goto 119, 3) := by decide +kernel
theorem d1_55 : decode prog_77_method_9_code 55 = .ok (.iload_n 0, 1) := by decide +kernel
theorem d1_56 : decode prog_77_method_9_code 56 = .ok (.ldc 9, 2) := by decide +kernel
theorem d1_58 : decode prog_77_method_9_code 58 = .ok (.if_icmp .ge 51, 3) := by decide +kernel
theorem d1_61 : decode prog_77_method_9_code 61 = .ok (.aload_n 1, 1) := by decide +kernel
theorem d1_62 : decode prog_77_method_9_code 62 = .ok (.iload_n 2, 1) := by decide +kernel
theorem d1_63 : decode prog_77_method_9_code 63 = .ok (.sipush 224, 3) := by decide +kernel
theorem d1_66 : decode prog_77_method_9_code 66 = .ok (.iload_n 0, 1) := by decide +kernel
theorem d1_67 : decode prog_77_method_9_code 67 = .ok (.bipush 12, 2) := by decide +kernel
theorem d1_69 : decode prog_77_method_9_code 69 = .ok (.ishr, 1) := by decide +kernel
theorem d1_70 : decode prog_77_method_9_code 70 = .ok (.ior, 1) := by decide +kernel
theorem d1_71 : decode prog_77_method_9_code 71 = .ok (.i2b, 1) := by decide +kernel
theorem d1_72 : decode prog_77_method_9_code 72 = .ok (.bastore, 1) := by decide +kernel
theorem d1_73 : decode prog_77_method_9_code 73 = .ok (.aload_n 1, 1) := by decide +kernel
theorem d1_74 : decode prog_77_method_9_code 74 = .ok (.iload_n 2, 1) := by decide +kernel
theorem d1_75 : decode prog_77_method_9_code 75 = .ok (.iconst 1, 1) := by decide +kernel
theorem d1_76 : decode prog_77_method_9_code 76 = .ok (.iadd, 1) := by decide +kernel
theorem d1_77 : decode prog_77_method_9_code 77 = .ok (.sipush 128, 3) := by decide +kernel
theorem d1_80 : decode prog_77_method_9_code 80 = .ok (.iload_n 0, 1) := by decide +kernel
theorem d1_81 : decode prog_77_method_9_code 81 = .ok (.bipush 6, 2) := by decide +kernel
theorem d1_83 : decode prog_77_method_9_code 83 = .ok (.ishr, 1) := by decide +kernel
theorem d1_84 : decode prog_77_method_9_code 84 = .ok (.bipush 63, 2) := by decide +kernel
theorem d1_86 : decode prog_77_method_9_code 86 = .ok (.iand, 1) := by decide +kernel
theorem d1_87 : decode prog_77_method_9_code 87 = .ok (.ior, 1) := by decide +kernel
theorem d1_88 : decode prog_77_method_9_code 88 = .ok (.i2b, 1) := by decide +kernel
theorem d1_89 : decode prog_77_method_9_code 89 = .ok (.bastore, 1) := by decide +kernel
theorem d1_90 : decode prog_77_method_9_code 90 = .ok (.aload_n 1, 1) := by decide +kernel
theorem d1_91 : decode prog_77_method_9_code 91 = .ok (.iload_n 2, 1) := by decide +kernel
theorem d1_92 : decode prog_77_method_9_code 92 = .ok (.iconst 2, 1) := by decide +kernel
theorem d1_93 : decode prog_77_method_9_code 93 = .ok (.iadd, 1) := by decide +kernel
theorem d1_94 : decode prog_77_method_9_code 94 = .ok (.sipush 128, 3) := by decide +kernel
theorem d1_97 : decode prog_77_method_9_code 97 = .ok (.iload_n 0, 1) := by decide +kernel
theorem d1_98 : decode prog_77_method_9_code 98 = .ok (.bipush 63, 2) := by decide +kernel
theorem d1_100 : decode prog_77_method_9_code 100 = .ok (.iand, 1) := by decide +kernel
theorem d1_101 : decode prog_77_method_9_code 101 = .ok (.ior, 1) := by decide +kernel
theorem d1_102 : decode prog_77_method_9_code 102 = .ok (.i2b, 1) := by decide +kernel
theorem d1_103 : decode prog_77_method_9_code 103 = .ok (.bastore, 1) := by decide +kernel
theorem d1_104 : decode prog_77_method_9_code 104 = .ok (.iconst 3, 1) := by decide +kernel
theorem d1_105 : decode prog_77_method_9_code 105 = .ok (.istore_n 3, 1) := by decide +kernel
theorem d1_106 : decode prog_77_method_9_code 106 = .ok (.goto 65, 3) := by decide +kernel
theorem d1_109 : decode prog_77_method_9_code 109 = .ok (.aload_n 1, 1) := by decide +kernel
theorem d1_110 : decode prog_77_method_9_code 110 = .ok (.iload_n 2, 1) := by decide +kernel
theorem d1_111 : decode prog_77_method_9_code 111 = .ok (.sipush 240, 3) := by decide +kernel
theorem d1_114 : decode prog_77_method_9_code 114 = .ok (.iload_n 0, 1) := by decide +kernel
theorem d1_115 : decode prog_77_method_9_code 115 = .ok (.bipush 18, 2) := by decide +kernel
theorem d1_117 : decode prog_77_method_9_code 117 = .ok (.ishr, 1) := by decide +kernel
theorem d1_118 : decode prog_77_method_9_code 118 = .ok (.ior, 1) := by decide +kernel
theorem d1_119 : decode prog_77_method_9_code 119 = .ok (.i2b, 1) := by decide +kernel
theorem d1_120 : decode prog_77_method_9_code 120 = .ok (.bastore, 1) := by decide +kernel
theorem d1_121 : decode prog_77_method_9_code 121 = .ok (.aload_n 1, 1) := by decide +kernel
theorem d1_122 : decode prog_77_method_9_code 122 = .ok (.iload_n 2, 1) := by decide +kernel
theorem d1_123 : decode prog_77_method_9_code 123 = .ok (.iconst 1, 1) := by decide +kernel
theorem d1_124 : decode prog_77_method_9_code 124 = .ok (.iadd, 1) := by decide +kernel
theorem d1_125 : decode prog_77_method_9_code 125 = .ok (.sipush 128, 3) := by decide +kernel
theorem d1_128 : decode prog_77_method_9_code 128 = .ok (.iload_n 0, 1) := by decide +kernel
theorem d1_129 : decode prog_77_method_9_code 129 = .ok (.bipush 12, 2) := by decide +kernel
theorem d1_131 : decode prog_77_method_9_code 131 = .ok (.ishr, 1) := by decide +kernel
theorem d1_132 : decode prog_77_method_9_code 132 = .ok (.bipush 63, 2) := by decide +kernel
theorem d1_134 : decode prog_77_method_9_code 134 = .ok (.iand, 1) := by decide +kernel
theorem d1_135 : decode prog_77_method_9_code 135 = .ok (.ior, 1) := by decide +kernel
theorem d1_136 : decode prog_77_method_9_code 136 = .ok (.i2b, 1) := by decide +kernel
theorem d1_137 : decode prog_77_method_9_code 137 = .ok (.bastore, 1) := by decide +kernel
theorem d1_138 : decode prog_77_method_9_code 138 = .ok (.aload_n 1, 1) := by decide +kernel
theorem d1_139 : decode prog_77_method_9_code 139 = .ok (.iload_n 2, 1) := by decide +kernel
theorem d1_140 : decode prog_77_method_9_code 140 = .ok (.iconst 2, 1) := by decide +kernel
theorem d1_141 : decode prog_77_method_9_code 141 = .ok (.iadd, 1) := by decide +kernel
theorem d1_142 : decode prog_77_method_9_code 142 = .ok (.sipush 128, 3) := by decide +kernel
theorem d1_145 : decode prog_77_method_9_code 145 = .ok (.iload_n 0, 1) := by decide +kernel
theorem d1_146 : decode prog_77_method_9_code 146 = .ok (.bipush 6, 2) := by decide +kernel
theorem d1_148 : decode prog_77_method_9_code 148 = .ok (.ishr, 1) := by decide +kernel
theorem d1_149 : decode prog_77_method_9_code 149 = .ok (.bipush 63, 2) := by decide +kernel
theorem d1_151 : decode prog_77_method_9_code 151 = .ok (.iand, 1) := by decide +kernel
theorem d1_152 : decode prog_77_method_9_code 152 = .ok (.ior, 1) := by decide +kernel
theorem d1_153 : decode prog_77_method_9_code 153 = .ok (.i2b, 1) := by decide +kernel
theorem d1_154 : decode prog_77_method_9_code 154 = .ok (.bastore, 1) := by decide +kernel
theorem d1_155 : decode prog_77_method_9_code 155 = .ok (.aload_n 1, 1) := by decide +kernel
theorem d1_156 : decode prog_77_method_9_code 156 = .ok (.iload_n 2, 1) := by decide +kernel
theorem d1_157 : decode prog_77_method_9_code 157 = .ok (.iconst 3, 1) := by decide +kernel
theorem d1_158 : decode prog_77_method_9_code 158 = .ok (.iadd, 1) := by decide +kernel
theorem d1_159 : decode prog_77_method_9_code 159 = .ok (.sipush 128, 3) := by decide +kernel
theorem d1_162 : decode prog_77_method_9_code 162 = .ok (.iload_n 0, 1) := by decide +kernel
theorem d1_163 : decode prog_77_method_9_code 163 = .ok (.bipush 63, 2) := by decide +kernel
theorem d1_165 : decode prog_77_method_9_code 165 = .ok (.iand, 1) := by decide +kernel
theorem d1_166 : decode prog_77_method_9_code 166 = .ok (.ior, 1) := by decide +kernel
theorem d1_167 : decode prog_77_method_9_code 167 = .ok (.i2b, 1) := by decide +kernel
theorem d1_168 : decode prog_77_method_9_code 168 = .ok (.bastore, 1) := by decide +kernel
theorem d1_169 : decode prog_77_method_9_code 169 = .ok (.iconst 4, 1) := by decide +kernel
theorem d1_170 : decode prog_77_method_9_code 170 = .ok (.istore_n 3, 1) := by decide +kernel
theorem d1_171 : decode prog_77_method_9_code 171 = .ok (.iload_n 3, 1) := by decide +kernel
theorem d1_172 : decode prog_77_method_9_code 172 = .ok (.ireturn, 1) := by decide +kernel
theorem pd1 : parseMethodDescriptor "(I[BI)I" = some ⟨[.int, .array .byte, .int], some .int⟩ := by decide +kernel
theorem pn1 : plainFor (⟨"shelfmark/XmlChars", "encode", "(I[BI)I"⟩ : MethodName) = true := by first | exact plainFor_of_name (by first | (simp [plainName, overriddenIn]; done) | decide +kernel) | decide +kernel
abbrev rm1 : Room := { frames := 0, cells := 0, slots := 0, locals := 0 }
abbrev Ok1 (G : Gx) (K : Kx) : Prop := Ok G K "shelfmark/XmlChars" prog_77_method_9_code 4 (Option.some FieldType.int) rm1 "encode" 0 0
def m1_b171 (v3 : Int32) (H : List Obj) : Option (Int32 × List Obj) :=
  some (v3, H)
theorem m1_t171 {G : Gx} {K : Kx} (O : Ok1 G K) (v3 : Int32) (H : List Obj) (r : Int32) (Hf : List Obj) (hf : m1_b171 v3 H = some (r, Hf)) : Run G K (some (.int r)) Hf 171 [none, none, none, some (.int v3)] [] H 0 0 := by
  unfold m1_b171 at hf
  refine g_iload_n O (pc' := 172) d1_171 (v := v3) rfl rfl ?_
  cases hf
  exact g_ret_int O d1_172 rfl (by decide)
def m1_b0 (v0 : Int32) (v1 : Nat) (v2 : Int32) (H : List Obj) : Option (Int32 × List Obj) :=
  if v0 < (128 : Int32) then
    (wr .byte H v1 v2 (.int (nar .byte ((v0).toInt8.toInt32)))).bind fun H11 =>
    m1_b171 (1 : Int32) H11
  else
    if v0 < (2048 : Int32) then
      (wr .byte H v1 v2 (.int (nar .byte ((((192 : Int32) ||| (v0 >>> ((6 : Int32) &&& 31)))).toInt8.toInt32)))).bind fun H35 =>
      (wr .byte H35 v1 (v2 + (1 : Int32)) (.int (nar .byte ((((128 : Int32) ||| (v0 &&& (63 : Int32)))).toInt8.toInt32)))).bind fun H49 =>
      m1_b171 (2 : Int32) H49
    else
      if v0 < (65536 : Int32) then
        (wr .byte H v1 v2 (.int (nar .byte ((((224 : Int32) ||| (v0 >>> ((12 : Int32) &&& 31)))).toInt8.toInt32)))).bind fun H72 =>
        (wr .byte H72 v1 (v2 + (1 : Int32)) (.int (nar .byte ((((128 : Int32) ||| ((v0 >>> ((6 : Int32) &&& 31)) &&& (63 : Int32)))).toInt8.toInt32)))).bind fun H89 =>
        (wr .byte H89 v1 (v2 + (2 : Int32)) (.int (nar .byte ((((128 : Int32) ||| (v0 &&& (63 : Int32)))).toInt8.toInt32)))).bind fun H103 =>
        m1_b171 (3 : Int32) H103
      else
        (wr .byte H v1 v2 (.int (nar .byte ((((240 : Int32) ||| (v0 >>> ((18 : Int32) &&& 31)))).toInt8.toInt32)))).bind fun H120 =>
        (wr .byte H120 v1 (v2 + (1 : Int32)) (.int (nar .byte ((((128 : Int32) ||| ((v0 >>> ((12 : Int32) &&& 31)) &&& (63 : Int32)))).toInt8.toInt32)))).bind fun H137 =>
        (wr .byte H137 v1 (v2 + (2 : Int32)) (.int (nar .byte ((((128 : Int32) ||| ((v0 >>> ((6 : Int32) &&& 31)) &&& (63 : Int32)))).toInt8.toInt32)))).bind fun H154 =>
        (wr .byte H154 v1 (v2 + (3 : Int32)) (.int (nar .byte ((((128 : Int32) ||| (v0 &&& (63 : Int32)))).toInt8.toInt32)))).bind fun H168 =>
        m1_b171 (4 : Int32) H168
theorem m1_t0 {G : Gx} {K : Kx} (O : Ok1 G K) (v0 : Int32) (v1 : Nat) (v2 : Int32) (H : List Obj) (r : Int32) (Hf : List Obj) (hf : m1_b0 v0 v1 v2 H = some (r, Hf)) : Run G K (some (.int r)) Hf 0 [some (.int v0), some (.ref v1), some (.int v2), none] [] H 0 0 := by
  unfold m1_b0 at hf
  refine g_iload_n O (pc' := 1) d1_0 (v := v0) rfl rfl ?_
  refine g_sipush O (pc' := 4) d1_1 (v := 128) (by decide) rfl ?_
  refine g_icmp_ge O (pc' := 7) d1_4 rfl (by decide) (pc1 := 17) (by decide) (fun h4 => ?_) (fun h4 => ?_)
  · rw [if_neg h4] at hf
    refine g_iload_n O (pc' := 18) d1_17 (v := v0) rfl rfl ?_
    refine g_sipush O (pc' := 21) d1_18 (v := 2048) (by decide) rfl ?_
    refine g_icmp_ge O (pc' := 24) d1_21 rfl (by decide) (pc1 := 55) (by decide) (fun h21 => ?_) (fun h21 => ?_)
    · rw [if_neg h21] at hf
      refine g_iload_n O (pc' := 56) d1_55 (v := v0) rfl rfl ?_
      refine g_ldc O (pc' := 58) d1_56 tw17 rfl ?_
      refine g_icmp_ge O (pc' := 61) d1_58 rfl (by decide) (pc1 := 109) (by decide) (fun h58 => ?_) (fun h58 => ?_)
      · rw [if_neg h58] at hf
        refine g_aload_n O (pc' := 110) d1_109 (v := v1) rfl rfl ?_
        refine g_iload_n O (pc' := 111) d1_110 (v := v2) rfl rfl ?_
        refine g_sipush O (pc' := 114) d1_111 (v := 240) (by decide) rfl ?_
        refine g_iload_n O (pc' := 115) d1_114 (v := v0) rfl rfl ?_
        refine g_bipush O (pc' := 117) d1_115 (v := 18) (by decide) rfl ?_
        refine g_ishr O (pc' := 118) d1_117 rfl ?_
        refine g_ior O (pc' := 119) d1_118 rfl ?_
        refine g_i2b O (pc' := 120) d1_119 rfl ?_
        obtain ⟨H120, h120, hf⟩ := bnd hf
        refine g_bastore O (pc' := 121) d1_120 h120 rfl ?_
        refine g_aload_n O (pc' := 122) d1_121 (v := v1) rfl rfl ?_
        refine g_iload_n O (pc' := 123) d1_122 (v := v2) rfl rfl ?_
        refine g_iconst O (pc' := 124) d1_123 (v := 1) (by decide) rfl ?_
        refine g_iadd O (pc' := 125) d1_124 rfl ?_
        refine g_sipush O (pc' := 128) d1_125 (v := 128) (by decide) rfl ?_
        refine g_iload_n O (pc' := 129) d1_128 (v := v0) rfl rfl ?_
        refine g_bipush O (pc' := 131) d1_129 (v := 12) (by decide) rfl ?_
        refine g_ishr O (pc' := 132) d1_131 rfl ?_
        refine g_bipush O (pc' := 134) d1_132 (v := 63) (by decide) rfl ?_
        refine g_iand O (pc' := 135) d1_134 rfl ?_
        refine g_ior O (pc' := 136) d1_135 rfl ?_
        refine g_i2b O (pc' := 137) d1_136 rfl ?_
        obtain ⟨H137, h137, hf⟩ := bnd hf
        refine g_bastore O (pc' := 138) d1_137 h137 rfl ?_
        refine g_aload_n O (pc' := 139) d1_138 (v := v1) rfl rfl ?_
        refine g_iload_n O (pc' := 140) d1_139 (v := v2) rfl rfl ?_
        refine g_iconst O (pc' := 141) d1_140 (v := 2) (by decide) rfl ?_
        refine g_iadd O (pc' := 142) d1_141 rfl ?_
        refine g_sipush O (pc' := 145) d1_142 (v := 128) (by decide) rfl ?_
        refine g_iload_n O (pc' := 146) d1_145 (v := v0) rfl rfl ?_
        refine g_bipush O (pc' := 148) d1_146 (v := 6) (by decide) rfl ?_
        refine g_ishr O (pc' := 149) d1_148 rfl ?_
        refine g_bipush O (pc' := 151) d1_149 (v := 63) (by decide) rfl ?_
        refine g_iand O (pc' := 152) d1_151 rfl ?_
        refine g_ior O (pc' := 153) d1_152 rfl ?_
        refine g_i2b O (pc' := 154) d1_153 rfl ?_
        obtain ⟨H154, h154, hf⟩ := bnd hf
        refine g_bastore O (pc' := 155) d1_154 h154 rfl ?_
        refine g_aload_n O (pc' := 156) d1_155 (v := v1) rfl rfl ?_
        refine g_iload_n O (pc' := 157) d1_156 (v := v2) rfl rfl ?_
        refine g_iconst O (pc' := 158) d1_157 (v := 3) (by decide) rfl ?_
        refine g_iadd O (pc' := 159) d1_158 rfl ?_
        refine g_sipush O (pc' := 162) d1_159 (v := 128) (by decide) rfl ?_
        refine g_iload_n O (pc' := 163) d1_162 (v := v0) rfl rfl ?_
        refine g_bipush O (pc' := 165) d1_163 (v := 63) (by decide) rfl ?_
        refine g_iand O (pc' := 166) d1_165 rfl ?_
        refine g_ior O (pc' := 167) d1_166 rfl ?_
        refine g_i2b O (pc' := 168) d1_167 rfl ?_
        obtain ⟨H168, h168, hf⟩ := bnd hf
        refine g_bastore O (pc' := 169) d1_168 h168 rfl ?_
        refine g_iconst O (pc' := 170) d1_169 (v := 4) (by decide) rfl ?_
        refine g_istore_n O (pc' := 171) d1_170 (Ls' := [some (.int v0), some (.ref v1), some (.int v2), some (.int (4 : Int32))]) rfl rfl ?_
        refine g_forget (Ls' := [none, none, none, some (.int (4 : Int32))]) (And.intro rfl trivial) ?_
        exact m1_t171 O (4 : Int32) H168 _ _ hf
      · rw [if_pos h58] at hf
        refine g_aload_n O (pc' := 62) d1_61 (v := v1) rfl rfl ?_
        refine g_iload_n O (pc' := 63) d1_62 (v := v2) rfl rfl ?_
        refine g_sipush O (pc' := 66) d1_63 (v := 224) (by decide) rfl ?_
        refine g_iload_n O (pc' := 67) d1_66 (v := v0) rfl rfl ?_
        refine g_bipush O (pc' := 69) d1_67 (v := 12) (by decide) rfl ?_
        refine g_ishr O (pc' := 70) d1_69 rfl ?_
        refine g_ior O (pc' := 71) d1_70 rfl ?_
        refine g_i2b O (pc' := 72) d1_71 rfl ?_
        obtain ⟨H72, h72, hf⟩ := bnd hf
        refine g_bastore O (pc' := 73) d1_72 h72 rfl ?_
        refine g_aload_n O (pc' := 74) d1_73 (v := v1) rfl rfl ?_
        refine g_iload_n O (pc' := 75) d1_74 (v := v2) rfl rfl ?_
        refine g_iconst O (pc' := 76) d1_75 (v := 1) (by decide) rfl ?_
        refine g_iadd O (pc' := 77) d1_76 rfl ?_
        refine g_sipush O (pc' := 80) d1_77 (v := 128) (by decide) rfl ?_
        refine g_iload_n O (pc' := 81) d1_80 (v := v0) rfl rfl ?_
        refine g_bipush O (pc' := 83) d1_81 (v := 6) (by decide) rfl ?_
        refine g_ishr O (pc' := 84) d1_83 rfl ?_
        refine g_bipush O (pc' := 86) d1_84 (v := 63) (by decide) rfl ?_
        refine g_iand O (pc' := 87) d1_86 rfl ?_
        refine g_ior O (pc' := 88) d1_87 rfl ?_
        refine g_i2b O (pc' := 89) d1_88 rfl ?_
        obtain ⟨H89, h89, hf⟩ := bnd hf
        refine g_bastore O (pc' := 90) d1_89 h89 rfl ?_
        refine g_aload_n O (pc' := 91) d1_90 (v := v1) rfl rfl ?_
        refine g_iload_n O (pc' := 92) d1_91 (v := v2) rfl rfl ?_
        refine g_iconst O (pc' := 93) d1_92 (v := 2) (by decide) rfl ?_
        refine g_iadd O (pc' := 94) d1_93 rfl ?_
        refine g_sipush O (pc' := 97) d1_94 (v := 128) (by decide) rfl ?_
        refine g_iload_n O (pc' := 98) d1_97 (v := v0) rfl rfl ?_
        refine g_bipush O (pc' := 100) d1_98 (v := 63) (by decide) rfl ?_
        refine g_iand O (pc' := 101) d1_100 rfl ?_
        refine g_ior O (pc' := 102) d1_101 rfl ?_
        refine g_i2b O (pc' := 103) d1_102 rfl ?_
        obtain ⟨H103, h103, hf⟩ := bnd hf
        refine g_bastore O (pc' := 104) d1_103 h103 rfl ?_
        refine g_iconst O (pc' := 105) d1_104 (v := 3) (by decide) rfl ?_
        refine g_istore_n O (pc' := 106) d1_105 (Ls' := [some (.int v0), some (.ref v1), some (.int v2), some (.int (3 : Int32))]) rfl rfl ?_
        refine g_goto O d1_106 (by decide) (pc' := 171) (by decide) ?_
        refine g_forget (Ls' := [none, none, none, some (.int (3 : Int32))]) (And.intro rfl trivial) ?_
        exact m1_t171 O (3 : Int32) H103 _ _ hf
    · rw [if_pos h21] at hf
      refine g_aload_n O (pc' := 25) d1_24 (v := v1) rfl rfl ?_
      refine g_iload_n O (pc' := 26) d1_25 (v := v2) rfl rfl ?_
      refine g_sipush O (pc' := 29) d1_26 (v := 192) (by decide) rfl ?_
      refine g_iload_n O (pc' := 30) d1_29 (v := v0) rfl rfl ?_
      refine g_bipush O (pc' := 32) d1_30 (v := 6) (by decide) rfl ?_
      refine g_ishr O (pc' := 33) d1_32 rfl ?_
      refine g_ior O (pc' := 34) d1_33 rfl ?_
      refine g_i2b O (pc' := 35) d1_34 rfl ?_
      obtain ⟨H35, h35, hf⟩ := bnd hf
      refine g_bastore O (pc' := 36) d1_35 h35 rfl ?_
      refine g_aload_n O (pc' := 37) d1_36 (v := v1) rfl rfl ?_
      refine g_iload_n O (pc' := 38) d1_37 (v := v2) rfl rfl ?_
      refine g_iconst O (pc' := 39) d1_38 (v := 1) (by decide) rfl ?_
      refine g_iadd O (pc' := 40) d1_39 rfl ?_
      refine g_sipush O (pc' := 43) d1_40 (v := 128) (by decide) rfl ?_
      refine g_iload_n O (pc' := 44) d1_43 (v := v0) rfl rfl ?_
      refine g_bipush O (pc' := 46) d1_44 (v := 63) (by decide) rfl ?_
      refine g_iand O (pc' := 47) d1_46 rfl ?_
      refine g_ior O (pc' := 48) d1_47 rfl ?_
      refine g_i2b O (pc' := 49) d1_48 rfl ?_
      obtain ⟨H49, h49, hf⟩ := bnd hf
      refine g_bastore O (pc' := 50) d1_49 h49 rfl ?_
      refine g_iconst O (pc' := 51) d1_50 (v := 2) (by decide) rfl ?_
      refine g_istore_n O (pc' := 52) d1_51 (Ls' := [some (.int v0), some (.ref v1), some (.int v2), some (.int (2 : Int32))]) rfl rfl ?_
      refine g_goto O d1_52 (by decide) (pc' := 171) (by decide) ?_
      refine g_forget (Ls' := [none, none, none, some (.int (2 : Int32))]) (And.intro rfl trivial) ?_
      exact m1_t171 O (2 : Int32) H49 _ _ hf
  · rw [if_pos h4] at hf
    refine g_aload_n O (pc' := 8) d1_7 (v := v1) rfl rfl ?_
    refine g_iload_n O (pc' := 9) d1_8 (v := v2) rfl rfl ?_
    refine g_iload_n O (pc' := 10) d1_9 (v := v0) rfl rfl ?_
    refine g_i2b O (pc' := 11) d1_10 rfl ?_
    obtain ⟨H11, h11, hf⟩ := bnd hf
    refine g_bastore O (pc' := 12) d1_11 h11 rfl ?_
    refine g_iconst O (pc' := 13) d1_12 (v := 1) (by decide) rfl ?_
    refine g_istore_n O (pc' := 14) d1_13 (Ls' := [some (.int v0), some (.ref v1), some (.int v2), some (.int (1 : Int32))]) rfl rfl ?_
    refine g_goto O d1_14 (by decide) (pc' := 171) (by decide) ?_
    refine g_forget (Ls' := [none, none, none, some (.int (1 : Int32))]) (And.intro rfl trivial) ?_
    exact m1_t171 O (1 : Int32) H11 _ _ hf
abbrev m1 (v0 : Int32) (v1 : Nat) (v2 : Int32) (H : List Obj) : Option (Int32 × List Obj) := m1_b0 v0 v1 v2 H
theorem con1 {G : Gx} (hw : ∀ d ∈ tables_1, d.before G.2.2.1 G.2.1 = true) (v0 : Int32) (v1 : Nat) (v2 : Int32) (H : List Obj) {r : Int32} {Hf : List Obj} (hf : m1 v0 v1 v2 H = some (r, Hf)) : Con G (⟨"shelfmark/XmlChars", "encode", "(I[BI)I"⟩ : MethodName) prog_77_method_9_code 4 (Option.some FieldType.int) rm1 [(.int v0), (.ref v1), (.int v2)] H (some (.int r)) Hf :=
  con_of hw pn1 rfl fun K O => m1_t0 O v0 v1 v2 H r Hf hf

/-! body 2 -/
theorem d2_0 : decode method_2_code 0 = .ok (.iload_n 1, 1) := by decide +kernel
theorem d2_1 : decode method_2_code 1 = .ok (.iload_n 2, 1) := by decide +kernel
theorem d2_2 : decode method_2_code 2 = .ok (.if_icmp .lt 10, 3) := by decide +kernel
theorem d2_5 : decode method_2_code 5 = .ok (.iload_n 1, 1) := by decide +kernel
theorem d2_6 : decode method_2_code 6 = .ok (.iload_n 2, 1) := by decide +kernel
theorem d2_7 : decode method_2_code 7 = .ok (.iload_n 3, 1) := by decide +kernel
theorem d2_8 : decode method_2_code 8 = .ok (.iadd, 1) := by decide +kernel
theorem d2_9 : decode method_2_code 9 = .ok (.if_icmp .lt 17, 3) := by decide +kernel
theorem d2_12 : decode method_2_code 12 = .ok (.aload_n 0, 1) := by decide +kernel
theorem d2_13 : decode method_2_code 13 = .ok (.iload_n 1, 1) := by decide +kernel
theorem d2_14 : decode method_2_code 14 = .ok (.baload, 1) := by decide +kernel
theorem d2_15 : decode method_2_code 15 = .ok (.iload 4, 2) := by decide +kernel
theorem d2_17 : decode method_2_code 17 = .ok (.if_icmp .ne 7, 3) := by decide +kernel
theorem d2_20 : decode method_2_code 20 = .ok (.iconst 1, 1) := by decide +kernel
theorem d2_21 : decode method_2_code 21 = .ok (.goto 4, 3) := by decide +kernel
theorem d2_24 : decode method_2_code 24 = .ok (.iconst 0, 1) := by decide +kernel
theorem d2_25 : decode method_2_code 25 = .ok (.ireturn, 1) := by decide +kernel
theorem d2_26 : decode method_2_code 26 = .ok (.iconst 1, 1) := by decide +kernel
theorem d2_27 : decode method_2_code 27 = .ok (.ireturn, 1) := by decide +kernel
theorem pd2 : parseMethodDescriptor "([BIIIB)Z" = some ⟨[.array .byte, .int, .int, .int, .byte], some .boolean⟩ := by decide +kernel
theorem pn2 : plainFor (⟨"shelfmark/XmlCharsEncodePinLaw", "keep", "([BIIIB)Z"⟩ : MethodName) = true := by first | exact plainFor_of_name (by first | (simp [plainName, overriddenIn]; done) | decide +kernel) | decide +kernel
abbrev rm2 : Room := { frames := 0, cells := 0, slots := 0, locals := 0 }
abbrev Ok2 (G : Gx) (K : Kx) : Prop := Ok G K "shelfmark/XmlCharsEncodePinLaw" method_2_code 5 (Option.some FieldType.boolean) rm2 "keep" 0 0
def m2_b25 (t0 : Int32) (H : List Obj) : Option (Int32 × List Obj) :=
  some ((nar .boolean t0), H)
theorem m2_t25 {G : Gx} {K : Kx} (O : Ok2 G K) (t0 : Int32) (H : List Obj) (r : Int32) (Hf : List Obj) (hf : m2_b25 t0 H = some (r, Hf)) : Run G K (some (.int r)) Hf 25 [none, none, none, none, none] [(.int t0)] H 0 0 := by
  unfold m2_b25 at hf
  cases hf
  exact g_ret_nar O d2_25 (by simp) rfl rfl (by decide)
def m2_b12 (v0 : Nat) (v1 : Int32) (v4 : Int32) (H : List Obj) : Option (Int32 × List Obj) :=
  (rdI .byte H v0 v1).bind fun x14 =>
  if x14 = v4 then
    m2_b25 (1 : Int32) H
  else
    m2_b25 (0 : Int32) H
theorem m2_t12 {G : Gx} {K : Kx} (O : Ok2 G K) (v0 : Nat) (v1 : Int32) (v4 : Int32) (H : List Obj) (r : Int32) (Hf : List Obj) (hf : m2_b12 v0 v1 v4 H = some (r, Hf)) : Run G K (some (.int r)) Hf 12 [some (.ref v0), some (.int v1), none, none, some (.int v4)] [] H 0 0 := by
  unfold m2_b12 at hf
  refine g_aload_n O (pc' := 13) d2_12 (v := v0) rfl rfl ?_
  refine g_iload_n O (pc' := 14) d2_13 (v := v1) rfl rfl ?_
  obtain ⟨x14, h14, hf⟩ := bnd hf
  refine g_baload O (pc' := 15) d2_14 h14 rfl ?_
  refine g_iload O (pc' := 17) d2_15 (v := v4) rfl rfl ?_
  refine g_icmp_ne O (pc' := 20) d2_17 rfl (by decide) (pc1 := 24) (by decide) (fun h17 => ?_) (fun h17 => ?_)
  · rw [if_neg h17] at hf
    refine g_iconst O (pc' := 25) d2_24 (v := 0) (by decide) rfl ?_
    refine g_forget (Ls' := [none, none, none, none, none]) trivial ?_
    exact m2_t25 O (0 : Int32) H _ _ hf
  · rw [if_pos h17] at hf
    refine g_iconst O (pc' := 21) d2_20 (v := 1) (by decide) rfl ?_
    refine g_goto O d2_21 (by decide) (pc' := 25) (by decide) ?_
    refine g_forget (Ls' := [none, none, none, none, none]) trivial ?_
    exact m2_t25 O (1 : Int32) H _ _ hf
def m2_b0 (v0 : Nat) (v1 : Int32) (v2 : Int32) (v3 : Int32) (v4 : Int32) (H : List Obj) : Option (Int32 × List Obj) :=
  if v1 < v2 then
    m2_b12 v0 v1 v4 H
  else
    if v1 < (v2 + v3) then
      some ((1 : Int32), H)
    else
      m2_b12 v0 v1 v4 H
theorem m2_t0 {G : Gx} {K : Kx} (O : Ok2 G K) (v0 : Nat) (v1 : Int32) (v2 : Int32) (v3 : Int32) (v4 : Int32) (H : List Obj) (r : Int32) (Hf : List Obj) (hf : m2_b0 v0 v1 v2 v3 v4 H = some (r, Hf)) : Run G K (some (.int r)) Hf 0 [some (.ref v0), some (.int v1), some (.int v2), some (.int v3), some (.int v4)] [] H 0 0 := by
  unfold m2_b0 at hf
  refine g_iload_n O (pc' := 1) d2_0 (v := v1) rfl rfl ?_
  refine g_iload_n O (pc' := 2) d2_1 (v := v2) rfl rfl ?_
  refine g_icmp_lt O (pc' := 5) d2_2 rfl (by decide) (pc1 := 12) (by decide) (fun h2 => ?_) (fun h2 => ?_)
  · rw [if_pos h2] at hf
    refine g_forget (Ls' := [some (.ref v0), some (.int v1), none, none, some (.int v4)]) (And.intro rfl (And.intro rfl (And.intro rfl trivial))) ?_
    exact m2_t12 O v0 v1 v4 H _ _ hf
  · rw [if_neg h2] at hf
    refine g_iload_n O (pc' := 6) d2_5 (v := v1) rfl rfl ?_
    refine g_iload_n O (pc' := 7) d2_6 (v := v2) rfl rfl ?_
    refine g_iload_n O (pc' := 8) d2_7 (v := v3) rfl rfl ?_
    refine g_iadd O (pc' := 9) d2_8 rfl ?_
    refine g_icmp_lt O (pc' := 12) d2_9 rfl (by decide) (pc1 := 26) (by decide) (fun h9 => ?_) (fun h9 => ?_)
    · rw [if_pos h9] at hf
      refine g_iconst O (pc' := 27) d2_26 (v := 1) (by decide) rfl ?_
      cases hf
      exact g_ret_nar O d2_27 (by simp) (by decide) rfl (by decide)
    · rw [if_neg h9] at hf
      refine g_forget (Ls' := [some (.ref v0), some (.int v1), none, none, some (.int v4)]) (And.intro rfl (And.intro rfl (And.intro rfl trivial))) ?_
      exact m2_t12 O v0 v1 v4 H _ _ hf
abbrev m2 (v0 : Nat) (v1 : Int32) (v2 : Int32) (v3 : Int32) (v4 : Int32) (H : List Obj) : Option (Int32 × List Obj) := m2_b0 v0 v1 v2 v3 v4 H
theorem con2 {G : Gx} (hw : ∀ d ∈ tables_1, d.before G.2.2.1 G.2.1 = true) (v0 : Nat) (v1 : Int32) (v2 : Int32) (v3 : Int32) (v4 : Int32) (H : List Obj) {r : Int32} {Hf : List Obj} (hf : m2 v0 v1 v2 v3 v4 H = some (r, Hf)) : Con G (⟨"shelfmark/XmlCharsEncodePinLaw", "keep", "([BIIIB)Z"⟩ : MethodName) method_2_code 5 (Option.some FieldType.boolean) rm2 [(.ref v0), (.int v1), (.int v2), (.int v3), (.int v4)] H (some (.int r)) Hf :=
  con_of hw pn2 rfl fun K O => m2_t0 O v0 v1 v2 v3 v4 H r Hf hf

/-! body 3 -/
theorem d3_0 : decode prog_77_method_2_code 0 = .ok (.aload_n 0, 1) := by decide +kernel
theorem d3_1 : decode prog_77_method_2_code 1 = .ok (.iload_n 1, 1) := by decide +kernel
theorem d3_2 : decode prog_77_method_2_code 2 = .ok (.baload, 1) := by decide +kernel
theorem d3_3 : decode prog_77_method_2_code 3 = .ok (.sipush 255, 3) := by decide +kernel
theorem d3_6 : decode prog_77_method_2_code 6 = .ok (.iand, 1) := by decide +kernel
theorem d3_7 : decode prog_77_method_2_code 7 = .ok (.istore_n 3, 1) := by decide +kernel
theorem d3_8 : decode prog_77_method_2_code 8 = .ok (.iload_n 3, 1) := by decide +kernel
theorem d3_9 : decode prog_77_method_2_code 9 = .ok (.sipush 194, 3) := by decide +kernel
theorem d3_12 : decode prog_77_method_2_code 12 = .ok (.if_icmp .lt 10, 3) := by decide +kernel
theorem d3_15 : decode prog_77_method_2_code 15 = .ok (.iload_n 3, 1) := by decide +kernel
theorem d3_16 : decode prog_77_method_2_code 16 = .ok (.sipush 244, 3) := by decide +kernel
theorem d3_19 : decode prog_77_method_2_code 19 = .ok (.if_icmp .le 5, 3) := by decide +kernel
theorem d3_22 : decode prog_77_method_2_code 22 = .ok (.iconst (-1), 1) := by decide +kernel
theorem d3_23 : decode prog_77_method_2_code 23 = .ok (.ireturn, 1) := by decide +kernel
theorem d3_24 : decode prog_77_method_2_code 24 = .ok (.iload_n 3, 1) := by decide +kernel
theorem d3_25 : decode prog_77_method_2_code 25 = .ok (.sipush 224, 3) := by decide +kernel
theorem d3_28 : decode prog_77_method_2_code 28 = .ok (.if_icmp .ge 14, 3) := by decide +kernel
theorem d3_31 : decode prog_77_method_2_code 31 = .ok (.iconst 2, 1) := by decide +kernel
theorem d3_32 : decode prog_77_method_2_code 32 = .ok (.istore 4, 2) := by decide +kernel
theorem d3_34 : decode prog_77_method_2_code 34 = .ok (.sipush 128, 3) := by decide +kernel
theorem d3_37 : decode prog_77_method_2_code 37 = .ok (.istore 5, 2) := by decide +kernel
theorem d3_39 : decode prog_77_method_2_code 39 = .ok (.goto 28, 3) := by decide +kernel
theorem d3_42 : decode prog_77_method_2_code 42 = .ok (.iload_n 3, 1) := by decide +kernel
theorem d3_43 : decode prog_77_method_2_code 43 = .ok (.sipush 240, 3) := by decide +kernel
theorem d3_46 : decode prog_77_method_2_code 46 = .ok (.if_icmp .ge 14, 3) := by decide +kernel
theorem d3_49 : decode prog_77_method_2_code 49 = .ok (.iconst 3, 1) := by decide +kernel
theorem d3_50 : decode prog_77_method_2_code 50 = .ok (.istore 4, 2) := by decide +kernel
theorem d3_52 : decode prog_77_method_2_code 52 = .ok (.sipush 2048, 3) := by decide +kernel
theorem d3_55 : decode prog_77_method_2_code 55 = .ok (.istore 5, 2) := by decide +kernel
theorem d3_57 : decode prog_77_method_2_code 57 = .ok (.goto 10, 3) := by decide +kernel
theorem d3_60 : decode prog_77_method_2_code 60 = .ok (.iconst 4, 1) := by decide +kernel
theorem d3_61 : decode prog_77_method_2_code 61 = .ok (.istore 4, 2) := by decide +kernel
theorem d3_63 : decode prog_77_method_2_code 63 = .ok (.ldc 9, 2) := by decide +kernel
theorem d3_65 : decode prog_77_method_2_code 65 = .ok (.istore 5, 2) := by decide +kernel
theorem d3_67 : decode prog_77_method_2_code 67 = .ok (.iload_n 1, 1) := by decide +kernel
theorem d3_68 : decode prog_77_method_2_code 68 = .ok (.iload 4, 2) := by decide +kernel
theorem d3_70 : decode prog_77_method_2_code 70 = .ok (.iadd, 1) := by decide +kernel
theorem d3_71 : decode prog_77_method_2_code 71 = .ok (.iload_n 2, 1) := by decide +kernel
theorem d3_72 : decode prog_77_method_2_code 72 = .ok (.if_icmp .le 6, 3) := by decide +kernel
theorem d3_75 : decode prog_77_method_2_code 75 = .ok (.bipush (-2), 2) := by decide +kernel
theorem d3_77 : decode prog_77_method_2_code 77 = .ok (.ireturn, 1) := by decide +kernel
theorem d3_78 : decode prog_77_method_2_code 78 = .ok (.iload_n 3, 1) := by decide +kernel
theorem d3_79 : decode prog_77_method_2_code 79 = .ok (.bipush 127, 2) := by decide +kernel
theorem d3_81 : decode prog_77_method_2_code 81 = .ok (.iload 4, 2) := by decide +kernel
theorem d3_83 : decode prog_77_method_2_code 83 = .ok (.ishr, 1) := by decide +kernel
theorem d3_84 : decode prog_77_method_2_code 84 = .ok (.iand, 1) := by decide +kernel
theorem d3_85 : decode prog_77_method_2_code 85 = .ok (.istore 6, 2) := by decide +kernel
theorem d3_87 : decode prog_77_method_2_code 87 = .ok (.iload_n 1, 1) := by decide +kernel
theorem d3_88 : decode prog_77_method_2_code 88 = .ok (.iconst 1, 1) := by decide +kernel
theorem d3_89 : decode prog_77_method_2_code 89 = .ok (.iadd, 1) := by decide +kernel
theorem d3_90 : decode prog_77_method_2_code 90 = .ok (.istore 7, 2) := by decide +kernel
theorem d3_92 : decode prog_77_method_2_code 92 = .ok (.iload 7, 2) := by decide +kernel
theorem d3_94 : decode prog_77_method_2_code 94 = .ok (.iload_n 1, 1) := by decide +kernel
theorem d3_95 : decode prog_77_method_2_code 95 = .ok (.iload 4, 2) := by decide +kernel
theorem d3_97 : decode prog_77_method_2_code 97 = .ok (.iadd, 1) := by decide +kernel
theorem d3_98 : decode prog_77_method_2_code 98 = .ok (.if_icmp .ge 46, 3) := by decide +kernel
theorem d3_101 : decode prog_77_method_2_code 101 = .ok (.aload_n 0, 1) := by decide +kernel
theorem d3_102 : decode prog_77_method_2_code 102 = .ok (.iload 7, 2) := by decide +kernel
theorem d3_104 : decode prog_77_method_2_code 104 = .ok (.baload, 1) := by decide +kernel
theorem d3_105 : decode prog_77_method_2_code 105 = .ok (.sipush 255, 3) := by decide +kernel
theorem d3_108 : decode prog_77_method_2_code 108 = .ok (.iand, 1) := by decide +kernel
theorem d3_109 : decode prog_77_method_2_code 109 = .ok (.istore 8, 2) := by decide +kernel
theorem d3_111 : decode prog_77_method_2_code 111 = .ok (.iload 8, 2) := by decide +kernel
theorem d3_113 : decode prog_77_method_2_code 113 = .ok (.sipush 192, 3) := by decide +kernel
theorem d3_116 : decode prog_77_method_2_code 116 = .ok (.iand, 1) := by decide +kernel
theorem d3_117 : decode prog_77_method_2_code 117 = .ok (.sipush 128, 3) := by decide +kernel
theorem d3_120 : decode prog_77_method_2_code 120 = .ok (.if_icmp .eq 5, 3) := by decide +kernel
theorem d3_123 : decode prog_77_method_2_code 123 = .ok (.iconst (-1), 1) := by decide +kernel
theorem d3_124 : decode prog_77_method_2_code 124 = .ok (.ireturn, 1) := by decide +kernel
theorem d3_125 : decode prog_77_method_2_code 125 = .ok (.iload 6, 2) := by decide +kernel
theorem d3_127 : decode prog_77_method_2_code 127 = .ok (.bipush 6, 2) := by decide +kernel
theorem d3_129 : decode prog_77_method_2_code 129 = .ok (.ishl, 1) := by decide +kernel
theorem d3_130 : decode prog_77_method_2_code 130 = .ok (.iload 8, 2) := by decide +kernel
theorem d3_132 : decode prog_77_method_2_code 132 = .ok (.bipush 63, 2) := by decide +kernel
theorem d3_134 : decode prog_77_method_2_code 134 = .ok (.iand, 1) := by decide +kernel
theorem d3_135 : decode prog_77_method_2_code 135 = .ok (.ior, 1) := by decide +kernel
theorem d3_136 : decode prog_77_method_2_code 136 = .ok (.istore 6, 2) := by decide +kernel
theorem d3_138 : decode prog_77_method_2_code 138 = .ok (.iinc 7 1, 3) := by decide +kernel
theorem d3_141 : decode prog_77_method_2_code 141 = .ok (.goto (-49), 3) := by decide +kernel
theorem d3_144 : decode prog_77_method_2_code 144 = .ok (.iload 6, 2) := by decide +kernel
theorem d3_146 : decode prog_77_method_2_code 146 = .ok (.iload 5, 2) := by decide +kernel
theorem d3_148 : decode prog_77_method_2_code 148 = .ok (.if_icmp .lt 24, 3) := by decide +kernel
theorem d3_151 : decode prog_77_method_2_code 151 = .ok (.iload 6, 2) := by decide +kernel
theorem d3_153 : decode prog_77_method_2_code 153 = .ok (.ldc 10, 2) := by decide +kernel
theorem d3_155 : decode prog_77_method_2_code 155 = .ok (.if_icmp .gt 17, 3) := by decide +kernel
theorem d3_158 : decode prog_77_method_2_code 158 = .ok (.iload 6, 2) := by decide +kernel
theorem d3_160 : decode prog_77_method_2_code 160 = .ok (.ldc 11, 2) := by decide +kernel
theorem d3_162 : decode prog_77_method_2_code 162 = .ok (.if_icmp .lt 12, 3) := by decide +kernel
theorem d3_165 : decode prog_77_method_2_code 165 = .ok (.iload 6, 2) := by decide +kernel
theorem d3_167 : decode prog_77_method_2_code 167 = .ok (.ldc 12, 2) := by decide +kernel
theorem d3_169 : decode prog_77_method_2_code 169 = .ok (.if_icmp .gt 5, 3) := by decide +kernel
theorem d3_172 : decode prog_77_method_2_code 172 = .ok (.iconst (-1), 1) := by decide +kernel
theorem d3_173 : decode prog_77_method_2_code 173 = .ok (.ireturn, 1) := by decide +kernel
theorem d3_174 : decode prog_77_method_2_code 174 = .ok (.iload 6, 2) := by decide +kernel
theorem d3_176 : decode prog_77_method_2_code 176 = .ok (.iconst 3, 1) := by decide +kernel
theorem d3_177 : decode prog_77_method_2_code 177 = .ok (.ishl, 1) := by decide +kernel
theorem d3_178 : decode prog_77_method_2_code 178 = .ok (.iload 4, 2) := by decide +kernel
theorem d3_180 : decode prog_77_method_2_code 180 = .ok (.ior, 1) := by decide +kernel
theorem d3_181 : decode prog_77_method_2_code 181 = .ok (.ireturn, 1) := by decide +kernel
theorem pd3 : parseMethodDescriptor "([BII)I" = some ⟨[.array .byte, .int, .int], some .int⟩ := by decide +kernel
theorem pn3 : plainFor (⟨"shelfmark/XmlChars", "decode", "([BII)I"⟩ : MethodName) = true := by first | exact plainFor_of_name (by first | (simp [plainName, overriddenIn]; done) | decide +kernel) | decide +kernel
abbrev rm3 : Room := { frames := 0, cells := 0, slots := 0, locals := 0 }
abbrev Ok3 (G : Gx) (K : Kx) : Prop := Ok G K "shelfmark/XmlChars" prog_77_method_2_code 9 (Option.some FieldType.int) rm3 "decode" 0 0
def m3_b22 (H : List Obj) : Option (Int32 × List Obj) :=
  some ((-1 : Int32), H)
theorem m3_t22 {G : Gx} {K : Kx} (O : Ok3 G K) (H : List Obj) (r : Int32) (Hf : List Obj) (hf : m3_b22 H = some (r, Hf)) : Run G K (some (.int r)) Hf 22 [none, none, none, none, none, none, none, none, none] [] H 0 0 := by
  unfold m3_b22 at hf
  refine g_iconst O (pc' := 23) d3_22 (v := -1) (by decide) rfl ?_
  cases hf
  exact g_ret_int O d3_23 rfl (by decide)
def m3_b172 (H : List Obj) : Option (Int32 × List Obj) :=
  some ((-1 : Int32), H)
theorem m3_t172 {G : Gx} {K : Kx} (O : Ok3 G K) (H : List Obj) (r : Int32) (Hf : List Obj) (hf : m3_b172 H = some (r, Hf)) : Run G K (some (.int r)) Hf 172 [none, none, none, none, none, none, none, none, none] [] H 0 0 := by
  unfold m3_b172 at hf
  refine g_iconst O (pc' := 173) d3_172 (v := -1) (by decide) rfl ?_
  cases hf
  exact g_ret_int O d3_173 rfl (by decide)
def m3_b174 (v4 : Int32) (v6 : Int32) (H : List Obj) : Option (Int32 × List Obj) :=
  some (((v6 <<< ((3 : Int32) &&& 31)) ||| v4), H)
theorem m3_t174 {G : Gx} {K : Kx} (O : Ok3 G K) (v4 : Int32) (v6 : Int32) (H : List Obj) (r : Int32) (Hf : List Obj) (hf : m3_b174 v4 v6 H = some (r, Hf)) : Run G K (some (.int r)) Hf 174 [none, none, none, none, some (.int v4), none, some (.int v6), none, none] [] H 0 0 := by
  unfold m3_b174 at hf
  refine g_iload O (pc' := 176) d3_174 (v := v6) rfl rfl ?_
  refine g_iconst O (pc' := 177) d3_176 (v := 3) (by decide) rfl ?_
  refine g_ishl O (pc' := 178) d3_177 rfl ?_
  refine g_iload O (pc' := 180) d3_178 (v := v4) rfl rfl ?_
  refine g_ior O (pc' := 181) d3_180 rfl ?_
  cases hf
  exact g_ret_int O d3_181 rfl (by decide)
def m3_b92 : Nat → Nat → Int32 → Int32 → Int32 → Int32 → Int32 → List Obj → Option (Int32 × List Obj)
  | 0, _, _, _, _, _, _, _ => none
  | n + 1, v0, v1, v4, v5, v6, v7, H =>
    if v7 < (v1 + v4) then
      (rdI .byte H v0 v7).bind fun x104 =>
      if ((x104 &&& (255 : Int32)) &&& (192 : Int32)) = (128 : Int32) then
        m3_b92 n v0 v1 v4 v5 ((v6 <<< ((6 : Int32) &&& 31)) ||| ((x104 &&& (255 : Int32)) &&& (63 : Int32))) (v7 + (1 : Int32)) H
      else
        some ((-1 : Int32), H)
    else
      if v6 < v5 then
        m3_b172 H
      else
        if (1114111 : Int32) < v6 then
          m3_b172 H
        else
          if v6 < (55296 : Int32) then
            m3_b174 v4 v6 H
          else
            if (57343 : Int32) < v6 then
              m3_b174 v4 v6 H
            else
              m3_b172 H
theorem m3_t92 {G : Gx} {K : Kx} (O : Ok3 G K) : ∀ (n : Nat) (v0 : Nat) (v1 : Int32) (v4 : Int32) (v5 : Int32) (v6 : Int32) (v7 : Int32) (H : List Obj) (r : Int32) (Hf : List Obj), m3_b92 n v0 v1 v4 v5 v6 v7 H = some (r, Hf) → Run G K (some (.int r)) Hf 92 [some (.ref v0), some (.int v1), none, none, some (.int v4), some (.int v5), some (.int v6), some (.int v7), none] [] H 0 0 := by
  intro n
  induction n with
  | zero => intro v0 v1 v4 v5 v6 v7 H r Hf hf; cases hf
  | succ n ih =>
    intro v0 v1 v4 v5 v6 v7 H r Hf hf
    rw [m3_b92] at hf
    refine g_iload O (pc' := 94) d3_92 (v := v7) rfl rfl ?_
    refine g_iload_n O (pc' := 95) d3_94 (v := v1) rfl rfl ?_
    refine g_iload O (pc' := 97) d3_95 (v := v4) rfl rfl ?_
    refine g_iadd O (pc' := 98) d3_97 rfl ?_
    refine g_icmp_ge O (pc' := 101) d3_98 rfl (by decide) (pc1 := 144) (by decide) (fun h98 => ?_) (fun h98 => ?_)
    · rw [if_neg h98] at hf
      refine g_iload O (pc' := 146) d3_144 (v := v6) rfl rfl ?_
      refine g_iload O (pc' := 148) d3_146 (v := v5) rfl rfl ?_
      refine g_icmp_lt O (pc' := 151) d3_148 rfl (by decide) (pc1 := 172) (by decide) (fun h148 => ?_) (fun h148 => ?_)
      · rw [if_pos h148] at hf
        refine g_forget (Ls' := [none, none, none, none, none, none, none, none, none]) trivial ?_
        exact m3_t172 O H _ _ hf
      · rw [if_neg h148] at hf
        refine g_iload O (pc' := 153) d3_151 (v := v6) rfl rfl ?_
        refine g_ldc O (pc' := 155) d3_153 tw15 rfl ?_
        refine g_icmp_gt O (pc' := 158) d3_155 rfl (by decide) (pc1 := 172) (by decide) (fun h155 => ?_) (fun h155 => ?_)
        · rw [if_pos h155] at hf
          refine g_forget (Ls' := [none, none, none, none, none, none, none, none, none]) trivial ?_
          exact m3_t172 O H _ _ hf
        · rw [if_neg h155] at hf
          refine g_iload O (pc' := 160) d3_158 (v := v6) rfl rfl ?_
          refine g_ldc O (pc' := 162) d3_160 tw16 rfl ?_
          refine g_icmp_lt O (pc' := 165) d3_162 rfl (by decide) (pc1 := 174) (by decide) (fun h162 => ?_) (fun h162 => ?_)
          · rw [if_pos h162] at hf
            refine g_forget (Ls' := [none, none, none, none, some (.int v4), none, some (.int v6), none, none]) (And.intro rfl (And.intro rfl trivial)) ?_
            exact m3_t174 O v4 v6 H _ _ hf
          · rw [if_neg h162] at hf
            refine g_iload O (pc' := 167) d3_165 (v := v6) rfl rfl ?_
            refine g_ldc O (pc' := 169) d3_167 tw19 rfl ?_
            refine g_icmp_gt O (pc' := 172) d3_169 rfl (by decide) (pc1 := 174) (by decide) (fun h169 => ?_) (fun h169 => ?_)
            · rw [if_pos h169] at hf
              refine g_forget (Ls' := [none, none, none, none, some (.int v4), none, some (.int v6), none, none]) (And.intro rfl (And.intro rfl trivial)) ?_
              exact m3_t174 O v4 v6 H _ _ hf
            · rw [if_neg h169] at hf
              refine g_forget (Ls' := [none, none, none, none, none, none, none, none, none]) trivial ?_
              exact m3_t172 O H _ _ hf
    · rw [if_pos h98] at hf
      refine g_aload_n O (pc' := 102) d3_101 (v := v0) rfl rfl ?_
      refine g_iload O (pc' := 104) d3_102 (v := v7) rfl rfl ?_
      obtain ⟨x104, h104, hf⟩ := bnd hf
      refine g_baload O (pc' := 105) d3_104 h104 rfl ?_
      refine g_sipush O (pc' := 108) d3_105 (v := 255) (by decide) rfl ?_
      refine g_iand O (pc' := 109) d3_108 rfl ?_
      refine g_istore O (pc' := 111) d3_109 (Ls' := [some (.ref v0), some (.int v1), none, none, some (.int v4), some (.int v5), some (.int v6), some (.int v7), some (.int (x104 &&& (255 : Int32)))]) rfl rfl ?_
      refine g_iload O (pc' := 113) d3_111 (v := (x104 &&& (255 : Int32))) rfl rfl ?_
      refine g_sipush O (pc' := 116) d3_113 (v := 192) (by decide) rfl ?_
      refine g_iand O (pc' := 117) d3_116 rfl ?_
      refine g_sipush O (pc' := 120) d3_117 (v := 128) (by decide) rfl ?_
      refine g_icmp_eq O (pc' := 123) d3_120 rfl (by decide) (pc1 := 125) (by decide) (fun h120 => ?_) (fun h120 => ?_)
      · rw [if_pos h120] at hf
        refine g_iload O (pc' := 127) d3_125 (v := v6) rfl rfl ?_
        refine g_bipush O (pc' := 129) d3_127 (v := 6) (by decide) rfl ?_
        refine g_ishl O (pc' := 130) d3_129 rfl ?_
        refine g_iload O (pc' := 132) d3_130 (v := (x104 &&& (255 : Int32))) rfl rfl ?_
        refine g_bipush O (pc' := 134) d3_132 (v := 63) (by decide) rfl ?_
        refine g_iand O (pc' := 135) d3_134 rfl ?_
        refine g_ior O (pc' := 136) d3_135 rfl ?_
        refine g_istore O (pc' := 138) d3_136 (Ls' := [some (.ref v0), some (.int v1), none, none, some (.int v4), some (.int v5), some (.int ((v6 <<< ((6 : Int32) &&& 31)) ||| ((x104 &&& (255 : Int32)) &&& (63 : Int32)))), some (.int v7), some (.int (x104 &&& (255 : Int32)))]) rfl rfl ?_
        refine g_iinc O (pc' := 141) d3_138 (w := 1) (v := v7) (by decide) rfl (Ls' := [some (.ref v0), some (.int v1), none, none, some (.int v4), some (.int v5), some (.int ((v6 <<< ((6 : Int32) &&& 31)) ||| ((x104 &&& (255 : Int32)) &&& (63 : Int32)))), some (.int (v7 + (1 : Int32))), some (.int (x104 &&& (255 : Int32)))]) rfl rfl ?_
        refine g_goto O d3_141 (by decide) (pc' := 92) (by decide) ?_
        refine g_forget (Ls' := [some (.ref v0), some (.int v1), none, none, some (.int v4), some (.int v5), some (.int ((v6 <<< ((6 : Int32) &&& 31)) ||| ((x104 &&& (255 : Int32)) &&& (63 : Int32)))), some (.int (v7 + (1 : Int32))), none]) (And.intro rfl (And.intro rfl (And.intro rfl (And.intro rfl (And.intro rfl (And.intro rfl trivial)))))) ?_
        exact ih v0 v1 v4 v5 ((v6 <<< ((6 : Int32) &&& 31)) ||| ((x104 &&& (255 : Int32)) &&& (63 : Int32))) (v7 + (1 : Int32)) H _ _ hf
      · rw [if_neg h120] at hf
        refine g_iconst O (pc' := 124) d3_123 (v := -1) (by decide) rfl ?_
        cases hf
        exact g_ret_int O d3_124 rfl (by decide)
def m3_b67 (v0 : Nat) (v1 : Int32) (v2 : Int32) (v3 : Int32) (v4 : Int32) (v5 : Int32) (H : List Obj) : Option (Int32 × List Obj) :=
  if v2 < (v1 + v4) then
    some ((-2 : Int32), H)
  else
    m3_b92 8 v0 v1 v4 v5 (v3 &&& ((127 : Int32) >>> (v4 &&& 31))) (v1 + (1 : Int32)) H
theorem m3_t67 {G : Gx} {K : Kx} (O : Ok3 G K) (v0 : Nat) (v1 : Int32) (v2 : Int32) (v3 : Int32) (v4 : Int32) (v5 : Int32) (H : List Obj) (r : Int32) (Hf : List Obj) (hf : m3_b67 v0 v1 v2 v3 v4 v5 H = some (r, Hf)) : Run G K (some (.int r)) Hf 67 [some (.ref v0), some (.int v1), some (.int v2), some (.int v3), some (.int v4), some (.int v5), none, none, none] [] H 0 0 := by
  unfold m3_b67 at hf
  refine g_iload_n O (pc' := 68) d3_67 (v := v1) rfl rfl ?_
  refine g_iload O (pc' := 70) d3_68 (v := v4) rfl rfl ?_
  refine g_iadd O (pc' := 71) d3_70 rfl ?_
  refine g_iload_n O (pc' := 72) d3_71 (v := v2) rfl rfl ?_
  refine g_icmp_le O (pc' := 75) d3_72 rfl (by decide) (pc1 := 78) (by decide) (fun h72 => ?_) (fun h72 => ?_)
  · rw [if_neg h72] at hf
    refine g_iload_n O (pc' := 79) d3_78 (v := v3) rfl rfl ?_
    refine g_bipush O (pc' := 81) d3_79 (v := 127) (by decide) rfl ?_
    refine g_iload O (pc' := 83) d3_81 (v := v4) rfl rfl ?_
    refine g_ishr O (pc' := 84) d3_83 rfl ?_
    refine g_iand O (pc' := 85) d3_84 rfl ?_
    refine g_istore O (pc' := 87) d3_85 (Ls' := [some (.ref v0), some (.int v1), some (.int v2), some (.int v3), some (.int v4), some (.int v5), some (.int (v3 &&& ((127 : Int32) >>> (v4 &&& 31)))), none, none]) rfl rfl ?_
    refine g_iload_n O (pc' := 88) d3_87 (v := v1) rfl rfl ?_
    refine g_iconst O (pc' := 89) d3_88 (v := 1) (by decide) rfl ?_
    refine g_iadd O (pc' := 90) d3_89 rfl ?_
    refine g_istore O (pc' := 92) d3_90 (Ls' := [some (.ref v0), some (.int v1), some (.int v2), some (.int v3), some (.int v4), some (.int v5), some (.int (v3 &&& ((127 : Int32) >>> (v4 &&& 31)))), some (.int (v1 + (1 : Int32))), none]) rfl rfl ?_
    refine g_forget (Ls' := [some (.ref v0), some (.int v1), none, none, some (.int v4), some (.int v5), some (.int (v3 &&& ((127 : Int32) >>> (v4 &&& 31)))), some (.int (v1 + (1 : Int32))), none]) (And.intro rfl (And.intro rfl (And.intro rfl (And.intro rfl (And.intro rfl (And.intro rfl trivial)))))) ?_
    exact m3_t92 O 8 v0 v1 v4 v5 (v3 &&& ((127 : Int32) >>> (v4 &&& 31))) (v1 + (1 : Int32)) H _ _ hf
  · rw [if_pos h72] at hf
    refine g_bipush O (pc' := 77) d3_75 (v := -2) (by decide) rfl ?_
    cases hf
    exact g_ret_int O d3_77 rfl (by decide)
def m3_b0 (v0 : Nat) (v1 : Int32) (v2 : Int32) (H : List Obj) : Option (Int32 × List Obj) :=
  (rdI .byte H v0 v1).bind fun x2 =>
  if (x2 &&& (255 : Int32)) < (194 : Int32) then
    m3_b22 H
  else
    if (244 : Int32) < (x2 &&& (255 : Int32)) then
      m3_b22 H
    else
      if (x2 &&& (255 : Int32)) < (224 : Int32) then
        m3_b67 v0 v1 v2 (x2 &&& (255 : Int32)) (2 : Int32) (128 : Int32) H
      else
        if (x2 &&& (255 : Int32)) < (240 : Int32) then
          m3_b67 v0 v1 v2 (x2 &&& (255 : Int32)) (3 : Int32) (2048 : Int32) H
        else
          m3_b67 v0 v1 v2 (x2 &&& (255 : Int32)) (4 : Int32) (65536 : Int32) H
theorem m3_t0 {G : Gx} {K : Kx} (O : Ok3 G K) (v0 : Nat) (v1 : Int32) (v2 : Int32) (H : List Obj) (r : Int32) (Hf : List Obj) (hf : m3_b0 v0 v1 v2 H = some (r, Hf)) : Run G K (some (.int r)) Hf 0 [some (.ref v0), some (.int v1), some (.int v2), none, none, none, none, none, none] [] H 0 0 := by
  unfold m3_b0 at hf
  refine g_aload_n O (pc' := 1) d3_0 (v := v0) rfl rfl ?_
  refine g_iload_n O (pc' := 2) d3_1 (v := v1) rfl rfl ?_
  obtain ⟨x2, h2, hf⟩ := bnd hf
  refine g_baload O (pc' := 3) d3_2 h2 rfl ?_
  refine g_sipush O (pc' := 6) d3_3 (v := 255) (by decide) rfl ?_
  refine g_iand O (pc' := 7) d3_6 rfl ?_
  refine g_istore_n O (pc' := 8) d3_7 (Ls' := [some (.ref v0), some (.int v1), some (.int v2), some (.int (x2 &&& (255 : Int32))), none, none, none, none, none]) rfl rfl ?_
  refine g_iload_n O (pc' := 9) d3_8 (v := (x2 &&& (255 : Int32))) rfl rfl ?_
  refine g_sipush O (pc' := 12) d3_9 (v := 194) (by decide) rfl ?_
  refine g_icmp_lt O (pc' := 15) d3_12 rfl (by decide) (pc1 := 22) (by decide) (fun h12 => ?_) (fun h12 => ?_)
  · rw [if_pos h12] at hf
    refine g_forget (Ls' := [none, none, none, none, none, none, none, none, none]) trivial ?_
    exact m3_t22 O H _ _ hf
  · rw [if_neg h12] at hf
    refine g_iload_n O (pc' := 16) d3_15 (v := (x2 &&& (255 : Int32))) rfl rfl ?_
    refine g_sipush O (pc' := 19) d3_16 (v := 244) (by decide) rfl ?_
    refine g_icmp_le O (pc' := 22) d3_19 rfl (by decide) (pc1 := 24) (by decide) (fun h19 => ?_) (fun h19 => ?_)
    · rw [if_neg h19] at hf
      refine g_iload_n O (pc' := 25) d3_24 (v := (x2 &&& (255 : Int32))) rfl rfl ?_
      refine g_sipush O (pc' := 28) d3_25 (v := 224) (by decide) rfl ?_
      refine g_icmp_ge O (pc' := 31) d3_28 rfl (by decide) (pc1 := 42) (by decide) (fun h28 => ?_) (fun h28 => ?_)
      · rw [if_neg h28] at hf
        refine g_iload_n O (pc' := 43) d3_42 (v := (x2 &&& (255 : Int32))) rfl rfl ?_
        refine g_sipush O (pc' := 46) d3_43 (v := 240) (by decide) rfl ?_
        refine g_icmp_ge O (pc' := 49) d3_46 rfl (by decide) (pc1 := 60) (by decide) (fun h46 => ?_) (fun h46 => ?_)
        · rw [if_neg h46] at hf
          refine g_iconst O (pc' := 61) d3_60 (v := 4) (by decide) rfl ?_
          refine g_istore O (pc' := 63) d3_61 (Ls' := [some (.ref v0), some (.int v1), some (.int v2), some (.int (x2 &&& (255 : Int32))), some (.int (4 : Int32)), none, none, none, none]) rfl rfl ?_
          refine g_ldc O (pc' := 65) d3_63 tw17 rfl ?_
          refine g_istore O (pc' := 67) d3_65 (Ls' := [some (.ref v0), some (.int v1), some (.int v2), some (.int (x2 &&& (255 : Int32))), some (.int (4 : Int32)), some (.int (65536 : Int32)), none, none, none]) rfl rfl ?_
          exact m3_t67 O v0 v1 v2 (x2 &&& (255 : Int32)) (4 : Int32) (65536 : Int32) H _ _ hf
        · rw [if_pos h46] at hf
          refine g_iconst O (pc' := 50) d3_49 (v := 3) (by decide) rfl ?_
          refine g_istore O (pc' := 52) d3_50 (Ls' := [some (.ref v0), some (.int v1), some (.int v2), some (.int (x2 &&& (255 : Int32))), some (.int (3 : Int32)), none, none, none, none]) rfl rfl ?_
          refine g_sipush O (pc' := 55) d3_52 (v := 2048) (by decide) rfl ?_
          refine g_istore O (pc' := 57) d3_55 (Ls' := [some (.ref v0), some (.int v1), some (.int v2), some (.int (x2 &&& (255 : Int32))), some (.int (3 : Int32)), some (.int (2048 : Int32)), none, none, none]) rfl rfl ?_
          refine g_goto O d3_57 (by decide) (pc' := 67) (by decide) ?_
          exact m3_t67 O v0 v1 v2 (x2 &&& (255 : Int32)) (3 : Int32) (2048 : Int32) H _ _ hf
      · rw [if_pos h28] at hf
        refine g_iconst O (pc' := 32) d3_31 (v := 2) (by decide) rfl ?_
        refine g_istore O (pc' := 34) d3_32 (Ls' := [some (.ref v0), some (.int v1), some (.int v2), some (.int (x2 &&& (255 : Int32))), some (.int (2 : Int32)), none, none, none, none]) rfl rfl ?_
        refine g_sipush O (pc' := 37) d3_34 (v := 128) (by decide) rfl ?_
        refine g_istore O (pc' := 39) d3_37 (Ls' := [some (.ref v0), some (.int v1), some (.int v2), some (.int (x2 &&& (255 : Int32))), some (.int (2 : Int32)), some (.int (128 : Int32)), none, none, none]) rfl rfl ?_
        refine g_goto O d3_39 (by decide) (pc' := 67) (by decide) ?_
        exact m3_t67 O v0 v1 v2 (x2 &&& (255 : Int32)) (2 : Int32) (128 : Int32) H _ _ hf
    · rw [if_pos h19] at hf
      refine g_forget (Ls' := [none, none, none, none, none, none, none, none, none]) trivial ?_
      exact m3_t22 O H _ _ hf
abbrev m3 (v0 : Nat) (v1 : Int32) (v2 : Int32) (H : List Obj) : Option (Int32 × List Obj) := m3_b0 v0 v1 v2 H
theorem con3 {G : Gx} (hw : ∀ d ∈ tables_1, d.before G.2.2.1 G.2.1 = true) (v0 : Nat) (v1 : Int32) (v2 : Int32) (H : List Obj) {r : Int32} {Hf : List Obj} (hf : m3 v0 v1 v2 H = some (r, Hf)) : Con G (⟨"shelfmark/XmlChars", "decode", "([BII)I"⟩ : MethodName) prog_77_method_2_code 9 (Option.some FieldType.int) rm3 [(.ref v0), (.int v1), (.int v2)] H (some (.int r)) Hf :=
  con_of hw pn3 rfl fun K O => m3_t0 O v0 v1 v2 H r Hf hf

/-! body 0 -/
theorem pn0 : plainFor x = true := by first | exact plainFor_of_name (by first | (simp [plainName, overriddenIn]; done) | decide +kernel) | decide +kernel
abbrev Ok0 (G : Gx) (K : Kx) : Prop := Ok G K x.cls code maxLocals ret room_1 x.name 1 8
def m0_b332 (t0 : Int32) (H : List Obj) : Option (Int32 × List Obj) :=
  some ((nar .boolean t0), H)
theorem m0_t332 {G : Gx} {K : Kx} (O : Ok0 G K) (t0 : Int32) (H : List Obj) (r : Int32) (Hf : List Obj) (hf : m0_b332 t0 H = some (r, Hf)) : Run G K (some (.int r)) Hf 332 [none, none, none, none, none, none, none, none, none, none] [(.int t0)] H 1 8 := by
  unfold m0_b332 at hf
  cases hf
  exact g_ret_nar O at_332 (by simp) rfl rfl (by decide)
def m0_b331 (H : List Obj) : Option (Int32 × List Obj) :=
  m0_b332 (0 : Int32) H
theorem m0_t331 {G : Gx} {K : Kx} (O : Ok0 G K) (H : List Obj) (r : Int32) (Hf : List Obj) (hf : m0_b331 H = some (r, Hf)) : Run G K (some (.int r)) Hf 331 [none, none, none, none, none, none, none, none, none, none] [] H 1 8 := by
  unfold m0_b331 at hf
  refine g_iconst O (pc' := 332) at_331 (v := 0) (by decide) rfl ?_
  exact m0_t332 O (0 : Int32) H _ _ hf
def m0_b200 (v4 : Int32) (v5 : Int32) (v6 : Nat) (v7 : Int32) (v9 : Int32) (H : List Obj) : Option (Int32 × List Obj) :=
  if v9 = 0 then
    m0_b331 H
  else
    (m2 v6 (0 : Int32) v4 v7 v5 H).bind fun q214 =>
    if q214.1 = 0 then
      m0_b331 q214.2
    else
      (m2 v6 (1 : Int32) v4 v7 v5 q214.2).bind fun q229 =>
      if q229.1 = 0 then
        m0_b331 q229.2
      else
        (m2 v6 (2 : Int32) v4 v7 v5 q229.2).bind fun q244 =>
        if q244.1 = 0 then
          m0_b331 q244.2
        else
          (m2 v6 (3 : Int32) v4 v7 v5 q244.2).bind fun q259 =>
          if q259.1 = 0 then
            m0_b331 q259.2
          else
            (m2 v6 (4 : Int32) v4 v7 v5 q259.2).bind fun q274 =>
            if q274.1 = 0 then
              m0_b331 q274.2
            else
              (m2 v6 (5 : Int32) v4 v7 v5 q274.2).bind fun q289 =>
              if q289.1 = 0 then
                m0_b331 q289.2
              else
                (m2 v6 (6 : Int32) v4 v7 v5 q289.2).bind fun q305 =>
                if q305.1 = 0 then
                  m0_b331 q305.2
                else
                  (m2 v6 (7 : Int32) v4 v7 v5 q305.2).bind fun q321 =>
                  if q321.1 = 0 then
                    m0_b331 q321.2
                  else
                    m0_b332 (1 : Int32) q321.2
theorem m0_t200 {G : Gx} {K : Kx} (O : Ok0 G K) (v4 : Int32) (v5 : Int32) (v6 : Nat) (v7 : Int32) (v9 : Int32) (H : List Obj) (r : Int32) (Hf : List Obj) (hf : m0_b200 v4 v5 v6 v7 v9 H = some (r, Hf)) : Run G K (some (.int r)) Hf 200 [none, none, none, none, some (.int v4), some (.int v5), some (.ref v6), some (.int v7), none, some (.int v9)] [] H 1 8 := by
  unfold m0_b200 at hf
  refine g_iload O (pc' := 202) at_200 (v := v9) rfl rfl ?_
  refine g_if_eq O (pc' := 205) at_202 rfl (by decide) (pc1 := 331) (by decide) (fun h202 => ?_) (fun h202 => ?_)
  · rw [if_pos h202] at hf
    refine g_forget (Ls' := [none, none, none, none, none, none, none, none, none, none]) trivial ?_
    exact m0_t331 O H _ _ hf
  · rw [if_neg h202] at hf
    refine g_aload O (pc' := 207) at_205 (v := v6) rfl rfl ?_
    refine g_iconst O (pc' := 208) at_207 (v := 0) (by decide) rfl ?_
    refine g_iload O (pc' := 210) at_208 (v := v4) rfl rfl ?_
    refine g_iload O (pc' := 212) at_210 (v := v7) rfl rfl ?_
    refine g_iload O (pc' := 214) at_212 (v := v5) rfl rfl ?_
    obtain ⟨⟨x214, H214⟩, h214, hf⟩ := bnd hf
    dsimp only at hf
    refine g_static1 O (pc' := 217) at_214 tw8 tw9 tw10 tw11 (by decide) pd2 (as := [(.ref v6), (.int (0 : Int32)), (.int v4), (.int v7), (.int v5)]) rfl (st := []) rfl rfl (W := 0) rfl (rm := rm2) (by decide) (by decide) (c2 := 1) (s2 := 8) rfl rfl (by decide) (by decide) (con2 (Ok.w O) v6 (0 : Int32) v4 v7 v5 H h214) rfl ?_
    refine g_if_eq O (pc' := 220) at_217 rfl (by decide) (pc1 := 331) (by decide) (fun h217 => ?_) (fun h217 => ?_)
    · rw [if_pos h217] at hf
      refine g_forget (Ls' := [none, none, none, none, none, none, none, none, none, none]) trivial ?_
      exact m0_t331 O H214 _ _ hf
    · rw [if_neg h217] at hf
      refine g_aload O (pc' := 222) at_220 (v := v6) rfl rfl ?_
      refine g_iconst O (pc' := 223) at_222 (v := 1) (by decide) rfl ?_
      refine g_iload O (pc' := 225) at_223 (v := v4) rfl rfl ?_
      refine g_iload O (pc' := 227) at_225 (v := v7) rfl rfl ?_
      refine g_iload O (pc' := 229) at_227 (v := v5) rfl rfl ?_
      obtain ⟨⟨x229, H229⟩, h229, hf⟩ := bnd hf
      dsimp only at hf
      refine g_static1 O (pc' := 232) at_229 tw8 tw9 tw10 tw11 (by decide) pd2 (as := [(.ref v6), (.int (1 : Int32)), (.int v4), (.int v7), (.int v5)]) rfl (st := []) rfl rfl (W := 0) rfl (rm := rm2) (by decide) (by decide) (c2 := 1) (s2 := 8) rfl rfl (by decide) (by decide) (con2 (Ok.w O) v6 (1 : Int32) v4 v7 v5 H214 h229) rfl ?_
      refine g_if_eq O (pc' := 235) at_232 rfl (by decide) (pc1 := 331) (by decide) (fun h232 => ?_) (fun h232 => ?_)
      · rw [if_pos h232] at hf
        refine g_forget (Ls' := [none, none, none, none, none, none, none, none, none, none]) trivial ?_
        exact m0_t331 O H229 _ _ hf
      · rw [if_neg h232] at hf
        refine g_aload O (pc' := 237) at_235 (v := v6) rfl rfl ?_
        refine g_iconst O (pc' := 238) at_237 (v := 2) (by decide) rfl ?_
        refine g_iload O (pc' := 240) at_238 (v := v4) rfl rfl ?_
        refine g_iload O (pc' := 242) at_240 (v := v7) rfl rfl ?_
        refine g_iload O (pc' := 244) at_242 (v := v5) rfl rfl ?_
        obtain ⟨⟨x244, H244⟩, h244, hf⟩ := bnd hf
        dsimp only at hf
        refine g_static1 O (pc' := 247) at_244 tw8 tw9 tw10 tw11 (by decide) pd2 (as := [(.ref v6), (.int (2 : Int32)), (.int v4), (.int v7), (.int v5)]) rfl (st := []) rfl rfl (W := 0) rfl (rm := rm2) (by decide) (by decide) (c2 := 1) (s2 := 8) rfl rfl (by decide) (by decide) (con2 (Ok.w O) v6 (2 : Int32) v4 v7 v5 H229 h244) rfl ?_
        refine g_if_eq O (pc' := 250) at_247 rfl (by decide) (pc1 := 331) (by decide) (fun h247 => ?_) (fun h247 => ?_)
        · rw [if_pos h247] at hf
          refine g_forget (Ls' := [none, none, none, none, none, none, none, none, none, none]) trivial ?_
          exact m0_t331 O H244 _ _ hf
        · rw [if_neg h247] at hf
          refine g_aload O (pc' := 252) at_250 (v := v6) rfl rfl ?_
          refine g_iconst O (pc' := 253) at_252 (v := 3) (by decide) rfl ?_
          refine g_iload O (pc' := 255) at_253 (v := v4) rfl rfl ?_
          refine g_iload O (pc' := 257) at_255 (v := v7) rfl rfl ?_
          refine g_iload O (pc' := 259) at_257 (v := v5) rfl rfl ?_
          obtain ⟨⟨x259, H259⟩, h259, hf⟩ := bnd hf
          dsimp only at hf
          refine g_static1 O (pc' := 262) at_259 tw8 tw9 tw10 tw11 (by decide) pd2 (as := [(.ref v6), (.int (3 : Int32)), (.int v4), (.int v7), (.int v5)]) rfl (st := []) rfl rfl (W := 0) rfl (rm := rm2) (by decide) (by decide) (c2 := 1) (s2 := 8) rfl rfl (by decide) (by decide) (con2 (Ok.w O) v6 (3 : Int32) v4 v7 v5 H244 h259) rfl ?_
          refine g_if_eq O (pc' := 265) at_262 rfl (by decide) (pc1 := 331) (by decide) (fun h262 => ?_) (fun h262 => ?_)
          · rw [if_pos h262] at hf
            refine g_forget (Ls' := [none, none, none, none, none, none, none, none, none, none]) trivial ?_
            exact m0_t331 O H259 _ _ hf
          · rw [if_neg h262] at hf
            refine g_aload O (pc' := 267) at_265 (v := v6) rfl rfl ?_
            refine g_iconst O (pc' := 268) at_267 (v := 4) (by decide) rfl ?_
            refine g_iload O (pc' := 270) at_268 (v := v4) rfl rfl ?_
            refine g_iload O (pc' := 272) at_270 (v := v7) rfl rfl ?_
            refine g_iload O (pc' := 274) at_272 (v := v5) rfl rfl ?_
            obtain ⟨⟨x274, H274⟩, h274, hf⟩ := bnd hf
            dsimp only at hf
            refine g_static1 O (pc' := 277) at_274 tw8 tw9 tw10 tw11 (by decide) pd2 (as := [(.ref v6), (.int (4 : Int32)), (.int v4), (.int v7), (.int v5)]) rfl (st := []) rfl rfl (W := 0) rfl (rm := rm2) (by decide) (by decide) (c2 := 1) (s2 := 8) rfl rfl (by decide) (by decide) (con2 (Ok.w O) v6 (4 : Int32) v4 v7 v5 H259 h274) rfl ?_
            refine g_if_eq O (pc' := 280) at_277 rfl (by decide) (pc1 := 331) (by decide) (fun h277 => ?_) (fun h277 => ?_)
            · rw [if_pos h277] at hf
              refine g_forget (Ls' := [none, none, none, none, none, none, none, none, none, none]) trivial ?_
              exact m0_t331 O H274 _ _ hf
            · rw [if_neg h277] at hf
              refine g_aload O (pc' := 282) at_280 (v := v6) rfl rfl ?_
              refine g_iconst O (pc' := 283) at_282 (v := 5) (by decide) rfl ?_
              refine g_iload O (pc' := 285) at_283 (v := v4) rfl rfl ?_
              refine g_iload O (pc' := 287) at_285 (v := v7) rfl rfl ?_
              refine g_iload O (pc' := 289) at_287 (v := v5) rfl rfl ?_
              obtain ⟨⟨x289, H289⟩, h289, hf⟩ := bnd hf
              dsimp only at hf
              refine g_static1 O (pc' := 292) at_289 tw8 tw9 tw10 tw11 (by decide) pd2 (as := [(.ref v6), (.int (5 : Int32)), (.int v4), (.int v7), (.int v5)]) rfl (st := []) rfl rfl (W := 0) rfl (rm := rm2) (by decide) (by decide) (c2 := 1) (s2 := 8) rfl rfl (by decide) (by decide) (con2 (Ok.w O) v6 (5 : Int32) v4 v7 v5 H274 h289) rfl ?_
              refine g_if_eq O (pc' := 295) at_292 rfl (by decide) (pc1 := 331) (by decide) (fun h292 => ?_) (fun h292 => ?_)
              · rw [if_pos h292] at hf
                refine g_forget (Ls' := [none, none, none, none, none, none, none, none, none, none]) trivial ?_
                exact m0_t331 O H289 _ _ hf
              · rw [if_neg h292] at hf
                refine g_aload O (pc' := 297) at_295 (v := v6) rfl rfl ?_
                refine g_bipush O (pc' := 299) at_297 (v := 6) (by decide) rfl ?_
                refine g_iload O (pc' := 301) at_299 (v := v4) rfl rfl ?_
                refine g_iload O (pc' := 303) at_301 (v := v7) rfl rfl ?_
                refine g_iload O (pc' := 305) at_303 (v := v5) rfl rfl ?_
                obtain ⟨⟨x305, H305⟩, h305, hf⟩ := bnd hf
                dsimp only at hf
                refine g_static1 O (pc' := 308) at_305 tw8 tw9 tw10 tw11 (by decide) pd2 (as := [(.ref v6), (.int (6 : Int32)), (.int v4), (.int v7), (.int v5)]) rfl (st := []) rfl rfl (W := 0) rfl (rm := rm2) (by decide) (by decide) (c2 := 1) (s2 := 8) rfl rfl (by decide) (by decide) (con2 (Ok.w O) v6 (6 : Int32) v4 v7 v5 H289 h305) rfl ?_
                refine g_if_eq O (pc' := 311) at_308 rfl (by decide) (pc1 := 331) (by decide) (fun h308 => ?_) (fun h308 => ?_)
                · rw [if_pos h308] at hf
                  refine g_forget (Ls' := [none, none, none, none, none, none, none, none, none, none]) trivial ?_
                  exact m0_t331 O H305 _ _ hf
                · rw [if_neg h308] at hf
                  refine g_aload O (pc' := 313) at_311 (v := v6) rfl rfl ?_
                  refine g_bipush O (pc' := 315) at_313 (v := 7) (by decide) rfl ?_
                  refine g_iload O (pc' := 317) at_315 (v := v4) rfl rfl ?_
                  refine g_iload O (pc' := 319) at_317 (v := v7) rfl rfl ?_
                  refine g_iload O (pc' := 321) at_319 (v := v5) rfl rfl ?_
                  obtain ⟨⟨x321, H321⟩, h321, hf⟩ := bnd hf
                  dsimp only at hf
                  refine g_static1 O (pc' := 324) at_321 tw8 tw9 tw10 tw11 (by decide) pd2 (as := [(.ref v6), (.int (7 : Int32)), (.int v4), (.int v7), (.int v5)]) rfl (st := []) rfl rfl (W := 0) rfl (rm := rm2) (by decide) (by decide) (c2 := 1) (s2 := 8) rfl rfl (by decide) (by decide) (con2 (Ok.w O) v6 (7 : Int32) v4 v7 v5 H305 h321) rfl ?_
                  refine g_if_eq O (pc' := 327) at_324 rfl (by decide) (pc1 := 331) (by decide) (fun h324 => ?_) (fun h324 => ?_)
                  · rw [if_pos h324] at hf
                    refine g_forget (Ls' := [none, none, none, none, none, none, none, none, none, none]) trivial ?_
                    exact m0_t331 O H321 _ _ hf
                  · rw [if_neg h324] at hf
                    refine g_iconst O (pc' := 328) at_327 (v := 1) (by decide) rfl ?_
                    refine g_goto O at_328 (by decide) (pc' := 332) (by decide) ?_
                    refine g_forget (Ls' := [none, none, none, none, none, none, none, none, none, none]) trivial ?_
                    exact m0_t332 O (1 : Int32) H321 _ _ hf
def m0_b167 (v4 : Int32) (v5 : Int32) (v6 : Nat) (v7 : Int32) (t0 : Int32) (H : List Obj) : Option (Int32 × List Obj) :=
  m0_b200 v4 v5 v6 v7 t0 H
theorem m0_t167 {G : Gx} {K : Kx} (O : Ok0 G K) (v4 : Int32) (v5 : Int32) (v6 : Nat) (v7 : Int32) (t0 : Int32) (H : List Obj) (r : Int32) (Hf : List Obj) (hf : m0_b167 v4 v5 v6 v7 t0 H = some (r, Hf)) : Run G K (some (.int r)) Hf 167 [none, none, none, none, some (.int v4), some (.int v5), some (.ref v6), some (.int v7), none, none] [(.int t0)] H 1 8 := by
  unfold m0_b167 at hf
  refine g_istore O (pc' := 169) at_167 (Ls' := [none, none, none, none, some (.int v4), some (.int v5), some (.ref v6), some (.int v7), none, some (.int t0)]) rfl rfl ?_
  refine g_goto O at_169 (by decide) (pc' := 200) (by decide) ?_
  exact m0_t200 O v4 v5 v6 v7 t0 H _ _ hf
def m0_b198 (v4 : Int32) (v5 : Int32) (v6 : Nat) (v7 : Int32) (t0 : Int32) (H : List Obj) : Option (Int32 × List Obj) :=
  m0_b200 v4 v5 v6 v7 t0 H
theorem m0_t198 {G : Gx} {K : Kx} (O : Ok0 G K) (v4 : Int32) (v5 : Int32) (v6 : Nat) (v7 : Int32) (t0 : Int32) (H : List Obj) (r : Int32) (Hf : List Obj) (hf : m0_b198 v4 v5 v6 v7 t0 H = some (r, Hf)) : Run G K (some (.int r)) Hf 198 [none, none, none, none, some (.int v4), some (.int v5), some (.ref v6), some (.int v7), none, none] [(.int t0)] H 1 8 := by
  unfold m0_b198 at hf
  refine g_istore O (pc' := 200) at_198 (Ls' := [none, none, none, none, some (.int v4), some (.int v5), some (.ref v6), some (.int v7), none, some (.int t0)]) rfl rfl ?_
  exact m0_t200 O v4 v5 v6 v7 t0 H _ _ hf
def m0_b136 (v3 : Int32) (v4 : Int32) (v5 : Int32) (v6 : Nat) (v7 : Int32) (v8 : Int32) (H : List Obj) : Option (Int32 × List Obj) :=
  if v7 = v8 then
    if v3 < (128 : Int32) then
      (rdI .byte H v6 v4).bind fun x156 =>
      if x156 = ((v3).toInt8.toInt32) then
        m0_b167 v4 v5 v6 v7 (1 : Int32) H
      else
        m0_b167 v4 v5 v6 v7 (0 : Int32) H
    else
      (m3 v6 v4 (v4 + v7) H).bind fun q181 =>
      if q181.1 = ((v3 <<< ((3 : Int32) &&& 31)) ||| v7) then
        m0_b198 v4 v5 v6 v7 (1 : Int32) q181.2
      else
        m0_b198 v4 v5 v6 v7 (0 : Int32) q181.2
  else
    some ((0 : Int32), H)
theorem m0_t136 {G : Gx} {K : Kx} (O : Ok0 G K) (v3 : Int32) (v4 : Int32) (v5 : Int32) (v6 : Nat) (v7 : Int32) (v8 : Int32) (H : List Obj) (r : Int32) (Hf : List Obj) (hf : m0_b136 v3 v4 v5 v6 v7 v8 H = some (r, Hf)) : Run G K (some (.int r)) Hf 136 [none, none, none, some (.int v3), some (.int v4), some (.int v5), some (.ref v6), some (.int v7), some (.int v8), none] [] H 1 8 := by
  unfold m0_b136 at hf
  refine g_iload O (pc' := 138) at_136 (v := v7) rfl rfl ?_
  refine g_iload O (pc' := 140) at_138 (v := v8) rfl rfl ?_
  refine g_icmp_eq O (pc' := 143) at_140 rfl (by decide) (pc1 := 145) (by decide) (fun h140 => ?_) (fun h140 => ?_)
  · rw [if_pos h140] at hf
    refine g_iload_n O (pc' := 146) at_145 (v := v3) rfl rfl ?_
    refine g_sipush O (pc' := 149) at_146 (v := 128) (by decide) rfl ?_
    refine g_icmp_ge O (pc' := 152) at_149 rfl (by decide) (pc1 := 172) (by decide) (fun h149 => ?_) (fun h149 => ?_)
    · rw [if_neg h149] at hf
      refine g_aload O (pc' := 174) at_172 (v := v6) rfl rfl ?_
      refine g_iload O (pc' := 176) at_174 (v := v4) rfl rfl ?_
      refine g_iload O (pc' := 178) at_176 (v := v4) rfl rfl ?_
      refine g_iload O (pc' := 180) at_178 (v := v7) rfl rfl ?_
      refine g_iadd O (pc' := 181) at_180 rfl ?_
      obtain ⟨⟨x181, H181⟩, h181, hf⟩ := bnd hf
      dsimp only at hf
      refine g_static1 O (pc' := 184) at_181 tw12 tw13 tw6 tw14 (by decide) pd3 (as := [(.ref v6), (.int v4), (.int (v4 + v7))]) rfl (st := []) rfl rfl (W := 0) rfl (rm := rm3) (by decide) (by decide) (c2 := 1) (s2 := 8) rfl rfl (by decide) (by decide) (con3 (Ok.w O) v6 v4 (v4 + v7) H h181) rfl ?_
      refine g_iload_n O (pc' := 185) at_184 (v := v3) rfl rfl ?_
      refine g_iconst O (pc' := 186) at_185 (v := 3) (by decide) rfl ?_
      refine g_ishl O (pc' := 187) at_186 rfl ?_
      refine g_iload O (pc' := 189) at_187 (v := v7) rfl rfl ?_
      refine g_ior O (pc' := 190) at_189 rfl ?_
      refine g_icmp_ne O (pc' := 193) at_190 rfl (by decide) (pc1 := 197) (by decide) (fun h190 => ?_) (fun h190 => ?_)
      · rw [if_neg h190] at hf
        refine g_iconst O (pc' := 198) at_197 (v := 0) (by decide) rfl ?_
        refine g_forget (Ls' := [none, none, none, none, some (.int v4), some (.int v5), some (.ref v6), some (.int v7), none, none]) (And.intro rfl (And.intro rfl (And.intro rfl (And.intro rfl trivial)))) ?_
        exact m0_t198 O v4 v5 v6 v7 (0 : Int32) H181 _ _ hf
      · rw [if_pos h190] at hf
        refine g_iconst O (pc' := 194) at_193 (v := 1) (by decide) rfl ?_
        refine g_goto O at_194 (by decide) (pc' := 198) (by decide) ?_
        refine g_forget (Ls' := [none, none, none, none, some (.int v4), some (.int v5), some (.ref v6), some (.int v7), none, none]) (And.intro rfl (And.intro rfl (And.intro rfl (And.intro rfl trivial)))) ?_
        exact m0_t198 O v4 v5 v6 v7 (1 : Int32) H181 _ _ hf
    · rw [if_pos h149] at hf
      refine g_aload O (pc' := 154) at_152 (v := v6) rfl rfl ?_
      refine g_iload O (pc' := 156) at_154 (v := v4) rfl rfl ?_
      obtain ⟨x156, h156, hf⟩ := bnd hf
      refine g_baload O (pc' := 157) at_156 h156 rfl ?_
      refine g_iload_n O (pc' := 158) at_157 (v := v3) rfl rfl ?_
      refine g_i2b O (pc' := 159) at_158 rfl ?_
      refine g_icmp_ne O (pc' := 162) at_159 rfl (by decide) (pc1 := 166) (by decide) (fun h159 => ?_) (fun h159 => ?_)
      · rw [if_neg h159] at hf
        refine g_iconst O (pc' := 167) at_166 (v := 0) (by decide) rfl ?_
        refine g_forget (Ls' := [none, none, none, none, some (.int v4), some (.int v5), some (.ref v6), some (.int v7), none, none]) (And.intro rfl (And.intro rfl (And.intro rfl (And.intro rfl trivial)))) ?_
        exact m0_t167 O v4 v5 v6 v7 (0 : Int32) H _ _ hf
      · rw [if_pos h159] at hf
        refine g_iconst O (pc' := 163) at_162 (v := 1) (by decide) rfl ?_
        refine g_goto O at_163 (by decide) (pc' := 167) (by decide) ?_
        refine g_forget (Ls' := [none, none, none, none, some (.int v4), some (.int v5), some (.ref v6), some (.int v7), none, none]) (And.intro rfl (And.intro rfl (And.intro rfl (And.intro rfl trivial)))) ?_
        exact m0_t167 O v4 v5 v6 v7 (1 : Int32) H _ _ hf
  · rw [if_neg h140] at hf
    refine g_iconst O (pc' := 144) at_143 (v := 0) (by decide) rfl ?_
    cases hf
    exact g_ret_nar O at_144 (by simp) (by decide) rfl (by decide)
def m0_b20 (v1 : Int32) (v2 : Int32) (v3 : Int32) (H : List Obj) : Option (Int32 × List Obj) :=
  (mkArr .byte 8 H (8 : Int32)).bind fun H31 =>
  (wr .byte H31 (H.length) (0 : Int32) (.int (nar .byte ((v2).toInt8.toInt32)))).bind fun H40 =>
  (wr .byte H40 (H.length) (1 : Int32) (.int (nar .byte ((v2).toInt8.toInt32)))).bind fun H46 =>
  (wr .byte H46 (H.length) (2 : Int32) (.int (nar .byte ((v2).toInt8.toInt32)))).bind fun H52 =>
  (wr .byte H52 (H.length) (3 : Int32) (.int (nar .byte ((v2).toInt8.toInt32)))).bind fun H58 =>
  (wr .byte H58 (H.length) (4 : Int32) (.int (nar .byte ((v2).toInt8.toInt32)))).bind fun H64 =>
  (wr .byte H64 (H.length) (5 : Int32) (.int (nar .byte ((v2).toInt8.toInt32)))).bind fun H70 =>
  (wr .byte H70 (H.length) (6 : Int32) (.int (nar .byte ((v2).toInt8.toInt32)))).bind fun H77 =>
  (wr .byte H77 (H.length) (7 : Int32) (.int (nar .byte ((v2).toInt8.toInt32)))).bind fun H84 =>
  (m1 v3 (H.length) (v1 &&& (3 : Int32)) H84).bind fun q90 =>
  if v3 < (128 : Int32) then
    m0_b136 v3 (v1 &&& (3 : Int32)) ((v2).toInt8.toInt32) (H.length) q90.1 (1 : Int32) q90.2
  else
    if v3 < (2048 : Int32) then
      m0_b136 v3 (v1 &&& (3 : Int32)) ((v2).toInt8.toInt32) (H.length) q90.1 (2 : Int32) q90.2
    else
      if v3 < (65536 : Int32) then
        m0_b136 v3 (v1 &&& (3 : Int32)) ((v2).toInt8.toInt32) (H.length) q90.1 (3 : Int32) q90.2
      else
        m0_b136 v3 (v1 &&& (3 : Int32)) ((v2).toInt8.toInt32) (H.length) q90.1 (4 : Int32) q90.2
theorem m0_t20 {G : Gx} {K : Kx} (O : Ok0 G K) (v1 : Int32) (v2 : Int32) (v3 : Int32) (H : List Obj) (r : Int32) (Hf : List Obj) (hf : m0_b20 v1 v2 v3 H = some (r, Hf)) : Run G K (some (.int r)) Hf 20 [none, some (.int v1), some (.int v2), some (.int v3), none, none, none, none, none, none] [] H 0 0 := by
  unfold m0_b20 at hf
  refine g_iload_n O (pc' := 21) at_20 (v := v1) rfl rfl ?_
  refine g_iconst O (pc' := 22) at_21 (v := 3) (by decide) rfl ?_
  refine g_iand O (pc' := 23) at_22 rfl ?_
  refine g_istore O (pc' := 25) at_23 (Ls' := [none, some (.int v1), some (.int v2), some (.int v3), some (.int (v1 &&& (3 : Int32))), none, none, none, none, none]) rfl rfl ?_
  refine g_iload_n O (pc' := 26) at_25 (v := v2) rfl rfl ?_
  refine g_i2b O (pc' := 27) at_26 rfl ?_
  refine g_istore O (pc' := 29) at_27 (Ls' := [none, some (.int v1), some (.int v2), some (.int v3), some (.int (v1 &&& (3 : Int32))), some (.int ((v2).toInt8.toInt32)), none, none, none, none]) rfl rfl ?_
  refine g_bipush O (pc' := 31) at_29 (v := 8) (by decide) rfl ?_
  obtain ⟨H31, h31, hf⟩ := bnd hf
  refine g_newarray O (pc' := 33) at_31 (cap := 8) tw3 h31 (by decide) (c2 := 1) (s2 := 8) rfl rfl (by decide) (by decide) rfl ?_
  refine g_astore O (pc' := 35) at_33 (Ls' := [none, some (.int v1), some (.int v2), some (.int v3), some (.int (v1 &&& (3 : Int32))), some (.int ((v2).toInt8.toInt32)), some (.ref (H.length)), none, none, none]) rfl rfl ?_
  refine g_aload O (pc' := 37) at_35 (v := (H.length)) rfl rfl ?_
  refine g_iconst O (pc' := 38) at_37 (v := 0) (by decide) rfl ?_
  refine g_iload O (pc' := 40) at_38 (v := ((v2).toInt8.toInt32)) rfl rfl ?_
  obtain ⟨H40, h40, hf⟩ := bnd hf
  refine g_bastore O (pc' := 41) at_40 h40 rfl ?_
  refine g_aload O (pc' := 43) at_41 (v := (H.length)) rfl rfl ?_
  refine g_iconst O (pc' := 44) at_43 (v := 1) (by decide) rfl ?_
  refine g_iload O (pc' := 46) at_44 (v := ((v2).toInt8.toInt32)) rfl rfl ?_
  obtain ⟨H46, h46, hf⟩ := bnd hf
  refine g_bastore O (pc' := 47) at_46 h46 rfl ?_
  refine g_aload O (pc' := 49) at_47 (v := (H.length)) rfl rfl ?_
  refine g_iconst O (pc' := 50) at_49 (v := 2) (by decide) rfl ?_
  refine g_iload O (pc' := 52) at_50 (v := ((v2).toInt8.toInt32)) rfl rfl ?_
  obtain ⟨H52, h52, hf⟩ := bnd hf
  refine g_bastore O (pc' := 53) at_52 h52 rfl ?_
  refine g_aload O (pc' := 55) at_53 (v := (H.length)) rfl rfl ?_
  refine g_iconst O (pc' := 56) at_55 (v := 3) (by decide) rfl ?_
  refine g_iload O (pc' := 58) at_56 (v := ((v2).toInt8.toInt32)) rfl rfl ?_
  obtain ⟨H58, h58, hf⟩ := bnd hf
  refine g_bastore O (pc' := 59) at_58 h58 rfl ?_
  refine g_aload O (pc' := 61) at_59 (v := (H.length)) rfl rfl ?_
  refine g_iconst O (pc' := 62) at_61 (v := 4) (by decide) rfl ?_
  refine g_iload O (pc' := 64) at_62 (v := ((v2).toInt8.toInt32)) rfl rfl ?_
  obtain ⟨H64, h64, hf⟩ := bnd hf
  refine g_bastore O (pc' := 65) at_64 h64 rfl ?_
  refine g_aload O (pc' := 67) at_65 (v := (H.length)) rfl rfl ?_
  refine g_iconst O (pc' := 68) at_67 (v := 5) (by decide) rfl ?_
  refine g_iload O (pc' := 70) at_68 (v := ((v2).toInt8.toInt32)) rfl rfl ?_
  obtain ⟨H70, h70, hf⟩ := bnd hf
  refine g_bastore O (pc' := 71) at_70 h70 rfl ?_
  refine g_aload O (pc' := 73) at_71 (v := (H.length)) rfl rfl ?_
  refine g_bipush O (pc' := 75) at_73 (v := 6) (by decide) rfl ?_
  refine g_iload O (pc' := 77) at_75 (v := ((v2).toInt8.toInt32)) rfl rfl ?_
  obtain ⟨H77, h77, hf⟩ := bnd hf
  refine g_bastore O (pc' := 78) at_77 h77 rfl ?_
  refine g_aload O (pc' := 80) at_78 (v := (H.length)) rfl rfl ?_
  refine g_bipush O (pc' := 82) at_80 (v := 7) (by decide) rfl ?_
  refine g_iload O (pc' := 84) at_82 (v := ((v2).toInt8.toInt32)) rfl rfl ?_
  obtain ⟨H84, h84, hf⟩ := bnd hf
  refine g_bastore O (pc' := 85) at_84 h84 rfl ?_
  refine g_iload_n O (pc' := 86) at_85 (v := v3) rfl rfl ?_
  refine g_aload O (pc' := 88) at_86 (v := (H.length)) rfl rfl ?_
  refine g_iload O (pc' := 90) at_88 (v := (v1 &&& (3 : Int32))) rfl rfl ?_
  obtain ⟨⟨x90, H90⟩, h90, hf⟩ := bnd hf
  dsimp only at hf
  refine g_static1 O (pc' := 93) at_90 tw4 tw5 tw6 tw7 (by decide) pd1 (as := [(.int v3), (.ref (H.length)), (.int (v1 &&& (3 : Int32)))]) rfl (st := []) rfl rfl (W := 0) rfl (rm := rm1) (by decide) (by decide) (c2 := 1) (s2 := 8) rfl rfl (by decide) (by decide) (con1 (Ok.w O) v3 (H.length) (v1 &&& (3 : Int32)) H84 h90) rfl ?_
  refine g_istore O (pc' := 95) at_93 (Ls' := [none, some (.int v1), some (.int v2), some (.int v3), some (.int (v1 &&& (3 : Int32))), some (.int ((v2).toInt8.toInt32)), some (.ref (H.length)), some (.int x90), none, none]) rfl rfl ?_
  refine g_iload_n O (pc' := 96) at_95 (v := v3) rfl rfl ?_
  refine g_sipush O (pc' := 99) at_96 (v := 128) (by decide) rfl ?_
  refine g_icmp_ge O (pc' := 102) at_99 rfl (by decide) (pc1 := 108) (by decide) (fun h99 => ?_) (fun h99 => ?_)
  · rw [if_neg h99] at hf
    refine g_iload_n O (pc' := 109) at_108 (v := v3) rfl rfl ?_
    refine g_sipush O (pc' := 112) at_109 (v := 2048) (by decide) rfl ?_
    refine g_icmp_ge O (pc' := 115) at_112 rfl (by decide) (pc1 := 121) (by decide) (fun h112 => ?_) (fun h112 => ?_)
    · rw [if_neg h112] at hf
      refine g_iload_n O (pc' := 122) at_121 (v := v3) rfl rfl ?_
      refine g_ldc O (pc' := 124) at_122 tw18 rfl ?_
      refine g_icmp_ge O (pc' := 127) at_124 rfl (by decide) (pc1 := 133) (by decide) (fun h124 => ?_) (fun h124 => ?_)
      · rw [if_neg h124] at hf
        refine g_iconst O (pc' := 134) at_133 (v := 4) (by decide) rfl ?_
        refine g_istore O (pc' := 136) at_134 (Ls' := [none, some (.int v1), some (.int v2), some (.int v3), some (.int (v1 &&& (3 : Int32))), some (.int ((v2).toInt8.toInt32)), some (.ref (H.length)), some (.int x90), some (.int (4 : Int32)), none]) rfl rfl ?_
        refine g_forget (Ls' := [none, none, none, some (.int v3), some (.int (v1 &&& (3 : Int32))), some (.int ((v2).toInt8.toInt32)), some (.ref (H.length)), some (.int x90), some (.int (4 : Int32)), none]) (And.intro rfl (And.intro rfl (And.intro rfl (And.intro rfl (And.intro rfl (And.intro rfl trivial)))))) ?_
        exact m0_t136 O v3 (v1 &&& (3 : Int32)) ((v2).toInt8.toInt32) (H.length) x90 (4 : Int32) H90 _ _ hf
      · rw [if_pos h124] at hf
        refine g_iconst O (pc' := 128) at_127 (v := 3) (by decide) rfl ?_
        refine g_istore O (pc' := 130) at_128 (Ls' := [none, some (.int v1), some (.int v2), some (.int v3), some (.int (v1 &&& (3 : Int32))), some (.int ((v2).toInt8.toInt32)), some (.ref (H.length)), some (.int x90), some (.int (3 : Int32)), none]) rfl rfl ?_
        refine g_goto O at_130 (by decide) (pc' := 136) (by decide) ?_
        refine g_forget (Ls' := [none, none, none, some (.int v3), some (.int (v1 &&& (3 : Int32))), some (.int ((v2).toInt8.toInt32)), some (.ref (H.length)), some (.int x90), some (.int (3 : Int32)), none]) (And.intro rfl (And.intro rfl (And.intro rfl (And.intro rfl (And.intro rfl (And.intro rfl trivial)))))) ?_
        exact m0_t136 O v3 (v1 &&& (3 : Int32)) ((v2).toInt8.toInt32) (H.length) x90 (3 : Int32) H90 _ _ hf
    · rw [if_pos h112] at hf
      refine g_iconst O (pc' := 116) at_115 (v := 2) (by decide) rfl ?_
      refine g_istore O (pc' := 118) at_116 (Ls' := [none, some (.int v1), some (.int v2), some (.int v3), some (.int (v1 &&& (3 : Int32))), some (.int ((v2).toInt8.toInt32)), some (.ref (H.length)), some (.int x90), some (.int (2 : Int32)), none]) rfl rfl ?_
      refine g_goto O at_118 (by decide) (pc' := 136) (by decide) ?_
      refine g_forget (Ls' := [none, none, none, some (.int v3), some (.int (v1 &&& (3 : Int32))), some (.int ((v2).toInt8.toInt32)), some (.ref (H.length)), some (.int x90), some (.int (2 : Int32)), none]) (And.intro rfl (And.intro rfl (And.intro rfl (And.intro rfl (And.intro rfl (And.intro rfl trivial)))))) ?_
      exact m0_t136 O v3 (v1 &&& (3 : Int32)) ((v2).toInt8.toInt32) (H.length) x90 (2 : Int32) H90 _ _ hf
  · rw [if_pos h99] at hf
    refine g_iconst O (pc' := 103) at_102 (v := 1) (by decide) rfl ?_
    refine g_istore O (pc' := 105) at_103 (Ls' := [none, some (.int v1), some (.int v2), some (.int v3), some (.int (v1 &&& (3 : Int32))), some (.int ((v2).toInt8.toInt32)), some (.ref (H.length)), some (.int x90), some (.int (1 : Int32)), none]) rfl rfl ?_
    refine g_goto O at_105 (by decide) (pc' := 136) (by decide) ?_
    refine g_forget (Ls' := [none, none, none, some (.int v3), some (.int (v1 &&& (3 : Int32))), some (.int ((v2).toInt8.toInt32)), some (.ref (H.length)), some (.int x90), some (.int (1 : Int32)), none]) (And.intro rfl (And.intro rfl (And.intro rfl (And.intro rfl (And.intro rfl (And.intro rfl trivial)))))) ?_
    exact m0_t136 O v3 (v1 &&& (3 : Int32)) ((v2).toInt8.toInt32) (H.length) x90 (1 : Int32) H90 _ _ hf
def m0_b0 (v0 : Int32) (v1 : Int32) (v2 : Int32) (H : List Obj) : Option (Int32 × List Obj) :=
  if ((v0 &&& (2147483647 : Int32)) % (1112064 : Int32)) < (55296 : Int32) then
    m0_b20 v1 v2 ((v0 &&& (2147483647 : Int32)) % (1112064 : Int32)) H
  else
    m0_b20 v1 v2 (((v0 &&& (2147483647 : Int32)) % (1112064 : Int32)) + (2048 : Int32)) H
theorem m0_t0 {G : Gx} {K : Kx} (O : Ok0 G K) (v0 : Int32) (v1 : Int32) (v2 : Int32) (H : List Obj) (r : Int32) (Hf : List Obj) (hf : m0_b0 v0 v1 v2 H = some (r, Hf)) : Run G K (some (.int r)) Hf 0 [some (.int v0), some (.int v1), some (.int v2), none, none, none, none, none, none, none] [] H 0 0 := by
  unfold m0_b0 at hf
  refine g_iload_n O (pc' := 1) at_0 (v := v0) rfl rfl ?_
  refine g_ldc O (pc' := 3) at_1 tw0 rfl ?_
  refine g_iand O (pc' := 4) at_3 rfl ?_
  refine g_ldc O (pc' := 6) at_4 tw1 rfl ?_
  refine g_irem O (pc' := 7) at_6 (by decide) rfl ?_
  refine g_istore_n O (pc' := 8) at_7 (Ls' := [some (.int v0), some (.int v1), some (.int v2), some (.int ((v0 &&& (2147483647 : Int32)) % (1112064 : Int32))), none, none, none, none, none, none]) rfl rfl ?_
  refine g_iload_n O (pc' := 9) at_8 (v := ((v0 &&& (2147483647 : Int32)) % (1112064 : Int32))) rfl rfl ?_
  refine g_ldc O (pc' := 11) at_9 tw2 rfl ?_
  refine g_icmp_lt O (pc' := 14) at_11 rfl (by decide) (pc1 := 20) (by decide) (fun h11 => ?_) (fun h11 => ?_)
  · rw [if_pos h11] at hf
    refine g_forget (Ls' := [none, some (.int v1), some (.int v2), some (.int ((v0 &&& (2147483647 : Int32)) % (1112064 : Int32))), none, none, none, none, none, none]) (And.intro rfl (And.intro rfl (And.intro rfl trivial))) ?_
    exact m0_t20 O v1 v2 ((v0 &&& (2147483647 : Int32)) % (1112064 : Int32)) H _ _ hf
  · rw [if_neg h11] at hf
    refine g_iload_n O (pc' := 15) at_14 (v := ((v0 &&& (2147483647 : Int32)) % (1112064 : Int32))) rfl rfl ?_
    refine g_sipush O (pc' := 18) at_15 (v := 2048) (by decide) rfl ?_
    refine g_iadd O (pc' := 19) at_18 rfl ?_
    refine g_istore_n O (pc' := 20) at_19 (Ls' := [some (.int v0), some (.int v1), some (.int v2), some (.int (((v0 &&& (2147483647 : Int32)) % (1112064 : Int32)) + (2048 : Int32))), none, none, none, none, none, none]) rfl rfl ?_
    refine g_forget (Ls' := [none, some (.int v1), some (.int v2), some (.int (((v0 &&& (2147483647 : Int32)) % (1112064 : Int32)) + (2048 : Int32))), none, none, none, none, none, none]) (And.intro rfl (And.intro rfl (And.intro rfl trivial))) ?_
    exact m0_t20 O v1 v2 (((v0 &&& (2147483647 : Int32)) % (1112064 : Int32)) + (2048 : Int32)) H _ _ hf
abbrev m0 (v0 : Int32) (v1 : Int32) (v2 : Int32) (H : List Obj) : Option (Int32 × List Obj) := m0_b0 v0 v1 v2 H

theorem own_byte {v : Int32} (h0 : 0 ≤ v.toInt) (h1 : v.toInt ≤ 255) : (nar .byte (v.toInt8.toInt32)) &&& 255 = v := by
  rw [own_eq]
  have e : nar .byte (v.toInt8.toInt32) = v.toInt8.toInt32.toInt8.toInt32 := rfl
  rw [e]
  have a := c_i2b v; have b := c_i2b v.toInt8.toInt32
  have c : ((v.toInt8.toInt32.toInt8.toInt32) &&& 255).toInt = (v.toInt8.toInt32.toInt8.toInt32).toInt % 256 := c_mask _ 255 8 (by decide) (by decide)
  omega
theorem own_idem (v : Int32) : nar .byte (v.toInt8.toInt32) = v.toInt8.toInt32 := by
  rw [own_eq]
  have e : nar .byte (v.toInt8.toInt32) = v.toInt8.toInt32.toInt8.toInt32 := rfl
  rw [e]
  have a := c_i2b v; have b := c_i2b v.toInt8.toInt32
  omega
theorem own_192 : ∀ j : Fin 256, ((j.1).toInt32 &&& 192 = 128 ↔ (128 ≤ j.1 ∧ j.1 ≤ 191)) := by decide +kernel
theorem own_cont {c : Int32} (h0 : 0 ≤ c.toInt) (h1 : c.toInt ≤ 255) : c &&& 192 = 128 ↔ (128 ≤ c.toInt ∧ c.toInt ≤ 191) := by
  obtain ⟨j, rfl⟩ := own_fin (r := c) (N := 256) h0 (by omega) (by decide)
  rw [own_192 j, len_toInt (by show j.1 < 2 ^ 31; omega)]
  omega
theorem own_six {v c : Int32} (h0 : 0 ≤ v.toInt) (h1 : v.toInt < 1048576) : ((v <<< ((6 : Int32) &&& 31)) ||| (c &&& 63)).toInt = v.toInt * 64 + c.toInt % 64 := by
  have a := c_ishl v 6 6 (by decide); have ar := rng32 (v <<< ((6 : Int32) &&& 31))
  have b : (c &&& 63).toInt = c.toInt % 64 := c_mask c 63 6 (by decide) (by decide)
  have d := c_or (v <<< ((6 : Int32) &&& 31)) (c &&& 63) 6 (by decide) 64 (by decide) (by omega) (by omega) (by omega)
  have r := rng32 ((v <<< ((6 : Int32) &&& 31)) ||| (c &&& 63))
  omega
theorem own_go {n : Nat} {at' len mn v6 v7 w7 x c : Int32} {H : List Obj} (h : v7 < at' + len) (hr : rdI .byte H 0 v7 = some x) (hx : x &&& 255 = c) (hk : c &&& 192 = 128) (hw : v7 + 1 = w7) : m3_b92 (n + 1) 0 at' len mn v6 v7 H = m3_b92 n 0 at' len mn ((v6 <<< ((6 : Int32) &&& 31)) ||| (c &&& 63)) w7 H := by
  rw [m3_b92, if_pos h, hr, Option.bind_some, hx, hw, if_pos hk]
theorem own_out {n : Nat} {at' len mn v6 v7 : Int32} {H : List Obj} (h : ¬ v7 < at' + len) (h1 : mn.toInt ≤ v6.toInt) (h2 : v6.toInt ≤ 1114111) (h3 : v6.toInt < 55296 ∨ 57343 < v6.toInt) : m3_b92 (n + 1) 0 at' len mn v6 v7 H = some ((v6 <<< ((3 : Int32) &&& 31)) ||| len, H) := by
  have z1 : (1114111 : Int32).toInt = 1114111 := by decide
  have z2 : (55296 : Int32).toInt = 55296 := by decide
  have z3 : (57343 : Int32).toInt = 57343 := by decide
  rw [m3_b92, if_neg h, if_neg (by rw [own_lt]; omega), if_neg (by rw [own_lt]; omega)]
  by_cases g : v6 < 55296
  · rw [if_pos g]; rfl
  · rw [if_neg g, if_pos (by rw [own_lt] at g ⊢; omega)]; rfl
theorem own_dec {p q x0 L : Int32} {H : List Obj} (hr : rdI .byte H 0 p = some x0) (hx : x0 &&& 255 = L) : m3 0 p q H = if L < 194 then some (-1, H) else if 244 < L then some (-1, H) else if L < 224 then m3_b67 0 p q L 2 128 H else if L < 240 then m3_b67 0 p q L 3 2048 H else m3_b67 0 p q L 4 65536 H := by
  show m3_b0 0 p q H = _
  unfold m3_b0
  rw [hr, Option.bind_some, hx]; rfl
/-- a lead byte and a following byte, as numbers -/
theorem own_lead {a b : Int32} {k : Nat} (P : Int) (hk : k ≤ 31) (hP : P = (2 ^ k : Nat)) (h0 : a.toInt % P = 0) (h1 : 0 ≤ a.toInt) (h2 : a.toInt ≤ 255) (h3 : 0 ≤ b.toInt) (h4 : b.toInt < P) (h5 : a.toInt + b.toInt ≤ 255) : (a ||| b).toInt = a.toInt + b.toInt := by
  have d := c_or a b k hk P hP h0 h3 h4
  have r := rng32 (a ||| b)
  omega
theorem own_fol (c : Int32) : (128 ||| (c &&& 63)).toInt = 128 + c.toInt % 64 := by
  have b : (c &&& 63).toInt = c.toInt % 64 := c_mask c 63 6 (by decide) (by decide)
  have z : (128 : Int32).toInt = 128 := by decide
  rw [own_lead (k := 7) 128 (by decide) (by decide) (by omega) (by omega) (by omega) (by omega) (by omega) (by omega)]
  omega
theorem own_d2 {p c x0 x1 L c1 : Int32} {H : List Obj} (hp0 : 0 ≤ p.toInt) (hp3 : p.toInt ≤ 3) (hc0 : 128 ≤ c.toInt) (hc1 : c.toInt < 2048) (r0 : rdI .byte H 0 p = some x0) (r1 : rdI .byte H 0 (p + 1) = some x1) (e0 : x0 &&& 255 = L) (e1 : x1 &&& 255 = c1)
    (hL : L.toInt = 192 + c.toInt / 64) (h1 : c1.toInt = 128 + c.toInt % 64) : m3 0 p (p + 2) H = some (c <<< ((3 : Int32) &&& 31) ||| 2, H) := by
  have z1 : (1 : Int32).toInt = 1 := by decide
  have z2 : (2 : Int32).toInt = 2 := by decide
  have z194 : (194 : Int32).toInt = 194 := by decide
  have z244 : (244 : Int32).toInt = 244 := by decide
  have z224 : (224 : Int32).toInt = 224 := by decide
  have z128 : (128 : Int32).toInt = 128 := by decide
  have s1 := c_iadd p 1; have s1r := rng32 (p + 1)
  have s2 := c_iadd (p + 1) 1; have s2r := rng32 (p + 1 + 1)
  have t2 := c_iadd p 2; have t2r := rng32 (p + 2)
  rw [own_dec r0 e0, if_neg (by rw [own_lt]; omega), if_neg (by rw [own_lt]; omega), if_pos (by rw [own_lt]; omega)]
  unfold m3_b67
  have m : (L &&& (127 : Int32) >>> ((2 : Int32) &&& 31)).toInt = L.toInt % 32 := c_mask L _ 5 (by decide) (by decide)
  have b := own_six (v := L &&& (127 : Int32) >>> ((2 : Int32) &&& 31)) (c := c1) (by omega) (by omega)
  rw [if_neg (by rw [own_lt]; omega), own_go (n := 7) (by rw [own_lt]; omega) r1 e1 ((own_cont (by omega) (by omega)).mpr (by omega)) rfl, own_out (n := 6) (by rw [own_lt]; omega) (by omega) (by omega) (by omega)]
  rw [show ((L &&& (127 : Int32) >>> ((2 : Int32) &&& 31)) <<< ((6 : Int32) &&& 31) ||| c1 &&& 63) = c from by rw [own_eq]; omega]
theorem own_d3 {p c x0 x1 x2 L c1 c2 : Int32} {H : List Obj} (hp0 : 0 ≤ p.toInt) (hp3 : p.toInt ≤ 3) (hc0 : 2048 ≤ c.toInt) (hc1 : c.toInt < 65536) (hs : c.toInt < 55296 ∨ 57343 < c.toInt) (r0 : rdI .byte H 0 p = some x0) (r1 : rdI .byte H 0 (p + 1) = some x1) (r2 : rdI .byte H 0 (p + 1 + 1) = some x2) (e0 : x0 &&& 255 = L) (e1 : x1 &&& 255 = c1) (e2 : x2 &&& 255 = c2)
    (hL : L.toInt = 224 + c.toInt / 4096) (h1 : c1.toInt = 128 + c.toInt / 64 % 64) (h2 : c2.toInt = 128 + c.toInt % 64) : m3 0 p (p + 3) H = some (c <<< ((3 : Int32) &&& 31) ||| 3, H) := by
  have z1 : (1 : Int32).toInt = 1 := by decide
  have z2 : (3 : Int32).toInt = 3 := by decide
  have z194 : (194 : Int32).toInt = 194 := by decide
  have z244 : (244 : Int32).toInt = 244 := by decide
  have z224 : (224 : Int32).toInt = 224 := by decide
  have z240 : (240 : Int32).toInt = 240 := by decide
  have z2048 : (2048 : Int32).toInt = 2048 := by decide
  have s1 := c_iadd p 1; have s1r := rng32 (p + 1)
  have s2 := c_iadd (p + 1) 1; have s2r := rng32 (p + 1 + 1)
  have s3 := c_iadd (p + 1 + 1) 1; have s3r := rng32 (p + 1 + 1 + 1)
  have t2 := c_iadd p 3; have t2r := rng32 (p + 3)
  rw [own_dec r0 e0, if_neg (by rw [own_lt]; omega), if_neg (by rw [own_lt]; omega), if_neg (by rw [own_lt]; omega), if_pos (by rw [own_lt]; omega)]
  unfold m3_b67
  have m : (L &&& (127 : Int32) >>> ((3 : Int32) &&& 31)).toInt = L.toInt % 16 := c_mask L _ 4 (by decide) (by decide)
  have b := own_six (v := L &&& (127 : Int32) >>> ((3 : Int32) &&& 31)) (c := c1) (by omega) (by omega)
  have b2 := own_six (v := (L &&& (127 : Int32) >>> ((3 : Int32) &&& 31)) <<< ((6 : Int32) &&& 31) ||| c1 &&& 63) (c := c2) (by omega) (by omega)
  rw [if_neg (by rw [own_lt]; omega), own_go (n := 7) (by rw [own_lt]; omega) r1 e1 ((own_cont (by omega) (by omega)).mpr (by omega)) rfl, own_go (n := 6) (by rw [own_lt]; omega) r2 e2 ((own_cont (by omega) (by omega)).mpr (by omega)) rfl, own_out (n := 5) (by rw [own_lt]; omega) (by omega) (by omega) (by omega)]
  rw [show (((L &&& (127 : Int32) >>> ((3 : Int32) &&& 31)) <<< ((6 : Int32) &&& 31) ||| c1 &&& 63) <<< ((6 : Int32) &&& 31) ||| c2 &&& 63) = c from by rw [own_eq]; omega]
theorem own_d4 {p c x0 x1 x2 x3 L c1 c2 c3 : Int32} {H : List Obj} (hp0 : 0 ≤ p.toInt) (hp3 : p.toInt ≤ 3) (hc0 : 65536 ≤ c.toInt) (hc1 : c.toInt ≤ 1114111) (r0 : rdI .byte H 0 p = some x0) (r1 : rdI .byte H 0 (p + 1) = some x1) (r2 : rdI .byte H 0 (p + 1 + 1) = some x2) (r3 : rdI .byte H 0 (p + 1 + 1 + 1) = some x3) (e0 : x0 &&& 255 = L) (e1 : x1 &&& 255 = c1) (e2 : x2 &&& 255 = c2) (e3 : x3 &&& 255 = c3)
    (hL : L.toInt = 240 + c.toInt / 262144) (h1 : c1.toInt = 128 + c.toInt / 4096 % 64) (h2 : c2.toInt = 128 + c.toInt / 64 % 64) (h3 : c3.toInt = 128 + c.toInt % 64) : m3 0 p (p + 4) H = some (c <<< ((3 : Int32) &&& 31) ||| 4, H) := by
  have z1 : (1 : Int32).toInt = 1 := by decide
  have z2 : (4 : Int32).toInt = 4 := by decide
  have z194 : (194 : Int32).toInt = 194 := by decide
  have z244 : (244 : Int32).toInt = 244 := by decide
  have z224 : (224 : Int32).toInt = 224 := by decide
  have z240 : (240 : Int32).toInt = 240 := by decide
  have z65536 : (65536 : Int32).toInt = 65536 := by decide
  have s1 := c_iadd p 1; have s1r := rng32 (p + 1)
  have s2 := c_iadd (p + 1) 1; have s2r := rng32 (p + 1 + 1)
  have s3 := c_iadd (p + 1 + 1) 1; have s3r := rng32 (p + 1 + 1 + 1)
  have s4 := c_iadd (p + 1 + 1 + 1) 1; have s4r := rng32 (p + 1 + 1 + 1 + 1)
  have t2 := c_iadd p 4; have t2r := rng32 (p + 4)
  rw [own_dec r0 e0, if_neg (by rw [own_lt]; omega), if_neg (by rw [own_lt]; omega), if_neg (by rw [own_lt]; omega), if_neg (by rw [own_lt]; omega)]
  unfold m3_b67
  have m : (L &&& (127 : Int32) >>> ((4 : Int32) &&& 31)).toInt = L.toInt % 8 := c_mask L _ 3 (by decide) (by decide)
  have b := own_six (v := L &&& (127 : Int32) >>> ((4 : Int32) &&& 31)) (c := c1) (by omega) (by omega)
  have b2 := own_six (v := (L &&& (127 : Int32) >>> ((4 : Int32) &&& 31)) <<< ((6 : Int32) &&& 31) ||| c1 &&& 63) (c := c2) (by omega) (by omega)
  have b3 := own_six (v := ((L &&& (127 : Int32) >>> ((4 : Int32) &&& 31)) <<< ((6 : Int32) &&& 31) ||| c1 &&& 63) <<< ((6 : Int32) &&& 31) ||| c2 &&& 63) (c := c3) (by omega) (by omega)
  rw [if_neg (by rw [own_lt]; omega), own_go (n := 7) (by rw [own_lt]; omega) r1 e1 ((own_cont (by omega) (by omega)).mpr (by omega)) rfl, own_go (n := 6) (by rw [own_lt]; omega) r2 e2 ((own_cont (by omega) (by omega)).mpr (by omega)) rfl, own_go (n := 5) (by rw [own_lt]; omega) r3 e3 ((own_cont (by omega) (by omega)).mpr (by omega)) rfl, own_out (n := 4) (by rw [own_lt]; omega) (by omega) (by omega) (by omega)]
  rw [show ((((L &&& (127 : Int32) >>> ((4 : Int32) &&& 31)) <<< ((6 : Int32) &&& 31) ||| c1 &&& 63) <<< ((6 : Int32) &&& 31) ||| c2 &&& 63) <<< ((6 : Int32) &&& 31) ||| c3 &&& 63) = c from by rw [own_eq]; omega]
/-- keep: a place outside holds the fill, a place inside isn't asked -/
theorem own_kl {i p l s : Int32} {H : List Obj} (h : i < p) (hr : rdI .byte H 0 i = some s) : m2 0 i p l s H = some (1, H) := by
  show m2_b0 0 i p l s H = _
  unfold m2_b0 m2_b12
  rw [if_pos h, hr, Option.bind_some, if_pos rfl]; rfl
theorem own_kr {i p l s : Int32} {H : List Obj} (h : ¬ i < p) (h' : ¬ i < p + l) (hr : rdI .byte H 0 i = some s) : m2 0 i p l s H = some (1, H) := by
  show m2_b0 0 i p l s H = _
  unfold m2_b0 m2_b12
  rw [if_neg h, if_neg h', hr, Option.bind_some, if_pos rfl]; rfl
theorem own_km {i p l s : Int32} {H : List Obj} (h : ¬ i < p) (h' : i < p + l) : m2 0 i p l s H = some (1, H) := by
  show m2_b0 0 i p l s H = _
  unfold m2_b0
  rw [if_neg h, if_pos h']
theorem own_200 {p s l : Int32} {H : List Obj} (k0 : m2 0 0 p l s H = some (1, H)) (k1 : m2 0 1 p l s H = some (1, H)) (k2 : m2 0 2 p l s H = some (1, H)) (k3 : m2 0 3 p l s H = some (1, H)) (k4 : m2 0 4 p l s H = some (1, H)) (k5 : m2 0 5 p l s H = some (1, H)) (k6 : m2 0 6 p l s H = some (1, H)) (k7 : m2 0 7 p l s H = some (1, H)) : m0_b200 p s 0 l 1 H = some (1, H) := by
  have z : ¬ (1 : Int32) = 0 := by decide
  unfold m0_b200
  rw [if_neg z, k0, Option.bind_some]; dsimp only
  rw [if_neg z, k1, Option.bind_some]; dsimp only
  rw [if_neg z, k2, Option.bind_some]; dsimp only
  rw [if_neg z, k3, Option.bind_some]; dsimp only
  rw [if_neg z, k4, Option.bind_some]; dsimp only
  rw [if_neg z, k5, Option.bind_some]; dsimp only
  rw [if_neg z, k6, Option.bind_some]; dsimp only
  rw [if_neg z, k7, Option.bind_some]; dsimp only
  rw [if_neg z]; rfl
theorem own_136 {c p s l : Int32} {H : List Obj} (hc : ¬ c < 128) (hd : m3 0 p (p + l) H = some (c <<< ((3 : Int32) &&& 31) ||| l, H)) (hk : m0_b200 p s 0 l 1 H = some (1, H)) : m0_b136 c p s 0 l l H = some (1, H) := by
  unfold m0_b136 m0_b198
  rw [if_pos rfl, if_neg hc, hd, Option.bind_some]; dsimp only
  rw [if_pos rfl]; exact hk
theorem own_136a {c p s l : Int32} {H : List Obj} (hc : c < 128) (hr : rdI .byte H 0 p = some (c.toInt8.toInt32)) (hk : m0_b200 p s 0 l 1 H = some (1, H)) : m0_b136 c p s 0 l l H = some (1, H) := by
  unfold m0_b136 m0_b167
  rw [if_pos rfl, if_pos hc, hr, Option.bind_some, if_pos rfl]; exact hk
abbrev B8 (a b c d e f g h : Int32) : List Obj := [.inl (.byte, [.int a, .int b, .int c, .int d, .int e, .int f, .int g, .int h])]
abbrev N (v : Int32) : Int32 := nar .byte (v.toInt8.toInt32)
theorem own_e10 (c s : Int32) (h : c < 128) : m1 c 0 0 (B8 s s s s s s s s) = some (1, (B8 (N c) s s s s s s s)) := by
  show m1_b0 c 0 0 (B8 s s s s s s s s) = _
  unfold m1_b0
  rw [if_pos h]; simp [wr, arr, m1_b171, N]
theorem own_k10 (c s : Int32) : m0_b200 0 s 0 1 1 (B8 (N c) s s s s s s s) = some (1, (B8 (N c) s s s s s s s)) := own_200 (own_km (by decide) (by decide)) (own_kr (by decide) (by decide) rfl) (own_kr (by decide) (by decide) rfl) (own_kr (by decide) (by decide) rfl) (own_kr (by decide) (by decide) rfl) (own_kr (by decide) (by decide) rfl) (own_kr (by decide) (by decide) rfl) (own_kr (by decide) (by decide) rfl)
theorem own_e11 (c s : Int32) (h : c < 128) : m1 c 0 1 (B8 s s s s s s s s) = some (1, (B8 s (N c) s s s s s s)) := by
  show m1_b0 c 0 1 (B8 s s s s s s s s) = _
  unfold m1_b0
  rw [if_pos h]; simp [wr, arr, m1_b171, N]
theorem own_k11 (c s : Int32) : m0_b200 1 s 0 1 1 (B8 s (N c) s s s s s s) = some (1, (B8 s (N c) s s s s s s)) := own_200 (own_kl (by decide) rfl) (own_km (by decide) (by decide)) (own_kr (by decide) (by decide) rfl) (own_kr (by decide) (by decide) rfl) (own_kr (by decide) (by decide) rfl) (own_kr (by decide) (by decide) rfl) (own_kr (by decide) (by decide) rfl) (own_kr (by decide) (by decide) rfl)
theorem own_e12 (c s : Int32) (h : c < 128) : m1 c 0 2 (B8 s s s s s s s s) = some (1, (B8 s s (N c) s s s s s)) := by
  show m1_b0 c 0 2 (B8 s s s s s s s s) = _
  unfold m1_b0
  rw [if_pos h]; simp [wr, arr, m1_b171, N]
theorem own_k12 (c s : Int32) : m0_b200 2 s 0 1 1 (B8 s s (N c) s s s s s) = some (1, (B8 s s (N c) s s s s s)) := own_200 (own_kl (by decide) rfl) (own_kl (by decide) rfl) (own_km (by decide) (by decide)) (own_kr (by decide) (by decide) rfl) (own_kr (by decide) (by decide) rfl) (own_kr (by decide) (by decide) rfl) (own_kr (by decide) (by decide) rfl) (own_kr (by decide) (by decide) rfl)
theorem own_e13 (c s : Int32) (h : c < 128) : m1 c 0 3 (B8 s s s s s s s s) = some (1, (B8 s s s (N c) s s s s)) := by
  show m1_b0 c 0 3 (B8 s s s s s s s s) = _
  unfold m1_b0
  rw [if_pos h]; simp [wr, arr, m1_b171, N]
theorem own_k13 (c s : Int32) : m0_b200 3 s 0 1 1 (B8 s s s (N c) s s s s) = some (1, (B8 s s s (N c) s s s s)) := own_200 (own_kl (by decide) rfl) (own_kl (by decide) rfl) (own_kl (by decide) rfl) (own_km (by decide) (by decide)) (own_kr (by decide) (by decide) rfl) (own_kr (by decide) (by decide) rfl) (own_kr (by decide) (by decide) rfl) (own_kr (by decide) (by decide) rfl)
theorem own_e20 (c s : Int32) (h : ¬ c < 128) (h' : c < 2048) : m1 c 0 0 (B8 s s s s s s s s) = some (2, (B8 (N (192 ||| (c >>> ((6 : Int32) &&& 31)))) (N (128 ||| (c &&& 63))) s s s s s s)) := by
  show m1_b0 c 0 0 (B8 s s s s s s s s) = _
  unfold m1_b0
  rw [if_neg h, if_pos h']; simp [wr, arr, m1_b171, N]
theorem own_k20 (c s : Int32) : m0_b200 0 s 0 2 1 (B8 (N (192 ||| (c >>> ((6 : Int32) &&& 31)))) (N (128 ||| (c &&& 63))) s s s s s s) = some (1, (B8 (N (192 ||| (c >>> ((6 : Int32) &&& 31)))) (N (128 ||| (c &&& 63))) s s s s s s)) := own_200 (own_km (by decide) (by decide)) (own_km (by decide) (by decide)) (own_kr (by decide) (by decide) rfl) (own_kr (by decide) (by decide) rfl) (own_kr (by decide) (by decide) rfl) (own_kr (by decide) (by decide) rfl) (own_kr (by decide) (by decide) rfl) (own_kr (by decide) (by decide) rfl)
theorem own_e21 (c s : Int32) (h : ¬ c < 128) (h' : c < 2048) : m1 c 0 1 (B8 s s s s s s s s) = some (2, (B8 s (N (192 ||| (c >>> ((6 : Int32) &&& 31)))) (N (128 ||| (c &&& 63))) s s s s s)) := by
  show m1_b0 c 0 1 (B8 s s s s s s s s) = _
  unfold m1_b0
  rw [if_neg h, if_pos h']; simp [wr, arr, m1_b171, N]
theorem own_k21 (c s : Int32) : m0_b200 1 s 0 2 1 (B8 s (N (192 ||| (c >>> ((6 : Int32) &&& 31)))) (N (128 ||| (c &&& 63))) s s s s s) = some (1, (B8 s (N (192 ||| (c >>> ((6 : Int32) &&& 31)))) (N (128 ||| (c &&& 63))) s s s s s)) := own_200 (own_kl (by decide) rfl) (own_km (by decide) (by decide)) (own_km (by decide) (by decide)) (own_kr (by decide) (by decide) rfl) (own_kr (by decide) (by decide) rfl) (own_kr (by decide) (by decide) rfl) (own_kr (by decide) (by decide) rfl) (own_kr (by decide) (by decide) rfl)
theorem own_e22 (c s : Int32) (h : ¬ c < 128) (h' : c < 2048) : m1 c 0 2 (B8 s s s s s s s s) = some (2, (B8 s s (N (192 ||| (c >>> ((6 : Int32) &&& 31)))) (N (128 ||| (c &&& 63))) s s s s)) := by
  show m1_b0 c 0 2 (B8 s s s s s s s s) = _
  unfold m1_b0
  rw [if_neg h, if_pos h']; simp [wr, arr, m1_b171, N]
theorem own_k22 (c s : Int32) : m0_b200 2 s 0 2 1 (B8 s s (N (192 ||| (c >>> ((6 : Int32) &&& 31)))) (N (128 ||| (c &&& 63))) s s s s) = some (1, (B8 s s (N (192 ||| (c >>> ((6 : Int32) &&& 31)))) (N (128 ||| (c &&& 63))) s s s s)) := own_200 (own_kl (by decide) rfl) (own_kl (by decide) rfl) (own_km (by decide) (by decide)) (own_km (by decide) (by decide)) (own_kr (by decide) (by decide) rfl) (own_kr (by decide) (by decide) rfl) (own_kr (by decide) (by decide) rfl) (own_kr (by decide) (by decide) rfl)
theorem own_e23 (c s : Int32) (h : ¬ c < 128) (h' : c < 2048) : m1 c 0 3 (B8 s s s s s s s s) = some (2, (B8 s s s (N (192 ||| (c >>> ((6 : Int32) &&& 31)))) (N (128 ||| (c &&& 63))) s s s)) := by
  show m1_b0 c 0 3 (B8 s s s s s s s s) = _
  unfold m1_b0
  rw [if_neg h, if_pos h']; simp [wr, arr, m1_b171, N]
theorem own_k23 (c s : Int32) : m0_b200 3 s 0 2 1 (B8 s s s (N (192 ||| (c >>> ((6 : Int32) &&& 31)))) (N (128 ||| (c &&& 63))) s s s) = some (1, (B8 s s s (N (192 ||| (c >>> ((6 : Int32) &&& 31)))) (N (128 ||| (c &&& 63))) s s s)) := own_200 (own_kl (by decide) rfl) (own_kl (by decide) rfl) (own_kl (by decide) rfl) (own_km (by decide) (by decide)) (own_km (by decide) (by decide)) (own_kr (by decide) (by decide) rfl) (own_kr (by decide) (by decide) rfl) (own_kr (by decide) (by decide) rfl)
theorem own_e30 (c s : Int32) (h : ¬ c < 128) (h' : ¬ c < 2048) (h'' : c < 65536) : m1 c 0 0 (B8 s s s s s s s s) = some (3, (B8 (N (224 ||| (c >>> ((12 : Int32) &&& 31)))) (N (128 ||| ((c >>> ((6 : Int32) &&& 31)) &&& 63))) (N (128 ||| (c &&& 63))) s s s s s)) := by
  show m1_b0 c 0 0 (B8 s s s s s s s s) = _
  unfold m1_b0
  rw [if_neg h, if_neg h', if_pos h'']; simp [wr, arr, m1_b171, N]
theorem own_k30 (c s : Int32) : m0_b200 0 s 0 3 1 (B8 (N (224 ||| (c >>> ((12 : Int32) &&& 31)))) (N (128 ||| ((c >>> ((6 : Int32) &&& 31)) &&& 63))) (N (128 ||| (c &&& 63))) s s s s s) = some (1, (B8 (N (224 ||| (c >>> ((12 : Int32) &&& 31)))) (N (128 ||| ((c >>> ((6 : Int32) &&& 31)) &&& 63))) (N (128 ||| (c &&& 63))) s s s s s)) := own_200 (own_km (by decide) (by decide)) (own_km (by decide) (by decide)) (own_km (by decide) (by decide)) (own_kr (by decide) (by decide) rfl) (own_kr (by decide) (by decide) rfl) (own_kr (by decide) (by decide) rfl) (own_kr (by decide) (by decide) rfl) (own_kr (by decide) (by decide) rfl)
theorem own_e31 (c s : Int32) (h : ¬ c < 128) (h' : ¬ c < 2048) (h'' : c < 65536) : m1 c 0 1 (B8 s s s s s s s s) = some (3, (B8 s (N (224 ||| (c >>> ((12 : Int32) &&& 31)))) (N (128 ||| ((c >>> ((6 : Int32) &&& 31)) &&& 63))) (N (128 ||| (c &&& 63))) s s s s)) := by
  show m1_b0 c 0 1 (B8 s s s s s s s s) = _
  unfold m1_b0
  rw [if_neg h, if_neg h', if_pos h'']; simp [wr, arr, m1_b171, N]
theorem own_k31 (c s : Int32) : m0_b200 1 s 0 3 1 (B8 s (N (224 ||| (c >>> ((12 : Int32) &&& 31)))) (N (128 ||| ((c >>> ((6 : Int32) &&& 31)) &&& 63))) (N (128 ||| (c &&& 63))) s s s s) = some (1, (B8 s (N (224 ||| (c >>> ((12 : Int32) &&& 31)))) (N (128 ||| ((c >>> ((6 : Int32) &&& 31)) &&& 63))) (N (128 ||| (c &&& 63))) s s s s)) := own_200 (own_kl (by decide) rfl) (own_km (by decide) (by decide)) (own_km (by decide) (by decide)) (own_km (by decide) (by decide)) (own_kr (by decide) (by decide) rfl) (own_kr (by decide) (by decide) rfl) (own_kr (by decide) (by decide) rfl) (own_kr (by decide) (by decide) rfl)
theorem own_e32 (c s : Int32) (h : ¬ c < 128) (h' : ¬ c < 2048) (h'' : c < 65536) : m1 c 0 2 (B8 s s s s s s s s) = some (3, (B8 s s (N (224 ||| (c >>> ((12 : Int32) &&& 31)))) (N (128 ||| ((c >>> ((6 : Int32) &&& 31)) &&& 63))) (N (128 ||| (c &&& 63))) s s s)) := by
  show m1_b0 c 0 2 (B8 s s s s s s s s) = _
  unfold m1_b0
  rw [if_neg h, if_neg h', if_pos h'']; simp [wr, arr, m1_b171, N]
theorem own_k32 (c s : Int32) : m0_b200 2 s 0 3 1 (B8 s s (N (224 ||| (c >>> ((12 : Int32) &&& 31)))) (N (128 ||| ((c >>> ((6 : Int32) &&& 31)) &&& 63))) (N (128 ||| (c &&& 63))) s s s) = some (1, (B8 s s (N (224 ||| (c >>> ((12 : Int32) &&& 31)))) (N (128 ||| ((c >>> ((6 : Int32) &&& 31)) &&& 63))) (N (128 ||| (c &&& 63))) s s s)) := own_200 (own_kl (by decide) rfl) (own_kl (by decide) rfl) (own_km (by decide) (by decide)) (own_km (by decide) (by decide)) (own_km (by decide) (by decide)) (own_kr (by decide) (by decide) rfl) (own_kr (by decide) (by decide) rfl) (own_kr (by decide) (by decide) rfl)
theorem own_e33 (c s : Int32) (h : ¬ c < 128) (h' : ¬ c < 2048) (h'' : c < 65536) : m1 c 0 3 (B8 s s s s s s s s) = some (3, (B8 s s s (N (224 ||| (c >>> ((12 : Int32) &&& 31)))) (N (128 ||| ((c >>> ((6 : Int32) &&& 31)) &&& 63))) (N (128 ||| (c &&& 63))) s s)) := by
  show m1_b0 c 0 3 (B8 s s s s s s s s) = _
  unfold m1_b0
  rw [if_neg h, if_neg h', if_pos h'']; simp [wr, arr, m1_b171, N]
theorem own_k33 (c s : Int32) : m0_b200 3 s 0 3 1 (B8 s s s (N (224 ||| (c >>> ((12 : Int32) &&& 31)))) (N (128 ||| ((c >>> ((6 : Int32) &&& 31)) &&& 63))) (N (128 ||| (c &&& 63))) s s) = some (1, (B8 s s s (N (224 ||| (c >>> ((12 : Int32) &&& 31)))) (N (128 ||| ((c >>> ((6 : Int32) &&& 31)) &&& 63))) (N (128 ||| (c &&& 63))) s s)) := own_200 (own_kl (by decide) rfl) (own_kl (by decide) rfl) (own_kl (by decide) rfl) (own_km (by decide) (by decide)) (own_km (by decide) (by decide)) (own_km (by decide) (by decide)) (own_kr (by decide) (by decide) rfl) (own_kr (by decide) (by decide) rfl)
theorem own_e40 (c s : Int32) (h : ¬ c < 128) (h' : ¬ c < 2048) (h'' : ¬ c < 65536) : m1 c 0 0 (B8 s s s s s s s s) = some (4, (B8 (N (240 ||| (c >>> ((18 : Int32) &&& 31)))) (N (128 ||| ((c >>> ((12 : Int32) &&& 31)) &&& 63))) (N (128 ||| ((c >>> ((6 : Int32) &&& 31)) &&& 63))) (N (128 ||| (c &&& 63))) s s s s)) := by
  show m1_b0 c 0 0 (B8 s s s s s s s s) = _
  unfold m1_b0
  rw [if_neg h, if_neg h', if_neg h'']; simp [wr, arr, m1_b171, N]
theorem own_k40 (c s : Int32) : m0_b200 0 s 0 4 1 (B8 (N (240 ||| (c >>> ((18 : Int32) &&& 31)))) (N (128 ||| ((c >>> ((12 : Int32) &&& 31)) &&& 63))) (N (128 ||| ((c >>> ((6 : Int32) &&& 31)) &&& 63))) (N (128 ||| (c &&& 63))) s s s s) = some (1, (B8 (N (240 ||| (c >>> ((18 : Int32) &&& 31)))) (N (128 ||| ((c >>> ((12 : Int32) &&& 31)) &&& 63))) (N (128 ||| ((c >>> ((6 : Int32) &&& 31)) &&& 63))) (N (128 ||| (c &&& 63))) s s s s)) := own_200 (own_km (by decide) (by decide)) (own_km (by decide) (by decide)) (own_km (by decide) (by decide)) (own_km (by decide) (by decide)) (own_kr (by decide) (by decide) rfl) (own_kr (by decide) (by decide) rfl) (own_kr (by decide) (by decide) rfl) (own_kr (by decide) (by decide) rfl)
theorem own_e41 (c s : Int32) (h : ¬ c < 128) (h' : ¬ c < 2048) (h'' : ¬ c < 65536) : m1 c 0 1 (B8 s s s s s s s s) = some (4, (B8 s (N (240 ||| (c >>> ((18 : Int32) &&& 31)))) (N (128 ||| ((c >>> ((12 : Int32) &&& 31)) &&& 63))) (N (128 ||| ((c >>> ((6 : Int32) &&& 31)) &&& 63))) (N (128 ||| (c &&& 63))) s s s)) := by
  show m1_b0 c 0 1 (B8 s s s s s s s s) = _
  unfold m1_b0
  rw [if_neg h, if_neg h', if_neg h'']; simp [wr, arr, m1_b171, N]
theorem own_k41 (c s : Int32) : m0_b200 1 s 0 4 1 (B8 s (N (240 ||| (c >>> ((18 : Int32) &&& 31)))) (N (128 ||| ((c >>> ((12 : Int32) &&& 31)) &&& 63))) (N (128 ||| ((c >>> ((6 : Int32) &&& 31)) &&& 63))) (N (128 ||| (c &&& 63))) s s s) = some (1, (B8 s (N (240 ||| (c >>> ((18 : Int32) &&& 31)))) (N (128 ||| ((c >>> ((12 : Int32) &&& 31)) &&& 63))) (N (128 ||| ((c >>> ((6 : Int32) &&& 31)) &&& 63))) (N (128 ||| (c &&& 63))) s s s)) := own_200 (own_kl (by decide) rfl) (own_km (by decide) (by decide)) (own_km (by decide) (by decide)) (own_km (by decide) (by decide)) (own_km (by decide) (by decide)) (own_kr (by decide) (by decide) rfl) (own_kr (by decide) (by decide) rfl) (own_kr (by decide) (by decide) rfl)
theorem own_e42 (c s : Int32) (h : ¬ c < 128) (h' : ¬ c < 2048) (h'' : ¬ c < 65536) : m1 c 0 2 (B8 s s s s s s s s) = some (4, (B8 s s (N (240 ||| (c >>> ((18 : Int32) &&& 31)))) (N (128 ||| ((c >>> ((12 : Int32) &&& 31)) &&& 63))) (N (128 ||| ((c >>> ((6 : Int32) &&& 31)) &&& 63))) (N (128 ||| (c &&& 63))) s s)) := by
  show m1_b0 c 0 2 (B8 s s s s s s s s) = _
  unfold m1_b0
  rw [if_neg h, if_neg h', if_neg h'']; simp [wr, arr, m1_b171, N]
theorem own_k42 (c s : Int32) : m0_b200 2 s 0 4 1 (B8 s s (N (240 ||| (c >>> ((18 : Int32) &&& 31)))) (N (128 ||| ((c >>> ((12 : Int32) &&& 31)) &&& 63))) (N (128 ||| ((c >>> ((6 : Int32) &&& 31)) &&& 63))) (N (128 ||| (c &&& 63))) s s) = some (1, (B8 s s (N (240 ||| (c >>> ((18 : Int32) &&& 31)))) (N (128 ||| ((c >>> ((12 : Int32) &&& 31)) &&& 63))) (N (128 ||| ((c >>> ((6 : Int32) &&& 31)) &&& 63))) (N (128 ||| (c &&& 63))) s s)) := own_200 (own_kl (by decide) rfl) (own_kl (by decide) rfl) (own_km (by decide) (by decide)) (own_km (by decide) (by decide)) (own_km (by decide) (by decide)) (own_km (by decide) (by decide)) (own_kr (by decide) (by decide) rfl) (own_kr (by decide) (by decide) rfl)
theorem own_e43 (c s : Int32) (h : ¬ c < 128) (h' : ¬ c < 2048) (h'' : ¬ c < 65536) : m1 c 0 3 (B8 s s s s s s s s) = some (4, (B8 s s s (N (240 ||| (c >>> ((18 : Int32) &&& 31)))) (N (128 ||| ((c >>> ((12 : Int32) &&& 31)) &&& 63))) (N (128 ||| ((c >>> ((6 : Int32) &&& 31)) &&& 63))) (N (128 ||| (c &&& 63))) s)) := by
  show m1_b0 c 0 3 (B8 s s s s s s s s) = _
  unfold m1_b0
  rw [if_neg h, if_neg h', if_neg h'']; simp [wr, arr, m1_b171, N]
theorem own_k43 (c s : Int32) : m0_b200 3 s 0 4 1 (B8 s s s (N (240 ||| (c >>> ((18 : Int32) &&& 31)))) (N (128 ||| ((c >>> ((12 : Int32) &&& 31)) &&& 63))) (N (128 ||| ((c >>> ((6 : Int32) &&& 31)) &&& 63))) (N (128 ||| (c &&& 63))) s) = some (1, (B8 s s s (N (240 ||| (c >>> ((18 : Int32) &&& 31)))) (N (128 ||| ((c >>> ((12 : Int32) &&& 31)) &&& 63))) (N (128 ||| ((c >>> ((6 : Int32) &&& 31)) &&& 63))) (N (128 ||| (c &&& 63))) s)) := own_200 (own_kl (by decide) rfl) (own_kl (by decide) rfl) (own_kl (by decide) rfl) (own_km (by decide) (by decide)) (own_km (by decide) (by decide)) (own_km (by decide) (by decide)) (own_km (by decide) (by decide)) (own_kr (by decide) (by decide) rfl)
theorem own_20 (v1 v2 c : Int32) (hc0 : 0 ≤ c.toInt) (hc1 : c.toInt ≤ 1114111) (hs : c.toInt < 55296 ∨ 57343 < c.toInt) : ∃ Hf, m0_b20 v1 v2 c [] = some (1, Hf) := by
  have z128 : (128 : Int32).toInt = 128 := by decide
  have z2048 : (2048 : Int32).toInt = 2048 := by decide
  have z65536 : (65536 : Int32).toInt = 65536 := by decide
  have z0 : (0 : Int32).toInt = 0 := by decide
  have z1 : (1 : Int32).toInt = 1 := by decide
  have z2 : (2 : Int32).toInt = 2 := by decide
  have z3 : (3 : Int32).toInt = 3 := by decide
  have z192 : (192 : Int32).toInt = 192 := by decide
  have z224 : (224 : Int32).toInt = 224 := by decide
  have z240 : (240 : Int32).toInt = 240 := by decide
  have e : m0_b20 v1 v2 c [] = ((m1 c 0 (v1 &&& 3) (B8 (N v2) (N v2) (N v2) (N v2) (N v2) (N v2) (N v2) (N v2))).bind fun q90 => if c < 128 then m0_b136 c (v1 &&& 3) v2.toInt8.toInt32 0 q90.1 1 q90.2 else if c < 2048 then m0_b136 c (v1 &&& 3) v2.toInt8.toInt32 0 q90.1 2 q90.2 else if c < 65536 then m0_b136 c (v1 &&& 3) v2.toInt8.toInt32 0 q90.1 3 q90.2 else m0_b136 c (v1 &&& 3) v2.toInt8.toInt32 0 q90.1 4 q90.2) := by simp [m0_b20, mkArr, wr, arr]
  rw [e, show N v2 = v2.toInt8.toInt32 from own_idem v2]
  generalize v2.toInt8.toInt32 = s
  have hp : v1 &&& 3 = 0 ∨ v1 &&& 3 = 1 ∨ v1 &&& 3 = 2 ∨ v1 &&& 3 = 3 := by
    have h1 : (v1 &&& 3).toInt = v1.toInt % 4 := c_mask v1 3 2 (by decide) (by decide)
    obtain ⟨j, hj⟩ := own_fin (r := v1 &&& 3) (N := 4) (by omega) (by omega) (by decide)
    rw [hj]
    have : ∀ j : Fin 4, (j.1).toInt32 = 0 ∨ (j.1).toInt32 = 1 ∨ (j.1).toInt32 = 2 ∨ (j.1).toInt32 = 3 := by decide +kernel
    exact this j
  generalize v1 &&& 3 = p at *
  clear e
  by_cases h : c < 128
  · rcases hp with rfl | rfl | rfl | rfl
    · rw [own_e10 c s h, Option.bind_some]; dsimp only; rw [if_pos h]; exact ⟨_, own_136a h (show _ = _ from (show rdI .byte _ 0 0 = some (N c) from rfl).trans (by rw [show N c = c.toInt8.toInt32 from own_idem c])) (own_k10 c s)⟩
    · rw [own_e11 c s h, Option.bind_some]; dsimp only; rw [if_pos h]; exact ⟨_, own_136a h (show _ = _ from (show rdI .byte _ 0 1 = some (N c) from rfl).trans (by rw [show N c = c.toInt8.toInt32 from own_idem c])) (own_k11 c s)⟩
    · rw [own_e12 c s h, Option.bind_some]; dsimp only; rw [if_pos h]; exact ⟨_, own_136a h (show _ = _ from (show rdI .byte _ 0 2 = some (N c) from rfl).trans (by rw [show N c = c.toInt8.toInt32 from own_idem c])) (own_k12 c s)⟩
    · rw [own_e13 c s h, Option.bind_some]; dsimp only; rw [if_pos h]; exact ⟨_, own_136a h (show _ = _ from (show rdI .byte _ 0 3 = some (N c) from rfl).trans (by rw [show N c = c.toInt8.toInt32 from own_idem c])) (own_k13 c s)⟩
  · have g := h
    rw [own_lt] at g
    by_cases h' : c < 2048
    · have g' := h'
      rw [own_lt] at g'
      have q := c_ishr c 6 6 (by decide)
      have hL : ((192 : Int32) ||| (c >>> ((6 : Int32) &&& 31))).toInt = 192 + c.toInt / 64 := by
        rw [own_lead (k := 6) 64 (by decide) (by decide) (by omega) (by omega) (by omega) (by omega) (by omega) (by omega)]; omega
      have h1 := own_fol c
      have B0 := own_byte (v := (192 : Int32) ||| (c >>> ((6 : Int32) &&& 31))) (by omega) (by omega)
      have B1 := own_byte (v := (128 : Int32) ||| (c &&& 63)) (by omega) (by omega)
      rcases hp with rfl | rfl | rfl | rfl
      · rw [own_e20 c s h h', Option.bind_some]; dsimp only; rw [if_neg h, if_pos h']; exact ⟨_, own_136 h (own_d2 (p := 0) (by omega) (by omega) (by omega) (by omega) rfl rfl B0 B1 hL h1) (own_k20 c s)⟩
      · rw [own_e21 c s h h', Option.bind_some]; dsimp only; rw [if_neg h, if_pos h']; exact ⟨_, own_136 h (own_d2 (p := 1) (by omega) (by omega) (by omega) (by omega) rfl rfl B0 B1 hL h1) (own_k21 c s)⟩
      · rw [own_e22 c s h h', Option.bind_some]; dsimp only; rw [if_neg h, if_pos h']; exact ⟨_, own_136 h (own_d2 (p := 2) (by omega) (by omega) (by omega) (by omega) rfl rfl B0 B1 hL h1) (own_k22 c s)⟩
      · rw [own_e23 c s h h', Option.bind_some]; dsimp only; rw [if_neg h, if_pos h']; exact ⟨_, own_136 h (own_d2 (p := 3) (by omega) (by omega) (by omega) (by omega) rfl rfl B0 B1 hL h1) (own_k23 c s)⟩
    · have g' := h'
      rw [own_lt] at g'
      have q6 := c_ishr c 6 6 (by decide)
      have h3 := own_fol c
      have h2 := own_fol (c >>> ((6 : Int32) &&& 31))
      rw [q6] at h2
      by_cases h'' : c < 65536
      · have g'' := h''
        rw [own_lt] at g''
        have q := c_ishr c 12 12 (by decide)
        have hL : ((224 : Int32) ||| (c >>> ((12 : Int32) &&& 31))).toInt = 224 + c.toInt / 4096 := by
          rw [own_lead (k := 5) 32 (by decide) (by decide) (by omega) (by omega) (by omega) (by omega) (by omega) (by omega)]; omega
        have B0 := own_byte (v := (224 : Int32) ||| (c >>> ((12 : Int32) &&& 31))) (by omega) (by omega)
        have B1 := own_byte (v := (128 : Int32) ||| ((c >>> ((6 : Int32) &&& 31)) &&& 63)) (by omega) (by omega)
        have B2 := own_byte (v := (128 : Int32) ||| (c &&& 63)) (by omega) (by omega)
        rcases hp with rfl | rfl | rfl | rfl
        · rw [own_e30 c s h h' h'', Option.bind_some]; dsimp only; rw [if_neg h, if_neg h', if_pos h'']; exact ⟨_, own_136 h (own_d3 (p := 0) (by omega) (by omega) (by omega) (by omega) hs rfl rfl rfl B0 B1 B2 hL h2 h3) (own_k30 c s)⟩
        · rw [own_e31 c s h h' h'', Option.bind_some]; dsimp only; rw [if_neg h, if_neg h', if_pos h'']; exact ⟨_, own_136 h (own_d3 (p := 1) (by omega) (by omega) (by omega) (by omega) hs rfl rfl rfl B0 B1 B2 hL h2 h3) (own_k31 c s)⟩
        · rw [own_e32 c s h h' h'', Option.bind_some]; dsimp only; rw [if_neg h, if_neg h', if_pos h'']; exact ⟨_, own_136 h (own_d3 (p := 2) (by omega) (by omega) (by omega) (by omega) hs rfl rfl rfl B0 B1 B2 hL h2 h3) (own_k32 c s)⟩
        · rw [own_e33 c s h h' h'', Option.bind_some]; dsimp only; rw [if_neg h, if_neg h', if_pos h'']; exact ⟨_, own_136 h (own_d3 (p := 3) (by omega) (by omega) (by omega) (by omega) hs rfl rfl rfl B0 B1 B2 hL h2 h3) (own_k33 c s)⟩
      · have g'' := h''
        rw [own_lt] at g''
        have q12 := c_ishr c 12 12 (by decide)
        have q := c_ishr c 18 18 (by decide)
        have h1 := own_fol (c >>> ((12 : Int32) &&& 31))
        rw [q12] at h1
        have hL : ((240 : Int32) ||| (c >>> ((18 : Int32) &&& 31))).toInt = 240 + c.toInt / 262144 := by
          rw [own_lead (k := 4) 16 (by decide) (by decide) (by omega) (by omega) (by omega) (by omega) (by omega) (by omega)]; omega
        have B0 := own_byte (v := (240 : Int32) ||| (c >>> ((18 : Int32) &&& 31))) (by omega) (by omega)
        have B1 := own_byte (v := (128 : Int32) ||| ((c >>> ((12 : Int32) &&& 31)) &&& 63)) (by omega) (by omega)
        have B2 := own_byte (v := (128 : Int32) ||| ((c >>> ((6 : Int32) &&& 31)) &&& 63)) (by omega) (by omega)
        have B3 := own_byte (v := (128 : Int32) ||| (c &&& 63)) (by omega) (by omega)
        rcases hp with rfl | rfl | rfl | rfl
        · rw [own_e40 c s h h' h'', Option.bind_some]; dsimp only; rw [if_neg h, if_neg h', if_neg h'']; exact ⟨_, own_136 h (own_d4 (p := 0) (by omega) (by omega) (by omega) (by omega) rfl rfl rfl rfl B0 B1 B2 B3 hL h1 h2 h3) (own_k40 c s)⟩
        · rw [own_e41 c s h h' h'', Option.bind_some]; dsimp only; rw [if_neg h, if_neg h', if_neg h'']; exact ⟨_, own_136 h (own_d4 (p := 1) (by omega) (by omega) (by omega) (by omega) rfl rfl rfl rfl B0 B1 B2 B3 hL h1 h2 h3) (own_k41 c s)⟩
        · rw [own_e42 c s h h' h'', Option.bind_some]; dsimp only; rw [if_neg h, if_neg h', if_neg h'']; exact ⟨_, own_136 h (own_d4 (p := 2) (by omega) (by omega) (by omega) (by omega) rfl rfl rfl rfl B0 B1 B2 B3 hL h1 h2 h3) (own_k42 c s)⟩
        · rw [own_e43 c s h h' h'', Option.bind_some]; dsimp only; rw [if_neg h, if_neg h', if_neg h'']; exact ⟨_, own_136 h (own_d4 (p := 3) (by omega) (by omega) (by omega) (by omega) rfl rfl rfl rfl B0 B1 B2 B3 hL h1 h2 h3) (own_k43 c s)⟩
theorem plain (i0 : Int32) (i1 : Int32) (i2 : Int32) : ∃ Hf, m0 i0 i1 i2 [] = some (1, Hf) := by
  show ∃ Hf, m0_b0 i0 i1 i2 [] = some (1, Hf)
  have h1 := own_m31 i0
  have h2 := own_mod (a := i0 &&& 2147483647) (y := 1112064) (d := 1112064) (by decide) (by omega)
  have z : (55296 : Int32).toInt = 55296 := by decide
  have z' : (2048 : Int32).toInt = 2048 := by decide
  unfold m0_b0
  generalize (i0 &&& 2147483647) % 1112064 = c at *
  split
  · rename_i g; rw [own_lt] at g; exact own_20 _ _ _ (by omega) (by omega) (by omega)
  · rename_i g; rw [own_lt] at g
    have a := c_iadd c 2048; have a' := rng32 (c + 2048)
    exact own_20 _ _ _ (by omega) (by omega) (by omega)

theorem comes_1 {Post : Tables → Env → Array Value → State → Outcome → State → Prop} (hpost : ∀ tb e args s v u, (limb_1_1.after args s (.returned v) u = true ∧ limb_1_2.after args s (.returned v) u = true ∧ True) → FrameEnd s (.returned v) u (Jvm.fieldLocs frame_1_writes args s ++ Jvm.arrayLocs frame_1_arrays args s ++ Jvm.staticLocs frame_1_statics s) 16 128 → Post tb e args s (.returned v) u) :
    ArmFor flags0 classFile x code maxLocals ret World_1 tables_1 room_1 Calls_1 rest_1 Pre_1 Post := by
  intro l hfl _ _ p e ha hc hk s m args below hf hA hF happ hP
  obtain ⟨hcalls, hrest, hpre⟩ := hP
  obtain ⟨-, -, -, hnamed, -, -, -, hat⟩ := (Spec.applies_iff hf).mp happ
  obtain ⟨hg, hn⟩ := and_e (Cond.before_iff.mp (show (Jvm.Cond.and given_1 narrow_1).before args s = true from hpre))
  obtain ⟨h1, g0⟩ := and_e hg
  obtain ⟨w0, w1, w2, rfl⟩ : ∃ w0 w1 w2 : Value, args = #[w0, w1, w2] := by
    have hs : args.size = 3 := by simpa [Cond.value, given_1] using h1
    obtain ⟨L⟩ := args
    match L, hs with
    | [w0, w1, w2], _ => exact ⟨w0, w1, w2, rfl⟩
  have hw := fun d (hd : d ∈ tables_1) => atoms_spec (ws := Jvm.Cond.code x code maxLocals ret :: tables_1) hat d (List.mem_cons_of_mem _ hd)
  obtain ⟨a0, g1⟩ := and_e g0
  obtain ⟨i0, e0⟩ := is_v a0
  obtain rfl : w0 = (.int i0) := Option.some.inj e0
  obtain ⟨a1, g2⟩ := and_e g1
  obtain ⟨i1, e1⟩ := is_v a1
  obtain rfl : w1 = (.int i1) := Option.some.inj e1
  obtain ⟨i2, e2⟩ := is_v g2
  obtain rfl : w2 = (.int i2) := Option.some.inj e2
  obtain ⟨Hf, hlaw⟩ := plain i0 i1 i2
  obtain ⟨n, o, h1, h2, h3, _, L, rfl, ⟨rfl, N⟩, hq⟩ := law_of (l := l) (s := s) (as := [(.int i0), (.int i1), (.int i2)]) (k0 := 1) (k1 := 8) hw pn0 rfl rfl (fun K O => m0_t0 O i0 i1 i2 [] 1 Hf hlaw) p e ha hc hk s m _ below hf ((Spec.applies_iff_loose hf).mp happ).1 ⟨rfl, State.Warmed39.refl s, rfl⟩ trivial
  refine ⟨n, _, h1, h2, h3, hpost _ _ _ _ _ _ ⟨Cond.after_iff.mpr rfl, Cond.after_iff.mpr (eq_i res_at (Term.int_eval (1)) rfl), trivial⟩ ⟨hq.1, hq.2.1, (hq.2.2.sift fun y hy => Or.inr (N y hy)).mono (by decide) (by decide)⟩⟩
theorem main_1_1 : Claimed_1_1 := comes_1 fun _ _ _ _ _ _ h hF => ⟨h.1, hF⟩
theorem main_1_2 : Claimed_1_2 := comes_1 fun _ _ _ _ _ _ h hF => ⟨h.2.1, hF⟩
end Jvm.Pilot.@@N@@
namespace Jvm.Pilot.@@N@@
open Jvm Jvm.ClassFile Sem Op Lib Jvm.Free Jvm.Stand Jvm.Pilot.@@N@@.Jvm.D
/-! MADE BY PROGRAM (witnessworld.py) out of the Statement's table words and the real class files: 9 classes; the members and pool entries that the words name. The judged class is class 1, her method 2. -/
namespace start1
open Jvm.ClassFile
def u (s : String) : CpInfo := .utf8 (stringToUtf16 s)
/-- a pool by its gaps: so many unusable entries, then the entry; so many at the end -/
def gap : Nat → List CpInfo → List CpInfo
  | 0, r => r
  | n + 1, r => .unusable :: gap n r
def poolList (es : List (Nat × CpInfo)) (last : Nat) : List CpInfo := es.foldr (fun e r => gap e.1 (e.2 :: r)) (gap last [])
def pool (es : List (Nat × CpInfo)) (last : Nat) : Array CpInfo := ⟨poolList es last⟩
def fileOf (pool : Array CpInfo) (this : Nat) (attrs : Array Attribute := #[]) (ms : Array MethodInfo := #[]) (fl : Nat := 33) (sup : Nat := 0) (ifs : Array Nat := #[]) (fds : Array FieldInfo := #[]) : ClassFile where
  minorVersion := 0
  majorVersion := 65
  constantPool := pool
  accessFlags := fl
  thisClass := this
  superClass := sup
  interfaces := ifs
  fields := fds
  methods := ms
  attributes := attrs
def plain (name : String) (sup : Option ClassId) : Class where
  name := name
  kind := .ordinary
  loader := none
  accessFlags := 33
  super := sup
  interfaces := #[]
  cf := none
  fields := #[]
  methods := #[]
  instanceTypes := #[]
  staticTypes := #[]
  resolved := #[]
  callSites := []
  init := .initialized
  statics := none
  mirror := none

def pool0 : Array CpInfo := pool [(5, u "<init>"), (0, u "()V"), (1, .class_ 10), (1, u "java/lang/Object")] 113

def k0m0 : Method := { name := "<init>", desc := "()V", sig := { parameters := [], returnType := none }, accessFlags := 1, code := none }
/-- java/lang/Object -/
def k0 : Class := { plain "java/lang/Object" none with
  accessFlags := 33
  interfaces := #[]
  cf := some (fileOf pool0 8 #[] #[{ accessFlags := 1, nameIndex := 5, descriptorIndex := 6, attributes := #[] }] 33 0 #[] #[])
  fields := #[]
  methods := #[k0m0]
  instanceTypes := #[]
  staticTypes := #[]
  resolved := Array.replicate 124 none
  statics := none }

def pool1 : Array CpInfo := pool [(2, .class_ 4), (1, u "java/lang/Object"), (0, u "<init>"), (0, u "()V"), (0, .integer 2147483647), (0, .integer 1112064), (0, .integer 55296), (0, .methodref 11 12), (0, .class_ 13), (0, .nameAndType 14 15), (0, u "shelfmark/XmlChars"), (0, u "encode"), (0, u "(I[BI)I"), (0, .integer 65536), (0, .methodref 11 18), (0, .nameAndType 19 20), (0, u "decode"), (0, u "([BII)I"), (0, .methodref 22 23), (0, .class_ 24), (0, .nameAndType 25 26), (0, u "shelfmark/XmlCharsEncodePinLaw"), (0, u "keep"), (0, u "([BIIIB)Z"), (3, u "law"), (0, u "(III)Z")] 4

def k1m0 : Method := { name := "<init>", desc := "()V", sig := { parameters := [], returnType := none }, accessFlags := 1, code := none }
def k1c1 : Code := { maxStack := 3, maxLocals := 5, code := method_2_code, exceptionTable := #[], attributes := #[] }
def k1m1 : Method := { name := "keep", desc := "([BIIIB)Z", sig := { parameters := [(.array .byte), .int, .int, .int, .byte], returnType := some .boolean }, accessFlags := 10, code := some k1c1 }
def k1c2 : Code := { maxStack := 5, maxLocals := 10, code := code, exceptionTable := #[], attributes := #[] }
def k1m2 : Method := { name := "law", desc := "(III)Z", sig := { parameters := [.int, .int, .int], returnType := some .boolean }, accessFlags := 9, code := some k1c2 }
/-- shelfmark/XmlCharsEncodePinLaw -/
def k1 : Class := { plain "shelfmark/XmlCharsEncodePinLaw" (some 0) with
  accessFlags := 49
  interfaces := #[]
  cf := some (fileOf pool1 22 #[] #[{ accessFlags := 1, nameIndex := 5, descriptorIndex := 6, attributes := #[] }, { accessFlags := 10, nameIndex := 25, descriptorIndex := 26, attributes := #[] }, { accessFlags := 9, nameIndex := 30, descriptorIndex := 31, attributes := #[] }] 49 2 #[] #[])
  fields := #[]
  methods := #[k1m0, k1m1, k1m2]
  instanceTypes := #[]
  staticTypes := #[]
  resolved := Array.replicate 36 none
  statics := none }

def pool2 : Array CpInfo := pool [(1, .class_ 2), (0, u "shelfmark/XmlChars"), (1, .class_ 6), (1, u "java/lang/Object"), (0, u "<init>"), (0, u "()V"), (0, .integer 65536), (0, .integer 1114111), (0, .integer 55296), (0, .integer 57343), (11, u "NOT_UTF8"), (0, u "I"), (2, u "CUT"), (1, u "LENGTH_BITS"), (1, u "LENGTH_MASK"), (3, u "decode"), (0, u "([BII)I"), (7, u "encode"), (0, u "(I[BI)I")] 2

def k2m0 : Method := { name := "<init>", desc := "()V", sig := { parameters := [], returnType := none }, accessFlags := 2, code := none }
def k2c1 : Code := { maxStack := 3, maxLocals := 9, code := prog_77_method_2_code, exceptionTable := #[], attributes := #[] }
def k2m1 : Method := { name := "decode", desc := "([BII)I", sig := { parameters := [(.array .byte), .int, .int], returnType := some .int }, accessFlags := 8, code := some k2c1 }
def k2c2 : Code := { maxStack := 5, maxLocals := 4, code := prog_77_method_9_code, exceptionTable := #[], attributes := #[] }
def k2m2 : Method := { name := "encode", desc := "(I[BI)I", sig := { parameters := [.int, (.array .byte), .int], returnType := some .int }, accessFlags := 8, code := some k2c2 }
/-- shelfmark/XmlChars -/
def k2 : Class := { plain "shelfmark/XmlChars" (some 0) with
  accessFlags := 48
  interfaces := #[]
  cf := some (fileOf pool2 1 #[] #[{ accessFlags := 2, nameIndex := 7, descriptorIndex := 8, attributes := #[] }, { accessFlags := 8, nameIndex := 36, descriptorIndex := 37, attributes := #[] }, { accessFlags := 8, nameIndex := 45, descriptorIndex := 46, attributes := #[] }] 48 4 #[] #[{ accessFlags := 24, nameIndex := 24, descriptorIndex := 25, attributes := #[] }, { accessFlags := 24, nameIndex := 28, descriptorIndex := 25, attributes := #[] }, { accessFlags := 24, nameIndex := 30, descriptorIndex := 25, attributes := #[] }, { accessFlags := 24, nameIndex := 32, descriptorIndex := 25, attributes := #[] }])
  fields := #[{ name := "NOT_UTF8", type := .int, accessFlags := 24, slot := 0, constantValue := 0 }, { name := "CUT", type := .int, accessFlags := 24, slot := 1, constantValue := 0 }, { name := "LENGTH_BITS", type := .int, accessFlags := 24, slot := 2, constantValue := 0 }, { name := "LENGTH_MASK", type := .int, accessFlags := 24, slot := 3, constantValue := 0 }]
  methods := #[k2m0, k2m1, k2m2]
  instanceTypes := #[]
  staticTypes := #[.int, .int, .int, .int]
  resolved := Array.replicate 49 none
  statics := none }

def pool3 : Array CpInfo := pool [(1, u "java/lang/Cloneable"), (0, .class_ 1), (0, u "java/lang/Object"), (0, .class_ 3)] 3

/-- java/lang/Cloneable -/
def k3 : Class := { plain "java/lang/Cloneable" (some 0) with
  accessFlags := 1537
  interfaces := #[]
  cf := some (fileOf pool3 2 #[] #[] 1537 4 #[] #[])
  fields := #[]
  methods := #[]
  instanceTypes := #[]
  staticTypes := #[]
  resolved := Array.replicate 8 none
  statics := none }

def pool4 : Array CpInfo := pool [(1, u "java/io/Serializable"), (0, .class_ 1), (0, u "java/lang/Object"), (0, .class_ 3)] 3

/-- java/io/Serializable -/
def k4 : Class := { plain "java/io/Serializable" (some 0) with
  accessFlags := 1537
  interfaces := #[]
  cf := some (fileOf pool4 2 #[] #[] 1537 4 #[] #[])
  fields := #[]
  methods := #[]
  instanceTypes := #[]
  staticTypes := #[]
  resolved := Array.replicate 8 none
  statics := none }

/-- the primitive byte -/
def k5 : Class := { plain "byte" none with kind := .primitive 'B', accessFlags := 0x411 }
/-- [B -/
def k6 : Class := { plain "[B" (some 0) with kind := .array 5 .byte, interfaces := #[3, 4], accessFlags := 1041 }

/-- the primitive int -/
def k7 : Class := { plain "int" none with kind := .primitive 'I', accessFlags := 0x411 }
/-- [I -/
def k8 : Class := { plain "[I" (some 0) with kind := .array 7 .int, interfaces := #[3, 4], accessFlags := 1041 }

def heap : Heap := #[]
def classes : Array Class := #[k0, k1, k2, k3, k4, k5, k6, k7, k8]
def interned : List (Array UInt16 × Addr) := []
def slotsUsed : Nat := 0
def theMethod : MethodId := ⟨1, 2⟩
def args0 : Array Value := #[.int 5, .int 5, .int 5]
def aboutOver (below : List Frame) : State where
  vm := { classes := classes, interned := interned.toArray }
  heap := heap
  slotsUsed := slotsUsed
  threads := #[{ frames := .invoking theMethod args0 :: below }]
def below0 : List Frame := [.native { method := ⟨0, 0⟩, args := #[] }]
def about1 : State := aboutOver below0
def p0 : Program := .bare "" "" ""
def e0 : Env := launch0.env 0 0 0
theorem w_frames : about1.frames = Frame.invoking theMethod args0 :: below0 := rfl
set_option maxRecDepth 65536 in
theorem w_args : argsFit about1.vm theMethod args0 = true := by decide +kernel
set_option maxRecDepth 65536 in
theorem w_heap : heapFits about1 = true := by decide +kernel
set_option maxRecDepth 65536 in
theorem w_runnable : about1.curStatus? = some .runnable := by decide +kernel
set_option maxRecDepth 65536 in
theorem w_alone : about1.alone = true := by decide +kernel
set_option maxRecDepth 65536 in
theorem w_named : about1.methodNamed? x = some theMethod := by decide +kernel
set_option maxRecDepth 65536 in
theorem w_hears : about1.hears theMethod below0 = true := by decide +kernel
set_option maxRecDepth 65536 in
theorem w_ripe : about1.ripe theMethod args0 below0 = true := by decide +kernel
theorem w_running : about1.status = .running := rfl
set_option maxRecDepth 65536 in
theorem w_room : about1.hasRoom e0.platform room_1 = true :=
  launch0.hasRoom_least _ room_1 (by decide +kernel) (by decide +kernel) (by decide +kernel) (by decide +kernel) (by decide +kernel) (by decide +kernel)
theorem allAtoms_all (ts : List Jvm.Cond) (a : Array Jvm.Value) (st : Jvm.State) : (allAtoms ts).before a st = ts.all (fun c => c.before a st) := by
  induction ts with
  | nil => rfl
  | cons c t ih =>
    show (Jvm.Cond.and c (allAtoms t)).before a st = _
    rw [Jvm.Cond.before_and, ih, List.all_cons]
def words1 : List Jvm.Cond := Jvm.Cond.code x code maxLocals ret :: tables_1
/-- a 'code' word, met by the world's own term for the bytes: nothing is compared byte by byte -/
theorem code_word {y : MethodName} {bytes : ByteArray} {mx : Nat} {rt : Option FieldType} {a : Array Value} {s : State} {m : MethodId} {meth : Method} {c : Code} (h1 : s.methodNamed? y = some m) (h2 : s.vm.method? m = some meth) (h3 : meth.code = some c) (h4 : c.code = bytes)
    (h5 : (c.maxLocals == mx && c.exceptionTable.isEmpty && decide (c.maxStack ≤ mostOperands) && decide (meth.sig.returnType = rt) && !meth.locks && decide (parseMethodDescriptor y.desc = some meth.sig)) = true) : (Jvm.Cond.code y bytes mx rt).before a s = true := by
  simp only [Bool.and_eq_true, beq_iff_eq, Bool.not_eq_true', decide_eq_true_eq] at h5
  obtain ⟨⟨⟨⟨⟨g1, g2⟩, g3⟩, g4⟩, g5⟩, g6⟩ := h5
  simp [Cond.before, Cond.holds, Cond.value, h1, h2, h3, h4, g1, g2, g3, g4, g5, g6]
def isCode : Jvm.Cond → Bool
  | .code _ _ _ _ => true
  | _ => false
theorem all_split {L : List Jvm.Cond} {P : Jvm.Cond → Bool} (h1 : L.all (fun c => isCode c || P c) = true) (h2 : ∀ c ∈ L.filter isCode, P c = true) : L.all P = true := by
  refine List.all_eq_true.mpr fun c hc => ?_
  have h := List.all_eq_true.mp h1 c hc
  rcases Bool.eq_false_or_eq_true (isCode c) with hi | hi
  · exact h2 c (List.mem_filter.mpr ⟨hc, hi⟩)
  · simpa [hi] using h
set_option maxRecDepth 65536 in
theorem w_c0 : (Jvm.Cond.code x code maxLocals ret).before args0 about1 = true := code_word (m := ⟨1, 2⟩) (meth := k1m2) (c := k1c2) (by decide +kernel) rfl rfl rfl (by decide +kernel)
set_option maxRecDepth 65536 in
theorem w_c1 : (Jvm.Cond.code ({ cls := "shelfmark/XmlChars", name := "encode", desc := "(I[BI)I" } : Jvm.MethodName) prog_77_method_9_code (4 : Nat) (Option.some Jvm.ClassFile.FieldType.int)).before args0 about1 = true := code_word (m := ⟨2, 2⟩) (meth := k2m2) (c := k2c2) (by decide +kernel) rfl rfl rfl (by decide +kernel)
set_option maxRecDepth 65536 in
theorem w_c2 : (Jvm.Cond.code ({ cls := "shelfmark/XmlCharsEncodePinLaw", name := "keep", desc := "([BIIIB)Z" } : Jvm.MethodName) method_2_code (5 : Nat) (Option.some Jvm.ClassFile.FieldType.boolean)).before args0 about1 = true := code_word (m := ⟨1, 1⟩) (meth := k1m1) (c := k1c1) (by decide +kernel) rfl rfl rfl (by decide +kernel)
set_option maxRecDepth 65536 in
theorem w_c3 : (Jvm.Cond.code ({ cls := "shelfmark/XmlChars", name := "decode", desc := "([BII)I" } : Jvm.MethodName) prog_77_method_2_code (9 : Nat) (Option.some Jvm.ClassFile.FieldType.int)).before args0 about1 = true := code_word (m := ⟨2, 1⟩) (meth := k2m1) (c := k2c1) (by decide +kernel) rfl rfl rfl (by decide +kernel)
def codes1 : List Jvm.Cond := [Jvm.Cond.code x code maxLocals ret, Jvm.Cond.code ({ cls := "shelfmark/XmlChars", name := "encode", desc := "(I[BI)I" } : Jvm.MethodName) prog_77_method_9_code (4 : Nat) (Option.some Jvm.ClassFile.FieldType.int), Jvm.Cond.code ({ cls := "shelfmark/XmlCharsEncodePinLaw", name := "keep", desc := "([BIIIB)Z" } : Jvm.MethodName) method_2_code (5 : Nat) (Option.some Jvm.ClassFile.FieldType.boolean), Jvm.Cond.code ({ cls := "shelfmark/XmlChars", name := "decode", desc := "([BII)I" } : Jvm.MethodName) prog_77_method_2_code (9 : Nat) (Option.some Jvm.ClassFile.FieldType.int)]
set_option maxRecDepth 65536 in
theorem codes_eq : words1.filter isCode = codes1 := rfl
theorem w_codes : ∀ c ∈ words1.filter isCode, c.before args0 about1 = true := by
  rw [codes_eq]
  intro c hc
  simp only [codes1, List.mem_cons, List.not_mem_nil, or_false] at hc
  rcases hc with rfl | rfl | rfl | rfl
  · exact w_c0
  · exact w_c1
  · exact w_c2
  · exact w_c3
set_option maxRecDepth 65536 in
theorem w_t1 : words1.all (fun c => isCode c || c.before args0 about1) = true := by decide +kernel
theorem w_tables : (allAtoms (Jvm.Cond.code x code maxLocals ret :: tables_1)).before args0 about1 = true := by
  rw [allAtoms_all]
  show words1.all (fun c => c.before args0 about1) = true
  refine all_split ?_ w_codes
  rw [w_t1]
set_option maxRecDepth 65536 in
theorem w_case : (Jvm.Cond.and given_1 narrow_1).before args0 about1 = true := by decide +kernel
theorem w_applies : (headSpec (Jvm.Cond.code x code maxLocals ret :: tables_1) room_1).applies x e0.platform about1 = true :=
  (Spec.applies_iff w_frames).mpr ⟨w_running, w_runnable, w_alone, w_named, w_hears, w_ripe, w_room, w_tables⟩
theorem atStart : AtStart classFile x code maxLocals ret World_1 tables_1 room_1 Calls_1 rest_1 Pre_1 launch0 p0 e0 about1 theMethod args0 below0 :=
  ⟨lists_1, trivial, launch0.admits_env _ _ _, launch0.least_env, fairChoices_fair.cas, fairChoices_fair.clock, w_frames, w_args, w_heap, w_applies, trivial, trivial, w_case⟩
end start1
theorem witness_1 : WitnessClaimed_1 := ⟨start1.p0, start1.e0, start1.about1, start1.theMethod, start1.args0, start1.below0, start1.atStart⟩
end Jvm.Pilot.@@N@@
