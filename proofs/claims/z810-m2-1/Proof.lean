import JvmDerived
import JvmDerived.Pilot.@@N@@Statement
import JvmDerived.Pilot.@@N@@Code
set_option linter.unusedVariables false
set_option linter.unusedSimpArgs false
set_option maxRecDepth 65536
set_option maxHeartbeats 4000000
namespace Jvm.Pilot.@@N@@
open Jvm Jvm.ClassFile Sem Op Lib Jvm.Free Jvm.Stand Jvm.LawKit Jvm.RoadKit Bundle Jvm.Pilot.@@N@@.Jvm.D
theorem tw0 : Jvm.Cond.constant "shelfmark/XmlCharsDecodePinLaw" (7 : Nat) (2147483647 : Int32) ∈ tables_1 := List.mem_of_getElem? (i := 0) rfl
theorem tw1 : Jvm.Cond.arrayClass FieldType.byte ∈ tables_1 := List.mem_of_getElem? (i := 1) rfl
theorem tw2 : Jvm.Cond.methodLink "shelfmark/XmlCharsDecodePinLaw" (8 : Nat) (⟨"shelfmark/XmlCharsDecodePinLaw", "in", "(III)Z"⟩ : MethodName) ∈ tables_1 := List.mem_of_getElem? (i := 2) rfl
theorem tw3 : Jvm.Cond.static (⟨"shelfmark/XmlCharsDecodePinLaw", "in", "(III)Z"⟩ : MethodName) ∈ tables_1 := List.mem_of_getElem? (i := 3) rfl
theorem tw4 : Jvm.Cond.initialized "shelfmark/XmlCharsDecodePinLaw" ∈ tables_1 := List.mem_of_getElem? (i := 4) rfl
theorem tw5 : Jvm.Cond.code (⟨"shelfmark/XmlCharsDecodePinLaw", "in", "(III)Z"⟩ : MethodName) method_2_code (3 : Nat) (Option.some FieldType.boolean) ∈ tables_1 := List.mem_of_getElem? (i := 5) rfl
theorem tw6 : Jvm.Cond.methodLink "shelfmark/XmlCharsDecodePinLaw" (17 : Nat) (⟨"shelfmark/XmlChars", "decode", "([BII)I"⟩ : MethodName) ∈ tables_1 := List.mem_of_getElem? (i := 6) rfl
theorem tw7 : Jvm.Cond.static (⟨"shelfmark/XmlChars", "decode", "([BII)I"⟩ : MethodName) ∈ tables_1 := List.mem_of_getElem? (i := 7) rfl
theorem tw8 : Jvm.Cond.initialized "shelfmark/XmlChars" ∈ tables_1 := List.mem_of_getElem? (i := 8) rfl
theorem tw9 : Jvm.Cond.code (⟨"shelfmark/XmlChars", "decode", "([BII)I"⟩ : MethodName) prog_77_method_2_code (9 : Nat) (Option.some FieldType.int) ∈ tables_1 := List.mem_of_getElem? (i := 9) rfl
theorem tw10 : Jvm.Cond.constant "shelfmark/XmlChars" (9 : Nat) (65536 : Int32) ∈ tables_1 := List.mem_of_getElem? (i := 10) rfl
theorem tw11 : Jvm.Cond.constant "shelfmark/XmlChars" (10 : Nat) (1114111 : Int32) ∈ tables_1 := List.mem_of_getElem? (i := 11) rfl
theorem tw12 : Jvm.Cond.constant "shelfmark/XmlChars" (11 : Nat) (55296 : Int32) ∈ tables_1 := List.mem_of_getElem? (i := 12) rfl
theorem tw13 : Jvm.Cond.constant "shelfmark/XmlCharsDecodePinLaw" (16 : Nat) (262144 : Int32) ∈ tables_1 := List.mem_of_getElem? (i := 13) rfl
theorem tw14 : Jvm.Cond.constant "shelfmark/XmlChars" (12 : Nat) (57343 : Int32) ∈ tables_1 := List.mem_of_getElem? (i := 14) rfl
def lay (t : Nat) : String × List (String × String) := ("", [])
theorem lay_word (t : Nat) (nd : String × String) (h : nd ∈ (lay t).2) : Jvm.Cond.lays (lay t).1 (lay t).1 nd.1 nd.2 ∈ tables_1 ∨ Jvm.Cond.laysFinal (lay t).1 (lay t).1 nd.1 nd.2 ∈ tables_1 := by simp [lay] at h
theorem lay_parse (t : Nat) (nd : String × String) (h : nd ∈ (lay t).2) : ∃ ty, parseFieldDescriptor nd.2 = some ty := by simp [lay] at h
theorem lay_names (t k k' : Nat) (nd nd' : String × String) (h1 : (lay t).2[k]? = some nd) (h2 : (lay t).2[k']? = some nd') (ne : k ≠ k') : nd.1 ≠ nd'.1 := by simp [lay] at h1
/-! the abstract machine over the library's laws -/
abbrev Obj := Sum (FieldType × List Value) (Nat × List Value)
abbrev Gx := Launch × State × Array Value × Nat
abbrev Kx := Program × Env × Room × State × MethodId × Array Value × List Frame × Method × Code × Nat × Nat
/-- a reference of the model is the number of an own object; the object of number 0 lies at n -/
def sh (n : Nat) : Value → Value
  | .ref i => .ref (n + i)
  | v => v
theorem sh_cat (n : Nat) (v : Value) : (sh n v).category = v.category := by cases v <;> rfl
/-! local variables -/
def Wf (f : Nat → Option Slot) : Prop :=
  (∀ (k : Nat) (v : Value), f k = some (Slot.val v) → v.category = 2 → f (k + 1) = some .second) ∧ (∀ k, f k = some .second → ∃ v : Value, 1 ≤ k ∧ f (k - 1) = some (Slot.val v) ∧ v.category = 2)
def Lrel (n : Nat) (Ls : List (Option Value)) (L : Array Slot) : Prop :=
  L.size = Ls.length ∧ Wf (fun k => L[k]?) ∧ ∀ (k : Nat) (v : Value), Ls[k]? = some (some v) → L[k]? = some (Slot.val (sh n v))
def clr (Ls : List (Option Value)) : Nat → List (Option Value)
  | 0 => Ls
  | j + 1 => match Ls[j]? with
    | some (some w) => if w.category = 2 then Ls.set j none else Ls
    | _ => Ls
def stor (Ls : List (Option Value)) (i : Nat) (v : Value) : Option (List (Option Value)) :=
  if v.category = 2 then (if i + 1 < Ls.length then some (((clr Ls i).set i (some v)).set (i + 1) none) else none) else (if i < Ls.length then some ((clr Ls i).set i (some v)) else none)
theorem wf_gen {f f' : Nat → Option Slot} (hf : Wf f) {i last : Nat} {v : Value} (hl : (v.category = 2 ∧ last = i + 1 ∧ f' (i + 1) = some .second) ∨ (v.category ≠ 2 ∧ last = i)) (h0 : f' i = some (Slot.val v))
    (h1 : ∀ k, k + 1 = i → ∀ w : Value, f k = some (Slot.val w) → w.category = 2 → f' k = some .unset) (h2 : f (last + 1) = some .second → f' (last + 1) = some .unset)
    (h3 : ∀ k, k < i ∨ last < k → f' k = f k ∨ (f' k = some .unset ∧ ((k + 1 = i ∧ ∃ w : Value, f k = some (Slot.val w) ∧ w.category = 2) ∨ (k = last + 1 ∧ f k = some .second)))) : Wf f' := by
  have hc : ∀ k, k = i ∨ (k = i + 1 ∧ last = i + 1 ∧ f' (i + 1) = some .second) ∨ (k < i ∨ last < k) := fun k => by
    rcases hl with ⟨-, a, b⟩ | ⟨-, a⟩
    · by_cases h : k = i; · exact Or.inl h
      by_cases h' : k = i + 1; · exact Or.inr (Or.inl ⟨h', a, b⟩)
      exact Or.inr (Or.inr (by omega))
    · by_cases h : k = i; · exact Or.inl h
      exact Or.inr (Or.inr (by omega))
  have hli : i ≤ last := by omega
  constructor
  · intro k w hk hw
    rcases hc k with rfl | ⟨rfl, -, b⟩ | h
    · rcases hl with ⟨-, -, b⟩ | ⟨a, -⟩
      · exact b
      · rw [h0] at hk; cases hk; exact absurd hw a
    · rw [b] at hk; cases hk
    · rcases h3 k h with q | ⟨q, -⟩
      · rw [q] at hk
        have hs := hf.1 k w hk hw
        by_cases e1 : k + 1 = i
        · have := h1 k e1 w hk hw; rw [q, hk] at this; cases this
        · have h' : k + 1 < i ∨ last < k + 1 := by omega
          rcases h3 (k + 1) h' with q' | ⟨-, ⟨-, w', a, -⟩ | ⟨a, -⟩⟩
          · rw [q']; exact hs
          · rw [hs] at a; cases a
          · omega
      · rw [q] at hk; cases hk
  · intro k hk
    rcases hc k with rfl | ⟨rfl, a, b⟩ | h
    · rw [h0] at hk; cases hk
    · rcases hl with ⟨c, -, -⟩ | ⟨-, c⟩
      · exact ⟨v, by omega, by simpa using h0, c⟩
      · omega
    · rcases h3 k h with q | ⟨q, -⟩
      · rw [q] at hk
        obtain ⟨w, k1, hw, hw2⟩ := hf.2 k hk
        by_cases e1 : k = last + 1
        · subst e1; have := h2 hk; rw [q, hk] at this; cases this
        · have h' : k - 1 < i ∨ last < k - 1 := by
            rcases h with h | h
            · exact Or.inl (by omega)
            · exact Or.inr (by omega)
          rcases h3 (k - 1) h' with q' | ⟨-, ⟨a, -⟩ | ⟨a, b⟩⟩
          · exact ⟨w, k1, by rw [q']; exact hw, hw2⟩
          · have : k = i := by omega
            omega
          · rw [hw] at b; cases b
      · rw [q] at hk; cases hk
theorem clr_get {Ls : List (Option Value)} {i k : Nat} {w : Value} (h : (clr Ls i)[k]? = some (some w)) : Ls[k]? = some (some w) ∧ (k + 1 = i → w.category ≠ 2) := by
  cases i with
  | zero => exact ⟨h, fun q => by omega⟩
  | succ j =>
    simp only [clr] at h
    split at h
    · rename_i w' hw'
      split at h
      · rename_i h2
        by_cases e : j = k
        · subst e; rw [List.getElem?_set] at h; simp at h
        · rw [List.getElem?_set_ne e] at h; exact ⟨h, fun q => by omega⟩
      · rename_i h2
        refine ⟨h, fun q => ?_⟩
        have : j = k := by omega
        subst this; rw [hw'] at h; cases h; exact h2
    · rename_i hn
      refine ⟨h, fun q => ?_⟩
      have : j = k := by omega
      subst this; exact absurd h (hn w)
theorem clr_len (Ls : List (Option Value)) (i : Nat) : (clr Ls i).length = Ls.length := by
  cases i with
  | zero => rfl
  | succ j => simp only [clr]; split <;> (try split) <;> simp
theorem lrel_gen {n : Nat} {Ls Ls' : List (Option Value)} {L L' : Array Slot} {i last : Nat} {v : Value} (h : Lrel n Ls L) (hsz : L'.size = L.size) (hlen : Ls'.length = Ls.length)
    (hl : (v.category = 2 ∧ last = i + 1 ∧ L'[i + 1]? = some .second) ∨ (v.category ≠ 2 ∧ last = i)) (h0 : L'[i]? = some (Slot.val (sh n v)))
    (h1 : ∀ k, k + 1 = i → ∀ w : Value, L[k]? = some (Slot.val w) → w.category = 2 → L'[k]? = some .unset) (h2 : L[last + 1]? = some .second → L'[last + 1]? = some .unset)
    (h3 : ∀ k, k < i ∨ last < k → L'[k]? = L[k]? ∨ (L'[k]? = some .unset ∧ ((k + 1 = i ∧ ∃ w : Value, L[k]? = some (Slot.val w) ∧ w.category = 2) ∨ (k = last + 1 ∧ L[k]? = some .second))))
    (hs : ∀ k w, Ls'[k]? = some (some w) → (k = i ∧ w = v) ∨ ((k < i ∨ last < k) ∧ Ls[k]? = some (some w) ∧ (k + 1 = i → w.category ≠ 2))) : Lrel n Ls' L' := by
  refine ⟨by rw [hsz, hlen]; exact h.1, wf_gen (f := fun k => L[k]?) (f' := fun k => L'[k]?) (v := sh n v) h.2.1 (by rw [sh_cat]; exact hl) h0 h1 h2 h3, fun k w hk => ?_⟩
  rcases hs k w hk with ⟨rfl, rfl⟩ | ⟨a, b, c⟩
  · exact h0
  · have hb := h.2.2 k w b
    rcases h3 k a with q | ⟨-, ⟨q, w', r1, r2⟩ | ⟨-, r⟩⟩
    · rw [q]; exact hb
    · rw [hb] at r1; cases r1; exact absurd (by rw [← sh_cat n w]; exact r2) (c q)
    · rw [hb] at r; cases r
theorem get_set (L : Array Slot) (i j : Nat) (x : Slot) (hi : i < L.size) : (L.setIfInBounds i x)[j]? = if i = j then some x else L[j]? := by
  rw [Array.getElem?_setIfInBounds]; simp [hi]
theorem store_1 {n : Nat} {Ls Ls' : List (Option Value)} {L : Array Slot} {i : Nat} {v : Value} (h : Lrel n Ls L) (hc : v.category = 1) (hl : stor Ls i v = some Ls') : ∃ L', storeLocals L i (sh n v) = some L' ∧ Lrel n Ls' L' := by
  have hc2 : ¬ v.category = 2 := by omega
  simp only [stor, hc2, if_false] at hl
  have hi : i < Ls.length := Decidable.byContradiction fun hi => by rw [if_neg hi] at hl; cases hl
  rw [if_pos hi] at hl
  cases hl
  have hiL : i < L.size := by rw [h.1]; exact hi
  have hcs : (sh n v).category = 1 := (sh_cat n v).trans hc
  have hs : ∀ k w, ((clr Ls i).set i (some v))[k]? = some (some w) → (k = i ∧ w = v) ∨ ((k < i ∨ i < k) ∧ Ls[k]? = some (some w) ∧ (k + 1 = i → w.category ≠ 2)) := fun k w hk => by
    by_cases e : i = k
    · subst e
      rw [List.getElem?_set_self (by rw [clr_len]; exact hi)] at hk
      cases hk; exact Or.inl ⟨rfl, rfl⟩
    · rw [List.getElem?_set_ne e] at hk
      exact Or.inr ⟨by omega, clr_get hk⟩
  have hlen : ((clr Ls i).set i (some v)).length = Ls.length := by simp [clr_len]
  have hgo : L[i]? = some L[i] := Array.getElem?_eq_getElem hiL
  cases hq : L[i] with
  | unset =>
    rw [hq] at hgo
    refine ⟨L.setIfInBounds i (.val (sh n v)), by simp [storeLocals, storeSelf, setAt, hgo, hcs, hiL, hq], lrel_gen (i := i) (last := i) (v := v) h (by simp) hlen (Or.inr ⟨hc2, rfl⟩) ?_ ?_ ?_ ?_ hs⟩
    · rw [get_set _ _ _ _ hiL]; simp
    · intro k hk w hw hw2; have := h.2.1.1 k w hw hw2; simp only [hk] at this; rw [hgo] at this; cases this
    · intro hk; obtain ⟨w, -, a, -⟩ := h.2.1.2 _ hk; simp only [Nat.add_sub_cancel] at a; rw [hgo] at a; cases a
    · intro k hk; left; rw [get_set _ _ _ _ hiL, if_neg (by omega)]
  | second =>
    rw [hq] at hgo
    obtain ⟨w0, i1, hw0, hw2⟩ := h.2.1.2 _ hgo
    simp only at hw0
    have hi1 : i - 1 < L.size := by omega
    refine ⟨(L.setIfInBounds (i - 1) .unset).setIfInBounds i (.val (sh n v)), by simp [storeLocals, storeSelf, setAt, hgo, hcs, hiL, hi1, hq], lrel_gen (i := i) (last := i) (v := v) h (by simp) hlen (Or.inr ⟨hc2, rfl⟩) ?_ ?_ ?_ ?_ hs⟩
    · rw [get_set _ _ _ _ (by simpa using hiL)]; simp
    · intro k hk w hw hw2'; rw [get_set _ _ _ _ (by simpa using hiL), get_set _ _ _ _ hi1, if_neg (by omega), if_pos (by omega)]
    · intro hk; obtain ⟨w, -, a, -⟩ := h.2.1.2 _ hk; simp only [Nat.add_sub_cancel] at a; rw [hgo] at a; cases a
    · intro k hk; rw [get_set _ _ _ _ (by simpa using hiL), get_set _ _ _ _ hi1, if_neg (by omega)]
      by_cases e : i - 1 = k
      · subst e; rw [if_pos rfl]; exact Or.inr ⟨rfl, Or.inl ⟨by omega, w0, hw0, hw2⟩⟩
      · rw [if_neg e]; exact Or.inl rfl
  | val old =>
    rw [hq] at hgo
    have hnl : ∀ k, k + 1 = i → ∀ w : Value, L[k]? = some (Slot.val w) → w.category = 2 → False := fun k hk w hw hw2 => by
      have := h.2.1.1 k w hw hw2; simp only [hk] at this; rw [hgo] at this; cases this
    by_cases ho : old.category = 2
    · have hn : L[i + 1]? = some .second := h.2.1.1 i old hgo ho
      have hi1 : i + 1 < L.size := (Array.getElem?_eq_some_iff.mp hn).1
      refine ⟨(L.setIfInBounds (i + 1) .unset).setIfInBounds i (.val (sh n v)), by simp [storeLocals, storeSelf, setAt, hgo, hcs, hiL, hi1, ho, hq], lrel_gen (i := i) (last := i) (v := v) h (by simp) hlen (Or.inr ⟨hc2, rfl⟩) ?_ ?_ ?_ ?_ hs⟩
      · rw [get_set _ _ _ _ (by simpa using hiL)]; simp
      · intro k hk w hw hw2; exact (hnl k hk w hw hw2).elim
      · intro _; rw [get_set _ _ _ _ (by simpa using hiL), get_set _ _ _ _ hi1, if_neg (by omega), if_pos rfl]
      · intro k hk; rw [get_set _ _ _ _ (by simpa using hiL), get_set _ _ _ _ hi1, if_neg (by omega)]
        by_cases e : i + 1 = k
        · subst e; rw [if_pos rfl]; exact Or.inr ⟨rfl, Or.inr ⟨rfl, hn⟩⟩
        · rw [if_neg e]; exact Or.inl rfl
    · refine ⟨L.setIfInBounds i (.val (sh n v)), by simp [storeLocals, storeSelf, setAt, hgo, hcs, hiL, ho, hq], lrel_gen (i := i) (last := i) (v := v) h (by simp) hlen (Or.inr ⟨hc2, rfl⟩) ?_ ?_ ?_ ?_ hs⟩
      · rw [get_set _ _ _ _ hiL]; simp
      · intro k hk w hw hw2; exact (hnl k hk w hw hw2).elim
      · intro hk; obtain ⟨w, -, a, b⟩ := h.2.1.2 _ hk; simp only [Nat.add_sub_cancel] at a; rw [hgo] at a; cases a; exact absurd b ho
      · intro k hk; left; rw [get_set _ _ _ _ hiL, if_neg (by omega)]
/-- the second half of a long's store -/
theorem self_2 {l : Array Slot} {i : Nat} {v : Value} (hc : v.category = 2) (h1 : i + 1 < l.size) (hw : ∀ w : Value, l[i + 1]? = some (Slot.val w) → w.category = 2 → i + 2 < l.size) :
    ∃ l', storeSelf l i v = some l' ∧ l'.size = l.size ∧ l'[i]? = some (Slot.val v) ∧ l'[i + 1]? = some .second ∧ (∀ k, k < i ∨ i + 2 < k → l'[k]? = l[k]?) ∧
      ((∃ w : Value, l[i + 1]? = some (Slot.val w) ∧ w.category = 2) ∧ l'[i + 2]? = some .unset ∨ (¬ ∃ w : Value, l[i + 1]? = some (Slot.val w) ∧ w.category = 2) ∧ l'[i + 2]? = l[i + 2]?) := by
  have hi : i < l.size := by omega
  have hgo : l[i + 1]? = some l[i + 1] := Array.getElem?_eq_getElem h1
  have hgo' : (l.setIfInBounds i (.val v))[i + 1]? = some l[i + 1] := by rw [get_set _ _ _ _ hi, if_neg (by omega)]; exact hgo
  by_cases hx : ∃ w : Value, l[i + 1]? = some (Slot.val w) ∧ w.category = 2
  · obtain ⟨w, a, b⟩ := hx
    have h2 := hw w a b
    have e : l[i + 1] = .val w := Option.some.inj (hgo.symm.trans a)
    refine ⟨((l.setIfInBounds i (.val v)).setIfInBounds (i + 2) .unset).setIfInBounds (i + 1) .second, ?_, by simp, ?_, ?_, ?_, Or.inl ⟨⟨w, a, b⟩, ?_⟩⟩
    · rw [e] at hgo'
      simp [storeSelf, setAt, hi, hc, hgo', b, h1, h2, e]
    · rw [get_set _ _ _ _ (by simpa using h1), if_neg (by omega), get_set _ _ _ _ (by simpa using h2), if_neg (by omega), get_set _ _ _ _ hi, if_pos rfl]
    · rw [get_set _ _ _ _ (by simpa using h1), if_pos rfl]
    · intro k hk; rw [get_set _ _ _ _ (by simpa using h1), if_neg (by omega), get_set _ _ _ _ (by simpa using h2), if_neg (by omega), get_set _ _ _ _ hi, if_neg (by omega)]
    · rw [get_set _ _ _ _ (by simpa using h1), if_neg (by omega), get_set _ _ _ _ (by simpa using h2), if_pos rfl]
  · refine ⟨(l.setIfInBounds i (.val v)).setIfInBounds (i + 1) .second, ?_, by simp, ?_, ?_, ?_, Or.inr ⟨hx, ?_⟩⟩
    · cases e : l[i + 1] with
      | unset => rw [e] at hgo'; simp [storeSelf, setAt, hi, hc, hgo', h1, e]
      | second => rw [e] at hgo'; simp [storeSelf, setAt, hi, hc, hgo', h1, e]
      | val w =>
        rw [e] at hgo' hgo
        have hn : ¬ w.category = 2 := fun q => hx ⟨w, hgo, q⟩
        simp [storeSelf, setAt, hi, hc, hgo', h1, hn, e]
    · rw [get_set _ _ _ _ (by simpa using h1), if_neg (by omega), get_set _ _ _ _ hi, if_pos rfl]
    · rw [get_set _ _ _ _ (by simpa using h1), if_pos rfl]
    · intro k hk; rw [get_set _ _ _ _ (by simpa using h1), if_neg (by omega), get_set _ _ _ _ hi, if_neg (by omega)]
    · rw [get_set _ _ _ _ (by simpa using h1), if_neg (by omega), get_set _ _ _ _ hi, if_neg (by omega)]
theorem store_2 {n : Nat} {Ls Ls' : List (Option Value)} {L : Array Slot} {i : Nat} {v : Value} (h : Lrel n Ls L) (hc : v.category = 2) (hl : stor Ls i v = some Ls') : ∃ L', storeLocals L i (sh n v) = some L' ∧ Lrel n Ls' L' := by
  simp only [stor, hc, if_true] at hl
  have hi : i + 1 < Ls.length := Decidable.byContradiction fun hi => by rw [if_neg hi] at hl; cases hl
  rw [if_pos hi] at hl
  cases hl
  have hiL : i + 1 < L.size := by rw [h.1]; exact hi
  have hi0 : i < L.size := by omega
  have hcs : (sh n v).category = 2 := (sh_cat n v).trans hc
  have hs : ∀ k w, (((clr Ls i).set i (some v)).set (i + 1) none)[k]? = some (some w) → (k = i ∧ w = v) ∨ ((k < i ∨ i + 1 < k) ∧ Ls[k]? = some (some w) ∧ (k + 1 = i → w.category ≠ 2)) := fun k w hk => by
    by_cases e' : i + 1 = k
    · subst e'
      rw [List.getElem?_set_self (by simp [clr_len]; exact hi)] at hk
      cases hk
    · rw [List.getElem?_set_ne e'] at hk
      by_cases e : i = k
      · subst e
        rw [List.getElem?_set_self (by rw [clr_len]; omega)] at hk
        cases hk; exact Or.inl ⟨rfl, rfl⟩
      · rw [List.getElem?_set_ne e] at hk
        exact Or.inr ⟨by omega, clr_get hk⟩
  have hlen : (((clr Ls i).set i (some v)).set (i + 1) none).length = Ls.length := by simp [clr_len]
  have hgo : L[i]? = some L[i] := Array.getElem?_eq_getElem hi0
  have hW := h.2.1
  -- the first half: l1
  have key : ∃ l1, storeLocals L i (sh n v) = storeSelf l1 i (sh n v) ∧ l1.size = L.size ∧ (∀ k, k + 1 = i → ∀ w : Value, L[k]? = some (Slot.val w) → w.category = 2 → l1[k]? = some .unset) ∧
      (∀ k, k < i ∨ i + 1 < k → l1[k]? = L[k]? ∨ (l1[k]? = some .unset ∧ k + 1 = i ∧ ∃ w : Value, L[k]? = some (Slot.val w) ∧ w.category = 2)) ∧
      ((∃ w : Value, l1[i + 1]? = some (Slot.val w) ∧ w.category = 2) → L[i + 1]? = l1[i + 1]?) ∧ (L[i + 1]? = l1[i + 1]? ∨ L[i + 1]? = some .second) := by
    cases hq : L[i] with
    | unset =>
      rw [hq] at hgo
      refine ⟨L, by simp [storeLocals, hgo, hq], rfl, ?_, fun k _ => Or.inl rfl, fun _ => rfl, Or.inl rfl⟩
      intro k hk w hw hw2; have := hW.1 k w hw hw2; simp only [hk] at this; rw [hgo] at this; cases this
    | second =>
      rw [hq] at hgo
      obtain ⟨w0, i1, hw0, hw2⟩ := hW.2 _ hgo
      simp only at hw0
      have hi1 : i - 1 < L.size := by omega
      refine ⟨L.setIfInBounds (i - 1) .unset, by simp [storeLocals, setAt, hgo, hi1, hq], by simp, ?_, ?_, fun _ => by rw [get_set _ _ _ _ hi1, if_neg (by omega)], Or.inl (by rw [get_set _ _ _ _ hi1, if_neg (by omega)])⟩
      · intro k hk w hw hw2'; rw [get_set _ _ _ _ hi1, if_pos (by omega)]
      · intro k hk; rw [get_set _ _ _ _ hi1]
        by_cases e : i - 1 = k
        · subst e; rw [if_pos rfl]; exact Or.inr ⟨rfl, by omega, w0, hw0, hw2⟩
        · rw [if_neg e]; exact Or.inl rfl
    | val old =>
      rw [hq] at hgo
      have hnl : ∀ k, k + 1 = i → ∀ w : Value, L[k]? = some (Slot.val w) → w.category = 2 → False := fun k hk w hw hw2 => by
        have := hW.1 k w hw hw2; simp only [hk] at this; rw [hgo] at this; cases this
      by_cases ho : old.category = 2
      · have hn : L[i + 1]? = some .second := hW.1 i old hgo ho
        refine ⟨L.setIfInBounds (i + 1) .unset, by simp [storeLocals, setAt, hgo, hiL, ho, hq], by simp, fun k hk w hw hw2 => (hnl k hk w hw hw2).elim, ?_, ?_, Or.inr hn⟩
        · intro k hk; left; rw [get_set _ _ _ _ hiL, if_neg (by omega)]
        · rintro ⟨w, a, -⟩; rw [get_set _ _ _ _ hiL, if_pos rfl] at a; cases a
      · exact ⟨L, by simp [storeLocals, hgo, ho, hq], rfl, fun k hk w hw hw2 => (hnl k hk w hw hw2).elim, fun k _ => Or.inl rfl, fun _ => rfl, Or.inl rfl⟩
  obtain ⟨l1, k1, k2, k3, k4, k5, k6⟩ := key
  have hw2 : ∀ w : Value, l1[i + 1]? = some (Slot.val w) → w.category = 2 → i + 2 < l1.size := fun w a b => by
    have e := k5 ⟨w, a, b⟩
    rw [a] at e
    have := hW.1 (i + 1) w e b
    rw [k2]; exact (Array.getElem?_eq_some_iff.mp this).1
  obtain ⟨l', s1, s2, s3, s4, s5, s6⟩ := self_2 (v := sh n v) hcs (by rw [k2]; exact hiL) hw2
  refine ⟨l', by rw [k1]; exact s1, lrel_gen (i := i) (last := i + 1) (v := v) h (by rw [s2, k2]) hlen (Or.inl ⟨hc, rfl, s4⟩) s3 ?_ ?_ ?_ hs⟩
  · intro k hk w hw hw2'; rw [s5 k (by omega)]; exact k3 k hk w hw hw2'
  · intro hk
    obtain ⟨w, -, a, b⟩ := hW.2 _ hk
    simp only [Nat.add_sub_cancel] at a
    rcases s6 with ⟨-, q⟩ | ⟨q, -⟩
    · exact q
    · rcases k6 with k6 | k6
      · exact absurd ⟨w, by rw [← k6]; exact a, b⟩ q
      · rw [a] at k6; cases k6
  · intro k hk
    by_cases e : k = i + 2
    · subst e
      rcases s6 with ⟨⟨w, a, b⟩, q⟩ | ⟨-, q⟩
      · have e := k5 ⟨w, a, b⟩
        rw [a] at e
        exact Or.inr ⟨q, Or.inr ⟨rfl, hW.1 (i + 1) w e b⟩⟩
      · rcases k4 (i + 2) (by omega) with r | ⟨-, r, -⟩
        · left; rw [q, r]
        · omega
    · rw [s5 k (by omega)]
      rcases k4 k hk with r | ⟨r1, r2, r3⟩
      · exact Or.inl r
      · exact Or.inr ⟨r1, Or.inl ⟨r2, r3⟩⟩
/-! the entry -/
def aloc1 : List Value → List (Option Value)
  | [] => []
  | v :: r => if v.category = 2 then some v :: none :: aloc1 r else some v :: aloc1 r
def aloc (as : List Value) (maxL : Nat) : List (Option Value) := aloc1 as ++ List.replicate (maxL - (aloc1 as).length) none
def aslot : List Value → List Slot
  | [] => []
  | v :: r => if v.category = 2 then .val v :: .second :: aslot r else .val v :: aslot r
theorem aslot_eq (as : List Value) : ∀ acc : Array Slot, as.foldl (fun acc v => if v.category = 2 then (acc.push (Slot.val v)).push Slot.second else acc.push (Slot.val v)) acc = acc ++ (aslot as).toArray := by
  induction as with
  | nil => intro acc; simp [aslot]
  | cons v r ih =>
    intro acc
    rw [List.foldl_cons, ih]
    simp only [aslot]
    split <;> (apply Array.ext'; simp)
theorem aslot_len (n : Nat) (as : List Value) : (aslot (as.map (sh n))).length = (aloc1 as).length := by
  induction as with
  | nil => rfl
  | cons v r ih => simp only [List.map_cons, aslot, aloc1, sh_cat]; split <;> simp [ih]
theorem aslot_wf (as : List Value) : (∀ (k : Nat) (v : Value), (aslot as)[k]? = some (Slot.val v) → v.category = 2 → (aslot as)[k + 1]? = some .second) ∧ (∀ k, (aslot as)[k]? = some .second → ∃ v : Value, 1 ≤ k ∧ (aslot as)[k - 1]? = some (Slot.val v) ∧ v.category = 2) := by
  induction as with
  | nil => constructor <;> intro k <;> simp [aslot]
  | cons v r ih =>
    simp only [aslot]
    by_cases h : v.category = 2
    · rw [if_pos h]
      constructor
      · intro k w hk hw
        match k, hk with
        | 0, hk => rfl
        | 1, hk => simp at hk
        | k + 2, hk => simpa using ih.1 k w (by simpa using hk) hw
      · intro k hk
        match k, hk with
        | 0, hk => simp at hk
        | 1, hk => exact ⟨v, by omega, by simp, h⟩
        | k + 2, hk =>
          obtain ⟨w, a, b, c⟩ := ih.2 k (by simpa using hk)
          match k, a, b with
          | k + 1, a, b => exact ⟨w, by omega, by simpa using b, c⟩
    · rw [if_neg h]
      constructor
      · intro k w hk hw
        match k, hk with
        | 0, hk => simp at hk; subst hk; exact absurd hw h
        | k + 1, hk => simpa using ih.1 k w (by simpa using hk) hw
      · intro k hk
        match k, hk with
        | 0, hk => simp at hk
        | k + 1, hk =>
          obtain ⟨w, a, b, c⟩ := ih.2 k (by simpa using hk)
          match k, a, b with
          | k + 1, a, b => exact ⟨w, by omega, by simpa using b, c⟩
theorem aslot_val (n : Nat) (as : List Value) : ∀ (k : Nat) (v : Value), (aloc1 as)[k]? = some (some v) → (aslot (as.map (sh n)))[k]? = some (Slot.val (sh n v)) := by
  induction as with
  | nil => intro k v; simp [aloc1]
  | cons v r ih =>
    intro k w
    simp only [aloc1, List.map_cons, aslot, sh_cat]
    split
    · match k with
      | 0 => simp; intro h; rw [h]
      | 1 => simp
      | k + 2 => simpa using ih k w
    · match k with
      | 0 => simp; intro h; rw [h]
      | k + 1 => simpa using ih k w
theorem entry_rel (n : Nat) (as : List Value) (maxL : Nat) : Lrel n (aloc as maxL) (argsToLocals (as.map (sh n)).toArray maxL) := by
  have e : argsToLocals (as.map (sh n)).toArray maxL = (aslot (as.map (sh n)) ++ List.replicate (maxL - (aloc1 as).length) Slot.unset).toArray := by
    unfold argsToLocals
    simp only [List.foldl_toArray']
    rw [aslot_eq]
    apply Array.ext'
    simp [aslot_len]
  rw [e]
  have hl := aslot_len n as
  refine ⟨by simp [aloc, hl], ?_, ?_⟩
  · have hw := aslot_wf (as.map (sh n))
    constructor
    · intro k v hk hv
      simp only [List.getElem?_toArray] at hk ⊢
      by_cases h : k < (aslot (as.map (sh n))).length
      · rw [List.getElem?_append_left h] at hk
        have q := hw.1 k v hk hv
        rw [List.getElem?_append_left (List.getElem?_eq_some_iff.mp q).1]; exact q
      · rw [List.getElem?_append_right (by omega), List.getElem?_replicate] at hk
        split at hk <;> cases hk
    · intro k hk
      simp only [List.getElem?_toArray] at hk ⊢
      by_cases h : k < (aslot (as.map (sh n))).length
      · rw [List.getElem?_append_left h] at hk
        obtain ⟨v, a, b, c⟩ := hw.2 k hk
        exact ⟨v, a, by rw [List.getElem?_append_left (List.getElem?_eq_some_iff.mp b).1]; exact b, c⟩
      · rw [List.getElem?_append_right (by omega), List.getElem?_replicate] at hk
        split at hk <;> cases hk
  · intro k v hk
    simp only [List.getElem?_toArray]
    simp only [aloc] at hk
    by_cases h : k < (aloc1 as).length
    · rw [List.getElem?_append_left h] at hk
      rw [List.getElem?_append_left (by rw [hl]; exact h)]; exact aslot_val n as k v hk
    · rw [List.getElem?_append_right (by omega), List.getElem?_replicate] at hk
      split at hk <;> cases hk
/-! the heap -/
def ObjOk (Z : State) (n : Nat) (h : Heap) (a : Addr) : Obj → Prop
  | .inl (ty, vs) => Exa Z h a ("[" ++ ty.toString) ∧ ∃ c : Cell, Arr Z h a c ty ∧ c.slots = (vs.map (sh n)).toArray
  | .inr (t, vs) => Exa Z h a (lay t).1 ∧ vs.length = (lay t).2.length ∧ ∀ (k : Nat) (nd : String × String) (v : Value), (lay t).2[k]? = some nd → vs[k]? = some v → Fld Z h a (lay t).1 nd.1 nd.2 (sh n v)
def Sim (G : Gx) (H : List Obj) (h : Heap) : Prop := h.size = G.2.2.2 + H.length ∧ ∀ (i : Nat) (o : Obj), H[i]? = some o → ObjOk G.2.1 G.2.2.2 h (G.2.2.2 + i) o
def Done (G : Gx) (K : Kx) (rv : Option Value) (Hf : List Obj) (S0 : State) : Prop := match G, K with
  | (l, Z, a0, n), (p, e, R, s, m, args, below, meth, c, kc, ks) =>
    ∃ t o, Steps p.tables e below S0 t ∧ t.status = .running ∧ Ended t below o ∧ ∃ v L, o = .returned v ∧ (v = rv.map (sh n) ∧ Fr n L ∧ Sim (l, Z, a0, n) Hf t.heap ∧ s.heap.size + kc = n + Hf.length) ∧ FrameEnd s o t L kc ks
def Run (G : Gx) (K : Kx) (rv : Option Value) (Hf : List Obj) (pc : Nat) (Ls : List (Option Value)) (st : List Value) (H : List Obj) (cells slots : Nat) : Prop := match G, K with
  | (l, Z, a0, n), (p, e, R, s, m, args, below, meth, c, kc, ks) => ∀ T locs real, Stand p l e R s m args below meth c T locs cells slots → Fr n locs → Sim (l, Z, a0, n) H T.heap → s.heap.size + cells = n + H.length → Lrel n Ls real →
    Done (l, Z, a0, n) (p, e, R, s, m, args, below, meth, c, kc, ks) rv Hf (T.setTop (mkF m pc real (st.map (sh n))))
def Ok (G : Gx) (K : Kx) (own : String) (bytes : ByteArray) (maxL : Nat) (ret : Option FieldType) (R : Room) (mn : String) (kc ks : Nat) : Prop := match G, K with
  | (l, Z, a0, n), (p, e, R', s, m, args, below, meth, c, kc', ks') => p.tables.exec = Jvm.exec ∧ Z.Warmed39 s.vm ∧ s.vm.findClass own = some m.cls ∧ c.code = bytes ∧ c.maxLocals = maxL ∧ meth.sig.returnType = ret ∧ meth.locks = false ∧ R' = R ∧ meth.name = mn ∧ kc' = kc ∧ ks' = ks ∧ ∀ d ∈ tables_1, d.before a0 Z = true
def Con (G : Gx) (y : MethodName) (bytes : ByteArray) (maxL : Nat) (ret : Option FieldType) (rm : Room) (as : List Value) (H : List Obj) (rv : Option Value) (Hf : List Obj) : Prop := match G with
  | (l, Z, a0, n) => ∀ h0, Sim (l, Z, a0, n) H h0 → MetFree l y (head1 [Cond.code y bytes maxL ret] rm) (fun a U => a = (as.map (sh n)).toArray ∧ Z.Warmed39 U.vm ∧ U.heap = h0) (fun _ _ _ _ _ => True)
      (fun _ U o U' => ∃ v L, o = .returned v ∧ (v = rv.map (sh n) ∧ Fr n L ∧ Sim (l, Z, a0, n) Hf U'.heap ∧ Hf.length = H.length + rm.cells) ∧ FrameEnd U o U' L rm.cells rm.slots)
section Laws
variable {G : Gx} {K : Kx} {rv : Option Value} {Hf : List Obj} {pc pc' : Nat} {Ls Ls' : List (Option Value)} {st : List Value} {H : List Obj} {cells slots : Nat} {own : String} {bytes : ByteArray} {maxL : Nat} {ret : Option FieldType} {R : Room} {mn : String} {kc ks : Nat}
theorem Done.step {l : Launch} {Z : State} {a0 : Array Value} {n : Nat} {p : Program} {e : Env} {R : Room} {s : State} {m : MethodId} {args : Array Value} {below : List Frame} {meth : Method} {c : Code} {kc ks : Nat} {S0 S1 : State}
    (h : ∀ t, Steps p.tables e below S1 t → Steps p.tables e below S0 t) (k : Done (l, Z, a0, n) (p, e, R, s, m, args, below, meth, c, kc, ks) rv Hf S1) : Done (l, Z, a0, n) (p, e, R, s, m, args, below, meth, c, kc, ks) rv Hf S0 := by
  obtain ⟨t, o, h1, r⟩ := k
  exact ⟨t, o, h t h1, r⟩
theorem g_iconst {i : Int} {v : Int32} (O : Ok G K own bytes maxL ret R mn kc ks) (hd : decode bytes pc = .ok (.iconst i, 1)) (hv : Int32.ofInt i = v) (hp : pc + 1 = pc')
    (k : Run G K rv Hf pc' Ls (.int v :: st) H cells slots) : Run G K rv Hf pc Ls (st) H cells slots := by
  obtain ⟨l, Z, a0, n⟩ := G; obtain ⟨p, e, R', s, m, args, below, meth, c, kc', ks'⟩ := K
  obtain ⟨hx, hZ, hown, hby, hml, hret, hlk, rfl, hnm, rfl, rfl, hw⟩ := O
  subst hp
  intro T locs real X N S A L
  exact Done.step (fun t q => XT.iconstV X.here hx rfl v (hb hby hd) hv q) (k T locs real X N S A L)
theorem g_bipush {i : Int} {v : Int32} (O : Ok G K own bytes maxL ret R mn kc ks) (hd : decode bytes pc = .ok (.bipush i, 2)) (hv : (Int8.ofInt i).toInt32 = v) (hp : pc + 2 = pc')
    (k : Run G K rv Hf pc' Ls (.int v :: st) H cells slots) : Run G K rv Hf pc Ls (st) H cells slots := by
  obtain ⟨l, Z, a0, n⟩ := G; obtain ⟨p, e, R', s, m, args, below, meth, c, kc', ks'⟩ := K
  obtain ⟨hx, hZ, hown, hby, hml, hret, hlk, rfl, hnm, rfl, rfl, hw⟩ := O
  subst hp
  intro T locs real X N S A L
  exact Done.step (fun t q => XT.bipushV X.here hx rfl v (hb hby hd) hv q) (k T locs real X N S A L)
theorem g_sipush {i : Int} {v : Int32} (O : Ok G K own bytes maxL ret R mn kc ks) (hd : decode bytes pc = .ok (.sipush i, 3)) (hv : (Int16.ofInt i).toInt32 = v) (hp : pc + 3 = pc')
    (k : Run G K rv Hf pc' Ls (.int v :: st) H cells slots) : Run G K rv Hf pc Ls (st) H cells slots := by
  obtain ⟨l, Z, a0, n⟩ := G; obtain ⟨p, e, R', s, m, args, below, meth, c, kc', ks'⟩ := K
  obtain ⟨hx, hZ, hown, hby, hml, hret, hlk, rfl, hnm, rfl, rfl, hw⟩ := O
  subst hp
  intro T locs real X N S A L
  exact Done.step (fun t q => XT.sipushV X.here hx rfl v (hb hby hd) hv q) (k T locs real X N S A L)
theorem g_lconst {i : Fin 2} {v : Int64} (O : Ok G K own bytes maxL ret R mn kc ks) (hd : decode bytes pc = .ok (.lconst i, 1)) (hv : Int64.ofNat i = v) (hp : pc + 1 = pc')
    (k : Run G K rv Hf pc' Ls (.long v :: st) H cells slots) : Run G K rv Hf pc Ls (st) H cells slots := by
  obtain ⟨l, Z, a0, n⟩ := G; obtain ⟨p, e, R', s, m, args, below, meth, c, kc', ks'⟩ := K
  obtain ⟨hx, hZ, hown, hby, hml, hret, hlk, rfl, hnm, rfl, rfl, hw⟩ := O
  subst hp
  intro T locs real X N S A L
  exact Done.step (fun t q => XT.lconstV X.here hx rfl v (hb hby hd) hv q) (k T locs real X N S A L)
theorem g_iadd {x y : Int32} (O : Ok G K own bytes maxL ret R mn kc ks) (hd : decode bytes pc = .ok (.iadd, 1))  (hp : pc + 1 = pc')
    (k : Run G K rv Hf pc' Ls (.int (x + y) :: st) H cells slots) : Run G K rv Hf pc Ls (.int y :: .int x :: st) H cells slots := by
  obtain ⟨l, Z, a0, n⟩ := G; obtain ⟨p, e, R', s, m, args, below, meth, c, kc', ks'⟩ := K
  obtain ⟨hx, hZ, hown, hby, hml, hret, hlk, rfl, hnm, rfl, rfl, hw⟩ := O
  subst hp
  intro T locs real X N S A L
  exact Done.step (fun t q => XS.iadd X.here hx rfl (hb hby hd) rfl q) (k T locs real X N S A L)
theorem g_isub {x y : Int32} (O : Ok G K own bytes maxL ret R mn kc ks) (hd : decode bytes pc = .ok (.isub, 1))  (hp : pc + 1 = pc')
    (k : Run G K rv Hf pc' Ls (.int (x - y) :: st) H cells slots) : Run G K rv Hf pc Ls (.int y :: .int x :: st) H cells slots := by
  obtain ⟨l, Z, a0, n⟩ := G; obtain ⟨p, e, R', s, m, args, below, meth, c, kc', ks'⟩ := K
  obtain ⟨hx, hZ, hown, hby, hml, hret, hlk, rfl, hnm, rfl, rfl, hw⟩ := O
  subst hp
  intro T locs real X N S A L
  exact Done.step (fun t q => XS.isub X.here hx rfl (hb hby hd) rfl q) (k T locs real X N S A L)
theorem g_imul {x y : Int32} (O : Ok G K own bytes maxL ret R mn kc ks) (hd : decode bytes pc = .ok (.imul, 1))  (hp : pc + 1 = pc')
    (k : Run G K rv Hf pc' Ls (.int (x * y) :: st) H cells slots) : Run G K rv Hf pc Ls (.int y :: .int x :: st) H cells slots := by
  obtain ⟨l, Z, a0, n⟩ := G; obtain ⟨p, e, R', s, m, args, below, meth, c, kc', ks'⟩ := K
  obtain ⟨hx, hZ, hown, hby, hml, hret, hlk, rfl, hnm, rfl, rfl, hw⟩ := O
  subst hp
  intro T locs real X N S A L
  exact Done.step (fun t q => XS.imul X.here hx rfl (hb hby hd) rfl q) (k T locs real X N S A L)
theorem g_iand {x y : Int32} (O : Ok G K own bytes maxL ret R mn kc ks) (hd : decode bytes pc = .ok (.iand, 1))  (hp : pc + 1 = pc')
    (k : Run G K rv Hf pc' Ls (.int (x &&& y) :: st) H cells slots) : Run G K rv Hf pc Ls (.int y :: .int x :: st) H cells slots := by
  obtain ⟨l, Z, a0, n⟩ := G; obtain ⟨p, e, R', s, m, args, below, meth, c, kc', ks'⟩ := K
  obtain ⟨hx, hZ, hown, hby, hml, hret, hlk, rfl, hnm, rfl, rfl, hw⟩ := O
  subst hp
  intro T locs real X N S A L
  exact Done.step (fun t q => XS.iand X.here hx rfl (hb hby hd) rfl q) (k T locs real X N S A L)
theorem g_ior {x y : Int32} (O : Ok G K own bytes maxL ret R mn kc ks) (hd : decode bytes pc = .ok (.ior, 1))  (hp : pc + 1 = pc')
    (k : Run G K rv Hf pc' Ls (.int (x ||| y) :: st) H cells slots) : Run G K rv Hf pc Ls (.int y :: .int x :: st) H cells slots := by
  obtain ⟨l, Z, a0, n⟩ := G; obtain ⟨p, e, R', s, m, args, below, meth, c, kc', ks'⟩ := K
  obtain ⟨hx, hZ, hown, hby, hml, hret, hlk, rfl, hnm, rfl, rfl, hw⟩ := O
  subst hp
  intro T locs real X N S A L
  exact Done.step (fun t q => XT.ior X.here hx rfl (hb hby hd) rfl q) (k T locs real X N S A L)
theorem g_ixor {x y : Int32} (O : Ok G K own bytes maxL ret R mn kc ks) (hd : decode bytes pc = .ok (.ixor, 1))  (hp : pc + 1 = pc')
    (k : Run G K rv Hf pc' Ls (.int (x ^^^ y) :: st) H cells slots) : Run G K rv Hf pc Ls (.int y :: .int x :: st) H cells slots := by
  obtain ⟨l, Z, a0, n⟩ := G; obtain ⟨p, e, R', s, m, args, below, meth, c, kc', ks'⟩ := K
  obtain ⟨hx, hZ, hown, hby, hml, hret, hlk, rfl, hnm, rfl, rfl, hw⟩ := O
  subst hp
  intro T locs real X N S A L
  exact Done.step (fun t q => XT.ixor X.here hx rfl (hb hby hd) rfl q) (k T locs real X N S A L)
theorem g_ishl {x y : Int32} (O : Ok G K own bytes maxL ret R mn kc ks) (hd : decode bytes pc = .ok (.ishl, 1))  (hp : pc + 1 = pc')
    (k : Run G K rv Hf pc' Ls (.int (x <<< (y &&& 31)) :: st) H cells slots) : Run G K rv Hf pc Ls (.int y :: .int x :: st) H cells slots := by
  obtain ⟨l, Z, a0, n⟩ := G; obtain ⟨p, e, R', s, m, args, below, meth, c, kc', ks'⟩ := K
  obtain ⟨hx, hZ, hown, hby, hml, hret, hlk, rfl, hnm, rfl, rfl, hw⟩ := O
  subst hp
  intro T locs real X N S A L
  exact Done.step (fun t q => XT.ishl X.here hx rfl (hb hby hd) rfl q) (k T locs real X N S A L)
theorem g_ishr {x y : Int32} (O : Ok G K own bytes maxL ret R mn kc ks) (hd : decode bytes pc = .ok (.ishr, 1))  (hp : pc + 1 = pc')
    (k : Run G K rv Hf pc' Ls (.int (x >>> (y &&& 31)) :: st) H cells slots) : Run G K rv Hf pc Ls (.int y :: .int x :: st) H cells slots := by
  obtain ⟨l, Z, a0, n⟩ := G; obtain ⟨p, e, R', s, m, args, below, meth, c, kc', ks'⟩ := K
  obtain ⟨hx, hZ, hown, hby, hml, hret, hlk, rfl, hnm, rfl, rfl, hw⟩ := O
  subst hp
  intro T locs real X N S A L
  exact Done.step (fun t q => XT.ishr X.here hx rfl (hb hby hd) rfl q) (k T locs real X N S A L)
theorem g_iushr {x y : Int32} (O : Ok G K own bytes maxL ret R mn kc ks) (hd : decode bytes pc = .ok (.iushr, 1))  (hp : pc + 1 = pc')
    (k : Run G K rv Hf pc' Ls (.int (XT.ushr x y) :: st) H cells slots) : Run G K rv Hf pc Ls (.int y :: .int x :: st) H cells slots := by
  obtain ⟨l, Z, a0, n⟩ := G; obtain ⟨p, e, R', s, m, args, below, meth, c, kc', ks'⟩ := K
  obtain ⟨hx, hZ, hown, hby, hml, hret, hlk, rfl, hnm, rfl, rfl, hw⟩ := O
  subst hp
  intro T locs real X N S A L
  exact Done.step (fun t q => XT.iushr X.here hx rfl (hb hby hd) rfl q) (k T locs real X N S A L)
theorem g_ladd {x y : Int64} (O : Ok G K own bytes maxL ret R mn kc ks) (hd : decode bytes pc = .ok (.ladd, 1))  (hp : pc + 1 = pc')
    (k : Run G K rv Hf pc' Ls (.long (x + y) :: st) H cells slots) : Run G K rv Hf pc Ls (.long y :: .long x :: st) H cells slots := by
  obtain ⟨l, Z, a0, n⟩ := G; obtain ⟨p, e, R', s, m, args, below, meth, c, kc', ks'⟩ := K
  obtain ⟨hx, hZ, hown, hby, hml, hret, hlk, rfl, hnm, rfl, rfl, hw⟩ := O
  subst hp
  intro T locs real X N S A L
  exact Done.step (fun t q => XT.ladd X.here hx rfl (hb hby hd) rfl q) (k T locs real X N S A L)
theorem g_lsub {x y : Int64} (O : Ok G K own bytes maxL ret R mn kc ks) (hd : decode bytes pc = .ok (.lsub, 1))  (hp : pc + 1 = pc')
    (k : Run G K rv Hf pc' Ls (.long (x - y) :: st) H cells slots) : Run G K rv Hf pc Ls (.long y :: .long x :: st) H cells slots := by
  obtain ⟨l, Z, a0, n⟩ := G; obtain ⟨p, e, R', s, m, args, below, meth, c, kc', ks'⟩ := K
  obtain ⟨hx, hZ, hown, hby, hml, hret, hlk, rfl, hnm, rfl, rfl, hw⟩ := O
  subst hp
  intro T locs real X N S A L
  exact Done.step (fun t q => XT.lsub X.here hx rfl (hb hby hd) rfl q) (k T locs real X N S A L)
theorem g_lmul {x y : Int64} (O : Ok G K own bytes maxL ret R mn kc ks) (hd : decode bytes pc = .ok (.lmul, 1))  (hp : pc + 1 = pc')
    (k : Run G K rv Hf pc' Ls (.long (x * y) :: st) H cells slots) : Run G K rv Hf pc Ls (.long y :: .long x :: st) H cells slots := by
  obtain ⟨l, Z, a0, n⟩ := G; obtain ⟨p, e, R', s, m, args, below, meth, c, kc', ks'⟩ := K
  obtain ⟨hx, hZ, hown, hby, hml, hret, hlk, rfl, hnm, rfl, rfl, hw⟩ := O
  subst hp
  intro T locs real X N S A L
  exact Done.step (fun t q => XT.lmul X.here hx rfl (hb hby hd) rfl q) (k T locs real X N S A L)
theorem g_land {x y : Int64} (O : Ok G K own bytes maxL ret R mn kc ks) (hd : decode bytes pc = .ok (.land, 1))  (hp : pc + 1 = pc')
    (k : Run G K rv Hf pc' Ls (.long (x &&& y) :: st) H cells slots) : Run G K rv Hf pc Ls (.long y :: .long x :: st) H cells slots := by
  obtain ⟨l, Z, a0, n⟩ := G; obtain ⟨p, e, R', s, m, args, below, meth, c, kc', ks'⟩ := K
  obtain ⟨hx, hZ, hown, hby, hml, hret, hlk, rfl, hnm, rfl, rfl, hw⟩ := O
  subst hp
  intro T locs real X N S A L
  exact Done.step (fun t q => XT.land X.here hx rfl (hb hby hd) rfl q) (k T locs real X N S A L)
theorem g_lor {x y : Int64} (O : Ok G K own bytes maxL ret R mn kc ks) (hd : decode bytes pc = .ok (.lor, 1))  (hp : pc + 1 = pc')
    (k : Run G K rv Hf pc' Ls (.long (x ||| y) :: st) H cells slots) : Run G K rv Hf pc Ls (.long y :: .long x :: st) H cells slots := by
  obtain ⟨l, Z, a0, n⟩ := G; obtain ⟨p, e, R', s, m, args, below, meth, c, kc', ks'⟩ := K
  obtain ⟨hx, hZ, hown, hby, hml, hret, hlk, rfl, hnm, rfl, rfl, hw⟩ := O
  subst hp
  intro T locs real X N S A L
  exact Done.step (fun t q => XT.lor X.here hx rfl (hb hby hd) rfl q) (k T locs real X N S A L)
theorem g_lxor {x y : Int64} (O : Ok G K own bytes maxL ret R mn kc ks) (hd : decode bytes pc = .ok (.lxor, 1))  (hp : pc + 1 = pc')
    (k : Run G K rv Hf pc' Ls (.long (x ^^^ y) :: st) H cells slots) : Run G K rv Hf pc Ls (.long y :: .long x :: st) H cells slots := by
  obtain ⟨l, Z, a0, n⟩ := G; obtain ⟨p, e, R', s, m, args, below, meth, c, kc', ks'⟩ := K
  obtain ⟨hx, hZ, hown, hby, hml, hret, hlk, rfl, hnm, rfl, rfl, hw⟩ := O
  subst hp
  intro T locs real X N S A L
  exact Done.step (fun t q => XT.lxor X.here hx rfl (hb hby hd) rfl q) (k T locs real X N S A L)
theorem g_lshl {x : Int64} {y : Int32} (O : Ok G K own bytes maxL ret R mn kc ks) (hd : decode bytes pc = .ok (.lshl, 1))  (hp : pc + 1 = pc')
    (k : Run G K rv Hf pc' Ls (.long (x <<< (y.toInt64 &&& 63)) :: st) H cells slots) : Run G K rv Hf pc Ls (.int y :: .long x :: st) H cells slots := by
  obtain ⟨l, Z, a0, n⟩ := G; obtain ⟨p, e, R', s, m, args, below, meth, c, kc', ks'⟩ := K
  obtain ⟨hx, hZ, hown, hby, hml, hret, hlk, rfl, hnm, rfl, rfl, hw⟩ := O
  subst hp
  intro T locs real X N S A L
  exact Done.step (fun t q => XT.lshl X.here hx rfl (hb hby hd) rfl q) (k T locs real X N S A L)
theorem g_lshr {x : Int64} {y : Int32} (O : Ok G K own bytes maxL ret R mn kc ks) (hd : decode bytes pc = .ok (.lshr, 1))  (hp : pc + 1 = pc')
    (k : Run G K rv Hf pc' Ls (.long (x >>> (y.toInt64 &&& 63)) :: st) H cells slots) : Run G K rv Hf pc Ls (.int y :: .long x :: st) H cells slots := by
  obtain ⟨l, Z, a0, n⟩ := G; obtain ⟨p, e, R', s, m, args, below, meth, c, kc', ks'⟩ := K
  obtain ⟨hx, hZ, hown, hby, hml, hret, hlk, rfl, hnm, rfl, rfl, hw⟩ := O
  subst hp
  intro T locs real X N S A L
  exact Done.step (fun t q => XT.lshr X.here hx rfl (hb hby hd) rfl q) (k T locs real X N S A L)
theorem g_lushr {x : Int64} {y : Int32} (O : Ok G K own bytes maxL ret R mn kc ks) (hd : decode bytes pc = .ok (.lushr, 1))  (hp : pc + 1 = pc')
    (k : Run G K rv Hf pc' Ls (.long (XT.ushrL x y) :: st) H cells slots) : Run G K rv Hf pc Ls (.int y :: .long x :: st) H cells slots := by
  obtain ⟨l, Z, a0, n⟩ := G; obtain ⟨p, e, R', s, m, args, below, meth, c, kc', ks'⟩ := K
  obtain ⟨hx, hZ, hown, hby, hml, hret, hlk, rfl, hnm, rfl, rfl, hw⟩ := O
  subst hp
  intro T locs real X N S A L
  exact Done.step (fun t q => XT.lushr X.here hx rfl (hb hby hd) rfl q) (k T locs real X N S A L)
theorem g_idiv {x y : Int32} (O : Ok G K own bytes maxL ret R mn kc ks) (hd : decode bytes pc = .ok (.idiv, 1)) (hy : y ≠ 0) (hp : pc + 1 = pc')
    (k : Run G K rv Hf pc' Ls (.int (x / y) :: st) H cells slots) : Run G K rv Hf pc Ls (.int y :: .int x :: st) H cells slots := by
  obtain ⟨l, Z, a0, n⟩ := G; obtain ⟨p, e, R', s, m, args, below, meth, c, kc', ks'⟩ := K
  obtain ⟨hx, hZ, hown, hby, hml, hret, hlk, rfl, hnm, rfl, rfl, hw⟩ := O
  subst hp
  intro T locs real X N S A L
  exact Done.step (fun t q => XS.idiv X.here hx rfl (hb hby hd) rfl hy q) (k T locs real X N S A L)
theorem g_irem {x y : Int32} (O : Ok G K own bytes maxL ret R mn kc ks) (hd : decode bytes pc = .ok (.irem, 1)) (hy : y ≠ 0) (hp : pc + 1 = pc')
    (k : Run G K rv Hf pc' Ls (.int (x % y) :: st) H cells slots) : Run G K rv Hf pc Ls (.int y :: .int x :: st) H cells slots := by
  obtain ⟨l, Z, a0, n⟩ := G; obtain ⟨p, e, R', s, m, args, below, meth, c, kc', ks'⟩ := K
  obtain ⟨hx, hZ, hown, hby, hml, hret, hlk, rfl, hnm, rfl, rfl, hw⟩ := O
  subst hp
  intro T locs real X N S A L
  exact Done.step (fun t q => iremM X hx rfl (hb hby hd) rfl hy q) (k T locs real X N S A L)
theorem g_ldiv {x y : Int64} (O : Ok G K own bytes maxL ret R mn kc ks) (hd : decode bytes pc = .ok (.ldiv, 1)) (hy : y ≠ 0) (hp : pc + 1 = pc')
    (k : Run G K rv Hf pc' Ls (.long (x / y) :: st) H cells slots) : Run G K rv Hf pc Ls (.long y :: .long x :: st) H cells slots := by
  obtain ⟨l, Z, a0, n⟩ := G; obtain ⟨p, e, R', s, m, args, below, meth, c, kc', ks'⟩ := K
  obtain ⟨hx, hZ, hown, hby, hml, hret, hlk, rfl, hnm, rfl, rfl, hw⟩ := O
  subst hp
  intro T locs real X N S A L
  exact Done.step (fun t q => XT.ldiv X.here hx rfl (hb hby hd) rfl hy q) (k T locs real X N S A L)
theorem g_lrem {x y : Int64} (O : Ok G K own bytes maxL ret R mn kc ks) (hd : decode bytes pc = .ok (.lrem, 1)) (hy : y ≠ 0) (hp : pc + 1 = pc')
    (k : Run G K rv Hf pc' Ls (.long (x % y) :: st) H cells slots) : Run G K rv Hf pc Ls (.long y :: .long x :: st) H cells slots := by
  obtain ⟨l, Z, a0, n⟩ := G; obtain ⟨p, e, R', s, m, args, below, meth, c, kc', ks'⟩ := K
  obtain ⟨hx, hZ, hown, hby, hml, hret, hlk, rfl, hnm, rfl, rfl, hw⟩ := O
  subst hp
  intro T locs real X N S A L
  exact Done.step (fun t q => XT.lrem X.here hx rfl (hb hby hd) rfl hy (by rw [lrem_mod]; exact q)) (k T locs real X N S A L)
theorem g_i2l {x : Int32} (O : Ok G K own bytes maxL ret R mn kc ks) (hd : decode bytes pc = .ok (.i2l, 1))  (hp : pc + 1 = pc')
    (k : Run G K rv Hf pc' Ls (.long x.toInt64 :: st) H cells slots) : Run G K rv Hf pc Ls (.int x :: st) H cells slots := by
  obtain ⟨l, Z, a0, n⟩ := G; obtain ⟨p, e, R', s, m, args, below, meth, c, kc', ks'⟩ := K
  obtain ⟨hx, hZ, hown, hby, hml, hret, hlk, rfl, hnm, rfl, rfl, hw⟩ := O
  subst hp
  intro T locs real X N S A L
  exact Done.step (fun t q => XT.i2l X.here hx rfl (hb hby hd) rfl q) (k T locs real X N S A L)
theorem g_l2i {x : Int64} (O : Ok G K own bytes maxL ret R mn kc ks) (hd : decode bytes pc = .ok (.l2i, 1))  (hp : pc + 1 = pc')
    (k : Run G K rv Hf pc' Ls (.int x.toInt32 :: st) H cells slots) : Run G K rv Hf pc Ls (.long x :: st) H cells slots := by
  obtain ⟨l, Z, a0, n⟩ := G; obtain ⟨p, e, R', s, m, args, below, meth, c, kc', ks'⟩ := K
  obtain ⟨hx, hZ, hown, hby, hml, hret, hlk, rfl, hnm, rfl, rfl, hw⟩ := O
  subst hp
  intro T locs real X N S A L
  exact Done.step (fun t q => XT.l2i X.here hx rfl (hb hby hd) rfl q) (k T locs real X N S A L)
theorem g_i2b {x : Int32} (O : Ok G K own bytes maxL ret R mn kc ks) (hd : decode bytes pc = .ok (.i2b, 1))  (hp : pc + 1 = pc')
    (k : Run G K rv Hf pc' Ls (.int x.toInt8.toInt32 :: st) H cells slots) : Run G K rv Hf pc Ls (.int x :: st) H cells slots := by
  obtain ⟨l, Z, a0, n⟩ := G; obtain ⟨p, e, R', s, m, args, below, meth, c, kc', ks'⟩ := K
  obtain ⟨hx, hZ, hown, hby, hml, hret, hlk, rfl, hnm, rfl, rfl, hw⟩ := O
  subst hp
  intro T locs real X N S A L
  exact Done.step (fun t q => XT.i2b X.here hx rfl (hb hby hd) rfl q) (k T locs real X N S A L)
theorem g_i2c {x : Int32} (O : Ok G K own bytes maxL ret R mn kc ks) (hd : decode bytes pc = .ok (.i2c, 1))  (hp : pc + 1 = pc')
    (k : Run G K rv Hf pc' Ls (.int x.toUInt32.toUInt16.toUInt32.toInt32 :: st) H cells slots) : Run G K rv Hf pc Ls (.int x :: st) H cells slots := by
  obtain ⟨l, Z, a0, n⟩ := G; obtain ⟨p, e, R', s, m, args, below, meth, c, kc', ks'⟩ := K
  obtain ⟨hx, hZ, hown, hby, hml, hret, hlk, rfl, hnm, rfl, rfl, hw⟩ := O
  subst hp
  intro T locs real X N S A L
  exact Done.step (fun t q => XT.i2c X.here hx rfl (hb hby hd) rfl q) (k T locs real X N S A L)
theorem g_dup {x : Value} (O : Ok G K own bytes maxL ret R mn kc ks) (hd : decode bytes pc = .ok (.dup, 1)) (hc : x.category = 1) (hp : pc + 1 = pc')
    (k : Run G K rv Hf pc' Ls (x :: x :: st) H cells slots) : Run G K rv Hf pc Ls (x :: st) H cells slots := by
  obtain ⟨l, Z, a0, n⟩ := G; obtain ⟨p, e, R', s, m, args, below, meth, c, kc', ks'⟩ := K
  obtain ⟨hx, hZ, hown, hby, hml, hret, hlk, rfl, hnm, rfl, rfl, hw⟩ := O
  subst hp
  intro T locs real X N S A L
  exact Done.step (fun t q => XS.dup X.here hx rfl (hb hby hd) rfl ((sh_cat n x).trans hc) q) (k T locs real X N S A L)
theorem g_dup_x1 {x y : Value} (O : Ok G K own bytes maxL ret R mn kc ks) (hd : decode bytes pc = .ok (.dup_x1, 1)) (hc : x.category = 1) (hc' : y.category = 1) (hp : pc + 1 = pc')
    (k : Run G K rv Hf pc' Ls (x :: y :: x :: st) H cells slots) : Run G K rv Hf pc Ls (x :: y :: st) H cells slots := by
  obtain ⟨l, Z, a0, n⟩ := G; obtain ⟨p, e, R', s, m, args, below, meth, c, kc', ks'⟩ := K
  obtain ⟨hx, hZ, hown, hby, hml, hret, hlk, rfl, hnm, rfl, rfl, hw⟩ := O
  subst hp
  intro T locs real X N S A L
  exact Done.step (fun t q => XT.dupX1 X.here hx rfl (hb hby hd) rfl ((sh_cat n x).trans hc) ((sh_cat n y).trans hc') q) (k T locs real X N S A L)
theorem g_pop {x : Value} (O : Ok G K own bytes maxL ret R mn kc ks) (hd : decode bytes pc = .ok (.pop, 1)) (hc : x.category = 1) (hp : pc + 1 = pc')
    (k : Run G K rv Hf pc' Ls (st) H cells slots) : Run G K rv Hf pc Ls (x :: st) H cells slots := by
  obtain ⟨l, Z, a0, n⟩ := G; obtain ⟨p, e, R', s, m, args, below, meth, c, kc', ks'⟩ := K
  obtain ⟨hx, hZ, hown, hby, hml, hret, hlk, rfl, hnm, rfl, rfl, hw⟩ := O
  subst hp
  intro T locs real X N S A L
  exact Done.step (fun t q => XT.pop X.here hx rfl (hb hby hd) rfl ((sh_cat n x).trans hc) q) (k T locs real X N S A L)
theorem g_iload {j : Nat} {v : Int32} (O : Ok G K own bytes maxL ret R mn kc ks) (hd : decode bytes pc = .ok (.iload j, 2)) (hl : Ls[j]? = some (some (.int v))) (hp : pc + 2 = pc')
    (k : Run G K rv Hf pc' Ls (.int v :: st) H cells slots) : Run G K rv Hf pc Ls st H cells slots := by
  obtain ⟨l, Z, a0, n⟩ := G; obtain ⟨p, e, R', s, m, args, below, meth, c, kc', ks'⟩ := K
  obtain ⟨hx, hZ, hown, hby, hml, hret, hlk, rfl, hnm, rfl, rfl, hw⟩ := O
  subst hp
  intro T locs real X N S A L
  exact Done.step (fun t q => XS.iload X.here hx rfl (hb hby hd) (L.2.2 _ _ hl) q) (k T locs real X N S A L)
theorem g_iload_n {j : Fin 4} {v : Int32} (O : Ok G K own bytes maxL ret R mn kc ks) (hd : decode bytes pc = .ok (.iload_n j, 1)) (hl : Ls[j.val]? = some (some (.int v))) (hp : pc + 1 = pc')
    (k : Run G K rv Hf pc' Ls (.int v :: st) H cells slots) : Run G K rv Hf pc Ls st H cells slots := by
  obtain ⟨l, Z, a0, n⟩ := G; obtain ⟨p, e, R', s, m, args, below, meth, c, kc', ks'⟩ := K
  obtain ⟨hx, hZ, hown, hby, hml, hret, hlk, rfl, hnm, rfl, rfl, hw⟩ := O
  subst hp
  intro T locs real X N S A L
  exact Done.step (fun t q => XS.iloadN X.here hx rfl (hb hby hd) (L.2.2 _ _ hl) q) (k T locs real X N S A L)
theorem g_lload {j : Nat} {v : Int64} (O : Ok G K own bytes maxL ret R mn kc ks) (hd : decode bytes pc = .ok (.lload j, 2)) (hl : Ls[j]? = some (some (.long v))) (hp : pc + 2 = pc')
    (k : Run G K rv Hf pc' Ls (.long v :: st) H cells slots) : Run G K rv Hf pc Ls st H cells slots := by
  obtain ⟨l, Z, a0, n⟩ := G; obtain ⟨p, e, R', s, m, args, below, meth, c, kc', ks'⟩ := K
  obtain ⟨hx, hZ, hown, hby, hml, hret, hlk, rfl, hnm, rfl, rfl, hw⟩ := O
  subst hp
  intro T locs real X N S A L
  exact Done.step (fun t q => XT.lload X.here hx rfl (hb hby hd) (L.2.2 _ _ hl) q) (k T locs real X N S A L)
theorem g_lload_n {j : Fin 4} {v : Int64} (O : Ok G K own bytes maxL ret R mn kc ks) (hd : decode bytes pc = .ok (.lload_n j, 1)) (hl : Ls[j.val]? = some (some (.long v))) (hp : pc + 1 = pc')
    (k : Run G K rv Hf pc' Ls (.long v :: st) H cells slots) : Run G K rv Hf pc Ls st H cells slots := by
  obtain ⟨l, Z, a0, n⟩ := G; obtain ⟨p, e, R', s, m, args, below, meth, c, kc', ks'⟩ := K
  obtain ⟨hx, hZ, hown, hby, hml, hret, hlk, rfl, hnm, rfl, rfl, hw⟩ := O
  subst hp
  intro T locs real X N S A L
  exact Done.step (fun t q => XT.lloadN X.here hx rfl (hb hby hd) (L.2.2 _ _ hl) q) (k T locs real X N S A L)
theorem g_aload {j : Nat} {v : Nat} (O : Ok G K own bytes maxL ret R mn kc ks) (hd : decode bytes pc = .ok (.aload j, 2)) (hl : Ls[j]? = some (some (.ref v))) (hp : pc + 2 = pc')
    (k : Run G K rv Hf pc' Ls (.ref v :: st) H cells slots) : Run G K rv Hf pc Ls st H cells slots := by
  obtain ⟨l, Z, a0, n⟩ := G; obtain ⟨p, e, R', s, m, args, below, meth, c, kc', ks'⟩ := K
  obtain ⟨hx, hZ, hown, hby, hml, hret, hlk, rfl, hnm, rfl, rfl, hw⟩ := O
  subst hp
  intro T locs real X N S A L
  exact Done.step (fun t q => XS.aload X.here hx rfl (hb hby hd) (L.2.2 _ _ hl) rfl q) (k T locs real X N S A L)
theorem g_aload_n {j : Fin 4} {v : Nat} (O : Ok G K own bytes maxL ret R mn kc ks) (hd : decode bytes pc = .ok (.aload_n j, 1)) (hl : Ls[j.val]? = some (some (.ref v))) (hp : pc + 1 = pc')
    (k : Run G K rv Hf pc' Ls (.ref v :: st) H cells slots) : Run G K rv Hf pc Ls st H cells slots := by
  obtain ⟨l, Z, a0, n⟩ := G; obtain ⟨p, e, R', s, m, args, below, meth, c, kc', ks'⟩ := K
  obtain ⟨hx, hZ, hown, hby, hml, hret, hlk, rfl, hnm, rfl, rfl, hw⟩ := O
  subst hp
  intro T locs real X N S A L
  exact Done.step (fun t q => XS.aloadN X.here hx rfl (hb hby hd) (L.2.2 _ _ hl) rfl q) (k T locs real X N S A L)
theorem g_istore {j : Nat} {v : Int32} (O : Ok G K own bytes maxL ret R mn kc ks) (hd : decode bytes pc = .ok (.istore j, 2)) (hl : stor Ls j (.int v) = some Ls') (hp : pc + 2 = pc')
    (k : Run G K rv Hf pc' Ls' st H cells slots) : Run G K rv Hf pc Ls (.int v :: st) H cells slots := by
  obtain ⟨l, Z, a0, n⟩ := G; obtain ⟨p, e, R', s, m, args, below, meth, c, kc', ks'⟩ := K
  obtain ⟨hx, hZ, hown, hby, hml, hret, hlk, rfl, hnm, rfl, rfl, hw⟩ := O
  subst hp
  intro T locs real X N S A L
  obtain ⟨real', e1, L'⟩ := store_1 L rfl hl
  exact Done.step (fun t q => XS.istore X.here hx rfl (hb hby hd) rfl e1 q) (k T locs real' X N S A L')
theorem g_istore_n {j : Fin 4} {v : Int32} (O : Ok G K own bytes maxL ret R mn kc ks) (hd : decode bytes pc = .ok (.istore_n j, 1)) (hl : stor Ls j.val (.int v) = some Ls') (hp : pc + 1 = pc')
    (k : Run G K rv Hf pc' Ls' st H cells slots) : Run G K rv Hf pc Ls (.int v :: st) H cells slots := by
  obtain ⟨l, Z, a0, n⟩ := G; obtain ⟨p, e, R', s, m, args, below, meth, c, kc', ks'⟩ := K
  obtain ⟨hx, hZ, hown, hby, hml, hret, hlk, rfl, hnm, rfl, rfl, hw⟩ := O
  subst hp
  intro T locs real X N S A L
  obtain ⟨real', e1, L'⟩ := store_1 L rfl hl
  exact Done.step (fun t q => XS.istoreN X.here hx rfl (hb hby hd) rfl e1 q) (k T locs real' X N S A L')
theorem g_lstore {j : Nat} {v : Int64} (O : Ok G K own bytes maxL ret R mn kc ks) (hd : decode bytes pc = .ok (.lstore j, 2)) (hl : stor Ls j (.long v) = some Ls') (hp : pc + 2 = pc')
    (k : Run G K rv Hf pc' Ls' st H cells slots) : Run G K rv Hf pc Ls (.long v :: st) H cells slots := by
  obtain ⟨l, Z, a0, n⟩ := G; obtain ⟨p, e, R', s, m, args, below, meth, c, kc', ks'⟩ := K
  obtain ⟨hx, hZ, hown, hby, hml, hret, hlk, rfl, hnm, rfl, rfl, hw⟩ := O
  subst hp
  intro T locs real X N S A L
  obtain ⟨real', e1, L'⟩ := store_2 L rfl hl
  exact Done.step (fun t q => XT.lstore X.here hx rfl (hb hby hd) rfl e1 q) (k T locs real' X N S A L')
theorem g_lstore_n {j : Fin 4} {v : Int64} (O : Ok G K own bytes maxL ret R mn kc ks) (hd : decode bytes pc = .ok (.lstore_n j, 1)) (hl : stor Ls j.val (.long v) = some Ls') (hp : pc + 1 = pc')
    (k : Run G K rv Hf pc' Ls' st H cells slots) : Run G K rv Hf pc Ls (.long v :: st) H cells slots := by
  obtain ⟨l, Z, a0, n⟩ := G; obtain ⟨p, e, R', s, m, args, below, meth, c, kc', ks'⟩ := K
  obtain ⟨hx, hZ, hown, hby, hml, hret, hlk, rfl, hnm, rfl, rfl, hw⟩ := O
  subst hp
  intro T locs real X N S A L
  obtain ⟨real', e1, L'⟩ := store_2 L rfl hl
  exact Done.step (fun t q => XT.lstoreN X.here hx rfl (hb hby hd) rfl e1 q) (k T locs real' X N S A L')
theorem g_astore {j : Nat} {v : Nat} (O : Ok G K own bytes maxL ret R mn kc ks) (hd : decode bytes pc = .ok (.astore j, 2)) (hl : stor Ls j (.ref v) = some Ls') (hp : pc + 2 = pc')
    (k : Run G K rv Hf pc' Ls' st H cells slots) : Run G K rv Hf pc Ls (.ref v :: st) H cells slots := by
  obtain ⟨l, Z, a0, n⟩ := G; obtain ⟨p, e, R', s, m, args, below, meth, c, kc', ks'⟩ := K
  obtain ⟨hx, hZ, hown, hby, hml, hret, hlk, rfl, hnm, rfl, rfl, hw⟩ := O
  subst hp
  intro T locs real X N S A L
  obtain ⟨real', e1, L'⟩ := store_1 L rfl hl
  exact Done.step (fun t q => XS.astore X.here hx rfl (hb hby hd) rfl rfl e1 q) (k T locs real' X N S A L')
theorem g_astore_n {j : Fin 4} {v : Nat} (O : Ok G K own bytes maxL ret R mn kc ks) (hd : decode bytes pc = .ok (.astore_n j, 1)) (hl : stor Ls j.val (.ref v) = some Ls') (hp : pc + 1 = pc')
    (k : Run G K rv Hf pc' Ls' st H cells slots) : Run G K rv Hf pc Ls (.ref v :: st) H cells slots := by
  obtain ⟨l, Z, a0, n⟩ := G; obtain ⟨p, e, R', s, m, args, below, meth, c, kc', ks'⟩ := K
  obtain ⟨hx, hZ, hown, hby, hml, hret, hlk, rfl, hnm, rfl, rfl, hw⟩ := O
  subst hp
  intro T locs real X N S A L
  obtain ⟨real', e1, L'⟩ := store_1 L rfl hl
  exact Done.step (fun t q => XS.astoreN X.here hx rfl (hb hby hd) rfl rfl e1 q) (k T locs real' X N S A L')
theorem g_iinc {j : Nat} {i : Int} {v w : Int32} (O : Ok G K own bytes maxL ret R mn kc ks) (hd : decode bytes pc = .ok (.iinc j i, 3)) (hv : Int32.ofInt i = w) (hg : Ls[j]? = some (some (.int v))) (hl : stor Ls j (.int (v + w)) = some Ls') (hp : pc + 3 = pc')
    (k : Run G K rv Hf pc' Ls' st H cells slots) : Run G K rv Hf pc Ls st H cells slots := by
  obtain ⟨l, Z, a0, n⟩ := G; obtain ⟨p, e, R', s, m, args, below, meth, c, kc', ks'⟩ := K
  obtain ⟨hx, hZ, hown, hby, hml, hret, hlk, rfl, hnm, rfl, rfl, hw⟩ := O
  subst hp
  intro T locs real X N S A L
  obtain ⟨real', e1, L'⟩ := store_1 L rfl hl
  exact Done.step (fun t q => XT.iincV X.here hx rfl w (hb hby hd) hv (L.2.2 _ _ hg) e1 q) (k T locs real' X N S A L')
theorem g_goto {o : Int} (O : Ok G K own bytes maxL ret R mn kc ks) (hd : decode bytes pc = .ok (.goto o, 3)) (ho : 0 ≤ (pc : Int) + o) (hp : ((pc : Int) + o).toNat = pc')
    (k : Run G K rv Hf pc' Ls st H cells slots) : Run G K rv Hf pc Ls st H cells slots := by
  obtain ⟨l, Z, a0, n⟩ := G; obtain ⟨p, e, R', s, m, args, below, meth, c, kc', ks'⟩ := K
  obtain ⟨hx, hZ, hown, hby, hml, hret, hlk, rfl, hnm, rfl, rfl, hw⟩ := O
  intro T locs real X N S A L
  exact Done.step (fun t q => XS.goto X.here hx rfl (pc0 := pc) rfl (hb hby hd) ho hp q) (k T locs real X N S A L)
theorem g_icmp_eq {x y : Int32} {o : Int} {pc1 : Nat} (O : Ok G K own bytes maxL ret R mn kc ks) (hd : decode bytes pc = .ok (.if_icmp .eq o, 3)) (hp : pc + 3 = pc') (ho : 0 ≤ (pc : Int) + o) (ht : ((pc : Int) + o).toNat = pc1)
    (kt : x = y → Run G K rv Hf pc1 Ls st H cells slots) (kf : ¬ x = y → Run G K rv Hf pc' Ls st H cells slots) : Run G K rv Hf pc Ls (.int y :: .int x :: st) H cells slots := by
  obtain ⟨l, Z, a0, n⟩ := G; obtain ⟨p, e, R', s, m, args, below, meth, c, kc', ks'⟩ := K
  obtain ⟨hx, hZ, hown, hby, hml, hret, hlk, rfl, hnm, rfl, rfl, hw⟩ := O
  subst hp
  intro T locs real X N S A L
  by_cases h : x = y
  · exact Done.step (fun t q => XS.icmpYes X.here hx rfl (pc0 := pc) rfl (hb hby hd) rfl (XT.ii_eq_t h) ho ht q) (kt h T locs real X N S A L)
  · exact Done.step (fun t q => XS.icmpNo X.here hx rfl (hb hby hd) rfl (XT.ii_eq_f h) q) (kf h T locs real X N S A L)
theorem g_if_eq {x : Int32} {o : Int} {pc1 : Nat} (O : Ok G K own bytes maxL ret R mn kc ks) (hd : decode bytes pc = .ok (.ifCond .eq o, 3)) (hp : pc + 3 = pc') (ho : 0 ≤ (pc : Int) + o) (ht : ((pc : Int) + o).toNat = pc1)
    (kt : x = 0 → Run G K rv Hf pc1 Ls st H cells slots) (kf : ¬ x = 0 → Run G K rv Hf pc' Ls st H cells slots) : Run G K rv Hf pc Ls (.int x :: st) H cells slots := by
  obtain ⟨l, Z, a0, n⟩ := G; obtain ⟨p, e, R', s, m, args, below, meth, c, kc', ks'⟩ := K
  obtain ⟨hx, hZ, hown, hby, hml, hret, hlk, rfl, hnm, rfl, rfl, hw⟩ := O
  subst hp
  intro T locs real X N S A L
  by_cases h : x = 0
  · exact Done.step (fun t q => XS.ifYes X.here hx rfl (pc0 := pc) rfl (hb hby hd) rfl (XT.i0_eq_t h) ho ht q) (kt h T locs real X N S A L)
  · exact Done.step (fun t q => XS.ifNo X.here hx rfl (hb hby hd) rfl (XT.i0_eq_f h) q) (kf h T locs real X N S A L)
theorem g_lcmp_eq {x y : Int64} {pq : Nat} {o : Int} {pc1 : Nat} (O : Ok G K own bytes maxL ret R mn kc ks) (hd0 : decode bytes pc = .ok (.lcmp, 1)) (hq : pc + 1 = pq) (hd : decode bytes pq = .ok (.ifCond .eq o, 3)) (hp : pq + 3 = pc') (ho : 0 ≤ (pq : Int) + o) (ht : ((pq : Int) + o).toNat = pc1)
    (kt : x = y → Run G K rv Hf pc1 Ls st H cells slots) (kf : ¬ x = y → Run G K rv Hf pc' Ls st H cells slots) : Run G K rv Hf pc Ls (.long y :: .long x :: st) H cells slots := by
  obtain ⟨l, Z, a0, n⟩ := G; obtain ⟨p, e, R', s, m, args, below, meth, c, kc', ks'⟩ := K
  obtain ⟨hx, hZ, hown, hby, hml, hret, hlk, rfl, hnm, rfl, rfl, hw⟩ := O
  subst hq
  subst hp
  intro T locs real X N S A L
  by_cases h : x = y
  · exact Done.step (fun t q => XT.lcmp X.here hx rfl (hb hby hd0) rfl (XS.ifYes X.here hx rfl (pc0 := pc + 1) rfl (hb hby hd) rfl (XT.ll_eq_t h) ho ht q)) (kt h T locs real X N S A L)
  · exact Done.step (fun t q => XT.lcmp X.here hx rfl (hb hby hd0) rfl (XS.ifNo X.here hx rfl (hb hby hd) rfl (XT.ll_eq_f h) q)) (kf h T locs real X N S A L)
theorem g_icmp_ne {x y : Int32} {o : Int} {pc1 : Nat} (O : Ok G K own bytes maxL ret R mn kc ks) (hd : decode bytes pc = .ok (.if_icmp .ne o, 3)) (hp : pc + 3 = pc') (ho : 0 ≤ (pc : Int) + o) (ht : ((pc : Int) + o).toNat = pc1)
    (kt : ¬ x = y → Run G K rv Hf pc1 Ls st H cells slots) (kf : x = y → Run G K rv Hf pc' Ls st H cells slots) : Run G K rv Hf pc Ls (.int y :: .int x :: st) H cells slots := by
  obtain ⟨l, Z, a0, n⟩ := G; obtain ⟨p, e, R', s, m, args, below, meth, c, kc', ks'⟩ := K
  obtain ⟨hx, hZ, hown, hby, hml, hret, hlk, rfl, hnm, rfl, rfl, hw⟩ := O
  subst hp
  intro T locs real X N S A L
  by_cases h : x = y
  · exact Done.step (fun t q => XS.icmpNo X.here hx rfl (hb hby hd) rfl (XT.ii_ne_f h) q) (kf h T locs real X N S A L)
  · exact Done.step (fun t q => XS.icmpYes X.here hx rfl (pc0 := pc) rfl (hb hby hd) rfl (XT.ii_ne_t h) ho ht q) (kt h T locs real X N S A L)
theorem g_if_ne {x : Int32} {o : Int} {pc1 : Nat} (O : Ok G K own bytes maxL ret R mn kc ks) (hd : decode bytes pc = .ok (.ifCond .ne o, 3)) (hp : pc + 3 = pc') (ho : 0 ≤ (pc : Int) + o) (ht : ((pc : Int) + o).toNat = pc1)
    (kt : ¬ x = 0 → Run G K rv Hf pc1 Ls st H cells slots) (kf : x = 0 → Run G K rv Hf pc' Ls st H cells slots) : Run G K rv Hf pc Ls (.int x :: st) H cells slots := by
  obtain ⟨l, Z, a0, n⟩ := G; obtain ⟨p, e, R', s, m, args, below, meth, c, kc', ks'⟩ := K
  obtain ⟨hx, hZ, hown, hby, hml, hret, hlk, rfl, hnm, rfl, rfl, hw⟩ := O
  subst hp
  intro T locs real X N S A L
  by_cases h : x = 0
  · exact Done.step (fun t q => XS.ifNo X.here hx rfl (hb hby hd) rfl (XT.i0_ne_f h) q) (kf h T locs real X N S A L)
  · exact Done.step (fun t q => XS.ifYes X.here hx rfl (pc0 := pc) rfl (hb hby hd) rfl (XT.i0_ne_t h) ho ht q) (kt h T locs real X N S A L)
theorem g_lcmp_ne {x y : Int64} {pq : Nat} {o : Int} {pc1 : Nat} (O : Ok G K own bytes maxL ret R mn kc ks) (hd0 : decode bytes pc = .ok (.lcmp, 1)) (hq : pc + 1 = pq) (hd : decode bytes pq = .ok (.ifCond .ne o, 3)) (hp : pq + 3 = pc') (ho : 0 ≤ (pq : Int) + o) (ht : ((pq : Int) + o).toNat = pc1)
    (kt : ¬ x = y → Run G K rv Hf pc1 Ls st H cells slots) (kf : x = y → Run G K rv Hf pc' Ls st H cells slots) : Run G K rv Hf pc Ls (.long y :: .long x :: st) H cells slots := by
  obtain ⟨l, Z, a0, n⟩ := G; obtain ⟨p, e, R', s, m, args, below, meth, c, kc', ks'⟩ := K
  obtain ⟨hx, hZ, hown, hby, hml, hret, hlk, rfl, hnm, rfl, rfl, hw⟩ := O
  subst hq
  subst hp
  intro T locs real X N S A L
  by_cases h : x = y
  · exact Done.step (fun t q => XT.lcmp X.here hx rfl (hb hby hd0) rfl (XS.ifNo X.here hx rfl (hb hby hd) rfl (XT.ll_ne_f h) q)) (kf h T locs real X N S A L)
  · exact Done.step (fun t q => XT.lcmp X.here hx rfl (hb hby hd0) rfl (XS.ifYes X.here hx rfl (pc0 := pc + 1) rfl (hb hby hd) rfl (XT.ll_ne_t h) ho ht q)) (kt h T locs real X N S A L)
theorem g_icmp_lt {x y : Int32} {o : Int} {pc1 : Nat} (O : Ok G K own bytes maxL ret R mn kc ks) (hd : decode bytes pc = .ok (.if_icmp .lt o, 3)) (hp : pc + 3 = pc') (ho : 0 ≤ (pc : Int) + o) (ht : ((pc : Int) + o).toNat = pc1)
    (kt : x < y → Run G K rv Hf pc1 Ls st H cells slots) (kf : ¬ x < y → Run G K rv Hf pc' Ls st H cells slots) : Run G K rv Hf pc Ls (.int y :: .int x :: st) H cells slots := by
  obtain ⟨l, Z, a0, n⟩ := G; obtain ⟨p, e, R', s, m, args, below, meth, c, kc', ks'⟩ := K
  obtain ⟨hx, hZ, hown, hby, hml, hret, hlk, rfl, hnm, rfl, rfl, hw⟩ := O
  subst hp
  intro T locs real X N S A L
  by_cases h : x < y
  · exact Done.step (fun t q => XS.icmpYes X.here hx rfl (pc0 := pc) rfl (hb hby hd) rfl (XT.ii_lt_t h) ho ht q) (kt h T locs real X N S A L)
  · exact Done.step (fun t q => XS.icmpNo X.here hx rfl (hb hby hd) rfl (XT.ii_lt_f h) q) (kf h T locs real X N S A L)
theorem g_if_lt {x : Int32} {o : Int} {pc1 : Nat} (O : Ok G K own bytes maxL ret R mn kc ks) (hd : decode bytes pc = .ok (.ifCond .lt o, 3)) (hp : pc + 3 = pc') (ho : 0 ≤ (pc : Int) + o) (ht : ((pc : Int) + o).toNat = pc1)
    (kt : x < 0 → Run G K rv Hf pc1 Ls st H cells slots) (kf : ¬ x < 0 → Run G K rv Hf pc' Ls st H cells slots) : Run G K rv Hf pc Ls (.int x :: st) H cells slots := by
  obtain ⟨l, Z, a0, n⟩ := G; obtain ⟨p, e, R', s, m, args, below, meth, c, kc', ks'⟩ := K
  obtain ⟨hx, hZ, hown, hby, hml, hret, hlk, rfl, hnm, rfl, rfl, hw⟩ := O
  subst hp
  intro T locs real X N S A L
  by_cases h : x < 0
  · exact Done.step (fun t q => XS.ifYes X.here hx rfl (pc0 := pc) rfl (hb hby hd) rfl (XT.i0_lt_t h) ho ht q) (kt h T locs real X N S A L)
  · exact Done.step (fun t q => XS.ifNo X.here hx rfl (hb hby hd) rfl (XT.i0_lt_f h) q) (kf h T locs real X N S A L)
theorem g_lcmp_lt {x y : Int64} {pq : Nat} {o : Int} {pc1 : Nat} (O : Ok G K own bytes maxL ret R mn kc ks) (hd0 : decode bytes pc = .ok (.lcmp, 1)) (hq : pc + 1 = pq) (hd : decode bytes pq = .ok (.ifCond .lt o, 3)) (hp : pq + 3 = pc') (ho : 0 ≤ (pq : Int) + o) (ht : ((pq : Int) + o).toNat = pc1)
    (kt : x < y → Run G K rv Hf pc1 Ls st H cells slots) (kf : ¬ x < y → Run G K rv Hf pc' Ls st H cells slots) : Run G K rv Hf pc Ls (.long y :: .long x :: st) H cells slots := by
  obtain ⟨l, Z, a0, n⟩ := G; obtain ⟨p, e, R', s, m, args, below, meth, c, kc', ks'⟩ := K
  obtain ⟨hx, hZ, hown, hby, hml, hret, hlk, rfl, hnm, rfl, rfl, hw⟩ := O
  subst hq
  subst hp
  intro T locs real X N S A L
  by_cases h : x < y
  · exact Done.step (fun t q => XT.lcmp X.here hx rfl (hb hby hd0) rfl (XS.ifYes X.here hx rfl (pc0 := pc + 1) rfl (hb hby hd) rfl (XT.ll_lt_t h) ho ht q)) (kt h T locs real X N S A L)
  · exact Done.step (fun t q => XT.lcmp X.here hx rfl (hb hby hd0) rfl (XS.ifNo X.here hx rfl (hb hby hd) rfl (XT.ll_lt_f h) q)) (kf h T locs real X N S A L)
theorem g_icmp_ge {x y : Int32} {o : Int} {pc1 : Nat} (O : Ok G K own bytes maxL ret R mn kc ks) (hd : decode bytes pc = .ok (.if_icmp .ge o, 3)) (hp : pc + 3 = pc') (ho : 0 ≤ (pc : Int) + o) (ht : ((pc : Int) + o).toNat = pc1)
    (kt : ¬ x < y → Run G K rv Hf pc1 Ls st H cells slots) (kf : x < y → Run G K rv Hf pc' Ls st H cells slots) : Run G K rv Hf pc Ls (.int y :: .int x :: st) H cells slots := by
  obtain ⟨l, Z, a0, n⟩ := G; obtain ⟨p, e, R', s, m, args, below, meth, c, kc', ks'⟩ := K
  obtain ⟨hx, hZ, hown, hby, hml, hret, hlk, rfl, hnm, rfl, rfl, hw⟩ := O
  subst hp
  intro T locs real X N S A L
  by_cases h : x < y
  · exact Done.step (fun t q => XS.icmpNo X.here hx rfl (hb hby hd) rfl (XT.ii_ge_f h) q) (kf h T locs real X N S A L)
  · exact Done.step (fun t q => XS.icmpYes X.here hx rfl (pc0 := pc) rfl (hb hby hd) rfl (XT.ii_ge_t h) ho ht q) (kt h T locs real X N S A L)
theorem g_if_ge {x : Int32} {o : Int} {pc1 : Nat} (O : Ok G K own bytes maxL ret R mn kc ks) (hd : decode bytes pc = .ok (.ifCond .ge o, 3)) (hp : pc + 3 = pc') (ho : 0 ≤ (pc : Int) + o) (ht : ((pc : Int) + o).toNat = pc1)
    (kt : ¬ x < 0 → Run G K rv Hf pc1 Ls st H cells slots) (kf : x < 0 → Run G K rv Hf pc' Ls st H cells slots) : Run G K rv Hf pc Ls (.int x :: st) H cells slots := by
  obtain ⟨l, Z, a0, n⟩ := G; obtain ⟨p, e, R', s, m, args, below, meth, c, kc', ks'⟩ := K
  obtain ⟨hx, hZ, hown, hby, hml, hret, hlk, rfl, hnm, rfl, rfl, hw⟩ := O
  subst hp
  intro T locs real X N S A L
  by_cases h : x < 0
  · exact Done.step (fun t q => XS.ifNo X.here hx rfl (hb hby hd) rfl (XT.i0_ge_f h) q) (kf h T locs real X N S A L)
  · exact Done.step (fun t q => XS.ifYes X.here hx rfl (pc0 := pc) rfl (hb hby hd) rfl (XT.i0_ge_t h) ho ht q) (kt h T locs real X N S A L)
theorem g_lcmp_ge {x y : Int64} {pq : Nat} {o : Int} {pc1 : Nat} (O : Ok G K own bytes maxL ret R mn kc ks) (hd0 : decode bytes pc = .ok (.lcmp, 1)) (hq : pc + 1 = pq) (hd : decode bytes pq = .ok (.ifCond .ge o, 3)) (hp : pq + 3 = pc') (ho : 0 ≤ (pq : Int) + o) (ht : ((pq : Int) + o).toNat = pc1)
    (kt : ¬ x < y → Run G K rv Hf pc1 Ls st H cells slots) (kf : x < y → Run G K rv Hf pc' Ls st H cells slots) : Run G K rv Hf pc Ls (.long y :: .long x :: st) H cells slots := by
  obtain ⟨l, Z, a0, n⟩ := G; obtain ⟨p, e, R', s, m, args, below, meth, c, kc', ks'⟩ := K
  obtain ⟨hx, hZ, hown, hby, hml, hret, hlk, rfl, hnm, rfl, rfl, hw⟩ := O
  subst hq
  subst hp
  intro T locs real X N S A L
  by_cases h : x < y
  · exact Done.step (fun t q => XT.lcmp X.here hx rfl (hb hby hd0) rfl (XS.ifNo X.here hx rfl (hb hby hd) rfl (XT.ll_ge_f h) q)) (kf h T locs real X N S A L)
  · exact Done.step (fun t q => XT.lcmp X.here hx rfl (hb hby hd0) rfl (XS.ifYes X.here hx rfl (pc0 := pc + 1) rfl (hb hby hd) rfl (XT.ll_ge_t h) ho ht q)) (kt h T locs real X N S A L)
theorem g_icmp_gt {x y : Int32} {o : Int} {pc1 : Nat} (O : Ok G K own bytes maxL ret R mn kc ks) (hd : decode bytes pc = .ok (.if_icmp .gt o, 3)) (hp : pc + 3 = pc') (ho : 0 ≤ (pc : Int) + o) (ht : ((pc : Int) + o).toNat = pc1)
    (kt : y < x → Run G K rv Hf pc1 Ls st H cells slots) (kf : ¬ y < x → Run G K rv Hf pc' Ls st H cells slots) : Run G K rv Hf pc Ls (.int y :: .int x :: st) H cells slots := by
  obtain ⟨l, Z, a0, n⟩ := G; obtain ⟨p, e, R', s, m, args, below, meth, c, kc', ks'⟩ := K
  obtain ⟨hx, hZ, hown, hby, hml, hret, hlk, rfl, hnm, rfl, rfl, hw⟩ := O
  subst hp
  intro T locs real X N S A L
  by_cases h : y < x
  · exact Done.step (fun t q => XS.icmpYes X.here hx rfl (pc0 := pc) rfl (hb hby hd) rfl (XT.ii_gt_t h) ho ht q) (kt h T locs real X N S A L)
  · exact Done.step (fun t q => XS.icmpNo X.here hx rfl (hb hby hd) rfl (XT.ii_gt_f h) q) (kf h T locs real X N S A L)
theorem g_if_gt {x : Int32} {o : Int} {pc1 : Nat} (O : Ok G K own bytes maxL ret R mn kc ks) (hd : decode bytes pc = .ok (.ifCond .gt o, 3)) (hp : pc + 3 = pc') (ho : 0 ≤ (pc : Int) + o) (ht : ((pc : Int) + o).toNat = pc1)
    (kt : 0 < x → Run G K rv Hf pc1 Ls st H cells slots) (kf : ¬ 0 < x → Run G K rv Hf pc' Ls st H cells slots) : Run G K rv Hf pc Ls (.int x :: st) H cells slots := by
  obtain ⟨l, Z, a0, n⟩ := G; obtain ⟨p, e, R', s, m, args, below, meth, c, kc', ks'⟩ := K
  obtain ⟨hx, hZ, hown, hby, hml, hret, hlk, rfl, hnm, rfl, rfl, hw⟩ := O
  subst hp
  intro T locs real X N S A L
  by_cases h : 0 < x
  · exact Done.step (fun t q => XS.ifYes X.here hx rfl (pc0 := pc) rfl (hb hby hd) rfl (XT.i0_gt_t h) ho ht q) (kt h T locs real X N S A L)
  · exact Done.step (fun t q => XS.ifNo X.here hx rfl (hb hby hd) rfl (XT.i0_gt_f h) q) (kf h T locs real X N S A L)
theorem g_lcmp_gt {x y : Int64} {pq : Nat} {o : Int} {pc1 : Nat} (O : Ok G K own bytes maxL ret R mn kc ks) (hd0 : decode bytes pc = .ok (.lcmp, 1)) (hq : pc + 1 = pq) (hd : decode bytes pq = .ok (.ifCond .gt o, 3)) (hp : pq + 3 = pc') (ho : 0 ≤ (pq : Int) + o) (ht : ((pq : Int) + o).toNat = pc1)
    (kt : y < x → Run G K rv Hf pc1 Ls st H cells slots) (kf : ¬ y < x → Run G K rv Hf pc' Ls st H cells slots) : Run G K rv Hf pc Ls (.long y :: .long x :: st) H cells slots := by
  obtain ⟨l, Z, a0, n⟩ := G; obtain ⟨p, e, R', s, m, args, below, meth, c, kc', ks'⟩ := K
  obtain ⟨hx, hZ, hown, hby, hml, hret, hlk, rfl, hnm, rfl, rfl, hw⟩ := O
  subst hq
  subst hp
  intro T locs real X N S A L
  by_cases h : y < x
  · exact Done.step (fun t q => XT.lcmp X.here hx rfl (hb hby hd0) rfl (XS.ifYes X.here hx rfl (pc0 := pc + 1) rfl (hb hby hd) rfl (XT.ll_gt_t h) ho ht q)) (kt h T locs real X N S A L)
  · exact Done.step (fun t q => XT.lcmp X.here hx rfl (hb hby hd0) rfl (XS.ifNo X.here hx rfl (hb hby hd) rfl (XT.ll_gt_f h) q)) (kf h T locs real X N S A L)
theorem g_icmp_le {x y : Int32} {o : Int} {pc1 : Nat} (O : Ok G K own bytes maxL ret R mn kc ks) (hd : decode bytes pc = .ok (.if_icmp .le o, 3)) (hp : pc + 3 = pc') (ho : 0 ≤ (pc : Int) + o) (ht : ((pc : Int) + o).toNat = pc1)
    (kt : ¬ y < x → Run G K rv Hf pc1 Ls st H cells slots) (kf : y < x → Run G K rv Hf pc' Ls st H cells slots) : Run G K rv Hf pc Ls (.int y :: .int x :: st) H cells slots := by
  obtain ⟨l, Z, a0, n⟩ := G; obtain ⟨p, e, R', s, m, args, below, meth, c, kc', ks'⟩ := K
  obtain ⟨hx, hZ, hown, hby, hml, hret, hlk, rfl, hnm, rfl, rfl, hw⟩ := O
  subst hp
  intro T locs real X N S A L
  by_cases h : y < x
  · exact Done.step (fun t q => XS.icmpNo X.here hx rfl (hb hby hd) rfl (XT.ii_le_f h) q) (kf h T locs real X N S A L)
  · exact Done.step (fun t q => XS.icmpYes X.here hx rfl (pc0 := pc) rfl (hb hby hd) rfl (XT.ii_le_t h) ho ht q) (kt h T locs real X N S A L)
theorem g_if_le {x : Int32} {o : Int} {pc1 : Nat} (O : Ok G K own bytes maxL ret R mn kc ks) (hd : decode bytes pc = .ok (.ifCond .le o, 3)) (hp : pc + 3 = pc') (ho : 0 ≤ (pc : Int) + o) (ht : ((pc : Int) + o).toNat = pc1)
    (kt : ¬ 0 < x → Run G K rv Hf pc1 Ls st H cells slots) (kf : 0 < x → Run G K rv Hf pc' Ls st H cells slots) : Run G K rv Hf pc Ls (.int x :: st) H cells slots := by
  obtain ⟨l, Z, a0, n⟩ := G; obtain ⟨p, e, R', s, m, args, below, meth, c, kc', ks'⟩ := K
  obtain ⟨hx, hZ, hown, hby, hml, hret, hlk, rfl, hnm, rfl, rfl, hw⟩ := O
  subst hp
  intro T locs real X N S A L
  by_cases h : 0 < x
  · exact Done.step (fun t q => XS.ifNo X.here hx rfl (hb hby hd) rfl (XT.i0_le_f h) q) (kf h T locs real X N S A L)
  · exact Done.step (fun t q => XS.ifYes X.here hx rfl (pc0 := pc) rfl (hb hby hd) rfl (XT.i0_le_t h) ho ht q) (kt h T locs real X N S A L)
theorem g_lcmp_le {x y : Int64} {pq : Nat} {o : Int} {pc1 : Nat} (O : Ok G K own bytes maxL ret R mn kc ks) (hd0 : decode bytes pc = .ok (.lcmp, 1)) (hq : pc + 1 = pq) (hd : decode bytes pq = .ok (.ifCond .le o, 3)) (hp : pq + 3 = pc') (ho : 0 ≤ (pq : Int) + o) (ht : ((pq : Int) + o).toNat = pc1)
    (kt : ¬ y < x → Run G K rv Hf pc1 Ls st H cells slots) (kf : y < x → Run G K rv Hf pc' Ls st H cells slots) : Run G K rv Hf pc Ls (.long y :: .long x :: st) H cells slots := by
  obtain ⟨l, Z, a0, n⟩ := G; obtain ⟨p, e, R', s, m, args, below, meth, c, kc', ks'⟩ := K
  obtain ⟨hx, hZ, hown, hby, hml, hret, hlk, rfl, hnm, rfl, rfl, hw⟩ := O
  subst hq
  subst hp
  intro T locs real X N S A L
  by_cases h : y < x
  · exact Done.step (fun t q => XT.lcmp X.here hx rfl (hb hby hd0) rfl (XS.ifNo X.here hx rfl (hb hby hd) rfl (XT.ll_le_f h) q)) (kf h T locs real X N S A L)
  · exact Done.step (fun t q => XT.lcmp X.here hx rfl (hb hby hd0) rfl (XS.ifYes X.here hx rfl (pc0 := pc + 1) rfl (hb hby hd) rfl (XT.ll_le_t h) ho ht q)) (kt h T locs real X N S A L)
/-! reading and writing the heap, in the model -/
def arr (ty : FieldType) (H : List Obj) (i : Nat) : Option (List Value) := match H[i]? with
  | some (.inl (t, vs)) => if t = ty then some vs else none
  | _ => none
def rd (ty : FieldType) (H : List Obj) (i : Nat) (j : Int32) : Option Value := (arr ty H i).bind fun vs => if j < 0 then none else vs[j.toNatClampNeg]?
def getI : Value → Option Int32
  | .int x => some x
  | _ => none
def getJ : Value → Option Int64
  | .long x => some x
  | _ => none
def getA : Value → Option Nat
  | .ref x => some x
  | _ => none
def rdI (ty : FieldType) (H : List Obj) (i : Nat) (j : Int32) : Option Int32 := (rd ty H i j).bind getI
def rdJ (H : List Obj) (i : Nat) (j : Int32) : Option Int64 := (rd .long H i j).bind getJ
def wr (ty : FieldType) (H : List Obj) (i : Nat) (j : Int32) (v : Value) : Option (List Obj) := (arr ty H i).bind fun vs => if j < 0 ∨ vs.length ≤ j.toNatClampNeg then none else some (H.set i (.inl (ty, vs.set j.toNatClampNeg v)))
def alen (H : List Obj) (i : Nat) : Option Int32 := match H[i]? with
  | some (.inl (_, vs)) => some vs.length.toInt32
  | _ => none
def mkArr (ty : FieldType) (cap : Nat) (H : List Obj) (j : Int32) : Option (List Obj) := if j < 0 ∨ cap < j.toNatClampNeg then none else some (H ++ [.inl (ty, List.replicate j.toNatClampNeg (defaultValue ty))])
def obj (t : Nat) (H : List Obj) (i : Nat) : Option (List Value) := match H[i]? with
  | some (.inr (t', vs)) => if t' = t then some vs else none
  | _ => none
def fld (t k : Nat) (H : List Obj) (i : Nat) : Option Value := (obj t H i).bind fun vs => vs[k]?
def fldI (t k : Nat) (H : List Obj) (i : Nat) : Option Int32 := (fld t k H i).bind getI
def fldJ (t k : Nat) (H : List Obj) (i : Nat) : Option Int64 := (fld t k H i).bind getJ
def fldA (t k : Nat) (H : List Obj) (i : Nat) : Option Nat := (fld t k H i).bind getA
def setF (t k : Nat) (H : List Obj) (i : Nat) (v : Value) : Option (List Obj) := (obj t H i).bind fun vs => if k < vs.length then some (H.set i (.inr (t, vs.set k v))) else none
theorem getI_e {v : Value} {x : Int32} (h : getI v = some x) : v = .int x := by cases v <;> simp [getI] at h; rw [h]
theorem getJ_e {v : Value} {x : Int64} (h : getJ v = some x) : v = .long x := by cases v <;> simp [getJ] at h; rw [h]
theorem getA_e {v : Value} {x : Nat} (h : getA v = some x) : v = .ref x := by cases v <;> simp [getA] at h; rw [h]
theorem rdI_e {ty : FieldType} {i : Nat} {j x : Int32} (h : rdI ty H i j = some x) : rd ty H i j = some (.int x) := by
  obtain ⟨v, h1, h2⟩ := Option.bind_eq_some_iff.mp h; rw [h1, getI_e h2]
theorem rdJ_e {i : Nat} {j : Int32} {x : Int64} (h : rdJ H i j = some x) : rd .long H i j = some (.long x) := by
  obtain ⟨v, h1, h2⟩ := Option.bind_eq_some_iff.mp h; rw [h1, getJ_e h2]
theorem fldI_e {t k i : Nat} {x : Int32} (h : fldI t k H i = some x) : fld t k H i = some (.int x) := by
  obtain ⟨v, h1, h2⟩ := Option.bind_eq_some_iff.mp h; rw [h1, getI_e h2]
theorem fldJ_e {t k i : Nat} {x : Int64} (h : fldJ t k H i = some x) : fld t k H i = some (.long x) := by
  obtain ⟨v, h1, h2⟩ := Option.bind_eq_some_iff.mp h; rw [h1, getJ_e h2]
theorem fldA_e {t k i x : Nat} (h : fldA t k H i = some x) : fld t k H i = some (.ref x) := by
  obtain ⟨v, h1, h2⟩ := Option.bind_eq_some_iff.mp h; rw [h1, getA_e h2]
theorem arr_e {ty : FieldType} {i : Nat} {vs : List Value} (h : arr ty H i = some vs) : H[i]? = some (.inl (ty, vs)) := by
  unfold arr at h; split at h
  · rename_i t us hh; split at h
    · rename_i e; cases h; rw [hh, e]
    · cases h
  · cases h
theorem obj_e {t i : Nat} {vs : List Value} (h : obj t H i = some vs) : H[i]? = some (.inr (t, vs)) := by
  unfold obj at h; split at h
  · rename_i t us hh; split at h
    · rename_i e; cases h; rw [hh, e]
    · cases h
  · cases h
theorem sim_arr {h : Heap} {ty : FieldType} {i : Nat} {vs : List Value} (S : Sim G H h) (e : arr ty H i = some vs) : ∃ c : Cell, Arr G.2.1 h (G.2.2.2 + i) c ty ∧ c.slots = (vs.map (sh G.2.2.2)).toArray := (S.2 i _ (arr_e e)).2
theorem sim_obj {h : Heap} {t i : Nat} {vs : List Value} (S : Sim G H h) (e : obj t H i = some vs) : Exa G.2.1 h (G.2.2.2 + i) (lay t).1 ∧ vs.length = (lay t).2.length ∧ ∀ (k : Nat) (nd : String × String) (v : Value), (lay t).2[k]? = some nd → vs[k]? = some v → Fld G.2.1 h (G.2.2.2 + i) (lay t).1 nd.1 nd.2 (sh G.2.2.2 v) := S.2 i _ (obj_e e)
theorem sim_ext {h h' : Heap} {o : Obj} (S : Sim G H h) (E : Ext h h') (hs : h'.size = h.size + 1) (ho : ObjOk G.2.1 G.2.2.2 h' h.size o) : Sim G (H ++ [o]) h' := by
  refine ⟨by rw [hs, S.1, List.length_append]; rfl, fun i q hq => ?_⟩
  by_cases hi : i < H.length
  · rw [List.getElem?_append_left hi] at hq
    have r := S.2 i q hq
    rcases q with ⟨ty, vs⟩ | ⟨t, vs⟩
    · obtain ⟨X, c, A, r⟩ := r; exact ⟨X.ext E, c, A.ext E, r⟩
    · obtain ⟨X, l, F⟩ := r; exact ⟨X.ext E, l, fun k nd v h1 h2 => (F k nd v h1 h2).ext E⟩
  · rw [List.getElem?_append_right (Nat.le_of_not_lt hi)] at hq
    have : i - H.length = 0 := by
      have := (List.getElem?_eq_some_iff.mp hq).1; simp at this; omega
    rw [this] at hq
    cases hq
    have : G.2.2.2 + i = h.size := by rw [S.1]; have := Nat.le_of_not_lt hi; omega
    rw [this]; exact ho
theorem sim_wr {h h' : Heap} {ty : FieldType} {i j : Nat} {vs : List Value} {v : Value} (S : Sim G H h) (e : arr ty H i = some vs) (W : Wr h h' (G.2.2.2 + i) j (sh G.2.2.2 v)) : Sim G (H.set i (.inl (ty, vs.set j v))) h' := by
  refine ⟨by rw [W.size, S.1, List.length_set], fun i' q hq => ?_⟩
  have hlt := (List.getElem?_eq_some_iff.mp (arr_e e)).1
  by_cases hi : i = i'
  · subst hi
    rw [List.getElem?_set_self hlt] at hq
    cases hq
    obtain ⟨X, c, A, r⟩ := S.2 i _ (arr_e e)
    exact ⟨X.wr W, _, A.same W, by simp [Cell.setSlot, r, List.map_set]⟩
  · rw [List.getElem?_set_ne hi] at hq
    have r := S.2 i' q hq
    have ne : G.2.2.2 + i' ≠ G.2.2.2 + i := by omega
    rcases q with ⟨ty, vs⟩ | ⟨t, vs⟩
    · obtain ⟨X, c, A, r⟩ := r; exact ⟨X.wr W, c, A.other W ne, r⟩
    · obtain ⟨X, l, F⟩ := r; exact ⟨X.wr W, l, fun k nd v h1 h2 => (F k nd v h1 h2).other W (Or.inl ne)⟩
theorem lay_slot {Z : State} {a0 : Array Value} (hw : ∀ d ∈ tables_1, d.before a0 Z = true) {t k k' : Nat} {nd nd' : String × String} (h1 : (lay t).2[k]? = some nd) (h2 : (lay t).2[k']? = some nd') (ne : k ≠ k') : Jvm.RoadKit.slotOf Z (lay t).1 nd.1 nd.2 ≠ Jvm.RoadKit.slotOf Z (lay t).1 nd'.1 nd'.2 := by
  obtain ⟨t1, p1⟩ := lay_parse t nd (List.mem_of_getElem? h1)
  obtain ⟨t2, p2⟩ := lay_parse t nd' (List.mem_of_getElem? h2)
  exact slot_ne (C := (lay t).1) (a0 := a0) ((lay_word t nd (List.mem_of_getElem? h1)).imp (hw _) (hw _)) ((lay_word t nd' (List.mem_of_getElem? h2)).imp (hw _) (hw _)) (lay_names t k k' nd nd' h1 h2 ne) p1 p2
theorem sim_put {h h' : Heap} {t i k : Nat} {nd : String × String} {vs : List Value} {v : Value} (hw : ∀ d ∈ tables_1, d.before G.2.2.1 G.2.1 = true) (S : Sim G H h) (e : obj t H i = some vs) (hk : (lay t).2[k]? = some nd) (W : Wr h h' (G.2.2.2 + i) (Jvm.RoadKit.slotOf G.2.1 (lay t).1 nd.1 nd.2) (sh G.2.2.2 v)) : Sim G (H.set i (.inr (t, vs.set k v))) h' := by
  refine ⟨by rw [W.size, S.1, List.length_set], fun i' q hq => ?_⟩
  have hlt := (List.getElem?_eq_some_iff.mp (obj_e e)).1
  by_cases hi : i = i'
  · subst hi
    rw [List.getElem?_set_self hlt] at hq
    cases hq
    obtain ⟨X, l, F⟩ := S.2 i _ (obj_e e)
    refine ⟨X.wr W, by rw [List.length_set]; exact l, fun k' nd' v' h1 h2 => ?_⟩
    have hkl : k < vs.length := by rw [l]; exact (List.getElem?_eq_some_iff.mp hk).1
    by_cases ek : k = k'
    · subst ek
      rw [List.getElem?_set_self hkl] at h2
      cases h2
      cases hk.symm.trans h1
      exact (F k nd _ hk (List.getElem?_eq_getElem hkl)).same W
    · rw [List.getElem?_set_ne ek] at h2
      exact (F k' nd' v' h1 h2).other W (Or.inr (lay_slot hw h1 hk (Ne.symm ek)))
  · rw [List.getElem?_set_ne hi] at hq
    have r := S.2 i' q hq
    have ne : G.2.2.2 + i' ≠ G.2.2.2 + i := by omega
    rcases q with ⟨ty, vs⟩ | ⟨t, vs⟩
    · obtain ⟨X, c, A, r⟩ := r; exact ⟨X.wr W, c, A.other W ne, r⟩
    · obtain ⟨X, l, F⟩ := r; exact ⟨X.wr W, l, fun k nd v h1 h2 => (F k nd v h1 h2).other W (Or.inl ne)⟩
/-! the steps that read the tables or the heap -/
theorem g_ldc {ix : Nat} {v : Int32} (O : Ok G K own bytes maxL ret R mn kc ks) (hd : decode bytes pc = .ok (.ldc ix, 2)) (w : Jvm.Cond.constant own ix v ∈ tables_1) (hp : pc + 2 = pc')
    (k : Run G K rv Hf pc' Ls (.int v :: st) H cells slots) : Run G K rv Hf pc Ls st H cells slots := by
  obtain ⟨l, Z, a0, n⟩ := G; obtain ⟨p, e, R', s, m, args, below, meth, c, kc', ks'⟩ := K
  obtain ⟨hx, hZ, hown, hby, hml, hret, hlk, rfl, hnm, rfl, rfl, hw⟩ := O
  subst hp
  intro T locs real X N S A L
  exact Done.step (fun t q => X.ldcI hx hown (mv hZ (hw _ w)) rfl (hb hby hd) q) (k T locs real X N S A L)
theorem g_ldc2 {ix : Nat} {v : Int64} (O : Ok G K own bytes maxL ret R mn kc ks) (hd : decode bytes pc = .ok (.ldc2_w ix, 3)) (w : Jvm.Cond.constantLong own ix v ∈ tables_1) (hp : pc + 3 = pc')
    (k : Run G K rv Hf pc' Ls (.long v :: st) H cells slots) : Run G K rv Hf pc Ls st H cells slots := by
  obtain ⟨l, Z, a0, n⟩ := G; obtain ⟨p, e, R', s, m, args, below, meth, c, kc', ks'⟩ := K
  obtain ⟨hx, hZ, hown, hby, hml, hret, hlk, rfl, hnm, rfl, rfl, hw⟩ := O
  subst hp
  intro T locs real X N S A L
  exact Done.step (fun t q => X.ldc2J hx hown (mv hZ (hw _ w)) rfl (hb hby hd) q) (k T locs real X N S A L)
theorem rd_e {ty : FieldType} {i : Nat} {j : Int32} {v : Value} (h : rd ty H i j = some v) : ∃ vs, arr ty H i = some vs ∧ ¬ j < 0 ∧ vs[j.toNatClampNeg]? = some v := by
  obtain ⟨vs, h1, h2⟩ := Option.bind_eq_some_iff.mp h
  split at h2
  · cases h2
  · exact ⟨vs, h1, by assumption, h2⟩
theorem inb_sl {c : Cell} {vs : List Value} {n : Nat} {j : Int32} {v : Value} (e : c.slots = (vs.map (sh n)).toArray) (h0 : ¬ j < 0) (h : vs[j.toNatClampNeg]? = some v) : ¬ (j < 0 ∨ c.slots.size ≤ j.toNatClampNeg) ∧ c.slots[j.toNatClampNeg]? = some (sh n v) := by
  have := (List.getElem?_eq_some_iff.mp h).1
  refine ⟨fun q => q.elim h0 (fun q => by rw [e] at q; simp at q; omega), by rw [e]; simp [h]⟩
theorem g_iaload {i : Nat} {j : Int32} {v : Int32} (O : Ok G K own bytes maxL ret R mn kc ks) (hd : decode bytes pc = .ok (.iaload, 1)) (hr : rdI .int H i j = some v) (hp : pc + 1 = pc')
    (k : Run G K rv Hf pc' Ls (.int v :: st) H cells slots) : Run G K rv Hf pc Ls (.int j :: .ref i :: st) H cells slots := by
  obtain ⟨l, Z, a0, n⟩ := G; obtain ⟨p, e, R', s, m, args, below, meth, c, kc', ks'⟩ := K
  obtain ⟨hx, hZ, hown, hby, hml, hret, hlk, rfl, hnm, rfl, rfl, hw⟩ := O
  subst hp
  intro T locs real X N S A L
  obtain ⟨vs, h1, h2, h3⟩ := rd_e (rdI_e hr)
  obtain ⟨cl, B, es⟩ := sim_arr S h1
  obtain ⟨q1, q2⟩ := inb_sl es h2 h3
  exact Done.step (fun t q => X.iaload hx B.1 (State.isArrayOf_alike hZ.alike B.2.1) B.2.2 q1 q2 (g := mkF m pc real ((.int j :: .ref i :: st).map (sh n))) rfl rfl (hb hby hd) t q) (k T locs real X N S A L)
theorem g_caload {i : Nat} {j : Int32} {v : Int32} (O : Ok G K own bytes maxL ret R mn kc ks) (hd : decode bytes pc = .ok (.caload, 1)) (hr : rdI .char H i j = some v) (hp : pc + 1 = pc')
    (k : Run G K rv Hf pc' Ls (.int v :: st) H cells slots) : Run G K rv Hf pc Ls (.int j :: .ref i :: st) H cells slots := by
  obtain ⟨l, Z, a0, n⟩ := G; obtain ⟨p, e, R', s, m, args, below, meth, c, kc', ks'⟩ := K
  obtain ⟨hx, hZ, hown, hby, hml, hret, hlk, rfl, hnm, rfl, rfl, hw⟩ := O
  subst hp
  intro T locs real X N S A L
  obtain ⟨vs, h1, h2, h3⟩ := rd_e (rdI_e hr)
  obtain ⟨cl, B, es⟩ := sim_arr S h1
  obtain ⟨q1, q2⟩ := inb_sl es h2 h3
  exact Done.step (fun t q => X.caload hx B.1 (State.isArrayOf_alike hZ.alike B.2.1) B.2.2 q1 q2 (g := mkF m pc real ((.int j :: .ref i :: st).map (sh n))) rfl rfl (hb hby hd) t q) (k T locs real X N S A L)
theorem g_baload {i : Nat} {j : Int32} {v : Int32} (O : Ok G K own bytes maxL ret R mn kc ks) (hd : decode bytes pc = .ok (.baload, 1)) (hr : rdI .byte H i j = some v) (hp : pc + 1 = pc')
    (k : Run G K rv Hf pc' Ls (.int v :: st) H cells slots) : Run G K rv Hf pc Ls (.int j :: .ref i :: st) H cells slots := by
  obtain ⟨l, Z, a0, n⟩ := G; obtain ⟨p, e, R', s, m, args, below, meth, c, kc', ks'⟩ := K
  obtain ⟨hx, hZ, hown, hby, hml, hret, hlk, rfl, hnm, rfl, rfl, hw⟩ := O
  subst hp
  intro T locs real X N S A L
  obtain ⟨vs, h1, h2, h3⟩ := rd_e (rdI_e hr)
  obtain ⟨cl, B, es⟩ := sim_arr S h1
  obtain ⟨q1, q2⟩ := inb_sl es h2 h3
  exact Done.step (fun t q => X.baloadBytes hx B.1 (State.isArrayOf_alike hZ.alike B.2.1) B.2.2 q1 q2 (g := mkF m pc real ((.int j :: .ref i :: st).map (sh n))) rfl rfl (hb hby hd) t q) (k T locs real X N S A L)
theorem g_laload {i : Nat} {j : Int32} {v : Int64} (O : Ok G K own bytes maxL ret R mn kc ks) (hd : decode bytes pc = .ok (.laload, 1)) (hr : rdJ H i j = some v) (hp : pc + 1 = pc')
    (k : Run G K rv Hf pc' Ls (.long v :: st) H cells slots) : Run G K rv Hf pc Ls (.int j :: .ref i :: st) H cells slots := by
  obtain ⟨l, Z, a0, n⟩ := G; obtain ⟨p, e, R', s, m, args, below, meth, c, kc', ks'⟩ := K
  obtain ⟨hx, hZ, hown, hby, hml, hret, hlk, rfl, hnm, rfl, rfl, hw⟩ := O
  subst hp
  intro T locs real X N S A L
  obtain ⟨vs, h1, h2, h3⟩ := rd_e (rdJ_e hr)
  obtain ⟨cl, B, es⟩ := sim_arr S h1
  obtain ⟨q1, q2⟩ := inb_sl es h2 h3
  exact Done.step (fun t q => X.laload hx B.1 (State.isArrayOf_alike hZ.alike B.2.1) B.2.2 q1 q2 (g := mkF m pc real ((.int j :: .ref i :: st).map (sh n))) rfl rfl (hb hby hd) t q) (k T locs real X N S A L)
theorem g_arraylength {i : Nat} {v : Int32} (O : Ok G K own bytes maxL ret R mn kc ks) (hd : decode bytes pc = .ok (.arraylength, 1)) (hr : alen H i = some v) (hp : pc + 1 = pc')
    (k : Run G K rv Hf pc' Ls (.int v :: st) H cells slots) : Run G K rv Hf pc Ls (.ref i :: st) H cells slots := by
  obtain ⟨l, Z, a0, n⟩ := G; obtain ⟨p, e, R', s, m, args, below, meth, c, kc', ks'⟩ := K
  obtain ⟨hx, hZ, hown, hby, hml, hret, hlk, rfl, hnm, rfl, rfl, hw⟩ := O
  subst hp
  intro T locs real X N S A L
  unfold alen at hr
  split at hr
  · rename_i ty vs hh
    cases hr
    obtain ⟨-, cl, B, es⟩ := S.2 i _ hh
    have q1 : cl.slots.size = vs.length := by rw [es]; simp
    exact Done.step (fun t q => X.arraylength hx B.1 (State.isArrayOf_alike hZ.alike B.2.1) (g := mkF m pc real ((.ref i :: st).map (sh n))) rfl rfl (hb hby hd) t (by rw [q1]; exact q)) (k T locs real X N S A L)
  · cases hr
theorem wr_e {ty : FieldType} {i : Nat} {j : Int32} {v : Value} {H' : List Obj} (h : wr ty H i j v = some H') : ∃ vs, arr ty H i = some vs ∧ ¬ (j < 0 ∨ vs.length ≤ j.toNatClampNeg) ∧ H' = H.set i (.inl (ty, vs.set j.toNatClampNeg v)) := by
  obtain ⟨vs, h1, h2⟩ := Option.bind_eq_some_iff.mp h
  split at h2
  · cases h2
  · cases h2; exact ⟨vs, h1, by assumption, rfl⟩
theorem wr_len {ty : FieldType} {i : Nat} {j : Int32} {v : Value} {H' : List Obj} (h : wr ty H i j v = some H') : H'.length = H.length := by
  obtain ⟨vs, -, -, rfl⟩ := wr_e h; simp
theorem sl_len {c : Cell} {vs : List Value} {n : Nat} (e : c.slots = (vs.map (sh n)).toArray) : c.slots.size = vs.length := by rw [e]; simp
theorem g_iastore {i : Nat} {j x : Int32} {H' : List Obj} (O : Ok G K own bytes maxL ret R mn kc ks) (hd : decode bytes pc = .ok (.iastore, 1)) (hr : wr .int H i j (.int x) = some H') (hp : pc + 1 = pc')
    (k : Run G K rv Hf pc' Ls st H' cells slots) : Run G K rv Hf pc Ls (.int x :: .int j :: .ref i :: st) H cells slots := by
  obtain ⟨l, Z, a0, n⟩ := G; obtain ⟨p, e, R', s, m, args, below, meth, c, kc', ks'⟩ := K
  obtain ⟨hx, hZ, hown, hby, hml, hret, hlk, rfl, hnm, rfl, rfl, hw⟩ := O
  subst hp
  intro T locs real X N S A L
  obtain ⟨vs, h1, h2, rfl⟩ := wr_e hr
  obtain ⟨cl, B, es⟩ := sim_arr S h1
  obtain ⟨T', h', X', e', W, stp⟩ := stI X hx hZ rfl B (j := j) (x := x) (by rw [sl_len es]; exact h2) (g := mkF m pc real ((.int x :: .int j :: .ref i :: st).map (sh n))) rfl rfl (hb hby hd)
  exact Done.step stp (k T' _ real X' (Fr.snoc X' N (Nat.le_add_right _ _)) (by rw [e']; exact sim_wr (v := .int x) S h1 W) (by simpa using A) L)
theorem g_lastore {i : Nat} {j : Int32} {x : Int64} {H' : List Obj} (O : Ok G K own bytes maxL ret R mn kc ks) (hd : decode bytes pc = .ok (.lastore, 1)) (hr : wr .long H i j (.long x) = some H') (hp : pc + 1 = pc')
    (k : Run G K rv Hf pc' Ls st H' cells slots) : Run G K rv Hf pc Ls (.long x :: .int j :: .ref i :: st) H cells slots := by
  obtain ⟨l, Z, a0, n⟩ := G; obtain ⟨p, e, R', s, m, args, below, meth, c, kc', ks'⟩ := K
  obtain ⟨hx, hZ, hown, hby, hml, hret, hlk, rfl, hnm, rfl, rfl, hw⟩ := O
  subst hp
  intro T locs real X N S A L
  obtain ⟨vs, h1, h2, rfl⟩ := wr_e hr
  obtain ⟨cl, B, es⟩ := sim_arr S h1
  obtain ⟨T', h', X', e', W, stp⟩ := stJ X hx hZ rfl B (j := j) (x := x) (by rw [sl_len es]; exact h2) (g := mkF m pc real ((.long x :: .int j :: .ref i :: st).map (sh n))) rfl rfl (hb hby hd)
  exact Done.step stp (k T' _ real X' (Fr.snoc X' N (Nat.le_add_right _ _)) (by rw [e']; exact sim_wr (v := .long x) S h1 W) (by simpa using A) L)
theorem g_bastore {i : Nat} {j x : Int32} {H' : List Obj} (O : Ok G K own bytes maxL ret R mn kc ks) (hd : decode bytes pc = .ok (.bastore, 1)) (hr : wr .byte H i j (.int (nar .byte x)) = some H') (hp : pc + 1 = pc')
    (k : Run G K rv Hf pc' Ls st H' cells slots) : Run G K rv Hf pc Ls (.int x :: .int j :: .ref i :: st) H cells slots := by
  obtain ⟨l, Z, a0, n⟩ := G; obtain ⟨p, e, R', s, m, args, below, meth, c, kc', ks'⟩ := K
  obtain ⟨hx, hZ, hown, hby, hml, hret, hlk, rfl, hnm, rfl, rfl, hw⟩ := O
  subst hp
  intro T locs real X N S A L
  obtain ⟨vs, h1, h2, rfl⟩ := wr_e hr
  obtain ⟨cl, B, es⟩ := sim_arr S h1
  obtain ⟨T', h', X', e', W, stp⟩ := stB X hx hZ rfl B (j := j) (x := x) (by rw [sl_len es]; exact h2) (g := mkF m pc real ((.int x :: .int j :: .ref i :: st).map (sh n))) rfl rfl (hb hby hd)
  exact Done.step stp (k T' _ real X' (Fr.snoc X' N (Nat.le_add_right _ _)) (by rw [e']; exact sim_wr (v := .int (nar .byte x)) S h1 W) (by simpa using A) L)
theorem g_castore {i : Nat} {j x : Int32} {H' : List Obj} (O : Ok G K own bytes maxL ret R mn kc ks) (hd : decode bytes pc = .ok (.castore, 1)) (hr : wr .char H i j (.int (nar .char x)) = some H') (hp : pc + 1 = pc')
    (k : Run G K rv Hf pc' Ls st H' cells slots) : Run G K rv Hf pc Ls (.int x :: .int j :: .ref i :: st) H cells slots := by
  obtain ⟨l, Z, a0, n⟩ := G; obtain ⟨p, e, R', s, m, args, below, meth, c, kc', ks'⟩ := K
  obtain ⟨hx, hZ, hown, hby, hml, hret, hlk, rfl, hnm, rfl, rfl, hw⟩ := O
  subst hp
  intro T locs real X N S A L
  obtain ⟨vs, h1, h2, rfl⟩ := wr_e hr
  obtain ⟨cl, B, es⟩ := sim_arr S h1
  obtain ⟨T', h', X', e', W, stp⟩ := stC X hx hZ rfl B (j := j) (x := x) (by rw [sl_len es]; exact h2) (g := mkF m pc real ((.int x :: .int j :: .ref i :: st).map (sh n))) rfl rfl (hb hby hd)
  exact Done.step stp (k T' _ real X' (Fr.snoc X' N (Nat.le_add_right _ _)) (by rw [e']; exact sim_wr (v := .int (nar .char x)) S h1 W) (by simpa using A) L)
theorem g_newarray {aty : ArrayType} {cap : Nat} {j : Int32} {H' : List Obj} (O : Ok G K own bytes maxL ret R mn kc ks) (hd : decode bytes pc = .ok (.newarray aty, 2)) (w : Jvm.Cond.arrayClass (newarray.typeOf aty) ∈ tables_1)
    (hr : mkArr (newarray.typeOf aty) cap H j = some H') (hb8 : cap * 8 ≤ 536870912) {c2 s2 : Nat} (hc2 : cells + 1 = c2) (hs2 : slots + cap = s2) (hc : c2 ≤ R.cells) (hs : s2 ≤ R.slots) (hp : pc + 2 = pc')
    (k : Run G K rv Hf pc' Ls (.ref H.length :: st) H' c2 s2) : Run G K rv Hf pc Ls (.int j :: st) H cells slots := by
  obtain ⟨l, Z, a0, n⟩ := G; obtain ⟨p, e, R', s, m, args, below, meth, c, kc', ks'⟩ := K
  obtain ⟨hx, hZ, hown, hby, hml, hret, hlk, rfl, hnm, rfl, rfl, hw⟩ := O
  subst hp hc2 hs2
  intro T locs real X N S A L
  unfold mkArr at hr
  split at hr
  · cases hr
  rename_i hj
  cases hr
  have hj0 : ¬ j < 0 := fun q => hj (Or.inl q)
  obtain ⟨T', h', cA, X', e', E, B, EX, stp⟩ := newPE X hx hZ (hw _ w) rfl (g := mkF m pc real ((.int j :: st).map (sh n))) rfl (hb hby hd) rfl hj0 (cap := cap) (Nat.le_of_not_lt fun q => hj (Or.inr q)) hb8 hc hs rfl
  have hsz : h'.size = T.heap.size + 1 := by
    have a1 : Array.size T.heap < Array.size h' := B.lt
    have a2 : Array.size T'.heap ≤ Array.size s.heap + (cells + 1) := X'.heapSize
    rw [e'] at a2
    have a3 : Array.size T.heap = n + H.length := S.1
    have a4 : Array.size s.heap + cells = n + H.length := A
    omega
  have ea : T.heap.size = n + H.length := S.1
  have S' : Sim (l, Z, a0, n) (H ++ [.inl (newarray.typeOf aty, List.replicate j.toNatClampNeg (defaultValue (newarray.typeOf aty)))]) T'.heap := by
    rw [e']
    refine sim_ext S E hsz ⟨EX, _, B, ?_⟩
    have : sh n (defaultValue (newarray.typeOf aty)) = defaultValue (newarray.typeOf aty) := by cases aty <;> rfl
    simp [newA, this]
  refine Done.step stp ?_
  have k' := k T' locs real X' N S' (by simp only [List.length_append, List.length_singleton] at A ⊢; omega) L
  rw [ea]
  exact k'
theorem g_new {ix t nn : Nat} {H' : List Obj} (O : Ok G K own bytes maxL ret R mn kc ks) (hd : decode bytes pc = .ok (.new ix, 3)) (w1 : Jvm.Cond.classLink own ix (lay t).1 ∈ tables_1) (w2 : Jvm.Cond.instantiable (lay t).1 nn ∈ tables_1) (w3 : Jvm.Cond.initialized (lay t).1 ∈ tables_1)
    {vs : List Value} (hvs : (lay t).2.map (fun nd => (parseFieldDescriptor nd.2).map defaultValue) = vs.map some) (hH : H' = H ++ [.inr (t, vs)]) {c2 s2 : Nat} (hc2 : cells + 1 = c2) (hs2 : slots + nn = s2) (hc : c2 ≤ R.cells) (hs : s2 ≤ R.slots) (hp : pc + 3 = pc')
    (k : Run G K rv Hf pc' Ls (.ref H.length :: st) H' c2 s2) : Run G K rv Hf pc Ls st H cells slots := by
  obtain ⟨l, Z, a0, n⟩ := G; obtain ⟨p, e, R', s, m, args, below, meth, c, kc', ks'⟩ := K
  obtain ⟨hx, hZ, hown, hby, hml, hret, hlk, rfl, hnm, rfl, rfl, hw⟩ := O
  subst hp hH hc2 hs2
  intro T locs real X N S A L
  obtain ⟨T', h', X', e', E, B, D, -, stp⟩ := newO X hx hZ hown (hw _ w1) (hw _ w2) (hw _ w3) rfl (g := mkF m pc real (st.map (sh n))) rfl (hb hby hd) hc hs
  have hsz : h'.size = T.heap.size + 1 := by
    have a1 : Array.size T.heap < Array.size h' := B.lt
    have a2 : Array.size T'.heap ≤ Array.size s.heap + (cells + 1) := X'.heapSize
    rw [e'] at a2
    have a3 : Array.size T.heap = n + H.length := S.1
    have a4 : Array.size s.heap + cells = n + H.length := A
    omega
  have ea : T.heap.size = n + H.length := S.1
  have S' : Sim (l, Z, a0, n) (H ++ [.inr (t, vs)]) T'.heap := by
    rw [e']
    refine sim_ext S E hsz ⟨B, by have := congrArg List.length hvs; simpa using this.symm, fun k nd v h1 h2 => ?_⟩
    have q : ((lay t).2.map (fun nd => (parseFieldDescriptor nd.2).map defaultValue))[k]? = some (some v) := by rw [hvs]; simp [h2]
    rw [List.getElem?_map, h1] at q
    simp only [Option.map_some, Option.some.injEq, Option.map_eq_some_iff] at q
    obtain ⟨ty, q1, q2⟩ := q
    have q3 : sh n v = defaultValue ty := by rw [← q2]; cases ty <;> rfl
    rw [q3]
    exact D ((lay_word t nd (List.mem_of_getElem? h1)).imp (hw _) (hw _)) q1
  refine Done.step stp ?_
  have k' := k T' locs real X' N S' (by simp only [List.length_append, List.length_singleton] at A ⊢; omega) L
  rw [ea]
  exact k'
theorem g_getfield {ix t kf i : Nat} {nd : String × String} {v : Value} (O : Ok G K own bytes maxL ret R mn kc ks) (hd : decode bytes pc = .ok (.getfield ix, 3)) (hk : (lay t).2[kf]? = some nd) (w : Jvm.Cond.fieldLink own ix (lay t).1 nd.1 nd.2 ∈ tables_1)
    (hr : fld t kf H i = some v) (hp : pc + 3 = pc') (k : Run G K rv Hf pc' Ls (v :: st) H cells slots) : Run G K rv Hf pc Ls (.ref i :: st) H cells slots := by
  obtain ⟨l, Z, a0, n⟩ := G; obtain ⟨p, e, R', s, m, args, below, meth, c, kc', ks'⟩ := K
  obtain ⟨hx, hZ, hown, hby, hml, hret, hlk, rfl, hnm, rfl, rfl, hw⟩ := O
  subst hp
  intro T locs real X N S A L
  obtain ⟨vs, h1, h2⟩ := Option.bind_eq_some_iff.mp hr
  obtain ⟨B, l1, F⟩ := sim_obj S h1
  obtain ⟨T', X', e', stp⟩ := getF X hx hZ hown (host := "") (Or.inl (hw _ w)) Via.refl rfl (F kf nd v hk h2) (g := mkF m pc real ((.ref i :: st).map (sh n))) rfl rfl (hb hby hd)
  exact Done.step stp (k T' locs real X' N (by rw [e']; exact S) A L)
theorem g_putfield {ix t kf i nn : Nat} {nd : String × String} {v : Value} {ty : FieldType} {H' : List Obj} (O : Ok G K own bytes maxL ret R mn kc ks) (hd : decode bytes pc = .ok (.putfield ix, 3)) (hk : (lay t).2[kf]? = some nd) (w : Jvm.Cond.fieldLink own ix (lay t).1 nd.1 nd.2 ∈ tables_1)
    (w2 : Jvm.Cond.lays (lay t).1 (lay t).1 nd.1 nd.2 ∈ tables_1 ∨ (Jvm.Cond.laysFinal (lay t).1 (lay t).1 nd.1 nd.2 ∈ tables_1 ∧ own = (lay t).1 ∧ mn = "<init>")) (w3 : Jvm.Cond.instantiable (lay t).1 nn ∈ tables_1) (hty : parseFieldDescriptor nd.2 = some ty) (hn : ∀ n, narrow ty (sh n v) = sh n v) (hf : ∀ n, fits ty (sh n v) = true)
    (hr : setF t kf H i v = some H') (hp : pc + 3 = pc') (k : Run G K rv Hf pc' Ls st H' cells slots) : Run G K rv Hf pc Ls (v :: .ref i :: st) H cells slots := by
  obtain ⟨l, Z, a0, n⟩ := G; obtain ⟨p, e, R', s, m, args, below, meth, c, kc', ks'⟩ := K
  obtain ⟨hx, hZ, hown, hby, hml, hret, hlk, rfl, hnm, rfl, rfl, hw⟩ := O
  subst hp
  intro T locs real X N S A L
  obtain ⟨vs, h1, h2⟩ := Option.bind_eq_some_iff.mp hr
  have hkv : kf < vs.length := Decidable.byContradiction fun hkv => by rw [if_neg hkv] at h2; cases h2
  rw [if_pos hkv] at h2
  cases h2
  obtain ⟨B, l1, F⟩ := sim_obj S h1
  obtain ⟨T', h', X', e', W, stp⟩ := putF X hx hZ hown (host := "") (Or.inl (hw _ w)) Via.refl rfl (F kf nd _ hk (List.getElem?_eq_getElem hkv)) B (w2.imp (hw _) fun q => ⟨hw _ q.1, q.2.1, hnm.trans q.2.2⟩) (hw _ w3) hty (hn n) (hf n) (g := mkF m pc real ((v :: .ref i :: st).map (sh n))) rfl rfl (hb hby hd)
  exact Done.step stp (k T' _ real X' (Fr.snoc X' N (Nat.le_add_right _ _)) (by rw [e']; exact sim_put hw S h1 hk W) (by simpa using A) L)
theorem g_objinit {ix i W : Nat} (O : Ok G K own bytes maxL ret R mn kc ks) (hd : decode bytes pc = .ok (.invokespecial ix, 3)) (w1 : Jvm.Cond.methodLink own ix Lib.objectInit ∈ tables_1) (w2 : Jvm.Cond.instanceMethod Lib.objectInit ∈ tables_1) (w3 : Jvm.Cond.code Lib.objectInit ⟨#[0xb1]⟩ 1 none ∈ tables_1)
    (hLs : Ls.length = maxL) (hW : (st.map fun v => v.category).sum = W) (hf : 1 ≤ R.frames) (hl : W + 12 ≤ R.locals) (hp : pc + 3 = pc') (k : Run G K rv Hf pc' Ls st H cells slots) : Run G K rv Hf pc Ls (.ref i :: st) H cells slots := by
  obtain ⟨l, Z, a0, n⟩ := G; obtain ⟨p, e, R', s, m, args, below, meth, c, kc', ks'⟩ := K
  obtain ⟨hx, hZ, hown, hby, hml, hret, hlk, rfl, hnm, rfl, rfl, hw⟩ := O
  subst hp
  intro T locs real X N S A L
  obtain ⟨T', X', e', stp⟩ := initO X hx hZ hown (hw _ w1) (hw _ w2) (hw _ w3) rfl (g := mkF m pc real ((.ref i :: st).map (sh n))) rfl (by show real.size = _; rw [L.1, hml]; exact hLs) rfl (hb hby hd) hf (W := W) (by show 2 * 0 + ((st.map (sh n)).map _).sum ≤ _; rw [List.map_map, ← hW]; simp [Function.comp_def, sh_cat]) hl
  exact Done.step stp (k T' locs real X' N (by rw [e']; exact S) A L)
def Fg : List (Option Value) → List (Option Value) → Prop
  | [], [] => True
  | _ :: a, none :: b => Fg a b
  | x :: a, some v :: b => x = some v ∧ Fg a b
  | [], _ :: _ => False
  | _ :: _, [] => False
theorem Fg.spec : ∀ {A B : List (Option Value)}, Fg A B → A.length = B.length ∧ ∀ (k : Nat) (v : Value), B[k]? = some (some v) → A[k]? = some (some v)
  | [], [], _ => ⟨rfl, fun k v h => h⟩
  | x :: a, none :: b, h => by
    obtain ⟨h1, h2⟩ := Fg.spec (A := a) (B := b) h
    refine ⟨by simp [h1], fun k v hk => ?_⟩
    cases k with
    | zero => simp at hk
    | succ k => simpa using h2 k v (by simpa using hk)
  | x :: a, some w :: b, h => by
    have h' : x = some w ∧ Fg a b := h
    obtain ⟨h1, h2⟩ := Fg.spec (A := a) (B := b) h'.2
    refine ⟨by simp [h1], fun k v hk => ?_⟩
    cases k with
    | zero => simp at hk; simp [h'.1, hk]
    | succ k => simpa using h2 k v (by simpa using hk)
theorem g_forget (h : Fg Ls Ls') (k : Run G K rv Hf pc Ls' st H cells slots) : Run G K rv Hf pc Ls st H cells slots := by
  obtain ⟨l, Z, a0, n⟩ := G; obtain ⟨p, e, R', s, m, args, below, meth, c, kc', ks'⟩ := K
  obtain ⟨h1, h2⟩ := h.spec
  intro T locs real X N S A L
  exact k T locs real X N S A ⟨L.1.trans h1, L.2.1, fun j v hj => L.2.2 j v (h2 j v hj)⟩
/-! calls and returns -/
theorem cat_sum (n : Nat) (st : List Value) : ((st.map (sh n)).map fun v => v.category).sum = (st.map fun v => v.category).sum := by rw [List.map_map]; simp [Function.comp_def, sh_cat]
theorem g_static {ix : Nat} {y : MethodName} {bytes' : ByteArray} {maxL' : Nat} {ret' : Option FieldType} {rm : Room} {as : List Value} {H' : List Obj} {v : Option Value} {ps : List FieldType} {W : Nat} {stk : List Value} (O : Ok G K own bytes maxL ret R mn kc ks) (hd : decode bytes pc = .ok (.invokestatic ix, 3))
    (w1 : Jvm.Cond.methodLink own ix y ∈ tables_1) (w2 : Jvm.Cond.static y ∈ tables_1) (w3 : Jvm.Cond.initialized y.cls ∈ tables_1) (w4 : Jvm.Cond.code y bytes' maxL' ret' ∈ tables_1) (hy : y.cls ≠ "java/lang/invoke/MethodHandle" ∧ y.cls ≠ "java/lang/invoke/VarHandle")
    (pd : parseMethodDescriptor y.desc = some ⟨ps, ret'⟩) (hl : as.length = ps.length) (hstk : stk = as.reverse ++ st) (hLs : Ls.length = maxL) (hW : (st.map fun v => v.category).sum = W) (hf : rm.frames + 1 ≤ R.frames) (hlo : W + (maxL' + 11) + rm.locals ≤ R.locals) {c2 s2 : Nat} (hc2 : cells + rm.cells = c2) (hs2 : slots + rm.slots = s2) (hc : c2 ≤ R.cells) (hs : s2 ≤ R.slots)
    (con : Con G y bytes' maxL' ret' rm as H v H') (hp : pc + 3 = pc') (k : Run G K rv Hf pc' Ls (v.toList ++ st) H' c2 s2) : Run G K rv Hf pc Ls stk H cells slots := by
  obtain ⟨l, Z, a0, n⟩ := G; obtain ⟨p, e, R', s, m, args, below, meth, c, kc', ks'⟩ := K
  obtain ⟨hx, hZ, hown, hby, hml, hret, hlk, rfl, hnm, rfl, rfl, hw⟩ := O
  subst hp hstk hc2 hs2
  intro T locs real X N S A L
  obtain ⟨v', _, ⟨T', L', k', n'⟩, -, X', ⟨Lc, ⟨hv, N', S', hlen⟩, l1, y1, z1⟩, stp⟩ := Jvm.LawKit.callS X hx (y := y) hown (mvT hZ (hw _ w1)) (mvT hZ (hw _ w2)) (mvT hZ (hw _ w3)) (mvT hZ (hw _ w4)) hy (backOf (W := W) (Q := fun u hh LL => u = Option.map (sh n) v ∧ Fr n LL ∧ Sim (l, Z, a0, n) H' hh ∧ H'.length = H.length + rm.cells) (con T.heap S) hZ (hw _ w4) (hw _ w3) hf hlo) (g := mkF m pc real ((as.reverse ++ st).map (sh n))) rfl (by show real.size = _; rw [L.1, hml]; exact hLs)
    (argsL := as.map (sh n)) (rest := st.map (sh n)) (lenOf pd (by simpa using hl)) (by simp) (by show 2 * 0 + _ ≤ _; rw [cat_sum, hW]; exact Nat.le_of_eq (Nat.zero_add _)) (hb hby hd) (fun _ _ => ⟨rfl, rfl, hc, hs⟩)
  dsimp only [Pt.U, Pt.locs, Pt.cells, Pt.slots] at X' l1 y1 z1 stp S' N'
  subst l1 y1 z1 hv
  have k2 := k T' _ real X' (Fr.app N N') S' (by omega) L
  refine Done.step stp ?_
  cases v <;> exact k2
theorem g_special {ix i : Nat} {y : MethodName} {bytes' : ByteArray} {maxL' : Nat} {rm : Room} {as : List Value} {H' : List Obj} {ps : List FieldType} {W : Nat} {stk : List Value} (O : Ok G K own bytes maxL ret R mn kc ks) (hd : decode bytes pc = .ok (.invokespecial ix, 3)) (hy1 : y.name = "<init>")
    (w1 : Jvm.Cond.methodLink own ix y ∈ tables_1) (w2 : Jvm.Cond.instanceMethod y ∈ tables_1) (w3 : Jvm.Cond.initialized y.cls ∈ tables_1) (w4 : Jvm.Cond.code y bytes' maxL' none ∈ tables_1) (hy : y.cls ≠ "java/lang/invoke/MethodHandle" ∧ y.cls ≠ "java/lang/invoke/VarHandle")
    (pd : parseMethodDescriptor y.desc = some ⟨ps, none⟩) (hl : as.length = ps.length) (hstk : stk = as.reverse ++ .ref i :: st) (hLs : Ls.length = maxL) (hW : (st.map fun v => v.category).sum = W) (hf : rm.frames + 1 ≤ R.frames) (hlo : W + (maxL' + 11) + rm.locals ≤ R.locals) {c2 s2 : Nat} (hc2 : cells + rm.cells = c2) (hs2 : slots + rm.slots = s2) (hc : c2 ≤ R.cells) (hs : s2 ≤ R.slots)
    (con : Con G y bytes' maxL' none rm (.ref i :: as) H none H') (hp : pc + 3 = pc') (k : Run G K rv Hf pc' Ls st H' c2 s2) : Run G K rv Hf pc Ls stk H cells slots := by
  obtain ⟨l, Z, a0, n⟩ := G; obtain ⟨p, e, R', s, m, args, below, meth, c, kc', ks'⟩ := K
  obtain ⟨hx, hZ, hown, hby, hml, hret, hlk, rfl, hnm, rfl, rfl, hw⟩ := O
  subst hp hstk hc2 hs2
  intro T locs real X N S A L
  obtain ⟨v', _, ⟨T', L', k', n'⟩, -, X', ⟨Lc, ⟨hv, N', S', hlen⟩, l1, y1, z1⟩, stp⟩ := X.specialBack hx (y := y) hy1 hown (mvT hZ (hw _ w1)) (mvT hZ (hw _ w2)) (mvT hZ (hw _ w4)) hy (backOf (W := W) (Q := fun u hh LL => u = Option.map (sh n) none ∧ Fr n LL ∧ Sim (l, Z, a0, n) H' hh ∧ H'.length = H.length + rm.cells) (con T.heap S) hZ (hw _ w4) (hw _ w3) hf hlo) (g := mkF m pc real ((as.reverse ++ .ref i :: st).map (sh n))) rfl (by show real.size = _; rw [L.1, hml]; exact hLs) (Steps.refl _)
    (a := n + i) (argsL := as.map (sh n)) (rest := st.map (sh n)) (lenOf pd (by simpa using hl)) (by simp [sh]) (by show 2 * 0 + _ ≤ _; rw [cat_sum, hW]; exact Nat.le_of_eq (Nat.zero_add _)) (hb hby hd) (fun _ _ => ⟨rfl, rfl, hc, hs⟩)
  dsimp only [Pt.U, Pt.locs, Pt.cells, Pt.slots] at X' l1 y1 z1 stp S' N'
  subst l1 y1 z1 hv
  exact Done.step (fun t q => stp.trans q) (k T' _ real X' (Fr.app N N') S' (by omega) L)
theorem g_virtual {ix i t : Nat} {y : MethodName} {bytes' : ByteArray} {maxL' : Nat} {ret' : Option FieldType} {rm : Room} {as vs : List Value} {H' : List Obj} {v : Option Value} {ps : List FieldType} {W : Nat} {stk : List Value} (O : Ok G K own bytes maxL ret R mn kc ks) (hd : decode bytes pc = .ok (.invokevirtual ix, 3))
    (w1 : Jvm.Cond.methodLink own ix y ∈ tables_1) (w2 : Jvm.Cond.declares y ∈ tables_1) (w5 : Jvm.Cond.selects (lay t).1 y y ∈ tables_1) (w6 : Jvm.Cond.instanceMethod y ∈ tables_1) (w3 : Jvm.Cond.initialized y.cls ∈ tables_1) (w4 : Jvm.Cond.code y bytes' maxL' ret' ∈ tables_1) (hy : y.cls ≠ "java/lang/invoke/MethodHandle" ∧ y.cls ≠ "java/lang/invoke/VarHandle")
    (ho : obj t H i = some vs) (pd : parseMethodDescriptor y.desc = some ⟨ps, ret'⟩) (hl : as.length = ps.length) (hstk : stk = as.reverse ++ .ref i :: st) (hLs : Ls.length = maxL) (hW : (st.map fun v => v.category).sum = W) (hf : rm.frames + 1 ≤ R.frames) (hlo : W + (maxL' + 11) + rm.locals ≤ R.locals) {c2 s2 : Nat} (hc2 : cells + rm.cells = c2) (hs2 : slots + rm.slots = s2) (hc : c2 ≤ R.cells) (hs : s2 ≤ R.slots)
    (con : Con G y bytes' maxL' ret' rm (.ref i :: as) H v H') (hp : pc + 3 = pc') (k : Run G K rv Hf pc' Ls (v.toList ++ st) H' c2 s2) : Run G K rv Hf pc Ls stk H cells slots := by
  obtain ⟨l, Z, a0, n⟩ := G; obtain ⟨p, e, R', s, m, args, below, meth, c, kc', ks'⟩ := K
  obtain ⟨hx, hZ, hown, hby, hml, hret, hlk, rfl, hnm, rfl, rfl, hw⟩ := O
  subst hp hstk hc2 hs2
  intro T locs real X N S A L
  obtain ⟨cq, kq, qa, qb, qc⟩ := isOf hZ (T := T) rfl (sim_obj S ho).1
  obtain ⟨v', _, ⟨T', L', k', n'⟩, -, X', ⟨Lc, ⟨hv, N', S', hlen⟩, l1, y1, z1⟩, stp⟩ := X.virtualBack hx (y := y) (z := y) hown (mvT hZ (hw _ w1)) (mvT hZ (hw _ w2)) (notFace_of_selects (args := #[]) (mvT hZ (hw _ w5))) (mvT hZ (hw _ w5)) (mvT hZ (hw _ w6)) hy (backOf (W := W) (Q := fun u hh LL => u = Option.map (sh n) v ∧ Fr n LL ∧ Sim (l, Z, a0, n) H' hh ∧ H'.length = H.length + rm.cells) (con T.heap S) hZ (hw _ w4) (hw _ w3) hf hlo) qa qc (g := mkF m pc real ((as.reverse ++ .ref i :: st).map (sh n))) rfl (by show real.size = _; rw [L.1, hml]; exact hLs) (Steps.refl _)
    (argsL := as.map (sh n)) (rest := st.map (sh n)) (lenOf pd (by simpa using hl)) (by simp [sh]) (by show 2 * 0 + _ ≤ _; rw [cat_sum, hW]; exact Nat.le_of_eq (Nat.zero_add _)) (hb hby hd) (fun _ _ => ⟨rfl, rfl, hc, hs⟩)
  dsimp only [Pt.U, Pt.locs, Pt.cells, Pt.slots] at X' l1 y1 z1 stp S' N'
  subst l1 y1 z1 hv
  have k2 := k T' _ real X' (Fr.app N N') S' (by omega) L
  refine Done.step (fun t q => stp.trans q) ?_
  cases v <;> exact k2
theorem g_ret_void (O : Ok G K own bytes maxL none R mn kc ks) (hd : decode bytes pc = .ok (.return_, 1)) (hc : cells = kc) (hs : slots ≤ ks) : Run G K none H pc Ls [] H cells slots := by
  obtain ⟨l, Z, a0, n⟩ := G; obtain ⟨p, e, R', s, m, args, below, meth, c, kc', ks'⟩ := K
  obtain ⟨hx, hZ, hown, hby, hml, hret, hlk, rfl, hnm, rfl, rfl, hw⟩ := O
  intro T locs real X N S A L
  subst hc
  obtain ⟨fs, hr, hrun, hended, hW, hsame⟩ := X.leave (v := none) (fun _ => rfl) hlk
  exact ⟨_, _, X.returnOut hx hret (hb hby hd) hr, hrun, hended, _, _, rfl, ⟨rfl, N, S, A⟩, ⟨_, rfl⟩, hW, hsame.mono (Nat.le_refl _) hs⟩
theorem g_ret_int {x : Int32} (O : Ok G K own bytes maxL (some .int) R mn kc ks) (hd : decode bytes pc = .ok (.ireturn, 1)) (hc : cells = kc) (hs : slots ≤ ks) : Run G K (some (.int x)) H pc Ls (.int x :: st) H cells slots := by
  obtain ⟨l, Z, a0, n⟩ := G; obtain ⟨p, e, R', s, m, args, below, meth, c, kc', ks'⟩ := K
  obtain ⟨hx, hZ, hown, hby, hml, hret, hlk, rfl, hnm, rfl, rfl, hw⟩ := O
  intro T locs real X N S A L
  subst hc
  obtain ⟨fs, hr, hrun, hended, hW, hsame⟩ := X.leave (v := some (.int x)) (fun h => by rw [hret] at h; cases h) hlk
  exact ⟨_, _, retOut X hx hret rfl (Or.inl ⟨rfl, Or.inl rfl, x, rfl⟩) (hb hby hd) hr, hrun, hended, _, _, rfl, ⟨rfl, N, S, A⟩, ⟨_, rfl⟩, hW, hsame.mono (Nat.le_refl _) hs⟩
theorem g_ret_nar {t : FieldType} {x y : Int32} (O : Ok G K own bytes maxL (some t) R mn kc ks) (hd : decode bytes pc = .ok (.ireturn, 1)) (ht : t = .boolean ∨ t = .byte ∨ t = .char ∨ t = .short) (hy : nar t x = y) (hc : cells = kc) (hs : slots ≤ ks) : Run G K (some (.int y)) H pc Ls (.int x :: st) H cells slots := by
  obtain ⟨l, Z, a0, n⟩ := G; obtain ⟨p, e, R', s, m, args, below, meth, c, kc', ks'⟩ := K
  obtain ⟨hx, hZ, hown, hby, hml, hret, hlk, rfl, hnm, rfl, rfl, hw⟩ := O
  intro T locs real X N S A L
  subst hc hy
  obtain ⟨fs, hr, hrun, hended, hW, hsame⟩ := X.leave (v := some (.int (nar t x))) (fun h => by rw [hret] at h; cases h) hlk
  exact ⟨_, _, retN X hx hret ht (hb hby hd) hr, hrun, hended, _, _, rfl, ⟨rfl, N, S, A⟩, ⟨_, rfl⟩, hW, hsame.mono (Nat.le_refl _) hs⟩
theorem g_ret_long {x : Int64} (O : Ok G K own bytes maxL (some .long) R mn kc ks) (hd : decode bytes pc = .ok (.lreturn, 1)) (hc : cells = kc) (hs : slots ≤ ks) : Run G K (some (.long x)) H pc Ls (.long x :: st) H cells slots := by
  obtain ⟨l, Z, a0, n⟩ := G; obtain ⟨p, e, R', s, m, args, below, meth, c, kc', ks'⟩ := K
  obtain ⟨hx, hZ, hown, hby, hml, hret, hlk, rfl, hnm, rfl, rfl, hw⟩ := O
  intro T locs real X N S A L
  subst hc
  obtain ⟨fs, hr, hrun, hended, hW, hsame⟩ := X.leave (v := some (.long x)) (fun h => by rw [hret] at h; cases h) hlk
  exact ⟨_, _, retOut X hx hret rfl (Or.inr (Or.inl ⟨rfl, rfl, x, rfl⟩)) (hb hby hd) hr, hrun, hended, _, _, rfl, ⟨rfl, N, S, A⟩, ⟨_, rfl⟩, hW, hsame.mono (Nat.le_refl _) hs⟩
theorem g_ret_ref {t : FieldType} {i : Nat} (O : Ok G K own bytes maxL (some t) R mn kc ks) (hd : decode bytes pc = .ok (.areturn, 1)) (ht : t.isReference = true) (hn : ∀ a, narrow t (.ref a) = .ref a) (hc : cells = kc) (hs : slots ≤ ks) : Run G K (some (.ref i)) H pc Ls (.ref i :: st) H cells slots := by
  obtain ⟨l, Z, a0, n⟩ := G; obtain ⟨p, e, R', s, m, args, below, meth, c, kc', ks'⟩ := K
  obtain ⟨hx, hZ, hown, hby, hml, hret, hlk, rfl, hnm, rfl, rfl, hw⟩ := O
  intro T locs real X N S A L
  subst hc
  obtain ⟨fs, hr, hrun, hended, hW, hsame⟩ := X.leave (v := some (.ref (n + i))) (fun h => by rw [hret] at h; cases h) hlk
  exact ⟨_, _, retOut X hx hret (hn _) (Or.inr (Or.inr (Or.inr (Or.inr ⟨rfl, ht, rfl⟩)))) (hb hby hd) hr, hrun, hended, _, _, rfl, ⟨rfl, N, S, A⟩, ⟨_, rfl⟩, hW, hsame.mono (Nat.le_refl _) hs⟩
theorem con_of {y : MethodName} {rm : Room} {as : List Value} (hw : ∀ d ∈ tables_1, d.before G.2.2.1 G.2.1 = true) (pn : plainFor y = true) (hL : aloc as maxL = Ls) (body : ∀ K, Ok G K y.cls bytes maxL ret rm y.name rm.cells rm.slots → Run G K rv Hf 0 Ls [] H 0 0) : Con G y bytes maxL ret rm as H rv Hf := by
  obtain ⟨l, Z, a0, n⟩ := G
  intro h0 S0
  refine MetFree.of_bodySF pn hisR ?_
  intro p e s m args below meth c s₁ Bd hml0 hP hK
  obtain ⟨rfl, hZ, rfl⟩ := hP
  have X0 : Stand p l e rm s m _ below meth c s₁ [] 0 0 := Stand.of_body Bd
  have e0 : s₁.heap = s.heap := by rw [Bd.state]; rfl
  have k := body (p, e, rm, s, m, (as.map (sh n)).toArray, below, meth, c, rm.cells, rm.slots) ⟨Bd.exec, hZ, findClass_of_methodNamed Bd.named, Bd.bytes, hml0, Bd.returns, Bd.notSynchronized, rfl, (name_of_methodNamed Bd.named Bd.method).1, rfl, rfl, hw⟩
  subst hL
  obtain ⟨t, o, h1, h2, h3, v, L, h4, ⟨h5, h6, h7, h8⟩, h9⟩ := k s₁ [] _ X0 (Fr.nil n) (by rw [e0]; exact S0) (by rw [Nat.add_zero]; exact S0.1) (entry_rel n as maxL)
  refine ⟨t, o, h1, h2, h3, v, L, h4, ⟨h5, h6, h7, ?_⟩, h9⟩
  have := S0.1
  simp only at this
  omega
/-- the law itself, over an empty own heap -/
theorem law_of {l : Launch} {s : State} {a0 : Array Value} {as : List Value} {k0 k1 : Nat} (hw : ∀ d ∈ tables_1, d.before a0 s = true) (pn : plainFor x = true) (hL : aloc as maxLocals = Ls) (hid : as.map (sh s.heap.size) = as)
    (body : ∀ K, Ok (l, s, a0, s.heap.size) K x.cls code maxLocals Jvm.Pilot.@@N@@.ret room_1 x.name k0 k1 → Run (l, s, a0, s.heap.size) K rv Hf 0 Ls [] [] 0 0) :
    MetFree l x (head1 (Jvm.Cond.code x code maxLocals Jvm.Pilot.@@N@@.ret :: tables_1) room_1) (fun a U => a = as.toArray ∧ s.Warmed39 U.vm ∧ U.heap = s.heap) (fun _ _ _ _ _ => True) (fun _ U o U' => ∃ v L, o = .returned v ∧ (v = rv.map (sh s.heap.size) ∧ Fr s.heap.size L) ∧ FrameEnd U o U' L k0 k1) := by
  refine MetFree.of_bodySF pn hisR ?_
  intro p e U m args below meth c s₁ Bd hml0 hP hK
  obtain ⟨rfl, hZ, hU⟩ := hP
  have X0 : Stand p l e room_1 U m _ below meth c s₁ [] 0 0 := Stand.of_body Bd
  have e0 : s₁.heap = U.heap := by rw [Bd.state]; rfl
  have k := body (p, e, room_1, U, m, as.toArray, below, meth, c, k0, k1) ⟨Bd.exec, hZ, findClass_of_methodNamed Bd.named, Bd.bytes, hml0, Bd.returns, Bd.notSynchronized, rfl, (name_of_methodNamed Bd.named Bd.method).1, rfl, rfl, hw⟩
  subst hL
  have S0 : Sim (l, s, a0, s.heap.size) [] s₁.heap := ⟨by rw [e0, hU]; rfl, fun i o h => by simp at h⟩
  have er := entry_rel s.heap.size as maxLocals
  rw [hid] at er
  obtain ⟨t, o, h1, h2, h3, v, L, h4, ⟨h5, h6, h7, h8⟩, h9⟩ := k s₁ [] _ X0 (Fr.nil _) S0 (by rw [hU]; rfl) er
  exact ⟨t, o, h1, h2, h3, v, L, h4, ⟨h5, h6⟩, h9⟩
theorem Ok.w (O : Ok G K own bytes maxL ret R mn kc ks) : ∀ d ∈ tables_1, d.before G.2.2.1 G.2.1 = true := by
  obtain ⟨l, Z, a0, n⟩ := G; obtain ⟨p, e, R', s, m, args, below, meth, c, kc', ks'⟩ := K
  obtain ⟨-, -, -, -, -, -, -, -, -, -, -, hw⟩ := O
  exact hw
theorem bnd {α β : Type} {o : Option α} {f : α → Option β} {b : β} (h : o.bind f = some b) : ∃ a, o = some a ∧ f a = some b := Option.bind_eq_some_iff.mp h
theorem g_static1 {ix : Nat} {y : MethodName} {bytes' : ByteArray} {maxL' : Nat} {ret' : Option FieldType} {rm : Room} {as : List Value} {H' : List Obj} {v : Value} {ps : List FieldType} {W : Nat} {stk : List Value} (O : Ok G K own bytes maxL ret R mn kc ks) (hd : decode bytes pc = .ok (.invokestatic ix, 3))
    (w1 : Jvm.Cond.methodLink own ix y ∈ tables_1) (w2 : Jvm.Cond.static y ∈ tables_1) (w3 : Jvm.Cond.initialized y.cls ∈ tables_1) (w4 : Jvm.Cond.code y bytes' maxL' ret' ∈ tables_1) (hy : y.cls ≠ "java/lang/invoke/MethodHandle" ∧ y.cls ≠ "java/lang/invoke/VarHandle")
    (pd : parseMethodDescriptor y.desc = some ⟨ps, ret'⟩) (hl : as.length = ps.length) (hstk : stk = as.reverse ++ st) (hLs : Ls.length = maxL) (hW : (st.map fun v => v.category).sum = W) (hf : rm.frames + 1 ≤ R.frames) (hlo : W + (maxL' + 11) + rm.locals ≤ R.locals) {c2 s2 : Nat} (hc2 : cells + rm.cells = c2) (hs2 : slots + rm.slots = s2) (hc : c2 ≤ R.cells) (hs : s2 ≤ R.slots)
    (con : Con G y bytes' maxL' ret' rm as H (some v) H') (hp : pc + 3 = pc') (k : Run G K rv Hf pc' Ls (v :: st) H' c2 s2) : Run G K rv Hf pc Ls stk H cells slots := g_static O hd w1 w2 w3 w4 hy pd hl hstk hLs hW hf hlo hc2 hs2 hc hs con hp k
theorem g_static0 {ix : Nat} {y : MethodName} {bytes' : ByteArray} {maxL' : Nat} {ret' : Option FieldType} {rm : Room} {as : List Value} {H' : List Obj} {ps : List FieldType} {W : Nat} {stk : List Value} (O : Ok G K own bytes maxL ret R mn kc ks) (hd : decode bytes pc = .ok (.invokestatic ix, 3))
    (w1 : Jvm.Cond.methodLink own ix y ∈ tables_1) (w2 : Jvm.Cond.static y ∈ tables_1) (w3 : Jvm.Cond.initialized y.cls ∈ tables_1) (w4 : Jvm.Cond.code y bytes' maxL' ret' ∈ tables_1) (hy : y.cls ≠ "java/lang/invoke/MethodHandle" ∧ y.cls ≠ "java/lang/invoke/VarHandle")
    (pd : parseMethodDescriptor y.desc = some ⟨ps, ret'⟩) (hl : as.length = ps.length) (hstk : stk = as.reverse ++ st) (hLs : Ls.length = maxL) (hW : (st.map fun v => v.category).sum = W) (hf : rm.frames + 1 ≤ R.frames) (hlo : W + (maxL' + 11) + rm.locals ≤ R.locals) {c2 s2 : Nat} (hc2 : cells + rm.cells = c2) (hs2 : slots + rm.slots = s2) (hc : c2 ≤ R.cells) (hs : s2 ≤ R.slots)
    (con : Con G y bytes' maxL' ret' rm as H none H') (hp : pc + 3 = pc') (k : Run G K rv Hf pc' Ls st H' c2 s2) : Run G K rv Hf pc Ls stk H cells slots := g_static O hd w1 w2 w3 w4 hy pd hl hstk hLs hW hf hlo hc2 hs2 hc hs con hp k
theorem g_virtual1 {ix i t : Nat} {y : MethodName} {bytes' : ByteArray} {maxL' : Nat} {ret' : Option FieldType} {rm : Room} {as vs : List Value} {H' : List Obj} {v : Value} {ps : List FieldType} {W : Nat} {stk : List Value} (O : Ok G K own bytes maxL ret R mn kc ks) (hd : decode bytes pc = .ok (.invokevirtual ix, 3))
    (w1 : Jvm.Cond.methodLink own ix y ∈ tables_1) (w2 : Jvm.Cond.declares y ∈ tables_1) (w5 : Jvm.Cond.selects (lay t).1 y y ∈ tables_1) (w6 : Jvm.Cond.instanceMethod y ∈ tables_1) (w3 : Jvm.Cond.initialized y.cls ∈ tables_1) (w4 : Jvm.Cond.code y bytes' maxL' ret' ∈ tables_1) (hy : y.cls ≠ "java/lang/invoke/MethodHandle" ∧ y.cls ≠ "java/lang/invoke/VarHandle")
    (ho : obj t H i = some vs) (pd : parseMethodDescriptor y.desc = some ⟨ps, ret'⟩) (hl : as.length = ps.length) (hstk : stk = as.reverse ++ .ref i :: st) (hLs : Ls.length = maxL) (hW : (st.map fun v => v.category).sum = W) (hf : rm.frames + 1 ≤ R.frames) (hlo : W + (maxL' + 11) + rm.locals ≤ R.locals) {c2 s2 : Nat} (hc2 : cells + rm.cells = c2) (hs2 : slots + rm.slots = s2) (hc : c2 ≤ R.cells) (hs : s2 ≤ R.slots)
    (con : Con G y bytes' maxL' ret' rm (.ref i :: as) H (some v) H') (hp : pc + 3 = pc') (k : Run G K rv Hf pc' Ls (v :: st) H' c2 s2) : Run G K rv Hf pc Ls stk H cells slots := g_virtual O hd w1 w2 w5 w6 w3 w4 hy ho pd hl hstk hLs hW hf hlo hc2 hs2 hc hs con hp k
theorem g_virtual0 {ix i t : Nat} {y : MethodName} {bytes' : ByteArray} {maxL' : Nat} {ret' : Option FieldType} {rm : Room} {as vs : List Value} {H' : List Obj} {ps : List FieldType} {W : Nat} {stk : List Value} (O : Ok G K own bytes maxL ret R mn kc ks) (hd : decode bytes pc = .ok (.invokevirtual ix, 3))
    (w1 : Jvm.Cond.methodLink own ix y ∈ tables_1) (w2 : Jvm.Cond.declares y ∈ tables_1) (w5 : Jvm.Cond.selects (lay t).1 y y ∈ tables_1) (w6 : Jvm.Cond.instanceMethod y ∈ tables_1) (w3 : Jvm.Cond.initialized y.cls ∈ tables_1) (w4 : Jvm.Cond.code y bytes' maxL' ret' ∈ tables_1) (hy : y.cls ≠ "java/lang/invoke/MethodHandle" ∧ y.cls ≠ "java/lang/invoke/VarHandle")
    (ho : obj t H i = some vs) (pd : parseMethodDescriptor y.desc = some ⟨ps, ret'⟩) (hl : as.length = ps.length) (hstk : stk = as.reverse ++ .ref i :: st) (hLs : Ls.length = maxL) (hW : (st.map fun v => v.category).sum = W) (hf : rm.frames + 1 ≤ R.frames) (hlo : W + (maxL' + 11) + rm.locals ≤ R.locals) {c2 s2 : Nat} (hc2 : cells + rm.cells = c2) (hs2 : slots + rm.slots = s2) (hc : c2 ≤ R.cells) (hs : s2 ≤ R.slots)
    (con : Con G y bytes' maxL' ret' rm (.ref i :: as) H none H') (hp : pc + 3 = pc') (k : Run G K rv Hf pc' Ls st H' c2 s2) : Run G K rv Hf pc Ls stk H cells slots := g_virtual O hd w1 w2 w5 w6 w3 w4 hy ho pd hl hstk hLs hW hf hlo hc2 hs2 hc hs con hp k
/-- clone() of an int[] -/
def cloneI (cap : Nat) (H : List Obj) (i : Nat) : Option (List Obj) := (arr .int H i).bind fun vs => if vs.length ≤ cap ∧ vs.all (fun v => (getI v).isSome) = true then some (H ++ [.inl (.int, vs)]) else none
theorem g_cloneI {ix i cap W : Nat} {H' : List Obj} (O : Ok G K own bytes maxL ret R mn kc ks) (hd : decode bytes pc = .ok (.invokevirtual ix, 3)) (w1 : Jvm.Cond.methodLink own ix (⟨"[I", "clone", "()Ljava/lang/Object;"⟩ : MethodName) ∈ tables_1) (w2 : Jvm.Cond.sameMethod "[I" "java/lang/Object" "clone" "()Ljava/lang/Object;" ∈ tables_1) (w3 : Jvm.Cond.native (⟨"java/lang/Object", "clone", "()Ljava/lang/Object;"⟩ : MethodName) ∈ tables_1)
    (w4 : Jvm.Cond.instanceMethod (⟨"java/lang/Object", "clone", "()Ljava/lang/Object;"⟩ : MethodName) ∈ tables_1) (w5 : Jvm.Cond.selects "[I" (⟨"[I", "clone", "()Ljava/lang/Object;"⟩ : MethodName) (⟨"java/lang/Object", "clone", "()Ljava/lang/Object;"⟩ : MethodName) ∈ tables_1) (w6 : Jvm.Cond.castable "[I" "java/lang/Cloneable" ∈ tables_1) (hr : cloneI cap H i = some H')
    (hLs : Ls.length = maxL) (hW : (st.map fun v => v.category).sum = W) (hf : 1 ≤ R.frames) (hl : W + 14 ≤ R.locals) {c2 s2 : Nat} (hc2 : cells + 1 = c2) (hs2 : slots + cap = s2) (hc : c2 ≤ R.cells) (hs : s2 ≤ R.slots) (hp : pc + 3 = pc')
    (k : Run G K rv Hf pc' Ls (.ref H.length :: st) H' c2 s2) : Run G K rv Hf pc Ls (.ref i :: st) H cells slots := by
  obtain ⟨l, Z, a0, n⟩ := G; obtain ⟨p, e, R', s, m, args, below, meth, c, kc', ks'⟩ := K
  obtain ⟨hx, hZ, hown, hby, hml, hret, hlk, rfl, hnm, rfl, rfl, hw⟩ := O
  subst hp hc2 hs2
  intro T locs real X N S A L
  obtain ⟨vs, h1, h2⟩ := bnd hr
  have hv : vs.length ≤ cap ∧ vs.all (fun v => (getI v).isSome) = true := Decidable.byContradiction fun hv => by rw [if_neg hv] at h2; cases h2
  rw [if_pos hv] at h2
  cases h2
  obtain ⟨EX, cl, B, es⟩ := S.2 i _ (arr_e h1)
  have FC : FitC Z cl := fitC_of B fun j hj v hjv => by
    rw [es] at hjv
    simp only [List.getElem?_toArray, List.getElem?_map, Option.map_eq_some_iff] at hjv
    obtain ⟨u, q1, q2⟩ := hjv
    have := List.all_eq_true.mp hv.2 u (List.mem_of_getElem? q1)
    cases u <;> simp [getI] at this
    rw [← q2]; rfl
  obtain ⟨T', h', X', e', E, B', EX', stp⟩ := cloneA X hx hZ hown (hw _ w1) (hw _ w2) (hw _ w3) (hw _ w4) (hw _ w5) (hw _ w6) rfl B EX FC (g := mkF m pc real ((.ref i :: st).map (sh n))) rfl (by show real.size = _; rw [L.1, hml]; exact hLs) rfl (hb hby hd) hf (W := W) (cap := cap) (by show 2 * 0 + _ ≤ _; rw [cat_sum, hW]; exact Nat.le_of_eq (Nat.zero_add _)) hl (by rw [sl_len es]; exact hv.1) hc hs
  have hsz : h'.size = T.heap.size + 1 := by
    have a1 : Array.size T.heap < Array.size h' := B'.lt
    have a2 : Array.size T'.heap ≤ Array.size s.heap + (cells + 1) := X'.heapSize
    rw [e'] at a2
    have a3 : Array.size T.heap = n + H.length := S.1
    have a4 : Array.size s.heap + cells = n + H.length := A
    omega
  have ea : T.heap.size = n + H.length := S.1
  have S' : Sim (l, Z, a0, n) (H ++ [.inl (.int, vs)]) T'.heap := by
    rw [e']
    exact sim_ext S E hsz ⟨EX', _, B', es⟩
  refine Done.step stp ?_
  have k' := k T' locs real X' N S' (by simp only [List.length_append, List.length_singleton] at A ⊢; omega) L
  rw [ea]
  exact k'
theorem g_checkcastI {ix i : Nat} {vs : List Value} (O : Ok G K own bytes maxL ret R mn kc ks) (hd : decode bytes pc = .ok (.checkcast ix, 3)) (w1 : Jvm.Cond.classLink own ix "[I" ∈ tables_1) (ha : arr .int H i = some vs) (hp : pc + 3 = pc')
    (k : Run G K rv Hf pc' Ls (.ref i :: st) H cells slots) : Run G K rv Hf pc Ls (.ref i :: st) H cells slots := by
  obtain ⟨l, Z, a0, n⟩ := G; obtain ⟨p, e, R', s, m, args, below, meth, c, kc', ks'⟩ := K
  obtain ⟨hx, hZ, hown, hby, hml, hret, hlk, rfl, hnm, rfl, rfl, hw⟩ := O
  subst hp
  intro T locs real X N S A L
  obtain ⟨EX, cl, B, es⟩ := S.2 i _ (arr_e ha)
  obtain ⟨T', X', e', stp⟩ := castY X hx hZ hown (hw _ w1) rfl (Ins.self EX) (g := mkF m pc real ((.ref i :: st).map (sh n))) rfl rfl (hb hby hd)
  exact Done.step stp (k T' locs real X' N (by rw [e']; exact S) A L)
end Laws
/-! small facts on numbers -/
theorem own_n0 : nar .boolean 0 = 0 := rfl
theorem own_n1 : nar .boolean 1 = 1 := rfl
theorem own_fin {r : Int32} {N : Nat} (h0 : 0 ≤ r.toInt) (h1 : r.toInt < N) (hN : N ≤ 2147483648) : ∃ j : Fin N, r = (j.1).toInt32 := by
  refine ⟨⟨r.toInt.toNat, by omega⟩, Int32.toInt_inj.mp ?_⟩
  show r.toInt = (r.toInt.toNat).toInt32.toInt
  rw [len_toInt (by show r.toInt.toNat < 2 ^ 31; omega)]
  omega
theorem own_lt {x y : Int32} : x < y ↔ x.toInt < y.toInt := Int32.lt_iff_toInt_lt
theorem own_le {x y : Int32} : x ≤ y ↔ x.toInt ≤ y.toInt := Int32.le_iff_toInt_le
theorem own_eq {x y : Int32} : x = y ↔ x.toInt = y.toInt := Int32.toInt_inj.symm
theorem own_ltL {x y : Int64} : x < y ↔ x.toInt < y.toInt := Int64.lt_iff_toInt_lt
theorem own_eqL {x y : Int64} : x = y ↔ x.toInt = y.toInt := Int64.toInt_inj.symm
/-- x & (2^31 - 1), then a remainder by a small number -/
theorem own_m31 (a : Int32) : (a &&& 2147483647).toInt = a.toInt % 2147483648 := c_mask a 2147483647 31 (by decide) (by decide)
theorem own_mod {a y : Int32} {d : Int} (hy : y.toInt = d) (h : 0 ≤ a.toInt) : (a % y).toInt = a.toInt % d := (c_irem a y d hy).1 h

/-! body 1 -/
theorem d1_0 : decode method_2_code 0 = .ok (.iload_n 0, 1) := by decide +kernel
theorem d1_1 : decode method_2_code 1 = .ok (.iload_n 1, 1) := by decide +kernel
theorem d1_2 : decode method_2_code 2 = .ok (.if_icmp .lt 12, 3) := by decide +kernel
theorem d1_5 : decode method_2_code 5 = .ok (.iload_n 0, 1) := by decide +kernel
theorem d1_6 : decode method_2_code 6 = .ok (.iload_n 2, 1) := by decide +kernel
theorem d1_7 : decode method_2_code 7 = .ok (.if_icmp .gt 7, 3) := by decide +kernel
theorem d1_10 : decode method_2_code 10 = .ok (.iconst 1, 1) := by decide +kernel
theorem d1_11 : decode method_2_code 11 = .ok (.goto 4, 3) := by decide +kernel
theorem d1_14 : decode method_2_code 14 = .ok (.iconst 0, 1) := by decide +kernel
theorem d1_15 : decode method_2_code 15 = .ok (.ireturn, 1) := by decide +kernel
theorem pd1 : parseMethodDescriptor "(III)Z" = some ⟨[.int, .int, .int], some .boolean⟩ := by decide +kernel
theorem pn1 : plainFor (⟨"shelfmark/XmlCharsDecodePinLaw", "in", "(III)Z"⟩ : MethodName) = true := by first | exact plainFor_of_name (by first | (simp [plainName, overriddenIn]; done) | decide +kernel) | decide +kernel
abbrev rm1 : Room := { frames := 0, cells := 0, slots := 0, locals := 0 }
abbrev Ok1 (G : Gx) (K : Kx) : Prop := Ok G K "shelfmark/XmlCharsDecodePinLaw" method_2_code 3 (Option.some FieldType.boolean) rm1 "in" 0 0
def m1_b15 (t0 : Int32) : Int32 :=
  (nar .boolean t0)
theorem m1_t15 {G : Gx} {K : Kx} (O : Ok1 G K) (t0 : Int32) (H : List Obj) : Run G K (some (.int (m1_b15 t0))) H 15 [none, none, none] [(.int t0)] H 0 0 := by
  unfold m1_b15
  exact g_ret_nar O d1_15 (by simp) rfl rfl (by decide)
def m1_b14 : Int32 :=
  m1_b15 (0 : Int32)
theorem m1_t14 {G : Gx} {K : Kx} (O : Ok1 G K) (H : List Obj) : Run G K (some (.int (m1_b14))) H 14 [none, none, none] [] H 0 0 := by
  unfold m1_b14
  refine g_iconst O (pc' := 15) d1_14 (v := 0) (by decide) rfl ?_
  exact m1_t15 O (0 : Int32) H
def m1_b0 (v0 : Int32) (v1 : Int32) (v2 : Int32) : Int32 :=
  if v0 < v1 then
    m1_b14
  else
    if v2 < v0 then
      m1_b14
    else
      m1_b15 (1 : Int32)
theorem m1_t0 {G : Gx} {K : Kx} (O : Ok1 G K) (v0 : Int32) (v1 : Int32) (v2 : Int32) (H : List Obj) : Run G K (some (.int (m1_b0 v0 v1 v2))) H 0 [some (.int v0), some (.int v1), some (.int v2)] [] H 0 0 := by
  unfold m1_b0
  refine g_iload_n O (pc' := 1) d1_0 (v := v0) rfl rfl ?_
  refine g_iload_n O (pc' := 2) d1_1 (v := v1) rfl rfl ?_
  refine g_icmp_lt O (pc' := 5) d1_2 rfl (by decide) (pc1 := 14) (by decide) (fun h2 => ?_) (fun h2 => ?_)
  · rw [if_pos h2]
    refine g_forget (Ls' := [none, none, none]) trivial ?_
    exact m1_t14 O H
  · rw [if_neg h2]
    refine g_iload_n O (pc' := 6) d1_5 (v := v0) rfl rfl ?_
    refine g_iload_n O (pc' := 7) d1_6 (v := v2) rfl rfl ?_
    refine g_icmp_gt O (pc' := 10) d1_7 rfl (by decide) (pc1 := 14) (by decide) (fun h7 => ?_) (fun h7 => ?_)
    · rw [if_pos h7]
      refine g_forget (Ls' := [none, none, none]) trivial ?_
      exact m1_t14 O H
    · rw [if_neg h7]
      refine g_iconst O (pc' := 11) d1_10 (v := 1) (by decide) rfl ?_
      refine g_goto O d1_11 (by decide) (pc' := 15) (by decide) ?_
      refine g_forget (Ls' := [none, none, none]) trivial ?_
      exact m1_t15 O (1 : Int32) H
abbrev m1 (v0 : Int32) (v1 : Int32) (v2 : Int32) : Int32 := m1_b0 v0 v1 v2
theorem con1 {G : Gx} (hw : ∀ d ∈ tables_1, d.before G.2.2.1 G.2.1 = true) (v0 : Int32) (v1 : Int32) (v2 : Int32) (H : List Obj) : Con G (⟨"shelfmark/XmlCharsDecodePinLaw", "in", "(III)Z"⟩ : MethodName) method_2_code 3 (Option.some FieldType.boolean) rm1 [(.int v0), (.int v1), (.int v2)] H (some (.int (m1 v0 v1 v2))) H :=
  con_of hw pn1 rfl fun K O => m1_t0 O v0 v1 v2 H

/-! body 2 -/
theorem d2_0 : decode prog_77_method_2_code 0 = .ok (.aload_n 0, 1) := by decide +kernel
theorem d2_1 : decode prog_77_method_2_code 1 = .ok (.iload_n 1, 1) := by decide +kernel
theorem d2_2 : decode prog_77_method_2_code 2 = .ok (.baload, 1) := by decide +kernel
theorem d2_3 : decode prog_77_method_2_code 3 = .ok (.sipush 255, 3) := by decide +kernel
theorem d2_6 : decode prog_77_method_2_code 6 = .ok (.iand, 1) := by decide +kernel
theorem d2_7 : decode prog_77_method_2_code 7 = .ok (.istore_n 3, 1) := by decide +kernel
theorem d2_8 : decode prog_77_method_2_code 8 = .ok (.iload_n 3, 1) := by decide +kernel
theorem d2_9 : decode prog_77_method_2_code 9 = .ok (.sipush 194, 3) := by decide +kernel
theorem d2_12 : decode prog_77_method_2_code 12 = .ok (.if_icmp .lt 10, 3) := by decide +kernel
theorem d2_15 : decode prog_77_method_2_code 15 = .ok (.iload_n 3, 1) := by decide +kernel
theorem d2_16 : decode prog_77_method_2_code 16 = .ok (.sipush 244, 3) := by decide +kernel
theorem d2_19 : decode prog_77_method_2_code 19 = .ok (.if_icmp .le 5, 3) := by decide +kernel
theorem d2_22 : decode prog_77_method_2_code 22 = .ok (.iconst (-1), 1) := by decide +kernel
theorem d2_23 : decode prog_77_method_2_code 23 = .ok (.ireturn, 1) := by decide +kernel
theorem d2_24 : decode prog_77_method_2_code 24 = .ok (.iload_n 3, 1) := by decide +kernel
theorem d2_25 : decode prog_77_method_2_code 25 = .ok (.sipush 224, 3) := by decide +kernel
theorem d2_28 : decode prog_77_method_2_code 28 = .ok (.if_icmp .ge 14, 3) := by decide +kernel
theorem d2_31 : decode prog_77_method_2_code 31 = .ok (.iconst 2, 1) := by decide +kernel
theorem d2_32 : decode prog_77_method_2_code 32 = .ok (.istore 4, 2) := by decide +kernel
theorem d2_34 : decode prog_77_method_2_code 34 = .ok (.sipush 128, 3) := by decide +kernel
theorem d2_37 : decode prog_77_method_2_code 37 = .ok (.istore 5, 2) := by decide +kernel
theorem d2_39 : decode prog_77_method_2_code 39 = .ok (.goto 28, 3) := by decide +kernel
theorem d2_42 : decode prog_77_method_2_code 42 = .ok (.iload_n 3, 1) := by decide +kernel
theorem d2_43 : decode prog_77_method_2_code 43 = .ok (.sipush 240, 3) := by decide +kernel
theorem d2_46 : decode prog_77_method_2_code 46 = .ok (.if_icmp .ge 14, 3) := by decide +kernel
theorem d2_49 : decode prog_77_method_2_code 49 = .ok (.iconst 3, 1) := by decide +kernel
theorem d2_50 : decode prog_77_method_2_code 50 = .ok (.istore 4, 2) := by decide +kernel
theorem d2_52 : decode prog_77_method_2_code 52 = .ok (.sipush 2048, 3) := by decide +kernel
theorem d2_55 : decode prog_77_method_2_code 55 = .ok (.istore 5, 2) := by decide +kernel
theorem d2_57 : decode prog_77_method_2_code 57 = .ok (.goto 10, 3) := by decide +kernel
theorem d2_60 : decode prog_77_method_2_code 60 = .ok (.iconst 4, 1) := by decide +kernel
theorem d2_61 : decode prog_77_method_2_code 61 = .ok (.istore 4, 2) := by decide +kernel
theorem d2_63 : decode prog_77_method_2_code 63 = .ok (.ldc 9, 2) := by decide +kernel
theorem d2_65 : decode prog_77_method_2_code 65 = .ok (.istore 5, 2) := by decide +kernel
theorem d2_67 : decode prog_77_method_2_code 67 = .ok (.iload_n 1, 1) := by decide +kernel
theorem d2_68 : decode prog_77_method_2_code 68 = .ok (.iload 4, 2) := by decide +kernel
theorem d2_70 : decode prog_77_method_2_code 70 = .ok (.iadd, 1) := by decide +kernel
theorem d2_71 : decode prog_77_method_2_code 71 = .ok (.iload_n 2, 1) := by decide +kernel
theorem d2_72 : decode prog_77_method_2_code 72 = .ok (.if_icmp .le 6, 3) := by decide +kernel
theorem d2_75 : decode prog_77_method_2_code 75 = .ok (.bipush (-2), 2) := by decide +kernel
theorem d2_77 : decode prog_77_method_2_code 77 = .ok (.ireturn, 1) := by decide +kernel
theorem d2_78 : decode prog_77_method_2_code 78 = .ok (.iload_n 3, 1) := by decide +kernel
theorem d2_79 : decode prog_77_method_2_code 79 = .ok (.bipush 127, 2) := by decide +kernel
theorem d2_81 : decode prog_77_method_2_code 81 = .ok (.iload 4, 2) := by decide +kernel
theorem d2_83 : decode prog_77_method_2_code 83 = .ok (.ishr, 1) := by decide +kernel
theorem d2_84 : decode prog_77_method_2_code 84 = .ok (.iand, 1) := by decide +kernel
theorem d2_85 : decode prog_77_method_2_code 85 = .ok (.istore 6, 2) := by decide +kernel
theorem d2_87 : decode prog_77_method_2_code 87 = .ok (.iload_n 1, 1) := by decide +kernel
theorem d2_88 : decode prog_77_method_2_code 88 = .ok (.iconst 1, 1) := by decide +kernel
theorem d2_89 : decode prog_77_method_2_code 89 = .ok (.iadd, 1) := by decide +kernel
theorem d2_90 : decode prog_77_method_2_code 90 = .ok (.istore 7, 2) := by decide +kernel
theorem d2_92 : decode prog_77_method_2_code 92 = .ok (.iload 7, 2) := by decide +kernel
theorem d2_94 : decode prog_77_method_2_code 94 = .ok (.iload_n 1, 1) := by decide +kernel
theorem d2_95 : decode prog_77_method_2_code 95 = .ok (.iload 4, 2) := by decide +kernel
theorem d2_97 : decode prog_77_method_2_code 97 = .ok (.iadd, 1) := by decide +kernel
theorem d2_98 : decode prog_77_method_2_code 98 = .ok (.if_icmp .ge 46, 3) := by decide +kernel
theorem d2_101 : decode prog_77_method_2_code 101 = .ok (.aload_n 0, 1) := by decide +kernel
theorem d2_102 : decode prog_77_method_2_code 102 = .ok (.iload 7, 2) := by decide +kernel
theorem d2_104 : decode prog_77_method_2_code 104 = .ok (.baload, 1) := by decide +kernel
theorem d2_105 : decode prog_77_method_2_code 105 = .ok (.sipush 255, 3) := by decide +kernel
theorem d2_108 : decode prog_77_method_2_code 108 = .ok (.iand, 1) := by decide +kernel
theorem d2_109 : decode prog_77_method_2_code 109 = .ok (.istore 8, 2) := by decide +kernel
theorem d2_111 : decode prog_77_method_2_code 111 = .ok (.iload 8, 2) := by decide +kernel
theorem d2_113 : decode prog_77_method_2_code 113 = .ok (.sipush 192, 3) := by decide +kernel
theorem d2_116 : decode prog_77_method_2_code 116 = .ok (.iand, 1) := by decide +kernel
theorem d2_117 : decode prog_77_method_2_code 117 = .ok (.sipush 128, 3) := by decide +kernel
theorem d2_120 : decode prog_77_method_2_code 120 = .ok (.if_icmp .eq 5, 3) := by decide +kernel
theorem d2_123 : decode prog_77_method_2_code 123 = .ok (.iconst (-1), 1) := by decide +kernel
theorem d2_124 : decode prog_77_method_2_code 124 = .ok (.ireturn, 1) := by decide +kernel
theorem d2_125 : decode prog_77_method_2_code 125 = .ok (.iload 6, 2) := by decide +kernel
theorem d2_127 : decode prog_77_method_2_code 127 = .ok (.bipush 6, 2) := by decide +kernel
theorem d2_129 : decode prog_77_method_2_code 129 = .ok (.ishl, 1) := by decide +kernel
theorem d2_130 : decode prog_77_method_2_code 130 = .ok (.iload 8, 2) := by decide +kernel
theorem d2_132 : decode prog_77_method_2_code 132 = .ok (.bipush 63, 2) := by decide +kernel
theorem d2_134 : decode prog_77_method_2_code 134 = .ok (.iand, 1) := by decide +kernel
theorem d2_135 : decode prog_77_method_2_code 135 = .ok (.ior, 1) := by decide +kernel
theorem d2_136 : decode prog_77_method_2_code 136 = .ok (.istore 6, 2) := by decide +kernel
theorem d2_138 : decode prog_77_method_2_code 138 = .ok (.iinc 7 1, 3) := by decide +kernel
theorem d2_141 : decode prog_77_method_2_code 141 = .ok (.goto (-49), 3) := by decide +kernel
theorem d2_144 : decode prog_77_method_2_code 144 = .ok (.iload 6, 2) := by decide +kernel
theorem d2_146 : decode prog_77_method_2_code 146 = .ok (.iload 5, 2) := by decide +kernel
theorem d2_148 : decode prog_77_method_2_code 148 = .ok (.if_icmp .lt 24, 3) := by decide +kernel
theorem d2_151 : decode prog_77_method_2_code 151 = .ok (.iload 6, 2) := by decide +kernel
theorem d2_153 : decode prog_77_method_2_code 153 = .ok (.ldc 10, 2) := by decide +kernel
theorem d2_155 : decode prog_77_method_2_code 155 = .ok (.if_icmp .gt 17, 3) := by decide +kernel
theorem d2_158 : decode prog_77_method_2_code 158 = .ok (.iload 6, 2) := by decide +kernel
theorem d2_160 : decode prog_77_method_2_code 160 = .ok (.ldc 11, 2) := by decide +kernel
theorem d2_162 : decode prog_77_method_2_code 162 = .ok (.if_icmp .lt 12, 3) := by decide +kernel
theorem d2_165 : decode prog_77_method_2_code 165 = .ok (.iload 6, 2) := by decide +kernel
theorem d2_167 : decode prog_77_method_2_code 167 = .ok (.ldc 12, 2) := by decide +kernel
theorem d2_169 : decode prog_77_method_2_code 169 = .ok (.if_icmp .gt 5, 3) := by decide +kernel
theorem d2_172 : decode prog_77_method_2_code 172 = .ok (.iconst (-1), 1) := by decide +kernel
theorem d2_173 : decode prog_77_method_2_code 173 = .ok (.ireturn, 1) := by decide +kernel
theorem d2_174 : decode prog_77_method_2_code 174 = .ok (.iload 6, 2) := by decide +kernel
theorem d2_176 : decode prog_77_method_2_code 176 = .ok (.iconst 3, 1) := by decide +kernel
theorem d2_177 : decode prog_77_method_2_code 177 = .ok (.ishl, 1) := by decide +kernel
theorem d2_178 : decode prog_77_method_2_code 178 = .ok (.iload 4, 2) := by decide +kernel
theorem d2_180 : decode prog_77_method_2_code 180 = .ok (.ior, 1) := by decide +kernel
theorem d2_181 : decode prog_77_method_2_code 181 = .ok (.ireturn, 1) := by decide +kernel
theorem pd2 : parseMethodDescriptor "([BII)I" = some ⟨[.array .byte, .int, .int], some .int⟩ := by decide +kernel
theorem pn2 : plainFor (⟨"shelfmark/XmlChars", "decode", "([BII)I"⟩ : MethodName) = true := by first | exact plainFor_of_name (by first | (simp [plainName, overriddenIn]; done) | decide +kernel) | decide +kernel
abbrev rm2 : Room := { frames := 0, cells := 0, slots := 0, locals := 0 }
abbrev Ok2 (G : Gx) (K : Kx) : Prop := Ok G K "shelfmark/XmlChars" prog_77_method_2_code 9 (Option.some FieldType.int) rm2 "decode" 0 0
def m2_b22 (H : List Obj) : Option (Int32 × List Obj) :=
  some ((-1 : Int32), H)
theorem m2_t22 {G : Gx} {K : Kx} (O : Ok2 G K) (H : List Obj) (r : Int32) (Hf : List Obj) (hf : m2_b22 H = some (r, Hf)) : Run G K (some (.int r)) Hf 22 [none, none, none, none, none, none, none, none, none] [] H 0 0 := by
  unfold m2_b22 at hf
  refine g_iconst O (pc' := 23) d2_22 (v := -1) (by decide) rfl ?_
  cases hf
  exact g_ret_int O d2_23 rfl (by decide)
def m2_b172 (H : List Obj) : Option (Int32 × List Obj) :=
  some ((-1 : Int32), H)
theorem m2_t172 {G : Gx} {K : Kx} (O : Ok2 G K) (H : List Obj) (r : Int32) (Hf : List Obj) (hf : m2_b172 H = some (r, Hf)) : Run G K (some (.int r)) Hf 172 [none, none, none, none, none, none, none, none, none] [] H 0 0 := by
  unfold m2_b172 at hf
  refine g_iconst O (pc' := 173) d2_172 (v := -1) (by decide) rfl ?_
  cases hf
  exact g_ret_int O d2_173 rfl (by decide)
def m2_b174 (v4 : Int32) (v6 : Int32) (H : List Obj) : Option (Int32 × List Obj) :=
  some (((v6 <<< ((3 : Int32) &&& 31)) ||| v4), H)
theorem m2_t174 {G : Gx} {K : Kx} (O : Ok2 G K) (v4 : Int32) (v6 : Int32) (H : List Obj) (r : Int32) (Hf : List Obj) (hf : m2_b174 v4 v6 H = some (r, Hf)) : Run G K (some (.int r)) Hf 174 [none, none, none, none, some (.int v4), none, some (.int v6), none, none] [] H 0 0 := by
  unfold m2_b174 at hf
  refine g_iload O (pc' := 176) d2_174 (v := v6) rfl rfl ?_
  refine g_iconst O (pc' := 177) d2_176 (v := 3) (by decide) rfl ?_
  refine g_ishl O (pc' := 178) d2_177 rfl ?_
  refine g_iload O (pc' := 180) d2_178 (v := v4) rfl rfl ?_
  refine g_ior O (pc' := 181) d2_180 rfl ?_
  cases hf
  exact g_ret_int O d2_181 rfl (by decide)
def m2_b92 : Nat → Nat → Int32 → Int32 → Int32 → Int32 → Int32 → List Obj → Option (Int32 × List Obj)
  | 0, _, _, _, _, _, _, _ => none
  | n + 1, v0, v1, v4, v5, v6, v7, H =>
    if v7 < (v1 + v4) then
      (rdI .byte H v0 v7).bind fun x104 =>
      if ((x104 &&& (255 : Int32)) &&& (192 : Int32)) = (128 : Int32) then
        m2_b92 n v0 v1 v4 v5 ((v6 <<< ((6 : Int32) &&& 31)) ||| ((x104 &&& (255 : Int32)) &&& (63 : Int32))) (v7 + (1 : Int32)) H
      else
        some ((-1 : Int32), H)
    else
      if v6 < v5 then
        m2_b172 H
      else
        if (1114111 : Int32) < v6 then
          m2_b172 H
        else
          if v6 < (55296 : Int32) then
            m2_b174 v4 v6 H
          else
            if (57343 : Int32) < v6 then
              m2_b174 v4 v6 H
            else
              m2_b172 H
theorem m2_t92 {G : Gx} {K : Kx} (O : Ok2 G K) : ∀ (n : Nat) (v0 : Nat) (v1 : Int32) (v4 : Int32) (v5 : Int32) (v6 : Int32) (v7 : Int32) (H : List Obj) (r : Int32) (Hf : List Obj), m2_b92 n v0 v1 v4 v5 v6 v7 H = some (r, Hf) → Run G K (some (.int r)) Hf 92 [some (.ref v0), some (.int v1), none, none, some (.int v4), some (.int v5), some (.int v6), some (.int v7), none] [] H 0 0 := by
  intro n
  induction n with
  | zero => intro v0 v1 v4 v5 v6 v7 H r Hf hf; cases hf
  | succ n ih =>
    intro v0 v1 v4 v5 v6 v7 H r Hf hf
    rw [m2_b92] at hf
    refine g_iload O (pc' := 94) d2_92 (v := v7) rfl rfl ?_
    refine g_iload_n O (pc' := 95) d2_94 (v := v1) rfl rfl ?_
    refine g_iload O (pc' := 97) d2_95 (v := v4) rfl rfl ?_
    refine g_iadd O (pc' := 98) d2_97 rfl ?_
    refine g_icmp_ge O (pc' := 101) d2_98 rfl (by decide) (pc1 := 144) (by decide) (fun h98 => ?_) (fun h98 => ?_)
    · rw [if_neg h98] at hf
      refine g_iload O (pc' := 146) d2_144 (v := v6) rfl rfl ?_
      refine g_iload O (pc' := 148) d2_146 (v := v5) rfl rfl ?_
      refine g_icmp_lt O (pc' := 151) d2_148 rfl (by decide) (pc1 := 172) (by decide) (fun h148 => ?_) (fun h148 => ?_)
      · rw [if_pos h148] at hf
        refine g_forget (Ls' := [none, none, none, none, none, none, none, none, none]) trivial ?_
        exact m2_t172 O H _ _ hf
      · rw [if_neg h148] at hf
        refine g_iload O (pc' := 153) d2_151 (v := v6) rfl rfl ?_
        refine g_ldc O (pc' := 155) d2_153 tw11 rfl ?_
        refine g_icmp_gt O (pc' := 158) d2_155 rfl (by decide) (pc1 := 172) (by decide) (fun h155 => ?_) (fun h155 => ?_)
        · rw [if_pos h155] at hf
          refine g_forget (Ls' := [none, none, none, none, none, none, none, none, none]) trivial ?_
          exact m2_t172 O H _ _ hf
        · rw [if_neg h155] at hf
          refine g_iload O (pc' := 160) d2_158 (v := v6) rfl rfl ?_
          refine g_ldc O (pc' := 162) d2_160 tw12 rfl ?_
          refine g_icmp_lt O (pc' := 165) d2_162 rfl (by decide) (pc1 := 174) (by decide) (fun h162 => ?_) (fun h162 => ?_)
          · rw [if_pos h162] at hf
            refine g_forget (Ls' := [none, none, none, none, some (.int v4), none, some (.int v6), none, none]) (And.intro rfl (And.intro rfl trivial)) ?_
            exact m2_t174 O v4 v6 H _ _ hf
          · rw [if_neg h162] at hf
            refine g_iload O (pc' := 167) d2_165 (v := v6) rfl rfl ?_
            refine g_ldc O (pc' := 169) d2_167 tw14 rfl ?_
            refine g_icmp_gt O (pc' := 172) d2_169 rfl (by decide) (pc1 := 174) (by decide) (fun h169 => ?_) (fun h169 => ?_)
            · rw [if_pos h169] at hf
              refine g_forget (Ls' := [none, none, none, none, some (.int v4), none, some (.int v6), none, none]) (And.intro rfl (And.intro rfl trivial)) ?_
              exact m2_t174 O v4 v6 H _ _ hf
            · rw [if_neg h169] at hf
              refine g_forget (Ls' := [none, none, none, none, none, none, none, none, none]) trivial ?_
              exact m2_t172 O H _ _ hf
    · rw [if_pos h98] at hf
      refine g_aload_n O (pc' := 102) d2_101 (v := v0) rfl rfl ?_
      refine g_iload O (pc' := 104) d2_102 (v := v7) rfl rfl ?_
      obtain ⟨x104, h104, hf⟩ := bnd hf
      refine g_baload O (pc' := 105) d2_104 h104 rfl ?_
      refine g_sipush O (pc' := 108) d2_105 (v := 255) (by decide) rfl ?_
      refine g_iand O (pc' := 109) d2_108 rfl ?_
      refine g_istore O (pc' := 111) d2_109 (Ls' := [some (.ref v0), some (.int v1), none, none, some (.int v4), some (.int v5), some (.int v6), some (.int v7), some (.int (x104 &&& (255 : Int32)))]) rfl rfl ?_
      refine g_iload O (pc' := 113) d2_111 (v := (x104 &&& (255 : Int32))) rfl rfl ?_
      refine g_sipush O (pc' := 116) d2_113 (v := 192) (by decide) rfl ?_
      refine g_iand O (pc' := 117) d2_116 rfl ?_
      refine g_sipush O (pc' := 120) d2_117 (v := 128) (by decide) rfl ?_
      refine g_icmp_eq O (pc' := 123) d2_120 rfl (by decide) (pc1 := 125) (by decide) (fun h120 => ?_) (fun h120 => ?_)
      · rw [if_pos h120] at hf
        refine g_iload O (pc' := 127) d2_125 (v := v6) rfl rfl ?_
        refine g_bipush O (pc' := 129) d2_127 (v := 6) (by decide) rfl ?_
        refine g_ishl O (pc' := 130) d2_129 rfl ?_
        refine g_iload O (pc' := 132) d2_130 (v := (x104 &&& (255 : Int32))) rfl rfl ?_
        refine g_bipush O (pc' := 134) d2_132 (v := 63) (by decide) rfl ?_
        refine g_iand O (pc' := 135) d2_134 rfl ?_
        refine g_ior O (pc' := 136) d2_135 rfl ?_
        refine g_istore O (pc' := 138) d2_136 (Ls' := [some (.ref v0), some (.int v1), none, none, some (.int v4), some (.int v5), some (.int ((v6 <<< ((6 : Int32) &&& 31)) ||| ((x104 &&& (255 : Int32)) &&& (63 : Int32)))), some (.int v7), some (.int (x104 &&& (255 : Int32)))]) rfl rfl ?_
        refine g_iinc O (pc' := 141) d2_138 (w := 1) (v := v7) (by decide) rfl (Ls' := [some (.ref v0), some (.int v1), none, none, some (.int v4), some (.int v5), some (.int ((v6 <<< ((6 : Int32) &&& 31)) ||| ((x104 &&& (255 : Int32)) &&& (63 : Int32)))), some (.int (v7 + (1 : Int32))), some (.int (x104 &&& (255 : Int32)))]) rfl rfl ?_
        refine g_goto O d2_141 (by decide) (pc' := 92) (by decide) ?_
        refine g_forget (Ls' := [some (.ref v0), some (.int v1), none, none, some (.int v4), some (.int v5), some (.int ((v6 <<< ((6 : Int32) &&& 31)) ||| ((x104 &&& (255 : Int32)) &&& (63 : Int32)))), some (.int (v7 + (1 : Int32))), none]) (And.intro rfl (And.intro rfl (And.intro rfl (And.intro rfl (And.intro rfl (And.intro rfl trivial)))))) ?_
        exact ih v0 v1 v4 v5 ((v6 <<< ((6 : Int32) &&& 31)) ||| ((x104 &&& (255 : Int32)) &&& (63 : Int32))) (v7 + (1 : Int32)) H _ _ hf
      · rw [if_neg h120] at hf
        refine g_iconst O (pc' := 124) d2_123 (v := -1) (by decide) rfl ?_
        cases hf
        exact g_ret_int O d2_124 rfl (by decide)
def m2_b67 (v0 : Nat) (v1 : Int32) (v2 : Int32) (v3 : Int32) (v4 : Int32) (v5 : Int32) (H : List Obj) : Option (Int32 × List Obj) :=
  if v2 < (v1 + v4) then
    some ((-2 : Int32), H)
  else
    m2_b92 8 v0 v1 v4 v5 (v3 &&& ((127 : Int32) >>> (v4 &&& 31))) (v1 + (1 : Int32)) H
theorem m2_t67 {G : Gx} {K : Kx} (O : Ok2 G K) (v0 : Nat) (v1 : Int32) (v2 : Int32) (v3 : Int32) (v4 : Int32) (v5 : Int32) (H : List Obj) (r : Int32) (Hf : List Obj) (hf : m2_b67 v0 v1 v2 v3 v4 v5 H = some (r, Hf)) : Run G K (some (.int r)) Hf 67 [some (.ref v0), some (.int v1), some (.int v2), some (.int v3), some (.int v4), some (.int v5), none, none, none] [] H 0 0 := by
  unfold m2_b67 at hf
  refine g_iload_n O (pc' := 68) d2_67 (v := v1) rfl rfl ?_
  refine g_iload O (pc' := 70) d2_68 (v := v4) rfl rfl ?_
  refine g_iadd O (pc' := 71) d2_70 rfl ?_
  refine g_iload_n O (pc' := 72) d2_71 (v := v2) rfl rfl ?_
  refine g_icmp_le O (pc' := 75) d2_72 rfl (by decide) (pc1 := 78) (by decide) (fun h72 => ?_) (fun h72 => ?_)
  · rw [if_neg h72] at hf
    refine g_iload_n O (pc' := 79) d2_78 (v := v3) rfl rfl ?_
    refine g_bipush O (pc' := 81) d2_79 (v := 127) (by decide) rfl ?_
    refine g_iload O (pc' := 83) d2_81 (v := v4) rfl rfl ?_
    refine g_ishr O (pc' := 84) d2_83 rfl ?_
    refine g_iand O (pc' := 85) d2_84 rfl ?_
    refine g_istore O (pc' := 87) d2_85 (Ls' := [some (.ref v0), some (.int v1), some (.int v2), some (.int v3), some (.int v4), some (.int v5), some (.int (v3 &&& ((127 : Int32) >>> (v4 &&& 31)))), none, none]) rfl rfl ?_
    refine g_iload_n O (pc' := 88) d2_87 (v := v1) rfl rfl ?_
    refine g_iconst O (pc' := 89) d2_88 (v := 1) (by decide) rfl ?_
    refine g_iadd O (pc' := 90) d2_89 rfl ?_
    refine g_istore O (pc' := 92) d2_90 (Ls' := [some (.ref v0), some (.int v1), some (.int v2), some (.int v3), some (.int v4), some (.int v5), some (.int (v3 &&& ((127 : Int32) >>> (v4 &&& 31)))), some (.int (v1 + (1 : Int32))), none]) rfl rfl ?_
    refine g_forget (Ls' := [some (.ref v0), some (.int v1), none, none, some (.int v4), some (.int v5), some (.int (v3 &&& ((127 : Int32) >>> (v4 &&& 31)))), some (.int (v1 + (1 : Int32))), none]) (And.intro rfl (And.intro rfl (And.intro rfl (And.intro rfl (And.intro rfl (And.intro rfl trivial)))))) ?_
    exact m2_t92 O 8 v0 v1 v4 v5 (v3 &&& ((127 : Int32) >>> (v4 &&& 31))) (v1 + (1 : Int32)) H _ _ hf
  · rw [if_pos h72] at hf
    refine g_bipush O (pc' := 77) d2_75 (v := -2) (by decide) rfl ?_
    cases hf
    exact g_ret_int O d2_77 rfl (by decide)
def m2_b0 (v0 : Nat) (v1 : Int32) (v2 : Int32) (H : List Obj) : Option (Int32 × List Obj) :=
  (rdI .byte H v0 v1).bind fun x2 =>
  if (x2 &&& (255 : Int32)) < (194 : Int32) then
    m2_b22 H
  else
    if (244 : Int32) < (x2 &&& (255 : Int32)) then
      m2_b22 H
    else
      if (x2 &&& (255 : Int32)) < (224 : Int32) then
        m2_b67 v0 v1 v2 (x2 &&& (255 : Int32)) (2 : Int32) (128 : Int32) H
      else
        if (x2 &&& (255 : Int32)) < (240 : Int32) then
          m2_b67 v0 v1 v2 (x2 &&& (255 : Int32)) (3 : Int32) (2048 : Int32) H
        else
          m2_b67 v0 v1 v2 (x2 &&& (255 : Int32)) (4 : Int32) (65536 : Int32) H
theorem m2_t0 {G : Gx} {K : Kx} (O : Ok2 G K) (v0 : Nat) (v1 : Int32) (v2 : Int32) (H : List Obj) (r : Int32) (Hf : List Obj) (hf : m2_b0 v0 v1 v2 H = some (r, Hf)) : Run G K (some (.int r)) Hf 0 [some (.ref v0), some (.int v1), some (.int v2), none, none, none, none, none, none] [] H 0 0 := by
  unfold m2_b0 at hf
  refine g_aload_n O (pc' := 1) d2_0 (v := v0) rfl rfl ?_
  refine g_iload_n O (pc' := 2) d2_1 (v := v1) rfl rfl ?_
  obtain ⟨x2, h2, hf⟩ := bnd hf
  refine g_baload O (pc' := 3) d2_2 h2 rfl ?_
  refine g_sipush O (pc' := 6) d2_3 (v := 255) (by decide) rfl ?_
  refine g_iand O (pc' := 7) d2_6 rfl ?_
  refine g_istore_n O (pc' := 8) d2_7 (Ls' := [some (.ref v0), some (.int v1), some (.int v2), some (.int (x2 &&& (255 : Int32))), none, none, none, none, none]) rfl rfl ?_
  refine g_iload_n O (pc' := 9) d2_8 (v := (x2 &&& (255 : Int32))) rfl rfl ?_
  refine g_sipush O (pc' := 12) d2_9 (v := 194) (by decide) rfl ?_
  refine g_icmp_lt O (pc' := 15) d2_12 rfl (by decide) (pc1 := 22) (by decide) (fun h12 => ?_) (fun h12 => ?_)
  · rw [if_pos h12] at hf
    refine g_forget (Ls' := [none, none, none, none, none, none, none, none, none]) trivial ?_
    exact m2_t22 O H _ _ hf
  · rw [if_neg h12] at hf
    refine g_iload_n O (pc' := 16) d2_15 (v := (x2 &&& (255 : Int32))) rfl rfl ?_
    refine g_sipush O (pc' := 19) d2_16 (v := 244) (by decide) rfl ?_
    refine g_icmp_le O (pc' := 22) d2_19 rfl (by decide) (pc1 := 24) (by decide) (fun h19 => ?_) (fun h19 => ?_)
    · rw [if_neg h19] at hf
      refine g_iload_n O (pc' := 25) d2_24 (v := (x2 &&& (255 : Int32))) rfl rfl ?_
      refine g_sipush O (pc' := 28) d2_25 (v := 224) (by decide) rfl ?_
      refine g_icmp_ge O (pc' := 31) d2_28 rfl (by decide) (pc1 := 42) (by decide) (fun h28 => ?_) (fun h28 => ?_)
      · rw [if_neg h28] at hf
        refine g_iload_n O (pc' := 43) d2_42 (v := (x2 &&& (255 : Int32))) rfl rfl ?_
        refine g_sipush O (pc' := 46) d2_43 (v := 240) (by decide) rfl ?_
        refine g_icmp_ge O (pc' := 49) d2_46 rfl (by decide) (pc1 := 60) (by decide) (fun h46 => ?_) (fun h46 => ?_)
        · rw [if_neg h46] at hf
          refine g_iconst O (pc' := 61) d2_60 (v := 4) (by decide) rfl ?_
          refine g_istore O (pc' := 63) d2_61 (Ls' := [some (.ref v0), some (.int v1), some (.int v2), some (.int (x2 &&& (255 : Int32))), some (.int (4 : Int32)), none, none, none, none]) rfl rfl ?_
          refine g_ldc O (pc' := 65) d2_63 tw10 rfl ?_
          refine g_istore O (pc' := 67) d2_65 (Ls' := [some (.ref v0), some (.int v1), some (.int v2), some (.int (x2 &&& (255 : Int32))), some (.int (4 : Int32)), some (.int (65536 : Int32)), none, none, none]) rfl rfl ?_
          exact m2_t67 O v0 v1 v2 (x2 &&& (255 : Int32)) (4 : Int32) (65536 : Int32) H _ _ hf
        · rw [if_pos h46] at hf
          refine g_iconst O (pc' := 50) d2_49 (v := 3) (by decide) rfl ?_
          refine g_istore O (pc' := 52) d2_50 (Ls' := [some (.ref v0), some (.int v1), some (.int v2), some (.int (x2 &&& (255 : Int32))), some (.int (3 : Int32)), none, none, none, none]) rfl rfl ?_
          refine g_sipush O (pc' := 55) d2_52 (v := 2048) (by decide) rfl ?_
          refine g_istore O (pc' := 57) d2_55 (Ls' := [some (.ref v0), some (.int v1), some (.int v2), some (.int (x2 &&& (255 : Int32))), some (.int (3 : Int32)), some (.int (2048 : Int32)), none, none, none]) rfl rfl ?_
          refine g_goto O d2_57 (by decide) (pc' := 67) (by decide) ?_
          exact m2_t67 O v0 v1 v2 (x2 &&& (255 : Int32)) (3 : Int32) (2048 : Int32) H _ _ hf
      · rw [if_pos h28] at hf
        refine g_iconst O (pc' := 32) d2_31 (v := 2) (by decide) rfl ?_
        refine g_istore O (pc' := 34) d2_32 (Ls' := [some (.ref v0), some (.int v1), some (.int v2), some (.int (x2 &&& (255 : Int32))), some (.int (2 : Int32)), none, none, none, none]) rfl rfl ?_
        refine g_sipush O (pc' := 37) d2_34 (v := 128) (by decide) rfl ?_
        refine g_istore O (pc' := 39) d2_37 (Ls' := [some (.ref v0), some (.int v1), some (.int v2), some (.int (x2 &&& (255 : Int32))), some (.int (2 : Int32)), some (.int (128 : Int32)), none, none, none]) rfl rfl ?_
        refine g_goto O d2_39 (by decide) (pc' := 67) (by decide) ?_
        exact m2_t67 O v0 v1 v2 (x2 &&& (255 : Int32)) (2 : Int32) (128 : Int32) H _ _ hf
    · rw [if_pos h19] at hf
      refine g_forget (Ls' := [none, none, none, none, none, none, none, none, none]) trivial ?_
      exact m2_t22 O H _ _ hf
abbrev m2 (v0 : Nat) (v1 : Int32) (v2 : Int32) (H : List Obj) : Option (Int32 × List Obj) := m2_b0 v0 v1 v2 H
theorem con2 {G : Gx} (hw : ∀ d ∈ tables_1, d.before G.2.2.1 G.2.1 = true) (v0 : Nat) (v1 : Int32) (v2 : Int32) (H : List Obj) {r : Int32} {Hf : List Obj} (hf : m2 v0 v1 v2 H = some (r, Hf)) : Con G (⟨"shelfmark/XmlChars", "decode", "([BII)I"⟩ : MethodName) prog_77_method_2_code 9 (Option.some FieldType.int) rm2 [(.ref v0), (.int v1), (.int v2)] H (some (.int r)) Hf :=
  con_of hw pn2 rfl fun K O => m2_t0 O v0 v1 v2 H r Hf hf

/-! body 0 -/
theorem pn0 : plainFor x = true := by first | exact plainFor_of_name (by first | (simp [plainName, overriddenIn]; done) | decide +kernel) | decide +kernel
abbrev Ok0 (G : Gx) (K : Kx) : Prop := Ok G K x.cls code maxLocals ret room_1 x.name 1 8
def m0_b511 (t0 : Int32) (H : List Obj) : Option (Int32 × List Obj) :=
  some ((nar .boolean t0), H)
theorem m0_t511 {G : Gx} {K : Kx} (O : Ok0 G K) (t0 : Int32) (H : List Obj) (r : Int32) (Hf : List Obj) (hf : m0_b511 t0 H = some (r, Hf)) : Run G K (some (.int r)) Hf 511 [none, none, none, none, none, none, none, none, none, none, none, none, none, none, none, none, none, none, none] [(.int t0)] H 1 8 := by
  unfold m0_b511 at hf
  cases hf
  exact g_ret_nar O at_511 (by simp) rfl rfl (by decide)
def m0_b492 (v9 : Int32) (v10 : Int32) (v12 : Nat) (v13 : Int32) (H : List Obj) : Option (Int32 × List Obj) :=
  (m2 v12 v9 v10 H).bind fun q498 =>
  if q498.1 = v13 then
    m0_b511 (1 : Int32) q498.2
  else
    m0_b511 (0 : Int32) q498.2
theorem m0_t492 {G : Gx} {K : Kx} (O : Ok0 G K) (v9 : Int32) (v10 : Int32) (v12 : Nat) (v13 : Int32) (H : List Obj) (r : Int32) (Hf : List Obj) (hf : m0_b492 v9 v10 v12 v13 H = some (r, Hf)) : Run G K (some (.int r)) Hf 492 [none, none, none, none, none, none, none, none, none, some (.int v9), some (.int v10), none, some (.ref v12), some (.int v13), none, none, none, none, none] [] H 1 8 := by
  unfold m0_b492 at hf
  refine g_aload O (pc' := 494) at_492 (v := v12) rfl rfl ?_
  refine g_iload O (pc' := 496) at_494 (v := v9) rfl rfl ?_
  refine g_iload O (pc' := 498) at_496 (v := v10) rfl rfl ?_
  obtain ⟨⟨x498, H498⟩, h498, hf⟩ := bnd hf
  dsimp only at hf
  refine g_static1 O (pc' := 501) at_498 tw6 tw7 tw8 tw9 (by decide) pd2 (as := [(.ref v12), (.int v9), (.int v10)]) rfl (st := []) rfl rfl (W := 0) rfl (rm := rm2) (by decide) (by decide) (c2 := 1) (s2 := 8) rfl rfl (by decide) (by decide) (con2 (Ok.w O) v12 v9 v10 H h498) rfl ?_
  refine g_iload O (pc' := 503) at_501 (v := v13) rfl rfl ?_
  refine g_icmp_ne O (pc' := 506) at_503 rfl (by decide) (pc1 := 510) (by decide) (fun h503 => ?_) (fun h503 => ?_)
  · rw [if_neg h503] at hf
    refine g_iconst O (pc' := 511) at_510 (v := 0) (by decide) rfl ?_
    refine g_forget (Ls' := [none, none, none, none, none, none, none, none, none, none, none, none, none, none, none, none, none, none, none]) trivial ?_
    exact m0_t511 O (0 : Int32) H498 _ _ hf
  · rw [if_pos h503] at hf
    refine g_iconst O (pc' := 507) at_506 (v := 1) (by decide) rfl ?_
    refine g_goto O at_507 (by decide) (pc' := 511) (by decide) ?_
    refine g_forget (Ls' := [none, none, none, none, none, none, none, none, none, none, none, none, none, none, none, none, none, none, none]) trivial ?_
    exact m0_t511 O (1 : Int32) H498 _ _ hf
def m0_b482 (v9 : Int32) (v10 : Int32) (v12 : Nat) (v14 : Int32) (v18 : Int32) (H : List Obj) : Option (Int32 × List Obj) :=
  m0_b492 v9 v10 v12 ((v18 * (8 : Int32)) + v14) H
theorem m0_t482 {G : Gx} {K : Kx} (O : Ok0 G K) (v9 : Int32) (v10 : Int32) (v12 : Nat) (v14 : Int32) (v18 : Int32) (H : List Obj) (r : Int32) (Hf : List Obj) (hf : m0_b482 v9 v10 v12 v14 v18 H = some (r, Hf)) : Run G K (some (.int r)) Hf 482 [none, none, none, none, none, none, none, none, none, some (.int v9), some (.int v10), none, some (.ref v12), none, some (.int v14), none, none, none, some (.int v18)] [] H 1 8 := by
  unfold m0_b482 at hf
  refine g_iload O (pc' := 484) at_482 (v := v18) rfl rfl ?_
  refine g_bipush O (pc' := 486) at_484 (v := 8) (by decide) rfl ?_
  refine g_imul O (pc' := 487) at_486 rfl ?_
  refine g_iload O (pc' := 489) at_487 (v := v14) rfl rfl ?_
  refine g_iadd O (pc' := 490) at_489 rfl ?_
  refine g_istore O (pc' := 492) at_490 (Ls' := [none, none, none, none, none, none, none, none, none, some (.int v9), some (.int v10), none, some (.ref v12), some (.int ((v18 * (8 : Int32)) + v14)), some (.int v14), none, none, none, some (.int v18)]) rfl rfl ?_
  refine g_forget (Ls' := [none, none, none, none, none, none, none, none, none, some (.int v9), some (.int v10), none, some (.ref v12), some (.int ((v18 * (8 : Int32)) + v14)), none, none, none, none, none]) (And.intro rfl (And.intro rfl (And.intro rfl (And.intro rfl trivial)))) ?_
  exact m0_t492 O v9 v10 v12 ((v18 * (8 : Int32)) + v14) H _ _ hf
def m0_b365 (v5 : Int32) (v6 : Int32) (v7 : Int32) (v8 : Int32) (v9 : Int32) (v10 : Int32) (v12 : Nat) (v14 : Int32) (t0 : Int32) (H : List Obj) : Option (Int32 × List Obj) :=
  if t0 = 0 then
    m0_b492 v9 v10 v12 (-1 : Int32) H
  else
    if v14 = (2 : Int32) then
      m0_b482 v9 v10 v12 v14 (((v5 - (192 : Int32)) * (64 : Int32)) + (v6 - (128 : Int32))) H
    else
      if v14 = (3 : Int32) then
        m0_b482 v9 v10 v12 v14 ((((v5 - (224 : Int32)) * (4096 : Int32)) + ((v6 - (128 : Int32)) * (64 : Int32))) + (v7 - (128 : Int32))) H
      else
        m0_b482 v9 v10 v12 v14 (((((v5 - (240 : Int32)) * (262144 : Int32)) + ((v6 - (128 : Int32)) * (4096 : Int32))) + ((v7 - (128 : Int32)) * (64 : Int32))) + (v8 - (128 : Int32))) H
theorem m0_t365 {G : Gx} {K : Kx} (O : Ok0 G K) (v5 : Int32) (v6 : Int32) (v7 : Int32) (v8 : Int32) (v9 : Int32) (v10 : Int32) (v12 : Nat) (v14 : Int32) (t0 : Int32) (H : List Obj) (r : Int32) (Hf : List Obj) (hf : m0_b365 v5 v6 v7 v8 v9 v10 v12 v14 t0 H = some (r, Hf)) : Run G K (some (.int r)) Hf 365 [none, none, none, none, none, some (.int v5), some (.int v6), some (.int v7), some (.int v8), some (.int v9), some (.int v10), none, some (.ref v12), none, some (.int v14), none, none, none, none] [(.int t0)] H 1 8 := by
  unfold m0_b365 at hf
  refine g_istore O (pc' := 367) at_365 (Ls' := [none, none, none, none, none, some (.int v5), some (.int v6), some (.int v7), some (.int v8), some (.int v9), some (.int v10), none, some (.ref v12), none, some (.int v14), none, none, some (.int t0), none]) rfl rfl ?_
  refine g_iload O (pc' := 369) at_367 (v := t0) rfl rfl ?_
  refine g_if_ne O (pc' := 372) at_369 rfl (by decide) (pc1 := 378) (by decide) (fun h369 => ?_) (fun h369 => ?_)
  · rw [if_neg h369] at hf
    refine g_iload O (pc' := 380) at_378 (v := v14) rfl rfl ?_
    refine g_iconst O (pc' := 381) at_380 (v := 2) (by decide) rfl ?_
    refine g_icmp_ne O (pc' := 384) at_381 rfl (by decide) (pc1 := 405) (by decide) (fun h381 => ?_) (fun h381 => ?_)
    · rw [if_neg h381] at hf
      refine g_iload O (pc' := 407) at_405 (v := v14) rfl rfl ?_
      refine g_iconst O (pc' := 408) at_407 (v := 3) (by decide) rfl ?_
      refine g_icmp_ne O (pc' := 411) at_408 rfl (by decide) (pc1 := 443) (by decide) (fun h408 => ?_) (fun h408 => ?_)
      · rw [if_neg h408] at hf
        refine g_iload O (pc' := 445) at_443 (v := v5) rfl rfl ?_
        refine g_sipush O (pc' := 448) at_445 (v := 240) (by decide) rfl ?_
        refine g_isub O (pc' := 449) at_448 rfl ?_
        refine g_ldc O (pc' := 451) at_449 tw13 rfl ?_
        refine g_imul O (pc' := 452) at_451 rfl ?_
        refine g_iload O (pc' := 454) at_452 (v := v6) rfl rfl ?_
        refine g_sipush O (pc' := 457) at_454 (v := 128) (by decide) rfl ?_
        refine g_isub O (pc' := 458) at_457 rfl ?_
        refine g_sipush O (pc' := 461) at_458 (v := 4096) (by decide) rfl ?_
        refine g_imul O (pc' := 462) at_461 rfl ?_
        refine g_iadd O (pc' := 463) at_462 rfl ?_
        refine g_iload O (pc' := 465) at_463 (v := v7) rfl rfl ?_
        refine g_sipush O (pc' := 468) at_465 (v := 128) (by decide) rfl ?_
        refine g_isub O (pc' := 469) at_468 rfl ?_
        refine g_bipush O (pc' := 471) at_469 (v := 64) (by decide) rfl ?_
        refine g_imul O (pc' := 472) at_471 rfl ?_
        refine g_iadd O (pc' := 473) at_472 rfl ?_
        refine g_iload O (pc' := 475) at_473 (v := v8) rfl rfl ?_
        refine g_sipush O (pc' := 478) at_475 (v := 128) (by decide) rfl ?_
        refine g_isub O (pc' := 479) at_478 rfl ?_
        refine g_iadd O (pc' := 480) at_479 rfl ?_
        refine g_istore O (pc' := 482) at_480 (Ls' := [none, none, none, none, none, some (.int v5), some (.int v6), some (.int v7), some (.int v8), some (.int v9), some (.int v10), none, some (.ref v12), none, some (.int v14), none, none, some (.int t0), some (.int (((((v5 - (240 : Int32)) * (262144 : Int32)) + ((v6 - (128 : Int32)) * (4096 : Int32))) + ((v7 - (128 : Int32)) * (64 : Int32))) + (v8 - (128 : Int32))))]) rfl rfl ?_
        refine g_forget (Ls' := [none, none, none, none, none, none, none, none, none, some (.int v9), some (.int v10), none, some (.ref v12), none, some (.int v14), none, none, none, some (.int (((((v5 - (240 : Int32)) * (262144 : Int32)) + ((v6 - (128 : Int32)) * (4096 : Int32))) + ((v7 - (128 : Int32)) * (64 : Int32))) + (v8 - (128 : Int32))))]) (And.intro rfl (And.intro rfl (And.intro rfl (And.intro rfl (And.intro rfl trivial))))) ?_
        exact m0_t482 O v9 v10 v12 v14 (((((v5 - (240 : Int32)) * (262144 : Int32)) + ((v6 - (128 : Int32)) * (4096 : Int32))) + ((v7 - (128 : Int32)) * (64 : Int32))) + (v8 - (128 : Int32))) H _ _ hf
      · rw [if_pos h408] at hf
        refine g_iload O (pc' := 413) at_411 (v := v5) rfl rfl ?_
        refine g_sipush O (pc' := 416) at_413 (v := 224) (by decide) rfl ?_
        refine g_isub O (pc' := 417) at_416 rfl ?_
        refine g_sipush O (pc' := 420) at_417 (v := 4096) (by decide) rfl ?_
        refine g_imul O (pc' := 421) at_420 rfl ?_
        refine g_iload O (pc' := 423) at_421 (v := v6) rfl rfl ?_
        refine g_sipush O (pc' := 426) at_423 (v := 128) (by decide) rfl ?_
        refine g_isub O (pc' := 427) at_426 rfl ?_
        refine g_bipush O (pc' := 429) at_427 (v := 64) (by decide) rfl ?_
        refine g_imul O (pc' := 430) at_429 rfl ?_
        refine g_iadd O (pc' := 431) at_430 rfl ?_
        refine g_iload O (pc' := 433) at_431 (v := v7) rfl rfl ?_
        refine g_sipush O (pc' := 436) at_433 (v := 128) (by decide) rfl ?_
        refine g_isub O (pc' := 437) at_436 rfl ?_
        refine g_iadd O (pc' := 438) at_437 rfl ?_
        refine g_istore O (pc' := 440) at_438 (Ls' := [none, none, none, none, none, some (.int v5), some (.int v6), some (.int v7), some (.int v8), some (.int v9), some (.int v10), none, some (.ref v12), none, some (.int v14), none, none, some (.int t0), some (.int ((((v5 - (224 : Int32)) * (4096 : Int32)) + ((v6 - (128 : Int32)) * (64 : Int32))) + (v7 - (128 : Int32))))]) rfl rfl ?_
        refine g_goto O at_440 (by decide) (pc' := 482) (by decide) ?_
        refine g_forget (Ls' := [none, none, none, none, none, none, none, none, none, some (.int v9), some (.int v10), none, some (.ref v12), none, some (.int v14), none, none, none, some (.int ((((v5 - (224 : Int32)) * (4096 : Int32)) + ((v6 - (128 : Int32)) * (64 : Int32))) + (v7 - (128 : Int32))))]) (And.intro rfl (And.intro rfl (And.intro rfl (And.intro rfl (And.intro rfl trivial))))) ?_
        exact m0_t482 O v9 v10 v12 v14 ((((v5 - (224 : Int32)) * (4096 : Int32)) + ((v6 - (128 : Int32)) * (64 : Int32))) + (v7 - (128 : Int32))) H _ _ hf
    · rw [if_pos h381] at hf
      refine g_iload O (pc' := 386) at_384 (v := v5) rfl rfl ?_
      refine g_sipush O (pc' := 389) at_386 (v := 192) (by decide) rfl ?_
      refine g_isub O (pc' := 390) at_389 rfl ?_
      refine g_bipush O (pc' := 392) at_390 (v := 64) (by decide) rfl ?_
      refine g_imul O (pc' := 393) at_392 rfl ?_
      refine g_iload O (pc' := 395) at_393 (v := v6) rfl rfl ?_
      refine g_sipush O (pc' := 398) at_395 (v := 128) (by decide) rfl ?_
      refine g_isub O (pc' := 399) at_398 rfl ?_
      refine g_iadd O (pc' := 400) at_399 rfl ?_
      refine g_istore O (pc' := 402) at_400 (Ls' := [none, none, none, none, none, some (.int v5), some (.int v6), some (.int v7), some (.int v8), some (.int v9), some (.int v10), none, some (.ref v12), none, some (.int v14), none, none, some (.int t0), some (.int (((v5 - (192 : Int32)) * (64 : Int32)) + (v6 - (128 : Int32))))]) rfl rfl ?_
      refine g_goto O at_402 (by decide) (pc' := 482) (by decide) ?_
      refine g_forget (Ls' := [none, none, none, none, none, none, none, none, none, some (.int v9), some (.int v10), none, some (.ref v12), none, some (.int v14), none, none, none, some (.int (((v5 - (192 : Int32)) * (64 : Int32)) + (v6 - (128 : Int32))))]) (And.intro rfl (And.intro rfl (And.intro rfl (And.intro rfl (And.intro rfl trivial))))) ?_
      exact m0_t482 O v9 v10 v12 v14 (((v5 - (192 : Int32)) * (64 : Int32)) + (v6 - (128 : Int32))) H _ _ hf
  · rw [if_pos h369] at hf
    refine g_iconst O (pc' := 373) at_372 (v := -1) (by decide) rfl ?_
    refine g_istore O (pc' := 375) at_373 (Ls' := [none, none, none, none, none, some (.int v5), some (.int v6), some (.int v7), some (.int v8), some (.int v9), some (.int v10), none, some (.ref v12), some (.int (-1 : Int32)), some (.int v14), none, none, some (.int t0), none]) rfl rfl ?_
    refine g_goto O at_375 (by decide) (pc' := 492) (by decide) ?_
    refine g_forget (Ls' := [none, none, none, none, none, none, none, none, none, some (.int v9), some (.int v10), none, some (.ref v12), some (.int (-1 : Int32)), none, none, none, none, none]) (And.intro rfl (And.intro rfl (And.intro rfl (And.intro rfl trivial)))) ?_
    exact m0_t492 O v9 v10 v12 (-1 : Int32) H _ _ hf
def m0_b364 (v5 : Int32) (v6 : Int32) (v7 : Int32) (v8 : Int32) (v9 : Int32) (v10 : Int32) (v12 : Nat) (v14 : Int32) (H : List Obj) : Option (Int32 × List Obj) :=
  m0_b365 v5 v6 v7 v8 v9 v10 v12 v14 (0 : Int32) H
theorem m0_t364 {G : Gx} {K : Kx} (O : Ok0 G K) (v5 : Int32) (v6 : Int32) (v7 : Int32) (v8 : Int32) (v9 : Int32) (v10 : Int32) (v12 : Nat) (v14 : Int32) (H : List Obj) (r : Int32) (Hf : List Obj) (hf : m0_b364 v5 v6 v7 v8 v9 v10 v12 v14 H = some (r, Hf)) : Run G K (some (.int r)) Hf 364 [none, none, none, none, none, some (.int v5), some (.int v6), some (.int v7), some (.int v8), some (.int v9), some (.int v10), none, some (.ref v12), none, some (.int v14), none, none, none, none] [] H 1 8 := by
  unfold m0_b364 at hf
  refine g_iconst O (pc' := 365) at_364 (v := 0) (by decide) rfl ?_
  exact m0_t365 O v5 v6 v7 v8 v9 v10 v12 v14 (0 : Int32) H _ _ hf
def m0_b360 (v5 : Int32) (v6 : Int32) (v7 : Int32) (v8 : Int32) (v9 : Int32) (v10 : Int32) (v12 : Nat) (v14 : Int32) (H : List Obj) : Option (Int32 × List Obj) :=
  m0_b365 v5 v6 v7 v8 v9 v10 v12 v14 (1 : Int32) H
theorem m0_t360 {G : Gx} {K : Kx} (O : Ok0 G K) (v5 : Int32) (v6 : Int32) (v7 : Int32) (v8 : Int32) (v9 : Int32) (v10 : Int32) (v12 : Nat) (v14 : Int32) (H : List Obj) (r : Int32) (Hf : List Obj) (hf : m0_b360 v5 v6 v7 v8 v9 v10 v12 v14 H = some (r, Hf)) : Run G K (some (.int r)) Hf 360 [none, none, none, none, none, some (.int v5), some (.int v6), some (.int v7), some (.int v8), some (.int v9), some (.int v10), none, some (.ref v12), none, some (.int v14), none, none, none, none] [] H 1 8 := by
  unfold m0_b360 at hf
  refine g_iconst O (pc' := 361) at_360 (v := 1) (by decide) rfl ?_
  refine g_goto O at_361 (by decide) (pc' := 365) (by decide) ?_
  exact m0_t365 O v5 v6 v7 v8 v9 v10 v12 v14 (1 : Int32) H _ _ hf
def m0_b340 (v5 : Int32) (v6 : Int32) (v7 : Int32) (v8 : Int32) (v9 : Int32) (v10 : Int32) (v12 : Nat) (v14 : Int32) (H : List Obj) : Option (Int32 × List Obj) :=
  if v14 < (4 : Int32) then
    m0_b360 v5 v6 v7 v8 v9 v10 v12 v14 H
  else
    if (m1 v8 (128 : Int32) (191 : Int32)) = 0 then
      m0_b364 v5 v6 v7 v8 v9 v10 v12 v14 H
    else
      m0_b360 v5 v6 v7 v8 v9 v10 v12 v14 H
theorem m0_t340 {G : Gx} {K : Kx} (O : Ok0 G K) (v5 : Int32) (v6 : Int32) (v7 : Int32) (v8 : Int32) (v9 : Int32) (v10 : Int32) (v12 : Nat) (v14 : Int32) (H : List Obj) (r : Int32) (Hf : List Obj) (hf : m0_b340 v5 v6 v7 v8 v9 v10 v12 v14 H = some (r, Hf)) : Run G K (some (.int r)) Hf 340 [none, none, none, none, none, some (.int v5), some (.int v6), some (.int v7), some (.int v8), some (.int v9), some (.int v10), none, some (.ref v12), none, some (.int v14), none, none, none, none] [] H 1 8 := by
  unfold m0_b340 at hf
  refine g_iload O (pc' := 342) at_340 (v := v14) rfl rfl ?_
  refine g_iconst O (pc' := 343) at_342 (v := 4) (by decide) rfl ?_
  refine g_icmp_lt O (pc' := 346) at_343 rfl (by decide) (pc1 := 360) (by decide) (fun h343 => ?_) (fun h343 => ?_)
  · rw [if_pos h343] at hf
    exact m0_t360 O v5 v6 v7 v8 v9 v10 v12 v14 H _ _ hf
  · rw [if_neg h343] at hf
    refine g_iload O (pc' := 348) at_346 (v := v8) rfl rfl ?_
    refine g_sipush O (pc' := 351) at_348 (v := 128) (by decide) rfl ?_
    refine g_sipush O (pc' := 354) at_351 (v := 191) (by decide) rfl ?_
    refine g_static1 O (pc' := 357) at_354 tw2 tw3 tw4 tw5 (by decide) pd1 (as := [(.int v8), (.int (128 : Int32)), (.int (191 : Int32))]) rfl (st := []) rfl rfl (W := 0) rfl (rm := rm1) (by decide) (by decide) (c2 := 1) (s2 := 8) rfl rfl (by decide) (by decide) (con1 (Ok.w O) v8 (128 : Int32) (191 : Int32) H) rfl ?_
    refine g_if_eq O (pc' := 360) at_357 rfl (by decide) (pc1 := 364) (by decide) (fun h357 => ?_) (fun h357 => ?_)
    · rw [if_pos h357] at hf
      exact m0_t364 O v5 v6 v7 v8 v9 v10 v12 v14 H _ _ hf
    · rw [if_neg h357] at hf
      exact m0_t360 O v5 v6 v7 v8 v9 v10 v12 v14 H _ _ hf
def m0_b308 (v5 : Int32) (v6 : Int32) (v7 : Int32) (v8 : Int32) (v9 : Int32) (v10 : Int32) (v12 : Nat) (v14 : Int32) (v15 : Int32) (v16 : Int32) (H : List Obj) : Option (Int32 × List Obj) :=
  if (m1 v6 v15 v16) = 0 then
    m0_b364 v5 v6 v7 v8 v9 v10 v12 v14 H
  else
    if v14 < (3 : Int32) then
      m0_b340 v5 v6 v7 v8 v9 v10 v12 v14 H
    else
      if (m1 v7 (128 : Int32) (191 : Int32)) = 0 then
        m0_b364 v5 v6 v7 v8 v9 v10 v12 v14 H
      else
        m0_b340 v5 v6 v7 v8 v9 v10 v12 v14 H
theorem m0_t308 {G : Gx} {K : Kx} (O : Ok0 G K) (v5 : Int32) (v6 : Int32) (v7 : Int32) (v8 : Int32) (v9 : Int32) (v10 : Int32) (v12 : Nat) (v14 : Int32) (v15 : Int32) (v16 : Int32) (H : List Obj) (r : Int32) (Hf : List Obj) (hf : m0_b308 v5 v6 v7 v8 v9 v10 v12 v14 v15 v16 H = some (r, Hf)) : Run G K (some (.int r)) Hf 308 [none, none, none, none, none, some (.int v5), some (.int v6), some (.int v7), some (.int v8), some (.int v9), some (.int v10), none, some (.ref v12), none, some (.int v14), some (.int v15), some (.int v16), none, none] [] H 1 8 := by
  unfold m0_b308 at hf
  refine g_iload O (pc' := 310) at_308 (v := v6) rfl rfl ?_
  refine g_iload O (pc' := 312) at_310 (v := v15) rfl rfl ?_
  refine g_iload O (pc' := 314) at_312 (v := v16) rfl rfl ?_
  refine g_static1 O (pc' := 317) at_314 tw2 tw3 tw4 tw5 (by decide) pd1 (as := [(.int v6), (.int v15), (.int v16)]) rfl (st := []) rfl rfl (W := 0) rfl (rm := rm1) (by decide) (by decide) (c2 := 1) (s2 := 8) rfl rfl (by decide) (by decide) (con1 (Ok.w O) v6 v15 v16 H) rfl ?_
  refine g_if_eq O (pc' := 320) at_317 rfl (by decide) (pc1 := 364) (by decide) (fun h317 => ?_) (fun h317 => ?_)
  · rw [if_pos h317] at hf
    refine g_forget (Ls' := [none, none, none, none, none, some (.int v5), some (.int v6), some (.int v7), some (.int v8), some (.int v9), some (.int v10), none, some (.ref v12), none, some (.int v14), none, none, none, none]) (And.intro rfl (And.intro rfl (And.intro rfl (And.intro rfl (And.intro rfl (And.intro rfl (And.intro rfl (And.intro rfl trivial)))))))) ?_
    exact m0_t364 O v5 v6 v7 v8 v9 v10 v12 v14 H _ _ hf
  · rw [if_neg h317] at hf
    refine g_iload O (pc' := 322) at_320 (v := v14) rfl rfl ?_
    refine g_iconst O (pc' := 323) at_322 (v := 3) (by decide) rfl ?_
    refine g_icmp_lt O (pc' := 326) at_323 rfl (by decide) (pc1 := 340) (by decide) (fun h323 => ?_) (fun h323 => ?_)
    · rw [if_pos h323] at hf
      refine g_forget (Ls' := [none, none, none, none, none, some (.int v5), some (.int v6), some (.int v7), some (.int v8), some (.int v9), some (.int v10), none, some (.ref v12), none, some (.int v14), none, none, none, none]) (And.intro rfl (And.intro rfl (And.intro rfl (And.intro rfl (And.intro rfl (And.intro rfl (And.intro rfl (And.intro rfl trivial)))))))) ?_
      exact m0_t340 O v5 v6 v7 v8 v9 v10 v12 v14 H _ _ hf
    · rw [if_neg h323] at hf
      refine g_iload O (pc' := 328) at_326 (v := v7) rfl rfl ?_
      refine g_sipush O (pc' := 331) at_328 (v := 128) (by decide) rfl ?_
      refine g_sipush O (pc' := 334) at_331 (v := 191) (by decide) rfl ?_
      refine g_static1 O (pc' := 337) at_334 tw2 tw3 tw4 tw5 (by decide) pd1 (as := [(.int v7), (.int (128 : Int32)), (.int (191 : Int32))]) rfl (st := []) rfl rfl (W := 0) rfl (rm := rm1) (by decide) (by decide) (c2 := 1) (s2 := 8) rfl rfl (by decide) (by decide) (con1 (Ok.w O) v7 (128 : Int32) (191 : Int32) H) rfl ?_
      refine g_if_eq O (pc' := 340) at_337 rfl (by decide) (pc1 := 364) (by decide) (fun h337 => ?_) (fun h337 => ?_)
      · rw [if_pos h337] at hf
        refine g_forget (Ls' := [none, none, none, none, none, some (.int v5), some (.int v6), some (.int v7), some (.int v8), some (.int v9), some (.int v10), none, some (.ref v12), none, some (.int v14), none, none, none, none]) (And.intro rfl (And.intro rfl (And.intro rfl (And.intro rfl (And.intro rfl (And.intro rfl (And.intro rfl (And.intro rfl trivial)))))))) ?_
        exact m0_t364 O v5 v6 v7 v8 v9 v10 v12 v14 H _ _ hf
      · rw [if_neg h337] at hf
        refine g_forget (Ls' := [none, none, none, none, none, some (.int v5), some (.int v6), some (.int v7), some (.int v8), some (.int v9), some (.int v10), none, some (.ref v12), none, some (.int v14), none, none, none, none]) (And.intro rfl (And.intro rfl (And.intro rfl (And.intro rfl (And.intro rfl (And.intro rfl (And.intro rfl (And.intro rfl trivial)))))))) ?_
        exact m0_t340 O v5 v6 v7 v8 v9 v10 v12 v14 H _ _ hf
def m0_b209 (v5 : Int32) (v6 : Int32) (v7 : Int32) (v8 : Int32) (v9 : Int32) (v10 : Int32) (v12 : Nat) (v14 : Int32) (H : List Obj) : Option (Int32 × List Obj) :=
  if v14 = 0 then
    m0_b492 v9 v10 v12 (-1 : Int32) H
  else
    if (v10 - v9) < v14 then
      m0_b492 v9 v10 v12 (-2 : Int32) H
    else
      if v5 = (224 : Int32) then
        m0_b308 v5 v6 v7 v8 v9 v10 v12 v14 (160 : Int32) (191 : Int32) H
      else
        if v5 = (237 : Int32) then
          m0_b308 v5 v6 v7 v8 v9 v10 v12 v14 (128 : Int32) (159 : Int32) H
        else
          if v5 = (240 : Int32) then
            m0_b308 v5 v6 v7 v8 v9 v10 v12 v14 (144 : Int32) (191 : Int32) H
          else
            if v5 = (244 : Int32) then
              m0_b308 v5 v6 v7 v8 v9 v10 v12 v14 (128 : Int32) (143 : Int32) H
            else
              m0_b308 v5 v6 v7 v8 v9 v10 v12 v14 (128 : Int32) (191 : Int32) H
theorem m0_t209 {G : Gx} {K : Kx} (O : Ok0 G K) (v5 : Int32) (v6 : Int32) (v7 : Int32) (v8 : Int32) (v9 : Int32) (v10 : Int32) (v12 : Nat) (v14 : Int32) (H : List Obj) (r : Int32) (Hf : List Obj) (hf : m0_b209 v5 v6 v7 v8 v9 v10 v12 v14 H = some (r, Hf)) : Run G K (some (.int r)) Hf 209 [none, none, none, none, none, some (.int v5), some (.int v6), some (.int v7), some (.int v8), some (.int v9), some (.int v10), none, some (.ref v12), none, some (.int v14), none, none, none, none] [] H 1 8 := by
  unfold m0_b209 at hf
  refine g_iload O (pc' := 211) at_209 (v := v14) rfl rfl ?_
  refine g_if_ne O (pc' := 214) at_211 rfl (by decide) (pc1 := 220) (by decide) (fun h211 => ?_) (fun h211 => ?_)
  · rw [if_neg h211] at hf
    refine g_iload O (pc' := 222) at_220 (v := v10) rfl rfl ?_
    refine g_iload O (pc' := 224) at_222 (v := v9) rfl rfl ?_
    refine g_isub O (pc' := 225) at_224 rfl ?_
    refine g_iload O (pc' := 227) at_225 (v := v14) rfl rfl ?_
    refine g_icmp_ge O (pc' := 230) at_227 rfl (by decide) (pc1 := 237) (by decide) (fun h227 => ?_) (fun h227 => ?_)
    · rw [if_neg h227] at hf
      refine g_sipush O (pc' := 240) at_237 (v := 128) (by decide) rfl ?_
      refine g_istore O (pc' := 242) at_240 (Ls' := [none, none, none, none, none, some (.int v5), some (.int v6), some (.int v7), some (.int v8), some (.int v9), some (.int v10), none, some (.ref v12), none, some (.int v14), some (.int (128 : Int32)), none, none, none]) rfl rfl ?_
      refine g_sipush O (pc' := 245) at_242 (v := 191) (by decide) rfl ?_
      refine g_istore O (pc' := 247) at_245 (Ls' := [none, none, none, none, none, some (.int v5), some (.int v6), some (.int v7), some (.int v8), some (.int v9), some (.int v10), none, some (.ref v12), none, some (.int v14), some (.int (128 : Int32)), some (.int (191 : Int32)), none, none]) rfl rfl ?_
      refine g_iload O (pc' := 249) at_247 (v := v5) rfl rfl ?_
      refine g_sipush O (pc' := 252) at_249 (v := 224) (by decide) rfl ?_
      refine g_icmp_ne O (pc' := 255) at_252 rfl (by decide) (pc1 := 263) (by decide) (fun h252 => ?_) (fun h252 => ?_)
      · rw [if_neg h252] at hf
        refine g_iload O (pc' := 265) at_263 (v := v5) rfl rfl ?_
        refine g_sipush O (pc' := 268) at_265 (v := 237) (by decide) rfl ?_
        refine g_icmp_ne O (pc' := 271) at_268 rfl (by decide) (pc1 := 279) (by decide) (fun h268 => ?_) (fun h268 => ?_)
        · rw [if_neg h268] at hf
          refine g_iload O (pc' := 281) at_279 (v := v5) rfl rfl ?_
          refine g_sipush O (pc' := 284) at_281 (v := 240) (by decide) rfl ?_
          refine g_icmp_ne O (pc' := 287) at_284 rfl (by decide) (pc1 := 295) (by decide) (fun h284 => ?_) (fun h284 => ?_)
          · rw [if_neg h284] at hf
            refine g_iload O (pc' := 297) at_295 (v := v5) rfl rfl ?_
            refine g_sipush O (pc' := 300) at_297 (v := 244) (by decide) rfl ?_
            refine g_icmp_ne O (pc' := 303) at_300 rfl (by decide) (pc1 := 308) (by decide) (fun h300 => ?_) (fun h300 => ?_)
            · rw [if_neg h300] at hf
              exact m0_t308 O v5 v6 v7 v8 v9 v10 v12 v14 (128 : Int32) (191 : Int32) H _ _ hf
            · rw [if_pos h300] at hf
              refine g_sipush O (pc' := 306) at_303 (v := 143) (by decide) rfl ?_
              refine g_istore O (pc' := 308) at_306 (Ls' := [none, none, none, none, none, some (.int v5), some (.int v6), some (.int v7), some (.int v8), some (.int v9), some (.int v10), none, some (.ref v12), none, some (.int v14), some (.int (128 : Int32)), some (.int (143 : Int32)), none, none]) rfl rfl ?_
              exact m0_t308 O v5 v6 v7 v8 v9 v10 v12 v14 (128 : Int32) (143 : Int32) H _ _ hf
          · rw [if_pos h284] at hf
            refine g_sipush O (pc' := 290) at_287 (v := 144) (by decide) rfl ?_
            refine g_istore O (pc' := 292) at_290 (Ls' := [none, none, none, none, none, some (.int v5), some (.int v6), some (.int v7), some (.int v8), some (.int v9), some (.int v10), none, some (.ref v12), none, some (.int v14), some (.int (144 : Int32)), some (.int (191 : Int32)), none, none]) rfl rfl ?_
            refine g_goto O at_292 (by decide) (pc' := 308) (by decide) ?_
            exact m0_t308 O v5 v6 v7 v8 v9 v10 v12 v14 (144 : Int32) (191 : Int32) H _ _ hf
        · rw [if_pos h268] at hf
          refine g_sipush O (pc' := 274) at_271 (v := 159) (by decide) rfl ?_
          refine g_istore O (pc' := 276) at_274 (Ls' := [none, none, none, none, none, some (.int v5), some (.int v6), some (.int v7), some (.int v8), some (.int v9), some (.int v10), none, some (.ref v12), none, some (.int v14), some (.int (128 : Int32)), some (.int (159 : Int32)), none, none]) rfl rfl ?_
          refine g_goto O at_276 (by decide) (pc' := 308) (by decide) ?_
          exact m0_t308 O v5 v6 v7 v8 v9 v10 v12 v14 (128 : Int32) (159 : Int32) H _ _ hf
      · rw [if_pos h252] at hf
        refine g_sipush O (pc' := 258) at_255 (v := 160) (by decide) rfl ?_
        refine g_istore O (pc' := 260) at_258 (Ls' := [none, none, none, none, none, some (.int v5), some (.int v6), some (.int v7), some (.int v8), some (.int v9), some (.int v10), none, some (.ref v12), none, some (.int v14), some (.int (160 : Int32)), some (.int (191 : Int32)), none, none]) rfl rfl ?_
        refine g_goto O at_260 (by decide) (pc' := 308) (by decide) ?_
        exact m0_t308 O v5 v6 v7 v8 v9 v10 v12 v14 (160 : Int32) (191 : Int32) H _ _ hf
    · rw [if_pos h227] at hf
      refine g_bipush O (pc' := 232) at_230 (v := -2) (by decide) rfl ?_
      refine g_istore O (pc' := 234) at_232 (Ls' := [none, none, none, none, none, some (.int v5), some (.int v6), some (.int v7), some (.int v8), some (.int v9), some (.int v10), none, some (.ref v12), some (.int (-2 : Int32)), some (.int v14), none, none, none, none]) rfl rfl ?_
      refine g_goto O at_234 (by decide) (pc' := 492) (by decide) ?_
      refine g_forget (Ls' := [none, none, none, none, none, none, none, none, none, some (.int v9), some (.int v10), none, some (.ref v12), some (.int (-2 : Int32)), none, none, none, none, none]) (And.intro rfl (And.intro rfl (And.intro rfl (And.intro rfl trivial)))) ?_
      exact m0_t492 O v9 v10 v12 (-2 : Int32) H _ _ hf
  · rw [if_pos h211] at hf
    refine g_iconst O (pc' := 215) at_214 (v := -1) (by decide) rfl ?_
    refine g_istore O (pc' := 217) at_215 (Ls' := [none, none, none, none, none, some (.int v5), some (.int v6), some (.int v7), some (.int v8), some (.int v9), some (.int v10), none, some (.ref v12), some (.int (-1 : Int32)), some (.int v14), none, none, none, none]) rfl rfl ?_
    refine g_goto O at_217 (by decide) (pc' := 492) (by decide) ?_
    refine g_forget (Ls' := [none, none, none, none, none, none, none, none, none, some (.int v9), some (.int v10), none, some (.ref v12), some (.int (-1 : Int32)), none, none, none, none, none]) (And.intro rfl (And.intro rfl (And.intro rfl (And.intro rfl trivial)))) ?_
    exact m0_t492 O v9 v10 v12 (-1 : Int32) H _ _ hf
def m0_b60 (v5 : Int32) (v6 : Int32) (v7 : Int32) (v8 : Int32) (v9 : Int32) (v10 : Int32) (v11 : Int32) (H : List Obj) : Option (Int32 × List Obj) :=
  (mkArr .byte 8 H (8 : Int32)).bind fun H62 =>
  (wr .byte H62 (H.length) (0 : Int32) (.int (nar .byte v11))).bind fun H68 =>
  (wr .byte H68 (H.length) (1 : Int32) (.int (nar .byte v11))).bind fun H73 =>
  (wr .byte H73 (H.length) (2 : Int32) (.int (nar .byte v11))).bind fun H78 =>
  (wr .byte H78 (H.length) (3 : Int32) (.int (nar .byte v11))).bind fun H83 =>
  (wr .byte H83 (H.length) (4 : Int32) (.int (nar .byte v11))).bind fun H88 =>
  (wr .byte H88 (H.length) (5 : Int32) (.int (nar .byte v11))).bind fun H93 =>
  (wr .byte H93 (H.length) (6 : Int32) (.int (nar .byte v11))).bind fun H99 =>
  (wr .byte H99 (H.length) (7 : Int32) (.int (nar .byte v11))).bind fun H105 =>
  (wr .byte H105 (H.length) v9 (.int (nar .byte ((v5).toInt8.toInt32)))).bind fun H115 =>
  (wr .byte H115 (H.length) (v9 + (1 : Int32)) (.int (nar .byte ((v6).toInt8.toInt32)))).bind fun H125 =>
  (wr .byte H125 (H.length) (v9 + (2 : Int32)) (.int (nar .byte ((v7).toInt8.toInt32)))).bind fun H135 =>
  (wr .byte H135 (H.length) (v9 + (3 : Int32)) (.int (nar .byte ((v8).toInt8.toInt32)))).bind fun H145 =>
  if (m1 v5 (194 : Int32) (223 : Int32)) = 0 then
    if (m1 v5 (224 : Int32) (239 : Int32)) = 0 then
      if (m1 v5 (240 : Int32) (244 : Int32)) = 0 then
        m0_b209 v5 v6 v7 v8 v9 v10 (H.length) (0 : Int32) H145
      else
        m0_b209 v5 v6 v7 v8 v9 v10 (H.length) (4 : Int32) H145
    else
      m0_b209 v5 v6 v7 v8 v9 v10 (H.length) (3 : Int32) H145
  else
    m0_b209 v5 v6 v7 v8 v9 v10 (H.length) (2 : Int32) H145
theorem m0_t60 {G : Gx} {K : Kx} (O : Ok0 G K) (v5 : Int32) (v6 : Int32) (v7 : Int32) (v8 : Int32) (v9 : Int32) (v10 : Int32) (v11 : Int32) (H : List Obj) (r : Int32) (Hf : List Obj) (hf : m0_b60 v5 v6 v7 v8 v9 v10 v11 H = some (r, Hf)) : Run G K (some (.int r)) Hf 60 [none, none, none, none, none, some (.int v5), some (.int v6), some (.int v7), some (.int v8), some (.int v9), some (.int v10), some (.int v11), none, none, none, none, none, none, none] [] H 0 0 := by
  unfold m0_b60 at hf
  refine g_bipush O (pc' := 62) at_60 (v := 8) (by decide) rfl ?_
  obtain ⟨H62, h62, hf⟩ := bnd hf
  refine g_newarray O (pc' := 64) at_62 (cap := 8) tw1 h62 (by decide) (c2 := 1) (s2 := 8) rfl rfl (by decide) (by decide) rfl ?_
  refine g_dup O (pc' := 65) at_64 rfl rfl ?_
  refine g_iconst O (pc' := 66) at_65 (v := 0) (by decide) rfl ?_
  refine g_iload O (pc' := 68) at_66 (v := v11) rfl rfl ?_
  obtain ⟨H68, h68, hf⟩ := bnd hf
  refine g_bastore O (pc' := 69) at_68 h68 rfl ?_
  refine g_dup O (pc' := 70) at_69 rfl rfl ?_
  refine g_iconst O (pc' := 71) at_70 (v := 1) (by decide) rfl ?_
  refine g_iload O (pc' := 73) at_71 (v := v11) rfl rfl ?_
  obtain ⟨H73, h73, hf⟩ := bnd hf
  refine g_bastore O (pc' := 74) at_73 h73 rfl ?_
  refine g_dup O (pc' := 75) at_74 rfl rfl ?_
  refine g_iconst O (pc' := 76) at_75 (v := 2) (by decide) rfl ?_
  refine g_iload O (pc' := 78) at_76 (v := v11) rfl rfl ?_
  obtain ⟨H78, h78, hf⟩ := bnd hf
  refine g_bastore O (pc' := 79) at_78 h78 rfl ?_
  refine g_dup O (pc' := 80) at_79 rfl rfl ?_
  refine g_iconst O (pc' := 81) at_80 (v := 3) (by decide) rfl ?_
  refine g_iload O (pc' := 83) at_81 (v := v11) rfl rfl ?_
  obtain ⟨H83, h83, hf⟩ := bnd hf
  refine g_bastore O (pc' := 84) at_83 h83 rfl ?_
  refine g_dup O (pc' := 85) at_84 rfl rfl ?_
  refine g_iconst O (pc' := 86) at_85 (v := 4) (by decide) rfl ?_
  refine g_iload O (pc' := 88) at_86 (v := v11) rfl rfl ?_
  obtain ⟨H88, h88, hf⟩ := bnd hf
  refine g_bastore O (pc' := 89) at_88 h88 rfl ?_
  refine g_dup O (pc' := 90) at_89 rfl rfl ?_
  refine g_iconst O (pc' := 91) at_90 (v := 5) (by decide) rfl ?_
  refine g_iload O (pc' := 93) at_91 (v := v11) rfl rfl ?_
  obtain ⟨H93, h93, hf⟩ := bnd hf
  refine g_bastore O (pc' := 94) at_93 h93 rfl ?_
  refine g_dup O (pc' := 95) at_94 rfl rfl ?_
  refine g_bipush O (pc' := 97) at_95 (v := 6) (by decide) rfl ?_
  refine g_iload O (pc' := 99) at_97 (v := v11) rfl rfl ?_
  obtain ⟨H99, h99, hf⟩ := bnd hf
  refine g_bastore O (pc' := 100) at_99 h99 rfl ?_
  refine g_dup O (pc' := 101) at_100 rfl rfl ?_
  refine g_bipush O (pc' := 103) at_101 (v := 7) (by decide) rfl ?_
  refine g_iload O (pc' := 105) at_103 (v := v11) rfl rfl ?_
  obtain ⟨H105, h105, hf⟩ := bnd hf
  refine g_bastore O (pc' := 106) at_105 h105 rfl ?_
  refine g_astore O (pc' := 108) at_106 (Ls' := [none, none, none, none, none, some (.int v5), some (.int v6), some (.int v7), some (.int v8), some (.int v9), some (.int v10), some (.int v11), some (.ref (H.length)), none, none, none, none, none, none]) rfl rfl ?_
  refine g_aload O (pc' := 110) at_108 (v := (H.length)) rfl rfl ?_
  refine g_iload O (pc' := 112) at_110 (v := v9) rfl rfl ?_
  refine g_iload O (pc' := 114) at_112 (v := v5) rfl rfl ?_
  refine g_i2b O (pc' := 115) at_114 rfl ?_
  obtain ⟨H115, h115, hf⟩ := bnd hf
  refine g_bastore O (pc' := 116) at_115 h115 rfl ?_
  refine g_aload O (pc' := 118) at_116 (v := (H.length)) rfl rfl ?_
  refine g_iload O (pc' := 120) at_118 (v := v9) rfl rfl ?_
  refine g_iconst O (pc' := 121) at_120 (v := 1) (by decide) rfl ?_
  refine g_iadd O (pc' := 122) at_121 rfl ?_
  refine g_iload O (pc' := 124) at_122 (v := v6) rfl rfl ?_
  refine g_i2b O (pc' := 125) at_124 rfl ?_
  obtain ⟨H125, h125, hf⟩ := bnd hf
  refine g_bastore O (pc' := 126) at_125 h125 rfl ?_
  refine g_aload O (pc' := 128) at_126 (v := (H.length)) rfl rfl ?_
  refine g_iload O (pc' := 130) at_128 (v := v9) rfl rfl ?_
  refine g_iconst O (pc' := 131) at_130 (v := 2) (by decide) rfl ?_
  refine g_iadd O (pc' := 132) at_131 rfl ?_
  refine g_iload O (pc' := 134) at_132 (v := v7) rfl rfl ?_
  refine g_i2b O (pc' := 135) at_134 rfl ?_
  obtain ⟨H135, h135, hf⟩ := bnd hf
  refine g_bastore O (pc' := 136) at_135 h135 rfl ?_
  refine g_aload O (pc' := 138) at_136 (v := (H.length)) rfl rfl ?_
  refine g_iload O (pc' := 140) at_138 (v := v9) rfl rfl ?_
  refine g_iconst O (pc' := 141) at_140 (v := 3) (by decide) rfl ?_
  refine g_iadd O (pc' := 142) at_141 rfl ?_
  refine g_iload O (pc' := 144) at_142 (v := v8) rfl rfl ?_
  refine g_i2b O (pc' := 145) at_144 rfl ?_
  obtain ⟨H145, h145, hf⟩ := bnd hf
  refine g_bastore O (pc' := 146) at_145 h145 rfl ?_
  refine g_iload O (pc' := 148) at_146 (v := v5) rfl rfl ?_
  refine g_sipush O (pc' := 151) at_148 (v := 194) (by decide) rfl ?_
  refine g_sipush O (pc' := 154) at_151 (v := 223) (by decide) rfl ?_
  refine g_static1 O (pc' := 157) at_154 tw2 tw3 tw4 tw5 (by decide) pd1 (as := [(.int v5), (.int (194 : Int32)), (.int (223 : Int32))]) rfl (st := []) rfl rfl (W := 0) rfl (rm := rm1) (by decide) (by decide) (c2 := 1) (s2 := 8) rfl rfl (by decide) (by decide) (con1 (Ok.w O) v5 (194 : Int32) (223 : Int32) H145) rfl ?_
  refine g_if_eq O (pc' := 160) at_157 rfl (by decide) (pc1 := 166) (by decide) (fun h157 => ?_) (fun h157 => ?_)
  · rw [if_pos h157] at hf
    refine g_iload O (pc' := 168) at_166 (v := v5) rfl rfl ?_
    refine g_sipush O (pc' := 171) at_168 (v := 224) (by decide) rfl ?_
    refine g_sipush O (pc' := 174) at_171 (v := 239) (by decide) rfl ?_
    refine g_static1 O (pc' := 177) at_174 tw2 tw3 tw4 tw5 (by decide) pd1 (as := [(.int v5), (.int (224 : Int32)), (.int (239 : Int32))]) rfl (st := []) rfl rfl (W := 0) rfl (rm := rm1) (by decide) (by decide) (c2 := 1) (s2 := 8) rfl rfl (by decide) (by decide) (con1 (Ok.w O) v5 (224 : Int32) (239 : Int32) H145) rfl ?_
    refine g_if_eq O (pc' := 180) at_177 rfl (by decide) (pc1 := 186) (by decide) (fun h177 => ?_) (fun h177 => ?_)
    · rw [if_pos h177] at hf
      refine g_iload O (pc' := 188) at_186 (v := v5) rfl rfl ?_
      refine g_sipush O (pc' := 191) at_188 (v := 240) (by decide) rfl ?_
      refine g_sipush O (pc' := 194) at_191 (v := 244) (by decide) rfl ?_
      refine g_static1 O (pc' := 197) at_194 tw2 tw3 tw4 tw5 (by decide) pd1 (as := [(.int v5), (.int (240 : Int32)), (.int (244 : Int32))]) rfl (st := []) rfl rfl (W := 0) rfl (rm := rm1) (by decide) (by decide) (c2 := 1) (s2 := 8) rfl rfl (by decide) (by decide) (con1 (Ok.w O) v5 (240 : Int32) (244 : Int32) H145) rfl ?_
      refine g_if_eq O (pc' := 200) at_197 rfl (by decide) (pc1 := 206) (by decide) (fun h197 => ?_) (fun h197 => ?_)
      · rw [if_pos h197] at hf
        refine g_iconst O (pc' := 207) at_206 (v := 0) (by decide) rfl ?_
        refine g_istore O (pc' := 209) at_207 (Ls' := [none, none, none, none, none, some (.int v5), some (.int v6), some (.int v7), some (.int v8), some (.int v9), some (.int v10), some (.int v11), some (.ref (H.length)), none, some (.int (0 : Int32)), none, none, none, none]) rfl rfl ?_
        refine g_forget (Ls' := [none, none, none, none, none, some (.int v5), some (.int v6), some (.int v7), some (.int v8), some (.int v9), some (.int v10), none, some (.ref (H.length)), none, some (.int (0 : Int32)), none, none, none, none]) (And.intro rfl (And.intro rfl (And.intro rfl (And.intro rfl (And.intro rfl (And.intro rfl (And.intro rfl (And.intro rfl trivial)))))))) ?_
        exact m0_t209 O v5 v6 v7 v8 v9 v10 (H.length) (0 : Int32) H145 _ _ hf
      · rw [if_neg h197] at hf
        refine g_iconst O (pc' := 201) at_200 (v := 4) (by decide) rfl ?_
        refine g_istore O (pc' := 203) at_201 (Ls' := [none, none, none, none, none, some (.int v5), some (.int v6), some (.int v7), some (.int v8), some (.int v9), some (.int v10), some (.int v11), some (.ref (H.length)), none, some (.int (4 : Int32)), none, none, none, none]) rfl rfl ?_
        refine g_goto O at_203 (by decide) (pc' := 209) (by decide) ?_
        refine g_forget (Ls' := [none, none, none, none, none, some (.int v5), some (.int v6), some (.int v7), some (.int v8), some (.int v9), some (.int v10), none, some (.ref (H.length)), none, some (.int (4 : Int32)), none, none, none, none]) (And.intro rfl (And.intro rfl (And.intro rfl (And.intro rfl (And.intro rfl (And.intro rfl (And.intro rfl (And.intro rfl trivial)))))))) ?_
        exact m0_t209 O v5 v6 v7 v8 v9 v10 (H.length) (4 : Int32) H145 _ _ hf
    · rw [if_neg h177] at hf
      refine g_iconst O (pc' := 181) at_180 (v := 3) (by decide) rfl ?_
      refine g_istore O (pc' := 183) at_181 (Ls' := [none, none, none, none, none, some (.int v5), some (.int v6), some (.int v7), some (.int v8), some (.int v9), some (.int v10), some (.int v11), some (.ref (H.length)), none, some (.int (3 : Int32)), none, none, none, none]) rfl rfl ?_
      refine g_goto O at_183 (by decide) (pc' := 209) (by decide) ?_
      refine g_forget (Ls' := [none, none, none, none, none, some (.int v5), some (.int v6), some (.int v7), some (.int v8), some (.int v9), some (.int v10), none, some (.ref (H.length)), none, some (.int (3 : Int32)), none, none, none, none]) (And.intro rfl (And.intro rfl (And.intro rfl (And.intro rfl (And.intro rfl (And.intro rfl (And.intro rfl (And.intro rfl trivial)))))))) ?_
      exact m0_t209 O v5 v6 v7 v8 v9 v10 (H.length) (3 : Int32) H145 _ _ hf
  · rw [if_neg h157] at hf
    refine g_iconst O (pc' := 161) at_160 (v := 2) (by decide) rfl ?_
    refine g_istore O (pc' := 163) at_161 (Ls' := [none, none, none, none, none, some (.int v5), some (.int v6), some (.int v7), some (.int v8), some (.int v9), some (.int v10), some (.int v11), some (.ref (H.length)), none, some (.int (2 : Int32)), none, none, none, none]) rfl rfl ?_
    refine g_goto O at_163 (by decide) (pc' := 209) (by decide) ?_
    refine g_forget (Ls' := [none, none, none, none, none, some (.int v5), some (.int v6), some (.int v7), some (.int v8), some (.int v9), some (.int v10), none, some (.ref (H.length)), none, some (.int (2 : Int32)), none, none, none, none]) (And.intro rfl (And.intro rfl (And.intro rfl (And.intro rfl (And.intro rfl (And.intro rfl (And.intro rfl (And.intro rfl trivial)))))))) ?_
    exact m0_t209 O v5 v6 v7 v8 v9 v10 (H.length) (2 : Int32) H145 _ _ hf
def m0_b0 (v0 : Int32) (v1 : Int32) (v2 : Int32) (v3 : Int32) (v4 : Int32) (H : List Obj) : Option (Int32 × List Obj) :=
  m0_b60 ((128 : Int32) ||| (v0 &&& (127 : Int32))) (v1 &&& (255 : Int32)) ((XT.ushr v1 (8 : Int32)) &&& (255 : Int32)) ((XT.ushr v1 (16 : Int32)) &&& (255 : Int32)) (v2 &&& (3 : Int32)) (((v2 &&& (3 : Int32)) + (1 : Int32)) + ((v3 &&& (2147483647 : Int32)) % (5 : Int32))) ((v4).toInt8.toInt32) H
theorem m0_t0 {G : Gx} {K : Kx} (O : Ok0 G K) (v0 : Int32) (v1 : Int32) (v2 : Int32) (v3 : Int32) (v4 : Int32) (H : List Obj) (r : Int32) (Hf : List Obj) (hf : m0_b0 v0 v1 v2 v3 v4 H = some (r, Hf)) : Run G K (some (.int r)) Hf 0 [some (.int v0), some (.int v1), some (.int v2), some (.int v3), some (.int v4), none, none, none, none, none, none, none, none, none, none, none, none, none, none] [] H 0 0 := by
  unfold m0_b0 at hf
  refine g_sipush O (pc' := 3) at_0 (v := 128) (by decide) rfl ?_
  refine g_iload_n O (pc' := 4) at_3 (v := v0) rfl rfl ?_
  refine g_bipush O (pc' := 6) at_4 (v := 127) (by decide) rfl ?_
  refine g_iand O (pc' := 7) at_6 rfl ?_
  refine g_ior O (pc' := 8) at_7 rfl ?_
  refine g_istore O (pc' := 10) at_8 (Ls' := [some (.int v0), some (.int v1), some (.int v2), some (.int v3), some (.int v4), some (.int ((128 : Int32) ||| (v0 &&& (127 : Int32)))), none, none, none, none, none, none, none, none, none, none, none, none, none]) rfl rfl ?_
  refine g_iload_n O (pc' := 11) at_10 (v := v1) rfl rfl ?_
  refine g_sipush O (pc' := 14) at_11 (v := 255) (by decide) rfl ?_
  refine g_iand O (pc' := 15) at_14 rfl ?_
  refine g_istore O (pc' := 17) at_15 (Ls' := [some (.int v0), some (.int v1), some (.int v2), some (.int v3), some (.int v4), some (.int ((128 : Int32) ||| (v0 &&& (127 : Int32)))), some (.int (v1 &&& (255 : Int32))), none, none, none, none, none, none, none, none, none, none, none, none]) rfl rfl ?_
  refine g_iload_n O (pc' := 18) at_17 (v := v1) rfl rfl ?_
  refine g_bipush O (pc' := 20) at_18 (v := 8) (by decide) rfl ?_
  refine g_iushr O (pc' := 21) at_20 rfl ?_
  refine g_sipush O (pc' := 24) at_21 (v := 255) (by decide) rfl ?_
  refine g_iand O (pc' := 25) at_24 rfl ?_
  refine g_istore O (pc' := 27) at_25 (Ls' := [some (.int v0), some (.int v1), some (.int v2), some (.int v3), some (.int v4), some (.int ((128 : Int32) ||| (v0 &&& (127 : Int32)))), some (.int (v1 &&& (255 : Int32))), some (.int ((XT.ushr v1 (8 : Int32)) &&& (255 : Int32))), none, none, none, none, none, none, none, none, none, none, none]) rfl rfl ?_
  refine g_iload_n O (pc' := 28) at_27 (v := v1) rfl rfl ?_
  refine g_bipush O (pc' := 30) at_28 (v := 16) (by decide) rfl ?_
  refine g_iushr O (pc' := 31) at_30 rfl ?_
  refine g_sipush O (pc' := 34) at_31 (v := 255) (by decide) rfl ?_
  refine g_iand O (pc' := 35) at_34 rfl ?_
  refine g_istore O (pc' := 37) at_35 (Ls' := [some (.int v0), some (.int v1), some (.int v2), some (.int v3), some (.int v4), some (.int ((128 : Int32) ||| (v0 &&& (127 : Int32)))), some (.int (v1 &&& (255 : Int32))), some (.int ((XT.ushr v1 (8 : Int32)) &&& (255 : Int32))), some (.int ((XT.ushr v1 (16 : Int32)) &&& (255 : Int32))), none, none, none, none, none, none, none, none, none, none]) rfl rfl ?_
  refine g_iload_n O (pc' := 38) at_37 (v := v2) rfl rfl ?_
  refine g_iconst O (pc' := 39) at_38 (v := 3) (by decide) rfl ?_
  refine g_iand O (pc' := 40) at_39 rfl ?_
  refine g_istore O (pc' := 42) at_40 (Ls' := [some (.int v0), some (.int v1), some (.int v2), some (.int v3), some (.int v4), some (.int ((128 : Int32) ||| (v0 &&& (127 : Int32)))), some (.int (v1 &&& (255 : Int32))), some (.int ((XT.ushr v1 (8 : Int32)) &&& (255 : Int32))), some (.int ((XT.ushr v1 (16 : Int32)) &&& (255 : Int32))), some (.int (v2 &&& (3 : Int32))), none, none, none, none, none, none, none, none, none]) rfl rfl ?_
  refine g_iload O (pc' := 44) at_42 (v := (v2 &&& (3 : Int32))) rfl rfl ?_
  refine g_iconst O (pc' := 45) at_44 (v := 1) (by decide) rfl ?_
  refine g_iadd O (pc' := 46) at_45 rfl ?_
  refine g_iload_n O (pc' := 47) at_46 (v := v3) rfl rfl ?_
  refine g_ldc O (pc' := 49) at_47 tw0 rfl ?_
  refine g_iand O (pc' := 50) at_49 rfl ?_
  refine g_iconst O (pc' := 51) at_50 (v := 5) (by decide) rfl ?_
  refine g_irem O (pc' := 52) at_51 (by decide) rfl ?_
  refine g_iadd O (pc' := 53) at_52 rfl ?_
  refine g_istore O (pc' := 55) at_53 (Ls' := [some (.int v0), some (.int v1), some (.int v2), some (.int v3), some (.int v4), some (.int ((128 : Int32) ||| (v0 &&& (127 : Int32)))), some (.int (v1 &&& (255 : Int32))), some (.int ((XT.ushr v1 (8 : Int32)) &&& (255 : Int32))), some (.int ((XT.ushr v1 (16 : Int32)) &&& (255 : Int32))), some (.int (v2 &&& (3 : Int32))), some (.int (((v2 &&& (3 : Int32)) + (1 : Int32)) + ((v3 &&& (2147483647 : Int32)) % (5 : Int32)))), none, none, none, none, none, none, none, none]) rfl rfl ?_
  refine g_iload O (pc' := 57) at_55 (v := v4) rfl rfl ?_
  refine g_i2b O (pc' := 58) at_57 rfl ?_
  refine g_istore O (pc' := 60) at_58 (Ls' := [some (.int v0), some (.int v1), some (.int v2), some (.int v3), some (.int v4), some (.int ((128 : Int32) ||| (v0 &&& (127 : Int32)))), some (.int (v1 &&& (255 : Int32))), some (.int ((XT.ushr v1 (8 : Int32)) &&& (255 : Int32))), some (.int ((XT.ushr v1 (16 : Int32)) &&& (255 : Int32))), some (.int (v2 &&& (3 : Int32))), some (.int (((v2 &&& (3 : Int32)) + (1 : Int32)) + ((v3 &&& (2147483647 : Int32)) % (5 : Int32)))), some (.int ((v4).toInt8.toInt32)), none, none, none, none, none, none, none]) rfl rfl ?_
  refine g_forget (Ls' := [none, none, none, none, none, some (.int ((128 : Int32) ||| (v0 &&& (127 : Int32)))), some (.int (v1 &&& (255 : Int32))), some (.int ((XT.ushr v1 (8 : Int32)) &&& (255 : Int32))), some (.int ((XT.ushr v1 (16 : Int32)) &&& (255 : Int32))), some (.int (v2 &&& (3 : Int32))), some (.int (((v2 &&& (3 : Int32)) + (1 : Int32)) + ((v3 &&& (2147483647 : Int32)) % (5 : Int32)))), some (.int ((v4).toInt8.toInt32)), none, none, none, none, none, none, none]) (And.intro rfl (And.intro rfl (And.intro rfl (And.intro rfl (And.intro rfl (And.intro rfl (And.intro rfl trivial))))))) ?_
  exact m0_t60 O ((128 : Int32) ||| (v0 &&& (127 : Int32))) (v1 &&& (255 : Int32)) ((XT.ushr v1 (8 : Int32)) &&& (255 : Int32)) ((XT.ushr v1 (16 : Int32)) &&& (255 : Int32)) (v2 &&& (3 : Int32)) (((v2 &&& (3 : Int32)) + (1 : Int32)) + ((v3 &&& (2147483647 : Int32)) % (5 : Int32))) ((v4).toInt8.toInt32) H _ _ hf
abbrev m0 (v0 : Int32) (v1 : Int32) (v2 : Int32) (v3 : Int32) (v4 : Int32) (H : List Obj) : Option (Int32 × List Obj) := m0_b0 v0 v1 v2 v3 v4 H

theorem own_byte {v : Int32} (h0 : 0 ≤ v.toInt) (h1 : v.toInt ≤ 255) : (nar .byte (v.toInt8.toInt32)) &&& 255 = v := by
  rw [own_eq]
  have e : nar .byte (v.toInt8.toInt32) = v.toInt8.toInt32.toInt8.toInt32 := rfl
  rw [e]
  have a := c_i2b v; have b := c_i2b v.toInt8.toInt32
  have c : ((v.toInt8.toInt32.toInt8.toInt32) &&& 255).toInt = (v.toInt8.toInt32.toInt8.toInt32).toInt % 256 := c_mask _ 255 8 (by decide) (by decide)
  omega
theorem own_in (v lo hi : Int32) : m1 v lo hi = if lo.toInt ≤ v.toInt ∧ v.toInt ≤ hi.toInt then 1 else 0 := by
  show m1_b0 v lo hi = _
  unfold m1_b0
  by_cases h1 : v < lo
  · rw [if_pos h1]; rw [own_lt] at h1; rw [if_neg (by omega)]; rfl
  · rw [if_neg h1]; rw [own_lt] at h1
    by_cases h2 : hi < v
    · rw [if_pos h2]; rw [own_lt] at h2; rw [if_neg (by omega)]; rfl
    · rw [if_neg h2]; rw [own_lt] at h2; rw [if_pos (by omega)]; rfl
theorem own_in1 {v lo hi : Int32} (h : lo.toInt ≤ v.toInt ∧ v.toInt ≤ hi.toInt) : m1 v lo hi = 1 := by rw [own_in, if_pos h]
theorem own_in0 {v lo hi : Int32} (h : ¬ (lo.toInt ≤ v.toInt ∧ v.toInt ≤ hi.toInt)) : m1 v lo hi = 0 := by rw [own_in, if_neg h]
theorem own_192 : ∀ j : Fin 256, ((j.1).toInt32 &&& 192 = 128 ↔ (128 ≤ j.1 ∧ j.1 ≤ 191)) := by decide +kernel
theorem own_cont {c : Int32} (h0 : 0 ≤ c.toInt) (h1 : c.toInt ≤ 255) : c &&& 192 = 128 ↔ (128 ≤ c.toInt ∧ c.toInt ≤ 191) := by
  obtain ⟨j, rfl⟩ := own_fin (r := c) (N := 256) h0 (by omega) (by decide)
  rw [own_192 j, len_toInt (by show j.1 < 2 ^ 31; omega)]
  omega
theorem own_six {v c : Int32} (h0 : 0 ≤ v.toInt) (h1 : v.toInt < 1048576) : ((v <<< ((6 : Int32) &&& 31)) ||| (c &&& 63)).toInt = v.toInt * 64 + c.toInt % 64 := by
  have a := c_ishl v 6 6 (by decide); have ar := rng32 (v <<< ((6 : Int32) &&& 31))
  have b : (c &&& 63).toInt = c.toInt % 64 := c_mask c 63 6 (by decide) (by decide)
  have d := c_or (v <<< ((6 : Int32) &&& 31)) (c &&& 63) 6 (by decide) 64 (by decide) (by omega) (by omega) (by omega)
  have r := rng32 ((v <<< ((6 : Int32) &&& 31)) ||| (c &&& 63))
  omega
theorem own_eight {v l : Int32} (h0 : 0 ≤ v.toInt) (h1 : v.toInt < 134217728) (h2 : 0 ≤ l.toInt) (h3 : l.toInt < 8) : ((v <<< ((3 : Int32) &&& 31)) ||| l).toInt = v.toInt * 8 + l.toInt := by
  have a := c_ishl v 3 3 (by decide); have ar := rng32 (v <<< ((3 : Int32) &&& 31))
  have d := c_or (v <<< ((3 : Int32) &&& 31)) l 3 (by decide) 8 (by decide) (by omega) (by omega) (by omega)
  have r := rng32 ((v <<< ((3 : Int32) &&& 31)) ||| l)
  omega
theorem own_go {n : Nat} {at' len mn v6 v7 w7 x c : Int32} {H : List Obj} (h : v7 < at' + len) (hr : rdI .byte H 0 v7 = some x) (hx : x &&& 255 = c) (hw : v7 + 1 = w7) : m2_b92 (n + 1) 0 at' len mn v6 v7 H = if (c &&& 192) = 128 then m2_b92 n 0 at' len mn ((v6 <<< ((6 : Int32) &&& 31)) ||| (c &&& 63)) w7 H else some (-1, H) := by
  rw [m2_b92, if_pos h, hr, Option.bind_some, hx, hw]
theorem own_out {n : Nat} {at' len mn v6 v7 : Int32} {H : List Obj} (h : ¬ v7 < at' + len) : m2_b92 (n + 1) 0 at' len mn v6 v7 H = if v6 < mn then some (-1, H) else if 1114111 < v6 then some (-1, H) else if v6 < 55296 then some ((v6 <<< ((3 : Int32) &&& 31)) ||| len, H) else if 57343 < v6 then some ((v6 <<< ((3 : Int32) &&& 31)) ||| len, H) else some (-1, H) := by
  rw [m2_b92, if_neg h]; rfl
theorem own_492 {p q e : Int32} {H : List Obj} (h : m2 0 p q H = some (e, H)) : ∃ Hf, m0_b492 p q 0 e H = some (1, Hf) := by
  unfold m0_b492
  rw [h, Option.bind_some]; dsimp only; rw [if_pos rfl]; exact ⟨_, rfl⟩
/-- decode, by the lead's length -/
theorem own_dec {p q x0 L : Int32} {H : List Obj} (hr : rdI .byte H 0 p = some x0) (hx : x0 &&& 255 = L) : m2 0 p q H = if L < 194 then some (-1, H) else if 244 < L then some (-1, H) else if L < 224 then m2_b67 0 p q L 2 128 H else if L < 240 then m2_b67 0 p q L 3 2048 H else m2_b67 0 p q L 4 65536 H := by
  show m2_b0 0 p q H = _
  unfold m2_b0
  rw [hr, Option.bind_some, hx]; rfl
theorem own_209 {L c1 c2 c3 p q x0 x1 x2 x3 l : Int32} {H : List Obj} (hp0 : 0 ≤ p.toInt) (hp3 : p.toInt ≤ 3) (hq1 : p.toInt + 1 ≤ q.toInt) (hq5 : q.toInt ≤ p.toInt + 5)
    (hL0 : 128 ≤ L.toInt) (hL1 : L.toInt ≤ 255) (h10 : 0 ≤ c1.toInt) (h11 : c1.toInt ≤ 255) (h20 : 0 ≤ c2.toInt) (h21 : c2.toInt ≤ 255) (h30 : 0 ≤ c3.toInt) (h31 : c3.toInt ≤ 255)
    (r0 : rdI .byte H 0 p = some x0) (r1 : rdI .byte H 0 (p + 1) = some x1) (r2 : rdI .byte H 0 (p + 1 + 1) = some x2) (r3 : rdI .byte H 0 (p + 1 + 1 + 1) = some x3)
    (e0 : x0 &&& 255 = L) (e1 : x1 &&& 255 = c1) (e2 : x2 &&& 255 = c2) (e3 : x3 &&& 255 = c3)
    (hl : l = if 194 ≤ L.toInt ∧ L.toInt ≤ 223 then 2 else if 224 ≤ L.toInt ∧ L.toInt ≤ 239 then 3 else if 240 ≤ L.toInt ∧ L.toInt ≤ 244 then 4 else 0) : ∃ Hf, m0_b209 L c1 c2 c3 p q 0 l H = some (1, Hf) := by
  have z0 : (0 : Int32).toInt = 0 := by decide
  have z1 : (1 : Int32).toInt = 1 := by decide
  have z2 : (2 : Int32).toInt = 2 := by decide
  have z3 : (3 : Int32).toInt = 3 := by decide
  have z4 : (4 : Int32).toInt = 4 := by decide
  have z8 : (8 : Int32).toInt = 8 := by decide
  have z64 : (64 : Int32).toInt = 64 := by decide
  have z4096 : (4096 : Int32).toInt = 4096 := by decide
  have z262144 : (262144 : Int32).toInt = 262144 := by decide
  have z128 : (128 : Int32).toInt = 128 := by decide
  have z143 : (143 : Int32).toInt = 143 := by decide
  have z144 : (144 : Int32).toInt = 144 := by decide
  have z159 : (159 : Int32).toInt = 159 := by decide
  have z160 : (160 : Int32).toInt = 160 := by decide
  have z191 : (191 : Int32).toInt = 191 := by decide
  have z192 : (192 : Int32).toInt = 192 := by decide
  have z194 : (194 : Int32).toInt = 194 := by decide
  have z224 : (224 : Int32).toInt = 224 := by decide
  have z237 : (237 : Int32).toInt = 237 := by decide
  have z240 : (240 : Int32).toInt = 240 := by decide
  have z244 : (244 : Int32).toInt = 244 := by decide
  have z2048 : (2048 : Int32).toInt = 2048 := by decide
  have z65536 : (65536 : Int32).toInt = 65536 := by decide
  have z55296 : (55296 : Int32).toInt = 55296 := by decide
  have z57343 : (57343 : Int32).toInt = 57343 := by decide
  have z1114111 : (1114111 : Int32).toInt = 1114111 := by decide
  have hd := own_dec (q := q) r0 e0
  have s1 := c_iadd p 1; have s1r := rng32 (p + 1)
  have s2 := c_iadd (p + 1) 1; have s2r := rng32 (p + 1 + 1)
  have s3 := c_iadd (p + 1 + 1) 1; have s3r := rng32 (p + 1 + 1 + 1)
  have s4 := c_iadd (p + 1 + 1 + 1) 1; have s4r := rng32 (p + 1 + 1 + 1 + 1)
  have t2 := c_iadd p 2; have t2r := rng32 (p + 2)
  have t3 := c_iadd p 3; have t3r := rng32 (p + 3)
  have t4 := c_iadd p 4; have t4r := rng32 (p + 4)
  have u := c_isub q p; have ur := rng32 (q - p)
  have k1 := own_cont h10 h11; have k2 := own_cont h20 h21; have k3 := own_cont h30 h31
  -- the differences
  have d1 := c_isub c1 128; have d1r := rng32 (c1 - 128)
  have d2 := c_isub c2 128; have d2r := rng32 (c2 - 128)
  have d3 := c_isub c3 128; have d3r := rng32 (c3 - 128)
  unfold m0_b209
  by_cases g2 : 194 ≤ L.toInt ∧ L.toInt ≤ 223
  · rw [if_pos g2] at hl
    subst hl
    rw [if_neg (by rw [own_lt]; omega), if_neg (by rw [own_lt]; omega), if_pos (by rw [own_lt]; omega)] at hd
    unfold m2_b67 at hd
    rw [if_neg (by decide)]
    by_cases hc : q - p < 2
    · rw [if_pos hc]
      rw [own_lt] at hc
      rw [if_pos (by rw [own_lt]; omega)] at hd
      exact own_492 hd
    · rw [if_neg hc]
      rw [own_lt] at hc
      rw [if_neg (by rw [own_lt]; omega), own_go (n := 7) (by rw [own_lt]; omega) r1 e1 rfl] at hd
      rw [if_neg (by rw [own_eq]; omega), if_neg (by rw [own_eq]; omega), if_neg (by rw [own_eq]; omega), if_neg (by rw [own_eq]; omega)]
      unfold m0_b308 m0_b340 m0_b360 m0_b364 m0_b365
      by_cases hk : 128 ≤ c1.toInt ∧ c1.toInt ≤ 191
      · rw [if_pos (k1.mpr hk), own_out (n := 6) (by rw [own_lt]; omega)] at hd
        rw [own_in1 (v := c1) (lo := 128) (hi := 191) (by omega), if_neg (by decide), if_pos (by decide), if_pos (by decide), if_neg (by decide), if_pos rfl]
        have m : (L &&& (127 : Int32) >>> ((2 : Int32) &&& 31)).toInt = L.toInt % 32 := c_mask L _ 5 (by decide) (by decide)
        have b := own_six (v := L &&& (127 : Int32) >>> ((2 : Int32) &&& 31)) (c := c1) (by omega) (by omega)
        generalize (L &&& (127 : Int32) >>> ((2 : Int32) &&& 31)) <<< ((6 : Int32) &&& 31) ||| c1 &&& 63 = w at *
        rw [if_neg (by rw [own_lt]; omega), if_neg (by rw [own_lt]; omega), if_pos (by rw [own_lt]; omega)] at hd
        have f := own_eight (v := w) (l := 2) (by omega) (by omega) (by omega) (by omega)
        unfold m0_b482
        have a1 := c_isub L 192; have a1r := rng32 (L - 192)
        have a2 := c_imul (L - 192) 64; have a2r := rng32 ((L - 192) * 64)
        have a3 := c_iadd ((L - 192) * 64) (c1 - 128); have a3r := rng32 ((L - 192) * 64 + (c1 - 128))
        have a4 := c_imul ((L - 192) * 64 + (c1 - 128)) 8; have a4r := rng32 (((L - 192) * 64 + (c1 - 128)) * 8)
        have a5 := c_iadd (((L - 192) * 64 + (c1 - 128)) * 8) 2; have a5r := rng32 (((L - 192) * 64 + (c1 - 128)) * 8 + 2)
        rw [z64] at a2; rw [z8] at a4
        have : w <<< ((3 : Int32) &&& 31) ||| 2 = ((L - 192) * 64 + (c1 - 128)) * 8 + 2 := by rw [own_eq]; omega
        rw [this] at hd
        exact own_492 hd
      · rw [if_neg (fun x => hk (k1.mp x))] at hd
        rw [own_in0 (v := c1) (lo := 128) (hi := 191) (by omega), if_pos rfl, if_pos rfl]
        exact own_492 hd
  · rw [if_neg g2] at hl
    by_cases g3 : 224 ≤ L.toInt ∧ L.toInt ≤ 239
    · rw [if_pos g3] at hl
      subst hl
      rw [if_neg (by rw [own_lt]; omega), if_neg (by rw [own_lt]; omega), if_neg (by rw [own_lt]; omega), if_pos (by rw [own_lt]; omega)] at hd
      unfold m2_b67 at hd
      rw [if_neg (by decide)]
      by_cases hc : q - p < 3
      · rw [if_pos hc]
        rw [own_lt] at hc
        rw [if_pos (by rw [own_lt]; omega)] at hd
        exact own_492 hd
      · rw [if_neg hc]
        rw [own_lt] at hc
        rw [if_neg (by rw [own_lt]; omega), own_go (n := 7) (by rw [own_lt]; omega) r1 e1 rfl] at hd
        -- the bounds of the second byte
        have lohi : ∃ lo hi : Int32, (lo.toInt = if L.toInt = 224 then 160 else 128) ∧ (hi.toInt = if L.toInt = 237 then 159 else 191) ∧ (∀ z, m0_b308 L c1 c2 c3 p q 0 3 lo hi H = z → (if L = 224 then m0_b308 L c1 c2 c3 p q 0 3 160 191 H else if L = 237 then m0_b308 L c1 c2 c3 p q 0 3 128 159 H else if L = 240 then m0_b308 L c1 c2 c3 p q 0 3 144 191 H else if L = 244 then m0_b308 L c1 c2 c3 p q 0 3 128 143 H else m0_b308 L c1 c2 c3 p q 0 3 128 191 H) = z) := by
          by_cases q1 : L = 224
          · rw [own_eq] at q1
            exact ⟨160, 191, by rw [if_pos (by omega)]; decide, by rw [if_neg (by omega)]; decide, fun z hz => by rw [if_pos (by rw [own_eq]; omega)]; exact hz⟩
          · rw [own_eq] at q1
            by_cases q2 : L = 237
            · rw [own_eq] at q2
              exact ⟨128, 159, by rw [if_neg (by omega)]; decide, by rw [if_pos (by omega)]; decide, fun z hz => by rw [if_neg (by rw [own_eq]; omega), if_pos (by rw [own_eq]; omega)]; exact hz⟩
            · rw [own_eq] at q2
              exact ⟨128, 191, by rw [if_neg (by omega)]; decide, by rw [if_neg (by omega)]; decide, fun z hz => by rw [if_neg (by rw [own_eq]; omega), if_neg (by rw [own_eq]; omega), if_neg (by rw [own_eq]; omega), if_neg (by rw [own_eq]; omega)]; exact hz⟩
        obtain ⟨lo, hi, hlo, hhi, hsel⟩ := lohi
        suffices hs : ∃ Hf, m0_b308 L c1 c2 c3 p q 0 3 lo hi H = some (1, Hf) by
          obtain ⟨Hf, hh⟩ := hs; exact ⟨Hf, hsel _ hh⟩
        clear hsel
        unfold m0_b308 m0_b340 m0_b360 m0_b364 m0_b365
        have m : (L &&& (127 : Int32) >>> ((3 : Int32) &&& 31)).toInt = L.toInt % 16 := c_mask L _ 4 (by decide) (by decide)
        have b := own_six (v := L &&& (127 : Int32) >>> ((3 : Int32) &&& 31)) (c := c1) (by omega) (by omega)
        generalize (L &&& (127 : Int32) >>> ((3 : Int32) &&& 31)) <<< ((6 : Int32) &&& 31) ||| c1 &&& 63 = w at *
        by_cases hk1 : 128 ≤ c1.toInt ∧ c1.toInt ≤ 191
        · rw [if_pos (k1.mpr hk1), own_go (n := 6) (by rw [own_lt]; omega) r2 e2 rfl] at hd
          have b2 := own_six (v := w) (c := c2) (by omega) (by omega)
          generalize w <<< ((6 : Int32) &&& 31) ||| c2 &&& 63 = w2 at *
          by_cases hk2 : 128 ≤ c2.toInt ∧ c2.toInt ≤ 191
          · rw [if_pos (k2.mpr hk2), own_out (n := 5) (by rw [own_lt]; omega)] at hd
            by_cases hr : lo.toInt ≤ c1.toInt ∧ c1.toInt ≤ hi.toInt
            · rw [own_in1 hr, if_neg (by decide), if_neg (by decide), own_in1 (v := c2) (lo := 128) (hi := 191) (by omega), if_neg (by decide), if_pos (by decide), if_neg (by decide), if_neg (by decide), if_pos rfl]
              have f := own_eight (v := w2) (l := 3) (by omega) (by omega) (by omega) (by omega)
              have hd' : m2 0 p q H = some (w2 <<< ((3 : Int32) &&& 31) ||| 3, H) := by
                rw [hd, if_neg (by rw [own_lt]; split at hlo <;> omega), if_neg (by rw [own_lt]; omega)]
                by_cases hlt : w2 < 55296
                · rw [if_pos hlt]
                · rw [if_neg hlt, if_pos (by rw [own_lt] at hlt ⊢; split at hhi <;> omega)]
              unfold m0_b482
              have a1 := c_isub L 224; have a1r := rng32 (L - 224)
              have a2 := c_imul (L - 224) 4096; have a2r := rng32 ((L - 224) * 4096)
              have a3 := c_imul (c1 - 128) 64; have a3r := rng32 ((c1 - 128) * 64)
              have a4 := c_iadd ((L - 224) * 4096) ((c1 - 128) * 64); have a4r := rng32 ((L - 224) * 4096 + (c1 - 128) * 64)
              have a5 := c_iadd ((L - 224) * 4096 + (c1 - 128) * 64) (c2 - 128); have a5r := rng32 ((L - 224) * 4096 + (c1 - 128) * 64 + (c2 - 128))
              have a6 := c_imul ((L - 224) * 4096 + (c1 - 128) * 64 + (c2 - 128)) 8; have a6r := rng32 (((L - 224) * 4096 + (c1 - 128) * 64 + (c2 - 128)) * 8)
              have a7 := c_iadd (((L - 224) * 4096 + (c1 - 128) * 64 + (c2 - 128)) * 8) 3; have a7r := rng32 (((L - 224) * 4096 + (c1 - 128) * 64 + (c2 - 128)) * 8 + 3)
              rw [z4096] at a2; rw [z64] at a3; rw [z8] at a6
              have : w2 <<< ((3 : Int32) &&& 31) ||| 3 = ((L - 224) * 4096 + (c1 - 128) * 64 + (c2 - 128)) * 8 + 3 := by rw [own_eq]; omega
              rw [this] at hd'
              exact own_492 hd'
            · rw [own_in0 hr, if_pos rfl, if_pos rfl]
              refine own_492 (hd.trans ?_)
              by_cases q1 : L.toInt = 224
              · rw [if_pos (by rw [own_lt]; rw [if_pos q1] at hlo; rw [if_neg (by omega)] at hhi; omega)]
              · rw [if_neg q1] at hlo
                by_cases q2 : L.toInt = 237
                · rw [if_pos q2] at hhi
                  rw [if_neg (by rw [own_lt]; omega), if_neg (by rw [own_lt]; omega), if_neg (by rw [own_lt]; omega), if_neg (by rw [own_lt]; omega)]
                · rw [if_neg q2] at hhi; omega
          · rw [if_neg (fun x => hk2 (k2.mp x))] at hd
            by_cases hr : lo.toInt ≤ c1.toInt ∧ c1.toInt ≤ hi.toInt
            · rw [own_in1 hr, if_neg (by decide), if_neg (by decide), own_in0 (v := c2) (lo := 128) (hi := 191) (by omega), if_pos rfl, if_pos rfl]
              exact own_492 hd
            · rw [own_in0 hr, if_pos rfl, if_pos rfl]
              exact own_492 hd
        · rw [if_neg (fun x => hk1 (k1.mp x))] at hd
          rw [own_in0 (v := c1) (lo := lo) (hi := hi) (by split at hlo <;> split at hhi <;> omega), if_pos rfl, if_pos rfl]
          exact own_492 hd
    · rw [if_neg g3] at hl
      by_cases g4 : 240 ≤ L.toInt ∧ L.toInt ≤ 244
      · rw [if_pos g4] at hl
        subst hl
        rw [if_neg (by rw [own_lt]; omega), if_neg (by rw [own_lt]; omega), if_neg (by rw [own_lt]; omega), if_neg (by rw [own_lt]; omega)] at hd
        unfold m2_b67 at hd
        rw [if_neg (by decide)]
        by_cases hc : q - p < 4
        · rw [if_pos hc]
          rw [own_lt] at hc
          rw [if_pos (by rw [own_lt]; omega)] at hd
          exact own_492 hd
        · rw [if_neg hc]
          rw [own_lt] at hc
          rw [if_neg (by rw [own_lt]; omega), own_go (n := 7) (by rw [own_lt]; omega) r1 e1 rfl] at hd
          have lohi : ∃ lo hi : Int32, (lo.toInt = if L.toInt = 240 then 144 else 128) ∧ (hi.toInt = if L.toInt = 244 then 143 else 191) ∧ (∀ z, m0_b308 L c1 c2 c3 p q 0 4 lo hi H = z → (if L = 224 then m0_b308 L c1 c2 c3 p q 0 4 160 191 H else if L = 237 then m0_b308 L c1 c2 c3 p q 0 4 128 159 H else if L = 240 then m0_b308 L c1 c2 c3 p q 0 4 144 191 H else if L = 244 then m0_b308 L c1 c2 c3 p q 0 4 128 143 H else m0_b308 L c1 c2 c3 p q 0 4 128 191 H) = z) := by
            by_cases q1 : L = 240
            · rw [own_eq] at q1
              exact ⟨144, 191, by rw [if_pos (by omega)]; decide, by rw [if_neg (by omega)]; decide, fun z hz => by rw [if_neg (by rw [own_eq]; omega), if_neg (by rw [own_eq]; omega), if_pos (by rw [own_eq]; omega)]; exact hz⟩
            · rw [own_eq] at q1
              by_cases q2 : L = 244
              · rw [own_eq] at q2
                exact ⟨128, 143, by rw [if_neg (by omega)]; decide, by rw [if_pos (by omega)]; decide, fun z hz => by rw [if_neg (by rw [own_eq]; omega), if_neg (by rw [own_eq]; omega), if_neg (by rw [own_eq]; omega), if_pos (by rw [own_eq]; omega)]; exact hz⟩
              · rw [own_eq] at q2
                exact ⟨128, 191, by rw [if_neg (by omega)]; decide, by rw [if_neg (by omega)]; decide, fun z hz => by rw [if_neg (by rw [own_eq]; omega), if_neg (by rw [own_eq]; omega), if_neg (by rw [own_eq]; omega), if_neg (by rw [own_eq]; omega)]; exact hz⟩
          obtain ⟨lo, hi, hlo, hhi, hsel⟩ := lohi
          suffices hs : ∃ Hf, m0_b308 L c1 c2 c3 p q 0 4 lo hi H = some (1, Hf) by
            obtain ⟨Hf, hh⟩ := hs; exact ⟨Hf, hsel _ hh⟩
          clear hsel
          unfold m0_b308 m0_b340 m0_b360 m0_b364 m0_b365
          have m : (L &&& (127 : Int32) >>> ((4 : Int32) &&& 31)).toInt = L.toInt % 8 := c_mask L _ 3 (by decide) (by decide)
          have b := own_six (v := L &&& (127 : Int32) >>> ((4 : Int32) &&& 31)) (c := c1) (by omega) (by omega)
          generalize (L &&& (127 : Int32) >>> ((4 : Int32) &&& 31)) <<< ((6 : Int32) &&& 31) ||| c1 &&& 63 = w at *
          by_cases hk1 : 128 ≤ c1.toInt ∧ c1.toInt ≤ 191
          · rw [if_pos (k1.mpr hk1), own_go (n := 6) (by rw [own_lt]; omega) r2 e2 rfl] at hd
            have b2 := own_six (v := w) (c := c2) (by omega) (by omega)
            generalize w <<< ((6 : Int32) &&& 31) ||| c2 &&& 63 = w2 at *
            by_cases hk2 : 128 ≤ c2.toInt ∧ c2.toInt ≤ 191
            · rw [if_pos (k2.mpr hk2), own_go (n := 5) (by rw [own_lt]; omega) r3 e3 rfl] at hd
              have b3 := own_six (v := w2) (c := c3) (by omega) (by omega)
              generalize w2 <<< ((6 : Int32) &&& 31) ||| c3 &&& 63 = w3 at *
              by_cases hk3 : 128 ≤ c3.toInt ∧ c3.toInt ≤ 191
              · rw [if_pos (k3.mpr hk3), own_out (n := 4) (by rw [own_lt]; omega)] at hd
                by_cases hr : lo.toInt ≤ c1.toInt ∧ c1.toInt ≤ hi.toInt
                · rw [own_in1 hr, if_neg (by decide), if_neg (by decide), own_in1 (v := c2) (lo := 128) (hi := 191) (by omega), if_neg (by decide), if_neg (by decide), own_in1 (v := c3) (lo := 128) (hi := 191) (by omega), if_neg (by decide), if_neg (by decide), if_neg (by decide), if_neg (by decide)]
                  have f := own_eight (v := w3) (l := 4) (by omega) (by omega) (by omega) (by omega)
                  have hd' : m2 0 p q H = some (w3 <<< ((3 : Int32) &&& 31) ||| 4, H) := by
                    rw [hd, if_neg (by rw [own_lt]; split at hlo <;> omega), if_neg (by rw [own_lt]; split at hhi <;> omega), if_neg (by rw [own_lt]; split at hlo <;> omega), if_pos (by rw [own_lt]; split at hlo <;> omega)]
                  unfold m0_b482
                  have a1 := c_isub L 240; have a1r := rng32 (L - 240)
                  have a2 := c_imul (L - 240) 262144; have a2r := rng32 ((L - 240) * 262144)
                  have a3 := c_imul (c1 - 128) 4096; have a3r := rng32 ((c1 - 128) * 4096)
                  have a4 := c_iadd ((L - 240) * 262144) ((c1 - 128) * 4096); have a4r := rng32 ((L - 240) * 262144 + (c1 - 128) * 4096)
                  have a5 := c_imul (c2 - 128) 64; have a5r := rng32 ((c2 - 128) * 64)
                  have a6 := c_iadd ((L - 240) * 262144 + (c1 - 128) * 4096) ((c2 - 128) * 64); have a6r := rng32 ((L - 240) * 262144 + (c1 - 128) * 4096 + (c2 - 128) * 64)
                  have a7 := c_iadd ((L - 240) * 262144 + (c1 - 128) * 4096 + (c2 - 128) * 64) (c3 - 128); have a7r := rng32 ((L - 240) * 262144 + (c1 - 128) * 4096 + (c2 - 128) * 64 + (c3 - 128))
                  have a8 := c_imul ((L - 240) * 262144 + (c1 - 128) * 4096 + (c2 - 128) * 64 + (c3 - 128)) 8; have a8r := rng32 (((L - 240) * 262144 + (c1 - 128) * 4096 + (c2 - 128) * 64 + (c3 - 128)) * 8)
                  have a9 := c_iadd (((L - 240) * 262144 + (c1 - 128) * 4096 + (c2 - 128) * 64 + (c3 - 128)) * 8) 4; have a9r := rng32 (((L - 240) * 262144 + (c1 - 128) * 4096 + (c2 - 128) * 64 + (c3 - 128)) * 8 + 4)
                  rw [z262144] at a2; rw [z4096] at a3; rw [z64] at a5; rw [z8] at a8
                  have : w3 <<< ((3 : Int32) &&& 31) ||| 4 = ((L - 240) * 262144 + (c1 - 128) * 4096 + (c2 - 128) * 64 + (c3 - 128)) * 8 + 4 := by rw [own_eq]; omega
                  rw [this] at hd'
                  exact own_492 hd'
                · rw [own_in0 hr, if_pos rfl, if_pos rfl]
                  refine own_492 (hd.trans ?_)
                  by_cases q1 : L.toInt = 240
                  · rw [if_pos (by rw [own_lt]; rw [if_pos q1] at hlo; rw [if_neg (by omega)] at hhi; omega)]
                  · rw [if_neg q1] at hlo
                    by_cases q2 : L.toInt = 244
                    · rw [if_pos q2] at hhi
                      rw [if_neg (by rw [own_lt]; omega), if_pos (by rw [own_lt]; omega)]
                    · rw [if_neg q2] at hhi; omega
              · rw [if_neg (fun x => hk3 (k3.mp x))] at hd
                by_cases hr : lo.toInt ≤ c1.toInt ∧ c1.toInt ≤ hi.toInt
                · rw [own_in1 hr, if_neg (by decide), if_neg (by decide), own_in1 (v := c2) (lo := 128) (hi := 191) (by omega), if_neg (by decide), if_neg (by decide), own_in0 (v := c3) (lo := 128) (hi := 191) (by omega), if_pos rfl, if_pos rfl]
                  exact own_492 hd
                · rw [own_in0 hr, if_pos rfl, if_pos rfl]
                  exact own_492 hd
            · rw [if_neg (fun x => hk2 (k2.mp x))] at hd
              by_cases hr : lo.toInt ≤ c1.toInt ∧ c1.toInt ≤ hi.toInt
              · rw [own_in1 hr, if_neg (by decide), if_neg (by decide), own_in0 (v := c2) (lo := 128) (hi := 191) (by omega), if_pos rfl, if_pos rfl]
                exact own_492 hd
              · rw [own_in0 hr, if_pos rfl, if_pos rfl]
                exact own_492 hd
          · rw [if_neg (fun x => hk1 (k1.mp x))] at hd
            rw [own_in0 (v := c1) (lo := lo) (hi := hi) (by split at hlo <;> split at hhi <;> omega), if_pos rfl, if_pos rfl]
            exact own_492 hd
      · rw [if_neg g4] at hl
        subst hl
        rw [if_pos rfl]
        refine own_492 ?_
        rw [hd]
        by_cases q1 : L < 194
        · rw [if_pos q1]
        · rw [if_neg q1, if_pos (by rw [own_lt] at q1 ⊢; omega)]
abbrev B8 (a b c d e f g h : Int32) : List Obj := [.inl (.byte, [.int a, .int b, .int c, .int d, .int e, .int f, .int g, .int h])]
abbrev N (v : Int32) : Int32 := nar .byte (v.toInt8.toInt32)
theorem own_sel {L c1 c2 c3 p q : Int32} {H : List Obj} (k : ∀ l : Int32, (l = if 194 ≤ L.toInt ∧ L.toInt ≤ 223 then 2 else if 224 ≤ L.toInt ∧ L.toInt ≤ 239 then 3 else if 240 ≤ L.toInt ∧ L.toInt ≤ 244 then 4 else 0) → ∃ Hf, m0_b209 L c1 c2 c3 p q 0 l H = some (1, Hf)) :
    ∃ Hf, (if m1 L 194 223 = 0 then if m1 L 224 239 = 0 then if m1 L 240 244 = 0 then m0_b209 L c1 c2 c3 p q 0 0 H else m0_b209 L c1 c2 c3 p q 0 4 H else m0_b209 L c1 c2 c3 p q 0 3 H else m0_b209 L c1 c2 c3 p q 0 2 H) = some (1, Hf) := by
  have y1 : (194 : Int32).toInt = 194 := by decide
  have y2 : (223 : Int32).toInt = 223 := by decide
  have y3 : (224 : Int32).toInt = 224 := by decide
  have y4 : (239 : Int32).toInt = 239 := by decide
  have y5 : (240 : Int32).toInt = 240 := by decide
  have y6 : (244 : Int32).toInt = 244 := by decide
  have z : ¬ (1 : Int32) = 0 := by decide
  rw [own_in, own_in, own_in, y1, y2, y3, y4, y5, y6]
  by_cases g2 : 194 ≤ L.toInt ∧ L.toInt ≤ 223
  · rw [if_pos g2, if_neg z]; exact k 2 (by rw [if_pos g2])
  · rw [if_neg g2, if_pos rfl]
    by_cases g3 : 224 ≤ L.toInt ∧ L.toInt ≤ 239
    · rw [if_pos g3, if_neg z]; exact k 3 (by rw [if_neg g2, if_pos g3])
    · rw [if_neg g3, if_pos rfl]
      by_cases g4 : 240 ≤ L.toInt ∧ L.toInt ≤ 244
      · rw [if_pos g4, if_neg z]; exact k 4 (by rw [if_neg g2, if_neg g3, if_pos g4])
      · rw [if_neg g4, if_pos rfl]; exact k 0 (by rw [if_neg g2, if_neg g3, if_neg g4])
theorem own_60 {L c1 c2 c3 p q f : Int32} (hp : p = 0 ∨ p = 1 ∨ p = 2 ∨ p = 3) (hq1 : p.toInt + 1 ≤ q.toInt) (hq5 : q.toInt ≤ p.toInt + 5)
    (hL0 : 128 ≤ L.toInt) (hL1 : L.toInt ≤ 255) (h10 : 0 ≤ c1.toInt) (h11 : c1.toInt ≤ 255) (h20 : 0 ≤ c2.toInt) (h21 : c2.toInt ≤ 255) (h30 : 0 ≤ c3.toInt) (h31 : c3.toInt ≤ 255) : ∃ Hf, m0_b60 L c1 c2 c3 p q f [] = some (1, Hf) := by
  have e0 : N L &&& 255 = L := own_byte (by omega) (by omega)
  have e1 : N c1 &&& 255 = c1 := own_byte h10 h11
  have e2 : N c2 &&& 255 = c2 := own_byte h20 h21
  have e3 : N c3 &&& 255 = c3 := own_byte h30 h31
  rcases hp with rfl | rfl | rfl | rfl
  · have e : m0_b60 L c1 c2 c3 0 q f [] = (if m1 L 194 223 = 0 then if m1 L 224 239 = 0 then if m1 L 240 244 = 0 then m0_b209 L c1 c2 c3 0 q 0 0 (B8 (N L) (N c1) (N c2) (N c3) (nar .byte f) (nar .byte f) (nar .byte f) (nar .byte f)) else m0_b209 L c1 c2 c3 0 q 0 4 (B8 (N L) (N c1) (N c2) (N c3) (nar .byte f) (nar .byte f) (nar .byte f) (nar .byte f)) else m0_b209 L c1 c2 c3 0 q 0 3 (B8 (N L) (N c1) (N c2) (N c3) (nar .byte f) (nar .byte f) (nar .byte f) (nar .byte f)) else m0_b209 L c1 c2 c3 0 q 0 2 (B8 (N L) (N c1) (N c2) (N c3) (nar .byte f) (nar .byte f) (nar .byte f) (nar .byte f))) := by simp [m0_b60, mkArr, wr, arr]
    rw [e]
    exact own_sel fun l hl => own_209 (by decide) (by decide) hq1 hq5 hL0 hL1 h10 h11 h20 h21 h30 h31 rfl rfl rfl rfl e0 e1 e2 e3 hl
  · have e : m0_b60 L c1 c2 c3 1 q f [] = (if m1 L 194 223 = 0 then if m1 L 224 239 = 0 then if m1 L 240 244 = 0 then m0_b209 L c1 c2 c3 1 q 0 0 (B8 (nar .byte f) (N L) (N c1) (N c2) (N c3) (nar .byte f) (nar .byte f) (nar .byte f)) else m0_b209 L c1 c2 c3 1 q 0 4 (B8 (nar .byte f) (N L) (N c1) (N c2) (N c3) (nar .byte f) (nar .byte f) (nar .byte f)) else m0_b209 L c1 c2 c3 1 q 0 3 (B8 (nar .byte f) (N L) (N c1) (N c2) (N c3) (nar .byte f) (nar .byte f) (nar .byte f)) else m0_b209 L c1 c2 c3 1 q 0 2 (B8 (nar .byte f) (N L) (N c1) (N c2) (N c3) (nar .byte f) (nar .byte f) (nar .byte f))) := by simp [m0_b60, mkArr, wr, arr]
    rw [e]
    exact own_sel fun l hl => own_209 (by decide) (by decide) hq1 hq5 hL0 hL1 h10 h11 h20 h21 h30 h31 rfl rfl rfl rfl e0 e1 e2 e3 hl
  · have e : m0_b60 L c1 c2 c3 2 q f [] = (if m1 L 194 223 = 0 then if m1 L 224 239 = 0 then if m1 L 240 244 = 0 then m0_b209 L c1 c2 c3 2 q 0 0 (B8 (nar .byte f) (nar .byte f) (N L) (N c1) (N c2) (N c3) (nar .byte f) (nar .byte f)) else m0_b209 L c1 c2 c3 2 q 0 4 (B8 (nar .byte f) (nar .byte f) (N L) (N c1) (N c2) (N c3) (nar .byte f) (nar .byte f)) else m0_b209 L c1 c2 c3 2 q 0 3 (B8 (nar .byte f) (nar .byte f) (N L) (N c1) (N c2) (N c3) (nar .byte f) (nar .byte f)) else m0_b209 L c1 c2 c3 2 q 0 2 (B8 (nar .byte f) (nar .byte f) (N L) (N c1) (N c2) (N c3) (nar .byte f) (nar .byte f))) := by simp [m0_b60, mkArr, wr, arr]
    rw [e]
    exact own_sel fun l hl => own_209 (by decide) (by decide) hq1 hq5 hL0 hL1 h10 h11 h20 h21 h30 h31 rfl rfl rfl rfl e0 e1 e2 e3 hl
  · have e : m0_b60 L c1 c2 c3 3 q f [] = (if m1 L 194 223 = 0 then if m1 L 224 239 = 0 then if m1 L 240 244 = 0 then m0_b209 L c1 c2 c3 3 q 0 0 (B8 (nar .byte f) (nar .byte f) (nar .byte f) (N L) (N c1) (N c2) (N c3) (nar .byte f)) else m0_b209 L c1 c2 c3 3 q 0 4 (B8 (nar .byte f) (nar .byte f) (nar .byte f) (N L) (N c1) (N c2) (N c3) (nar .byte f)) else m0_b209 L c1 c2 c3 3 q 0 3 (B8 (nar .byte f) (nar .byte f) (nar .byte f) (N L) (N c1) (N c2) (N c3) (nar .byte f)) else m0_b209 L c1 c2 c3 3 q 0 2 (B8 (nar .byte f) (nar .byte f) (nar .byte f) (N L) (N c1) (N c2) (N c3) (nar .byte f))) := by simp [m0_b60, mkArr, wr, arr]
    rw [e]
    exact own_sel fun l hl => own_209 (by decide) (by decide) hq1 hq5 hL0 hL1 h10 h11 h20 h21 h30 h31 rfl rfl rfl rfl e0 e1 e2 e3 hl
theorem plain (i0 : Int32) (i1 : Int32) (i2 : Int32) (i3 : Int32) (i4 : Int32) : ∃ Hf, m0 i0 i1 i2 i3 i4 [] = some (1, Hf) := by
  show ∃ Hf, m0_b0 i0 i1 i2 i3 i4 [] = some (1, Hf)
  unfold m0_b0
  have z128 : (128 : Int32).toInt = 128 := by decide
  have z1 : (1 : Int32).toInt = 1 := by decide
  have a0 : (i0 &&& 127).toInt = i0.toInt % 128 := c_mask i0 127 7 (by decide) (by decide)
  have d := c_or 128 (i0 &&& 127) 7 (by decide) 128 (by decide) (by omega) (by omega) (by omega)
  have r := rng32 (128 ||| (i0 &&& 127))
  have a1 : (i1 &&& 255).toInt = i1.toInt % 256 := c_mask i1 255 8 (by decide) (by decide)
  have a2 : (XT.ushr i1 8 &&& 255).toInt = (XT.ushr i1 8).toInt % 256 := c_mask _ 255 8 (by decide) (by decide)
  have a3 : (XT.ushr i1 16 &&& 255).toInt = (XT.ushr i1 16).toInt % 256 := c_mask _ 255 8 (by decide) (by decide)
  have b : (i2 &&& 3).toInt = i2.toInt % 4 := c_mask i2 3 2 (by decide) (by decide)
  have hp : i2 &&& 3 = 0 ∨ i2 &&& 3 = 1 ∨ i2 &&& 3 = 2 ∨ i2 &&& 3 = 3 := by
    obtain ⟨j, hj⟩ := own_fin (r := i2 &&& 3) (N := 4) (by omega) (by omega) (by decide)
    rw [hj]
    have : ∀ j : Fin 4, (j.1).toInt32 = 0 ∨ (j.1).toInt32 = 1 ∨ (j.1).toInt32 = 2 ∨ (j.1).toInt32 = 3 := by decide +kernel
    exact this j
  have c := own_m31 i3
  have c' := own_mod (a := i3 &&& 2147483647) (y := 5) (d := 5) (by decide) (by omega)
  have f1 := c_iadd (i2 &&& 3) 1; have f1' := rng32 ((i2 &&& 3) + 1)
  have f2 := c_iadd ((i2 &&& 3) + 1) ((i3 &&& 2147483647) % 5); have f2' := rng32 ((i2 &&& 3) + 1 + (i3 &&& 2147483647) % 5)
  exact own_60 hp (by omega) (by omega) (by omega) (by omega) (by omega) (by omega) (by omega) (by omega) (by omega) (by omega)

theorem comes_1 {Post : Tables → Env → Array Value → State → Outcome → State → Prop} (hpost : ∀ tb e args s v u, (limb_1_1.after args s (.returned v) u = true ∧ limb_1_2.after args s (.returned v) u = true ∧ True) → FrameEnd s (.returned v) u (Jvm.fieldLocs frame_1_writes args s ++ Jvm.arrayLocs frame_1_arrays args s ++ Jvm.staticLocs frame_1_statics s) 16 128 → Post tb e args s (.returned v) u) :
    ArmFor flags0 classFile x code maxLocals ret World_1 tables_1 room_1 Calls_1 rest_1 Pre_1 Post := by
  intro l hfl _ _ p e ha hc hk s m args below hf hA hF happ hP
  obtain ⟨hcalls, hrest, hpre⟩ := hP
  obtain ⟨-, -, -, hnamed, -, -, -, hat⟩ := (Spec.applies_iff hf).mp happ
  obtain ⟨hg, hn⟩ := and_e (Cond.before_iff.mp (show (Jvm.Cond.and given_1 narrow_1).before args s = true from hpre))
  obtain ⟨h1, g0⟩ := and_e hg
  obtain ⟨w0, w1, w2, w3, w4, rfl⟩ : ∃ w0 w1 w2 w3 w4 : Value, args = #[w0, w1, w2, w3, w4] := by
    have hs : args.size = 5 := by simpa [Cond.value, given_1] using h1
    obtain ⟨L⟩ := args
    match L, hs with
    | [w0, w1, w2, w3, w4], _ => exact ⟨w0, w1, w2, w3, w4, rfl⟩
  have hw := fun d (hd : d ∈ tables_1) => atoms_spec (ws := Jvm.Cond.code x code maxLocals ret :: tables_1) hat d (List.mem_cons_of_mem _ hd)
  obtain ⟨a0, g1⟩ := and_e g0
  obtain ⟨i0, e0⟩ := is_v a0
  obtain rfl : w0 = (.int i0) := Option.some.inj e0
  obtain ⟨a1, g2⟩ := and_e g1
  obtain ⟨i1, e1⟩ := is_v a1
  obtain rfl : w1 = (.int i1) := Option.some.inj e1
  obtain ⟨a2, g3⟩ := and_e g2
  obtain ⟨i2, e2⟩ := is_v a2
  obtain rfl : w2 = (.int i2) := Option.some.inj e2
  obtain ⟨a3, g4⟩ := and_e g3
  obtain ⟨i3, e3⟩ := is_v a3
  obtain rfl : w3 = (.int i3) := Option.some.inj e3
  obtain ⟨i4, e4⟩ := is_v g4
  obtain rfl : w4 = (.int i4) := Option.some.inj e4
  obtain ⟨Hf, hlaw⟩ := plain i0 i1 i2 i3 i4
  obtain ⟨n, o, h1, h2, h3, _, L, rfl, ⟨rfl, N⟩, hq⟩ := law_of (l := l) (s := s) (as := [(.int i0), (.int i1), (.int i2), (.int i3), (.int i4)]) (k0 := 1) (k1 := 8) hw pn0 rfl rfl (fun K O => m0_t0 O i0 i1 i2 i3 i4 [] 1 Hf hlaw) p e ha hc hk s m _ below hf ((Spec.applies_iff_loose hf).mp happ).1 ⟨rfl, State.Warmed39.refl s, rfl⟩ trivial
  refine ⟨n, _, h1, h2, h3, hpost _ _ _ _ _ _ ⟨Cond.after_iff.mpr rfl, Cond.after_iff.mpr (eq_i res_at (Term.int_eval (1)) rfl), trivial⟩ ⟨hq.1, hq.2.1, (hq.2.2.sift fun y hy => Or.inr (N y hy)).mono (by decide) (by decide)⟩⟩
theorem main_1_1 : Claimed_1_1 := comes_1 fun _ _ _ _ _ _ h hF => ⟨h.1, hF⟩
theorem main_1_2 : Claimed_1_2 := comes_1 fun _ _ _ _ _ _ h hF => ⟨h.2.1, hF⟩
end Jvm.Pilot.@@N@@
namespace Jvm.Pilot.@@N@@
open Jvm Jvm.ClassFile Sem Op Lib Jvm.Free Jvm.Stand Jvm.Pilot.@@N@@.Jvm.D
/-! MADE BY PROGRAM (witnessworld.py) out of the Statement's table words and the real class files: 9 classes; the members and pool entries that the words name. The judged class is class 1, her method 2. -/
namespace start1
open Jvm.ClassFile
def u (s : String) : CpInfo := .utf8 (stringToUtf16 s)
/-- a pool by its gaps: so many unusable entries, then the entry; so many at the end -/
def gap : Nat → List CpInfo → List CpInfo
  | 0, r => r
  | n + 1, r => .unusable :: gap n r
def poolList (es : List (Nat × CpInfo)) (last : Nat) : List CpInfo := es.foldr (fun e r => gap e.1 (e.2 :: r)) (gap last [])
def pool (es : List (Nat × CpInfo)) (last : Nat) : Array CpInfo := ⟨poolList es last⟩
def fileOf (pool : Array CpInfo) (this : Nat) (attrs : Array Attribute := #[]) (ms : Array MethodInfo := #[]) (fl : Nat := 33) (sup : Nat := 0) (ifs : Array Nat := #[]) (fds : Array FieldInfo := #[]) : ClassFile where
  minorVersion := 0
  majorVersion := 65
  constantPool := pool
  accessFlags := fl
  thisClass := this
  superClass := sup
  interfaces := ifs
  fields := fds
  methods := ms
  attributes := attrs
def plain (name : String) (sup : Option ClassId) : Class where
  name := name
  kind := .ordinary
  loader := none
  accessFlags := 33
  super := sup
  interfaces := #[]
  cf := none
  fields := #[]
  methods := #[]
  instanceTypes := #[]
  staticTypes := #[]
  resolved := #[]
  callSites := []
  init := .initialized
  statics := none
  mirror := none

def pool0 : Array CpInfo := pool [(5, u "<init>"), (0, u "()V"), (1, .class_ 10), (1, u "java/lang/Object")] 113

def k0m0 : Method := { name := "<init>", desc := "()V", sig := { parameters := [], returnType := none }, accessFlags := 1, code := none }
/-- java/lang/Object -/
def k0 : Class := { plain "java/lang/Object" none with
  accessFlags := 33
  interfaces := #[]
  cf := some (fileOf pool0 8 #[] #[{ accessFlags := 1, nameIndex := 5, descriptorIndex := 6, attributes := #[] }] 33 0 #[] #[])
  fields := #[]
  methods := #[k0m0]
  instanceTypes := #[]
  staticTypes := #[]
  resolved := Array.replicate 124 none
  statics := none }

def pool1 : Array CpInfo := pool [(2, .class_ 4), (1, u "java/lang/Object"), (0, u "<init>"), (0, u "()V"), (0, .integer 2147483647), (0, .methodref 9 10), (0, .class_ 11), (0, .nameAndType 12 13), (0, u "shelfmark/XmlCharsDecodePinLaw"), (0, u "in"), (0, u "(III)Z"), (0, .class_ 15), (0, u "shelfmark/XmlChars"), (0, .integer 262144), (0, .methodref 14 18), (0, .nameAndType 19 20), (0, u "decode"), (0, u "([BII)I"), (3, u "law"), (0, u "(IIIII)Z")] 4

def k1m0 : Method := { name := "<init>", desc := "()V", sig := { parameters := [], returnType := none }, accessFlags := 2, code := none }
def k1c1 : Code := { maxStack := 2, maxLocals := 3, code := method_2_code, exceptionTable := #[], attributes := #[] }
def k1m1 : Method := { name := "in", desc := "(III)Z", sig := { parameters := [.int, .int, .int], returnType := some .boolean }, accessFlags := 10, code := some k1c1 }
def k1c2 : Code := { maxStack := 4, maxLocals := 19, code := code, exceptionTable := #[], attributes := #[] }
def k1m2 : Method := { name := "law", desc := "(IIIII)Z", sig := { parameters := [.int, .int, .int, .int, .int], returnType := some .boolean }, accessFlags := 9, code := some k1c2 }
/-- shelfmark/XmlCharsDecodePinLaw -/
def k1 : Class := { plain "shelfmark/XmlCharsDecodePinLaw" (some 0) with
  accessFlags := 49
  interfaces := #[]
  cf := some (fileOf pool1 9 #[] #[{ accessFlags := 2, nameIndex := 5, descriptorIndex := 6, attributes := #[] }, { accessFlags := 10, nameIndex := 12, descriptorIndex := 13, attributes := #[] }, { accessFlags := 9, nameIndex := 24, descriptorIndex := 25, attributes := #[] }] 49 2 #[] #[])
  fields := #[]
  methods := #[k1m0, k1m1, k1m2]
  instanceTypes := #[]
  staticTypes := #[]
  resolved := Array.replicate 30 none
  statics := none }

def pool2 : Array CpInfo := pool [(1, .class_ 2), (0, u "shelfmark/XmlChars"), (1, .class_ 6), (1, u "java/lang/Object"), (0, u "<init>"), (0, u "()V"), (0, .integer 65536), (0, .integer 1114111), (0, .integer 55296), (0, .integer 57343), (11, u "NOT_UTF8"), (0, u "I"), (2, u "CUT"), (1, u "LENGTH_BITS"), (1, u "LENGTH_MASK"), (3, u "decode"), (0, u "([BII)I")] 11

def k2m0 : Method := { name := "<init>", desc := "()V", sig := { parameters := [], returnType := none }, accessFlags := 2, code := none }
def k2c1 : Code := { maxStack := 3, maxLocals := 9, code := prog_77_method_2_code, exceptionTable := #[], attributes := #[] }
def k2m1 : Method := { name := "decode", desc := "([BII)I", sig := { parameters := [(.array .byte), .int, .int], returnType := some .int }, accessFlags := 8, code := some k2c1 }
/-- shelfmark/XmlChars -/
def k2 : Class := { plain "shelfmark/XmlChars" (some 0) with
  accessFlags := 48
  interfaces := #[]
  cf := some (fileOf pool2 1 #[] #[{ accessFlags := 2, nameIndex := 7, descriptorIndex := 8, attributes := #[] }, { accessFlags := 8, nameIndex := 36, descriptorIndex := 37, attributes := #[] }] 48 4 #[] #[{ accessFlags := 24, nameIndex := 24, descriptorIndex := 25, attributes := #[] }, { accessFlags := 24, nameIndex := 28, descriptorIndex := 25, attributes := #[] }, { accessFlags := 24, nameIndex := 30, descriptorIndex := 25, attributes := #[] }, { accessFlags := 24, nameIndex := 32, descriptorIndex := 25, attributes := #[] }])
  fields := #[{ name := "NOT_UTF8", type := .int, accessFlags := 24, slot := 0, constantValue := 0 }, { name := "CUT", type := .int, accessFlags := 24, slot := 1, constantValue := 0 }, { name := "LENGTH_BITS", type := .int, accessFlags := 24, slot := 2, constantValue := 0 }, { name := "LENGTH_MASK", type := .int, accessFlags := 24, slot := 3, constantValue := 0 }]
  methods := #[k2m0, k2m1]
  instanceTypes := #[]
  staticTypes := #[.int, .int, .int, .int]
  resolved := Array.replicate 49 none
  statics := none }

def pool3 : Array CpInfo := pool [(1, u "java/lang/Cloneable"), (0, .class_ 1), (0, u "java/lang/Object"), (0, .class_ 3)] 3

/-- java/lang/Cloneable -/
def k3 : Class := { plain "java/lang/Cloneable" (some 0) with
  accessFlags := 1537
  interfaces := #[]
  cf := some (fileOf pool3 2 #[] #[] 1537 4 #[] #[])
  fields := #[]
  methods := #[]
  instanceTypes := #[]
  staticTypes := #[]
  resolved := Array.replicate 8 none
  statics := none }

def pool4 : Array CpInfo := pool [(1, u "java/io/Serializable"), (0, .class_ 1), (0, u "java/lang/Object"), (0, .class_ 3)] 3

/-- java/io/Serializable -/
def k4 : Class := { plain "java/io/Serializable" (some 0) with
  accessFlags := 1537
  interfaces := #[]
  cf := some (fileOf pool4 2 #[] #[] 1537 4 #[] #[])
  fields := #[]
  methods := #[]
  instanceTypes := #[]
  staticTypes := #[]
  resolved := Array.replicate 8 none
  statics := none }

/-- the primitive byte -/
def k5 : Class := { plain "byte" none with kind := .primitive 'B', accessFlags := 0x411 }
/-- [B -/
def k6 : Class := { plain "[B" (some 0) with kind := .array 5 .byte, interfaces := #[3, 4], accessFlags := 1041 }

/-- the primitive int -/
def k7 : Class := { plain "int" none with kind := .primitive 'I', accessFlags := 0x411 }
/-- [I -/
def k8 : Class := { plain "[I" (some 0) with kind := .array 7 .int, interfaces := #[3, 4], accessFlags := 1041 }

def heap : Heap := #[]
def classes : Array Class := #[k0, k1, k2, k3, k4, k5, k6, k7, k8]
def interned : List (Array UInt16 × Addr) := []
def slotsUsed : Nat := 0
def theMethod : MethodId := ⟨1, 2⟩
def args0 : Array Value := #[.int 5, .int 5, .int 5, .int 5, .int 5]
def aboutOver (below : List Frame) : State where
  vm := { classes := classes, interned := interned.toArray }
  heap := heap
  slotsUsed := slotsUsed
  threads := #[{ frames := .invoking theMethod args0 :: below }]
def below0 : List Frame := [.native { method := ⟨0, 0⟩, args := #[] }]
def about1 : State := aboutOver below0
def p0 : Program := .bare "" "" ""
def e0 : Env := launch0.env 0 0 0
theorem w_frames : about1.frames = Frame.invoking theMethod args0 :: below0 := rfl
set_option maxRecDepth 65536 in
theorem w_args : argsFit about1.vm theMethod args0 = true := by decide +kernel
set_option maxRecDepth 65536 in
theorem w_heap : heapFits about1 = true := by decide +kernel
set_option maxRecDepth 65536 in
theorem w_runnable : about1.curStatus? = some .runnable := by decide +kernel
set_option maxRecDepth 65536 in
theorem w_alone : about1.alone = true := by decide +kernel
set_option maxRecDepth 65536 in
theorem w_named : about1.methodNamed? x = some theMethod := by decide +kernel
set_option maxRecDepth 65536 in
theorem w_hears : about1.hears theMethod below0 = true := by decide +kernel
set_option maxRecDepth 65536 in
theorem w_ripe : about1.ripe theMethod args0 below0 = true := by decide +kernel
theorem w_running : about1.status = .running := rfl
set_option maxRecDepth 65536 in
theorem w_room : about1.hasRoom e0.platform room_1 = true :=
  launch0.hasRoom_least _ room_1 (by decide +kernel) (by decide +kernel) (by decide +kernel) (by decide +kernel) (by decide +kernel) (by decide +kernel)
theorem allAtoms_all (ts : List Jvm.Cond) (a : Array Jvm.Value) (st : Jvm.State) : (allAtoms ts).before a st = ts.all (fun c => c.before a st) := by
  induction ts with
  | nil => rfl
  | cons c t ih =>
    show (Jvm.Cond.and c (allAtoms t)).before a st = _
    rw [Jvm.Cond.before_and, ih, List.all_cons]
def words1 : List Jvm.Cond := Jvm.Cond.code x code maxLocals ret :: tables_1
/-- a 'code' word, met by the world's own term for the bytes: nothing is compared byte by byte -/
theorem code_word {y : MethodName} {bytes : ByteArray} {mx : Nat} {rt : Option FieldType} {a : Array Value} {s : State} {m : MethodId} {meth : Method} {c : Code} (h1 : s.methodNamed? y = some m) (h2 : s.vm.method? m = some meth) (h3 : meth.code = some c) (h4 : c.code = bytes)
    (h5 : (c.maxLocals == mx && c.exceptionTable.isEmpty && decide (c.maxStack ≤ mostOperands) && decide (meth.sig.returnType = rt) && !meth.locks && decide (parseMethodDescriptor y.desc = some meth.sig)) = true) : (Jvm.Cond.code y bytes mx rt).before a s = true := by
  simp only [Bool.and_eq_true, beq_iff_eq, Bool.not_eq_true', decide_eq_true_eq] at h5
  obtain ⟨⟨⟨⟨⟨g1, g2⟩, g3⟩, g4⟩, g5⟩, g6⟩ := h5
  simp [Cond.before, Cond.holds, Cond.value, h1, h2, h3, h4, g1, g2, g3, g4, g5, g6]
def isCode : Jvm.Cond → Bool
  | .code _ _ _ _ => true
  | _ => false
theorem all_split {L : List Jvm.Cond} {P : Jvm.Cond → Bool} (h1 : L.all (fun c => isCode c || P c) = true) (h2 : ∀ c ∈ L.filter isCode, P c = true) : L.all P = true := by
  refine List.all_eq_true.mpr fun c hc => ?_
  have h := List.all_eq_true.mp h1 c hc
  rcases Bool.eq_false_or_eq_true (isCode c) with hi | hi
  · exact h2 c (List.mem_filter.mpr ⟨hc, hi⟩)
  · simpa [hi] using h
set_option maxRecDepth 65536 in
theorem w_c0 : (Jvm.Cond.code x code maxLocals ret).before args0 about1 = true := code_word (m := ⟨1, 2⟩) (meth := k1m2) (c := k1c2) (by decide +kernel) rfl rfl rfl (by decide +kernel)
set_option maxRecDepth 65536 in
theorem w_c1 : (Jvm.Cond.code ({ cls := "shelfmark/XmlCharsDecodePinLaw", name := "in", desc := "(III)Z" } : Jvm.MethodName) method_2_code (3 : Nat) (Option.some Jvm.ClassFile.FieldType.boolean)).before args0 about1 = true := code_word (m := ⟨1, 1⟩) (meth := k1m1) (c := k1c1) (by decide +kernel) rfl rfl rfl (by decide +kernel)
set_option maxRecDepth 65536 in
theorem w_c2 : (Jvm.Cond.code ({ cls := "shelfmark/XmlChars", name := "decode", desc := "([BII)I" } : Jvm.MethodName) prog_77_method_2_code (9 : Nat) (Option.some Jvm.ClassFile.FieldType.int)).before args0 about1 = true := code_word (m := ⟨2, 1⟩) (meth := k2m1) (c := k2c1) (by decide +kernel) rfl rfl rfl (by decide +kernel)
def codes1 : List Jvm.Cond := [Jvm.Cond.code x code maxLocals ret, Jvm.Cond.code ({ cls := "shelfmark/XmlCharsDecodePinLaw", name := "in", desc := "(III)Z" } : Jvm.MethodName) method_2_code (3 : Nat) (Option.some Jvm.ClassFile.FieldType.boolean), Jvm.Cond.code ({ cls := "shelfmark/XmlChars", name := "decode", desc := "([BII)I" } : Jvm.MethodName) prog_77_method_2_code (9 : Nat) (Option.some Jvm.ClassFile.FieldType.int)]
set_option maxRecDepth 65536 in
theorem codes_eq : words1.filter isCode = codes1 := rfl
theorem w_codes : ∀ c ∈ words1.filter isCode, c.before args0 about1 = true := by
  rw [codes_eq]
  intro c hc
  simp only [codes1, List.mem_cons, List.not_mem_nil, or_false] at hc
  rcases hc with rfl | rfl | rfl
  · exact w_c0
  · exact w_c1
  · exact w_c2
set_option maxRecDepth 65536 in
theorem w_t1 : words1.all (fun c => isCode c || c.before args0 about1) = true := by decide +kernel
theorem w_tables : (allAtoms (Jvm.Cond.code x code maxLocals ret :: tables_1)).before args0 about1 = true := by
  rw [allAtoms_all]
  show words1.all (fun c => c.before args0 about1) = true
  refine all_split ?_ w_codes
  rw [w_t1]
set_option maxRecDepth 65536 in
theorem w_case : (Jvm.Cond.and given_1 narrow_1).before args0 about1 = true := by decide +kernel
theorem w_applies : (headSpec (Jvm.Cond.code x code maxLocals ret :: tables_1) room_1).applies x e0.platform about1 = true :=
  (Spec.applies_iff w_frames).mpr ⟨w_running, w_runnable, w_alone, w_named, w_hears, w_ripe, w_room, w_tables⟩
theorem atStart : AtStart classFile x code maxLocals ret World_1 tables_1 room_1 Calls_1 rest_1 Pre_1 launch0 p0 e0 about1 theMethod args0 below0 :=
  ⟨lists_1, trivial, launch0.admits_env _ _ _, launch0.least_env, fairChoices_fair.cas, fairChoices_fair.clock, w_frames, w_args, w_heap, w_applies, trivial, trivial, w_case⟩
end start1
theorem witness_1 : WitnessClaimed_1 := ⟨start1.p0, start1.e0, start1.about1, start1.theMethod, start1.args0, start1.below0, start1.atStart⟩
end Jvm.Pilot.@@N@@
