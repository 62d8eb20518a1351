import JvmDerived
import JvmDerived.Pilot.@@N@@Statement
import JvmDerived.Pilot.@@N@@Code
set_option linter.unusedVariables false
set_option linter.unusedSimpArgs false
set_option maxRecDepth 65536
set_option maxHeartbeats 4000000
namespace Jvm.Pilot.@@N@@
open Jvm Jvm.ClassFile Sem Op Lib Jvm.Free Jvm.Stand Jvm.LawKit Jvm.RoadKit Bundle Jvm.Pilot.@@N@@.Jvm.D
theorem tw0 : Jvm.Cond.constantLong "org/safehold/MappedFileWindowCountPinLaw" (7 : Nat) (1073741824 : Int64) ∈ tables_1 := List.mem_of_getElem? (i := 0) rfl
theorem tw1 : Jvm.Cond.constantLong "org/safehold/MappedFileWindowCountPinLaw" (11 : Nat) (9223372036854775807 : Int64) ∈ tables_1 := List.mem_of_getElem? (i := 1) rfl
theorem tw2 : Jvm.Cond.methodLink "org/safehold/MappedFileWindowCountPinLaw" (13 : Nat) (⟨"java/lang/Math", "min", "(JJ)J"⟩ : MethodName) ∈ tables_1 := List.mem_of_getElem? (i := 2) rfl
theorem tw3 : Jvm.Cond.static (⟨"java/lang/Math", "min", "(JJ)J"⟩ : MethodName) ∈ tables_1 := List.mem_of_getElem? (i := 3) rfl
theorem tw4 : Jvm.Cond.initialized "java/lang/Math" ∈ tables_1 := List.mem_of_getElem? (i := 4) rfl
theorem tw5 : Jvm.Cond.code (⟨"java/lang/Math", "min", "(JJ)J"⟩ : MethodName) jdk_29_method_70_code (4 : Nat) (Option.some FieldType.long) ∈ tables_1 := List.mem_of_getElem? (i := 5) rfl
theorem tw6 : Jvm.Cond.methodLink "org/safehold/MappedFileWindowCountPinLaw" (19 : Nat) (⟨"java/lang/Math", "max", "(JJ)J"⟩ : MethodName) ∈ tables_1 := List.mem_of_getElem? (i := 6) rfl
theorem tw7 : Jvm.Cond.static (⟨"java/lang/Math", "max", "(JJ)J"⟩ : MethodName) ∈ tables_1 := List.mem_of_getElem? (i := 7) rfl
theorem tw8 : Jvm.Cond.code (⟨"java/lang/Math", "max", "(JJ)J"⟩ : MethodName) jdk_29_method_66_code (4 : Nat) (Option.some FieldType.long) ∈ tables_1 := List.mem_of_getElem? (i := 8) rfl
theorem tw9 : Jvm.Cond.methodLink "org/safehold/MappedFileWindowCountPinLaw" (26 : Nat) (⟨"org/safehold/MappedFile", "windowCount", "(JJ)J"⟩ : MethodName) ∈ tables_1 := List.mem_of_getElem? (i := 9) rfl
theorem tw10 : Jvm.Cond.static (⟨"org/safehold/MappedFile", "windowCount", "(JJ)J"⟩ : MethodName) ∈ tables_1 := List.mem_of_getElem? (i := 10) rfl
theorem tw11 : Jvm.Cond.initialized "org/safehold/MappedFile" ∈ tables_1 := List.mem_of_getElem? (i := 11) rfl
theorem tw12 : Jvm.Cond.code (⟨"org/safehold/MappedFile", "windowCount", "(JJ)J"⟩ : MethodName) prog_33_method_3_code (4 : Nat) (Option.some FieldType.long) ∈ tables_1 := List.mem_of_getElem? (i := 12) rfl
theorem tw13 : Jvm.Cond.constantLong "org/safehold/MappedFileWindowCountPinLaw" (22 : Nat) (-1 : Int64) ∈ tables_1 := List.mem_of_getElem? (i := 13) rfl
theorem tw14 : Jvm.Cond.constantLong "org/safehold/MappedFileWindowCountPinLaw" (24 : Nat) (17179869183 : Int64) ∈ tables_1 := List.mem_of_getElem? (i := 14) rfl
def lay (t : Nat) : String × List (String × String) := ("", [])
theorem lay_word (t : Nat) (nd : String × String) (h : nd ∈ (lay t).2) : Jvm.Cond.lays (lay t).1 (lay t).1 nd.1 nd.2 ∈ tables_1 ∨ Jvm.Cond.laysFinal (lay t).1 (lay t).1 nd.1 nd.2 ∈ tables_1 := by simp [lay] at h
theorem lay_parse (t : Nat) (nd : String × String) (h : nd ∈ (lay t).2) : ∃ ty, parseFieldDescriptor nd.2 = some ty := by simp [lay] at h
theorem lay_names (t k k' : Nat) (nd nd' : String × String) (h1 : (lay t).2[k]? = some nd) (h2 : (lay t).2[k']? = some nd') (ne : k ≠ k') : nd.1 ≠ nd'.1 := by simp [lay] at h1
/-! the abstract machine over the library's laws -/
abbrev Obj := Sum (FieldType × List Value) (Nat × List Value)
abbrev Gx := Launch × State × Array Value × Nat
abbrev Kx := Program × Env × Room × State × MethodId × Array Value × List Frame × Method × Code × Nat × Nat
/-- a reference of the model is the number of an own object; the object of number 0 lies at n -/
def sh (n : Nat) : Value → Value
  | .ref i => .ref (n + i)
  | v => v
theorem sh_cat (n : Nat) (v : Value) : (sh n v).category = v.category := by cases v <;> rfl
/-! local variables -/
def Wf (f : Nat → Option Slot) : Prop :=
  (∀ (k : Nat) (v : Value), f k = some (Slot.val v) → v.category = 2 → f (k + 1) = some .second) ∧ (∀ k, f k = some .second → ∃ v : Value, 1 ≤ k ∧ f (k - 1) = some (Slot.val v) ∧ v.category = 2)
def Lrel (n : Nat) (Ls : List (Option Value)) (L : Array Slot) : Prop :=
  L.size = Ls.length ∧ Wf (fun k => L[k]?) ∧ ∀ (k : Nat) (v : Value), Ls[k]? = some (some v) → L[k]? = some (Slot.val (sh n v))
def clr (Ls : List (Option Value)) : Nat → List (Option Value)
  | 0 => Ls
  | j + 1 => match Ls[j]? with
    | some (some w) => if w.category = 2 then Ls.set j none else Ls
    | _ => Ls
def stor (Ls : List (Option Value)) (i : Nat) (v : Value) : Option (List (Option Value)) :=
  if v.category = 2 then (if i + 1 < Ls.length then some (((clr Ls i).set i (some v)).set (i + 1) none) else none) else (if i < Ls.length then some ((clr Ls i).set i (some v)) else none)
theorem wf_gen {f f' : Nat → Option Slot} (hf : Wf f) {i last : Nat} {v : Value} (hl : (v.category = 2 ∧ last = i + 1 ∧ f' (i + 1) = some .second) ∨ (v.category ≠ 2 ∧ last = i)) (h0 : f' i = some (Slot.val v))
    (h1 : ∀ k, k + 1 = i → ∀ w : Value, f k = some (Slot.val w) → w.category = 2 → f' k = some .unset) (h2 : f (last + 1) = some .second → f' (last + 1) = some .unset)
    (h3 : ∀ k, k < i ∨ last < k → f' k = f k ∨ (f' k = some .unset ∧ ((k + 1 = i ∧ ∃ w : Value, f k = some (Slot.val w) ∧ w.category = 2) ∨ (k = last + 1 ∧ f k = some .second)))) : Wf f' := by
  have hc : ∀ k, k = i ∨ (k = i + 1 ∧ last = i + 1 ∧ f' (i + 1) = some .second) ∨ (k < i ∨ last < k) := fun k => by
    rcases hl with ⟨-, a, b⟩ | ⟨-, a⟩
    · by_cases h : k = i; · exact Or.inl h
      by_cases h' : k = i + 1; · exact Or.inr (Or.inl ⟨h', a, b⟩)
      exact Or.inr (Or.inr (by omega))
    · by_cases h : k = i; · exact Or.inl h
      exact Or.inr (Or.inr (by omega))
  have hli : i ≤ last := by omega
  constructor
  · intro k w hk hw
    rcases hc k with rfl | ⟨rfl, -, b⟩ | h
    · rcases hl with ⟨-, -, b⟩ | ⟨a, -⟩
      · exact b
      · rw [h0] at hk; cases hk; exact absurd hw a
    · rw [b] at hk; cases hk
    · rcases h3 k h with q | ⟨q, -⟩
      · rw [q] at hk
        have hs := hf.1 k w hk hw
        by_cases e1 : k + 1 = i
        · have := h1 k e1 w hk hw; rw [q, hk] at this; cases this
        · have h' : k + 1 < i ∨ last < k + 1 := by omega
          rcases h3 (k + 1) h' with q' | ⟨-, ⟨-, w', a, -⟩ | ⟨a, -⟩⟩
          · rw [q']; exact hs
          · rw [hs] at a; cases a
          · omega
      · rw [q] at hk; cases hk
  · intro k hk
    rcases hc k with rfl | ⟨rfl, a, b⟩ | h
    · rw [h0] at hk; cases hk
    · rcases hl with ⟨c, -, -⟩ | ⟨-, c⟩
      · exact ⟨v, by omega, by simpa using h0, c⟩
      · omega
    · rcases h3 k h with q | ⟨q, -⟩
      · rw [q] at hk
        obtain ⟨w, k1, hw, hw2⟩ := hf.2 k hk
        by_cases e1 : k = last + 1
        · subst e1; have := h2 hk; rw [q, hk] at this; cases this
        · have h' : k - 1 < i ∨ last < k - 1 := by
            rcases h with h | h
            · exact Or.inl (by omega)
            · exact Or.inr (by omega)
          rcases h3 (k - 1) h' with q' | ⟨-, ⟨a, -⟩ | ⟨a, b⟩⟩
          · exact ⟨w, k1, by rw [q']; exact hw, hw2⟩
          · have : k = i := by omega
            omega
          · rw [hw] at b; cases b
      · rw [q] at hk; cases hk
theorem clr_get {Ls : List (Option Value)} {i k : Nat} {w : Value} (h : (clr Ls i)[k]? = some (some w)) : Ls[k]? = some (some w) ∧ (k + 1 = i → w.category ≠ 2) := by
  cases i with
  | zero => exact ⟨h, fun q => by omega⟩
  | succ j =>
    simp only [clr] at h
    split at h
    · rename_i w' hw'
      split at h
      · rename_i h2
        by_cases e : j = k
        · subst e; rw [List.getElem?_set] at h; simp at h
        · rw [List.getElem?_set_ne e] at h; exact ⟨h, fun q => by omega⟩
      · rename_i h2
        refine ⟨h, fun q => ?_⟩
        have : j = k := by omega
        subst this; rw [hw'] at h; cases h; exact h2
    · rename_i hn
      refine ⟨h, fun q => ?_⟩
      have : j = k := by omega
      subst this; exact absurd h (hn w)
theorem clr_len (Ls : List (Option Value)) (i : Nat) : (clr Ls i).length = Ls.length := by
  cases i with
  | zero => rfl
  | succ j => simp only [clr]; split <;> (try split) <;> simp
theorem lrel_gen {n : Nat} {Ls Ls' : List (Option Value)} {L L' : Array Slot} {i last : Nat} {v : Value} (h : Lrel n Ls L) (hsz : L'.size = L.size) (hlen : Ls'.length = Ls.length)
    (hl : (v.category = 2 ∧ last = i + 1 ∧ L'[i + 1]? = some .second) ∨ (v.category ≠ 2 ∧ last = i)) (h0 : L'[i]? = some (Slot.val (sh n v)))
    (h1 : ∀ k, k + 1 = i → ∀ w : Value, L[k]? = some (Slot.val w) → w.category = 2 → L'[k]? = some .unset) (h2 : L[last + 1]? = some .second → L'[last + 1]? = some .unset)
    (h3 : ∀ k, k < i ∨ last < k → L'[k]? = L[k]? ∨ (L'[k]? = some .unset ∧ ((k + 1 = i ∧ ∃ w : Value, L[k]? = some (Slot.val w) ∧ w.category = 2) ∨ (k = last + 1 ∧ L[k]? = some .second))))
    (hs : ∀ k w, Ls'[k]? = some (some w) → (k = i ∧ w = v) ∨ ((k < i ∨ last < k) ∧ Ls[k]? = some (some w) ∧ (k + 1 = i → w.category ≠ 2))) : Lrel n Ls' L' := by
  refine ⟨by rw [hsz, hlen]; exact h.1, wf_gen (f := fun k => L[k]?) (f' := fun k => L'[k]?) (v := sh n v) h.2.1 (by rw [sh_cat]; exact hl) h0 h1 h2 h3, fun k w hk => ?_⟩
  rcases hs k w hk with ⟨rfl, rfl⟩ | ⟨a, b, c⟩
  · exact h0
  · have hb := h.2.2 k w b
    rcases h3 k a with q | ⟨-, ⟨q, w', r1, r2⟩ | ⟨-, r⟩⟩
    · rw [q]; exact hb
    · rw [hb] at r1; cases r1; exact absurd (by rw [← sh_cat n w]; exact r2) (c q)
    · rw [hb] at r; cases r
theorem get_set (L : Array Slot) (i j : Nat) (x : Slot) (hi : i < L.size) : (L.setIfInBounds i x)[j]? = if i = j then some x else L[j]? := by
  rw [Array.getElem?_setIfInBounds]; simp [hi]
theorem store_1 {n : Nat} {Ls Ls' : List (Option Value)} {L : Array Slot} {i : Nat} {v : Value} (h : Lrel n Ls L) (hc : v.category = 1) (hl : stor Ls i v = some Ls') : ∃ L', storeLocals L i (sh n v) = some L' ∧ Lrel n Ls' L' := by
  have hc2 : ¬ v.category = 2 := by omega
  simp only [stor, hc2, if_false] at hl
  have hi : i < Ls.length := Decidable.byContradiction fun hi => by rw [if_neg hi] at hl; cases hl
  rw [if_pos hi] at hl
  cases hl
  have hiL : i < L.size := by rw [h.1]; exact hi
  have hcs : (sh n v).category = 1 := (sh_cat n v).trans hc
  have hs : ∀ k w, ((clr Ls i).set i (some v))[k]? = some (some w) → (k = i ∧ w = v) ∨ ((k < i ∨ i < k) ∧ Ls[k]? = some (some w) ∧ (k + 1 = i → w.category ≠ 2)) := fun k w hk => by
    by_cases e : i = k
    · subst e
      rw [List.getElem?_set_self (by rw [clr_len]; exact hi)] at hk
      cases hk; exact Or.inl ⟨rfl, rfl⟩
    · rw [List.getElem?_set_ne e] at hk
      exact Or.inr ⟨by omega, clr_get hk⟩
  have hlen : ((clr Ls i).set i (some v)).length = Ls.length := by simp [clr_len]
  have hgo : L[i]? = some L[i] := Array.getElem?_eq_getElem hiL
  cases hq : L[i] with
  | unset =>
    rw [hq] at hgo
    refine ⟨L.setIfInBounds i (.val (sh n v)), by simp [storeLocals, storeSelf, setAt, hgo, hcs, hiL, hq], lrel_gen (i := i) (last := i) (v := v) h (by simp) hlen (Or.inr ⟨hc2, rfl⟩) ?_ ?_ ?_ ?_ hs⟩
    · rw [get_set _ _ _ _ hiL]; simp
    · intro k hk w hw hw2; have := h.2.1.1 k w hw hw2; simp only [hk] at this; rw [hgo] at this; cases this
    · intro hk; obtain ⟨w, -, a, -⟩ := h.2.1.2 _ hk; simp only [Nat.add_sub_cancel] at a; rw [hgo] at a; cases a
    · intro k hk; left; rw [get_set _ _ _ _ hiL, if_neg (by omega)]
  | second =>
    rw [hq] at hgo
    obtain ⟨w0, i1, hw0, hw2⟩ := h.2.1.2 _ hgo
    simp only at hw0
    have hi1 : i - 1 < L.size := by omega
    refine ⟨(L.setIfInBounds (i - 1) .unset).setIfInBounds i (.val (sh n v)), by simp [storeLocals, storeSelf, setAt, hgo, hcs, hiL, hi1, hq], lrel_gen (i := i) (last := i) (v := v) h (by simp) hlen (Or.inr ⟨hc2, rfl⟩) ?_ ?_ ?_ ?_ hs⟩
    · rw [get_set _ _ _ _ (by simpa using hiL)]; simp
    · intro k hk w hw hw2'; rw [get_set _ _ _ _ (by simpa using hiL), get_set _ _ _ _ hi1, if_neg (by omega), if_pos (by omega)]
    · intro hk; obtain ⟨w, -, a, -⟩ := h.2.1.2 _ hk; simp only [Nat.add_sub_cancel] at a; rw [hgo] at a; cases a
    · intro k hk; rw [get_set _ _ _ _ (by simpa using hiL), get_set _ _ _ _ hi1, if_neg (by omega)]
      by_cases e : i - 1 = k
      · subst e; rw [if_pos rfl]; exact Or.inr ⟨rfl, Or.inl ⟨by omega, w0, hw0, hw2⟩⟩
      · rw [if_neg e]; exact Or.inl rfl
  | val old =>
    rw [hq] at hgo
    have hnl : ∀ k, k + 1 = i → ∀ w : Value, L[k]? = some (Slot.val w) → w.category = 2 → False := fun k hk w hw hw2 => by
      have := h.2.1.1 k w hw hw2; simp only [hk] at this; rw [hgo] at this; cases this
    by_cases ho : old.category = 2
    · have hn : L[i + 1]? = some .second := h.2.1.1 i old hgo ho
      have hi1 : i + 1 < L.size := (Array.getElem?_eq_some_iff.mp hn).1
      refine ⟨(L.setIfInBounds (i + 1) .unset).setIfInBounds i (.val (sh n v)), by simp [storeLocals, storeSelf, setAt, hgo, hcs, hiL, hi1, ho, hq], lrel_gen (i := i) (last := i) (v := v) h (by simp) hlen (Or.inr ⟨hc2, rfl⟩) ?_ ?_ ?_ ?_ hs⟩
      · rw [get_set _ _ _ _ (by simpa using hiL)]; simp
      · intro k hk w hw hw2; exact (hnl k hk w hw hw2).elim
      · intro _; rw [get_set _ _ _ _ (by simpa using hiL), get_set _ _ _ _ hi1, if_neg (by omega), if_pos rfl]
      · intro k hk; rw [get_set _ _ _ _ (by simpa using hiL), get_set _ _ _ _ hi1, if_neg (by omega)]
        by_cases e : i + 1 = k
        · subst e; rw [if_pos rfl]; exact Or.inr ⟨rfl, Or.inr ⟨rfl, hn⟩⟩
        · rw [if_neg e]; exact Or.inl rfl
    · refine ⟨L.setIfInBounds i (.val (sh n v)), by simp [storeLocals, storeSelf, setAt, hgo, hcs, hiL, ho, hq], lrel_gen (i := i) (last := i) (v := v) h (by simp) hlen (Or.inr ⟨hc2, rfl⟩) ?_ ?_ ?_ ?_ hs⟩
      · rw [get_set _ _ _ _ hiL]; simp
      · intro k hk w hw hw2; exact (hnl k hk w hw hw2).elim
      · intro hk; obtain ⟨w, -, a, b⟩ := h.2.1.2 _ hk; simp only [Nat.add_sub_cancel] at a; rw [hgo] at a; cases a; exact absurd b ho
      · intro k hk; left; rw [get_set _ _ _ _ hiL, if_neg (by omega)]
/-- the second half of a long's store -/
theorem self_2 {l : Array Slot} {i : Nat} {v : Value} (hc : v.category = 2) (h1 : i + 1 < l.size) (hw : ∀ w : Value, l[i + 1]? = some (Slot.val w) → w.category = 2 → i + 2 < l.size) :
    ∃ l', storeSelf l i v = some l' ∧ l'.size = l.size ∧ l'[i]? = some (Slot.val v) ∧ l'[i + 1]? = some .second ∧ (∀ k, k < i ∨ i + 2 < k → l'[k]? = l[k]?) ∧
      ((∃ w : Value, l[i + 1]? = some (Slot.val w) ∧ w.category = 2) ∧ l'[i + 2]? = some .unset ∨ (¬ ∃ w : Value, l[i + 1]? = some (Slot.val w) ∧ w.category = 2) ∧ l'[i + 2]? = l[i + 2]?) := by
  have hi : i < l.size := by omega
  have hgo : l[i + 1]? = some l[i + 1] := Array.getElem?_eq_getElem h1
  have hgo' : (l.setIfInBounds i (.val v))[i + 1]? = some l[i + 1] := by rw [get_set _ _ _ _ hi, if_neg (by omega)]; exact hgo
  by_cases hx : ∃ w : Value, l[i + 1]? = some (Slot.val w) ∧ w.category = 2
  · obtain ⟨w, a, b⟩ := hx
    have h2 := hw w a b
    have e : l[i + 1] = .val w := Option.some.inj (hgo.symm.trans a)
    refine ⟨((l.setIfInBounds i (.val v)).setIfInBounds (i + 2) .unset).setIfInBounds (i + 1) .second, ?_, by simp, ?_, ?_, ?_, Or.inl ⟨⟨w, a, b⟩, ?_⟩⟩
    · rw [e] at hgo'
      simp [storeSelf, setAt, hi, hc, hgo', b, h1, h2, e]
    · rw [get_set _ _ _ _ (by simpa using h1), if_neg (by omega), get_set _ _ _ _ (by simpa using h2), if_neg (by omega), get_set _ _ _ _ hi, if_pos rfl]
    · rw [get_set _ _ _ _ (by simpa using h1), if_pos rfl]
    · intro k hk; rw [get_set _ _ _ _ (by simpa using h1), if_neg (by omega), get_set _ _ _ _ (by simpa using h2), if_neg (by omega), get_set _ _ _ _ hi, if_neg (by omega)]
    · rw [get_set _ _ _ _ (by simpa using h1), if_neg (by omega), get_set _ _ _ _ (by simpa using h2), if_pos rfl]
  · refine ⟨(l.setIfInBounds i (.val v)).setIfInBounds (i + 1) .second, ?_, by simp, ?_, ?_, ?_, Or.inr ⟨hx, ?_⟩⟩
    · cases e : l[i + 1] with
      | unset => rw [e] at hgo'; simp [storeSelf, setAt, hi, hc, hgo', h1, e]
      | second => rw [e] at hgo'; simp [storeSelf, setAt, hi, hc, hgo', h1, e]
      | val w =>
        rw [e] at hgo' hgo
        have hn : ¬ w.category = 2 := fun q => hx ⟨w, hgo, q⟩
        simp [storeSelf, setAt, hi, hc, hgo', h1, hn, e]
    · rw [get_set _ _ _ _ (by simpa using h1), if_neg (by omega), get_set _ _ _ _ hi, if_pos rfl]
    · rw [get_set _ _ _ _ (by simpa using h1), if_pos rfl]
    · intro k hk; rw [get_set _ _ _ _ (by simpa using h1), if_neg (by omega), get_set _ _ _ _ hi, if_neg (by omega)]
    · rw [get_set _ _ _ _ (by simpa using h1), if_neg (by omega), get_set _ _ _ _ hi, if_neg (by omega)]
theorem store_2 {n : Nat} {Ls Ls' : List (Option Value)} {L : Array Slot} {i : Nat} {v : Value} (h : Lrel n Ls L) (hc : v.category = 2) (hl : stor Ls i v = some Ls') : ∃ L', storeLocals L i (sh n v) = some L' ∧ Lrel n Ls' L' := by
  simp only [stor, hc, if_true] at hl
  have hi : i + 1 < Ls.length := Decidable.byContradiction fun hi => by rw [if_neg hi] at hl; cases hl
  rw [if_pos hi] at hl
  cases hl
  have hiL : i + 1 < L.size := by rw [h.1]; exact hi
  have hi0 : i < L.size := by omega
  have hcs : (sh n v).category = 2 := (sh_cat n v).trans hc
  have hs : ∀ k w, (((clr Ls i).set i (some v)).set (i + 1) none)[k]? = some (some w) → (k = i ∧ w = v) ∨ ((k < i ∨ i + 1 < k) ∧ Ls[k]? = some (some w) ∧ (k + 1 = i → w.category ≠ 2)) := fun k w hk => by
    by_cases e' : i + 1 = k
    · subst e'
      rw [List.getElem?_set_self (by simp [clr_len]; exact hi)] at hk
      cases hk
    · rw [List.getElem?_set_ne e'] at hk
      by_cases e : i = k
      · subst e
        rw [List.getElem?_set_self (by rw [clr_len]; omega)] at hk
        cases hk; exact Or.inl ⟨rfl, rfl⟩
      · rw [List.getElem?_set_ne e] at hk
        exact Or.inr ⟨by omega, clr_get hk⟩
  have hlen : (((clr Ls i).set i (some v)).set (i + 1) none).length = Ls.length := by simp [clr_len]
  have hgo : L[i]? = some L[i] := Array.getElem?_eq_getElem hi0
  have hW := h.2.1
  -- the first half: l1
  have key : ∃ l1, storeLocals L i (sh n v) = storeSelf l1 i (sh n v) ∧ l1.size = L.size ∧ (∀ k, k + 1 = i → ∀ w : Value, L[k]? = some (Slot.val w) → w.category = 2 → l1[k]? = some .unset) ∧
      (∀ k, k < i ∨ i + 1 < k → l1[k]? = L[k]? ∨ (l1[k]? = some .unset ∧ k + 1 = i ∧ ∃ w : Value, L[k]? = some (Slot.val w) ∧ w.category = 2)) ∧
      ((∃ w : Value, l1[i + 1]? = some (Slot.val w) ∧ w.category = 2) → L[i + 1]? = l1[i + 1]?) ∧ (L[i + 1]? = l1[i + 1]? ∨ L[i + 1]? = some .second) := by
    cases hq : L[i] with
    | unset =>
      rw [hq] at hgo
      refine ⟨L, by simp [storeLocals, hgo, hq], rfl, ?_, fun k _ => Or.inl rfl, fun _ => rfl, Or.inl rfl⟩
      intro k hk w hw hw2; have := hW.1 k w hw hw2; simp only [hk] at this; rw [hgo] at this; cases this
    | second =>
      rw [hq] at hgo
      obtain ⟨w0, i1, hw0, hw2⟩ := hW.2 _ hgo
      simp only at hw0
      have hi1 : i - 1 < L.size := by omega
      refine ⟨L.setIfInBounds (i - 1) .unset, by simp [storeLocals, setAt, hgo, hi1, hq], by simp, ?_, ?_, fun _ => by rw [get_set _ _ _ _ hi1, if_neg (by omega)], Or.inl (by rw [get_set _ _ _ _ hi1, if_neg (by omega)])⟩
      · intro k hk w hw hw2'; rw [get_set _ _ _ _ hi1, if_pos (by omega)]
      · intro k hk; rw [get_set _ _ _ _ hi1]
        by_cases e : i - 1 = k
        · subst e; rw [if_pos rfl]; exact Or.inr ⟨rfl, by omega, w0, hw0, hw2⟩
        · rw [if_neg e]; exact Or.inl rfl
    | val old =>
      rw [hq] at hgo
      have hnl : ∀ k, k + 1 = i → ∀ w : Value, L[k]? = some (Slot.val w) → w.category = 2 → False := fun k hk w hw hw2 => by
        have := hW.1 k w hw hw2; simp only [hk] at this; rw [hgo] at this; cases this
      by_cases ho : old.category = 2
      · have hn : L[i + 1]? = some .second := hW.1 i old hgo ho
        refine ⟨L.setIfInBounds (i + 1) .unset, by simp [storeLocals, setAt, hgo, hiL, ho, hq], by simp, fun k hk w hw hw2 => (hnl k hk w hw hw2).elim, ?_, ?_, Or.inr hn⟩
        · intro k hk; left; rw [get_set _ _ _ _ hiL, if_neg (by omega)]
        · rintro ⟨w, a, -⟩; rw [get_set _ _ _ _ hiL, if_pos rfl] at a; cases a
      · exact ⟨L, by simp [storeLocals, hgo, ho, hq], rfl, fun k hk w hw hw2 => (hnl k hk w hw hw2).elim, fun k _ => Or.inl rfl, fun _ => rfl, Or.inl rfl⟩
  obtain ⟨l1, k1, k2, k3, k4, k5, k6⟩ := key
  have hw2 : ∀ w : Value, l1[i + 1]? = some (Slot.val w) → w.category = 2 → i + 2 < l1.size := fun w a b => by
    have e := k5 ⟨w, a, b⟩
    rw [a] at e
    have := hW.1 (i + 1) w e b
    rw [k2]; exact (Array.getElem?_eq_some_iff.mp this).1
  obtain ⟨l', s1, s2, s3, s4, s5, s6⟩ := self_2 (v := sh n v) hcs (by rw [k2]; exact hiL) hw2
  refine ⟨l', by rw [k1]; exact s1, lrel_gen (i := i) (last := i + 1) (v := v) h (by rw [s2, k2]) hlen (Or.inl ⟨hc, rfl, s4⟩) s3 ?_ ?_ ?_ hs⟩
  · intro k hk w hw hw2'; rw [s5 k (by omega)]; exact k3 k hk w hw hw2'
  · intro hk
    obtain ⟨w, -, a, b⟩ := hW.2 _ hk
    simp only [Nat.add_sub_cancel] at a
    rcases s6 with ⟨-, q⟩ | ⟨q, -⟩
    · exact q
    · rcases k6 with k6 | k6
      · exact absurd ⟨w, by rw [← k6]; exact a, b⟩ q
      · rw [a] at k6; cases k6
  · intro k hk
    by_cases e : k = i + 2
    · subst e
      rcases s6 with ⟨⟨w, a, b⟩, q⟩ | ⟨-, q⟩
      · have e := k5 ⟨w, a, b⟩
        rw [a] at e
        exact Or.inr ⟨q, Or.inr ⟨rfl, hW.1 (i + 1) w e b⟩⟩
      · rcases k4 (i + 2) (by omega) with r | ⟨-, r, -⟩
        · left; rw [q, r]
        · omega
    · rw [s5 k (by omega)]
      rcases k4 k hk with r | ⟨r1, r2, r3⟩
      · exact Or.inl r
      · exact Or.inr ⟨r1, Or.inl ⟨r2, r3⟩⟩
/-! the entry -/
def aloc1 : List Value → List (Option Value)
  | [] => []
  | v :: r => if v.category = 2 then some v :: none :: aloc1 r else some v :: aloc1 r
def aloc (as : List Value) (maxL : Nat) : List (Option Value) := aloc1 as ++ List.replicate (maxL - (aloc1 as).length) none
def aslot : List Value → List Slot
  | [] => []
  | v :: r => if v.category = 2 then .val v :: .second :: aslot r else .val v :: aslot r
theorem aslot_eq (as : List Value) : ∀ acc : Array Slot, as.foldl (fun acc v => if v.category = 2 then (acc.push (Slot.val v)).push Slot.second else acc.push (Slot.val v)) acc = acc ++ (aslot as).toArray := by
  induction as with
  | nil => intro acc; simp [aslot]
  | cons v r ih =>
    intro acc
    rw [List.foldl_cons, ih]
    simp only [aslot]
    split <;> (apply Array.ext'; simp)
theorem aslot_len (n : Nat) (as : List Value) : (aslot (as.map (sh n))).length = (aloc1 as).length := by
  induction as with
  | nil => rfl
  | cons v r ih => simp only [List.map_cons, aslot, aloc1, sh_cat]; split <;> simp [ih]
theorem aslot_wf (as : List Value) : (∀ (k : Nat) (v : Value), (aslot as)[k]? = some (Slot.val v) → v.category = 2 → (aslot as)[k + 1]? = some .second) ∧ (∀ k, (aslot as)[k]? = some .second → ∃ v : Value, 1 ≤ k ∧ (aslot as)[k - 1]? = some (Slot.val v) ∧ v.category = 2) := by
  induction as with
  | nil => constructor <;> intro k <;> simp [aslot]
  | cons v r ih =>
    simp only [aslot]
    by_cases h : v.category = 2
    · rw [if_pos h]
      constructor
      · intro k w hk hw
        match k, hk with
        | 0, hk => rfl
        | 1, hk => simp at hk
        | k + 2, hk => simpa using ih.1 k w (by simpa using hk) hw
      · intro k hk
        match k, hk with
        | 0, hk => simp at hk
        | 1, hk => exact ⟨v, by omega, by simp, h⟩
        | k + 2, hk =>
          obtain ⟨w, a, b, c⟩ := ih.2 k (by simpa using hk)
          match k, a, b with
          | k + 1, a, b => exact ⟨w, by omega, by simpa using b, c⟩
    · rw [if_neg h]
      constructor
      · intro k w hk hw
        match k, hk with
        | 0, hk => simp at hk; subst hk; exact absurd hw h
        | k + 1, hk => simpa using ih.1 k w (by simpa using hk) hw
      · intro k hk
        match k, hk with
        | 0, hk => simp at hk
        | k + 1, hk =>
          obtain ⟨w, a, b, c⟩ := ih.2 k (by simpa using hk)
          match k, a, b with
          | k + 1, a, b => exact ⟨w, by omega, by simpa using b, c⟩
theorem aslot_val (n : Nat) (as : List Value) : ∀ (k : Nat) (v : Value), (aloc1 as)[k]? = some (some v) → (aslot (as.map (sh n)))[k]? = some (Slot.val (sh n v)) := by
  induction as with
  | nil => intro k v; simp [aloc1]
  | cons v r ih =>
    intro k w
    simp only [aloc1, List.map_cons, aslot, sh_cat]
    split
    · match k with
      | 0 => simp; intro h; rw [h]
      | 1 => simp
      | k + 2 => simpa using ih k w
    · match k with
      | 0 => simp; intro h; rw [h]
      | k + 1 => simpa using ih k w
theorem entry_rel (n : Nat) (as : List Value) (maxL : Nat) : Lrel n (aloc as maxL) (argsToLocals (as.map (sh n)).toArray maxL) := by
  have e : argsToLocals (as.map (sh n)).toArray maxL = (aslot (as.map (sh n)) ++ List.replicate (maxL - (aloc1 as).length) Slot.unset).toArray := by
    unfold argsToLocals
    simp only [List.foldl_toArray']
    rw [aslot_eq]
    apply Array.ext'
    simp [aslot_len]
  rw [e]
  have hl := aslot_len n as
  refine ⟨by simp [aloc, hl], ?_, ?_⟩
  · have hw := aslot_wf (as.map (sh n))
    constructor
    · intro k v hk hv
      simp only [List.getElem?_toArray] at hk ⊢
      by_cases h : k < (aslot (as.map (sh n))).length
      · rw [List.getElem?_append_left h] at hk
        have q := hw.1 k v hk hv
        rw [List.getElem?_append_left (List.getElem?_eq_some_iff.mp q).1]; exact q
      · rw [List.getElem?_append_right (by omega), List.getElem?_replicate] at hk
        split at hk <;> cases hk
    · intro k hk
      simp only [List.getElem?_toArray] at hk ⊢
      by_cases h : k < (aslot (as.map (sh n))).length
      · rw [List.getElem?_append_left h] at hk
        obtain ⟨v, a, b, c⟩ := hw.2 k hk
        exact ⟨v, a, by rw [List.getElem?_append_left (List.getElem?_eq_some_iff.mp b).1]; exact b, c⟩
      · rw [List.getElem?_append_right (by omega), List.getElem?_replicate] at hk
        split at hk <;> cases hk
  · intro k v hk
    simp only [List.getElem?_toArray]
    simp only [aloc] at hk
    by_cases h : k < (aloc1 as).length
    · rw [List.getElem?_append_left h] at hk
      rw [List.getElem?_append_left (by rw [hl]; exact h)]; exact aslot_val n as k v hk
    · rw [List.getElem?_append_right (by omega), List.getElem?_replicate] at hk
      split at hk <;> cases hk
/-! the heap -/
def ObjOk (Z : State) (n : Nat) (h : Heap) (a : Addr) : Obj → Prop
  | .inl (ty, vs) => Exa Z h a ("[" ++ ty.toString) ∧ ∃ c : Cell, Arr Z h a c ty ∧ c.slots = (vs.map (sh n)).toArray
  | .inr (t, vs) => Exa Z h a (lay t).1 ∧ vs.length = (lay t).2.length ∧ ∀ (k : Nat) (nd : String × String) (v : Value), (lay t).2[k]? = some nd → vs[k]? = some v → Fld Z h a (lay t).1 nd.1 nd.2 (sh n v)
def Sim (G : Gx) (H : List Obj) (h : Heap) : Prop := h.size = G.2.2.2 + H.length ∧ ∀ (i : Nat) (o : Obj), H[i]? = some o → ObjOk G.2.1 G.2.2.2 h (G.2.2.2 + i) o
def Done (G : Gx) (K : Kx) (rv : Option Value) (Hf : List Obj) (S0 : State) : Prop := match G, K with
  | (l, Z, a0, n), (p, e, R, s, m, args, below, meth, c, kc, ks) =>
    ∃ t o, Steps p.tables e below S0 t ∧ t.status = .running ∧ Ended t below o ∧ ∃ v L, o = .returned v ∧ (v = rv.map (sh n) ∧ Fr n L ∧ Sim (l, Z, a0, n) Hf t.heap ∧ s.heap.size + kc = n + Hf.length) ∧ FrameEnd s o t L kc ks
def Run (G : Gx) (K : Kx) (rv : Option Value) (Hf : List Obj) (pc : Nat) (Ls : List (Option Value)) (st : List Value) (H : List Obj) (cells slots : Nat) : Prop := match G, K with
  | (l, Z, a0, n), (p, e, R, s, m, args, below, meth, c, kc, ks) => ∀ T locs real, Stand p l e R s m args below meth c T locs cells slots → Fr n locs → Sim (l, Z, a0, n) H T.heap → s.heap.size + cells = n + H.length → Lrel n Ls real →
    Done (l, Z, a0, n) (p, e, R, s, m, args, below, meth, c, kc, ks) rv Hf (T.setTop (mkF m pc real (st.map (sh n))))
def Ok (G : Gx) (K : Kx) (own : String) (bytes : ByteArray) (maxL : Nat) (ret : Option FieldType) (R : Room) (mn : String) (kc ks : Nat) : Prop := match G, K with
  | (l, Z, a0, n), (p, e, R', s, m, args, below, meth, c, kc', ks') => p.tables.exec = Jvm.exec ∧ Z.Warmed39 s.vm ∧ s.vm.findClass own = some m.cls ∧ c.code = bytes ∧ c.maxLocals = maxL ∧ meth.sig.returnType = ret ∧ meth.locks = false ∧ R' = R ∧ meth.name = mn ∧ kc' = kc ∧ ks' = ks ∧ ∀ d ∈ tables_1, d.before a0 Z = true
def Con (G : Gx) (y : MethodName) (bytes : ByteArray) (maxL : Nat) (ret : Option FieldType) (rm : Room) (as : List Value) (H : List Obj) (rv : Option Value) (Hf : List Obj) : Prop := match G with
  | (l, Z, a0, n) => ∀ h0, Sim (l, Z, a0, n) H h0 → MetFree l y (head1 [Cond.code y bytes maxL ret] rm) (fun a U => a = (as.map (sh n)).toArray ∧ Z.Warmed39 U.vm ∧ U.heap = h0) (fun _ _ _ _ _ => True)
      (fun _ U o U' => ∃ v L, o = .returned v ∧ (v = rv.map (sh n) ∧ Fr n L ∧ Sim (l, Z, a0, n) Hf U'.heap ∧ Hf.length = H.length + rm.cells) ∧ FrameEnd U o U' L rm.cells rm.slots)
section Laws
variable {G : Gx} {K : Kx} {rv : Option Value} {Hf : List Obj} {pc pc' : Nat} {Ls Ls' : List (Option Value)} {st : List Value} {H : List Obj} {cells slots : Nat} {own : String} {bytes : ByteArray} {maxL : Nat} {ret : Option FieldType} {R : Room} {mn : String} {kc ks : Nat}
theorem Done.step {l : Launch} {Z : State} {a0 : Array Value} {n : Nat} {p : Program} {e : Env} {R : Room} {s : State} {m : MethodId} {args : Array Value} {below : List Frame} {meth : Method} {c : Code} {kc ks : Nat} {S0 S1 : State}
    (h : ∀ t, Steps p.tables e below S1 t → Steps p.tables e below S0 t) (k : Done (l, Z, a0, n) (p, e, R, s, m, args, below, meth, c, kc, ks) rv Hf S1) : Done (l, Z, a0, n) (p, e, R, s, m, args, below, meth, c, kc, ks) rv Hf S0 := by
  obtain ⟨t, o, h1, r⟩ := k
  exact ⟨t, o, h t h1, r⟩
theorem g_iconst {i : Int} {v : Int32} (O : Ok G K own bytes maxL ret R mn kc ks) (hd : decode bytes pc = .ok (.iconst i, 1)) (hv : Int32.ofInt i = v) (hp : pc + 1 = pc')
    (k : Run G K rv Hf pc' Ls (.int v :: st) H cells slots) : Run G K rv Hf pc Ls (st) H cells slots := by
  obtain ⟨l, Z, a0, n⟩ := G; obtain ⟨p, e, R', s, m, args, below, meth, c, kc', ks'⟩ := K
  obtain ⟨hx, hZ, hown, hby, hml, hret, hlk, rfl, hnm, rfl, rfl, hw⟩ := O
  subst hp
  intro T locs real X N S A L
  exact Done.step (fun t q => XT.iconstV X.here hx rfl v (hb hby hd) hv q) (k T locs real X N S A L)
theorem g_bipush {i : Int} {v : Int32} (O : Ok G K own bytes maxL ret R mn kc ks) (hd : decode bytes pc = .ok (.bipush i, 2)) (hv : (Int8.ofInt i).toInt32 = v) (hp : pc + 2 = pc')
    (k : Run G K rv Hf pc' Ls (.int v :: st) H cells slots) : Run G K rv Hf pc Ls (st) H cells slots := by
  obtain ⟨l, Z, a0, n⟩ := G; obtain ⟨p, e, R', s, m, args, below, meth, c, kc', ks'⟩ := K
  obtain ⟨hx, hZ, hown, hby, hml, hret, hlk, rfl, hnm, rfl, rfl, hw⟩ := O
  subst hp
  intro T locs real X N S A L
  exact Done.step (fun t q => XT.bipushV X.here hx rfl v (hb hby hd) hv q) (k T locs real X N S A L)
theorem g_sipush {i : Int} {v : Int32} (O : Ok G K own bytes maxL ret R mn kc ks) (hd : decode bytes pc = .ok (.sipush i, 3)) (hv : (Int16.ofInt i).toInt32 = v) (hp : pc + 3 = pc')
    (k : Run G K rv Hf pc' Ls (.int v :: st) H cells slots) : Run G K rv Hf pc Ls (st) H cells slots := by
  obtain ⟨l, Z, a0, n⟩ := G; obtain ⟨p, e, R', s, m, args, below, meth, c, kc', ks'⟩ := K
  obtain ⟨hx, hZ, hown, hby, hml, hret, hlk, rfl, hnm, rfl, rfl, hw⟩ := O
  subst hp
  intro T locs real X N S A L
  exact Done.step (fun t q => XT.sipushV X.here hx rfl v (hb hby hd) hv q) (k T locs real X N S A L)
theorem g_lconst {i : Fin 2} {v : Int64} (O : Ok G K own bytes maxL ret R mn kc ks) (hd : decode bytes pc = .ok (.lconst i, 1)) (hv : Int64.ofNat i = v) (hp : pc + 1 = pc')
    (k : Run G K rv Hf pc' Ls (.long v :: st) H cells slots) : Run G K rv Hf pc Ls (st) H cells slots := by
  obtain ⟨l, Z, a0, n⟩ := G; obtain ⟨p, e, R', s, m, args, below, meth, c, kc', ks'⟩ := K
  obtain ⟨hx, hZ, hown, hby, hml, hret, hlk, rfl, hnm, rfl, rfl, hw⟩ := O
  subst hp
  intro T locs real X N S A L
  exact Done.step (fun t q => XT.lconstV X.here hx rfl v (hb hby hd) hv q) (k T locs real X N S A L)
theorem g_iadd {x y : Int32} (O : Ok G K own bytes maxL ret R mn kc ks) (hd : decode bytes pc = .ok (.iadd, 1))  (hp : pc + 1 = pc')
    (k : Run G K rv Hf pc' Ls (.int (x + y) :: st) H cells slots) : Run G K rv Hf pc Ls (.int y :: .int x :: st) H cells slots := by
  obtain ⟨l, Z, a0, n⟩ := G; obtain ⟨p, e, R', s, m, args, below, meth, c, kc', ks'⟩ := K
  obtain ⟨hx, hZ, hown, hby, hml, hret, hlk, rfl, hnm, rfl, rfl, hw⟩ := O
  subst hp
  intro T locs real X N S A L
  exact Done.step (fun t q => XS.iadd X.here hx rfl (hb hby hd) rfl q) (k T locs real X N S A L)
theorem g_isub {x y : Int32} (O : Ok G K own bytes maxL ret R mn kc ks) (hd : decode bytes pc = .ok (.isub, 1))  (hp : pc + 1 = pc')
    (k : Run G K rv Hf pc' Ls (.int (x - y) :: st) H cells slots) : Run G K rv Hf pc Ls (.int y :: .int x :: st) H cells slots := by
  obtain ⟨l, Z, a0, n⟩ := G; obtain ⟨p, e, R', s, m, args, below, meth, c, kc', ks'⟩ := K
  obtain ⟨hx, hZ, hown, hby, hml, hret, hlk, rfl, hnm, rfl, rfl, hw⟩ := O
  subst hp
  intro T locs real X N S A L
  exact Done.step (fun t q => XS.isub X.here hx rfl (hb hby hd) rfl q) (k T locs real X N S A L)
theorem g_imul {x y : Int32} (O : Ok G K own bytes maxL ret R mn kc ks) (hd : decode bytes pc = .ok (.imul, 1))  (hp : pc + 1 = pc')
    (k : Run G K rv Hf pc' Ls (.int (x * y) :: st) H cells slots) : Run G K rv Hf pc Ls (.int y :: .int x :: st) H cells slots := by
  obtain ⟨l, Z, a0, n⟩ := G; obtain ⟨p, e, R', s, m, args, below, meth, c, kc', ks'⟩ := K
  obtain ⟨hx, hZ, hown, hby, hml, hret, hlk, rfl, hnm, rfl, rfl, hw⟩ := O
  subst hp
  intro T locs real X N S A L
  exact Done.step (fun t q => XS.imul X.here hx rfl (hb hby hd) rfl q) (k T locs real X N S A L)
theorem g_iand {x y : Int32} (O : Ok G K own bytes maxL ret R mn kc ks) (hd : decode bytes pc = .ok (.iand, 1))  (hp : pc + 1 = pc')
    (k : Run G K rv Hf pc' Ls (.int (x &&& y) :: st) H cells slots) : Run G K rv Hf pc Ls (.int y :: .int x :: st) H cells slots := by
  obtain ⟨l, Z, a0, n⟩ := G; obtain ⟨p, e, R', s, m, args, below, meth, c, kc', ks'⟩ := K
  obtain ⟨hx, hZ, hown, hby, hml, hret, hlk, rfl, hnm, rfl, rfl, hw⟩ := O
  subst hp
  intro T locs real X N S A L
  exact Done.step (fun t q => XS.iand X.here hx rfl (hb hby hd) rfl q) (k T locs real X N S A L)
theorem g_ior {x y : Int32} (O : Ok G K own bytes maxL ret R mn kc ks) (hd : decode bytes pc = .ok (.ior, 1))  (hp : pc + 1 = pc')
    (k : Run G K rv Hf pc' Ls (.int (x ||| y) :: st) H cells slots) : Run G K rv Hf pc Ls (.int y :: .int x :: st) H cells slots := by
  obtain ⟨l, Z, a0, n⟩ := G; obtain ⟨p, e, R', s, m, args, below, meth, c, kc', ks'⟩ := K
  obtain ⟨hx, hZ, hown, hby, hml, hret, hlk, rfl, hnm, rfl, rfl, hw⟩ := O
  subst hp
  intro T locs real X N S A L
  exact Done.step (fun t q => XT.ior X.here hx rfl (hb hby hd) rfl q) (k T locs real X N S A L)
theorem g_ixor {x y : Int32} (O : Ok G K own bytes maxL ret R mn kc ks) (hd : decode bytes pc = .ok (.ixor, 1))  (hp : pc + 1 = pc')
    (k : Run G K rv Hf pc' Ls (.int (x ^^^ y) :: st) H cells slots) : Run G K rv Hf pc Ls (.int y :: .int x :: st) H cells slots := by
  obtain ⟨l, Z, a0, n⟩ := G; obtain ⟨p, e, R', s, m, args, below, meth, c, kc', ks'⟩ := K
  obtain ⟨hx, hZ, hown, hby, hml, hret, hlk, rfl, hnm, rfl, rfl, hw⟩ := O
  subst hp
  intro T locs real X N S A L
  exact Done.step (fun t q => XT.ixor X.here hx rfl (hb hby hd) rfl q) (k T locs real X N S A L)
theorem g_ishl {x y : Int32} (O : Ok G K own bytes maxL ret R mn kc ks) (hd : decode bytes pc = .ok (.ishl, 1))  (hp : pc + 1 = pc')
    (k : Run G K rv Hf pc' Ls (.int (x <<< (y &&& 31)) :: st) H cells slots) : Run G K rv Hf pc Ls (.int y :: .int x :: st) H cells slots := by
  obtain ⟨l, Z, a0, n⟩ := G; obtain ⟨p, e, R', s, m, args, below, meth, c, kc', ks'⟩ := K
  obtain ⟨hx, hZ, hown, hby, hml, hret, hlk, rfl, hnm, rfl, rfl, hw⟩ := O
  subst hp
  intro T locs real X N S A L
  exact Done.step (fun t q => XT.ishl X.here hx rfl (hb hby hd) rfl q) (k T locs real X N S A L)
theorem g_ishr {x y : Int32} (O : Ok G K own bytes maxL ret R mn kc ks) (hd : decode bytes pc = .ok (.ishr, 1))  (hp : pc + 1 = pc')
    (k : Run G K rv Hf pc' Ls (.int (x >>> (y &&& 31)) :: st) H cells slots) : Run G K rv Hf pc Ls (.int y :: .int x :: st) H cells slots := by
  obtain ⟨l, Z, a0, n⟩ := G; obtain ⟨p, e, R', s, m, args, below, meth, c, kc', ks'⟩ := K
  obtain ⟨hx, hZ, hown, hby, hml, hret, hlk, rfl, hnm, rfl, rfl, hw⟩ := O
  subst hp
  intro T locs real X N S A L
  exact Done.step (fun t q => XT.ishr X.here hx rfl (hb hby hd) rfl q) (k T locs real X N S A L)
theorem g_iushr {x y : Int32} (O : Ok G K own bytes maxL ret R mn kc ks) (hd : decode bytes pc = .ok (.iushr, 1))  (hp : pc + 1 = pc')
    (k : Run G K rv Hf pc' Ls (.int (XT.ushr x y) :: st) H cells slots) : Run G K rv Hf pc Ls (.int y :: .int x :: st) H cells slots := by
  obtain ⟨l, Z, a0, n⟩ := G; obtain ⟨p, e, R', s, m, args, below, meth, c, kc', ks'⟩ := K
  obtain ⟨hx, hZ, hown, hby, hml, hret, hlk, rfl, hnm, rfl, rfl, hw⟩ := O
  subst hp
  intro T locs real X N S A L
  exact Done.step (fun t q => XT.iushr X.here hx rfl (hb hby hd) rfl q) (k T locs real X N S A L)
theorem g_ladd {x y : Int64} (O : Ok G K own bytes maxL ret R mn kc ks) (hd : decode bytes pc = .ok (.ladd, 1))  (hp : pc + 1 = pc')
    (k : Run G K rv Hf pc' Ls (.long (x + y) :: st) H cells slots) : Run G K rv Hf pc Ls (.long y :: .long x :: st) H cells slots := by
  obtain ⟨l, Z, a0, n⟩ := G; obtain ⟨p, e, R', s, m, args, below, meth, c, kc', ks'⟩ := K
  obtain ⟨hx, hZ, hown, hby, hml, hret, hlk, rfl, hnm, rfl, rfl, hw⟩ := O
  subst hp
  intro T locs real X N S A L
  exact Done.step (fun t q => XT.ladd X.here hx rfl (hb hby hd) rfl q) (k T locs real X N S A L)
theorem g_lsub {x y : Int64} (O : Ok G K own bytes maxL ret R mn kc ks) (hd : decode bytes pc = .ok (.lsub, 1))  (hp : pc + 1 = pc')
    (k : Run G K rv Hf pc' Ls (.long (x - y) :: st) H cells slots) : Run G K rv Hf pc Ls (.long y :: .long x :: st) H cells slots := by
  obtain ⟨l, Z, a0, n⟩ := G; obtain ⟨p, e, R', s, m, args, below, meth, c, kc', ks'⟩ := K
  obtain ⟨hx, hZ, hown, hby, hml, hret, hlk, rfl, hnm, rfl, rfl, hw⟩ := O
  subst hp
  intro T locs real X N S A L
  exact Done.step (fun t q => XT.lsub X.here hx rfl (hb hby hd) rfl q) (k T locs real X N S A L)
theorem g_lmul {x y : Int64} (O : Ok G K own bytes maxL ret R mn kc ks) (hd : decode bytes pc = .ok (.lmul, 1))  (hp : pc + 1 = pc')
    (k : Run G K rv Hf pc' Ls (.long (x * y) :: st) H cells slots) : Run G K rv Hf pc Ls (.long y :: .long x :: st) H cells slots := by
  obtain ⟨l, Z, a0, n⟩ := G; obtain ⟨p, e, R', s, m, args, below, meth, c, kc', ks'⟩ := K
  obtain ⟨hx, hZ, hown, hby, hml, hret, hlk, rfl, hnm, rfl, rfl, hw⟩ := O
  subst hp
  intro T locs real X N S A L
  exact Done.step (fun t q => XT.lmul X.here hx rfl (hb hby hd) rfl q) (k T locs real X N S A L)
theorem g_land {x y : Int64} (O : Ok G K own bytes maxL ret R mn kc ks) (hd : decode bytes pc = .ok (.land, 1))  (hp : pc + 1 = pc')
    (k : Run G K rv Hf pc' Ls (.long (x &&& y) :: st) H cells slots) : Run G K rv Hf pc Ls (.long y :: .long x :: st) H cells slots := by
  obtain ⟨l, Z, a0, n⟩ := G; obtain ⟨p, e, R', s, m, args, below, meth, c, kc', ks'⟩ := K
  obtain ⟨hx, hZ, hown, hby, hml, hret, hlk, rfl, hnm, rfl, rfl, hw⟩ := O
  subst hp
  intro T locs real X N S A L
  exact Done.step (fun t q => XT.land X.here hx rfl (hb hby hd) rfl q) (k T locs real X N S A L)
theorem g_lor {x y : Int64} (O : Ok G K own bytes maxL ret R mn kc ks) (hd : decode bytes pc = .ok (.lor, 1))  (hp : pc + 1 = pc')
    (k : Run G K rv Hf pc' Ls (.long (x ||| y) :: st) H cells slots) : Run G K rv Hf pc Ls (.long y :: .long x :: st) H cells slots := by
  obtain ⟨l, Z, a0, n⟩ := G; obtain ⟨p, e, R', s, m, args, below, meth, c, kc', ks'⟩ := K
  obtain ⟨hx, hZ, hown, hby, hml, hret, hlk, rfl, hnm, rfl, rfl, hw⟩ := O
  subst hp
  intro T locs real X N S A L
  exact Done.step (fun t q => XT.lor X.here hx rfl (hb hby hd) rfl q) (k T locs real X N S A L)
theorem g_lxor {x y : Int64} (O : Ok G K own bytes maxL ret R mn kc ks) (hd : decode bytes pc = .ok (.lxor, 1))  (hp : pc + 1 = pc')
    (k : Run G K rv Hf pc' Ls (.long (x ^^^ y) :: st) H cells slots) : Run G K rv Hf pc Ls (.long y :: .long x :: st) H cells slots := by
  obtain ⟨l, Z, a0, n⟩ := G; obtain ⟨p, e, R', s, m, args, below, meth, c, kc', ks'⟩ := K
  obtain ⟨hx, hZ, hown, hby, hml, hret, hlk, rfl, hnm, rfl, rfl, hw⟩ := O
  subst hp
  intro T locs real X N S A L
  exact Done.step (fun t q => XT.lxor X.here hx rfl (hb hby hd) rfl q) (k T locs real X N S A L)
theorem g_lshl {x : Int64} {y : Int32} (O : Ok G K own bytes maxL ret R mn kc ks) (hd : decode bytes pc = .ok (.lshl, 1))  (hp : pc + 1 = pc')
    (k : Run G K rv Hf pc' Ls (.long (x <<< (y.toInt64 &&& 63)) :: st) H cells slots) : Run G K rv Hf pc Ls (.int y :: .long x :: st) H cells slots := by
  obtain ⟨l, Z, a0, n⟩ := G; obtain ⟨p, e, R', s, m, args, below, meth, c, kc', ks'⟩ := K
  obtain ⟨hx, hZ, hown, hby, hml, hret, hlk, rfl, hnm, rfl, rfl, hw⟩ := O
  subst hp
  intro T locs real X N S A L
  exact Done.step (fun t q => XT.lshl X.here hx rfl (hb hby hd) rfl q) (k T locs real X N S A L)
theorem g_lshr {x : Int64} {y : Int32} (O : Ok G K own bytes maxL ret R mn kc ks) (hd : decode bytes pc = .ok (.lshr, 1))  (hp : pc + 1 = pc')
    (k : Run G K rv Hf pc' Ls (.long (x >>> (y.toInt64 &&& 63)) :: st) H cells slots) : Run G K rv Hf pc Ls (.int y :: .long x :: st) H cells slots := by
  obtain ⟨l, Z, a0, n⟩ := G; obtain ⟨p, e, R', s, m, args, below, meth, c, kc', ks'⟩ := K
  obtain ⟨hx, hZ, hown, hby, hml, hret, hlk, rfl, hnm, rfl, rfl, hw⟩ := O
  subst hp
  intro T locs real X N S A L
  exact Done.step (fun t q => XT.lshr X.here hx rfl (hb hby hd) rfl q) (k T locs real X N S A L)
theorem g_lushr {x : Int64} {y : Int32} (O : Ok G K own bytes maxL ret R mn kc ks) (hd : decode bytes pc = .ok (.lushr, 1))  (hp : pc + 1 = pc')
    (k : Run G K rv Hf pc' Ls (.long (XT.ushrL x y) :: st) H cells slots) : Run G K rv Hf pc Ls (.int y :: .long x :: st) H cells slots := by
  obtain ⟨l, Z, a0, n⟩ := G; obtain ⟨p, e, R', s, m, args, below, meth, c, kc', ks'⟩ := K
  obtain ⟨hx, hZ, hown, hby, hml, hret, hlk, rfl, hnm, rfl, rfl, hw⟩ := O
  subst hp
  intro T locs real X N S A L
  exact Done.step (fun t q => XT.lushr X.here hx rfl (hb hby hd) rfl q) (k T locs real X N S A L)
theorem g_idiv {x y : Int32} (O : Ok G K own bytes maxL ret R mn kc ks) (hd : decode bytes pc = .ok (.idiv, 1)) (hy : y ≠ 0) (hp : pc + 1 = pc')
    (k : Run G K rv Hf pc' Ls (.int (x / y) :: st) H cells slots) : Run G K rv Hf pc Ls (.int y :: .int x :: st) H cells slots := by
  obtain ⟨l, Z, a0, n⟩ := G; obtain ⟨p, e, R', s, m, args, below, meth, c, kc', ks'⟩ := K
  obtain ⟨hx, hZ, hown, hby, hml, hret, hlk, rfl, hnm, rfl, rfl, hw⟩ := O
  subst hp
  intro T locs real X N S A L
  exact Done.step (fun t q => XS.idiv X.here hx rfl (hb hby hd) rfl hy q) (k T locs real X N S A L)
theorem g_irem {x y : Int32} (O : Ok G K own bytes maxL ret R mn kc ks) (hd : decode bytes pc = .ok (.irem, 1)) (hy : y ≠ 0) (hp : pc + 1 = pc')
    (k : Run G K rv Hf pc' Ls (.int (x % y) :: st) H cells slots) : Run G K rv Hf pc Ls (.int y :: .int x :: st) H cells slots := by
  obtain ⟨l, Z, a0, n⟩ := G; obtain ⟨p, e, R', s, m, args, below, meth, c, kc', ks'⟩ := K
  obtain ⟨hx, hZ, hown, hby, hml, hret, hlk, rfl, hnm, rfl, rfl, hw⟩ := O
  subst hp
  intro T locs real X N S A L
  exact Done.step (fun t q => iremM X hx rfl (hb hby hd) rfl hy q) (k T locs real X N S A L)
theorem g_ldiv {x y : Int64} (O : Ok G K own bytes maxL ret R mn kc ks) (hd : decode bytes pc = .ok (.ldiv, 1)) (hy : y ≠ 0) (hp : pc + 1 = pc')
    (k : Run G K rv Hf pc' Ls (.long (x / y) :: st) H cells slots) : Run G K rv Hf pc Ls (.long y :: .long x :: st) H cells slots := by
  obtain ⟨l, Z, a0, n⟩ := G; obtain ⟨p, e, R', s, m, args, below, meth, c, kc', ks'⟩ := K
  obtain ⟨hx, hZ, hown, hby, hml, hret, hlk, rfl, hnm, rfl, rfl, hw⟩ := O
  subst hp
  intro T locs real X N S A L
  exact Done.step (fun t q => XT.ldiv X.here hx rfl (hb hby hd) rfl hy q) (k T locs real X N S A L)
theorem g_lrem {x y : Int64} (O : Ok G K own bytes maxL ret R mn kc ks) (hd : decode bytes pc = .ok (.lrem, 1)) (hy : y ≠ 0) (hp : pc + 1 = pc')
    (k : Run G K rv Hf pc' Ls (.long (x % y) :: st) H cells slots) : Run G K rv Hf pc Ls (.long y :: .long x :: st) H cells slots := by
  obtain ⟨l, Z, a0, n⟩ := G; obtain ⟨p, e, R', s, m, args, below, meth, c, kc', ks'⟩ := K
  obtain ⟨hx, hZ, hown, hby, hml, hret, hlk, rfl, hnm, rfl, rfl, hw⟩ := O
  subst hp
  intro T locs real X N S A L
  exact Done.step (fun t q => XT.lrem X.here hx rfl (hb hby hd) rfl hy (by rw [lrem_mod]; exact q)) (k T locs real X N S A L)
theorem g_i2l {x : Int32} (O : Ok G K own bytes maxL ret R mn kc ks) (hd : decode bytes pc = .ok (.i2l, 1))  (hp : pc + 1 = pc')
    (k : Run G K rv Hf pc' Ls (.long x.toInt64 :: st) H cells slots) : Run G K rv Hf pc Ls (.int x :: st) H cells slots := by
  obtain ⟨l, Z, a0, n⟩ := G; obtain ⟨p, e, R', s, m, args, below, meth, c, kc', ks'⟩ := K
  obtain ⟨hx, hZ, hown, hby, hml, hret, hlk, rfl, hnm, rfl, rfl, hw⟩ := O
  subst hp
  intro T locs real X N S A L
  exact Done.step (fun t q => XT.i2l X.here hx rfl (hb hby hd) rfl q) (k T locs real X N S A L)
theorem g_l2i {x : Int64} (O : Ok G K own bytes maxL ret R mn kc ks) (hd : decode bytes pc = .ok (.l2i, 1))  (hp : pc + 1 = pc')
    (k : Run G K rv Hf pc' Ls (.int x.toInt32 :: st) H cells slots) : Run G K rv Hf pc Ls (.long x :: st) H cells slots := by
  obtain ⟨l, Z, a0, n⟩ := G; obtain ⟨p, e, R', s, m, args, below, meth, c, kc', ks'⟩ := K
  obtain ⟨hx, hZ, hown, hby, hml, hret, hlk, rfl, hnm, rfl, rfl, hw⟩ := O
  subst hp
  intro T locs real X N S A L
  exact Done.step (fun t q => XT.l2i X.here hx rfl (hb hby hd) rfl q) (k T locs real X N S A L)
theorem g_i2b {x : Int32} (O : Ok G K own bytes maxL ret R mn kc ks) (hd : decode bytes pc = .ok (.i2b, 1))  (hp : pc + 1 = pc')
    (k : Run G K rv Hf pc' Ls (.int x.toInt8.toInt32 :: st) H cells slots) : Run G K rv Hf pc Ls (.int x :: st) H cells slots := by
  obtain ⟨l, Z, a0, n⟩ := G; obtain ⟨p, e, R', s, m, args, below, meth, c, kc', ks'⟩ := K
  obtain ⟨hx, hZ, hown, hby, hml, hret, hlk, rfl, hnm, rfl, rfl, hw⟩ := O
  subst hp
  intro T locs real X N S A L
  exact Done.step (fun t q => XT.i2b X.here hx rfl (hb hby hd) rfl q) (k T locs real X N S A L)
theorem g_i2c {x : Int32} (O : Ok G K own bytes maxL ret R mn kc ks) (hd : decode bytes pc = .ok (.i2c, 1))  (hp : pc + 1 = pc')
    (k : Run G K rv Hf pc' Ls (.int x.toUInt32.toUInt16.toUInt32.toInt32 :: st) H cells slots) : Run G K rv Hf pc Ls (.int x :: st) H cells slots := by
  obtain ⟨l, Z, a0, n⟩ := G; obtain ⟨p, e, R', s, m, args, below, meth, c, kc', ks'⟩ := K
  obtain ⟨hx, hZ, hown, hby, hml, hret, hlk, rfl, hnm, rfl, rfl, hw⟩ := O
  subst hp
  intro T locs real X N S A L
  exact Done.step (fun t q => XT.i2c X.here hx rfl (hb hby hd) rfl q) (k T locs real X N S A L)
theorem g_dup {x : Value} (O : Ok G K own bytes maxL ret R mn kc ks) (hd : decode bytes pc = .ok (.dup, 1)) (hc : x.category = 1) (hp : pc + 1 = pc')
    (k : Run G K rv Hf pc' Ls (x :: x :: st) H cells slots) : Run G K rv Hf pc Ls (x :: st) H cells slots := by
  obtain ⟨l, Z, a0, n⟩ := G; obtain ⟨p, e, R', s, m, args, below, meth, c, kc', ks'⟩ := K
  obtain ⟨hx, hZ, hown, hby, hml, hret, hlk, rfl, hnm, rfl, rfl, hw⟩ := O
  subst hp
  intro T locs real X N S A L
  exact Done.step (fun t q => XS.dup X.here hx rfl (hb hby hd) rfl ((sh_cat n x).trans hc) q) (k T locs real X N S A L)
theorem g_dup_x1 {x y : Value} (O : Ok G K own bytes maxL ret R mn kc ks) (hd : decode bytes pc = .ok (.dup_x1, 1)) (hc : x.category = 1) (hc' : y.category = 1) (hp : pc + 1 = pc')
    (k : Run G K rv Hf pc' Ls (x :: y :: x :: st) H cells slots) : Run G K rv Hf pc Ls (x :: y :: st) H cells slots := by
  obtain ⟨l, Z, a0, n⟩ := G; obtain ⟨p, e, R', s, m, args, below, meth, c, kc', ks'⟩ := K
  obtain ⟨hx, hZ, hown, hby, hml, hret, hlk, rfl, hnm, rfl, rfl, hw⟩ := O
  subst hp
  intro T locs real X N S A L
  exact Done.step (fun t q => XT.dupX1 X.here hx rfl (hb hby hd) rfl ((sh_cat n x).trans hc) ((sh_cat n y).trans hc') q) (k T locs real X N S A L)
theorem g_pop {x : Value} (O : Ok G K own bytes maxL ret R mn kc ks) (hd : decode bytes pc = .ok (.pop, 1)) (hc : x.category = 1) (hp : pc + 1 = pc')
    (k : Run G K rv Hf pc' Ls (st) H cells slots) : Run G K rv Hf pc Ls (x :: st) H cells slots := by
  obtain ⟨l, Z, a0, n⟩ := G; obtain ⟨p, e, R', s, m, args, below, meth, c, kc', ks'⟩ := K
  obtain ⟨hx, hZ, hown, hby, hml, hret, hlk, rfl, hnm, rfl, rfl, hw⟩ := O
  subst hp
  intro T locs real X N S A L
  exact Done.step (fun t q => XT.pop X.here hx rfl (hb hby hd) rfl ((sh_cat n x).trans hc) q) (k T locs real X N S A L)
theorem g_iload {j : Nat} {v : Int32} (O : Ok G K own bytes maxL ret R mn kc ks) (hd : decode bytes pc = .ok (.iload j, 2)) (hl : Ls[j]? = some (some (.int v))) (hp : pc + 2 = pc')
    (k : Run G K rv Hf pc' Ls (.int v :: st) H cells slots) : Run G K rv Hf pc Ls st H cells slots := by
  obtain ⟨l, Z, a0, n⟩ := G; obtain ⟨p, e, R', s, m, args, below, meth, c, kc', ks'⟩ := K
  obtain ⟨hx, hZ, hown, hby, hml, hret, hlk, rfl, hnm, rfl, rfl, hw⟩ := O
  subst hp
  intro T locs real X N S A L
  exact Done.step (fun t q => XS.iload X.here hx rfl (hb hby hd) (L.2.2 _ _ hl) q) (k T locs real X N S A L)
theorem g_iload_n {j : Fin 4} {v : Int32} (O : Ok G K own bytes maxL ret R mn kc ks) (hd : decode bytes pc = .ok (.iload_n j, 1)) (hl : Ls[j.val]? = some (some (.int v))) (hp : pc + 1 = pc')
    (k : Run G K rv Hf pc' Ls (.int v :: st) H cells slots) : Run G K rv Hf pc Ls st H cells slots := by
  obtain ⟨l, Z, a0, n⟩ := G; obtain ⟨p, e, R', s, m, args, below, meth, c, kc', ks'⟩ := K
  obtain ⟨hx, hZ, hown, hby, hml, hret, hlk, rfl, hnm, rfl, rfl, hw⟩ := O
  subst hp
  intro T locs real X N S A L
  exact Done.step (fun t q => XS.iloadN X.here hx rfl (hb hby hd) (L.2.2 _ _ hl) q) (k T locs real X N S A L)
theorem g_lload {j : Nat} {v : Int64} (O : Ok G K own bytes maxL ret R mn kc ks) (hd : decode bytes pc = .ok (.lload j, 2)) (hl : Ls[j]? = some (some (.long v))) (hp : pc + 2 = pc')
    (k : Run G K rv Hf pc' Ls (.long v :: st) H cells slots) : Run G K rv Hf pc Ls st H cells slots := by
  obtain ⟨l, Z, a0, n⟩ := G; obtain ⟨p, e, R', s, m, args, below, meth, c, kc', ks'⟩ := K
  obtain ⟨hx, hZ, hown, hby, hml, hret, hlk, rfl, hnm, rfl, rfl, hw⟩ := O
  subst hp
  intro T locs real X N S A L
  exact Done.step (fun t q => XT.lload X.here hx rfl (hb hby hd) (L.2.2 _ _ hl) q) (k T locs real X N S A L)
theorem g_lload_n {j : Fin 4} {v : Int64} (O : Ok G K own bytes maxL ret R mn kc ks) (hd : decode bytes pc = .ok (.lload_n j, 1)) (hl : Ls[j.val]? = some (some (.long v))) (hp : pc + 1 = pc')
    (k : Run G K rv Hf pc' Ls (.long v :: st) H cells slots) : Run G K rv Hf pc Ls st H cells slots := by
  obtain ⟨l, Z, a0, n⟩ := G; obtain ⟨p, e, R', s, m, args, below, meth, c, kc', ks'⟩ := K
  obtain ⟨hx, hZ, hown, hby, hml, hret, hlk, rfl, hnm, rfl, rfl, hw⟩ := O
  subst hp
  intro T locs real X N S A L
  exact Done.step (fun t q => XT.lloadN X.here hx rfl (hb hby hd) (L.2.2 _ _ hl) q) (k T locs real X N S A L)
theorem g_aload {j : Nat} {v : Nat} (O : Ok G K own bytes maxL ret R mn kc ks) (hd : decode bytes pc = .ok (.aload j, 2)) (hl : Ls[j]? = some (some (.ref v))) (hp : pc + 2 = pc')
    (k : Run G K rv Hf pc' Ls (.ref v :: st) H cells slots) : Run G K rv Hf pc Ls st H cells slots := by
  obtain ⟨l, Z, a0, n⟩ := G; obtain ⟨p, e, R', s, m, args, below, meth, c, kc', ks'⟩ := K
  obtain ⟨hx, hZ, hown, hby, hml, hret, hlk, rfl, hnm, rfl, rfl, hw⟩ := O
  subst hp
  intro T locs real X N S A L
  exact Done.step (fun t q => XS.aload X.here hx rfl (hb hby hd) (L.2.2 _ _ hl) rfl q) (k T locs real X N S A L)
theorem g_aload_n {j : Fin 4} {v : Nat} (O : Ok G K own bytes maxL ret R mn kc ks) (hd : decode bytes pc = .ok (.aload_n j, 1)) (hl : Ls[j.val]? = some (some (.ref v))) (hp : pc + 1 = pc')
    (k : Run G K rv Hf pc' Ls (.ref v :: st) H cells slots) : Run G K rv Hf pc Ls st H cells slots := by
  obtain ⟨l, Z, a0, n⟩ := G; obtain ⟨p, e, R', s, m, args, below, meth, c, kc', ks'⟩ := K
  obtain ⟨hx, hZ, hown, hby, hml, hret, hlk, rfl, hnm, rfl, rfl, hw⟩ := O
  subst hp
  intro T locs real X N S A L
  exact Done.step (fun t q => XS.aloadN X.here hx rfl (hb hby hd) (L.2.2 _ _ hl) rfl q) (k T locs real X N S A L)
theorem g_istore {j : Nat} {v : Int32} (O : Ok G K own bytes maxL ret R mn kc ks) (hd : decode bytes pc = .ok (.istore j, 2)) (hl : stor Ls j (.int v) = some Ls') (hp : pc + 2 = pc')
    (k : Run G K rv Hf pc' Ls' st H cells slots) : Run G K rv Hf pc Ls (.int v :: st) H cells slots := by
  obtain ⟨l, Z, a0, n⟩ := G; obtain ⟨p, e, R', s, m, args, below, meth, c, kc', ks'⟩ := K
  obtain ⟨hx, hZ, hown, hby, hml, hret, hlk, rfl, hnm, rfl, rfl, hw⟩ := O
  subst hp
  intro T locs real X N S A L
  obtain ⟨real', e1, L'⟩ := store_1 L rfl hl
  exact Done.step (fun t q => XS.istore X.here hx rfl (hb hby hd) rfl e1 q) (k T locs real' X N S A L')
theorem g_istore_n {j : Fin 4} {v : Int32} (O : Ok G K own bytes maxL ret R mn kc ks) (hd : decode bytes pc = .ok (.istore_n j, 1)) (hl : stor Ls j.val (.int v) = some Ls') (hp : pc + 1 = pc')
    (k : Run G K rv Hf pc' Ls' st H cells slots) : Run G K rv Hf pc Ls (.int v :: st) H cells slots := by
  obtain ⟨l, Z, a0, n⟩ := G; obtain ⟨p, e, R', s, m, args, below, meth, c, kc', ks'⟩ := K
  obtain ⟨hx, hZ, hown, hby, hml, hret, hlk, rfl, hnm, rfl, rfl, hw⟩ := O
  subst hp
  intro T locs real X N S A L
  obtain ⟨real', e1, L'⟩ := store_1 L rfl hl
  exact Done.step (fun t q => XS.istoreN X.here hx rfl (hb hby hd) rfl e1 q) (k T locs real' X N S A L')
theorem g_lstore {j : Nat} {v : Int64} (O : Ok G K own bytes maxL ret R mn kc ks) (hd : decode bytes pc = .ok (.lstore j, 2)) (hl : stor Ls j (.long v) = some Ls') (hp : pc + 2 = pc')
    (k : Run G K rv Hf pc' Ls' st H cells slots) : Run G K rv Hf pc Ls (.long v :: st) H cells slots := by
  obtain ⟨l, Z, a0, n⟩ := G; obtain ⟨p, e, R', s, m, args, below, meth, c, kc', ks'⟩ := K
  obtain ⟨hx, hZ, hown, hby, hml, hret, hlk, rfl, hnm, rfl, rfl, hw⟩ := O
  subst hp
  intro T locs real X N S A L
  obtain ⟨real', e1, L'⟩ := store_2 L rfl hl
  exact Done.step (fun t q => XT.lstore X.here hx rfl (hb hby hd) rfl e1 q) (k T locs real' X N S A L')
theorem g_lstore_n {j : Fin 4} {v : Int64} (O : Ok G K own bytes maxL ret R mn kc ks) (hd : decode bytes pc = .ok (.lstore_n j, 1)) (hl : stor Ls j.val (.long v) = some Ls') (hp : pc + 1 = pc')
    (k : Run G K rv Hf pc' Ls' st H cells slots) : Run G K rv Hf pc Ls (.long v :: st) H cells slots := by
  obtain ⟨l, Z, a0, n⟩ := G; obtain ⟨p, e, R', s, m, args, below, meth, c, kc', ks'⟩ := K
  obtain ⟨hx, hZ, hown, hby, hml, hret, hlk, rfl, hnm, rfl, rfl, hw⟩ := O
  subst hp
  intro T locs real X N S A L
  obtain ⟨real', e1, L'⟩ := store_2 L rfl hl
  exact Done.step (fun t q => XT.lstoreN X.here hx rfl (hb hby hd) rfl e1 q) (k T locs real' X N S A L')
theorem g_astore {j : Nat} {v : Nat} (O : Ok G K own bytes maxL ret R mn kc ks) (hd : decode bytes pc = .ok (.astore j, 2)) (hl : stor Ls j (.ref v) = some Ls') (hp : pc + 2 = pc')
    (k : Run G K rv Hf pc' Ls' st H cells slots) : Run G K rv Hf pc Ls (.ref v :: st) H cells slots := by
  obtain ⟨l, Z, a0, n⟩ := G; obtain ⟨p, e, R', s, m, args, below, meth, c, kc', ks'⟩ := K
  obtain ⟨hx, hZ, hown, hby, hml, hret, hlk, rfl, hnm, rfl, rfl, hw⟩ := O
  subst hp
  intro T locs real X N S A L
  obtain ⟨real', e1, L'⟩ := store_1 L rfl hl
  exact Done.step (fun t q => XS.astore X.here hx rfl (hb hby hd) rfl rfl e1 q) (k T locs real' X N S A L')
theorem g_astore_n {j : Fin 4} {v : Nat} (O : Ok G K own bytes maxL ret R mn kc ks) (hd : decode bytes pc = .ok (.astore_n j, 1)) (hl : stor Ls j.val (.ref v) = some Ls') (hp : pc + 1 = pc')
    (k : Run G K rv Hf pc' Ls' st H cells slots) : Run G K rv Hf pc Ls (.ref v :: st) H cells slots := by
  obtain ⟨l, Z, a0, n⟩ := G; obtain ⟨p, e, R', s, m, args, below, meth, c, kc', ks'⟩ := K
  obtain ⟨hx, hZ, hown, hby, hml, hret, hlk, rfl, hnm, rfl, rfl, hw⟩ := O
  subst hp
  intro T locs real X N S A L
  obtain ⟨real', e1, L'⟩ := store_1 L rfl hl
  exact Done.step (fun t q => XS.astoreN X.here hx rfl (hb hby hd) rfl rfl e1 q) (k T locs real' X N S A L')
theorem g_iinc {j : Nat} {i : Int} {v w : Int32} (O : Ok G K own bytes maxL ret R mn kc ks) (hd : decode bytes pc = .ok (.iinc j i, 3)) (hv : Int32.ofInt i = w) (hg : Ls[j]? = some (some (.int v))) (hl : stor Ls j (.int (v + w)) = some Ls') (hp : pc + 3 = pc')
    (k : Run G K rv Hf pc' Ls' st H cells slots) : Run G K rv Hf pc Ls st H cells slots := by
  obtain ⟨l, Z, a0, n⟩ := G; obtain ⟨p, e, R', s, m, args, below, meth, c, kc', ks'⟩ := K
  obtain ⟨hx, hZ, hown, hby, hml, hret, hlk, rfl, hnm, rfl, rfl, hw⟩ := O
  subst hp
  intro T locs real X N S A L
  obtain ⟨real', e1, L'⟩ := store_1 L rfl hl
  exact Done.step (fun t q => XT.iincV X.here hx rfl w (hb hby hd) hv (L.2.2 _ _ hg) e1 q) (k T locs real' X N S A L')
theorem g_goto {o : Int} (O : Ok G K own bytes maxL ret R mn kc ks) (hd : decode bytes pc = .ok (.goto o, 3)) (ho : 0 ≤ (pc : Int) + o) (hp : ((pc : Int) + o).toNat = pc')
    (k : Run G K rv Hf pc' Ls st H cells slots) : Run G K rv Hf pc Ls st H cells slots := by
  obtain ⟨l, Z, a0, n⟩ := G; obtain ⟨p, e, R', s, m, args, below, meth, c, kc', ks'⟩ := K
  obtain ⟨hx, hZ, hown, hby, hml, hret, hlk, rfl, hnm, rfl, rfl, hw⟩ := O
  intro T locs real X N S A L
  exact Done.step (fun t q => XS.goto X.here hx rfl (pc0 := pc) rfl (hb hby hd) ho hp q) (k T locs real X N S A L)
theorem g_icmp_eq {x y : Int32} {o : Int} {pc1 : Nat} (O : Ok G K own bytes maxL ret R mn kc ks) (hd : decode bytes pc = .ok (.if_icmp .eq o, 3)) (hp : pc + 3 = pc') (ho : 0 ≤ (pc : Int) + o) (ht : ((pc : Int) + o).toNat = pc1)
    (kt : x = y → Run G K rv Hf pc1 Ls st H cells slots) (kf : ¬ x = y → Run G K rv Hf pc' Ls st H cells slots) : Run G K rv Hf pc Ls (.int y :: .int x :: st) H cells slots := by
  obtain ⟨l, Z, a0, n⟩ := G; obtain ⟨p, e, R', s, m, args, below, meth, c, kc', ks'⟩ := K
  obtain ⟨hx, hZ, hown, hby, hml, hret, hlk, rfl, hnm, rfl, rfl, hw⟩ := O
  subst hp
  intro T locs real X N S A L
  by_cases h : x = y
  · exact Done.step (fun t q => XS.icmpYes X.here hx rfl (pc0 := pc) rfl (hb hby hd) rfl (XT.ii_eq_t h) ho ht q) (kt h T locs real X N S A L)
  · exact Done.step (fun t q => XS.icmpNo X.here hx rfl (hb hby hd) rfl (XT.ii_eq_f h) q) (kf h T locs real X N S A L)
theorem g_if_eq {x : Int32} {o : Int} {pc1 : Nat} (O : Ok G K own bytes maxL ret R mn kc ks) (hd : decode bytes pc = .ok (.ifCond .eq o, 3)) (hp : pc + 3 = pc') (ho : 0 ≤ (pc : Int) + o) (ht : ((pc : Int) + o).toNat = pc1)
    (kt : x = 0 → Run G K rv Hf pc1 Ls st H cells slots) (kf : ¬ x = 0 → Run G K rv Hf pc' Ls st H cells slots) : Run G K rv Hf pc Ls (.int x :: st) H cells slots := by
  obtain ⟨l, Z, a0, n⟩ := G; obtain ⟨p, e, R', s, m, args, below, meth, c, kc', ks'⟩ := K
  obtain ⟨hx, hZ, hown, hby, hml, hret, hlk, rfl, hnm, rfl, rfl, hw⟩ := O
  subst hp
  intro T locs real X N S A L
  by_cases h : x = 0
  · exact Done.step (fun t q => XS.ifYes X.here hx rfl (pc0 := pc) rfl (hb hby hd) rfl (XT.i0_eq_t h) ho ht q) (kt h T locs real X N S A L)
  · exact Done.step (fun t q => XS.ifNo X.here hx rfl (hb hby hd) rfl (XT.i0_eq_f h) q) (kf h T locs real X N S A L)
theorem g_lcmp_eq {x y : Int64} {pq : Nat} {o : Int} {pc1 : Nat} (O : Ok G K own bytes maxL ret R mn kc ks) (hd0 : decode bytes pc = .ok (.lcmp, 1)) (hq : pc + 1 = pq) (hd : decode bytes pq = .ok (.ifCond .eq o, 3)) (hp : pq + 3 = pc') (ho : 0 ≤ (pq : Int) + o) (ht : ((pq : Int) + o).toNat = pc1)
    (kt : x = y → Run G K rv Hf pc1 Ls st H cells slots) (kf : ¬ x = y → Run G K rv Hf pc' Ls st H cells slots) : Run G K rv Hf pc Ls (.long y :: .long x :: st) H cells slots := by
  obtain ⟨l, Z, a0, n⟩ := G; obtain ⟨p, e, R', s, m, args, below, meth, c, kc', ks'⟩ := K
  obtain ⟨hx, hZ, hown, hby, hml, hret, hlk, rfl, hnm, rfl, rfl, hw⟩ := O
  subst hq
  subst hp
  intro T locs real X N S A L
  by_cases h : x = y
  · exact Done.step (fun t q => XT.lcmp X.here hx rfl (hb hby hd0) rfl (XS.ifYes X.here hx rfl (pc0 := pc + 1) rfl (hb hby hd) rfl (XT.ll_eq_t h) ho ht q)) (kt h T locs real X N S A L)
  · exact Done.step (fun t q => XT.lcmp X.here hx rfl (hb hby hd0) rfl (XS.ifNo X.here hx rfl (hb hby hd) rfl (XT.ll_eq_f h) q)) (kf h T locs real X N S A L)
theorem g_icmp_ne {x y : Int32} {o : Int} {pc1 : Nat} (O : Ok G K own bytes maxL ret R mn kc ks) (hd : decode bytes pc = .ok (.if_icmp .ne o, 3)) (hp : pc + 3 = pc') (ho : 0 ≤ (pc : Int) + o) (ht : ((pc : Int) + o).toNat = pc1)
    (kt : ¬ x = y → Run G K rv Hf pc1 Ls st H cells slots) (kf : x = y → Run G K rv Hf pc' Ls st H cells slots) : Run G K rv Hf pc Ls (.int y :: .int x :: st) H cells slots := by
  obtain ⟨l, Z, a0, n⟩ := G; obtain ⟨p, e, R', s, m, args, below, meth, c, kc', ks'⟩ := K
  obtain ⟨hx, hZ, hown, hby, hml, hret, hlk, rfl, hnm, rfl, rfl, hw⟩ := O
  subst hp
  intro T locs real X N S A L
  by_cases h : x = y
  · exact Done.step (fun t q => XS.icmpNo X.here hx rfl (hb hby hd) rfl (XT.ii_ne_f h) q) (kf h T locs real X N S A L)
  · exact Done.step (fun t q => XS.icmpYes X.here hx rfl (pc0 := pc) rfl (hb hby hd) rfl (XT.ii_ne_t h) ho ht q) (kt h T locs real X N S A L)
theorem g_if_ne {x : Int32} {o : Int} {pc1 : Nat} (O : Ok G K own bytes maxL ret R mn kc ks) (hd : decode bytes pc = .ok (.ifCond .ne o, 3)) (hp : pc + 3 = pc') (ho : 0 ≤ (pc : Int) + o) (ht : ((pc : Int) + o).toNat = pc1)
    (kt : ¬ x = 0 → Run G K rv Hf pc1 Ls st H cells slots) (kf : x = 0 → Run G K rv Hf pc' Ls st H cells slots) : Run G K rv Hf pc Ls (.int x :: st) H cells slots := by
  obtain ⟨l, Z, a0, n⟩ := G; obtain ⟨p, e, R', s, m, args, below, meth, c, kc', ks'⟩ := K
  obtain ⟨hx, hZ, hown, hby, hml, hret, hlk, rfl, hnm, rfl, rfl, hw⟩ := O
  subst hp
  intro T locs real X N S A L
  by_cases h : x = 0
  · exact Done.step (fun t q => XS.ifNo X.here hx rfl (hb hby hd) rfl (XT.i0_ne_f h) q) (kf h T locs real X N S A L)
  · exact Done.step (fun t q => XS.ifYes X.here hx rfl (pc0 := pc) rfl (hb hby hd) rfl (XT.i0_ne_t h) ho ht q) (kt h T locs real X N S A L)
theorem g_lcmp_ne {x y : Int64} {pq : Nat} {o : Int} {pc1 : Nat} (O : Ok G K own bytes maxL ret R mn kc ks) (hd0 : decode bytes pc = .ok (.lcmp, 1)) (hq : pc + 1 = pq) (hd : decode bytes pq = .ok (.ifCond .ne o, 3)) (hp : pq + 3 = pc') (ho : 0 ≤ (pq : Int) + o) (ht : ((pq : Int) + o).toNat = pc1)
    (kt : ¬ x = y → Run G K rv Hf pc1 Ls st H cells slots) (kf : x = y → Run G K rv Hf pc' Ls st H cells slots) : Run G K rv Hf pc Ls (.long y :: .long x :: st) H cells slots := by
  obtain ⟨l, Z, a0, n⟩ := G; obtain ⟨p, e, R', s, m, args, below, meth, c, kc', ks'⟩ := K
  obtain ⟨hx, hZ, hown, hby, hml, hret, hlk, rfl, hnm, rfl, rfl, hw⟩ := O
  subst hq
  subst hp
  intro T locs real X N S A L
  by_cases h : x = y
  · exact Done.step (fun t q => XT.lcmp X.here hx rfl (hb hby hd0) rfl (XS.ifNo X.here hx rfl (hb hby hd) rfl (XT.ll_ne_f h) q)) (kf h T locs real X N S A L)
  · exact Done.step (fun t q => XT.lcmp X.here hx rfl (hb hby hd0) rfl (XS.ifYes X.here hx rfl (pc0 := pc + 1) rfl (hb hby hd) rfl (XT.ll_ne_t h) ho ht q)) (kt h T locs real X N S A L)
theorem g_icmp_lt {x y : Int32} {o : Int} {pc1 : Nat} (O : Ok G K own bytes maxL ret R mn kc ks) (hd : decode bytes pc = .ok (.if_icmp .lt o, 3)) (hp : pc + 3 = pc') (ho : 0 ≤ (pc : Int) + o) (ht : ((pc : Int) + o).toNat = pc1)
    (kt : x < y → Run G K rv Hf pc1 Ls st H cells slots) (kf : ¬ x < y → Run G K rv Hf pc' Ls st H cells slots) : Run G K rv Hf pc Ls (.int y :: .int x :: st) H cells slots := by
  obtain ⟨l, Z, a0, n⟩ := G; obtain ⟨p, e, R', s, m, args, below, meth, c, kc', ks'⟩ := K
  obtain ⟨hx, hZ, hown, hby, hml, hret, hlk, rfl, hnm, rfl, rfl, hw⟩ := O
  subst hp
  intro T locs real X N S A L
  by_cases h : x < y
  · exact Done.step (fun t q => XS.icmpYes X.here hx rfl (pc0 := pc) rfl (hb hby hd) rfl (XT.ii_lt_t h) ho ht q) (kt h T locs real X N S A L)
  · exact Done.step (fun t q => XS.icmpNo X.here hx rfl (hb hby hd) rfl (XT.ii_lt_f h) q) (kf h T locs real X N S A L)
theorem g_if_lt {x : Int32} {o : Int} {pc1 : Nat} (O : Ok G K own bytes maxL ret R mn kc ks) (hd : decode bytes pc = .ok (.ifCond .lt o, 3)) (hp : pc + 3 = pc') (ho : 0 ≤ (pc : Int) + o) (ht : ((pc : Int) + o).toNat = pc1)
    (kt : x < 0 → Run G K rv Hf pc1 Ls st H cells slots) (kf : ¬ x < 0 → Run G K rv Hf pc' Ls st H cells slots) : Run G K rv Hf pc Ls (.int x :: st) H cells slots := by
  obtain ⟨l, Z, a0, n⟩ := G; obtain ⟨p, e, R', s, m, args, below, meth, c, kc', ks'⟩ := K
  obtain ⟨hx, hZ, hown, hby, hml, hret, hlk, rfl, hnm, rfl, rfl, hw⟩ := O
  subst hp
  intro T locs real X N S A L
  by_cases h : x < 0
  · exact Done.step (fun t q => XS.ifYes X.here hx rfl (pc0 := pc) rfl (hb hby hd) rfl (XT.i0_lt_t h) ho ht q) (kt h T locs real X N S A L)
  · exact Done.step (fun t q => XS.ifNo X.here hx rfl (hb hby hd) rfl (XT.i0_lt_f h) q) (kf h T locs real X N S A L)
theorem g_lcmp_lt {x y : Int64} {pq : Nat} {o : Int} {pc1 : Nat} (O : Ok G K own bytes maxL ret R mn kc ks) (hd0 : decode bytes pc = .ok (.lcmp, 1)) (hq : pc + 1 = pq) (hd : decode bytes pq = .ok (.ifCond .lt o, 3)) (hp : pq + 3 = pc') (ho : 0 ≤ (pq : Int) + o) (ht : ((pq : Int) + o).toNat = pc1)
    (kt : x < y → Run G K rv Hf pc1 Ls st H cells slots) (kf : ¬ x < y → Run G K rv Hf pc' Ls st H cells slots) : Run G K rv Hf pc Ls (.long y :: .long x :: st) H cells slots := by
  obtain ⟨l, Z, a0, n⟩ := G; obtain ⟨p, e, R', s, m, args, below, meth, c, kc', ks'⟩ := K
  obtain ⟨hx, hZ, hown, hby, hml, hret, hlk, rfl, hnm, rfl, rfl, hw⟩ := O
  subst hq
  subst hp
  intro T locs real X N S A L
  by_cases h : x < y
  · exact Done.step (fun t q => XT.lcmp X.here hx rfl (hb hby hd0) rfl (XS.ifYes X.here hx rfl (pc0 := pc + 1) rfl (hb hby hd) rfl (XT.ll_lt_t h) ho ht q)) (kt h T locs real X N S A L)
  · exact Done.step (fun t q => XT.lcmp X.here hx rfl (hb hby hd0) rfl (XS.ifNo X.here hx rfl (hb hby hd) rfl (XT.ll_lt_f h) q)) (kf h T locs real X N S A L)
theorem g_icmp_ge {x y : Int32} {o : Int} {pc1 : Nat} (O : Ok G K own bytes maxL ret R mn kc ks) (hd : decode bytes pc = .ok (.if_icmp .ge o, 3)) (hp : pc + 3 = pc') (ho : 0 ≤ (pc : Int) + o) (ht : ((pc : Int) + o).toNat = pc1)
    (kt : ¬ x < y → Run G K rv Hf pc1 Ls st H cells slots) (kf : x < y → Run G K rv Hf pc' Ls st H cells slots) : Run G K rv Hf pc Ls (.int y :: .int x :: st) H cells slots := by
  obtain ⟨l, Z, a0, n⟩ := G; obtain ⟨p, e, R', s, m, args, below, meth, c, kc', ks'⟩ := K
  obtain ⟨hx, hZ, hown, hby, hml, hret, hlk, rfl, hnm, rfl, rfl, hw⟩ := O
  subst hp
  intro T locs real X N S A L
  by_cases h : x < y
  · exact Done.step (fun t q => XS.icmpNo X.here hx rfl (hb hby hd) rfl (XT.ii_ge_f h) q) (kf h T locs real X N S A L)
  · exact Done.step (fun t q => XS.icmpYes X.here hx rfl (pc0 := pc) rfl (hb hby hd) rfl (XT.ii_ge_t h) ho ht q) (kt h T locs real X N S A L)
theorem g_if_ge {x : Int32} {o : Int} {pc1 : Nat} (O : Ok G K own bytes maxL ret R mn kc ks) (hd : decode bytes pc = .ok (.ifCond .ge o, 3)) (hp : pc + 3 = pc') (ho : 0 ≤ (pc : Int) + o) (ht : ((pc : Int) + o).toNat = pc1)
    (kt : ¬ x < 0 → Run G K rv Hf pc1 Ls st H cells slots) (kf : x < 0 → Run G K rv Hf pc' Ls st H cells slots) : Run G K rv Hf pc Ls (.int x :: st) H cells slots := by
  obtain ⟨l, Z, a0, n⟩ := G; obtain ⟨p, e, R', s, m, args, below, meth, c, kc', ks'⟩ := K
  obtain ⟨hx, hZ, hown, hby, hml, hret, hlk, rfl, hnm, rfl, rfl, hw⟩ := O
  subst hp
  intro T locs real X N S A L
  by_cases h : x < 0
  · exact Done.step (fun t q => XS.ifNo X.here hx rfl (hb hby hd) rfl (XT.i0_ge_f h) q) (kf h T locs real X N S A L)
  · exact Done.step (fun t q => XS.ifYes X.here hx rfl (pc0 := pc) rfl (hb hby hd) rfl (XT.i0_ge_t h) ho ht q) (kt h T locs real X N S A L)
theorem g_lcmp_ge {x y : Int64} {pq : Nat} {o : Int} {pc1 : Nat} (O : Ok G K own bytes maxL ret R mn kc ks) (hd0 : decode bytes pc = .ok (.lcmp, 1)) (hq : pc + 1 = pq) (hd : decode bytes pq = .ok (.ifCond .ge o, 3)) (hp : pq + 3 = pc') (ho : 0 ≤ (pq : Int) + o) (ht : ((pq : Int) + o).toNat = pc1)
    (kt : ¬ x < y → Run G K rv Hf pc1 Ls st H cells slots) (kf : x < y → Run G K rv Hf pc' Ls st H cells slots) : Run G K rv Hf pc Ls (.long y :: .long x :: st) H cells slots := by
  obtain ⟨l, Z, a0, n⟩ := G; obtain ⟨p, e, R', s, m, args, below, meth, c, kc', ks'⟩ := K
  obtain ⟨hx, hZ, hown, hby, hml, hret, hlk, rfl, hnm, rfl, rfl, hw⟩ := O
  subst hq
  subst hp
  intro T locs real X N S A L
  by_cases h : x < y
  · exact Done.step (fun t q => XT.lcmp X.here hx rfl (hb hby hd0) rfl (XS.ifNo X.here hx rfl (hb hby hd) rfl (XT.ll_ge_f h) q)) (kf h T locs real X N S A L)
  · exact Done.step (fun t q => XT.lcmp X.here hx rfl (hb hby hd0) rfl (XS.ifYes X.here hx rfl (pc0 := pc + 1) rfl (hb hby hd) rfl (XT.ll_ge_t h) ho ht q)) (kt h T locs real X N S A L)
theorem g_icmp_gt {x y : Int32} {o : Int} {pc1 : Nat} (O : Ok G K own bytes maxL ret R mn kc ks) (hd : decode bytes pc = .ok (.if_icmp .gt o, 3)) (hp : pc + 3 = pc') (ho : 0 ≤ (pc : Int) + o) (ht : ((pc : Int) + o).toNat = pc1)
    (kt : y < x → Run G K rv Hf pc1 Ls st H cells slots) (kf : ¬ y < x → Run G K rv Hf pc' Ls st H cells slots) : Run G K rv Hf pc Ls (.int y :: .int x :: st) H cells slots := by
  obtain ⟨l, Z, a0, n⟩ := G; obtain ⟨p, e, R', s, m, args, below, meth, c, kc', ks'⟩ := K
  obtain ⟨hx, hZ, hown, hby, hml, hret, hlk, rfl, hnm, rfl, rfl, hw⟩ := O
  subst hp
  intro T locs real X N S A L
  by_cases h : y < x
  · exact Done.step (fun t q => XS.icmpYes X.here hx rfl (pc0 := pc) rfl (hb hby hd) rfl (XT.ii_gt_t h) ho ht q) (kt h T locs real X N S A L)
  · exact Done.step (fun t q => XS.icmpNo X.here hx rfl (hb hby hd) rfl (XT.ii_gt_f h) q) (kf h T locs real X N S A L)
theorem g_if_gt {x : Int32} {o : Int} {pc1 : Nat} (O : Ok G K own bytes maxL ret R mn kc ks) (hd : decode bytes pc = .ok (.ifCond .gt o, 3)) (hp : pc + 3 = pc') (ho : 0 ≤ (pc : Int) + o) (ht : ((pc : Int) + o).toNat = pc1)
    (kt : 0 < x → Run G K rv Hf pc1 Ls st H cells slots) (kf : ¬ 0 < x → Run G K rv Hf pc' Ls st H cells slots) : Run G K rv Hf pc Ls (.int x :: st) H cells slots := by
  obtain ⟨l, Z, a0, n⟩ := G; obtain ⟨p, e, R', s, m, args, below, meth, c, kc', ks'⟩ := K
  obtain ⟨hx, hZ, hown, hby, hml, hret, hlk, rfl, hnm, rfl, rfl, hw⟩ := O
  subst hp
  intro T locs real X N S A L
  by_cases h : 0 < x
  · exact Done.step (fun t q => XS.ifYes X.here hx rfl (pc0 := pc) rfl (hb hby hd) rfl (XT.i0_gt_t h) ho ht q) (kt h T locs real X N S A L)
  · exact Done.step (fun t q => XS.ifNo X.here hx rfl (hb hby hd) rfl (XT.i0_gt_f h) q) (kf h T locs real X N S A L)
theorem g_lcmp_gt {x y : Int64} {pq : Nat} {o : Int} {pc1 : Nat} (O : Ok G K own bytes maxL ret R mn kc ks) (hd0 : decode bytes pc = .ok (.lcmp, 1)) (hq : pc + 1 = pq) (hd : decode bytes pq = .ok (.ifCond .gt o, 3)) (hp : pq + 3 = pc') (ho : 0 ≤ (pq : Int) + o) (ht : ((pq : Int) + o).toNat = pc1)
    (kt : y < x → Run G K rv Hf pc1 Ls st H cells slots) (kf : ¬ y < x → Run G K rv Hf pc' Ls st H cells slots) : Run G K rv Hf pc Ls (.long y :: .long x :: st) H cells slots := by
  obtain ⟨l, Z, a0, n⟩ := G; obtain ⟨p, e, R', s, m, args, below, meth, c, kc', ks'⟩ := K
  obtain ⟨hx, hZ, hown, hby, hml, hret, hlk, rfl, hnm, rfl, rfl, hw⟩ := O
  subst hq
  subst hp
  intro T locs real X N S A L
  by_cases h : y < x
  · exact Done.step (fun t q => XT.lcmp X.here hx rfl (hb hby hd0) rfl (XS.ifYes X.here hx rfl (pc0 := pc + 1) rfl (hb hby hd) rfl (XT.ll_gt_t h) ho ht q)) (kt h T locs real X N S A L)
  · exact Done.step (fun t q => XT.lcmp X.here hx rfl (hb hby hd0) rfl (XS.ifNo X.here hx rfl (hb hby hd) rfl (XT.ll_gt_f h) q)) (kf h T locs real X N S A L)
theorem g_icmp_le {x y : Int32} {o : Int} {pc1 : Nat} (O : Ok G K own bytes maxL ret R mn kc ks) (hd : decode bytes pc = .ok (.if_icmp .le o, 3)) (hp : pc + 3 = pc') (ho : 0 ≤ (pc : Int) + o) (ht : ((pc : Int) + o).toNat = pc1)
    (kt : ¬ y < x → Run G K rv Hf pc1 Ls st H cells slots) (kf : y < x → Run G K rv Hf pc' Ls st H cells slots) : Run G K rv Hf pc Ls (.int y :: .int x :: st) H cells slots := by
  obtain ⟨l, Z, a0, n⟩ := G; obtain ⟨p, e, R', s, m, args, below, meth, c, kc', ks'⟩ := K
  obtain ⟨hx, hZ, hown, hby, hml, hret, hlk, rfl, hnm, rfl, rfl, hw⟩ := O
  subst hp
  intro T locs real X N S A L
  by_cases h : y < x
  · exact Done.step (fun t q => XS.icmpNo X.here hx rfl (hb hby hd) rfl (XT.ii_le_f h) q) (kf h T locs real X N S A L)
  · exact Done.step (fun t q => XS.icmpYes X.here hx rfl (pc0 := pc) rfl (hb hby hd) rfl (XT.ii_le_t h) ho ht q) (kt h T locs real X N S A L)
theorem g_if_le {x : Int32} {o : Int} {pc1 : Nat} (O : Ok G K own bytes maxL ret R mn kc ks) (hd : decode bytes pc = .ok (.ifCond .le o, 3)) (hp : pc + 3 = pc') (ho : 0 ≤ (pc : Int) + o) (ht : ((pc : Int) + o).toNat = pc1)
    (kt : ¬ 0 < x → Run G K rv Hf pc1 Ls st H cells slots) (kf : 0 < x → Run G K rv Hf pc' Ls st H cells slots) : Run G K rv Hf pc Ls (.int x :: st) H cells slots := by
  obtain ⟨l, Z, a0, n⟩ := G; obtain ⟨p, e, R', s, m, args, below, meth, c, kc', ks'⟩ := K
  obtain ⟨hx, hZ, hown, hby, hml, hret, hlk, rfl, hnm, rfl, rfl, hw⟩ := O
  subst hp
  intro T locs real X N S A L
  by_cases h : 0 < x
  · exact Done.step (fun t q => XS.ifNo X.here hx rfl (hb hby hd) rfl (XT.i0_le_f h) q) (kf h T locs real X N S A L)
  · exact Done.step (fun t q => XS.ifYes X.here hx rfl (pc0 := pc) rfl (hb hby hd) rfl (XT.i0_le_t h) ho ht q) (kt h T locs real X N S A L)
theorem g_lcmp_le {x y : Int64} {pq : Nat} {o : Int} {pc1 : Nat} (O : Ok G K own bytes maxL ret R mn kc ks) (hd0 : decode bytes pc = .ok (.lcmp, 1)) (hq : pc + 1 = pq) (hd : decode bytes pq = .ok (.ifCond .le o, 3)) (hp : pq + 3 = pc') (ho : 0 ≤ (pq : Int) + o) (ht : ((pq : Int) + o).toNat = pc1)
    (kt : ¬ y < x → Run G K rv Hf pc1 Ls st H cells slots) (kf : y < x → Run G K rv Hf pc' Ls st H cells slots) : Run G K rv Hf pc Ls (.long y :: .long x :: st) H cells slots := by
  obtain ⟨l, Z, a0, n⟩ := G; obtain ⟨p, e, R', s, m, args, below, meth, c, kc', ks'⟩ := K
  obtain ⟨hx, hZ, hown, hby, hml, hret, hlk, rfl, hnm, rfl, rfl, hw⟩ := O
  subst hq
  subst hp
  intro T locs real X N S A L
  by_cases h : y < x
  · exact Done.step (fun t q => XT.lcmp X.here hx rfl (hb hby hd0) rfl (XS.ifNo X.here hx rfl (hb hby hd) rfl (XT.ll_le_f h) q)) (kf h T locs real X N S A L)
  · exact Done.step (fun t q => XT.lcmp X.here hx rfl (hb hby hd0) rfl (XS.ifYes X.here hx rfl (pc0 := pc + 1) rfl (hb hby hd) rfl (XT.ll_le_t h) ho ht q)) (kt h T locs real X N S A L)
/-! reading and writing the heap, in the model -/
def arr (ty : FieldType) (H : List Obj) (i : Nat) : Option (List Value) := match H[i]? with
  | some (.inl (t, vs)) => if t = ty then some vs else none
  | _ => none
def rd (ty : FieldType) (H : List Obj) (i : Nat) (j : Int32) : Option Value := (arr ty H i).bind fun vs => if j < 0 then none else vs[j.toNatClampNeg]?
def getI : Value → Option Int32
  | .int x => some x
  | _ => none
def getJ : Value → Option Int64
  | .long x => some x
  | _ => none
def getA : Value → Option Nat
  | .ref x => some x
  | _ => none
def rdI (ty : FieldType) (H : List Obj) (i : Nat) (j : Int32) : Option Int32 := (rd ty H i j).bind getI
def rdJ (H : List Obj) (i : Nat) (j : Int32) : Option Int64 := (rd .long H i j).bind getJ
def wr (ty : FieldType) (H : List Obj) (i : Nat) (j : Int32) (v : Value) : Option (List Obj) := (arr ty H i).bind fun vs => if j < 0 ∨ vs.length ≤ j.toNatClampNeg then none else some (H.set i (.inl (ty, vs.set j.toNatClampNeg v)))
def alen (H : List Obj) (i : Nat) : Option Int32 := match H[i]? with
  | some (.inl (_, vs)) => some vs.length.toInt32
  | _ => none
def mkArr (ty : FieldType) (cap : Nat) (H : List Obj) (j : Int32) : Option (List Obj) := if j < 0 ∨ cap < j.toNatClampNeg then none else some (H ++ [.inl (ty, List.replicate j.toNatClampNeg (defaultValue ty))])
def obj (t : Nat) (H : List Obj) (i : Nat) : Option (List Value) := match H[i]? with
  | some (.inr (t', vs)) => if t' = t then some vs else none
  | _ => none
def fld (t k : Nat) (H : List Obj) (i : Nat) : Option Value := (obj t H i).bind fun vs => vs[k]?
def fldI (t k : Nat) (H : List Obj) (i : Nat) : Option Int32 := (fld t k H i).bind getI
def fldJ (t k : Nat) (H : List Obj) (i : Nat) : Option Int64 := (fld t k H i).bind getJ
def fldA (t k : Nat) (H : List Obj) (i : Nat) : Option Nat := (fld t k H i).bind getA
def setF (t k : Nat) (H : List Obj) (i : Nat) (v : Value) : Option (List Obj) := (obj t H i).bind fun vs => if k < vs.length then some (H.set i (.inr (t, vs.set k v))) else none
theorem getI_e {v : Value} {x : Int32} (h : getI v = some x) : v = .int x := by cases v <;> simp [getI] at h; rw [h]
theorem getJ_e {v : Value} {x : Int64} (h : getJ v = some x) : v = .long x := by cases v <;> simp [getJ] at h; rw [h]
theorem getA_e {v : Value} {x : Nat} (h : getA v = some x) : v = .ref x := by cases v <;> simp [getA] at h; rw [h]
theorem rdI_e {ty : FieldType} {i : Nat} {j x : Int32} (h : rdI ty H i j = some x) : rd ty H i j = some (.int x) := by
  obtain ⟨v, h1, h2⟩ := Option.bind_eq_some_iff.mp h; rw [h1, getI_e h2]
theorem rdJ_e {i : Nat} {j : Int32} {x : Int64} (h : rdJ H i j = some x) : rd .long H i j = some (.long x) := by
  obtain ⟨v, h1, h2⟩ := Option.bind_eq_some_iff.mp h; rw [h1, getJ_e h2]
theorem fldI_e {t k i : Nat} {x : Int32} (h : fldI t k H i = some x) : fld t k H i = some (.int x) := by
  obtain ⟨v, h1, h2⟩ := Option.bind_eq_some_iff.mp h; rw [h1, getI_e h2]
theorem fldJ_e {t k i : Nat} {x : Int64} (h : fldJ t k H i = some x) : fld t k H i = some (.long x) := by
  obtain ⟨v, h1, h2⟩ := Option.bind_eq_some_iff.mp h; rw [h1, getJ_e h2]
theorem fldA_e {t k i x : Nat} (h : fldA t k H i = some x) : fld t k H i = some (.ref x) := by
  obtain ⟨v, h1, h2⟩ := Option.bind_eq_some_iff.mp h; rw [h1, getA_e h2]
theorem arr_e {ty : FieldType} {i : Nat} {vs : List Value} (h : arr ty H i = some vs) : H[i]? = some (.inl (ty, vs)) := by
  unfold arr at h; split at h
  · rename_i t us hh; split at h
    · rename_i e; cases h; rw [hh, e]
    · cases h
  · cases h
theorem obj_e {t i : Nat} {vs : List Value} (h : obj t H i = some vs) : H[i]? = some (.inr (t, vs)) := by
  unfold obj at h; split at h
  · rename_i t us hh; split at h
    · rename_i e; cases h; rw [hh, e]
    · cases h
  · cases h
theorem sim_arr {h : Heap} {ty : FieldType} {i : Nat} {vs : List Value} (S : Sim G H h) (e : arr ty H i = some vs) : ∃ c : Cell, Arr G.2.1 h (G.2.2.2 + i) c ty ∧ c.slots = (vs.map (sh G.2.2.2)).toArray := (S.2 i _ (arr_e e)).2
theorem sim_obj {h : Heap} {t i : Nat} {vs : List Value} (S : Sim G H h) (e : obj t H i = some vs) : Exa G.2.1 h (G.2.2.2 + i) (lay t).1 ∧ vs.length = (lay t).2.length ∧ ∀ (k : Nat) (nd : String × String) (v : Value), (lay t).2[k]? = some nd → vs[k]? = some v → Fld G.2.1 h (G.2.2.2 + i) (lay t).1 nd.1 nd.2 (sh G.2.2.2 v) := S.2 i _ (obj_e e)
theorem sim_ext {h h' : Heap} {o : Obj} (S : Sim G H h) (E : Ext h h') (hs : h'.size = h.size + 1) (ho : ObjOk G.2.1 G.2.2.2 h' h.size o) : Sim G (H ++ [o]) h' := by
  refine ⟨by rw [hs, S.1, List.length_append]; rfl, fun i q hq => ?_⟩
  by_cases hi : i < H.length
  · rw [List.getElem?_append_left hi] at hq
    have r := S.2 i q hq
    rcases q with ⟨ty, vs⟩ | ⟨t, vs⟩
    · obtain ⟨X, c, A, r⟩ := r; exact ⟨X.ext E, c, A.ext E, r⟩
    · obtain ⟨X, l, F⟩ := r; exact ⟨X.ext E, l, fun k nd v h1 h2 => (F k nd v h1 h2).ext E⟩
  · rw [List.getElem?_append_right (Nat.le_of_not_lt hi)] at hq
    have : i - H.length = 0 := by
      have := (List.getElem?_eq_some_iff.mp hq).1; simp at this; omega
    rw [this] at hq
    cases hq
    have : G.2.2.2 + i = h.size := by rw [S.1]; have := Nat.le_of_not_lt hi; omega
    rw [this]; exact ho
theorem sim_wr {h h' : Heap} {ty : FieldType} {i j : Nat} {vs : List Value} {v : Value} (S : Sim G H h) (e : arr ty H i = some vs) (W : Wr h h' (G.2.2.2 + i) j (sh G.2.2.2 v)) : Sim G (H.set i (.inl (ty, vs.set j v))) h' := by
  refine ⟨by rw [W.size, S.1, List.length_set], fun i' q hq => ?_⟩
  have hlt := (List.getElem?_eq_some_iff.mp (arr_e e)).1
  by_cases hi : i = i'
  · subst hi
    rw [List.getElem?_set_self hlt] at hq
    cases hq
    obtain ⟨X, c, A, r⟩ := S.2 i _ (arr_e e)
    exact ⟨X.wr W, _, A.same W, by simp [Cell.setSlot, r, List.map_set]⟩
  · rw [List.getElem?_set_ne hi] at hq
    have r := S.2 i' q hq
    have ne : G.2.2.2 + i' ≠ G.2.2.2 + i := by omega
    rcases q with ⟨ty, vs⟩ | ⟨t, vs⟩
    · obtain ⟨X, c, A, r⟩ := r; exact ⟨X.wr W, c, A.other W ne, r⟩
    · obtain ⟨X, l, F⟩ := r; exact ⟨X.wr W, l, fun k nd v h1 h2 => (F k nd v h1 h2).other W (Or.inl ne)⟩
theorem lay_slot {Z : State} {a0 : Array Value} (hw : ∀ d ∈ tables_1, d.before a0 Z = true) {t k k' : Nat} {nd nd' : String × String} (h1 : (lay t).2[k]? = some nd) (h2 : (lay t).2[k']? = some nd') (ne : k ≠ k') : Jvm.RoadKit.slotOf Z (lay t).1 nd.1 nd.2 ≠ Jvm.RoadKit.slotOf Z (lay t).1 nd'.1 nd'.2 := by
  obtain ⟨t1, p1⟩ := lay_parse t nd (List.mem_of_getElem? h1)
  obtain ⟨t2, p2⟩ := lay_parse t nd' (List.mem_of_getElem? h2)
  exact slot_ne (C := (lay t).1) (a0 := a0) ((lay_word t nd (List.mem_of_getElem? h1)).imp (hw _) (hw _)) ((lay_word t nd' (List.mem_of_getElem? h2)).imp (hw _) (hw _)) (lay_names t k k' nd nd' h1 h2 ne) p1 p2
theorem sim_put {h h' : Heap} {t i k : Nat} {nd : String × String} {vs : List Value} {v : Value} (hw : ∀ d ∈ tables_1, d.before G.2.2.1 G.2.1 = true) (S : Sim G H h) (e : obj t H i = some vs) (hk : (lay t).2[k]? = some nd) (W : Wr h h' (G.2.2.2 + i) (Jvm.RoadKit.slotOf G.2.1 (lay t).1 nd.1 nd.2) (sh G.2.2.2 v)) : Sim G (H.set i (.inr (t, vs.set k v))) h' := by
  refine ⟨by rw [W.size, S.1, List.length_set], fun i' q hq => ?_⟩
  have hlt := (List.getElem?_eq_some_iff.mp (obj_e e)).1
  by_cases hi : i = i'
  · subst hi
    rw [List.getElem?_set_self hlt] at hq
    cases hq
    obtain ⟨X, l, F⟩ := S.2 i _ (obj_e e)
    refine ⟨X.wr W, by rw [List.length_set]; exact l, fun k' nd' v' h1 h2 => ?_⟩
    have hkl : k < vs.length := by rw [l]; exact (List.getElem?_eq_some_iff.mp hk).1
    by_cases ek : k = k'
    · subst ek
      rw [List.getElem?_set_self hkl] at h2
      cases h2
      cases hk.symm.trans h1
      exact (F k nd _ hk (List.getElem?_eq_getElem hkl)).same W
    · rw [List.getElem?_set_ne ek] at h2
      exact (F k' nd' v' h1 h2).other W (Or.inr (lay_slot hw h1 hk (Ne.symm ek)))
  · rw [List.getElem?_set_ne hi] at hq
    have r := S.2 i' q hq
    have ne : G.2.2.2 + i' ≠ G.2.2.2 + i := by omega
    rcases q with ⟨ty, vs⟩ | ⟨t, vs⟩
    · obtain ⟨X, c, A, r⟩ := r; exact ⟨X.wr W, c, A.other W ne, r⟩
    · obtain ⟨X, l, F⟩ := r; exact ⟨X.wr W, l, fun k nd v h1 h2 => (F k nd v h1 h2).other W (Or.inl ne)⟩
/-! the steps that read the tables or the heap -/
theorem g_ldc {ix : Nat} {v : Int32} (O : Ok G K own bytes maxL ret R mn kc ks) (hd : decode bytes pc = .ok (.ldc ix, 2)) (w : Jvm.Cond.constant own ix v ∈ tables_1) (hp : pc + 2 = pc')
    (k : Run G K rv Hf pc' Ls (.int v :: st) H cells slots) : Run G K rv Hf pc Ls st H cells slots := by
  obtain ⟨l, Z, a0, n⟩ := G; obtain ⟨p, e, R', s, m, args, below, meth, c, kc', ks'⟩ := K
  obtain ⟨hx, hZ, hown, hby, hml, hret, hlk, rfl, hnm, rfl, rfl, hw⟩ := O
  subst hp
  intro T locs real X N S A L
  exact Done.step (fun t q => X.ldcI hx hown (mv hZ (hw _ w)) rfl (hb hby hd) q) (k T locs real X N S A L)
theorem g_ldc2 {ix : Nat} {v : Int64} (O : Ok G K own bytes maxL ret R mn kc ks) (hd : decode bytes pc = .ok (.ldc2_w ix, 3)) (w : Jvm.Cond.constantLong own ix v ∈ tables_1) (hp : pc + 3 = pc')
    (k : Run G K rv Hf pc' Ls (.long v :: st) H cells slots) : Run G K rv Hf pc Ls st H cells slots := by
  obtain ⟨l, Z, a0, n⟩ := G; obtain ⟨p, e, R', s, m, args, below, meth, c, kc', ks'⟩ := K
  obtain ⟨hx, hZ, hown, hby, hml, hret, hlk, rfl, hnm, rfl, rfl, hw⟩ := O
  subst hp
  intro T locs real X N S A L
  exact Done.step (fun t q => X.ldc2J hx hown (mv hZ (hw _ w)) rfl (hb hby hd) q) (k T locs real X N S A L)
theorem rd_e {ty : FieldType} {i : Nat} {j : Int32} {v : Value} (h : rd ty H i j = some v) : ∃ vs, arr ty H i = some vs ∧ ¬ j < 0 ∧ vs[j.toNatClampNeg]? = some v := by
  obtain ⟨vs, h1, h2⟩ := Option.bind_eq_some_iff.mp h
  split at h2
  · cases h2
  · exact ⟨vs, h1, by assumption, h2⟩
theorem inb_sl {c : Cell} {vs : List Value} {n : Nat} {j : Int32} {v : Value} (e : c.slots = (vs.map (sh n)).toArray) (h0 : ¬ j < 0) (h : vs[j.toNatClampNeg]? = some v) : ¬ (j < 0 ∨ c.slots.size ≤ j.toNatClampNeg) ∧ c.slots[j.toNatClampNeg]? = some (sh n v) := by
  have := (List.getElem?_eq_some_iff.mp h).1
  refine ⟨fun q => q.elim h0 (fun q => by rw [e] at q; simp at q; omega), by rw [e]; simp [h]⟩
theorem g_iaload {i : Nat} {j : Int32} {v : Int32} (O : Ok G K own bytes maxL ret R mn kc ks) (hd : decode bytes pc = .ok (.iaload, 1)) (hr : rdI .int H i j = some v) (hp : pc + 1 = pc')
    (k : Run G K rv Hf pc' Ls (.int v :: st) H cells slots) : Run G K rv Hf pc Ls (.int j :: .ref i :: st) H cells slots := by
  obtain ⟨l, Z, a0, n⟩ := G; obtain ⟨p, e, R', s, m, args, below, meth, c, kc', ks'⟩ := K
  obtain ⟨hx, hZ, hown, hby, hml, hret, hlk, rfl, hnm, rfl, rfl, hw⟩ := O
  subst hp
  intro T locs real X N S A L
  obtain ⟨vs, h1, h2, h3⟩ := rd_e (rdI_e hr)
  obtain ⟨cl, B, es⟩ := sim_arr S h1
  obtain ⟨q1, q2⟩ := inb_sl es h2 h3
  exact Done.step (fun t q => X.iaload hx B.1 (State.isArrayOf_alike hZ.alike B.2.1) B.2.2 q1 q2 (g := mkF m pc real ((.int j :: .ref i :: st).map (sh n))) rfl rfl (hb hby hd) t q) (k T locs real X N S A L)
theorem g_caload {i : Nat} {j : Int32} {v : Int32} (O : Ok G K own bytes maxL ret R mn kc ks) (hd : decode bytes pc = .ok (.caload, 1)) (hr : rdI .char H i j = some v) (hp : pc + 1 = pc')
    (k : Run G K rv Hf pc' Ls (.int v :: st) H cells slots) : Run G K rv Hf pc Ls (.int j :: .ref i :: st) H cells slots := by
  obtain ⟨l, Z, a0, n⟩ := G; obtain ⟨p, e, R', s, m, args, below, meth, c, kc', ks'⟩ := K
  obtain ⟨hx, hZ, hown, hby, hml, hret, hlk, rfl, hnm, rfl, rfl, hw⟩ := O
  subst hp
  intro T locs real X N S A L
  obtain ⟨vs, h1, h2, h3⟩ := rd_e (rdI_e hr)
  obtain ⟨cl, B, es⟩ := sim_arr S h1
  obtain ⟨q1, q2⟩ := inb_sl es h2 h3
  exact Done.step (fun t q => X.caload hx B.1 (State.isArrayOf_alike hZ.alike B.2.1) B.2.2 q1 q2 (g := mkF m pc real ((.int j :: .ref i :: st).map (sh n))) rfl rfl (hb hby hd) t q) (k T locs real X N S A L)
theorem g_baload {i : Nat} {j : Int32} {v : Int32} (O : Ok G K own bytes maxL ret R mn kc ks) (hd : decode bytes pc = .ok (.baload, 1)) (hr : rdI .byte H i j = some v) (hp : pc + 1 = pc')
    (k : Run G K rv Hf pc' Ls (.int v :: st) H cells slots) : Run G K rv Hf pc Ls (.int j :: .ref i :: st) H cells slots := by
  obtain ⟨l, Z, a0, n⟩ := G; obtain ⟨p, e, R', s, m, args, below, meth, c, kc', ks'⟩ := K
  obtain ⟨hx, hZ, hown, hby, hml, hret, hlk, rfl, hnm, rfl, rfl, hw⟩ := O
  subst hp
  intro T locs real X N S A L
  obtain ⟨vs, h1, h2, h3⟩ := rd_e (rdI_e hr)
  obtain ⟨cl, B, es⟩ := sim_arr S h1
  obtain ⟨q1, q2⟩ := inb_sl es h2 h3
  exact Done.step (fun t q => X.baloadBytes hx B.1 (State.isArrayOf_alike hZ.alike B.2.1) B.2.2 q1 q2 (g := mkF m pc real ((.int j :: .ref i :: st).map (sh n))) rfl rfl (hb hby hd) t q) (k T locs real X N S A L)
theorem g_laload {i : Nat} {j : Int32} {v : Int64} (O : Ok G K own bytes maxL ret R mn kc ks) (hd : decode bytes pc = .ok (.laload, 1)) (hr : rdJ H i j = some v) (hp : pc + 1 = pc')
    (k : Run G K rv Hf pc' Ls (.long v :: st) H cells slots) : Run G K rv Hf pc Ls (.int j :: .ref i :: st) H cells slots := by
  obtain ⟨l, Z, a0, n⟩ := G; obtain ⟨p, e, R', s, m, args, below, meth, c, kc', ks'⟩ := K
  obtain ⟨hx, hZ, hown, hby, hml, hret, hlk, rfl, hnm, rfl, rfl, hw⟩ := O
  subst hp
  intro T locs real X N S A L
  obtain ⟨vs, h1, h2, h3⟩ := rd_e (rdJ_e hr)
  obtain ⟨cl, B, es⟩ := sim_arr S h1
  obtain ⟨q1, q2⟩ := inb_sl es h2 h3
  exact Done.step (fun t q => X.laload hx B.1 (State.isArrayOf_alike hZ.alike B.2.1) B.2.2 q1 q2 (g := mkF m pc real ((.int j :: .ref i :: st).map (sh n))) rfl rfl (hb hby hd) t q) (k T locs real X N S A L)
theorem g_arraylength {i : Nat} {v : Int32} (O : Ok G K own bytes maxL ret R mn kc ks) (hd : decode bytes pc = .ok (.arraylength, 1)) (hr : alen H i = some v) (hp : pc + 1 = pc')
    (k : Run G K rv Hf pc' Ls (.int v :: st) H cells slots) : Run G K rv Hf pc Ls (.ref i :: st) H cells slots := by
  obtain ⟨l, Z, a0, n⟩ := G; obtain ⟨p, e, R', s, m, args, below, meth, c, kc', ks'⟩ := K
  obtain ⟨hx, hZ, hown, hby, hml, hret, hlk, rfl, hnm, rfl, rfl, hw⟩ := O
  subst hp
  intro T locs real X N S A L
  unfold alen at hr
  split at hr
  · rename_i ty vs hh
    cases hr
    obtain ⟨-, cl, B, es⟩ := S.2 i _ hh
    have q1 : cl.slots.size = vs.length := by rw [es]; simp
    exact Done.step (fun t q => X.arraylength hx B.1 (State.isArrayOf_alike hZ.alike B.2.1) (g := mkF m pc real ((.ref i :: st).map (sh n))) rfl rfl (hb hby hd) t (by rw [q1]; exact q)) (k T locs real X N S A L)
  · cases hr
theorem wr_e {ty : FieldType} {i : Nat} {j : Int32} {v : Value} {H' : List Obj} (h : wr ty H i j v = some H') : ∃ vs, arr ty H i = some vs ∧ ¬ (j < 0 ∨ vs.length ≤ j.toNatClampNeg) ∧ H' = H.set i (.inl (ty, vs.set j.toNatClampNeg v)) := by
  obtain ⟨vs, h1, h2⟩ := Option.bind_eq_some_iff.mp h
  split at h2
  · cases h2
  · cases h2; exact ⟨vs, h1, by assumption, rfl⟩
theorem wr_len {ty : FieldType} {i : Nat} {j : Int32} {v : Value} {H' : List Obj} (h : wr ty H i j v = some H') : H'.length = H.length := by
  obtain ⟨vs, -, -, rfl⟩ := wr_e h; simp
theorem sl_len {c : Cell} {vs : List Value} {n : Nat} (e : c.slots = (vs.map (sh n)).toArray) : c.slots.size = vs.length := by rw [e]; simp
theorem g_iastore {i : Nat} {j x : Int32} {H' : List Obj} (O : Ok G K own bytes maxL ret R mn kc ks) (hd : decode bytes pc = .ok (.iastore, 1)) (hr : wr .int H i j (.int x) = some H') (hp : pc + 1 = pc')
    (k : Run G K rv Hf pc' Ls st H' cells slots) : Run G K rv Hf pc Ls (.int x :: .int j :: .ref i :: st) H cells slots := by
  obtain ⟨l, Z, a0, n⟩ := G; obtain ⟨p, e, R', s, m, args, below, meth, c, kc', ks'⟩ := K
  obtain ⟨hx, hZ, hown, hby, hml, hret, hlk, rfl, hnm, rfl, rfl, hw⟩ := O
  subst hp
  intro T locs real X N S A L
  obtain ⟨vs, h1, h2, rfl⟩ := wr_e hr
  obtain ⟨cl, B, es⟩ := sim_arr S h1
  obtain ⟨T', h', X', e', W, stp⟩ := stI X hx hZ rfl B (j := j) (x := x) (by rw [sl_len es]; exact h2) (g := mkF m pc real ((.int x :: .int j :: .ref i :: st).map (sh n))) rfl rfl (hb hby hd)
  exact Done.step stp (k T' _ real X' (Fr.snoc X' N (Nat.le_add_right _ _)) (by rw [e']; exact sim_wr (v := .int x) S h1 W) (by simpa using A) L)
theorem g_lastore {i : Nat} {j : Int32} {x : Int64} {H' : List Obj} (O : Ok G K own bytes maxL ret R mn kc ks) (hd : decode bytes pc = .ok (.lastore, 1)) (hr : wr .long H i j (.long x) = some H') (hp : pc + 1 = pc')
    (k : Run G K rv Hf pc' Ls st H' cells slots) : Run G K rv Hf pc Ls (.long x :: .int j :: .ref i :: st) H cells slots := by
  obtain ⟨l, Z, a0, n⟩ := G; obtain ⟨p, e, R', s, m, args, below, meth, c, kc', ks'⟩ := K
  obtain ⟨hx, hZ, hown, hby, hml, hret, hlk, rfl, hnm, rfl, rfl, hw⟩ := O
  subst hp
  intro T locs real X N S A L
  obtain ⟨vs, h1, h2, rfl⟩ := wr_e hr
  obtain ⟨cl, B, es⟩ := sim_arr S h1
  obtain ⟨T', h', X', e', W, stp⟩ := stJ X hx hZ rfl B (j := j) (x := x) (by rw [sl_len es]; exact h2) (g := mkF m pc real ((.long x :: .int j :: .ref i :: st).map (sh n))) rfl rfl (hb hby hd)
  exact Done.step stp (k T' _ real X' (Fr.snoc X' N (Nat.le_add_right _ _)) (by rw [e']; exact sim_wr (v := .long x) S h1 W) (by simpa using A) L)
theorem g_bastore {i : Nat} {j x : Int32} {H' : List Obj} (O : Ok G K own bytes maxL ret R mn kc ks) (hd : decode bytes pc = .ok (.bastore, 1)) (hr : wr .byte H i j (.int (nar .byte x)) = some H') (hp : pc + 1 = pc')
    (k : Run G K rv Hf pc' Ls st H' cells slots) : Run G K rv Hf pc Ls (.int x :: .int j :: .ref i :: st) H cells slots := by
  obtain ⟨l, Z, a0, n⟩ := G; obtain ⟨p, e, R', s, m, args, below, meth, c, kc', ks'⟩ := K
  obtain ⟨hx, hZ, hown, hby, hml, hret, hlk, rfl, hnm, rfl, rfl, hw⟩ := O
  subst hp
  intro T locs real X N S A L
  obtain ⟨vs, h1, h2, rfl⟩ := wr_e hr
  obtain ⟨cl, B, es⟩ := sim_arr S h1
  obtain ⟨T', h', X', e', W, stp⟩ := stB X hx hZ rfl B (j := j) (x := x) (by rw [sl_len es]; exact h2) (g := mkF m pc real ((.int x :: .int j :: .ref i :: st).map (sh n))) rfl rfl (hb hby hd)
  exact Done.step stp (k T' _ real X' (Fr.snoc X' N (Nat.le_add_right _ _)) (by rw [e']; exact sim_wr (v := .int (nar .byte x)) S h1 W) (by simpa using A) L)
theorem g_castore {i : Nat} {j x : Int32} {H' : List Obj} (O : Ok G K own bytes maxL ret R mn kc ks) (hd : decode bytes pc = .ok (.castore, 1)) (hr : wr .char H i j (.int (nar .char x)) = some H') (hp : pc + 1 = pc')
    (k : Run G K rv Hf pc' Ls st H' cells slots) : Run G K rv Hf pc Ls (.int x :: .int j :: .ref i :: st) H cells slots := by
  obtain ⟨l, Z, a0, n⟩ := G; obtain ⟨p, e, R', s, m, args, below, meth, c, kc', ks'⟩ := K
  obtain ⟨hx, hZ, hown, hby, hml, hret, hlk, rfl, hnm, rfl, rfl, hw⟩ := O
  subst hp
  intro T locs real X N S A L
  obtain ⟨vs, h1, h2, rfl⟩ := wr_e hr
  obtain ⟨cl, B, es⟩ := sim_arr S h1
  obtain ⟨T', h', X', e', W, stp⟩ := stC X hx hZ rfl B (j := j) (x := x) (by rw [sl_len es]; exact h2) (g := mkF m pc real ((.int x :: .int j :: .ref i :: st).map (sh n))) rfl rfl (hb hby hd)
  exact Done.step stp (k T' _ real X' (Fr.snoc X' N (Nat.le_add_right _ _)) (by rw [e']; exact sim_wr (v := .int (nar .char x)) S h1 W) (by simpa using A) L)
theorem g_newarray {aty : ArrayType} {cap : Nat} {j : Int32} {H' : List Obj} (O : Ok G K own bytes maxL ret R mn kc ks) (hd : decode bytes pc = .ok (.newarray aty, 2)) (w : Jvm.Cond.arrayClass (newarray.typeOf aty) ∈ tables_1)
    (hr : mkArr (newarray.typeOf aty) cap H j = some H') (hb8 : cap * 8 ≤ 536870912) {c2 s2 : Nat} (hc2 : cells + 1 = c2) (hs2 : slots + cap = s2) (hc : c2 ≤ R.cells) (hs : s2 ≤ R.slots) (hp : pc + 2 = pc')
    (k : Run G K rv Hf pc' Ls (.ref H.length :: st) H' c2 s2) : Run G K rv Hf pc Ls (.int j :: st) H cells slots := by
  obtain ⟨l, Z, a0, n⟩ := G; obtain ⟨p, e, R', s, m, args, below, meth, c, kc', ks'⟩ := K
  obtain ⟨hx, hZ, hown, hby, hml, hret, hlk, rfl, hnm, rfl, rfl, hw⟩ := O
  subst hp hc2 hs2
  intro T locs real X N S A L
  unfold mkArr at hr
  split at hr
  · cases hr
  rename_i hj
  cases hr
  have hj0 : ¬ j < 0 := fun q => hj (Or.inl q)
  obtain ⟨T', h', cA, X', e', E, B, EX, stp⟩ := newPE X hx hZ (hw _ w) rfl (g := mkF m pc real ((.int j :: st).map (sh n))) rfl (hb hby hd) rfl hj0 (cap := cap) (Nat.le_of_not_lt fun q => hj (Or.inr q)) hb8 hc hs rfl
  have hsz : h'.size = T.heap.size + 1 := by
    have a1 : Array.size T.heap < Array.size h' := B.lt
    have a2 : Array.size T'.heap ≤ Array.size s.heap + (cells + 1) := X'.heapSize
    rw [e'] at a2
    have a3 : Array.size T.heap = n + H.length := S.1
    have a4 : Array.size s.heap + cells = n + H.length := A
    omega
  have ea : T.heap.size = n + H.length := S.1
  have S' : Sim (l, Z, a0, n) (H ++ [.inl (newarray.typeOf aty, List.replicate j.toNatClampNeg (defaultValue (newarray.typeOf aty)))]) T'.heap := by
    rw [e']
    refine sim_ext S E hsz ⟨EX, _, B, ?_⟩
    have : sh n (defaultValue (newarray.typeOf aty)) = defaultValue (newarray.typeOf aty) := by cases aty <;> rfl
    simp [newA, this]
  refine Done.step stp ?_
  have k' := k T' locs real X' N S' (by simp only [List.length_append, List.length_singleton] at A ⊢; omega) L
  rw [ea]
  exact k'
theorem g_new {ix t nn : Nat} {H' : List Obj} (O : Ok G K own bytes maxL ret R mn kc ks) (hd : decode bytes pc = .ok (.new ix, 3)) (w1 : Jvm.Cond.classLink own ix (lay t).1 ∈ tables_1) (w2 : Jvm.Cond.instantiable (lay t).1 nn ∈ tables_1) (w3 : Jvm.Cond.initialized (lay t).1 ∈ tables_1)
    {vs : List Value} (hvs : (lay t).2.map (fun nd => (parseFieldDescriptor nd.2).map defaultValue) = vs.map some) (hH : H' = H ++ [.inr (t, vs)]) {c2 s2 : Nat} (hc2 : cells + 1 = c2) (hs2 : slots + nn = s2) (hc : c2 ≤ R.cells) (hs : s2 ≤ R.slots) (hp : pc + 3 = pc')
    (k : Run G K rv Hf pc' Ls (.ref H.length :: st) H' c2 s2) : Run G K rv Hf pc Ls st H cells slots := by
  obtain ⟨l, Z, a0, n⟩ := G; obtain ⟨p, e, R', s, m, args, below, meth, c, kc', ks'⟩ := K
  obtain ⟨hx, hZ, hown, hby, hml, hret, hlk, rfl, hnm, rfl, rfl, hw⟩ := O
  subst hp hH hc2 hs2
  intro T locs real X N S A L
  obtain ⟨T', h', X', e', E, B, D, -, stp⟩ := newO X hx hZ hown (hw _ w1) (hw _ w2) (hw _ w3) rfl (g := mkF m pc real (st.map (sh n))) rfl (hb hby hd) hc hs
  have hsz : h'.size = T.heap.size + 1 := by
    have a1 : Array.size T.heap < Array.size h' := B.lt
    have a2 : Array.size T'.heap ≤ Array.size s.heap + (cells + 1) := X'.heapSize
    rw [e'] at a2
    have a3 : Array.size T.heap = n + H.length := S.1
    have a4 : Array.size s.heap + cells = n + H.length := A
    omega
  have ea : T.heap.size = n + H.length := S.1
  have S' : Sim (l, Z, a0, n) (H ++ [.inr (t, vs)]) T'.heap := by
    rw [e']
    refine sim_ext S E hsz ⟨B, by have := congrArg List.length hvs; simpa using this.symm, fun k nd v h1 h2 => ?_⟩
    have q : ((lay t).2.map (fun nd => (parseFieldDescriptor nd.2).map defaultValue))[k]? = some (some v) := by rw [hvs]; simp [h2]
    rw [List.getElem?_map, h1] at q
    simp only [Option.map_some, Option.some.injEq, Option.map_eq_some_iff] at q
    obtain ⟨ty, q1, q2⟩ := q
    have q3 : sh n v = defaultValue ty := by rw [← q2]; cases ty <;> rfl
    rw [q3]
    exact D ((lay_word t nd (List.mem_of_getElem? h1)).imp (hw _) (hw _)) q1
  refine Done.step stp ?_
  have k' := k T' locs real X' N S' (by simp only [List.length_append, List.length_singleton] at A ⊢; omega) L
  rw [ea]
  exact k'
theorem g_getfield {ix t kf i : Nat} {nd : String × String} {v : Value} (O : Ok G K own bytes maxL ret R mn kc ks) (hd : decode bytes pc = .ok (.getfield ix, 3)) (hk : (lay t).2[kf]? = some nd) (w : Jvm.Cond.fieldLink own ix (lay t).1 nd.1 nd.2 ∈ tables_1)
    (hr : fld t kf H i = some v) (hp : pc + 3 = pc') (k : Run G K rv Hf pc' Ls (v :: st) H cells slots) : Run G K rv Hf pc Ls (.ref i :: st) H cells slots := by
  obtain ⟨l, Z, a0, n⟩ := G; obtain ⟨p, e, R', s, m, args, below, meth, c, kc', ks'⟩ := K
  obtain ⟨hx, hZ, hown, hby, hml, hret, hlk, rfl, hnm, rfl, rfl, hw⟩ := O
  subst hp
  intro T locs real X N S A L
  obtain ⟨vs, h1, h2⟩ := Option.bind_eq_some_iff.mp hr
  obtain ⟨B, l1, F⟩ := sim_obj S h1
  obtain ⟨T', X', e', stp⟩ := getF X hx hZ hown (host := "") (Or.inl (hw _ w)) Via.refl rfl (F kf nd v hk h2) (g := mkF m pc real ((.ref i :: st).map (sh n))) rfl rfl (hb hby hd)
  exact Done.step stp (k T' locs real X' N (by rw [e']; exact S) A L)
theorem g_putfield {ix t kf i nn : Nat} {nd : String × String} {v : Value} {ty : FieldType} {H' : List Obj} (O : Ok G K own bytes maxL ret R mn kc ks) (hd : decode bytes pc = .ok (.putfield ix, 3)) (hk : (lay t).2[kf]? = some nd) (w : Jvm.Cond.fieldLink own ix (lay t).1 nd.1 nd.2 ∈ tables_1)
    (w2 : Jvm.Cond.lays (lay t).1 (lay t).1 nd.1 nd.2 ∈ tables_1 ∨ (Jvm.Cond.laysFinal (lay t).1 (lay t).1 nd.1 nd.2 ∈ tables_1 ∧ own = (lay t).1 ∧ mn = "<init>")) (w3 : Jvm.Cond.instantiable (lay t).1 nn ∈ tables_1) (hty : parseFieldDescriptor nd.2 = some ty) (hn : ∀ n, narrow ty (sh n v) = sh n v) (hf : ∀ n, fits ty (sh n v) = true)
    (hr : setF t kf H i v = some H') (hp : pc + 3 = pc') (k : Run G K rv Hf pc' Ls st H' cells slots) : Run G K rv Hf pc Ls (v :: .ref i :: st) H cells slots := by
  obtain ⟨l, Z, a0, n⟩ := G; obtain ⟨p, e, R', s, m, args, below, meth, c, kc', ks'⟩ := K
  obtain ⟨hx, hZ, hown, hby, hml, hret, hlk, rfl, hnm, rfl, rfl, hw⟩ := O
  subst hp
  intro T locs real X N S A L
  obtain ⟨vs, h1, h2⟩ := Option.bind_eq_some_iff.mp hr
  have hkv : kf < vs.length := Decidable.byContradiction fun hkv => by rw [if_neg hkv] at h2; cases h2
  rw [if_pos hkv] at h2
  cases h2
  obtain ⟨B, l1, F⟩ := sim_obj S h1
  obtain ⟨T', h', X', e', W, stp⟩ := putF X hx hZ hown (host := "") (Or.inl (hw _ w)) Via.refl rfl (F kf nd _ hk (List.getElem?_eq_getElem hkv)) B (w2.imp (hw _) fun q => ⟨hw _ q.1, q.2.1, hnm.trans q.2.2⟩) (hw _ w3) hty (hn n) (hf n) (g := mkF m pc real ((v :: .ref i :: st).map (sh n))) rfl rfl (hb hby hd)
  exact Done.step stp (k T' _ real X' (Fr.snoc X' N (Nat.le_add_right _ _)) (by rw [e']; exact sim_put hw S h1 hk W) (by simpa using A) L)
theorem g_objinit {ix i W : Nat} (O : Ok G K own bytes maxL ret R mn kc ks) (hd : decode bytes pc = .ok (.invokespecial ix, 3)) (w1 : Jvm.Cond.methodLink own ix Lib.objectInit ∈ tables_1) (w2 : Jvm.Cond.instanceMethod Lib.objectInit ∈ tables_1) (w3 : Jvm.Cond.code Lib.objectInit ⟨#[0xb1]⟩ 1 none ∈ tables_1)
    (hLs : Ls.length = maxL) (hW : (st.map fun v => v.category).sum = W) (hf : 1 ≤ R.frames) (hl : W + 12 ≤ R.locals) (hp : pc + 3 = pc') (k : Run G K rv Hf pc' Ls st H cells slots) : Run G K rv Hf pc Ls (.ref i :: st) H cells slots := by
  obtain ⟨l, Z, a0, n⟩ := G; obtain ⟨p, e, R', s, m, args, below, meth, c, kc', ks'⟩ := K
  obtain ⟨hx, hZ, hown, hby, hml, hret, hlk, rfl, hnm, rfl, rfl, hw⟩ := O
  subst hp
  intro T locs real X N S A L
  obtain ⟨T', X', e', stp⟩ := initO X hx hZ hown (hw _ w1) (hw _ w2) (hw _ w3) rfl (g := mkF m pc real ((.ref i :: st).map (sh n))) rfl (by show real.size = _; rw [L.1, hml]; exact hLs) rfl (hb hby hd) hf (W := W) (by show 2 * 0 + ((st.map (sh n)).map _).sum ≤ _; rw [List.map_map, ← hW]; simp [Function.comp_def, sh_cat]) hl
  exact Done.step stp (k T' locs real X' N (by rw [e']; exact S) A L)
def Fg : List (Option Value) → List (Option Value) → Prop
  | [], [] => True
  | _ :: a, none :: b => Fg a b
  | x :: a, some v :: b => x = some v ∧ Fg a b
  | [], _ :: _ => False
  | _ :: _, [] => False
theorem Fg.spec : ∀ {A B : List (Option Value)}, Fg A B → A.length = B.length ∧ ∀ (k : Nat) (v : Value), B[k]? = some (some v) → A[k]? = some (some v)
  | [], [], _ => ⟨rfl, fun k v h => h⟩
  | x :: a, none :: b, h => by
    obtain ⟨h1, h2⟩ := Fg.spec (A := a) (B := b) h
    refine ⟨by simp [h1], fun k v hk => ?_⟩
    cases k with
    | zero => simp at hk
    | succ k => simpa using h2 k v (by simpa using hk)
  | x :: a, some w :: b, h => by
    have h' : x = some w ∧ Fg a b := h
    obtain ⟨h1, h2⟩ := Fg.spec (A := a) (B := b) h'.2
    refine ⟨by simp [h1], fun k v hk => ?_⟩
    cases k with
    | zero => simp at hk; simp [h'.1, hk]
    | succ k => simpa using h2 k v (by simpa using hk)
theorem g_forget (h : Fg Ls Ls') (k : Run G K rv Hf pc Ls' st H cells slots) : Run G K rv Hf pc Ls st H cells slots := by
  obtain ⟨l, Z, a0, n⟩ := G; obtain ⟨p, e, R', s, m, args, below, meth, c, kc', ks'⟩ := K
  obtain ⟨h1, h2⟩ := h.spec
  intro T locs real X N S A L
  exact k T locs real X N S A ⟨L.1.trans h1, L.2.1, fun j v hj => L.2.2 j v (h2 j v hj)⟩
/-! calls and returns -/
theorem cat_sum (n : Nat) (st : List Value) : ((st.map (sh n)).map fun v => v.category).sum = (st.map fun v => v.category).sum := by rw [List.map_map]; simp [Function.comp_def, sh_cat]
theorem g_static {ix : Nat} {y : MethodName} {bytes' : ByteArray} {maxL' : Nat} {ret' : Option FieldType} {rm : Room} {as : List Value} {H' : List Obj} {v : Option Value} {ps : List FieldType} {W : Nat} {stk : List Value} (O : Ok G K own bytes maxL ret R mn kc ks) (hd : decode bytes pc = .ok (.invokestatic ix, 3))
    (w1 : Jvm.Cond.methodLink own ix y ∈ tables_1) (w2 : Jvm.Cond.static y ∈ tables_1) (w3 : Jvm.Cond.initialized y.cls ∈ tables_1) (w4 : Jvm.Cond.code y bytes' maxL' ret' ∈ tables_1) (hy : y.cls ≠ "java/lang/invoke/MethodHandle" ∧ y.cls ≠ "java/lang/invoke/VarHandle")
    (pd : parseMethodDescriptor y.desc = some ⟨ps, ret'⟩) (hl : as.length = ps.length) (hstk : stk = as.reverse ++ st) (hLs : Ls.length = maxL) (hW : (st.map fun v => v.category).sum = W) (hf : rm.frames + 1 ≤ R.frames) (hlo : W + (maxL' + 11) + rm.locals ≤ R.locals) {c2 s2 : Nat} (hc2 : cells + rm.cells = c2) (hs2 : slots + rm.slots = s2) (hc : c2 ≤ R.cells) (hs : s2 ≤ R.slots)
    (con : Con G y bytes' maxL' ret' rm as H v H') (hp : pc + 3 = pc') (k : Run G K rv Hf pc' Ls (v.toList ++ st) H' c2 s2) : Run G K rv Hf pc Ls stk H cells slots := by
  obtain ⟨l, Z, a0, n⟩ := G; obtain ⟨p, e, R', s, m, args, below, meth, c, kc', ks'⟩ := K
  obtain ⟨hx, hZ, hown, hby, hml, hret, hlk, rfl, hnm, rfl, rfl, hw⟩ := O
  subst hp hstk hc2 hs2
  intro T locs real X N S A L
  obtain ⟨v', _, ⟨T', L', k', n'⟩, -, X', ⟨Lc, ⟨hv, N', S', hlen⟩, l1, y1, z1⟩, stp⟩ := Jvm.LawKit.callS X hx (y := y) hown (mvT hZ (hw _ w1)) (mvT hZ (hw _ w2)) (mvT hZ (hw _ w3)) (mvT hZ (hw _ w4)) hy (backOf (W := W) (Q := fun u hh LL => u = Option.map (sh n) v ∧ Fr n LL ∧ Sim (l, Z, a0, n) H' hh ∧ H'.length = H.length + rm.cells) (con T.heap S) hZ (hw _ w4) (hw _ w3) hf hlo) (g := mkF m pc real ((as.reverse ++ st).map (sh n))) rfl (by show real.size = _; rw [L.1, hml]; exact hLs)
    (argsL := as.map (sh n)) (rest := st.map (sh n)) (lenOf pd (by simpa using hl)) (by simp) (by show 2 * 0 + _ ≤ _; rw [cat_sum, hW]; exact Nat.le_of_eq (Nat.zero_add _)) (hb hby hd) (fun _ _ => ⟨rfl, rfl, hc, hs⟩)
  dsimp only [Pt.U, Pt.locs, Pt.cells, Pt.slots] at X' l1 y1 z1 stp S' N'
  subst l1 y1 z1 hv
  have k2 := k T' _ real X' (Fr.app N N') S' (by omega) L
  refine Done.step stp ?_
  cases v <;> exact k2
theorem g_special {ix i : Nat} {y : MethodName} {bytes' : ByteArray} {maxL' : Nat} {rm : Room} {as : List Value} {H' : List Obj} {ps : List FieldType} {W : Nat} {stk : List Value} (O : Ok G K own bytes maxL ret R mn kc ks) (hd : decode bytes pc = .ok (.invokespecial ix, 3)) (hy1 : y.name = "<init>")
    (w1 : Jvm.Cond.methodLink own ix y ∈ tables_1) (w2 : Jvm.Cond.instanceMethod y ∈ tables_1) (w3 : Jvm.Cond.initialized y.cls ∈ tables_1) (w4 : Jvm.Cond.code y bytes' maxL' none ∈ tables_1) (hy : y.cls ≠ "java/lang/invoke/MethodHandle" ∧ y.cls ≠ "java/lang/invoke/VarHandle")
    (pd : parseMethodDescriptor y.desc = some ⟨ps, none⟩) (hl : as.length = ps.length) (hstk : stk = as.reverse ++ .ref i :: st) (hLs : Ls.length = maxL) (hW : (st.map fun v => v.category).sum = W) (hf : rm.frames + 1 ≤ R.frames) (hlo : W + (maxL' + 11) + rm.locals ≤ R.locals) {c2 s2 : Nat} (hc2 : cells + rm.cells = c2) (hs2 : slots + rm.slots = s2) (hc : c2 ≤ R.cells) (hs : s2 ≤ R.slots)
    (con : Con G y bytes' maxL' none rm (.ref i :: as) H none H') (hp : pc + 3 = pc') (k : Run G K rv Hf pc' Ls st H' c2 s2) : Run G K rv Hf pc Ls stk H cells slots := by
  obtain ⟨l, Z, a0, n⟩ := G; obtain ⟨p, e, R', s, m, args, below, meth, c, kc', ks'⟩ := K
  obtain ⟨hx, hZ, hown, hby, hml, hret, hlk, rfl, hnm, rfl, rfl, hw⟩ := O
  subst hp hstk hc2 hs2
  intro T locs real X N S A L
  obtain ⟨v', _, ⟨T', L', k', n'⟩, -, X', ⟨Lc, ⟨hv, N', S', hlen⟩, l1, y1, z1⟩, stp⟩ := X.specialBack hx (y := y) hy1 hown (mvT hZ (hw _ w1)) (mvT hZ (hw _ w2)) (mvT hZ (hw _ w4)) hy (backOf (W := W) (Q := fun u hh LL => u = Option.map (sh n) none ∧ Fr n LL ∧ Sim (l, Z, a0, n) H' hh ∧ H'.length = H.length + rm.cells) (con T.heap S) hZ (hw _ w4) (hw _ w3) hf hlo) (g := mkF m pc real ((as.reverse ++ .ref i :: st).map (sh n))) rfl (by show real.size = _; rw [L.1, hml]; exact hLs) (Steps.refl _)
    (a := n + i) (argsL := as.map (sh n)) (rest := st.map (sh n)) (lenOf pd (by simpa using hl)) (by simp [sh]) (by show 2 * 0 + _ ≤ _; rw [cat_sum, hW]; exact Nat.le_of_eq (Nat.zero_add _)) (hb hby hd) (fun _ _ => ⟨rfl, rfl, hc, hs⟩)
  dsimp only [Pt.U, Pt.locs, Pt.cells, Pt.slots] at X' l1 y1 z1 stp S' N'
  subst l1 y1 z1 hv
  exact Done.step (fun t q => stp.trans q) (k T' _ real X' (Fr.app N N') S' (by omega) L)
theorem g_virtual {ix i t : Nat} {y : MethodName} {bytes' : ByteArray} {maxL' : Nat} {ret' : Option FieldType} {rm : Room} {as vs : List Value} {H' : List Obj} {v : Option Value} {ps : List FieldType} {W : Nat} {stk : List Value} (O : Ok G K own bytes maxL ret R mn kc ks) (hd : decode bytes pc = .ok (.invokevirtual ix, 3))
    (w1 : Jvm.Cond.methodLink own ix y ∈ tables_1) (w2 : Jvm.Cond.declares y ∈ tables_1) (w5 : Jvm.Cond.selects (lay t).1 y y ∈ tables_1) (w6 : Jvm.Cond.instanceMethod y ∈ tables_1) (w3 : Jvm.Cond.initialized y.cls ∈ tables_1) (w4 : Jvm.Cond.code y bytes' maxL' ret' ∈ tables_1) (hy : y.cls ≠ "java/lang/invoke/MethodHandle" ∧ y.cls ≠ "java/lang/invoke/VarHandle")
    (ho : obj t H i = some vs) (pd : parseMethodDescriptor y.desc = some ⟨ps, ret'⟩) (hl : as.length = ps.length) (hstk : stk = as.reverse ++ .ref i :: st) (hLs : Ls.length = maxL) (hW : (st.map fun v => v.category).sum = W) (hf : rm.frames + 1 ≤ R.frames) (hlo : W + (maxL' + 11) + rm.locals ≤ R.locals) {c2 s2 : Nat} (hc2 : cells + rm.cells = c2) (hs2 : slots + rm.slots = s2) (hc : c2 ≤ R.cells) (hs : s2 ≤ R.slots)
    (con : Con G y bytes' maxL' ret' rm (.ref i :: as) H v H') (hp : pc + 3 = pc') (k : Run G K rv Hf pc' Ls (v.toList ++ st) H' c2 s2) : Run G K rv Hf pc Ls stk H cells slots := by
  obtain ⟨l, Z, a0, n⟩ := G; obtain ⟨p, e, R', s, m, args, below, meth, c, kc', ks'⟩ := K
  obtain ⟨hx, hZ, hown, hby, hml, hret, hlk, rfl, hnm, rfl, rfl, hw⟩ := O
  subst hp hstk hc2 hs2
  intro T locs real X N S A L
  obtain ⟨cq, kq, qa, qb, qc⟩ := isOf hZ (T := T) rfl (sim_obj S ho).1
  obtain ⟨v', _, ⟨T', L', k', n'⟩, -, X', ⟨Lc, ⟨hv, N', S', hlen⟩, l1, y1, z1⟩, stp⟩ := X.virtualBack hx (y := y) (z := y) hown (mvT hZ (hw _ w1)) (mvT hZ (hw _ w2)) (notFace_of_selects (args := #[]) (mvT hZ (hw _ w5))) (mvT hZ (hw _ w5)) (mvT hZ (hw _ w6)) hy (backOf (W := W) (Q := fun u hh LL => u = Option.map (sh n) v ∧ Fr n LL ∧ Sim (l, Z, a0, n) H' hh ∧ H'.length = H.length + rm.cells) (con T.heap S) hZ (hw _ w4) (hw _ w3) hf hlo) qa qc (g := mkF m pc real ((as.reverse ++ .ref i :: st).map (sh n))) rfl (by show real.size = _; rw [L.1, hml]; exact hLs) (Steps.refl _)
    (argsL := as.map (sh n)) (rest := st.map (sh n)) (lenOf pd (by simpa using hl)) (by simp [sh]) (by show 2 * 0 + _ ≤ _; rw [cat_sum, hW]; exact Nat.le_of_eq (Nat.zero_add _)) (hb hby hd) (fun _ _ => ⟨rfl, rfl, hc, hs⟩)
  dsimp only [Pt.U, Pt.locs, Pt.cells, Pt.slots] at X' l1 y1 z1 stp S' N'
  subst l1 y1 z1 hv
  have k2 := k T' _ real X' (Fr.app N N') S' (by omega) L
  refine Done.step (fun t q => stp.trans q) ?_
  cases v <;> exact k2
theorem g_ret_void (O : Ok G K own bytes maxL none R mn kc ks) (hd : decode bytes pc = .ok (.return_, 1)) (hc : cells = kc) (hs : slots ≤ ks) : Run G K none H pc Ls [] H cells slots := by
  obtain ⟨l, Z, a0, n⟩ := G; obtain ⟨p, e, R', s, m, args, below, meth, c, kc', ks'⟩ := K
  obtain ⟨hx, hZ, hown, hby, hml, hret, hlk, rfl, hnm, rfl, rfl, hw⟩ := O
  intro T locs real X N S A L
  subst hc
  obtain ⟨fs, hr, hrun, hended, hW, hsame⟩ := X.leave (v := none) (fun _ => rfl) hlk
  exact ⟨_, _, X.returnOut hx hret (hb hby hd) hr, hrun, hended, _, _, rfl, ⟨rfl, N, S, A⟩, ⟨_, rfl⟩, hW, hsame.mono (Nat.le_refl _) hs⟩
theorem g_ret_int {x : Int32} (O : Ok G K own bytes maxL (some .int) R mn kc ks) (hd : decode bytes pc = .ok (.ireturn, 1)) (hc : cells = kc) (hs : slots ≤ ks) : Run G K (some (.int x)) H pc Ls (.int x :: st) H cells slots := by
  obtain ⟨l, Z, a0, n⟩ := G; obtain ⟨p, e, R', s, m, args, below, meth, c, kc', ks'⟩ := K
  obtain ⟨hx, hZ, hown, hby, hml, hret, hlk, rfl, hnm, rfl, rfl, hw⟩ := O
  intro T locs real X N S A L
  subst hc
  obtain ⟨fs, hr, hrun, hended, hW, hsame⟩ := X.leave (v := some (.int x)) (fun h => by rw [hret] at h; cases h) hlk
  exact ⟨_, _, retOut X hx hret rfl (Or.inl ⟨rfl, Or.inl rfl, x, rfl⟩) (hb hby hd) hr, hrun, hended, _, _, rfl, ⟨rfl, N, S, A⟩, ⟨_, rfl⟩, hW, hsame.mono (Nat.le_refl _) hs⟩
theorem g_ret_nar {t : FieldType} {x y : Int32} (O : Ok G K own bytes maxL (some t) R mn kc ks) (hd : decode bytes pc = .ok (.ireturn, 1)) (ht : t = .boolean ∨ t = .byte ∨ t = .char ∨ t = .short) (hy : nar t x = y) (hc : cells = kc) (hs : slots ≤ ks) : Run G K (some (.int y)) H pc Ls (.int x :: st) H cells slots := by
  obtain ⟨l, Z, a0, n⟩ := G; obtain ⟨p, e, R', s, m, args, below, meth, c, kc', ks'⟩ := K
  obtain ⟨hx, hZ, hown, hby, hml, hret, hlk, rfl, hnm, rfl, rfl, hw⟩ := O
  intro T locs real X N S A L
  subst hc hy
  obtain ⟨fs, hr, hrun, hended, hW, hsame⟩ := X.leave (v := some (.int (nar t x))) (fun h => by rw [hret] at h; cases h) hlk
  exact ⟨_, _, retN X hx hret ht (hb hby hd) hr, hrun, hended, _, _, rfl, ⟨rfl, N, S, A⟩, ⟨_, rfl⟩, hW, hsame.mono (Nat.le_refl _) hs⟩
theorem g_ret_long {x : Int64} (O : Ok G K own bytes maxL (some .long) R mn kc ks) (hd : decode bytes pc = .ok (.lreturn, 1)) (hc : cells = kc) (hs : slots ≤ ks) : Run G K (some (.long x)) H pc Ls (.long x :: st) H cells slots := by
  obtain ⟨l, Z, a0, n⟩ := G; obtain ⟨p, e, R', s, m, args, below, meth, c, kc', ks'⟩ := K
  obtain ⟨hx, hZ, hown, hby, hml, hret, hlk, rfl, hnm, rfl, rfl, hw⟩ := O
  intro T locs real X N S A L
  subst hc
  obtain ⟨fs, hr, hrun, hended, hW, hsame⟩ := X.leave (v := some (.long x)) (fun h => by rw [hret] at h; cases h) hlk
  exact ⟨_, _, retOut X hx hret rfl (Or.inr (Or.inl ⟨rfl, rfl, x, rfl⟩)) (hb hby hd) hr, hrun, hended, _, _, rfl, ⟨rfl, N, S, A⟩, ⟨_, rfl⟩, hW, hsame.mono (Nat.le_refl _) hs⟩
theorem g_ret_ref {t : FieldType} {i : Nat} (O : Ok G K own bytes maxL (some t) R mn kc ks) (hd : decode bytes pc = .ok (.areturn, 1)) (ht : t.isReference = true) (hn : ∀ a, narrow t (.ref a) = .ref a) (hc : cells = kc) (hs : slots ≤ ks) : Run G K (some (.ref i)) H pc Ls (.ref i :: st) H cells slots := by
  obtain ⟨l, Z, a0, n⟩ := G; obtain ⟨p, e, R', s, m, args, below, meth, c, kc', ks'⟩ := K
  obtain ⟨hx, hZ, hown, hby, hml, hret, hlk, rfl, hnm, rfl, rfl, hw⟩ := O
  intro T locs real X N S A L
  subst hc
  obtain ⟨fs, hr, hrun, hended, hW, hsame⟩ := X.leave (v := some (.ref (n + i))) (fun h => by rw [hret] at h; cases h) hlk
  exact ⟨_, _, retOut X hx hret (hn _) (Or.inr (Or.inr (Or.inr (Or.inr ⟨rfl, ht, rfl⟩)))) (hb hby hd) hr, hrun, hended, _, _, rfl, ⟨rfl, N, S, A⟩, ⟨_, rfl⟩, hW, hsame.mono (Nat.le_refl _) hs⟩
theorem con_of {y : MethodName} {rm : Room} {as : List Value} (hw : ∀ d ∈ tables_1, d.before G.2.2.1 G.2.1 = true) (pn : plainFor y = true) (hL : aloc as maxL = Ls) (body : ∀ K, Ok G K y.cls bytes maxL ret rm y.name rm.cells rm.slots → Run G K rv Hf 0 Ls [] H 0 0) : Con G y bytes maxL ret rm as H rv Hf := by
  obtain ⟨l, Z, a0, n⟩ := G
  intro h0 S0
  refine MetFree.of_bodySF pn hisR ?_
  intro p e s m args below meth c s₁ Bd hml0 hP hK
  obtain ⟨rfl, hZ, rfl⟩ := hP
  have X0 : Stand p l e rm s m _ below meth c s₁ [] 0 0 := Stand.of_body Bd
  have e0 : s₁.heap = s.heap := by rw [Bd.state]; rfl
  have k := body (p, e, rm, s, m, (as.map (sh n)).toArray, below, meth, c, rm.cells, rm.slots) ⟨Bd.exec, hZ, findClass_of_methodNamed Bd.named, Bd.bytes, hml0, Bd.returns, Bd.notSynchronized, rfl, (name_of_methodNamed Bd.named Bd.method).1, rfl, rfl, hw⟩
  subst hL
  obtain ⟨t, o, h1, h2, h3, v, L, h4, ⟨h5, h6, h7, h8⟩, h9⟩ := k s₁ [] _ X0 (Fr.nil n) (by rw [e0]; exact S0) (by rw [Nat.add_zero]; exact S0.1) (entry_rel n as maxL)
  refine ⟨t, o, h1, h2, h3, v, L, h4, ⟨h5, h6, h7, ?_⟩, h9⟩
  have := S0.1
  simp only at this
  omega
/-- the law itself, over an empty own heap -/
theorem law_of {l : Launch} {s : State} {a0 : Array Value} {as : List Value} {k0 k1 : Nat} (hw : ∀ d ∈ tables_1, d.before a0 s = true) (pn : plainFor x = true) (hL : aloc as maxLocals = Ls) (hid : as.map (sh s.heap.size) = as)
    (body : ∀ K, Ok (l, s, a0, s.heap.size) K x.cls code maxLocals Jvm.Pilot.@@N@@.ret room_1 x.name k0 k1 → Run (l, s, a0, s.heap.size) K rv Hf 0 Ls [] [] 0 0) :
    MetFree l x (head1 (Jvm.Cond.code x code maxLocals Jvm.Pilot.@@N@@.ret :: tables_1) room_1) (fun a U => a = as.toArray ∧ s.Warmed39 U.vm ∧ U.heap = s.heap) (fun _ _ _ _ _ => True) (fun _ U o U' => ∃ v L, o = .returned v ∧ (v = rv.map (sh s.heap.size) ∧ Fr s.heap.size L) ∧ FrameEnd U o U' L k0 k1) := by
  refine MetFree.of_bodySF pn hisR ?_
  intro p e U m args below meth c s₁ Bd hml0 hP hK
  obtain ⟨rfl, hZ, hU⟩ := hP
  have X0 : Stand p l e room_1 U m _ below meth c s₁ [] 0 0 := Stand.of_body Bd
  have e0 : s₁.heap = U.heap := by rw [Bd.state]; rfl
  have k := body (p, e, room_1, U, m, as.toArray, below, meth, c, k0, k1) ⟨Bd.exec, hZ, findClass_of_methodNamed Bd.named, Bd.bytes, hml0, Bd.returns, Bd.notSynchronized, rfl, (name_of_methodNamed Bd.named Bd.method).1, rfl, rfl, hw⟩
  subst hL
  have S0 : Sim (l, s, a0, s.heap.size) [] s₁.heap := ⟨by rw [e0, hU]; rfl, fun i o h => by simp at h⟩
  have er := entry_rel s.heap.size as maxLocals
  rw [hid] at er
  obtain ⟨t, o, h1, h2, h3, v, L, h4, ⟨h5, h6, h7, h8⟩, h9⟩ := k s₁ [] _ X0 (Fr.nil _) S0 (by rw [hU]; rfl) er
  exact ⟨t, o, h1, h2, h3, v, L, h4, ⟨h5, h6⟩, h9⟩
theorem Ok.w (O : Ok G K own bytes maxL ret R mn kc ks) : ∀ d ∈ tables_1, d.before G.2.2.1 G.2.1 = true := by
  obtain ⟨l, Z, a0, n⟩ := G; obtain ⟨p, e, R', s, m, args, below, meth, c, kc', ks'⟩ := K
  obtain ⟨-, -, -, -, -, -, -, -, -, -, -, hw⟩ := O
  exact hw
theorem bnd {α β : Type} {o : Option α} {f : α → Option β} {b : β} (h : o.bind f = some b) : ∃ a, o = some a ∧ f a = some b := Option.bind_eq_some_iff.mp h
theorem g_static1 {ix : Nat} {y : MethodName} {bytes' : ByteArray} {maxL' : Nat} {ret' : Option FieldType} {rm : Room} {as : List Value} {H' : List Obj} {v : Value} {ps : List FieldType} {W : Nat} {stk : List Value} (O : Ok G K own bytes maxL ret R mn kc ks) (hd : decode bytes pc = .ok (.invokestatic ix, 3))
    (w1 : Jvm.Cond.methodLink own ix y ∈ tables_1) (w2 : Jvm.Cond.static y ∈ tables_1) (w3 : Jvm.Cond.initialized y.cls ∈ tables_1) (w4 : Jvm.Cond.code y bytes' maxL' ret' ∈ tables_1) (hy : y.cls ≠ "java/lang/invoke/MethodHandle" ∧ y.cls ≠ "java/lang/invoke/VarHandle")
    (pd : parseMethodDescriptor y.desc = some ⟨ps, ret'⟩) (hl : as.length = ps.length) (hstk : stk = as.reverse ++ st) (hLs : Ls.length = maxL) (hW : (st.map fun v => v.category).sum = W) (hf : rm.frames + 1 ≤ R.frames) (hlo : W + (maxL' + 11) + rm.locals ≤ R.locals) {c2 s2 : Nat} (hc2 : cells + rm.cells = c2) (hs2 : slots + rm.slots = s2) (hc : c2 ≤ R.cells) (hs : s2 ≤ R.slots)
    (con : Con G y bytes' maxL' ret' rm as H (some v) H') (hp : pc + 3 = pc') (k : Run G K rv Hf pc' Ls (v :: st) H' c2 s2) : Run G K rv Hf pc Ls stk H cells slots := g_static O hd w1 w2 w3 w4 hy pd hl hstk hLs hW hf hlo hc2 hs2 hc hs con hp k
theorem g_static0 {ix : Nat} {y : MethodName} {bytes' : ByteArray} {maxL' : Nat} {ret' : Option FieldType} {rm : Room} {as : List Value} {H' : List Obj} {ps : List FieldType} {W : Nat} {stk : List Value} (O : Ok G K own bytes maxL ret R mn kc ks) (hd : decode bytes pc = .ok (.invokestatic ix, 3))
    (w1 : Jvm.Cond.methodLink own ix y ∈ tables_1) (w2 : Jvm.Cond.static y ∈ tables_1) (w3 : Jvm.Cond.initialized y.cls ∈ tables_1) (w4 : Jvm.Cond.code y bytes' maxL' ret' ∈ tables_1) (hy : y.cls ≠ "java/lang/invoke/MethodHandle" ∧ y.cls ≠ "java/lang/invoke/VarHandle")
    (pd : parseMethodDescriptor y.desc = some ⟨ps, ret'⟩) (hl : as.length = ps.length) (hstk : stk = as.reverse ++ st) (hLs : Ls.length = maxL) (hW : (st.map fun v => v.category).sum = W) (hf : rm.frames + 1 ≤ R.frames) (hlo : W + (maxL' + 11) + rm.locals ≤ R.locals) {c2 s2 : Nat} (hc2 : cells + rm.cells = c2) (hs2 : slots + rm.slots = s2) (hc : c2 ≤ R.cells) (hs : s2 ≤ R.slots)
    (con : Con G y bytes' maxL' ret' rm as H none H') (hp : pc + 3 = pc') (k : Run G K rv Hf pc' Ls st H' c2 s2) : Run G K rv Hf pc Ls stk H cells slots := g_static O hd w1 w2 w3 w4 hy pd hl hstk hLs hW hf hlo hc2 hs2 hc hs con hp k
theorem g_virtual1 {ix i t : Nat} {y : MethodName} {bytes' : ByteArray} {maxL' : Nat} {ret' : Option FieldType} {rm : Room} {as vs : List Value} {H' : List Obj} {v : Value} {ps : List FieldType} {W : Nat} {stk : List Value} (O : Ok G K own bytes maxL ret R mn kc ks) (hd : decode bytes pc = .ok (.invokevirtual ix, 3))
    (w1 : Jvm.Cond.methodLink own ix y ∈ tables_1) (w2 : Jvm.Cond.declares y ∈ tables_1) (w5 : Jvm.Cond.selects (lay t).1 y y ∈ tables_1) (w6 : Jvm.Cond.instanceMethod y ∈ tables_1) (w3 : Jvm.Cond.initialized y.cls ∈ tables_1) (w4 : Jvm.Cond.code y bytes' maxL' ret' ∈ tables_1) (hy : y.cls ≠ "java/lang/invoke/MethodHandle" ∧ y.cls ≠ "java/lang/invoke/VarHandle")
    (ho : obj t H i = some vs) (pd : parseMethodDescriptor y.desc = some ⟨ps, ret'⟩) (hl : as.length = ps.length) (hstk : stk = as.reverse ++ .ref i :: st) (hLs : Ls.length = maxL) (hW : (st.map fun v => v.category).sum = W) (hf : rm.frames + 1 ≤ R.frames) (hlo : W + (maxL' + 11) + rm.locals ≤ R.locals) {c2 s2 : Nat} (hc2 : cells + rm.cells = c2) (hs2 : slots + rm.slots = s2) (hc : c2 ≤ R.cells) (hs : s2 ≤ R.slots)
    (con : Con G y bytes' maxL' ret' rm (.ref i :: as) H (some v) H') (hp : pc + 3 = pc') (k : Run G K rv Hf pc' Ls (v :: st) H' c2 s2) : Run G K rv Hf pc Ls stk H cells slots := g_virtual O hd w1 w2 w5 w6 w3 w4 hy ho pd hl hstk hLs hW hf hlo hc2 hs2 hc hs con hp k
theorem g_virtual0 {ix i t : Nat} {y : MethodName} {bytes' : ByteArray} {maxL' : Nat} {ret' : Option FieldType} {rm : Room} {as vs : List Value} {H' : List Obj} {ps : List FieldType} {W : Nat} {stk : List Value} (O : Ok G K own bytes maxL ret R mn kc ks) (hd : decode bytes pc = .ok (.invokevirtual ix, 3))
    (w1 : Jvm.Cond.methodLink own ix y ∈ tables_1) (w2 : Jvm.Cond.declares y ∈ tables_1) (w5 : Jvm.Cond.selects (lay t).1 y y ∈ tables_1) (w6 : Jvm.Cond.instanceMethod y ∈ tables_1) (w3 : Jvm.Cond.initialized y.cls ∈ tables_1) (w4 : Jvm.Cond.code y bytes' maxL' ret' ∈ tables_1) (hy : y.cls ≠ "java/lang/invoke/MethodHandle" ∧ y.cls ≠ "java/lang/invoke/VarHandle")
    (ho : obj t H i = some vs) (pd : parseMethodDescriptor y.desc = some ⟨ps, ret'⟩) (hl : as.length = ps.length) (hstk : stk = as.reverse ++ .ref i :: st) (hLs : Ls.length = maxL) (hW : (st.map fun v => v.category).sum = W) (hf : rm.frames + 1 ≤ R.frames) (hlo : W + (maxL' + 11) + rm.locals ≤ R.locals) {c2 s2 : Nat} (hc2 : cells + rm.cells = c2) (hs2 : slots + rm.slots = s2) (hc : c2 ≤ R.cells) (hs : s2 ≤ R.slots)
    (con : Con G y bytes' maxL' ret' rm (.ref i :: as) H none H') (hp : pc + 3 = pc') (k : Run G K rv Hf pc' Ls st H' c2 s2) : Run G K rv Hf pc Ls stk H cells slots := g_virtual O hd w1 w2 w5 w6 w3 w4 hy ho pd hl hstk hLs hW hf hlo hc2 hs2 hc hs con hp k
/-- clone() of an int[] -/
def cloneI (cap : Nat) (H : List Obj) (i : Nat) : Option (List Obj) := (arr .int H i).bind fun vs => if vs.length ≤ cap ∧ vs.all (fun v => (getI v).isSome) = true then some (H ++ [.inl (.int, vs)]) else none
theorem g_cloneI {ix i cap W : Nat} {H' : List Obj} (O : Ok G K own bytes maxL ret R mn kc ks) (hd : decode bytes pc = .ok (.invokevirtual ix, 3)) (w1 : Jvm.Cond.methodLink own ix (⟨"[I", "clone", "()Ljava/lang/Object;"⟩ : MethodName) ∈ tables_1) (w2 : Jvm.Cond.sameMethod "[I" "java/lang/Object" "clone" "()Ljava/lang/Object;" ∈ tables_1) (w3 : Jvm.Cond.native (⟨"java/lang/Object", "clone", "()Ljava/lang/Object;"⟩ : MethodName) ∈ tables_1)
    (w4 : Jvm.Cond.instanceMethod (⟨"java/lang/Object", "clone", "()Ljava/lang/Object;"⟩ : MethodName) ∈ tables_1) (w5 : Jvm.Cond.selects "[I" (⟨"[I", "clone", "()Ljava/lang/Object;"⟩ : MethodName) (⟨"java/lang/Object", "clone", "()Ljava/lang/Object;"⟩ : MethodName) ∈ tables_1) (w6 : Jvm.Cond.castable "[I" "java/lang/Cloneable" ∈ tables_1) (hr : cloneI cap H i = some H')
    (hLs : Ls.length = maxL) (hW : (st.map fun v => v.category).sum = W) (hf : 1 ≤ R.frames) (hl : W + 14 ≤ R.locals) {c2 s2 : Nat} (hc2 : cells + 1 = c2) (hs2 : slots + cap = s2) (hc : c2 ≤ R.cells) (hs : s2 ≤ R.slots) (hp : pc + 3 = pc')
    (k : Run G K rv Hf pc' Ls (.ref H.length :: st) H' c2 s2) : Run G K rv Hf pc Ls (.ref i :: st) H cells slots := by
  obtain ⟨l, Z, a0, n⟩ := G; obtain ⟨p, e, R', s, m, args, below, meth, c, kc', ks'⟩ := K
  obtain ⟨hx, hZ, hown, hby, hml, hret, hlk, rfl, hnm, rfl, rfl, hw⟩ := O
  subst hp hc2 hs2
  intro T locs real X N S A L
  obtain ⟨vs, h1, h2⟩ := bnd hr
  have hv : vs.length ≤ cap ∧ vs.all (fun v => (getI v).isSome) = true := Decidable.byContradiction fun hv => by rw [if_neg hv] at h2; cases h2
  rw [if_pos hv] at h2
  cases h2
  obtain ⟨EX, cl, B, es⟩ := S.2 i _ (arr_e h1)
  have FC : FitC Z cl := fitC_of B fun j hj v hjv => by
    rw [es] at hjv
    simp only [List.getElem?_toArray, List.getElem?_map, Option.map_eq_some_iff] at hjv
    obtain ⟨u, q1, q2⟩ := hjv
    have := List.all_eq_true.mp hv.2 u (List.mem_of_getElem? q1)
    cases u <;> simp [getI] at this
    rw [← q2]; rfl
  obtain ⟨T', h', X', e', E, B', EX', stp⟩ := cloneA X hx hZ hown (hw _ w1) (hw _ w2) (hw _ w3) (hw _ w4) (hw _ w5) (hw _ w6) rfl B EX FC (g := mkF m pc real ((.ref i :: st).map (sh n))) rfl (by show real.size = _; rw [L.1, hml]; exact hLs) rfl (hb hby hd) hf (W := W) (cap := cap) (by show 2 * 0 + _ ≤ _; rw [cat_sum, hW]; exact Nat.le_of_eq (Nat.zero_add _)) hl (by rw [sl_len es]; exact hv.1) hc hs
  have hsz : h'.size = T.heap.size + 1 := by
    have a1 : Array.size T.heap < Array.size h' := B'.lt
    have a2 : Array.size T'.heap ≤ Array.size s.heap + (cells + 1) := X'.heapSize
    rw [e'] at a2
    have a3 : Array.size T.heap = n + H.length := S.1
    have a4 : Array.size s.heap + cells = n + H.length := A
    omega
  have ea : T.heap.size = n + H.length := S.1
  have S' : Sim (l, Z, a0, n) (H ++ [.inl (.int, vs)]) T'.heap := by
    rw [e']
    exact sim_ext S E hsz ⟨EX', _, B', es⟩
  refine Done.step stp ?_
  have k' := k T' locs real X' N S' (by simp only [List.length_append, List.length_singleton] at A ⊢; omega) L
  rw [ea]
  exact k'
theorem g_checkcastI {ix i : Nat} {vs : List Value} (O : Ok G K own bytes maxL ret R mn kc ks) (hd : decode bytes pc = .ok (.checkcast ix, 3)) (w1 : Jvm.Cond.classLink own ix "[I" ∈ tables_1) (ha : arr .int H i = some vs) (hp : pc + 3 = pc')
    (k : Run G K rv Hf pc' Ls (.ref i :: st) H cells slots) : Run G K rv Hf pc Ls (.ref i :: st) H cells slots := by
  obtain ⟨l, Z, a0, n⟩ := G; obtain ⟨p, e, R', s, m, args, below, meth, c, kc', ks'⟩ := K
  obtain ⟨hx, hZ, hown, hby, hml, hret, hlk, rfl, hnm, rfl, rfl, hw⟩ := O
  subst hp
  intro T locs real X N S A L
  obtain ⟨EX, cl, B, es⟩ := S.2 i _ (arr_e ha)
  obtain ⟨T', X', e', stp⟩ := castY X hx hZ hown (hw _ w1) rfl (Ins.self EX) (g := mkF m pc real ((.ref i :: st).map (sh n))) rfl rfl (hb hby hd)
  exact Done.step stp (k T' locs real X' N (by rw [e']; exact S) A L)
end Laws
/-! small facts on numbers -/
theorem own_n0 : nar .boolean 0 = 0 := rfl
theorem own_n1 : nar .boolean 1 = 1 := rfl
theorem own_fin {r : Int32} {N : Nat} (h0 : 0 ≤ r.toInt) (h1 : r.toInt < N) (hN : N ≤ 2147483648) : ∃ j : Fin N, r = (j.1).toInt32 := by
  refine ⟨⟨r.toInt.toNat, by omega⟩, Int32.toInt_inj.mp ?_⟩
  show r.toInt = (r.toInt.toNat).toInt32.toInt
  rw [len_toInt (by show r.toInt.toNat < 2 ^ 31; omega)]
  omega
theorem own_lt {x y : Int32} : x < y ↔ x.toInt < y.toInt := Int32.lt_iff_toInt_lt
theorem own_le {x y : Int32} : x ≤ y ↔ x.toInt ≤ y.toInt := Int32.le_iff_toInt_le
theorem own_eq {x y : Int32} : x = y ↔ x.toInt = y.toInt := Int32.toInt_inj.symm
theorem own_ltL {x y : Int64} : x < y ↔ x.toInt < y.toInt := Int64.lt_iff_toInt_lt
theorem own_eqL {x y : Int64} : x = y ↔ x.toInt = y.toInt := Int64.toInt_inj.symm
/-- x & (2^31 - 1), then a remainder by a small number -/
theorem own_m31 (a : Int32) : (a &&& 2147483647).toInt = a.toInt % 2147483648 := c_mask a 2147483647 31 (by decide) (by decide)
theorem own_mod {a y : Int32} {d : Int} (hy : y.toInt = d) (h : 0 ≤ a.toInt) : (a % y).toInt = a.toInt % d := (c_irem a y d hy).1 h

/-! body 1 -/
theorem d1_0 : decode jdk_29_method_70_code 0 = .ok (.lload_n 0, 1) := by decide +kernel
theorem d1_1 : decode jdk_29_method_70_code 1 = .ok (.lload_n 2, 1) := by decide +kernel
theorem d1_2 : decode jdk_29_method_70_code 2 = .ok (.lcmp, 1) := by decide +kernel
theorem d1_3 : decode jdk_29_method_70_code 3 = .ok (.ifCond .gt 7, 3) := by decide +kernel
theorem d1_6 : decode jdk_29_method_70_code 6 = .ok (.lload_n 0, 1) := by decide +kernel
theorem d1_7 : decode jdk_29_method_70_code 7 = .ok (.goto 4, 3) := by decide +kernel
theorem d1_10 : decode jdk_29_method_70_code 10 = .ok (.lload_n 2, 1) := by decide +kernel
theorem d1_11 : decode jdk_29_method_70_code 11 = .ok (.lreturn, 1) := by decide +kernel
theorem pd1 : parseMethodDescriptor "(JJ)J" = some ⟨[.long, .long], some .long⟩ := by decide +kernel
theorem pn1 : plainFor (⟨"java/lang/Math", "min", "(JJ)J"⟩ : MethodName) = true := by first | exact plainFor_of_name (by first | (simp [plainName, overriddenIn]; done) | decide +kernel) | decide +kernel
abbrev rm1 : Room := { frames := 0, cells := 0, slots := 0, locals := 0 }
abbrev Ok1 (G : Gx) (K : Kx) : Prop := Ok G K "java/lang/Math" jdk_29_method_70_code 4 (Option.some FieldType.long) rm1 "min" 0 0
def m1_b11 (t0 : Int64) : Int64 :=
  t0
theorem m1_t11 {G : Gx} {K : Kx} (O : Ok1 G K) (t0 : Int64) (H : List Obj) : Run G K (some (.long (m1_b11 t0))) H 11 [none, none, none, none] [(.long t0)] H 0 0 := by
  unfold m1_b11
  exact g_ret_long O d1_11 rfl (by decide)
def m1_b0 (v0 : Int64) (v2 : Int64) : Int64 :=
  if v2 < v0 then
    m1_b11 v2
  else
    m1_b11 v0
theorem m1_t0 {G : Gx} {K : Kx} (O : Ok1 G K) (v0 : Int64) (v2 : Int64) (H : List Obj) : Run G K (some (.long (m1_b0 v0 v2))) H 0 [some (.long v0), none, some (.long v2), none] [] H 0 0 := by
  unfold m1_b0
  refine g_lload_n O (pc' := 1) d1_0 (v := v0) rfl rfl ?_
  refine g_lload_n O (pc' := 2) d1_1 (v := v2) rfl rfl ?_
  refine g_lcmp_gt O (pc' := 6) d1_2 rfl d1_3 rfl (by decide) (pc1 := 10) (by decide) (fun h3 => ?_) (fun h3 => ?_)
  · rw [if_pos h3]
    refine g_lload_n O (pc' := 11) d1_10 (v := v2) rfl rfl ?_
    refine g_forget (Ls' := [none, none, none, none]) trivial ?_
    exact m1_t11 O v2 H
  · rw [if_neg h3]
    refine g_lload_n O (pc' := 7) d1_6 (v := v0) rfl rfl ?_
    refine g_goto O d1_7 (by decide) (pc' := 11) (by decide) ?_
    refine g_forget (Ls' := [none, none, none, none]) trivial ?_
    exact m1_t11 O v0 H
abbrev m1 (v0 : Int64) (v2 : Int64) : Int64 := m1_b0 v0 v2
theorem con1 {G : Gx} (hw : ∀ d ∈ tables_1, d.before G.2.2.1 G.2.1 = true) (v0 : Int64) (v2 : Int64) (H : List Obj) : Con G (⟨"java/lang/Math", "min", "(JJ)J"⟩ : MethodName) jdk_29_method_70_code 4 (Option.some FieldType.long) rm1 [(.long v0), (.long v2)] H (some (.long (m1 v0 v2))) H :=
  con_of hw pn1 rfl fun K O => m1_t0 O v0 v2 H

/-! body 2 -/
theorem d2_0 : decode jdk_29_method_66_code 0 = .ok (.lload_n 0, 1) := by decide +kernel
theorem d2_1 : decode jdk_29_method_66_code 1 = .ok (.lload_n 2, 1) := by decide +kernel
theorem d2_2 : decode jdk_29_method_66_code 2 = .ok (.lcmp, 1) := by decide +kernel
theorem d2_3 : decode jdk_29_method_66_code 3 = .ok (.ifCond .lt 7, 3) := by decide +kernel
theorem d2_6 : decode jdk_29_method_66_code 6 = .ok (.lload_n 0, 1) := by decide +kernel
theorem d2_7 : decode jdk_29_method_66_code 7 = .ok (.goto 4, 3) := by decide +kernel
theorem d2_10 : decode jdk_29_method_66_code 10 = .ok (.lload_n 2, 1) := by decide +kernel
theorem d2_11 : decode jdk_29_method_66_code 11 = .ok (.lreturn, 1) := by decide +kernel
theorem pd2 : parseMethodDescriptor "(JJ)J" = some ⟨[.long, .long], some .long⟩ := by decide +kernel
theorem pn2 : plainFor (⟨"java/lang/Math", "max", "(JJ)J"⟩ : MethodName) = true := by first | exact plainFor_of_name (by first | (simp [plainName, overriddenIn]; done) | decide +kernel) | decide +kernel
abbrev rm2 : Room := { frames := 0, cells := 0, slots := 0, locals := 0 }
abbrev Ok2 (G : Gx) (K : Kx) : Prop := Ok G K "java/lang/Math" jdk_29_method_66_code 4 (Option.some FieldType.long) rm2 "max" 0 0
def m2_b11 (t0 : Int64) : Int64 :=
  t0
theorem m2_t11 {G : Gx} {K : Kx} (O : Ok2 G K) (t0 : Int64) (H : List Obj) : Run G K (some (.long (m2_b11 t0))) H 11 [none, none, none, none] [(.long t0)] H 0 0 := by
  unfold m2_b11
  exact g_ret_long O d2_11 rfl (by decide)
def m2_b0 (v0 : Int64) (v2 : Int64) : Int64 :=
  if v0 < v2 then
    m2_b11 v2
  else
    m2_b11 v0
theorem m2_t0 {G : Gx} {K : Kx} (O : Ok2 G K) (v0 : Int64) (v2 : Int64) (H : List Obj) : Run G K (some (.long (m2_b0 v0 v2))) H 0 [some (.long v0), none, some (.long v2), none] [] H 0 0 := by
  unfold m2_b0
  refine g_lload_n O (pc' := 1) d2_0 (v := v0) rfl rfl ?_
  refine g_lload_n O (pc' := 2) d2_1 (v := v2) rfl rfl ?_
  refine g_lcmp_lt O (pc' := 6) d2_2 rfl d2_3 rfl (by decide) (pc1 := 10) (by decide) (fun h3 => ?_) (fun h3 => ?_)
  · rw [if_pos h3]
    refine g_lload_n O (pc' := 11) d2_10 (v := v2) rfl rfl ?_
    refine g_forget (Ls' := [none, none, none, none]) trivial ?_
    exact m2_t11 O v2 H
  · rw [if_neg h3]
    refine g_lload_n O (pc' := 7) d2_6 (v := v0) rfl rfl ?_
    refine g_goto O d2_7 (by decide) (pc' := 11) (by decide) ?_
    refine g_forget (Ls' := [none, none, none, none]) trivial ?_
    exact m2_t11 O v0 H
abbrev m2 (v0 : Int64) (v2 : Int64) : Int64 := m2_b0 v0 v2
theorem con2 {G : Gx} (hw : ∀ d ∈ tables_1, d.before G.2.2.1 G.2.1 = true) (v0 : Int64) (v2 : Int64) (H : List Obj) : Con G (⟨"java/lang/Math", "max", "(JJ)J"⟩ : MethodName) jdk_29_method_66_code 4 (Option.some FieldType.long) rm2 [(.long v0), (.long v2)] H (some (.long (m2 v0 v2))) H :=
  con_of hw pn2 rfl fun K O => m2_t0 O v0 v2 H

/-! body 3 -/
theorem d3_0 : decode prog_33_method_3_code 0 = .ok (.lload_n 2, 1) := by decide +kernel
theorem d3_1 : decode prog_33_method_3_code 1 = .ok (.lload_n 0, 1) := by decide +kernel
theorem d3_2 : decode prog_33_method_3_code 2 = .ok (.lcmp, 1) := by decide +kernel
theorem d3_3 : decode prog_33_method_3_code 3 = .ok (.ifCond .ne 7, 3) := by decide +kernel
theorem d3_6 : decode prog_33_method_3_code 6 = .ok (.lconst 0, 1) := by decide +kernel
theorem d3_7 : decode prog_33_method_3_code 7 = .ok (.goto 16, 3) := by decide +kernel
theorem d3_10 : decode prog_33_method_3_code 10 = .ok (.lload_n 2, 1) := by decide +kernel
theorem d3_11 : decode prog_33_method_3_code 11 = .ok (.lconst 1, 1) := by decide +kernel
theorem d3_12 : decode prog_33_method_3_code 12 = .ok (.lsub, 1) := by decide +kernel
theorem d3_13 : decode prog_33_method_3_code 13 = .ok (.bipush 30, 2) := by decide +kernel
theorem d3_15 : decode prog_33_method_3_code 15 = .ok (.lushr, 1) := by decide +kernel
theorem d3_16 : decode prog_33_method_3_code 16 = .ok (.lload_n 0, 1) := by decide +kernel
theorem d3_17 : decode prog_33_method_3_code 17 = .ok (.bipush 30, 2) := by decide +kernel
theorem d3_19 : decode prog_33_method_3_code 19 = .ok (.lushr, 1) := by decide +kernel
theorem d3_20 : decode prog_33_method_3_code 20 = .ok (.lsub, 1) := by decide +kernel
theorem d3_21 : decode prog_33_method_3_code 21 = .ok (.lconst 1, 1) := by decide +kernel
theorem d3_22 : decode prog_33_method_3_code 22 = .ok (.ladd, 1) := by decide +kernel
theorem d3_23 : decode prog_33_method_3_code 23 = .ok (.lreturn, 1) := by decide +kernel
theorem pd3 : parseMethodDescriptor "(JJ)J" = some ⟨[.long, .long], some .long⟩ := by decide +kernel
theorem pn3 : plainFor (⟨"org/safehold/MappedFile", "windowCount", "(JJ)J"⟩ : MethodName) = true := by first | exact plainFor_of_name (by first | (simp [plainName, overriddenIn]; done) | decide +kernel) | decide +kernel
abbrev rm3 : Room := { frames := 0, cells := 0, slots := 0, locals := 0 }
abbrev Ok3 (G : Gx) (K : Kx) : Prop := Ok G K "org/safehold/MappedFile" prog_33_method_3_code 4 (Option.some FieldType.long) rm3 "windowCount" 0 0
def m3_b23 (t0 : Int64) : Int64 :=
  t0
theorem m3_t23 {G : Gx} {K : Kx} (O : Ok3 G K) (t0 : Int64) (H : List Obj) : Run G K (some (.long (m3_b23 t0))) H 23 [none, none, none, none] [(.long t0)] H 0 0 := by
  unfold m3_b23
  exact g_ret_long O d3_23 rfl (by decide)
def m3_b0 (v0 : Int64) (v2 : Int64) : Int64 :=
  if v2 = v0 then
    m3_b23 (0 : Int64)
  else
    m3_b23 (((XT.ushrL (v2 - (1 : Int64)) (30 : Int32)) - (XT.ushrL v0 (30 : Int32))) + (1 : Int64))
theorem m3_t0 {G : Gx} {K : Kx} (O : Ok3 G K) (v0 : Int64) (v2 : Int64) (H : List Obj) : Run G K (some (.long (m3_b0 v0 v2))) H 0 [some (.long v0), none, some (.long v2), none] [] H 0 0 := by
  unfold m3_b0
  refine g_lload_n O (pc' := 1) d3_0 (v := v2) rfl rfl ?_
  refine g_lload_n O (pc' := 2) d3_1 (v := v0) rfl rfl ?_
  refine g_lcmp_ne O (pc' := 6) d3_2 rfl d3_3 rfl (by decide) (pc1 := 10) (by decide) (fun h3 => ?_) (fun h3 => ?_)
  · rw [if_neg h3]
    refine g_lload_n O (pc' := 11) d3_10 (v := v2) rfl rfl ?_
    refine g_lconst O (pc' := 12) d3_11 (v := 1) (by decide) rfl ?_
    refine g_lsub O (pc' := 13) d3_12 rfl ?_
    refine g_bipush O (pc' := 15) d3_13 (v := 30) (by decide) rfl ?_
    refine g_lushr O (pc' := 16) d3_15 rfl ?_
    refine g_lload_n O (pc' := 17) d3_16 (v := v0) rfl rfl ?_
    refine g_bipush O (pc' := 19) d3_17 (v := 30) (by decide) rfl ?_
    refine g_lushr O (pc' := 20) d3_19 rfl ?_
    refine g_lsub O (pc' := 21) d3_20 rfl ?_
    refine g_lconst O (pc' := 22) d3_21 (v := 1) (by decide) rfl ?_
    refine g_ladd O (pc' := 23) d3_22 rfl ?_
    refine g_forget (Ls' := [none, none, none, none]) trivial ?_
    exact m3_t23 O (((XT.ushrL (v2 - (1 : Int64)) (30 : Int32)) - (XT.ushrL v0 (30 : Int32))) + (1 : Int64)) H
  · rw [if_pos h3]
    refine g_lconst O (pc' := 7) d3_6 (v := 0) (by decide) rfl ?_
    refine g_goto O d3_7 (by decide) (pc' := 23) (by decide) ?_
    refine g_forget (Ls' := [none, none, none, none]) trivial ?_
    exact m3_t23 O (0 : Int64) H
abbrev m3 (v0 : Int64) (v2 : Int64) : Int64 := m3_b0 v0 v2
theorem con3 {G : Gx} (hw : ∀ d ∈ tables_1, d.before G.2.2.1 G.2.1 = true) (v0 : Int64) (v2 : Int64) (H : List Obj) : Con G (⟨"org/safehold/MappedFile", "windowCount", "(JJ)J"⟩ : MethodName) prog_33_method_3_code 4 (Option.some FieldType.long) rm3 [(.long v0), (.long v2)] H (some (.long (m3 v0 v2))) H :=
  con_of hw pn3 rfl fun K O => m3_t0 O v0 v2 H

/-! body 0 -/
theorem pn0 : plainFor x = true := by first | exact plainFor_of_name (by first | (simp [plainName, overriddenIn]; done) | decide +kernel) | decide +kernel
abbrev Ok0 (G : Gx) (K : Kx) : Prop := Ok G K x.cls code maxLocals ret room_1 x.name 0 0
def m0_b137 (t0 : Int32) (H : List Obj) : Option (Int32 × List Obj) :=
  some ((nar .boolean t0), H)
theorem m0_t137 {G : Gx} {K : Kx} (O : Ok0 G K) (t0 : Int32) (H : List Obj) (r : Int32) (Hf : List Obj) (hf : m0_b137 t0 H = some (r, Hf)) : Run G K (some (.int r)) Hf 137 [none, none, none, none, none, none, none, none, none, none, none, none, none, none, none, none, none, none, none, none, none, none, none, none, none, none] [(.int t0)] H 0 0 := by
  unfold m0_b137 at hf
  cases hf
  exact g_ret_nar O at_137 (by simp) rfl rfl (by decide)
def m0_b159 (H : List Obj) : Option (Int32 × List Obj) :=
  some ((0 : Int32), H)
theorem m0_t159 {G : Gx} {K : Kx} (O : Ok0 G K) (H : List Obj) (r : Int32) (Hf : List Obj) (hf : m0_b159 H = some (r, Hf)) : Run G K (some (.int r)) Hf 159 [none, none, none, none, none, none, none, none, none, none, none, none, none, none, none, none, none, none, none, none, none, none, none, none, none, none] [] H 0 0 := by
  unfold m0_b159 at hf
  refine g_iconst O (pc' := 160) at_159 (v := 0) (by decide) rfl ?_
  cases hf
  exact g_ret_nar O at_160 (by simp) (by decide) rfl (by decide)
def m0_b228 (t0 : Int32) (H : List Obj) : Option (Int32 × List Obj) :=
  some ((nar .boolean t0), H)
theorem m0_t228 {G : Gx} {K : Kx} (O : Ok0 G K) (t0 : Int32) (H : List Obj) (r : Int32) (Hf : List Obj) (hf : m0_b228 t0 H = some (r, Hf)) : Run G K (some (.int r)) Hf 228 [none, none, none, none, none, none, none, none, none, none, none, none, none, none, none, none, none, none, none, none, none, none, none, none, none, none] [(.int t0)] H 0 0 := by
  unfold m0_b228 at hf
  cases hf
  exact g_ret_nar O at_228 (by simp) rfl rfl (by decide)
def m0_b227 (H : List Obj) : Option (Int32 × List Obj) :=
  m0_b228 (0 : Int32) H
theorem m0_t227 {G : Gx} {K : Kx} (O : Ok0 G K) (H : List Obj) (r : Int32) (Hf : List Obj) (hf : m0_b227 H = some (r, Hf)) : Run G K (some (.int r)) Hf 227 [none, none, none, none, none, none, none, none, none, none, none, none, none, none, none, none, none, none, none, none, none, none, none, none, none, none] [] H 0 0 := by
  unfold m0_b227 at hf
  refine g_iconst O (pc' := 228) at_227 (v := 0) (by decide) rfl ?_
  exact m0_t228 O (0 : Int32) H _ _ hf
def m0_b108 (v5 : Int64) (v12 : Int64) (v14 : Int64) (H : List Obj) : Option (Int32 × List Obj) :=
  if v14 = v12 then
    if (m3 v12 v14) = (0 : Int64) then
      m0_b137 (1 : Int32) H
    else
      m0_b137 (0 : Int32) H
  else
    if (m3 v12 v14) < (1 : Int64) then
      m0_b159 H
    else
      if v5 = 0 then none else
      if (((9223372036854775807 : Int64) / v5) + (1 : Int64)) < (m3 v12 v14) then
        m0_b159 H
      else
        if v5 = 0 then none else
        if v5 = 0 then none else
        if ((9223372036854775807 : Int64) / v5) < (((v12 / v5) + (m3 v12 v14)) - (1 : Int64)) then
          some ((0 : Int32), H)
        else
          if (v14 - (1 : Int64)) < ((((v12 / v5) + (m3 v12 v14)) - (1 : Int64)) * v5) then
            m0_b227 H
          else
            if ((v14 - (1 : Int64)) - ((((v12 / v5) + (m3 v12 v14)) - (1 : Int64)) * v5)) < v5 then
              m0_b228 (1 : Int32) H
            else
              m0_b227 H
theorem m0_t108 {G : Gx} {K : Kx} (O : Ok0 G K) (v5 : Int64) (v12 : Int64) (v14 : Int64) (H : List Obj) (r : Int32) (Hf : List Obj) (hf : m0_b108 v5 v12 v14 H = some (r, Hf)) : Run G K (some (.int r)) Hf 108 [none, none, none, none, none, some (.long v5), none, none, none, none, none, none, some (.long v12), none, some (.long v14), none, none, none, none, none, none, none, none, none, none, none] [] H 0 0 := by
  unfold m0_b108 at hf
  refine g_lload O (pc' := 110) at_108 (v := v12) rfl rfl ?_
  refine g_lload O (pc' := 112) at_110 (v := v14) rfl rfl ?_
  refine g_static1 O (pc' := 115) at_112 tw9 tw10 tw11 tw12 (by decide) pd3 (as := [(.long v12), (.long v14)]) rfl (st := []) rfl rfl (W := 0) rfl (rm := rm3) (by decide) (by decide) (c2 := 0) (s2 := 0) rfl rfl (by decide) (by decide) (con3 (Ok.w O) v12 v14 H) rfl ?_
  refine g_lstore O (pc' := 117) at_115 (Ls' := [none, none, none, none, none, some (.long v5), none, none, none, none, none, none, some (.long v12), none, some (.long v14), none, some (.long (m3 v12 v14)), none, none, none, none, none, none, none, none, none]) rfl rfl ?_
  refine g_lload O (pc' := 119) at_117 (v := v14) rfl rfl ?_
  refine g_lload O (pc' := 121) at_119 (v := v12) rfl rfl ?_
  refine g_lcmp_ne O (pc' := 125) at_121 rfl at_122 rfl (by decide) (pc1 := 138) (by decide) (fun h122 => ?_) (fun h122 => ?_)
  · rw [if_neg h122] at hf
    refine g_lload O (pc' := 140) at_138 (v := (m3 v12 v14)) rfl rfl ?_
    refine g_lconst O (pc' := 141) at_140 (v := 1) (by decide) rfl ?_
    refine g_lcmp_lt O (pc' := 145) at_141 rfl at_142 rfl (by decide) (pc1 := 159) (by decide) (fun h142 => ?_) (fun h142 => ?_)
    · rw [if_pos h142] at hf
      refine g_forget (Ls' := [none, none, none, none, none, none, none, none, none, none, none, none, none, none, none, none, none, none, none, none, none, none, none, none, none, none]) trivial ?_
      exact m0_t159 O H _ _ hf
    · rw [if_neg h142] at hf
      refine g_lload O (pc' := 147) at_145 (v := (m3 v12 v14)) rfl rfl ?_
      refine g_ldc2 O (pc' := 150) at_147 tw1 rfl ?_
      refine g_lload O (pc' := 152) at_150 (v := v5) rfl rfl ?_
      by_cases h152 : v5 = 0
      · rw [if_pos h152] at hf; cases hf
      rw [if_neg h152] at hf
      refine g_ldiv O (pc' := 153) at_152 h152 rfl ?_
      refine g_lconst O (pc' := 154) at_153 (v := 1) (by decide) rfl ?_
      refine g_ladd O (pc' := 155) at_154 rfl ?_
      refine g_lcmp_le O (pc' := 159) at_155 rfl at_156 rfl (by decide) (pc1 := 161) (by decide) (fun h156 => ?_) (fun h156 => ?_)
      · rw [if_neg h156] at hf
        refine g_lload O (pc' := 163) at_161 (v := v12) rfl rfl ?_
        refine g_lload O (pc' := 165) at_163 (v := v5) rfl rfl ?_
        by_cases h165 : v5 = 0
        · rw [if_pos h165] at hf; cases hf
        rw [if_neg h165] at hf
        refine g_ldiv O (pc' := 166) at_165 h165 rfl ?_
        refine g_lstore O (pc' := 168) at_166 (Ls' := [none, none, none, none, none, some (.long v5), none, none, none, none, none, none, some (.long v12), none, some (.long v14), none, some (.long (m3 v12 v14)), none, some (.long (v12 / v5)), none, none, none, none, none, none, none]) rfl rfl ?_
        refine g_lload O (pc' := 170) at_168 (v := (v12 / v5)) rfl rfl ?_
        refine g_lload O (pc' := 172) at_170 (v := (m3 v12 v14)) rfl rfl ?_
        refine g_ladd O (pc' := 173) at_172 rfl ?_
        refine g_lconst O (pc' := 174) at_173 (v := 1) (by decide) rfl ?_
        refine g_lsub O (pc' := 175) at_174 rfl ?_
        refine g_lstore O (pc' := 177) at_175 (Ls' := [none, none, none, none, none, some (.long v5), none, none, none, none, none, none, some (.long v12), none, some (.long v14), none, some (.long (m3 v12 v14)), none, some (.long (v12 / v5)), none, some (.long (((v12 / v5) + (m3 v12 v14)) - (1 : Int64))), none, none, none, none, none]) rfl rfl ?_
        refine g_lload O (pc' := 179) at_177 (v := (((v12 / v5) + (m3 v12 v14)) - (1 : Int64))) rfl rfl ?_
        refine g_ldc2 O (pc' := 182) at_179 tw1 rfl ?_
        refine g_lload O (pc' := 184) at_182 (v := v5) rfl rfl ?_
        by_cases h184 : v5 = 0
        · rw [if_pos h184] at hf; cases hf
        rw [if_neg h184] at hf
        refine g_ldiv O (pc' := 185) at_184 h184 rfl ?_
        refine g_lcmp_le O (pc' := 189) at_185 rfl at_186 rfl (by decide) (pc1 := 191) (by decide) (fun h186 => ?_) (fun h186 => ?_)
        · rw [if_neg h186] at hf
          refine g_lload O (pc' := 193) at_191 (v := (((v12 / v5) + (m3 v12 v14)) - (1 : Int64))) rfl rfl ?_
          refine g_lload O (pc' := 195) at_193 (v := v5) rfl rfl ?_
          refine g_lmul O (pc' := 196) at_195 rfl ?_
          refine g_lstore O (pc' := 198) at_196 (Ls' := [none, none, none, none, none, some (.long v5), none, none, none, none, none, none, some (.long v12), none, some (.long v14), none, some (.long (m3 v12 v14)), none, some (.long (v12 / v5)), none, some (.long (((v12 / v5) + (m3 v12 v14)) - (1 : Int64))), none, some (.long ((((v12 / v5) + (m3 v12 v14)) - (1 : Int64)) * v5)), none, none, none]) rfl rfl ?_
          refine g_lload O (pc' := 200) at_198 (v := v14) rfl rfl ?_
          refine g_lconst O (pc' := 201) at_200 (v := 1) (by decide) rfl ?_
          refine g_lsub O (pc' := 202) at_201 rfl ?_
          refine g_lstore O (pc' := 204) at_202 (Ls' := [none, none, none, none, none, some (.long v5), none, none, none, none, none, none, some (.long v12), none, some (.long v14), none, some (.long (m3 v12 v14)), none, some (.long (v12 / v5)), none, some (.long (((v12 / v5) + (m3 v12 v14)) - (1 : Int64))), none, some (.long ((((v12 / v5) + (m3 v12 v14)) - (1 : Int64)) * v5)), none, some (.long (v14 - (1 : Int64))), none]) rfl rfl ?_
          refine g_lload O (pc' := 206) at_204 (v := ((((v12 / v5) + (m3 v12 v14)) - (1 : Int64)) * v5)) rfl rfl ?_
          refine g_lload O (pc' := 208) at_206 (v := (v14 - (1 : Int64))) rfl rfl ?_
          refine g_lcmp_gt O (pc' := 212) at_208 rfl at_209 rfl (by decide) (pc1 := 227) (by decide) (fun h209 => ?_) (fun h209 => ?_)
          · rw [if_pos h209] at hf
            refine g_forget (Ls' := [none, none, none, none, none, none, none, none, none, none, none, none, none, none, none, none, none, none, none, none, none, none, none, none, none, none]) trivial ?_
            exact m0_t227 O H _ _ hf
          · rw [if_neg h209] at hf
            refine g_lload O (pc' := 214) at_212 (v := (v14 - (1 : Int64))) rfl rfl ?_
            refine g_lload O (pc' := 216) at_214 (v := ((((v12 / v5) + (m3 v12 v14)) - (1 : Int64)) * v5)) rfl rfl ?_
            refine g_lsub O (pc' := 217) at_216 rfl ?_
            refine g_lload O (pc' := 219) at_217 (v := v5) rfl rfl ?_
            refine g_lcmp_ge O (pc' := 223) at_219 rfl at_220 rfl (by decide) (pc1 := 227) (by decide) (fun h220 => ?_) (fun h220 => ?_)
            · rw [if_neg h220] at hf
              refine g_forget (Ls' := [none, none, none, none, none, none, none, none, none, none, none, none, none, none, none, none, none, none, none, none, none, none, none, none, none, none]) trivial ?_
              exact m0_t227 O H _ _ hf
            · rw [if_pos h220] at hf
              refine g_iconst O (pc' := 224) at_223 (v := 1) (by decide) rfl ?_
              refine g_goto O at_224 (by decide) (pc' := 228) (by decide) ?_
              refine g_forget (Ls' := [none, none, none, none, none, none, none, none, none, none, none, none, none, none, none, none, none, none, none, none, none, none, none, none, none, none]) trivial ?_
              exact m0_t228 O (1 : Int32) H _ _ hf
        · rw [if_pos h186] at hf
          refine g_iconst O (pc' := 190) at_189 (v := 0) (by decide) rfl ?_
          cases hf
          exact g_ret_nar O at_190 (by simp) (by decide) rfl (by decide)
      · rw [if_pos h156] at hf
        refine g_forget (Ls' := [none, none, none, none, none, none, none, none, none, none, none, none, none, none, none, none, none, none, none, none, none, none, none, none, none, none]) trivial ?_
        exact m0_t159 O H _ _ hf
  · rw [if_pos h122] at hf
    refine g_lload O (pc' := 127) at_125 (v := (m3 v12 v14)) rfl rfl ?_
    refine g_lconst O (pc' := 128) at_127 (v := 0) (by decide) rfl ?_
    refine g_lcmp_ne O (pc' := 132) at_128 rfl at_129 rfl (by decide) (pc1 := 136) (by decide) (fun h129 => ?_) (fun h129 => ?_)
    · rw [if_neg h129] at hf
      refine g_iconst O (pc' := 137) at_136 (v := 0) (by decide) rfl ?_
      refine g_forget (Ls' := [none, none, none, none, none, none, none, none, none, none, none, none, none, none, none, none, none, none, none, none, none, none, none, none, none, none]) trivial ?_
      exact m0_t137 O (0 : Int32) H _ _ hf
    · rw [if_pos h129] at hf
      refine g_iconst O (pc' := 133) at_132 (v := 1) (by decide) rfl ?_
      refine g_goto O at_133 (by decide) (pc' := 137) (by decide) ?_
      refine g_forget (Ls' := [none, none, none, none, none, none, none, none, none, none, none, none, none, none, none, none, none, none, none, none, none, none, none, none, none, none]) trivial ?_
      exact m0_t137 O (1 : Int32) H _ _ hf
def m0_b48 (v5 : Int64) (v12 : Int64) (v14 : Int64) (H : List Obj) : Option (Int32 × List Obj) :=
  m0_b108 v5 v12 v14 H
theorem m0_t48 {G : Gx} {K : Kx} (O : Ok0 G K) (v5 : Int64) (v12 : Int64) (v14 : Int64) (H : List Obj) (r : Int32) (Hf : List Obj) (hf : m0_b48 v5 v12 v14 H = some (r, Hf)) : Run G K (some (.int r)) Hf 48 [none, none, none, none, none, some (.long v5), none, none, none, none, none, none, some (.long v12), none, some (.long v14), none, none, none, none, none, none, none, none, none, none, none] [] H 0 0 := by
  unfold m0_b48 at hf
  refine g_goto O at_48 (by decide) (pc' := 108) (by decide) ?_
  exact m0_t108 O v5 v12 v14 H _ _ hf
def m0_b39 (v5 : Int64) (v7 : Int64) (v9 : Int64) (v12 : Int64) (H : List Obj) : Option (Int32 × List Obj) :=
  m0_b48 v5 v12 (m2 v7 v9) H
theorem m0_t39 {G : Gx} {K : Kx} (O : Ok0 G K) (v5 : Int64) (v7 : Int64) (v9 : Int64) (v12 : Int64) (H : List Obj) (r : Int32) (Hf : List Obj) (hf : m0_b39 v5 v7 v9 v12 H = some (r, Hf)) : Run G K (some (.int r)) Hf 39 [none, none, none, none, none, some (.long v5), none, some (.long v7), none, some (.long v9), none, none, some (.long v12), none, none, none, none, none, none, none, none, none, none, none, none, none] [] H 0 0 := by
  unfold m0_b39 at hf
  refine g_lload O (pc' := 41) at_39 (v := v7) rfl rfl ?_
  refine g_lload O (pc' := 43) at_41 (v := v9) rfl rfl ?_
  refine g_static1 O (pc' := 46) at_43 tw6 tw7 tw4 tw8 (by decide) pd2 (as := [(.long v7), (.long v9)]) rfl (st := []) rfl rfl (W := 0) rfl (rm := rm2) (by decide) (by decide) (c2 := 0) (s2 := 0) rfl rfl (by decide) (by decide) (con2 (Ok.w O) v7 v9 H) rfl ?_
  refine g_lstore O (pc' := 48) at_46 (Ls' := [none, none, none, none, none, some (.long v5), none, some (.long v7), none, some (.long v9), none, none, some (.long v12), none, some (.long (m2 v7 v9)), none, none, none, none, none, none, none, none, none, none, none]) rfl rfl ?_
  refine g_forget (Ls' := [none, none, none, none, none, some (.long v5), none, none, none, none, none, none, some (.long v12), none, some (.long (m2 v7 v9)), none, none, none, none, none, none, none, none, none, none, none]) (And.intro rfl (And.intro rfl (And.intro rfl trivial))) ?_
  exact m0_t48 O v5 v12 (m2 v7 v9) H _ _ hf
def m0_b93 (v5 : Int64) (v9 : Int64) (v16 : Int64) (H : List Obj) : Option (Int32 × List Obj) :=
  m0_b108 v5 v16 (v16 + (v9 &&& (17179869183 : Int64))) H
theorem m0_t93 {G : Gx} {K : Kx} (O : Ok0 G K) (v5 : Int64) (v9 : Int64) (v16 : Int64) (H : List Obj) (r : Int32) (Hf : List Obj) (hf : m0_b93 v5 v9 v16 H = some (r, Hf)) : Run G K (some (.int r)) Hf 93 [none, none, none, none, none, some (.long v5), none, none, none, some (.long v9), none, none, none, none, none, none, some (.long v16), none, none, none, none, none, none, none, none, none] [] H 0 0 := by
  unfold m0_b93 at hf
  refine g_lload O (pc' := 95) at_93 (v := v16) rfl rfl ?_
  refine g_lstore O (pc' := 97) at_95 (Ls' := [none, none, none, none, none, some (.long v5), none, none, none, some (.long v9), none, none, some (.long v16), none, none, none, some (.long v16), none, none, none, none, none, none, none, none, none]) rfl rfl ?_
  refine g_lload O (pc' := 99) at_97 (v := v16) rfl rfl ?_
  refine g_lload O (pc' := 101) at_99 (v := v9) rfl rfl ?_
  refine g_ldc2 O (pc' := 104) at_101 tw14 rfl ?_
  refine g_land O (pc' := 105) at_104 rfl ?_
  refine g_ladd O (pc' := 106) at_105 rfl ?_
  refine g_lstore O (pc' := 108) at_106 (Ls' := [none, none, none, none, none, some (.long v5), none, none, none, some (.long v9), none, none, some (.long v16), none, some (.long (v16 + (v9 &&& (17179869183 : Int64)))), none, some (.long v16), none, none, none, none, none, none, none, none, none]) rfl rfl ?_
  refine g_forget (Ls' := [none, none, none, none, none, some (.long v5), none, none, none, none, none, none, some (.long v16), none, some (.long (v16 + (v9 &&& (17179869183 : Int64)))), none, none, none, none, none, none, none, none, none, none, none]) (And.intro rfl (And.intro rfl (And.intro rfl trivial))) ?_
  exact m0_t108 O v5 v16 (v16 + (v9 &&& (17179869183 : Int64))) H _ _ hf
def m0_b74 (v5 : Int64) (v9 : Int64) (v11 : Int32) (v16 : Int64) (H : List Obj) : Option (Int32 × List Obj) :=
  if v11 = (3 : Int32) then
    m0_b93 v5 v9 (v16 &&& ((v5 - (1 : Int64)) ^^^ (-1 : Int64))) H
  else
    m0_b93 v5 v9 v16 H
theorem m0_t74 {G : Gx} {K : Kx} (O : Ok0 G K) (v5 : Int64) (v9 : Int64) (v11 : Int32) (v16 : Int64) (H : List Obj) (r : Int32) (Hf : List Obj) (hf : m0_b74 v5 v9 v11 v16 H = some (r, Hf)) : Run G K (some (.int r)) Hf 74 [none, none, none, none, none, some (.long v5), none, none, none, some (.long v9), none, some (.int v11), none, none, none, none, some (.long v16), none, none, none, none, none, none, none, none, none] [] H 0 0 := by
  unfold m0_b74 at hf
  refine g_iload O (pc' := 76) at_74 (v := v11) rfl rfl ?_
  refine g_iconst O (pc' := 77) at_76 (v := 3) (by decide) rfl ?_
  refine g_icmp_ne O (pc' := 80) at_77 rfl (by decide) (pc1 := 93) (by decide) (fun h77 => ?_) (fun h77 => ?_)
  · rw [if_neg h77] at hf
    refine g_forget (Ls' := [none, none, none, none, none, some (.long v5), none, none, none, some (.long v9), none, none, none, none, none, none, some (.long v16), none, none, none, none, none, none, none, none, none]) (And.intro rfl (And.intro rfl (And.intro rfl trivial))) ?_
    exact m0_t93 O v5 v9 v16 H _ _ hf
  · rw [if_pos h77] at hf
    refine g_lload O (pc' := 82) at_80 (v := v16) rfl rfl ?_
    refine g_lload O (pc' := 84) at_82 (v := v5) rfl rfl ?_
    refine g_lconst O (pc' := 85) at_84 (v := 1) (by decide) rfl ?_
    refine g_lsub O (pc' := 86) at_85 rfl ?_
    refine g_ldc2 O (pc' := 89) at_86 tw13 rfl ?_
    refine g_lxor O (pc' := 90) at_89 rfl ?_
    refine g_land O (pc' := 91) at_90 rfl ?_
    refine g_lstore O (pc' := 93) at_91 (Ls' := [none, none, none, none, none, some (.long v5), none, none, none, some (.long v9), none, some (.int v11), none, none, none, none, some (.long (v16 &&& ((v5 - (1 : Int64)) ^^^ (-1 : Int64)))), none, none, none, none, none, none, none, none, none]) rfl rfl ?_
    refine g_forget (Ls' := [none, none, none, none, none, some (.long v5), none, none, none, some (.long v9), none, none, none, none, none, none, some (.long (v16 &&& ((v5 - (1 : Int64)) ^^^ (-1 : Int64)))), none, none, none, none, none, none, none, none, none]) (And.intro rfl (And.intro rfl (And.intro rfl trivial))) ?_
    exact m0_t93 O v5 v9 (v16 &&& ((v5 - (1 : Int64)) ^^^ (-1 : Int64))) H _ _ hf
def m0_b0 (v0 : Int64) (v2 : Int64) (v4 : Int32) (H : List Obj) : Option (Int32 × List Obj) :=
  if (v4 &&& (3 : Int32)) = 0 then
    m0_b39 (1073741824 : Int64) (v0 &&& (9223372036854775807 : Int64)) (v2 &&& (9223372036854775807 : Int64)) (m1 (v0 &&& (9223372036854775807 : Int64)) (v2 &&& (9223372036854775807 : Int64))) H
  else
    if (v4 &&& (3 : Int32)) = (1 : Int32) then
      m0_b108 (1073741824 : Int64) (v0 &&& (9223372036854775807 : Int64)) (v0 &&& (9223372036854775807 : Int64)) H
    else
      m0_b74 (1073741824 : Int64) (v2 &&& (9223372036854775807 : Int64)) (v4 &&& (3 : Int32)) (XT.ushrL (v0 &&& (9223372036854775807 : Int64)) (1 : Int32)) H
theorem m0_t0 {G : Gx} {K : Kx} (O : Ok0 G K) (v0 : Int64) (v2 : Int64) (v4 : Int32) (H : List Obj) (r : Int32) (Hf : List Obj) (hf : m0_b0 v0 v2 v4 H = some (r, Hf)) : Run G K (some (.int r)) Hf 0 [some (.long v0), none, some (.long v2), none, some (.int v4), none, none, none, none, none, none, none, none, none, none, none, none, none, none, none, none, none, none, none, none, none] [] H 0 0 := by
  unfold m0_b0 at hf
  refine g_ldc2 O (pc' := 3) at_0 tw0 rfl ?_
  refine g_lstore O (pc' := 5) at_3 (Ls' := [some (.long v0), none, some (.long v2), none, some (.int v4), some (.long (1073741824 : Int64)), none, none, none, none, none, none, none, none, none, none, none, none, none, none, none, none, none, none, none, none]) rfl rfl ?_
  refine g_lload_n O (pc' := 6) at_5 (v := v0) rfl rfl ?_
  refine g_ldc2 O (pc' := 9) at_6 tw1 rfl ?_
  refine g_land O (pc' := 10) at_9 rfl ?_
  refine g_lstore O (pc' := 12) at_10 (Ls' := [some (.long v0), none, some (.long v2), none, some (.int v4), some (.long (1073741824 : Int64)), none, some (.long (v0 &&& (9223372036854775807 : Int64))), none, none, none, none, none, none, none, none, none, none, none, none, none, none, none, none, none, none]) rfl rfl ?_
  refine g_lload_n O (pc' := 13) at_12 (v := v2) rfl rfl ?_
  refine g_ldc2 O (pc' := 16) at_13 tw1 rfl ?_
  refine g_land O (pc' := 17) at_16 rfl ?_
  refine g_lstore O (pc' := 19) at_17 (Ls' := [some (.long v0), none, some (.long v2), none, some (.int v4), some (.long (1073741824 : Int64)), none, some (.long (v0 &&& (9223372036854775807 : Int64))), none, some (.long (v2 &&& (9223372036854775807 : Int64))), none, none, none, none, none, none, none, none, none, none, none, none, none, none, none, none]) rfl rfl ?_
  refine g_iload O (pc' := 21) at_19 (v := v4) rfl rfl ?_
  refine g_iconst O (pc' := 22) at_21 (v := 3) (by decide) rfl ?_
  refine g_iand O (pc' := 23) at_22 rfl ?_
  refine g_istore O (pc' := 25) at_23 (Ls' := [some (.long v0), none, some (.long v2), none, some (.int v4), some (.long (1073741824 : Int64)), none, some (.long (v0 &&& (9223372036854775807 : Int64))), none, some (.long (v2 &&& (9223372036854775807 : Int64))), none, some (.int (v4 &&& (3 : Int32))), none, none, none, none, none, none, none, none, none, none, none, none, none, none]) rfl rfl ?_
  refine g_iload O (pc' := 27) at_25 (v := (v4 &&& (3 : Int32))) rfl rfl ?_
  refine g_if_ne O (pc' := 30) at_27 rfl (by decide) (pc1 := 51) (by decide) (fun h27 => ?_) (fun h27 => ?_)
  · rw [if_neg h27] at hf
    refine g_iload O (pc' := 53) at_51 (v := (v4 &&& (3 : Int32))) rfl rfl ?_
    refine g_iconst O (pc' := 54) at_53 (v := 1) (by decide) rfl ?_
    refine g_icmp_ne O (pc' := 57) at_54 rfl (by decide) (pc1 := 68) (by decide) (fun h54 => ?_) (fun h54 => ?_)
    · rw [if_neg h54] at hf
      refine g_lload O (pc' := 70) at_68 (v := (v0 &&& (9223372036854775807 : Int64))) rfl rfl ?_
      refine g_iconst O (pc' := 71) at_70 (v := 1) (by decide) rfl ?_
      refine g_lushr O (pc' := 72) at_71 rfl ?_
      refine g_lstore O (pc' := 74) at_72 (Ls' := [some (.long v0), none, some (.long v2), none, some (.int v4), some (.long (1073741824 : Int64)), none, some (.long (v0 &&& (9223372036854775807 : Int64))), none, some (.long (v2 &&& (9223372036854775807 : Int64))), none, some (.int (v4 &&& (3 : Int32))), none, none, none, none, some (.long (XT.ushrL (v0 &&& (9223372036854775807 : Int64)) (1 : Int32))), none, none, none, none, none, none, none, none, none]) rfl rfl ?_
      refine g_forget (Ls' := [none, none, none, none, none, some (.long (1073741824 : Int64)), none, none, none, some (.long (v2 &&& (9223372036854775807 : Int64))), none, some (.int (v4 &&& (3 : Int32))), none, none, none, none, some (.long (XT.ushrL (v0 &&& (9223372036854775807 : Int64)) (1 : Int32))), none, none, none, none, none, none, none, none, none]) (And.intro rfl (And.intro rfl (And.intro rfl (And.intro rfl trivial)))) ?_
      exact m0_t74 O (1073741824 : Int64) (v2 &&& (9223372036854775807 : Int64)) (v4 &&& (3 : Int32)) (XT.ushrL (v0 &&& (9223372036854775807 : Int64)) (1 : Int32)) H _ _ hf
    · rw [if_pos h54] at hf
      refine g_lload O (pc' := 59) at_57 (v := (v0 &&& (9223372036854775807 : Int64))) rfl rfl ?_
      refine g_lstore O (pc' := 61) at_59 (Ls' := [some (.long v0), none, some (.long v2), none, some (.int v4), some (.long (1073741824 : Int64)), none, some (.long (v0 &&& (9223372036854775807 : Int64))), none, some (.long (v2 &&& (9223372036854775807 : Int64))), none, some (.int (v4 &&& (3 : Int32))), some (.long (v0 &&& (9223372036854775807 : Int64))), none, none, none, none, none, none, none, none, none, none, none, none, none]) rfl rfl ?_
      refine g_lload O (pc' := 63) at_61 (v := (v0 &&& (9223372036854775807 : Int64))) rfl rfl ?_
      refine g_lstore O (pc' := 65) at_63 (Ls' := [some (.long v0), none, some (.long v2), none, some (.int v4), some (.long (1073741824 : Int64)), none, some (.long (v0 &&& (9223372036854775807 : Int64))), none, some (.long (v2 &&& (9223372036854775807 : Int64))), none, some (.int (v4 &&& (3 : Int32))), some (.long (v0 &&& (9223372036854775807 : Int64))), none, some (.long (v0 &&& (9223372036854775807 : Int64))), none, none, none, none, none, none, none, none, none, none, none]) rfl rfl ?_
      refine g_goto O at_65 (by decide) (pc' := 108) (by decide) ?_
      refine g_forget (Ls' := [none, none, none, none, none, some (.long (1073741824 : Int64)), none, none, none, none, none, none, some (.long (v0 &&& (9223372036854775807 : Int64))), none, some (.long (v0 &&& (9223372036854775807 : Int64))), none, none, none, none, none, none, none, none, none, none, none]) (And.intro rfl (And.intro rfl (And.intro rfl trivial))) ?_
      exact m0_t108 O (1073741824 : Int64) (v0 &&& (9223372036854775807 : Int64)) (v0 &&& (9223372036854775807 : Int64)) H _ _ hf
  · rw [if_pos h27] at hf
    refine g_lload O (pc' := 32) at_30 (v := (v0 &&& (9223372036854775807 : Int64))) rfl rfl ?_
    refine g_lload O (pc' := 34) at_32 (v := (v2 &&& (9223372036854775807 : Int64))) rfl rfl ?_
    refine g_static1 O (pc' := 37) at_34 tw2 tw3 tw4 tw5 (by decide) pd1 (as := [(.long (v0 &&& (9223372036854775807 : Int64))), (.long (v2 &&& (9223372036854775807 : Int64)))]) rfl (st := []) rfl rfl (W := 0) rfl (rm := rm1) (by decide) (by decide) (c2 := 0) (s2 := 0) rfl rfl (by decide) (by decide) (con1 (Ok.w O) (v0 &&& (9223372036854775807 : Int64)) (v2 &&& (9223372036854775807 : Int64)) H) rfl ?_
    refine g_lstore O (pc' := 39) at_37 (Ls' := [some (.long v0), none, some (.long v2), none, some (.int v4), some (.long (1073741824 : Int64)), none, some (.long (v0 &&& (9223372036854775807 : Int64))), none, some (.long (v2 &&& (9223372036854775807 : Int64))), none, some (.int (v4 &&& (3 : Int32))), some (.long (m1 (v0 &&& (9223372036854775807 : Int64)) (v2 &&& (9223372036854775807 : Int64)))), none, none, none, none, none, none, none, none, none, none, none, none, none]) rfl rfl ?_
    refine g_forget (Ls' := [none, none, none, none, none, some (.long (1073741824 : Int64)), none, some (.long (v0 &&& (9223372036854775807 : Int64))), none, some (.long (v2 &&& (9223372036854775807 : Int64))), none, none, some (.long (m1 (v0 &&& (9223372036854775807 : Int64)) (v2 &&& (9223372036854775807 : Int64)))), none, none, none, none, none, none, none, none, none, none, none, none, none]) (And.intro rfl (And.intro rfl (And.intro rfl (And.intro rfl trivial)))) ?_
    exact m0_t39 O (1073741824 : Int64) (v0 &&& (9223372036854775807 : Int64)) (v2 &&& (9223372036854775807 : Int64)) (m1 (v0 &&& (9223372036854775807 : Int64)) (v2 &&& (9223372036854775807 : Int64))) H _ _ hf
abbrev m0 (v0 : Int64) (v2 : Int64) (v4 : Int32) (H : List Obj) : Option (Int32 × List Obj) := m0_b0 v0 v2 v4 H

theorem own_u30 (x : Int64) : (XT.ushrL x 30).toInt = (x.toInt % 18446744073709551616) / 1073741824 := by
  have e : XT.ushrL x 30 = (x.toUInt64 >>> ((30 : Int32) &&& 0x3f).toInt64.toUInt64).toInt64 := congrArg (fun z => (x.toUInt64 >>> z).toInt64) (by decide : (30 : Int32).toInt64.toUInt64 &&& Int64.toUInt64 63 = ((30 : Int32) &&& 0x3f).toInt64.toUInt64)
  rw [e]
  exact c_lushr x 30 30 (by decide) (by decide)
theorem own_u1 (x : Int64) : (XT.ushrL x 1).toInt = (x.toInt % 18446744073709551616) / 2 := by
  have e : XT.ushrL x 1 = (x.toUInt64 >>> ((1 : Int32) &&& 0x3f).toInt64.toUInt64).toInt64 := congrArg (fun z => (x.toUInt64 >>> z).toInt64) (by decide : (1 : Int32).toInt64.toUInt64 &&& Int64.toUInt64 63 = ((1 : Int32) &&& 0x3f).toInt64.toUInt64)
  rw [e]
  exact c_lushr x 1 1 (by decide) (by decide)
theorem own_andL (x m : Int64) (h : 0 ≤ x.toInt) : 0 ≤ (x &&& m).toInt ∧ (x &&& m).toInt ≤ x.toInt := by
  have h1 : (x &&& m).toBitVec.toNat ≤ x.toBitVec.toNat := by rw [Int64.toBitVec_and, BitVec.toNat_and]; exact Nat.and_le_left
  have h2 := (c_andSL x m).2.1 h
  have e1 : x.toInt = if 2 * x.toBitVec.toNat < 2 ^ 64 then (x.toBitVec.toNat : Int) else (x.toBitVec.toNat : Int) - (2 ^ 64 : Nat) := BitVec.toInt_eq_toNat_cond x.toBitVec
  have e2 : (x &&& m).toInt = if 2 * (x &&& m).toBitVec.toNat < 2 ^ 64 then ((x &&& m).toBitVec.toNat : Int) else ((x &&& m).toBitVec.toNat : Int) - (2 ^ 64 : Nat) := BitVec.toInt_eq_toNat_cond (x &&& m).toBitVec
  have l1 := x.toBitVec.isLt
  have l2 := (x &&& m).toBitVec.isLt
  split at e1 <;> split at e2 <;> omega
theorem own_addL {x y : Int64} {a b : Int} (hx : x.toInt = a) (hy : y.toInt = b) (h0 : -9223372036854775808 ≤ a + b) (h1 : a + b < 9223372036854775808) : (x + y).toInt = a + b := by
  have e := c_ladd x y; have r := rng64 (x + y); omega
theorem own_subL {x y : Int64} {a b : Int} (hx : x.toInt = a) (hy : y.toInt = b) (h0 : -9223372036854775808 ≤ a - b) (h1 : a - b < 9223372036854775808) : (x - y).toInt = a - b := by
  have e := c_lsub x y; have r := rng64 (x - y); omega
theorem own_mulW {x : Int64} {a : Int} (hx : x.toInt = a) (h0 : 0 ≤ a) (h1 : a < 8589934592) : (x * 1073741824).toInt = a * 1073741824 := by
  have e := c_lmul x 1073741824; have r := rng64 (x * 1073741824)
  rw [show (1073741824 : Int64).toInt = 1073741824 from by decide] at e
  omega
theorem own_int {o e A B : Int} (h0 : 0 ≤ o) (h : o < e) (he : e < 9223372036854775808) (hA : A = (e - 1) / 1073741824) (hB : B = o / 1073741824) : 0 ≤ B ∧ B ≤ A ∧ A < 8589934592 ∧ A * 1073741824 ≤ e - 1 ∧ e - 1 < A * 1073741824 + 1073741824 := by
  refine ⟨?_, ?_, ?_, ?_, ?_⟩ <;> omega
theorem own_core {q n f : Int64} {A B E : Int} (g1 : q.toInt = B) (hc : n.toInt = A - B + 1) (hf : f.toInt = E) (b1 : 0 ≤ B) (b2 : B ≤ A) (b3 : A < 8589934592) (b4 : A * 1073741824 ≤ E) (b5 : E < A * 1073741824 + 1073741824) (b6 : E < 9223372036854775808) :
    ¬ n < 1 ∧ ¬ (9223372036854775807 : Int64) / 1073741824 + 1 < n ∧ ¬ (9223372036854775807 : Int64) / 1073741824 < q + n - 1 ∧ ¬ f < (q + n - 1) * 1073741824 ∧ f - (q + n - 1) * 1073741824 < 1073741824 := by
  have cw : (1073741824 : Int64).toInt = 1073741824 := by decide
  have c1 : (1 : Int64).toInt = 1 := by decide
  have cd : ((9223372036854775807 : Int64) / 1073741824).toInt = 8589934591 := by decide +kernel
  have cd1 : ((9223372036854775807 : Int64) / 1073741824 + 1).toInt = 8589934592 := by decide +kernel
  have b7 : 0 ≤ A := Int.le_trans b1 b2
  have k1 : ¬ n < 1 := by rw [own_ltL, hc, c1]; clear hc g1 hf c1 cw cd cd1 b4 b5; omega
  have k2 : ¬ (9223372036854775807 : Int64) / 1073741824 + 1 < n := by rw [own_ltL, hc, cd1]; clear hc g1 hf c1 cw cd cd1 b4 b5; omega
  have hl : (q + n - 1).toInt = A := by
    have t1 : (q + n).toInt = B + (A - B + 1) := own_addL g1 hc (by clear hc g1 hf c1 cw cd cd1 b4 b5; omega) (by clear hc g1 hf c1 cw cd cd1 b4 b5; omega)
    rw [own_subL t1 c1 (by clear t1 hc g1 hf c1 cw cd cd1 b4 b5; omega) (by clear t1 hc g1 hf c1 cw cd cd1 b4 b5; omega)]
    clear t1 hc g1 hf c1 cw cd cd1 b4 b5; omega
  refine ⟨k1, k2, ?_⟩
  clear k1 k2 hc g1
  generalize q + n - 1 = l at hl ⊢
  have hp : (l * 1073741824).toInt = A * 1073741824 := own_mulW hl b7 b3
  have k3 : ¬ (9223372036854775807 : Int64) / 1073741824 < l := by rw [own_ltL, hl, cd]; clear hp hl hf c1 cw cd cd1 b4 b5; omega
  refine ⟨k3, ?_⟩
  clear k3 hl cd cd1
  generalize l * 1073741824 = p at hp ⊢
  have b8 : 0 ≤ A * 1073741824 := by clear hp hf c1 cw b4 b5; omega
  obtain ⟨Q, hQ⟩ : ∃ Q, Q = A * 1073741824 := ⟨_, rfl⟩
  rw [← hQ] at hp b4 b5 b8
  clear hQ b3 b2 b1 b7
  have hq : (f - p).toInt = E - Q := own_subL hf hp (by clear hf hp c1 cw; omega) (by clear hf hp c1 cw; omega)
  refine ⟨?_, ?_⟩
  · rw [own_ltL, hp, hf]; clear hf hp c1 cw hq; omega
  · rw [own_ltL, hq, cw]; clear hf hp c1 cw hq; omega
theorem own_108 {o e : Int64} (h0 : 0 ≤ o.toInt) (h1 : o.toInt ≤ e.toInt) : m0_b108 1073741824 o e [] = some (1, []) := by
  have cw : (1073741824 : Int64).toInt = 1073741824 := by decide
  have c1 : (1 : Int64).toInt = 1 := by decide
  have cz : ¬ (1073741824 : Int64) = 0 := by decide
  have re : e.toInt < 9223372036854775808 := (rng64 e).2
  unfold m0_b108
  by_cases h : e = o
  · rw [if_pos h]
    have : m3 o e = 0 := by show m3_b0 o e = 0; unfold m3_b0; rw [if_pos h]; rfl
    rw [if_pos this]; rfl
  · rw [if_neg h]
    have hlt : o.toInt < e.toInt := by rw [own_eqL] at h; clear cw c1; omega
    have m3e : m3 o e = XT.ushrL (e - 1) 30 - XT.ushrL o 30 + 1 := by
      show m3_b0 o e = _; unfold m3_b0; rw [if_neg h]; rfl
    have hE : (e - 1).toInt = e.toInt - 1 := own_subL rfl c1 (by clear m3e cw c1; omega) (by clear m3e cw c1; omega)
    obtain ⟨A, hA⟩ : ∃ A, A = (e.toInt - 1) / 1073741824 := ⟨_, rfl⟩
    obtain ⟨B, hB⟩ : ∃ B, B = o.toInt / 1073741824 := ⟨_, rfl⟩
    obtain ⟨b1, b2, b3, b4, b5⟩ := own_int h0 hlt re hA hB
    have uA : (XT.ushrL (e - 1) 30).toInt = A := by rw [own_u30, hE, hA, Int.emod_eq_of_lt (by clear m3e hE cw c1 b1 b2 b3 b4 b5 hA hB; omega) (by clear m3e hE cw c1 b1 b2 b3 b4 b5 hA hB; omega)]
    have uB : (XT.ushrL o 30).toInt = B := by rw [own_u30, hB, Int.emod_eq_of_lt (by clear m3e hE uA cw c1 b1 b2 b3 b4 b5 hA hB; omega) (by clear m3e hE uA cw c1 b1 b2 b3 b4 b5 hA hB; omega)]
    have g1 : (o / 1073741824).toInt = B := by rw [(c_ldiv o 1073741824 1073741824 cw (by decide)).1 h0, hB]
    have hc : (m3 o e).toInt = A - B + 1 := by
      have w1 := own_subL uA uB (by clear m3e hE uA uB g1 cw c1 b4 b5 hA hB; omega) (by clear m3e hE uA uB g1 cw c1 b4 b5 hA hB; omega)
      rw [m3e]; exact own_addL w1 c1 (by clear w1 m3e hE uA uB g1 cw c1 b4 b5 hA hB; omega) (by clear w1 m3e hE uA uB g1 cw c1 b4 b5 hA hB; omega)
    obtain ⟨k1, k2, k3, k4, k5⟩ := own_core g1 hc hE b1 b2 b3 b4 b5 (by clear m3e hE uA uB g1 hc cw c1 b1 b2 b3 b4 b5 hA hB; omega)
    simp only [k1, k2, k3, k4, k5, cz, if_false, if_true]
    rfl
theorem plain (i0 : Int64) (i1 : Int64) (i2 : Int32) : ∃ Hf, m0 i0 i1 i2 [] = some (1, Hf) := by
  refine ⟨[], ?_⟩
  show m0_b0 i0 i1 i2 [] = _
  have a1 : (i0 &&& 9223372036854775807).toInt = i0.toInt % 9223372036854775808 := c_maskL i0 9223372036854775807 63 (by decide) (by decide)
  have a2 : (i1 &&& 9223372036854775807).toInt = i1.toInt % 9223372036854775808 := c_maskL i1 9223372036854775807 63 (by decide) (by decide)
  unfold m0_b0 m0_b39 m0_b48 m0_b74 m0_b93
  generalize i0 &&& 9223372036854775807 = a at *
  generalize i1 &&& 9223372036854775807 = b at *
  split
  · show m0_b108 _ (m1_b0 a b) (m2_b0 a b) [] = _
    unfold m1_b0 m2_b0 m1_b11 m2_b11
    split
    · rename_i q; rw [own_ltL] at q
      rw [if_neg (by rw [own_ltL]; omega)]; exact own_108 (by omega) (by omega)
    · rename_i q; rw [own_ltL] at q
      split
      · rename_i q'; rw [own_ltL] at q'; exact own_108 (by omega) (by omega)
      · rename_i q'; rw [own_ltL] at q'; exact own_108 (by omega) (by omega)
  · split
    · exact own_108 (by omega) (by omega)
    · have u := own_u1 a
      have b1 : (b &&& 17179869183).toInt = b.toInt % 17179869184 := c_maskL b 17179869183 34 (by decide) (by decide)
      split
      · have hm := own_andL (XT.ushrL a 1) ((1073741824 : Int64) - 1 ^^^ -1) (by omega)
        generalize (XT.ushrL a 1) &&& ((1073741824 : Int64) - 1 ^^^ -1) = r at *
        have k1 := c_ladd r (b &&& 17179869183); have k2 := rng64 (r + (b &&& 17179869183))
        exact own_108 (by omega) (by omega)
      · have k1 := c_ladd (XT.ushrL a 1) (b &&& 17179869183); have k2 := rng64 (XT.ushrL a 1 + (b &&& 17179869183))
        exact own_108 (by omega) (by omega)

theorem comes_1 {Post : Tables → Env → Array Value → State → Outcome → State → Prop} (hpost : ∀ tb e args s v u, (limb_1_1.after args s (.returned v) u = true ∧ limb_1_2.after args s (.returned v) u = true ∧ True) → FrameEnd s (.returned v) u (Jvm.fieldLocs frame_1_writes args s ++ Jvm.arrayLocs frame_1_arrays args s ++ Jvm.staticLocs frame_1_statics s) 0 0 → Post tb e args s (.returned v) u) :
    ArmFor flags0 classFile x code maxLocals ret World_1 tables_1 room_1 Calls_1 rest_1 Pre_1 Post := by
  intro l hfl _ _ p e ha hc hk s m args below hf hA hF happ hP
  obtain ⟨hcalls, hrest, hpre⟩ := hP
  obtain ⟨-, -, -, hnamed, -, -, -, hat⟩ := (Spec.applies_iff hf).mp happ
  obtain ⟨hg, hn⟩ := and_e (Cond.before_iff.mp (show (Jvm.Cond.and given_1 narrow_1).before args s = true from hpre))
  obtain ⟨h1, g0⟩ := and_e hg
  obtain ⟨w0, w1, w2, rfl⟩ : ∃ w0 w1 w2 : Value, args = #[w0, w1, w2] := by
    have hs : args.size = 3 := by simpa [Cond.value, given_1] using h1
    obtain ⟨L⟩ := args
    match L, hs with
    | [w0, w1, w2], _ => exact ⟨w0, w1, w2, rfl⟩
  have hw := fun d (hd : d ∈ tables_1) => atoms_spec (ws := Jvm.Cond.code x code maxLocals ret :: tables_1) hat d (List.mem_cons_of_mem _ hd)
  obtain ⟨a0, g1⟩ := and_e g0
  obtain ⟨i0, e0⟩ := isL_v a0
  obtain rfl : w0 = (.long i0) := Option.some.inj e0
  obtain ⟨a1, g2⟩ := and_e g1
  obtain ⟨i1, e1⟩ := isL_v a1
  obtain rfl : w1 = (.long i1) := Option.some.inj e1
  obtain ⟨i2, e2⟩ := is_v g2
  obtain rfl : w2 = (.int i2) := Option.some.inj e2
  obtain ⟨Hf, hlaw⟩ := plain i0 i1 i2
  obtain ⟨n, o, h1, h2, h3, _, L, rfl, ⟨rfl, N⟩, hq⟩ := law_of (l := l) (s := s) (as := [(.long i0), (.long i1), (.int i2)]) (k0 := 0) (k1 := 0) hw pn0 rfl rfl (fun K O => m0_t0 O i0 i1 i2 [] 1 Hf hlaw) p e ha hc hk s m _ below hf ((Spec.applies_iff_loose hf).mp happ).1 ⟨rfl, State.Warmed39.refl s, rfl⟩ trivial
  refine ⟨n, _, h1, h2, h3, hpost _ _ _ _ _ _ ⟨Cond.after_iff.mpr rfl, Cond.after_iff.mpr (eq_i res_at (Term.int_eval (1)) rfl), trivial⟩ ⟨hq.1, hq.2.1, (hq.2.2.sift fun y hy => Or.inr (N y hy)).mono (by decide) (by decide)⟩⟩
theorem main_1_1 : Claimed_1_1 := comes_1 fun _ _ _ _ _ _ h hF => ⟨h.1, hF⟩
theorem main_1_2 : Claimed_1_2 := comes_1 fun _ _ _ _ _ _ h hF => ⟨h.2.1, hF⟩
end Jvm.Pilot.@@N@@
namespace Jvm.Pilot.@@N@@
open Jvm Jvm.ClassFile Sem Op Lib Jvm.Free Jvm.Stand Jvm.Pilot.@@N@@.Jvm.D
/-! MADE BY PROGRAM (witnessworld.py) out of the Statement's table words and the real class files: 11 classes; the members and pool entries that the words name. The judged class is class 1, her method 1. -/
namespace start1
open Jvm.ClassFile
def u (s : String) : CpInfo := .utf8 (stringToUtf16 s)
/-- a pool by its gaps: so many unusable entries, then the entry; so many at the end -/
def gap : Nat → List CpInfo → List CpInfo
  | 0, r => r
  | n + 1, r => .unusable :: gap n r
def poolList (es : List (Nat × CpInfo)) (last : Nat) : List CpInfo := es.foldr (fun e r => gap e.1 (e.2 :: r)) (gap last [])
def pool (es : List (Nat × CpInfo)) (last : Nat) : Array CpInfo := ⟨poolList es last⟩
def fileOf (pool : Array CpInfo) (this : Nat) (attrs : Array Attribute := #[]) (ms : Array MethodInfo := #[]) (fl : Nat := 33) (sup : Nat := 0) (ifs : Array Nat := #[]) (fds : Array FieldInfo := #[]) : ClassFile where
  minorVersion := 0
  majorVersion := 65
  constantPool := pool
  accessFlags := fl
  thisClass := this
  superClass := sup
  interfaces := ifs
  fields := fds
  methods := ms
  attributes := attrs
def plain (name : String) (sup : Option ClassId) : Class where
  name := name
  kind := .ordinary
  loader := none
  accessFlags := 33
  super := sup
  interfaces := #[]
  cf := none
  fields := #[]
  methods := #[]
  instanceTypes := #[]
  staticTypes := #[]
  resolved := #[]
  callSites := []
  init := .initialized
  statics := none
  mirror := none

def pool0 : Array CpInfo := pool [(5, u "<init>"), (0, u "()V"), (1, .class_ 10), (1, u "java/lang/Object")] 113

def k0m0 : Method := { name := "<init>", desc := "()V", sig := { parameters := [], returnType := none }, accessFlags := 1, code := none }
/-- java/lang/Object -/
def k0 : Class := { plain "java/lang/Object" none with
  accessFlags := 33
  interfaces := #[]
  cf := some (fileOf pool0 8 #[] #[{ accessFlags := 1, nameIndex := 5, descriptorIndex := 6, attributes := #[] }] 33 0 #[] #[])
  fields := #[]
  methods := #[k0m0]
  instanceTypes := #[]
  staticTypes := #[]
  resolved := Array.replicate 124 none
  statics := none }

def pool1 : Array CpInfo := pool [(2, .class_ 4), (1, u "java/lang/Object"), (0, u "<init>"), (0, u "()V"), (0, .long 1073741824), (3, .long 9223372036854775807), (1, .methodref 14 15), (0, .class_ 16), (0, .nameAndType 17 18), (0, u "java/lang/Math"), (0, u "min"), (0, u "(JJ)J"), (0, .methodref 14 20), (0, .nameAndType 21 18), (0, u "max"), (0, .long 18446744073709551615), (1, .long 17179869183), (1, .methodref 27 28), (0, .class_ 29), (0, .nameAndType 30 18), (0, u "org/safehold/MappedFile"), (0, u "windowCount"), (0, .class_ 32), (0, u "org/safehold/MappedFileWindowCountPinLaw"), (2, u "law"), (0, u "(JJI)Z")] 3

def k1m0 : Method := { name := "<init>", desc := "()V", sig := { parameters := [], returnType := none }, accessFlags := 2, code := none }
def k1c1 : Code := { maxStack := 6, maxLocals := 26, code := code, exceptionTable := #[], attributes := #[] }
def k1m1 : Method := { name := "law", desc := "(JJI)Z", sig := { parameters := [.long, .long, .int], returnType := some .boolean }, accessFlags := 9, code := some k1c1 }
/-- org/safehold/MappedFileWindowCountPinLaw -/
def k1 : Class := { plain "org/safehold/MappedFileWindowCountPinLaw" (some 0) with
  accessFlags := 49
  interfaces := #[]
  cf := some (fileOf pool1 31 #[] #[{ accessFlags := 2, nameIndex := 5, descriptorIndex := 6, attributes := #[] }, { accessFlags := 9, nameIndex := 35, descriptorIndex := 36, attributes := #[] }] 49 2 #[] #[])
  fields := #[]
  methods := #[k1m0, k1m1]
  instanceTypes := #[]
  staticTypes := #[]
  resolved := Array.replicate 40 none
  statics := none }

def pool2 : Array CpInfo := pool [(1, .class_ 2), (0, u "java/lang/Math"), (1, .class_ 6), (1, u "java/lang/Object"), (0, u "<init>"), (0, u "()V"), (89, .class_ 100), (1, u "java/lang/Math$RandomNumberGeneratorHolder"), (20, u "(JJ)J"), (50, u "negativeZeroFloatBits"), (0, u "J"), (2, u "negativeZeroDoubleBits"), (21, u "max"), (2, u "min"), (43, u "$assertionsDisabled"), (0, u "Z"), (91, u "twoToTheDoubleScaleDown"), (0, u "D"), (4, u "twoToTheDoubleScaleUp"), (9, u "E"), (3, u "PI"), (2, u "TAU"), (2, u "DEGREES_TO_RADIANS"), (0, u "RADIANS_TO_DEGREES")] 94

def k2m0 : Method := { name := "<init>", desc := "()V", sig := { parameters := [], returnType := none }, accessFlags := 2, code := none }
def k2c1 : Code := { maxStack := 4, maxLocals := 4, code := jdk_29_method_66_code, exceptionTable := #[], attributes := #[] }
def k2m1 : Method := { name := "max", desc := "(JJ)J", sig := { parameters := [.long, .long], returnType := some .long }, accessFlags := 9, code := some k2c1 }
def k2c2 : Code := { maxStack := 4, maxLocals := 4, code := jdk_29_method_70_code, exceptionTable := #[], attributes := #[] }
def k2m2 : Method := { name := "min", desc := "(JJ)J", sig := { parameters := [.long, .long], returnType := some .long }, accessFlags := 9, code := some k2c2 }
/-- java/lang/Math -/
def k2 : Class := { plain "java/lang/Math" (some 0) with
  accessFlags := 49
  interfaces := #[]
  cf := some (fileOf pool2 1 #[.nestMembers #[98]] #[{ accessFlags := 2, nameIndex := 7, descriptorIndex := 8, attributes := #[] }, { accessFlags := 9, nameIndex := 198, descriptorIndex := 121, attributes := #[] }, { accessFlags := 9, nameIndex := 201, descriptorIndex := 121, attributes := #[] }] 49 4 #[] #[{ accessFlags := 25, nameIndex := 354, descriptorIndex := 339, attributes := #[] }, { accessFlags := 25, nameIndex := 358, descriptorIndex := 339, attributes := #[] }, { accessFlags := 25, nameIndex := 361, descriptorIndex := 339, attributes := #[] }, { accessFlags := 26, nameIndex := 364, descriptorIndex := 339, attributes := #[] }, { accessFlags := 26, nameIndex := 365, descriptorIndex := 339, attributes := #[] }, { accessFlags := 26, nameIndex := 172, descriptorIndex := 173, attributes := #[] }, { accessFlags := 26, nameIndex := 176, descriptorIndex := 173, attributes := #[] }, { accessFlags := 8, nameIndex := 344, descriptorIndex := 339, attributes := #[] }, { accessFlags := 8, nameIndex := 338, descriptorIndex := 339, attributes := #[] }, { accessFlags := 4120, nameIndex := 245, descriptorIndex := 246, attributes := #[] }])
  fields := #[{ name := "E", type := .double, accessFlags := 25, slot := 0, constantValue := 0 }, { name := "PI", type := .double, accessFlags := 25, slot := 1, constantValue := 0 }, { name := "TAU", type := .double, accessFlags := 25, slot := 2, constantValue := 0 }, { name := "DEGREES_TO_RADIANS", type := .double, accessFlags := 26, slot := 3, constantValue := 0 }, { name := "RADIANS_TO_DEGREES", type := .double, accessFlags := 26, slot := 4, constantValue := 0 }, { name := "negativeZeroFloatBits", type := .long, accessFlags := 26, slot := 5, constantValue := 0 }, { name := "negativeZeroDoubleBits", type := .long, accessFlags := 26, slot := 6, constantValue := 0 }, { name := "twoToTheDoubleScaleUp", type := .double, accessFlags := 8, slot := 7, constantValue := 0 }, { name := "twoToTheDoubleScaleDown", type := .double, accessFlags := 8, slot := 8, constantValue := 0 }, { name := "$assertionsDisabled", type := .boolean, accessFlags := 4120, slot := 9, constantValue := 0 }]
  methods := #[k2m0, k2m1, k2m2]
  instanceTypes := #[]
  staticTypes := #[.double, .double, .double, .double, .double, .long, .long, .double, .double, .boolean]
  resolved := Array.replicate 460 none
  statics := none }

def pool3 : Array CpInfo := pool [(2, .class_ 4), (1, u "org/safehold/FileMapping"), (33, .class_ 39), (0, u "java/lang/Object")] 11

/-- org/safehold/FileMapping -/
def k3 : Class := { plain "org/safehold/FileMapping" (some 0) with
  accessFlags := 1536
  interfaces := #[]
  cf := some (fileOf pool3 2 #[] #[] 1536 38 #[] #[])
  fields := #[]
  methods := #[]
  instanceTypes := #[]
  staticTypes := #[]
  resolved := Array.replicate 51 none
  statics := none }

def pool4 : Array CpInfo := pool [(1, .class_ 2), (0, u "org/safehold/MappedFile"), (1, .class_ 6), (1, u "java/lang/Object"), (4, u "mode"), (0, u "Ljava/nio/channels/FileChannel$MapMode;"), (2, u "address"), (0, u "J"), (4, u "origin"), (2, u "mappings"), (0, u "[Ljava/nio/MappedByteBuffer;"), (6, u "oneBlock"), (0, u "Z"), (8, u "windowCount"), (0, u "(JJ)J"), (2, u "windows"), (2, u "shifts"), (0, u "[J"), (41, u "ADDRESS_SPACE"), (0, u "Ljava/lang/Object;"), (2, u "downwardFirst"), (31, u "next"), (16, u "LITTLE_ENDIAN"), (53, .class_ 201), (1, u "org/safehold/FileMapping"), (11, u "WINDOW_SHIFT"), (0, u "I"), (2, u "WINDOW_SIZE"), (0, u "PLACEMENTS"), (1, u "Lorg/safehold/MappedFile;")] 24

def k4c0 : Code := { maxStack := 5, maxLocals := 4, code := prog_33_method_3_code, exceptionTable := #[], attributes := #[] }
def k4m0 : Method := { name := "windowCount", desc := "(JJ)J", sig := { parameters := [.long, .long], returnType := some .long }, accessFlags := 8, code := some k4c0 }
/-- org/safehold/MappedFile -/
def k4 : Class := { plain "org/safehold/MappedFile" (some 0) with
  accessFlags := 48
  interfaces := #[3]
  cf := some (fileOf pool4 1 #[] #[{ accessFlags := 8, nameIndex := 42, descriptorIndex := 43, attributes := #[] }] 48 4 #[199] #[{ accessFlags := 26, nameIndex := 213, descriptorIndex := 214, attributes := #[] }, { accessFlags := 24, nameIndex := 217, descriptorIndex := 16, attributes := #[] }, { accessFlags := 26, nameIndex := 218, descriptorIndex := 214, attributes := #[] }, { accessFlags := 10, nameIndex := 96, descriptorIndex := 33, attributes := #[] }, { accessFlags := 24, nameIndex := 92, descriptorIndex := 93, attributes := #[] }, { accessFlags := 26, nameIndex := 145, descriptorIndex := 33, attributes := #[] }, { accessFlags := 18, nameIndex := 11, descriptorIndex := 12, attributes := #[] }, { accessFlags := 18, nameIndex := 15, descriptorIndex := 16, attributes := #[] }, { accessFlags := 18, nameIndex := 21, descriptorIndex := 16, attributes := #[] }, { accessFlags := 18, nameIndex := 24, descriptorIndex := 25, attributes := #[] }, { accessFlags := 18, nameIndex := 46, descriptorIndex := 25, attributes := #[] }, { accessFlags := 18, nameIndex := 49, descriptorIndex := 50, attributes := #[] }, { accessFlags := 18, nameIndex := 32, descriptorIndex := 33, attributes := #[] }, { accessFlags := 0, nameIndex := 128, descriptorIndex := 220, attributes := #[] }])
  fields := #[{ name := "WINDOW_SHIFT", type := .int, accessFlags := 26, slot := 0, constantValue := 0 }, { name := "WINDOW_SIZE", type := .long, accessFlags := 24, slot := 1, constantValue := 0 }, { name := "PLACEMENTS", type := .int, accessFlags := 26, slot := 2, constantValue := 0 }, { name := "downwardFirst", type := .boolean, accessFlags := 10, slot := 3, constantValue := 0 }, { name := "ADDRESS_SPACE", type := (.object "java/lang/Object"), accessFlags := 24, slot := 4, constantValue := 0 }, { name := "LITTLE_ENDIAN", type := .boolean, accessFlags := 26, slot := 5, constantValue := 0 }, { name := "mode", type := (.object "java/nio/channels/FileChannel$MapMode"), accessFlags := 18, slot := 0, constantValue := 0 }, { name := "address", type := .long, accessFlags := 18, slot := 1, constantValue := 0 }, { name := "origin", type := .long, accessFlags := 18, slot := 2, constantValue := 0 }, { name := "mappings", type := (.array (.object "java/nio/MappedByteBuffer")), accessFlags := 18, slot := 3, constantValue := 0 }, { name := "windows", type := (.array (.object "java/nio/MappedByteBuffer")), accessFlags := 18, slot := 4, constantValue := 0 }, { name := "shifts", type := (.array .long), accessFlags := 18, slot := 5, constantValue := 0 }, { name := "oneBlock", type := .boolean, accessFlags := 18, slot := 6, constantValue := 0 }, { name := "next", type := (.object "org/safehold/MappedFile"), accessFlags := 0, slot := 7, constantValue := 0 }]
  methods := #[k4m0]
  instanceTypes := #[(.object "java/nio/channels/FileChannel$MapMode"), .long, .long, (.array (.object "java/nio/MappedByteBuffer")), (.array (.object "java/nio/MappedByteBuffer")), (.array .long), .boolean, (.object "org/safehold/MappedFile")]
  staticTypes := #[.int, .long, .int, .boolean, (.object "java/lang/Object"), .boolean]
  resolved := Array.replicate 245 none
  statics := none }

def pool5 : Array CpInfo := pool [(1, u "java/lang/Cloneable"), (0, .class_ 1), (0, u "java/lang/Object"), (0, .class_ 3)] 3

/-- java/lang/Cloneable -/
def k5 : Class := { plain "java/lang/Cloneable" (some 0) with
  accessFlags := 1537
  interfaces := #[]
  cf := some (fileOf pool5 2 #[] #[] 1537 4 #[] #[])
  fields := #[]
  methods := #[]
  instanceTypes := #[]
  staticTypes := #[]
  resolved := Array.replicate 8 none
  statics := none }

def pool6 : Array CpInfo := pool [(1, u "java/io/Serializable"), (0, .class_ 1), (0, u "java/lang/Object"), (0, .class_ 3)] 3

/-- java/io/Serializable -/
def k6 : Class := { plain "java/io/Serializable" (some 0) with
  accessFlags := 1537
  interfaces := #[]
  cf := some (fileOf pool6 2 #[] #[] 1537 4 #[] #[])
  fields := #[]
  methods := #[]
  instanceTypes := #[]
  staticTypes := #[]
  resolved := Array.replicate 8 none
  statics := none }

/-- the primitive byte -/
def k7 : Class := { plain "byte" none with kind := .primitive 'B', accessFlags := 0x411 }
/-- [B -/
def k8 : Class := { plain "[B" (some 0) with kind := .array 7 .byte, interfaces := #[5, 6], accessFlags := 1041 }

/-- the primitive int -/
def k9 : Class := { plain "int" none with kind := .primitive 'I', accessFlags := 0x411 }
/-- [I -/
def k10 : Class := { plain "[I" (some 0) with kind := .array 9 .int, interfaces := #[5, 6], accessFlags := 1041 }

def heap : Heap := #[]
def classes : Array Class := #[k0, k1, k2, k3, k4, k5, k6, k7, k8, k9, k10]
def interned : List (Array UInt16 × Addr) := []
def slotsUsed : Nat := 0
def theMethod : MethodId := ⟨1, 1⟩
def args0 : Array Value := #[.long 5, .long 5, .int 5]
def aboutOver (below : List Frame) : State where
  vm := { classes := classes, interned := interned.toArray }
  heap := heap
  slotsUsed := slotsUsed
  threads := #[{ frames := .invoking theMethod args0 :: below }]
def below0 : List Frame := [.native { method := ⟨0, 0⟩, args := #[] }]
def about1 : State := aboutOver below0
def p0 : Program := .bare "" "" ""
def e0 : Env := launch0.env 0 0 0
theorem w_frames : about1.frames = Frame.invoking theMethod args0 :: below0 := rfl
set_option maxRecDepth 65536 in
theorem w_args : argsFit about1.vm theMethod args0 = true := by decide +kernel
set_option maxRecDepth 65536 in
theorem w_heap : heapFits about1 = true := by decide +kernel
set_option maxRecDepth 65536 in
theorem w_runnable : about1.curStatus? = some .runnable := by decide +kernel
set_option maxRecDepth 65536 in
theorem w_alone : about1.alone = true := by decide +kernel
set_option maxRecDepth 65536 in
theorem w_named : about1.methodNamed? x = some theMethod := by decide +kernel
set_option maxRecDepth 65536 in
theorem w_hears : about1.hears theMethod below0 = true := by decide +kernel
set_option maxRecDepth 65536 in
theorem w_ripe : about1.ripe theMethod args0 below0 = true := by decide +kernel
theorem w_running : about1.status = .running := rfl
set_option maxRecDepth 65536 in
theorem w_room : about1.hasRoom e0.platform room_1 = true :=
  launch0.hasRoom_least _ room_1 (by decide +kernel) (by decide +kernel) (by decide +kernel) (by decide +kernel) (by decide +kernel) (by decide +kernel)
theorem allAtoms_all (ts : List Jvm.Cond) (a : Array Jvm.Value) (st : Jvm.State) : (allAtoms ts).before a st = ts.all (fun c => c.before a st) := by
  induction ts with
  | nil => rfl
  | cons c t ih =>
    show (Jvm.Cond.and c (allAtoms t)).before a st = _
    rw [Jvm.Cond.before_and, ih, List.all_cons]
def words1 : List Jvm.Cond := Jvm.Cond.code x code maxLocals ret :: tables_1
/-- a 'code' word, met by the world's own term for the bytes: nothing is compared byte by byte -/
theorem code_word {y : MethodName} {bytes : ByteArray} {mx : Nat} {rt : Option FieldType} {a : Array Value} {s : State} {m : MethodId} {meth : Method} {c : Code} (h1 : s.methodNamed? y = some m) (h2 : s.vm.method? m = some meth) (h3 : meth.code = some c) (h4 : c.code = bytes)
    (h5 : (c.maxLocals == mx && c.exceptionTable.isEmpty && decide (c.maxStack ≤ mostOperands) && decide (meth.sig.returnType = rt) && !meth.locks && decide (parseMethodDescriptor y.desc = some meth.sig)) = true) : (Jvm.Cond.code y bytes mx rt).before a s = true := by
  simp only [Bool.and_eq_true, beq_iff_eq, Bool.not_eq_true', decide_eq_true_eq] at h5
  obtain ⟨⟨⟨⟨⟨g1, g2⟩, g3⟩, g4⟩, g5⟩, g6⟩ := h5
  simp [Cond.before, Cond.holds, Cond.value, h1, h2, h3, h4, g1, g2, g3, g4, g5, g6]
def isCode : Jvm.Cond → Bool
  | .code _ _ _ _ => true
  | _ => false
theorem all_split {L : List Jvm.Cond} {P : Jvm.Cond → Bool} (h1 : L.all (fun c => isCode c || P c) = true) (h2 : ∀ c ∈ L.filter isCode, P c = true) : L.all P = true := by
  refine List.all_eq_true.mpr fun c hc => ?_
  have h := List.all_eq_true.mp h1 c hc
  rcases Bool.eq_false_or_eq_true (isCode c) with hi | hi
  · exact h2 c (List.mem_filter.mpr ⟨hc, hi⟩)
  · simpa [hi] using h
set_option maxRecDepth 65536 in
theorem w_c0 : (Jvm.Cond.code x code maxLocals ret).before args0 about1 = true := code_word (m := ⟨1, 1⟩) (meth := k1m1) (c := k1c1) (by decide +kernel) rfl rfl rfl (by decide +kernel)
set_option maxRecDepth 65536 in
theorem w_c1 : (Jvm.Cond.code ({ cls := "java/lang/Math", name := "min", desc := "(JJ)J" } : Jvm.MethodName) jdk_29_method_70_code (4 : Nat) (Option.some Jvm.ClassFile.FieldType.long)).before args0 about1 = true := code_word (m := ⟨2, 2⟩) (meth := k2m2) (c := k2c2) (by decide +kernel) rfl rfl rfl (by decide +kernel)
set_option maxRecDepth 65536 in
theorem w_c2 : (Jvm.Cond.code ({ cls := "java/lang/Math", name := "max", desc := "(JJ)J" } : Jvm.MethodName) jdk_29_method_66_code (4 : Nat) (Option.some Jvm.ClassFile.FieldType.long)).before args0 about1 = true := code_word (m := ⟨2, 1⟩) (meth := k2m1) (c := k2c1) (by decide +kernel) rfl rfl rfl (by decide +kernel)
set_option maxRecDepth 65536 in
theorem w_c3 : (Jvm.Cond.code ({ cls := "org/safehold/MappedFile", name := "windowCount", desc := "(JJ)J" } : Jvm.MethodName) prog_33_method_3_code (4 : Nat) (Option.some Jvm.ClassFile.FieldType.long)).before args0 about1 = true := code_word (m := ⟨4, 0⟩) (meth := k4m0) (c := k4c0) (by decide +kernel) rfl rfl rfl (by decide +kernel)
def codes1 : List Jvm.Cond := [Jvm.Cond.code x code maxLocals ret, Jvm.Cond.code ({ cls := "java/lang/Math", name := "min", desc := "(JJ)J" } : Jvm.MethodName) jdk_29_method_70_code (4 : Nat) (Option.some Jvm.ClassFile.FieldType.long), Jvm.Cond.code ({ cls := "java/lang/Math", name := "max", desc := "(JJ)J" } : Jvm.MethodName) jdk_29_method_66_code (4 : Nat) (Option.some Jvm.ClassFile.FieldType.long), Jvm.Cond.code ({ cls := "org/safehold/MappedFile", name := "windowCount", desc := "(JJ)J" } : Jvm.MethodName) prog_33_method_3_code (4 : Nat) (Option.some Jvm.ClassFile.FieldType.long)]
set_option maxRecDepth 65536 in
theorem codes_eq : words1.filter isCode = codes1 := rfl
theorem w_codes : ∀ c ∈ words1.filter isCode, c.before args0 about1 = true := by
  rw [codes_eq]
  intro c hc
  simp only [codes1, List.mem_cons, List.not_mem_nil, or_false] at hc
  rcases hc with rfl | rfl | rfl | rfl
  · exact w_c0
  · exact w_c1
  · exact w_c2
  · exact w_c3
set_option maxRecDepth 65536 in
theorem w_t1 : words1.all (fun c => isCode c || c.before args0 about1) = true := by decide +kernel
theorem w_tables : (allAtoms (Jvm.Cond.code x code maxLocals ret :: tables_1)).before args0 about1 = true := by
  rw [allAtoms_all]
  show words1.all (fun c => c.before args0 about1) = true
  refine all_split ?_ w_codes
  rw [w_t1]
set_option maxRecDepth 65536 in
theorem w_case : (Jvm.Cond.and given_1 narrow_1).before args0 about1 = true := by decide +kernel
theorem w_applies : (headSpec (Jvm.Cond.code x code maxLocals ret :: tables_1) room_1).applies x e0.platform about1 = true :=
  (Spec.applies_iff w_frames).mpr ⟨w_running, w_runnable, w_alone, w_named, w_hears, w_ripe, w_room, w_tables⟩
theorem atStart : AtStart classFile x code maxLocals ret World_1 tables_1 room_1 Calls_1 rest_1 Pre_1 launch0 p0 e0 about1 theMethod args0 below0 :=
  ⟨lists_1, trivial, launch0.admits_env _ _ _, launch0.least_env, fairChoices_fair.cas, fairChoices_fair.clock, w_frames, w_args, w_heap, w_applies, trivial, trivial, w_case⟩
end start1
theorem witness_1 : WitnessClaimed_1 := ⟨start1.p0, start1.e0, start1.about1, start1.theMethod, start1.args0, start1.below0, start1.atStart⟩
end Jvm.Pilot.@@N@@
