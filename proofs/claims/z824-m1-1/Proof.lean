import JvmDerived
import JvmDerived.Pilot.@@N@@Statement
import JvmDerived.Pilot.@@N@@Code
set_option linter.unusedVariables false
set_option linter.unusedSimpArgs false
set_option maxRecDepth 65536
set_option maxHeartbeats 4000000
namespace Jvm.Pilot.@@N@@
open Jvm Jvm.ClassFile Sem Op Lib Jvm.Free Jvm.Stand Jvm.LawKit Jvm.RoadKit Bundle Jvm.Pilot.@@N@@.Jvm.D
theorem tw0 : Jvm.Cond.constantLong "com/example/waystation/waystation/placement/LimbsLessPinLaw" (7 : Nat) (9223372036854775807 : Int64) ∈ tables_1 := List.mem_of_getElem? (i := 0) rfl
theorem tw1 : Jvm.Cond.arrayClass FieldType.long ∈ tables_1 := List.mem_of_getElem? (i := 1) rfl
theorem tw2 : Jvm.Cond.methodLink "com/example/waystation/waystation/placement/LimbsLessPinLaw" (9 : Nat) (⟨"com/example/waystation/waystation/placement/Limbs", "less", "([JI[JII)Z"⟩ : MethodName) ∈ tables_1 := List.mem_of_getElem? (i := 2) rfl
theorem tw3 : Jvm.Cond.static (⟨"com/example/waystation/waystation/placement/Limbs", "less", "([JI[JII)Z"⟩ : MethodName) ∈ tables_1 := List.mem_of_getElem? (i := 3) rfl
theorem tw4 : Jvm.Cond.initialized "com/example/waystation/waystation/placement/Limbs" ∈ tables_1 := List.mem_of_getElem? (i := 4) rfl
theorem tw5 : Jvm.Cond.code (⟨"com/example/waystation/waystation/placement/Limbs", "less", "([JI[JII)Z"⟩ : MethodName) prog_23_method_8_code (10 : Nat) (Option.some FieldType.boolean) ∈ tables_1 := List.mem_of_getElem? (i := 5) rfl
def lay (t : Nat) : String × List (String × String) := ("", [])
theorem lay_word (t : Nat) (nd : String × String) (h : nd ∈ (lay t).2) : Jvm.Cond.lays (lay t).1 (lay t).1 nd.1 nd.2 ∈ tables_1 ∨ Jvm.Cond.laysFinal (lay t).1 (lay t).1 nd.1 nd.2 ∈ tables_1 := by simp [lay] at h
theorem lay_parse (t : Nat) (nd : String × String) (h : nd ∈ (lay t).2) : ∃ ty, parseFieldDescriptor nd.2 = some ty := by simp [lay] at h
theorem lay_names (t k k' : Nat) (nd nd' : String × String) (h1 : (lay t).2[k]? = some nd) (h2 : (lay t).2[k']? = some nd') (ne : k ≠ k') : nd.1 ≠ nd'.1 := by simp [lay] at h1
/-! the abstract machine over the library's laws -/
abbrev Obj := Sum (FieldType × List Value) (Nat × List Value)
abbrev Gx := Launch × State × Array Value × Nat
abbrev Kx := Program × Env × Room × State × MethodId × Array Value × List Frame × Method × Code × Nat × Nat
/-- a reference of the model is the number of an own object; the object of number 0 lies at n -/
def sh (n : Nat) : Value → Value
  | .ref i => .ref (n + i)
  | v => v
theorem sh_cat (n : Nat) (v : Value) : (sh n v).category = v.category := by cases v <;> rfl
/-! local variables -/
def Wf (f : Nat → Option Slot) : Prop :=
  (∀ (k : Nat) (v : Value), f k = some (Slot.val v) → v.category = 2 → f (k + 1) = some .second) ∧ (∀ k, f k = some .second → ∃ v : Value, 1 ≤ k ∧ f (k - 1) = some (Slot.val v) ∧ v.category = 2)
def Lrel (n : Nat) (Ls : List (Option Value)) (L : Array Slot) : Prop :=
  L.size = Ls.length ∧ Wf (fun k => L[k]?) ∧ ∀ (k : Nat) (v : Value), Ls[k]? = some (some v) → L[k]? = some (Slot.val (sh n v))
def clr (Ls : List (Option Value)) : Nat → List (Option Value)
  | 0 => Ls
  | j + 1 => match Ls[j]? with
    | some (some w) => if w.category = 2 then Ls.set j none else Ls
    | _ => Ls
def stor (Ls : List (Option Value)) (i : Nat) (v : Value) : Option (List (Option Value)) :=
  if v.category = 2 then (if i + 1 < Ls.length then some (((clr Ls i).set i (some v)).set (i + 1) none) else none) else (if i < Ls.length then some ((clr Ls i).set i (some v)) else none)
theorem wf_gen {f f' : Nat → Option Slot} (hf : Wf f) {i last : Nat} {v : Value} (hl : (v.category = 2 ∧ last = i + 1 ∧ f' (i + 1) = some .second) ∨ (v.category ≠ 2 ∧ last = i)) (h0 : f' i = some (Slot.val v))
    (h1 : ∀ k, k + 1 = i → ∀ w : Value, f k = some (Slot.val w) → w.category = 2 → f' k = some .unset) (h2 : f (last + 1) = some .second → f' (last + 1) = some .unset)
    (h3 : ∀ k, k < i ∨ last < k → f' k = f k ∨ (f' k = some .unset ∧ ((k + 1 = i ∧ ∃ w : Value, f k = some (Slot.val w) ∧ w.category = 2) ∨ (k = last + 1 ∧ f k = some .second)))) : Wf f' := by
  have hc : ∀ k, k = i ∨ (k = i + 1 ∧ last = i + 1 ∧ f' (i + 1) = some .second) ∨ (k < i ∨ last < k) := fun k => by
    rcases hl with ⟨-, a, b⟩ | ⟨-, a⟩
    · by_cases h : k = i; · exact Or.inl h
      by_cases h' : k = i + 1; · exact Or.inr (Or.inl ⟨h', a, b⟩)
      exact Or.inr (Or.inr (by omega))
    · by_cases h : k = i; · exact Or.inl h
      exact Or.inr (Or.inr (by omega))
  have hli : i ≤ last := by omega
  constructor
  · intro k w hk hw
    rcases hc k with rfl | ⟨rfl, -, b⟩ | h
    · rcases hl with ⟨-, -, b⟩ | ⟨a, -⟩
      · exact b
      · rw [h0] at hk; cases hk; exact absurd hw a
    · rw [b] at hk; cases hk
    · rcases h3 k h with q | ⟨q, -⟩
      · rw [q] at hk
        have hs := hf.1 k w hk hw
        by_cases e1 : k + 1 = i
        · have := h1 k e1 w hk hw; rw [q, hk] at this; cases this
        · have h' : k + 1 < i ∨ last < k + 1 := by omega
          rcases h3 (k + 1) h' with q' | ⟨-, ⟨-, w', a, -⟩ | ⟨a, -⟩⟩
          · rw [q']; exact hs
          · rw [hs] at a; cases a
          · omega
      · rw [q] at hk; cases hk
  · intro k hk
    rcases hc k with rfl | ⟨rfl, a, b⟩ | h
    · rw [h0] at hk; cases hk
    · rcases hl with ⟨c, -, -⟩ | ⟨-, c⟩
      · exact ⟨v, by omega, by simpa using h0, c⟩
      · omega
    · rcases h3 k h with q | ⟨q, -⟩
      · rw [q] at hk
        obtain ⟨w, k1, hw, hw2⟩ := hf.2 k hk
        by_cases e1 : k = last + 1
        · subst e1; have := h2 hk; rw [q, hk] at this; cases this
        · have h' : k - 1 < i ∨ last < k - 1 := by
            rcases h with h | h
            · exact Or.inl (by omega)
            · exact Or.inr (by omega)
          rcases h3 (k - 1) h' with q' | ⟨-, ⟨a, -⟩ | ⟨a, b⟩⟩
          · exact ⟨w, k1, by rw [q']; exact hw, hw2⟩
          · have : k = i := by omega
            omega
          · rw [hw] at b; cases b
      · rw [q] at hk; cases hk
theorem clr_get {Ls : List (Option Value)} {i k : Nat} {w : Value} (h : (clr Ls i)[k]? = some (some w)) : Ls[k]? = some (some w) ∧ (k + 1 = i → w.category ≠ 2) := by
  cases i with
  | zero => exact ⟨h, fun q => by omega⟩
  | succ j =>
    simp only [clr] at h
    split at h
    · rename_i w' hw'
      split at h
      · rename_i h2
        by_cases e : j = k
        · subst e; rw [List.getElem?_set] at h; simp at h
        · rw [List.getElem?_set_ne e] at h; exact ⟨h, fun q => by omega⟩
      · rename_i h2
        refine ⟨h, fun q => ?_⟩
        have : j = k := by omega
        subst this; rw [hw'] at h; cases h; exact h2
    · rename_i hn
      refine ⟨h, fun q => ?_⟩
      have : j = k := by omega
      subst this; exact absurd h (hn w)
theorem clr_len (Ls : List (Option Value)) (i : Nat) : (clr Ls i).length = Ls.length := by
  cases i with
  | zero => rfl
  | succ j => simp only [clr]; split <;> (try split) <;> simp
theorem lrel_gen {n : Nat} {Ls Ls' : List (Option Value)} {L L' : Array Slot} {i last : Nat} {v : Value} (h : Lrel n Ls L) (hsz : L'.size = L.size) (hlen : Ls'.length = Ls.length)
    (hl : (v.category = 2 ∧ last = i + 1 ∧ L'[i + 1]? = some .second) ∨ (v.category ≠ 2 ∧ last = i)) (h0 : L'[i]? = some (Slot.val (sh n v)))
    (h1 : ∀ k, k + 1 = i → ∀ w : Value, L[k]? = some (Slot.val w) → w.category = 2 → L'[k]? = some .unset) (h2 : L[last + 1]? = some .second → L'[last + 1]? = some .unset)
    (h3 : ∀ k, k < i ∨ last < k → L'[k]? = L[k]? ∨ (L'[k]? = some .unset ∧ ((k + 1 = i ∧ ∃ w : Value, L[k]? = some (Slot.val w) ∧ w.category = 2) ∨ (k = last + 1 ∧ L[k]? = some .second))))
    (hs : ∀ k w, Ls'[k]? = some (some w) → (k = i ∧ w = v) ∨ ((k < i ∨ last < k) ∧ Ls[k]? = some (some w) ∧ (k + 1 = i → w.category ≠ 2))) : Lrel n Ls' L' := by
  refine ⟨by rw [hsz, hlen]; exact h.1, wf_gen (f := fun k => L[k]?) (f' := fun k => L'[k]?) (v := sh n v) h.2.1 (by rw [sh_cat]; exact hl) h0 h1 h2 h3, fun k w hk => ?_⟩
  rcases hs k w hk with ⟨rfl, rfl⟩ | ⟨a, b, c⟩
  · exact h0
  · have hb := h.2.2 k w b
    rcases h3 k a with q | ⟨-, ⟨q, w', r1, r2⟩ | ⟨-, r⟩⟩
    · rw [q]; exact hb
    · rw [hb] at r1; cases r1; exact absurd (by rw [← sh_cat n w]; exact r2) (c q)
    · rw [hb] at r; cases r
theorem get_set (L : Array Slot) (i j : Nat) (x : Slot) (hi : i < L.size) : (L.setIfInBounds i x)[j]? = if i = j then some x else L[j]? := by
  rw [Array.getElem?_setIfInBounds]; simp [hi]
theorem store_1 {n : Nat} {Ls Ls' : List (Option Value)} {L : Array Slot} {i : Nat} {v : Value} (h : Lrel n Ls L) (hc : v.category = 1) (hl : stor Ls i v = some Ls') : ∃ L', storeLocals L i (sh n v) = some L' ∧ Lrel n Ls' L' := by
  have hc2 : ¬ v.category = 2 := by omega
  simp only [stor, hc2, if_false] at hl
  have hi : i < Ls.length := Decidable.byContradiction fun hi => by rw [if_neg hi] at hl; cases hl
  rw [if_pos hi] at hl
  cases hl
  have hiL : i < L.size := by rw [h.1]; exact hi
  have hcs : (sh n v).category = 1 := (sh_cat n v).trans hc
  have hs : ∀ k w, ((clr Ls i).set i (some v))[k]? = some (some w) → (k = i ∧ w = v) ∨ ((k < i ∨ i < k) ∧ Ls[k]? = some (some w) ∧ (k + 1 = i → w.category ≠ 2)) := fun k w hk => by
    by_cases e : i = k
    · subst e
      rw [List.getElem?_set_self (by rw [clr_len]; exact hi)] at hk
      cases hk; exact Or.inl ⟨rfl, rfl⟩
    · rw [List.getElem?_set_ne e] at hk
      exact Or.inr ⟨by omega, clr_get hk⟩
  have hlen : ((clr Ls i).set i (some v)).length = Ls.length := by simp [clr_len]
  have hgo : L[i]? = some L[i] := Array.getElem?_eq_getElem hiL
  cases hq : L[i] with
  | unset =>
    rw [hq] at hgo
    refine ⟨L.setIfInBounds i (.val (sh n v)), by simp [storeLocals, storeSelf, setAt, hgo, hcs, hiL, hq], lrel_gen (i := i) (last := i) (v := v) h (by simp) hlen (Or.inr ⟨hc2, rfl⟩) ?_ ?_ ?_ ?_ hs⟩
    · rw [get_set _ _ _ _ hiL]; simp
    · intro k hk w hw hw2; have := h.2.1.1 k w hw hw2; simp only [hk] at this; rw [hgo] at this; cases this
    · intro hk; obtain ⟨w, -, a, -⟩ := h.2.1.2 _ hk; simp only [Nat.add_sub_cancel] at a; rw [hgo] at a; cases a
    · intro k hk; left; rw [get_set _ _ _ _ hiL, if_neg (by omega)]
  | second =>
    rw [hq] at hgo
    obtain ⟨w0, i1, hw0, hw2⟩ := h.2.1.2 _ hgo
    simp only at hw0
    have hi1 : i - 1 < L.size := by omega
    refine ⟨(L.setIfInBounds (i - 1) .unset).setIfInBounds i (.val (sh n v)), by simp [storeLocals, storeSelf, setAt, hgo, hcs, hiL, hi1, hq], lrel_gen (i := i) (last := i) (v := v) h (by simp) hlen (Or.inr ⟨hc2, rfl⟩) ?_ ?_ ?_ ?_ hs⟩
    · rw [get_set _ _ _ _ (by simpa using hiL)]; simp
    · intro k hk w hw hw2'; rw [get_set _ _ _ _ (by simpa using hiL), get_set _ _ _ _ hi1, if_neg (by omega), if_pos (by omega)]
    · intro hk; obtain ⟨w, -, a, -⟩ := h.2.1.2 _ hk; simp only [Nat.add_sub_cancel] at a; rw [hgo] at a; cases a
    · intro k hk; rw [get_set _ _ _ _ (by simpa using hiL), get_set _ _ _ _ hi1, if_neg (by omega)]
      by_cases e : i - 1 = k
      · subst e; rw [if_pos rfl]; exact Or.inr ⟨rfl, Or.inl ⟨by omega, w0, hw0, hw2⟩⟩
      · rw [if_neg e]; exact Or.inl rfl
  | val old =>
    rw [hq] at hgo
    have hnl : ∀ k, k + 1 = i → ∀ w : Value, L[k]? = some (Slot.val w) → w.category = 2 → False := fun k hk w hw hw2 => by
      have := h.2.1.1 k w hw hw2; simp only [hk] at this; rw [hgo] at this; cases this
    by_cases ho : old.category = 2
    · have hn : L[i + 1]? = some .second := h.2.1.1 i old hgo ho
      have hi1 : i + 1 < L.size := (Array.getElem?_eq_some_iff.mp hn).1
      refine ⟨(L.setIfInBounds (i + 1) .unset).setIfInBounds i (.val (sh n v)), by simp [storeLocals, storeSelf, setAt, hgo, hcs, hiL, hi1, ho, hq], lrel_gen (i := i) (last := i) (v := v) h (by simp) hlen (Or.inr ⟨hc2, rfl⟩) ?_ ?_ ?_ ?_ hs⟩
      · rw [get_set _ _ _ _ (by simpa using hiL)]; simp
      · intro k hk w hw hw2; exact (hnl k hk w hw hw2).elim
      · intro _; rw [get_set _ _ _ _ (by simpa using hiL), get_set _ _ _ _ hi1, if_neg (by omega), if_pos rfl]
      · intro k hk; rw [get_set _ _ _ _ (by simpa using hiL), get_set _ _ _ _ hi1, if_neg (by omega)]
        by_cases e : i + 1 = k
        · subst e; rw [if_pos rfl]; exact Or.inr ⟨rfl, Or.inr ⟨rfl, hn⟩⟩
        · rw [if_neg e]; exact Or.inl rfl
    · refine ⟨L.setIfInBounds i (.val (sh n v)), by simp [storeLocals, storeSelf, setAt, hgo, hcs, hiL, ho, hq], lrel_gen (i := i) (last := i) (v := v) h (by simp) hlen (Or.inr ⟨hc2, rfl⟩) ?_ ?_ ?_ ?_ hs⟩
      · rw [get_set _ _ _ _ hiL]; simp
      · intro k hk w hw hw2; exact (hnl k hk w hw hw2).elim
      · intro hk; obtain ⟨w, -, a, b⟩ := h.2.1.2 _ hk; simp only [Nat.add_sub_cancel] at a; rw [hgo] at a; cases a; exact absurd b ho
      · intro k hk; left; rw [get_set _ _ _ _ hiL, if_neg (by omega)]
/-- the second half of a long's store -/
theorem self_2 {l : Array Slot} {i : Nat} {v : Value} (hc : v.category = 2) (h1 : i + 1 < l.size) (hw : ∀ w : Value, l[i + 1]? = some (Slot.val w) → w.category = 2 → i + 2 < l.size) :
    ∃ l', storeSelf l i v = some l' ∧ l'.size = l.size ∧ l'[i]? = some (Slot.val v) ∧ l'[i + 1]? = some .second ∧ (∀ k, k < i ∨ i + 2 < k → l'[k]? = l[k]?) ∧
      ((∃ w : Value, l[i + 1]? = some (Slot.val w) ∧ w.category = 2) ∧ l'[i + 2]? = some .unset ∨ (¬ ∃ w : Value, l[i + 1]? = some (Slot.val w) ∧ w.category = 2) ∧ l'[i + 2]? = l[i + 2]?) := by
  have hi : i < l.size := by omega
  have hgo : l[i + 1]? = some l[i + 1] := Array.getElem?_eq_getElem h1
  have hgo' : (l.setIfInBounds i (.val v))[i + 1]? = some l[i + 1] := by rw [get_set _ _ _ _ hi, if_neg (by omega)]; exact hgo
  by_cases hx : ∃ w : Value, l[i + 1]? = some (Slot.val w) ∧ w.category = 2
  · obtain ⟨w, a, b⟩ := hx
    have h2 := hw w a b
    have e : l[i + 1] = .val w := Option.some.inj (hgo.symm.trans a)
    refine ⟨((l.setIfInBounds i (.val v)).setIfInBounds (i + 2) .unset).setIfInBounds (i + 1) .second, ?_, by simp, ?_, ?_, ?_, Or.inl ⟨⟨w, a, b⟩, ?_⟩⟩
    · rw [e] at hgo'
      simp [storeSelf, setAt, hi, hc, hgo', b, h1, h2, e]
    · rw [get_set _ _ _ _ (by simpa using h1), if_neg (by omega), get_set _ _ _ _ (by simpa using h2), if_neg (by omega), get_set _ _ _ _ hi, if_pos rfl]
    · rw [get_set _ _ _ _ (by simpa using h1), if_pos rfl]
    · intro k hk; rw [get_set _ _ _ _ (by simpa using h1), if_neg (by omega), get_set _ _ _ _ (by simpa using h2), if_neg (by omega), get_set _ _ _ _ hi, if_neg (by omega)]
    · rw [get_set _ _ _ _ (by simpa using h1), if_neg (by omega), get_set _ _ _ _ (by simpa using h2), if_pos rfl]
  · refine ⟨(l.setIfInBounds i (.val v)).setIfInBounds (i + 1) .second, ?_, by simp, ?_, ?_, ?_, Or.inr ⟨hx, ?_⟩⟩
    · cases e : l[i + 1] with
      | unset => rw [e] at hgo'; simp [storeSelf, setAt, hi, hc, hgo', h1, e]
      | second => rw [e] at hgo'; simp [storeSelf, setAt, hi, hc, hgo', h1, e]
      | val w =>
        rw [e] at hgo' hgo
        have hn : ¬ w.category = 2 := fun q => hx ⟨w, hgo, q⟩
        simp [storeSelf, setAt, hi, hc, hgo', h1, hn, e]
    · rw [get_set _ _ _ _ (by simpa using h1), if_neg (by omega), get_set _ _ _ _ hi, if_pos rfl]
    · rw [get_set _ _ _ _ (by simpa using h1), if_pos rfl]
    · intro k hk; rw [get_set _ _ _ _ (by simpa using h1), if_neg (by omega), get_set _ _ _ _ hi, if_neg (by omega)]
    · rw [get_set _ _ _ _ (by simpa using h1), if_neg (by omega), get_set _ _ _ _ hi, if_neg (by omega)]
theorem store_2 {n : Nat} {Ls Ls' : List (Option Value)} {L : Array Slot} {i : Nat} {v : Value} (h : Lrel n Ls L) (hc : v.category = 2) (hl : stor Ls i v = some Ls') : ∃ L', storeLocals L i (sh n v) = some L' ∧ Lrel n Ls' L' := by
  simp only [stor, hc, if_true] at hl
  have hi : i + 1 < Ls.length := Decidable.byContradiction fun hi => by rw [if_neg hi] at hl; cases hl
  rw [if_pos hi] at hl
  cases hl
  have hiL : i + 1 < L.size := by rw [h.1]; exact hi
  have hi0 : i < L.size := by omega
  have hcs : (sh n v).category = 2 := (sh_cat n v).trans hc
  have hs : ∀ k w, (((clr Ls i).set i (some v)).set (i + 1) none)[k]? = some (some w) → (k = i ∧ w = v) ∨ ((k < i ∨ i + 1 < k) ∧ Ls[k]? = some (some w) ∧ (k + 1 = i → w.category ≠ 2)) := fun k w hk => by
    by_cases e' : i + 1 = k
    · subst e'
      rw [List.getElem?_set_self (by simp [clr_len]; exact hi)] at hk
      cases hk
    · rw [List.getElem?_set_ne e'] at hk
      by_cases e : i = k
      · subst e
        rw [List.getElem?_set_self (by rw [clr_len]; omega)] at hk
        cases hk; exact Or.inl ⟨rfl, rfl⟩
      · rw [List.getElem?_set_ne e] at hk
        exact Or.inr ⟨by omega, clr_get hk⟩
  have hlen : (((clr Ls i).set i (some v)).set (i + 1) none).length = Ls.length := by simp [clr_len]
  have hgo : L[i]? = some L[i] := Array.getElem?_eq_getElem hi0
  have hW := h.2.1
  -- the first half: l1
  have key : ∃ l1, storeLocals L i (sh n v) = storeSelf l1 i (sh n v) ∧ l1.size = L.size ∧ (∀ k, k + 1 = i → ∀ w : Value, L[k]? = some (Slot.val w) → w.category = 2 → l1[k]? = some .unset) ∧
      (∀ k, k < i ∨ i + 1 < k → l1[k]? = L[k]? ∨ (l1[k]? = some .unset ∧ k + 1 = i ∧ ∃ w : Value, L[k]? = some (Slot.val w) ∧ w.category = 2)) ∧
      ((∃ w : Value, l1[i + 1]? = some (Slot.val w) ∧ w.category = 2) → L[i + 1]? = l1[i + 1]?) ∧ (L[i + 1]? = l1[i + 1]? ∨ L[i + 1]? = some .second) := by
    cases hq : L[i] with
    | unset =>
      rw [hq] at hgo
      refine ⟨L, by simp [storeLocals, hgo, hq], rfl, ?_, fun k _ => Or.inl rfl, fun _ => rfl, Or.inl rfl⟩
      intro k hk w hw hw2; have := hW.1 k w hw hw2; simp only [hk] at this; rw [hgo] at this; cases this
    | second =>
      rw [hq] at hgo
      obtain ⟨w0, i1, hw0, hw2⟩ := hW.2 _ hgo
      simp only at hw0
      have hi1 : i - 1 < L.size := by omega
      refine ⟨L.setIfInBounds (i - 1) .unset, by simp [storeLocals, setAt, hgo, hi1, hq], by simp, ?_, ?_, fun _ => by rw [get_set _ _ _ _ hi1, if_neg (by omega)], Or.inl (by rw [get_set _ _ _ _ hi1, if_neg (by omega)])⟩
      · intro k hk w hw hw2'; rw [get_set _ _ _ _ hi1, if_pos (by omega)]
      · intro k hk; rw [get_set _ _ _ _ hi1]
        by_cases e : i - 1 = k
        · subst e; rw [if_pos rfl]; exact Or.inr ⟨rfl, by omega, w0, hw0, hw2⟩
        · rw [if_neg e]; exact Or.inl rfl
    | val old =>
      rw [hq] at hgo
      have hnl : ∀ k, k + 1 = i → ∀ w : Value, L[k]? = some (Slot.val w) → w.category = 2 → False := fun k hk w hw hw2 => by
        have := hW.1 k w hw hw2; simp only [hk] at this; rw [hgo] at this; cases this
      by_cases ho : old.category = 2
      · have hn : L[i + 1]? = some .second := hW.1 i old hgo ho
        refine ⟨L.setIfInBounds (i + 1) .unset, by simp [storeLocals, setAt, hgo, hiL, ho, hq], by simp, fun k hk w hw hw2 => (hnl k hk w hw hw2).elim, ?_, ?_, Or.inr hn⟩
        · intro k hk; left; rw [get_set _ _ _ _ hiL, if_neg (by omega)]
        · rintro ⟨w, a, -⟩; rw [get_set _ _ _ _ hiL, if_pos rfl] at a; cases a
      · exact ⟨L, by simp [storeLocals, hgo, ho, hq], rfl, fun k hk w hw hw2 => (hnl k hk w hw hw2).elim, fun k _ => Or.inl rfl, fun _ => rfl, Or.inl rfl⟩
  obtain ⟨l1, k1, k2, k3, k4, k5, k6⟩ := key
  have hw2 : ∀ w : Value, l1[i + 1]? = some (Slot.val w) → w.category = 2 → i + 2 < l1.size := fun w a b => by
    have e := k5 ⟨w, a, b⟩
    rw [a] at e
    have := hW.1 (i + 1) w e b
    rw [k2]; exact (Array.getElem?_eq_some_iff.mp this).1
  obtain ⟨l', s1, s2, s3, s4, s5, s6⟩ := self_2 (v := sh n v) hcs (by rw [k2]; exact hiL) hw2
  refine ⟨l', by rw [k1]; exact s1, lrel_gen (i := i) (last := i + 1) (v := v) h (by rw [s2, k2]) hlen (Or.inl ⟨hc, rfl, s4⟩) s3 ?_ ?_ ?_ hs⟩
  · intro k hk w hw hw2'; rw [s5 k (by omega)]; exact k3 k hk w hw hw2'
  · intro hk
    obtain ⟨w, -, a, b⟩ := hW.2 _ hk
    simp only [Nat.add_sub_cancel] at a
    rcases s6 with ⟨-, q⟩ | ⟨q, -⟩
    · exact q
    · rcases k6 with k6 | k6
      · exact absurd ⟨w, by rw [← k6]; exact a, b⟩ q
      · rw [a] at k6; cases k6
  · intro k hk
    by_cases e : k = i + 2
    · subst e
      rcases s6 with ⟨⟨w, a, b⟩, q⟩ | ⟨-, q⟩
      · have e := k5 ⟨w, a, b⟩
        rw [a] at e
        exact Or.inr ⟨q, Or.inr ⟨rfl, hW.1 (i + 1) w e b⟩⟩
      · rcases k4 (i + 2) (by omega) with r | ⟨-, r, -⟩
        · left; rw [q, r]
        · omega
    · rw [s5 k (by omega)]
      rcases k4 k hk with r | ⟨r1, r2, r3⟩
      · exact Or.inl r
      · exact Or.inr ⟨r1, Or.inl ⟨r2, r3⟩⟩
/-! the entry -/
def aloc1 : List Value → List (Option Value)
  | [] => []
  | v :: r => if v.category = 2 then some v :: none :: aloc1 r else some v :: aloc1 r
def aloc (as : List Value) (maxL : Nat) : List (Option Value) := aloc1 as ++ List.replicate (maxL - (aloc1 as).length) none
def aslot : List Value → List Slot
  | [] => []
  | v :: r => if v.category = 2 then .val v :: .second :: aslot r else .val v :: aslot r
theorem aslot_eq (as : List Value) : ∀ acc : Array Slot, as.foldl (fun acc v => if v.category = 2 then (acc.push (Slot.val v)).push Slot.second else acc.push (Slot.val v)) acc = acc ++ (aslot as).toArray := by
  induction as with
  | nil => intro acc; simp [aslot]
  | cons v r ih =>
    intro acc
    rw [List.foldl_cons, ih]
    simp only [aslot]
    split <;> (apply Array.ext'; simp)
theorem aslot_len (n : Nat) (as : List Value) : (aslot (as.map (sh n))).length = (aloc1 as).length := by
  induction as with
  | nil => rfl
  | cons v r ih => simp only [List.map_cons, aslot, aloc1, sh_cat]; split <;> simp [ih]
theorem aslot_wf (as : List Value) : (∀ (k : Nat) (v : Value), (aslot as)[k]? = some (Slot.val v) → v.category = 2 → (aslot as)[k + 1]? = some .second) ∧ (∀ k, (aslot as)[k]? = some .second → ∃ v : Value, 1 ≤ k ∧ (aslot as)[k - 1]? = some (Slot.val v) ∧ v.category = 2) := by
  induction as with
  | nil => constructor <;> intro k <;> simp [aslot]
  | cons v r ih =>
    simp only [aslot]
    by_cases h : v.category = 2
    · rw [if_pos h]
      constructor
      · intro k w hk hw
        match k, hk with
        | 0, hk => rfl
        | 1, hk => simp at hk
        | k + 2, hk => simpa using ih.1 k w (by simpa using hk) hw
      · intro k hk
        match k, hk with
        | 0, hk => simp at hk
        | 1, hk => exact ⟨v, by omega, by simp, h⟩
        | k + 2, hk =>
          obtain ⟨w, a, b, c⟩ := ih.2 k (by simpa using hk)
          match k, a, b with
          | k + 1, a, b => exact ⟨w, by omega, by simpa using b, c⟩
    · rw [if_neg h]
      constructor
      · intro k w hk hw
        match k, hk with
        | 0, hk => simp at hk; subst hk; exact absurd hw h
        | k + 1, hk => simpa using ih.1 k w (by simpa using hk) hw
      · intro k hk
        match k, hk with
        | 0, hk => simp at hk
        | k + 1, hk =>
          obtain ⟨w, a, b, c⟩ := ih.2 k (by simpa using hk)
          match k, a, b with
          | k + 1, a, b => exact ⟨w, by omega, by simpa using b, c⟩
theorem aslot_val (n : Nat) (as : List Value) : ∀ (k : Nat) (v : Value), (aloc1 as)[k]? = some (some v) → (aslot (as.map (sh n)))[k]? = some (Slot.val (sh n v)) := by
  induction as with
  | nil => intro k v; simp [aloc1]
  | cons v r ih =>
    intro k w
    simp only [aloc1, List.map_cons, aslot, sh_cat]
    split
    · match k with
      | 0 => simp; intro h; rw [h]
      | 1 => simp
      | k + 2 => simpa using ih k w
    · match k with
      | 0 => simp; intro h; rw [h]
      | k + 1 => simpa using ih k w
theorem entry_rel (n : Nat) (as : List Value) (maxL : Nat) : Lrel n (aloc as maxL) (argsToLocals (as.map (sh n)).toArray maxL) := by
  have e : argsToLocals (as.map (sh n)).toArray maxL = (aslot (as.map (sh n)) ++ List.replicate (maxL - (aloc1 as).length) Slot.unset).toArray := by
    unfold argsToLocals
    simp only [List.foldl_toArray']
    rw [aslot_eq]
    apply Array.ext'
    simp [aslot_len]
  rw [e]
  have hl := aslot_len n as
  refine ⟨by simp [aloc, hl], ?_, ?_⟩
  · have hw := aslot_wf (as.map (sh n))
    constructor
    · intro k v hk hv
      simp only [List.getElem?_toArray] at hk ⊢
      by_cases h : k < (aslot (as.map (sh n))).length
      · rw [List.getElem?_append_left h] at hk
        have q := hw.1 k v hk hv
        rw [List.getElem?_append_left (List.getElem?_eq_some_iff.mp q).1]; exact q
      · rw [List.getElem?_append_right (by omega), List.getElem?_replicate] at hk
        split at hk <;> cases hk
    · intro k hk
      simp only [List.getElem?_toArray] at hk ⊢
      by_cases h : k < (aslot (as.map (sh n))).length
      · rw [List.getElem?_append_left h] at hk
        obtain ⟨v, a, b, c⟩ := hw.2 k hk
        exact ⟨v, a, by rw [List.getElem?_append_left (List.getElem?_eq_some_iff.mp b).1]; exact b, c⟩
      · rw [List.getElem?_append_right (by omega), List.getElem?_replicate] at hk
        split at hk <;> cases hk
  · intro k v hk
    simp only [List.getElem?_toArray]
    simp only [aloc] at hk
    by_cases h : k < (aloc1 as).length
    · rw [List.getElem?_append_left h] at hk
      rw [List.getElem?_append_left (by rw [hl]; exact h)]; exact aslot_val n as k v hk
    · rw [List.getElem?_append_right (by omega), List.getElem?_replicate] at hk
      split at hk <;> cases hk
/-! the heap -/
def ObjOk (Z : State) (n : Nat) (h : Heap) (a : Addr) : Obj → Prop
  | .inl (ty, vs) => Exa Z h a ("[" ++ ty.toString) ∧ ∃ c : Cell, Arr Z h a c ty ∧ c.slots = (vs.map (sh n)).toArray
  | .inr (t, vs) => Exa Z h a (lay t).1 ∧ vs.length = (lay t).2.length ∧ ∀ (k : Nat) (nd : String × String) (v : Value), (lay t).2[k]? = some nd → vs[k]? = some v → Fld Z h a (lay t).1 nd.1 nd.2 (sh n v)
def Sim (G : Gx) (H : List Obj) (h : Heap) : Prop := h.size = G.2.2.2 + H.length ∧ ∀ (i : Nat) (o : Obj), H[i]? = some o → ObjOk G.2.1 G.2.2.2 h (G.2.2.2 + i) o
def Done (G : Gx) (K : Kx) (rv : Option Value) (Hf : List Obj) (S0 : State) : Prop := match G, K with
  | (l, Z, a0, n), (p, e, R, s, m, args, below, meth, c, kc, ks) =>
    ∃ t o, Steps p.tables e below S0 t ∧ t.status = .running ∧ Ended t below o ∧ ∃ v L, o = .returned v ∧ (v = rv.map (sh n) ∧ Fr n L ∧ Sim (l, Z, a0, n) Hf t.heap ∧ s.heap.size + kc = n + Hf.length) ∧ FrameEnd s o t L kc ks
def Run (G : Gx) (K : Kx) (rv : Option Value) (Hf : List Obj) (pc : Nat) (Ls : List (Option Value)) (st : List Value) (H : List Obj) (cells slots : Nat) : Prop := match G, K with
  | (l, Z, a0, n), (p, e, R, s, m, args, below, meth, c, kc, ks) => ∀ T locs real, Stand p l e R s m args below meth c T locs cells slots → Fr n locs → Sim (l, Z, a0, n) H T.heap → s.heap.size + cells = n + H.length → Lrel n Ls real →
    Done (l, Z, a0, n) (p, e, R, s, m, args, below, meth, c, kc, ks) rv Hf (T.setTop (mkF m pc real (st.map (sh n))))
def Ok (G : Gx) (K : Kx) (own : String) (bytes : ByteArray) (maxL : Nat) (ret : Option FieldType) (R : Room) (mn : String) (kc ks : Nat) : Prop := match G, K with
  | (l, Z, a0, n), (p, e, R', s, m, args, below, meth, c, kc', ks') => p.tables.exec = Jvm.exec ∧ Z.Warmed39 s.vm ∧ s.vm.findClass own = some m.cls ∧ c.code = bytes ∧ c.maxLocals = maxL ∧ meth.sig.returnType = ret ∧ meth.locks = false ∧ R' = R ∧ meth.name = mn ∧ kc' = kc ∧ ks' = ks ∧ ∀ d ∈ tables_1, d.before a0 Z = true
def Con (G : Gx) (y : MethodName) (bytes : ByteArray) (maxL : Nat) (ret : Option FieldType) (rm : Room) (as : List Value) (H : List Obj) (rv : Option Value) (Hf : List Obj) : Prop := match G with
  | (l, Z, a0, n) => ∀ h0, Sim (l, Z, a0, n) H h0 → MetFree l y (head1 [Cond.code y bytes maxL ret] rm) (fun a U => a = (as.map (sh n)).toArray ∧ Z.Warmed39 U.vm ∧ U.heap = h0) (fun _ _ _ _ _ => True)
      (fun _ U o U' => ∃ v L, o = .returned v ∧ (v = rv.map (sh n) ∧ Fr n L ∧ Sim (l, Z, a0, n) Hf U'.heap ∧ Hf.length = H.length + rm.cells) ∧ FrameEnd U o U' L rm.cells rm.slots)
section Laws
variable {G : Gx} {K : Kx} {rv : Option Value} {Hf : List Obj} {pc pc' : Nat} {Ls Ls' : List (Option Value)} {st : List Value} {H : List Obj} {cells slots : Nat} {own : String} {bytes : ByteArray} {maxL : Nat} {ret : Option FieldType} {R : Room} {mn : String} {kc ks : Nat}
theorem Done.step {l : Launch} {Z : State} {a0 : Array Value} {n : Nat} {p : Program} {e : Env} {R : Room} {s : State} {m : MethodId} {args : Array Value} {below : List Frame} {meth : Method} {c : Code} {kc ks : Nat} {S0 S1 : State}
    (h : ∀ t, Steps p.tables e below S1 t → Steps p.tables e below S0 t) (k : Done (l, Z, a0, n) (p, e, R, s, m, args, below, meth, c, kc, ks) rv Hf S1) : Done (l, Z, a0, n) (p, e, R, s, m, args, below, meth, c, kc, ks) rv Hf S0 := by
  obtain ⟨t, o, h1, r⟩ := k
  exact ⟨t, o, h t h1, r⟩
theorem g_iconst {i : Int} {v : Int32} (O : Ok G K own bytes maxL ret R mn kc ks) (hd : decode bytes pc = .ok (.iconst i, 1)) (hv : Int32.ofInt i = v) (hp : pc + 1 = pc')
    (k : Run G K rv Hf pc' Ls (.int v :: st) H cells slots) : Run G K rv Hf pc Ls (st) H cells slots := by
  obtain ⟨l, Z, a0, n⟩ := G; obtain ⟨p, e, R', s, m, args, below, meth, c, kc', ks'⟩ := K
  obtain ⟨hx, hZ, hown, hby, hml, hret, hlk, rfl, hnm, rfl, rfl, hw⟩ := O
  subst hp
  intro T locs real X N S A L
  exact Done.step (fun t q => XT.iconstV X.here hx rfl v (hb hby hd) hv q) (k T locs real X N S A L)
theorem g_bipush {i : Int} {v : Int32} (O : Ok G K own bytes maxL ret R mn kc ks) (hd : decode bytes pc = .ok (.bipush i, 2)) (hv : (Int8.ofInt i).toInt32 = v) (hp : pc + 2 = pc')
    (k : Run G K rv Hf pc' Ls (.int v :: st) H cells slots) : Run G K rv Hf pc Ls (st) H cells slots := by
  obtain ⟨l, Z, a0, n⟩ := G; obtain ⟨p, e, R', s, m, args, below, meth, c, kc', ks'⟩ := K
  obtain ⟨hx, hZ, hown, hby, hml, hret, hlk, rfl, hnm, rfl, rfl, hw⟩ := O
  subst hp
  intro T locs real X N S A L
  exact Done.step (fun t q => XT.bipushV X.here hx rfl v (hb hby hd) hv q) (k T locs real X N S A L)
theorem g_sipush {i : Int} {v : Int32} (O : Ok G K own bytes maxL ret R mn kc ks) (hd : decode bytes pc = .ok (.sipush i, 3)) (hv : (Int16.ofInt i).toInt32 = v) (hp : pc + 3 = pc')
    (k : Run G K rv Hf pc' Ls (.int v :: st) H cells slots) : Run G K rv Hf pc Ls (st) H cells slots := by
  obtain ⟨l, Z, a0, n⟩ := G; obtain ⟨p, e, R', s, m, args, below, meth, c, kc', ks'⟩ := K
  obtain ⟨hx, hZ, hown, hby, hml, hret, hlk, rfl, hnm, rfl, rfl, hw⟩ := O
  subst hp
  intro T locs real X N S A L
  exact Done.step (fun t q => XT.sipushV X.here hx rfl v (hb hby hd) hv q) (k T locs real X N S A L)
theorem g_lconst {i : Fin 2} {v : Int64} (O : Ok G K own bytes maxL ret R mn kc ks) (hd : decode bytes pc = .ok (.lconst i, 1)) (hv : Int64.ofNat i = v) (hp : pc + 1 = pc')
    (k : Run G K rv Hf pc' Ls (.long v :: st) H cells slots) : Run G K rv Hf pc Ls (st) H cells slots := by
  obtain ⟨l, Z, a0, n⟩ := G; obtain ⟨p, e, R', s, m, args, below, meth, c, kc', ks'⟩ := K
  obtain ⟨hx, hZ, hown, hby, hml, hret, hlk, rfl, hnm, rfl, rfl, hw⟩ := O
  subst hp
  intro T locs real X N S A L
  exact Done.step (fun t q => XT.lconstV X.here hx rfl v (hb hby hd) hv q) (k T locs real X N S A L)
theorem g_iadd {x y : Int32} (O : Ok G K own bytes maxL ret R mn kc ks) (hd : decode bytes pc = .ok (.iadd, 1))  (hp : pc + 1 = pc')
    (k : Run G K rv Hf pc' Ls (.int (x + y) :: st) H cells slots) : Run G K rv Hf pc Ls (.int y :: .int x :: st) H cells slots := by
  obtain ⟨l, Z, a0, n⟩ := G; obtain ⟨p, e, R', s, m, args, below, meth, c, kc', ks'⟩ := K
  obtain ⟨hx, hZ, hown, hby, hml, hret, hlk, rfl, hnm, rfl, rfl, hw⟩ := O
  subst hp
  intro T locs real X N S A L
  exact Done.step (fun t q => XS.iadd X.here hx rfl (hb hby hd) rfl q) (k T locs real X N S A L)
theorem g_isub {x y : Int32} (O : Ok G K own bytes maxL ret R mn kc ks) (hd : decode bytes pc = .ok (.isub, 1))  (hp : pc + 1 = pc')
    (k : Run G K rv Hf pc' Ls (.int (x - y) :: st) H cells slots) : Run G K rv Hf pc Ls (.int y :: .int x :: st) H cells slots := by
  obtain ⟨l, Z, a0, n⟩ := G; obtain ⟨p, e, R', s, m, args, below, meth, c, kc', ks'⟩ := K
  obtain ⟨hx, hZ, hown, hby, hml, hret, hlk, rfl, hnm, rfl, rfl, hw⟩ := O
  subst hp
  intro T locs real X N S A L
  exact Done.step (fun t q => XS.isub X.here hx rfl (hb hby hd) rfl q) (k T locs real X N S A L)
theorem g_imul {x y : Int32} (O : Ok G K own bytes maxL ret R mn kc ks) (hd : decode bytes pc = .ok (.imul, 1))  (hp : pc + 1 = pc')
    (k : Run G K rv Hf pc' Ls (.int (x * y) :: st) H cells slots) : Run G K rv Hf pc Ls (.int y :: .int x :: st) H cells slots := by
  obtain ⟨l, Z, a0, n⟩ := G; obtain ⟨p, e, R', s, m, args, below, meth, c, kc', ks'⟩ := K
  obtain ⟨hx, hZ, hown, hby, hml, hret, hlk, rfl, hnm, rfl, rfl, hw⟩ := O
  subst hp
  intro T locs real X N S A L
  exact Done.step (fun t q => XS.imul X.here hx rfl (hb hby hd) rfl q) (k T locs real X N S A L)
theorem g_iand {x y : Int32} (O : Ok G K own bytes maxL ret R mn kc ks) (hd : decode bytes pc = .ok (.iand, 1))  (hp : pc + 1 = pc')
    (k : Run G K rv Hf pc' Ls (.int (x &&& y) :: st) H cells slots) : Run G K rv Hf pc Ls (.int y :: .int x :: st) H cells slots := by
  obtain ⟨l, Z, a0, n⟩ := G; obtain ⟨p, e, R', s, m, args, below, meth, c, kc', ks'⟩ := K
  obtain ⟨hx, hZ, hown, hby, hml, hret, hlk, rfl, hnm, rfl, rfl, hw⟩ := O
  subst hp
  intro T locs real X N S A L
  exact Done.step (fun t q => XS.iand X.here hx rfl (hb hby hd) rfl q) (k T locs real X N S A L)
theorem g_ior {x y : Int32} (O : Ok G K own bytes maxL ret R mn kc ks) (hd : decode bytes pc = .ok (.ior, 1))  (hp : pc + 1 = pc')
    (k : Run G K rv Hf pc' Ls (.int (x ||| y) :: st) H cells slots) : Run G K rv Hf pc Ls (.int y :: .int x :: st) H cells slots := by
  obtain ⟨l, Z, a0, n⟩ := G; obtain ⟨p, e, R', s, m, args, below, meth, c, kc', ks'⟩ := K
  obtain ⟨hx, hZ, hown, hby, hml, hret, hlk, rfl, hnm, rfl, rfl, hw⟩ := O
  subst hp
  intro T locs real X N S A L
  exact Done.step (fun t q => XT.ior X.here hx rfl (hb hby hd) rfl q) (k T locs real X N S A L)
theorem g_ixor {x y : Int32} (O : Ok G K own bytes maxL ret R mn kc ks) (hd : decode bytes pc = .ok (.ixor, 1))  (hp : pc + 1 = pc')
    (k : Run G K rv Hf pc' Ls (.int (x ^^^ y) :: st) H cells slots) : Run G K rv Hf pc Ls (.int y :: .int x :: st) H cells slots := by
  obtain ⟨l, Z, a0, n⟩ := G; obtain ⟨p, e, R', s, m, args, below, meth, c, kc', ks'⟩ := K
  obtain ⟨hx, hZ, hown, hby, hml, hret, hlk, rfl, hnm, rfl, rfl, hw⟩ := O
  subst hp
  intro T locs real X N S A L
  exact Done.step (fun t q => XT.ixor X.here hx rfl (hb hby hd) rfl q) (k T locs real X N S A L)
theorem g_ishl {x y : Int32} (O : Ok G K own bytes maxL ret R mn kc ks) (hd : decode bytes pc = .ok (.ishl, 1))  (hp : pc + 1 = pc')
    (k : Run G K rv Hf pc' Ls (.int (x <<< (y &&& 31)) :: st) H cells slots) : Run G K rv Hf pc Ls (.int y :: .int x :: st) H cells slots := by
  obtain ⟨l, Z, a0, n⟩ := G; obtain ⟨p, e, R', s, m, args, below, meth, c, kc', ks'⟩ := K
  obtain ⟨hx, hZ, hown, hby, hml, hret, hlk, rfl, hnm, rfl, rfl, hw⟩ := O
  subst hp
  intro T locs real X N S A L
  exact Done.step (fun t q => XT.ishl X.here hx rfl (hb hby hd) rfl q) (k T locs real X N S A L)
theorem g_ishr {x y : Int32} (O : Ok G K own bytes maxL ret R mn kc ks) (hd : decode bytes pc = .ok (.ishr, 1))  (hp : pc + 1 = pc')
    (k : Run G K rv Hf pc' Ls (.int (x >>> (y &&& 31)) :: st) H cells slots) : Run G K rv Hf pc Ls (.int y :: .int x :: st) H cells slots := by
  obtain ⟨l, Z, a0, n⟩ := G; obtain ⟨p, e, R', s, m, args, below, meth, c, kc', ks'⟩ := K
  obtain ⟨hx, hZ, hown, hby, hml, hret, hlk, rfl, hnm, rfl, rfl, hw⟩ := O
  subst hp
  intro T locs real X N S A L
  exact Done.step (fun t q => XT.ishr X.here hx rfl (hb hby hd) rfl q) (k T locs real X N S A L)
theorem g_iushr {x y : Int32} (O : Ok G K own bytes maxL ret R mn kc ks) (hd : decode bytes pc = .ok (.iushr, 1))  (hp : pc + 1 = pc')
    (k : Run G K rv Hf pc' Ls (.int (XT.ushr x y) :: st) H cells slots) : Run G K rv Hf pc Ls (.int y :: .int x :: st) H cells slots := by
  obtain ⟨l, Z, a0, n⟩ := G; obtain ⟨p, e, R', s, m, args, below, meth, c, kc', ks'⟩ := K
  obtain ⟨hx, hZ, hown, hby, hml, hret, hlk, rfl, hnm, rfl, rfl, hw⟩ := O
  subst hp
  intro T locs real X N S A L
  exact Done.step (fun t q => XT.iushr X.here hx rfl (hb hby hd) rfl q) (k T locs real X N S A L)
theorem g_ladd {x y : Int64} (O : Ok G K own bytes maxL ret R mn kc ks) (hd : decode bytes pc = .ok (.ladd, 1))  (hp : pc + 1 = pc')
    (k : Run G K rv Hf pc' Ls (.long (x + y) :: st) H cells slots) : Run G K rv Hf pc Ls (.long y :: .long x :: st) H cells slots := by
  obtain ⟨l, Z, a0, n⟩ := G; obtain ⟨p, e, R', s, m, args, below, meth, c, kc', ks'⟩ := K
  obtain ⟨hx, hZ, hown, hby, hml, hret, hlk, rfl, hnm, rfl, rfl, hw⟩ := O
  subst hp
  intro T locs real X N S A L
  exact Done.step (fun t q => XT.ladd X.here hx rfl (hb hby hd) rfl q) (k T locs real X N S A L)
theorem g_lsub {x y : Int64} (O : Ok G K own bytes maxL ret R mn kc ks) (hd : decode bytes pc = .ok (.lsub, 1))  (hp : pc + 1 = pc')
    (k : Run G K rv Hf pc' Ls (.long (x - y) :: st) H cells slots) : Run G K rv Hf pc Ls (.long y :: .long x :: st) H cells slots := by
  obtain ⟨l, Z, a0, n⟩ := G; obtain ⟨p, e, R', s, m, args, below, meth, c, kc', ks'⟩ := K
  obtain ⟨hx, hZ, hown, hby, hml, hret, hlk, rfl, hnm, rfl, rfl, hw⟩ := O
  subst hp
  intro T locs real X N S A L
  exact Done.step (fun t q => XT.lsub X.here hx rfl (hb hby hd) rfl q) (k T locs real X N S A L)
theorem g_lmul {x y : Int64} (O : Ok G K own bytes maxL ret R mn kc ks) (hd : decode bytes pc = .ok (.lmul, 1))  (hp : pc + 1 = pc')
    (k : Run G K rv Hf pc' Ls (.long (x * y) :: st) H cells slots) : Run G K rv Hf pc Ls (.long y :: .long x :: st) H cells slots := by
  obtain ⟨l, Z, a0, n⟩ := G; obtain ⟨p, e, R', s, m, args, below, meth, c, kc', ks'⟩ := K
  obtain ⟨hx, hZ, hown, hby, hml, hret, hlk, rfl, hnm, rfl, rfl, hw⟩ := O
  subst hp
  intro T locs real X N S A L
  exact Done.step (fun t q => XT.lmul X.here hx rfl (hb hby hd) rfl q) (k T locs real X N S A L)
theorem g_land {x y : Int64} (O : Ok G K own bytes maxL ret R mn kc ks) (hd : decode bytes pc = .ok (.land, 1))  (hp : pc + 1 = pc')
    (k : Run G K rv Hf pc' Ls (.long (x &&& y) :: st) H cells slots) : Run G K rv Hf pc Ls (.long y :: .long x :: st) H cells slots := by
  obtain ⟨l, Z, a0, n⟩ := G; obtain ⟨p, e, R', s, m, args, below, meth, c, kc', ks'⟩ := K
  obtain ⟨hx, hZ, hown, hby, hml, hret, hlk, rfl, hnm, rfl, rfl, hw⟩ := O
  subst hp
  intro T locs real X N S A L
  exact Done.step (fun t q => XT.land X.here hx rfl (hb hby hd) rfl q) (k T locs real X N S A L)
theorem g_lor {x y : Int64} (O : Ok G K own bytes maxL ret R mn kc ks) (hd : decode bytes pc = .ok (.lor, 1))  (hp : pc + 1 = pc')
    (k : Run G K rv Hf pc' Ls (.long (x ||| y) :: st) H cells slots) : Run G K rv Hf pc Ls (.long y :: .long x :: st) H cells slots := by
  obtain ⟨l, Z, a0, n⟩ := G; obtain ⟨p, e, R', s, m, args, below, meth, c, kc', ks'⟩ := K
  obtain ⟨hx, hZ, hown, hby, hml, hret, hlk, rfl, hnm, rfl, rfl, hw⟩ := O
  subst hp
  intro T locs real X N S A L
  exact Done.step (fun t q => XT.lor X.here hx rfl (hb hby hd) rfl q) (k T locs real X N S A L)
theorem g_lxor {x y : Int64} (O : Ok G K own bytes maxL ret R mn kc ks) (hd : decode bytes pc = .ok (.lxor, 1))  (hp : pc + 1 = pc')
    (k : Run G K rv Hf pc' Ls (.long (x ^^^ y) :: st) H cells slots) : Run G K rv Hf pc Ls (.long y :: .long x :: st) H cells slots := by
  obtain ⟨l, Z, a0, n⟩ := G; obtain ⟨p, e, R', s, m, args, below, meth, c, kc', ks'⟩ := K
  obtain ⟨hx, hZ, hown, hby, hml, hret, hlk, rfl, hnm, rfl, rfl, hw⟩ := O
  subst hp
  intro T locs real X N S A L
  exact Done.step (fun t q => XT.lxor X.here hx rfl (hb hby hd) rfl q) (k T locs real X N S A L)
theorem g_lshl {x : Int64} {y : Int32} (O : Ok G K own bytes maxL ret R mn kc ks) (hd : decode bytes pc = .ok (.lshl, 1))  (hp : pc + 1 = pc')
    (k : Run G K rv Hf pc' Ls (.long (x <<< (y.toInt64 &&& 63)) :: st) H cells slots) : Run G K rv Hf pc Ls (.int y :: .long x :: st) H cells slots := by
  obtain ⟨l, Z, a0, n⟩ := G; obtain ⟨p, e, R', s, m, args, below, meth, c, kc', ks'⟩ := K
  obtain ⟨hx, hZ, hown, hby, hml, hret, hlk, rfl, hnm, rfl, rfl, hw⟩ := O
  subst hp
  intro T locs real X N S A L
  exact Done.step (fun t q => XT.lshl X.here hx rfl (hb hby hd) rfl q) (k T locs real X N S A L)
theorem g_lshr {x : Int64} {y : Int32} (O : Ok G K own bytes maxL ret R mn kc ks) (hd : decode bytes pc = .ok (.lshr, 1))  (hp : pc + 1 = pc')
    (k : Run G K rv Hf pc' Ls (.long (x >>> (y.toInt64 &&& 63)) :: st) H cells slots) : Run G K rv Hf pc Ls (.int y :: .long x :: st) H cells slots := by
  obtain ⟨l, Z, a0, n⟩ := G; obtain ⟨p, e, R', s, m, args, below, meth, c, kc', ks'⟩ := K
  obtain ⟨hx, hZ, hown, hby, hml, hret, hlk, rfl, hnm, rfl, rfl, hw⟩ := O
  subst hp
  intro T locs real X N S A L
  exact Done.step (fun t q => XT.lshr X.here hx rfl (hb hby hd) rfl q) (k T locs real X N S A L)
theorem g_lushr {x : Int64} {y : Int32} (O : Ok G K own bytes maxL ret R mn kc ks) (hd : decode bytes pc = .ok (.lushr, 1))  (hp : pc + 1 = pc')
    (k : Run G K rv Hf pc' Ls (.long (XT.ushrL x y) :: st) H cells slots) : Run G K rv Hf pc Ls (.int y :: .long x :: st) H cells slots := by
  obtain ⟨l, Z, a0, n⟩ := G; obtain ⟨p, e, R', s, m, args, below, meth, c, kc', ks'⟩ := K
  obtain ⟨hx, hZ, hown, hby, hml, hret, hlk, rfl, hnm, rfl, rfl, hw⟩ := O
  subst hp
  intro T locs real X N S A L
  exact Done.step (fun t q => XT.lushr X.here hx rfl (hb hby hd) rfl q) (k T locs real X N S A L)
theorem g_idiv {x y : Int32} (O : Ok G K own bytes maxL ret R mn kc ks) (hd : decode bytes pc = .ok (.idiv, 1)) (hy : y ≠ 0) (hp : pc + 1 = pc')
    (k : Run G K rv Hf pc' Ls (.int (x / y) :: st) H cells slots) : Run G K rv Hf pc Ls (.int y :: .int x :: st) H cells slots := by
  obtain ⟨l, Z, a0, n⟩ := G; obtain ⟨p, e, R', s, m, args, below, meth, c, kc', ks'⟩ := K
  obtain ⟨hx, hZ, hown, hby, hml, hret, hlk, rfl, hnm, rfl, rfl, hw⟩ := O
  subst hp
  intro T locs real X N S A L
  exact Done.step (fun t q => XS.idiv X.here hx rfl (hb hby hd) rfl hy q) (k T locs real X N S A L)
theorem g_irem {x y : Int32} (O : Ok G K own bytes maxL ret R mn kc ks) (hd : decode bytes pc = .ok (.irem, 1)) (hy : y ≠ 0) (hp : pc + 1 = pc')
    (k : Run G K rv Hf pc' Ls (.int (x % y) :: st) H cells slots) : Run G K rv Hf pc Ls (.int y :: .int x :: st) H cells slots := by
  obtain ⟨l, Z, a0, n⟩ := G; obtain ⟨p, e, R', s, m, args, below, meth, c, kc', ks'⟩ := K
  obtain ⟨hx, hZ, hown, hby, hml, hret, hlk, rfl, hnm, rfl, rfl, hw⟩ := O
  subst hp
  intro T locs real X N S A L
  exact Done.step (fun t q => iremM X hx rfl (hb hby hd) rfl hy q) (k T locs real X N S A L)
theorem g_ldiv {x y : Int64} (O : Ok G K own bytes maxL ret R mn kc ks) (hd : decode bytes pc = .ok (.ldiv, 1)) (hy : y ≠ 0) (hp : pc + 1 = pc')
    (k : Run G K rv Hf pc' Ls (.long (x / y) :: st) H cells slots) : Run G K rv Hf pc Ls (.long y :: .long x :: st) H cells slots := by
  obtain ⟨l, Z, a0, n⟩ := G; obtain ⟨p, e, R', s, m, args, below, meth, c, kc', ks'⟩ := K
  obtain ⟨hx, hZ, hown, hby, hml, hret, hlk, rfl, hnm, rfl, rfl, hw⟩ := O
  subst hp
  intro T locs real X N S A L
  exact Done.step (fun t q => XT.ldiv X.here hx rfl (hb hby hd) rfl hy q) (k T locs real X N S A L)
theorem g_lrem {x y : Int64} (O : Ok G K own bytes maxL ret R mn kc ks) (hd : decode bytes pc = .ok (.lrem, 1)) (hy : y ≠ 0) (hp : pc + 1 = pc')
    (k : Run G K rv Hf pc' Ls (.long (x % y) :: st) H cells slots) : Run G K rv Hf pc Ls (.long y :: .long x :: st) H cells slots := by
  obtain ⟨l, Z, a0, n⟩ := G; obtain ⟨p, e, R', s, m, args, below, meth, c, kc', ks'⟩ := K
  obtain ⟨hx, hZ, hown, hby, hml, hret, hlk, rfl, hnm, rfl, rfl, hw⟩ := O
  subst hp
  intro T locs real X N S A L
  exact Done.step (fun t q => XT.lrem X.here hx rfl (hb hby hd) rfl hy (by rw [lrem_mod]; exact q)) (k T locs real X N S A L)
theorem g_i2l {x : Int32} (O : Ok G K own bytes maxL ret R mn kc ks) (hd : decode bytes pc = .ok (.i2l, 1))  (hp : pc + 1 = pc')
    (k : Run G K rv Hf pc' Ls (.long x.toInt64 :: st) H cells slots) : Run G K rv Hf pc Ls (.int x :: st) H cells slots := by
  obtain ⟨l, Z, a0, n⟩ := G; obtain ⟨p, e, R', s, m, args, below, meth, c, kc', ks'⟩ := K
  obtain ⟨hx, hZ, hown, hby, hml, hret, hlk, rfl, hnm, rfl, rfl, hw⟩ := O
  subst hp
  intro T locs real X N S A L
  exact Done.step (fun t q => XT.i2l X.here hx rfl (hb hby hd) rfl q) (k T locs real X N S A L)
theorem g_l2i {x : Int64} (O : Ok G K own bytes maxL ret R mn kc ks) (hd : decode bytes pc = .ok (.l2i, 1))  (hp : pc + 1 = pc')
    (k : Run G K rv Hf pc' Ls (.int x.toInt32 :: st) H cells slots) : Run G K rv Hf pc Ls (.long x :: st) H cells slots := by
  obtain ⟨l, Z, a0, n⟩ := G; obtain ⟨p, e, R', s, m, args, below, meth, c, kc', ks'⟩ := K
  obtain ⟨hx, hZ, hown, hby, hml, hret, hlk, rfl, hnm, rfl, rfl, hw⟩ := O
  subst hp
  intro T locs real X N S A L
  exact Done.step (fun t q => XT.l2i X.here hx rfl (hb hby hd) rfl q) (k T locs real X N S A L)
theorem g_i2b {x : Int32} (O : Ok G K own bytes maxL ret R mn kc ks) (hd : decode bytes pc = .ok (.i2b, 1))  (hp : pc + 1 = pc')
    (k : Run G K rv Hf pc' Ls (.int x.toInt8.toInt32 :: st) H cells slots) : Run G K rv Hf pc Ls (.int x :: st) H cells slots := by
  obtain ⟨l, Z, a0, n⟩ := G; obtain ⟨p, e, R', s, m, args, below, meth, c, kc', ks'⟩ := K
  obtain ⟨hx, hZ, hown, hby, hml, hret, hlk, rfl, hnm, rfl, rfl, hw⟩ := O
  subst hp
  intro T locs real X N S A L
  exact Done.step (fun t q => XT.i2b X.here hx rfl (hb hby hd) rfl q) (k T locs real X N S A L)
theorem g_i2c {x : Int32} (O : Ok G K own bytes maxL ret R mn kc ks) (hd : decode bytes pc = .ok (.i2c, 1))  (hp : pc + 1 = pc')
    (k : Run G K rv Hf pc' Ls (.int x.toUInt32.toUInt16.toUInt32.toInt32 :: st) H cells slots) : Run G K rv Hf pc Ls (.int x :: st) H cells slots := by
  obtain ⟨l, Z, a0, n⟩ := G; obtain ⟨p, e, R', s, m, args, below, meth, c, kc', ks'⟩ := K
  obtain ⟨hx, hZ, hown, hby, hml, hret, hlk, rfl, hnm, rfl, rfl, hw⟩ := O
  subst hp
  intro T locs real X N S A L
  exact Done.step (fun t q => XT.i2c X.here hx rfl (hb hby hd) rfl q) (k T locs real X N S A L)
theorem g_dup {x : Value} (O : Ok G K own bytes maxL ret R mn kc ks) (hd : decode bytes pc = .ok (.dup, 1)) (hc : x.category = 1) (hp : pc + 1 = pc')
    (k : Run G K rv Hf pc' Ls (x :: x :: st) H cells slots) : Run G K rv Hf pc Ls (x :: st) H cells slots := by
  obtain ⟨l, Z, a0, n⟩ := G; obtain ⟨p, e, R', s, m, args, below, meth, c, kc', ks'⟩ := K
  obtain ⟨hx, hZ, hown, hby, hml, hret, hlk, rfl, hnm, rfl, rfl, hw⟩ := O
  subst hp
  intro T locs real X N S A L
  exact Done.step (fun t q => XS.dup X.here hx rfl (hb hby hd) rfl ((sh_cat n x).trans hc) q) (k T locs real X N S A L)
theorem g_dup_x1 {x y : Value} (O : Ok G K own bytes maxL ret R mn kc ks) (hd : decode bytes pc = .ok (.dup_x1, 1)) (hc : x.category = 1) (hc' : y.category = 1) (hp : pc + 1 = pc')
    (k : Run G K rv Hf pc' Ls (x :: y :: x :: st) H cells slots) : Run G K rv Hf pc Ls (x :: y :: st) H cells slots := by
  obtain ⟨l, Z, a0, n⟩ := G; obtain ⟨p, e, R', s, m, args, below, meth, c, kc', ks'⟩ := K
  obtain ⟨hx, hZ, hown, hby, hml, hret, hlk, rfl, hnm, rfl, rfl, hw⟩ := O
  subst hp
  intro T locs real X N S A L
  exact Done.step (fun t q => XT.dupX1 X.here hx rfl (hb hby hd) rfl ((sh_cat n x).trans hc) ((sh_cat n y).trans hc') q) (k T locs real X N S A L)
theorem g_pop {x : Value} (O : Ok G K own bytes maxL ret R mn kc ks) (hd : decode bytes pc = .ok (.pop, 1)) (hc : x.category = 1) (hp : pc + 1 = pc')
    (k : Run G K rv Hf pc' Ls (st) H cells slots) : Run G K rv Hf pc Ls (x :: st) H cells slots := by
  obtain ⟨l, Z, a0, n⟩ := G; obtain ⟨p, e, R', s, m, args, below, meth, c, kc', ks'⟩ := K
  obtain ⟨hx, hZ, hown, hby, hml, hret, hlk, rfl, hnm, rfl, rfl, hw⟩ := O
  subst hp
  intro T locs real X N S A L
  exact Done.step (fun t q => XT.pop X.here hx rfl (hb hby hd) rfl ((sh_cat n x).trans hc) q) (k T locs real X N S A L)
theorem g_iload {j : Nat} {v : Int32} (O : Ok G K own bytes maxL ret R mn kc ks) (hd : decode bytes pc = .ok (.iload j, 2)) (hl : Ls[j]? = some (some (.int v))) (hp : pc + 2 = pc')
    (k : Run G K rv Hf pc' Ls (.int v :: st) H cells slots) : Run G K rv Hf pc Ls st H cells slots := by
  obtain ⟨l, Z, a0, n⟩ := G; obtain ⟨p, e, R', s, m, args, below, meth, c, kc', ks'⟩ := K
  obtain ⟨hx, hZ, hown, hby, hml, hret, hlk, rfl, hnm, rfl, rfl, hw⟩ := O
  subst hp
  intro T locs real X N S A L
  exact Done.step (fun t q => XS.iload X.here hx rfl (hb hby hd) (L.2.2 _ _ hl) q) (k T locs real X N S A L)
theorem g_iload_n {j : Fin 4} {v : Int32} (O : Ok G K own bytes maxL ret R mn kc ks) (hd : decode bytes pc = .ok (.iload_n j, 1)) (hl : Ls[j.val]? = some (some (.int v))) (hp : pc + 1 = pc')
    (k : Run G K rv Hf pc' Ls (.int v :: st) H cells slots) : Run G K rv Hf pc Ls st H cells slots := by
  obtain ⟨l, Z, a0, n⟩ := G; obtain ⟨p, e, R', s, m, args, below, meth, c, kc', ks'⟩ := K
  obtain ⟨hx, hZ, hown, hby, hml, hret, hlk, rfl, hnm, rfl, rfl, hw⟩ := O
  subst hp
  intro T locs real X N S A L
  exact Done.step (fun t q => XS.iloadN X.here hx rfl (hb hby hd) (L.2.2 _ _ hl) q) (k T locs real X N S A L)
theorem g_lload {j : Nat} {v : Int64} (O : Ok G K own bytes maxL ret R mn kc ks) (hd : decode bytes pc = .ok (.lload j, 2)) (hl : Ls[j]? = some (some (.long v))) (hp : pc + 2 = pc')
    (k : Run G K rv Hf pc' Ls (.long v :: st) H cells slots) : Run G K rv Hf pc Ls st H cells slots := by
  obtain ⟨l, Z, a0, n⟩ := G; obtain ⟨p, e, R', s, m, args, below, meth, c, kc', ks'⟩ := K
  obtain ⟨hx, hZ, hown, hby, hml, hret, hlk, rfl, hnm, rfl, rfl, hw⟩ := O
  subst hp
  intro T locs real X N S A L
  exact Done.step (fun t q => XT.lload X.here hx rfl (hb hby hd) (L.2.2 _ _ hl) q) (k T locs real X N S A L)
theorem g_lload_n {j : Fin 4} {v : Int64} (O : Ok G K own bytes maxL ret R mn kc ks) (hd : decode bytes pc = .ok (.lload_n j, 1)) (hl : Ls[j.val]? = some (some (.long v))) (hp : pc + 1 = pc')
    (k : Run G K rv Hf pc' Ls (.long v :: st) H cells slots) : Run G K rv Hf pc Ls st H cells slots := by
  obtain ⟨l, Z, a0, n⟩ := G; obtain ⟨p, e, R', s, m, args, below, meth, c, kc', ks'⟩ := K
  obtain ⟨hx, hZ, hown, hby, hml, hret, hlk, rfl, hnm, rfl, rfl, hw⟩ := O
  subst hp
  intro T locs real X N S A L
  exact Done.step (fun t q => XT.lloadN X.here hx rfl (hb hby hd) (L.2.2 _ _ hl) q) (k T locs real X N S A L)
theorem g_aload {j : Nat} {v : Nat} (O : Ok G K own bytes maxL ret R mn kc ks) (hd : decode bytes pc = .ok (.aload j, 2)) (hl : Ls[j]? = some (some (.ref v))) (hp : pc + 2 = pc')
    (k : Run G K rv Hf pc' Ls (.ref v :: st) H cells slots) : Run G K rv Hf pc Ls st H cells slots := by
  obtain ⟨l, Z, a0, n⟩ := G; obtain ⟨p, e, R', s, m, args, below, meth, c, kc', ks'⟩ := K
  obtain ⟨hx, hZ, hown, hby, hml, hret, hlk, rfl, hnm, rfl, rfl, hw⟩ := O
  subst hp
  intro T locs real X N S A L
  exact Done.step (fun t q => XS.aload X.here hx rfl (hb hby hd) (L.2.2 _ _ hl) rfl q) (k T locs real X N S A L)
theorem g_aload_n {j : Fin 4} {v : Nat} (O : Ok G K own bytes maxL ret R mn kc ks) (hd : decode bytes pc = .ok (.aload_n j, 1)) (hl : Ls[j.val]? = some (some (.ref v))) (hp : pc + 1 = pc')
    (k : Run G K rv Hf pc' Ls (.ref v :: st) H cells slots) : Run G K rv Hf pc Ls st H cells slots := by
  obtain ⟨l, Z, a0, n⟩ := G; obtain ⟨p, e, R', s, m, args, below, meth, c, kc', ks'⟩ := K
  obtain ⟨hx, hZ, hown, hby, hml, hret, hlk, rfl, hnm, rfl, rfl, hw⟩ := O
  subst hp
  intro T locs real X N S A L
  exact Done.step (fun t q => XS.aloadN X.here hx rfl (hb hby hd) (L.2.2 _ _ hl) rfl q) (k T locs real X N S A L)
theorem g_istore {j : Nat} {v : Int32} (O : Ok G K own bytes maxL ret R mn kc ks) (hd : decode bytes pc = .ok (.istore j, 2)) (hl : stor Ls j (.int v) = some Ls') (hp : pc + 2 = pc')
    (k : Run G K rv Hf pc' Ls' st H cells slots) : Run G K rv Hf pc Ls (.int v :: st) H cells slots := by
  obtain ⟨l, Z, a0, n⟩ := G; obtain ⟨p, e, R', s, m, args, below, meth, c, kc', ks'⟩ := K
  obtain ⟨hx, hZ, hown, hby, hml, hret, hlk, rfl, hnm, rfl, rfl, hw⟩ := O
  subst hp
  intro T locs real X N S A L
  obtain ⟨real', e1, L'⟩ := store_1 L rfl hl
  exact Done.step (fun t q => XS.istore X.here hx rfl (hb hby hd) rfl e1 q) (k T locs real' X N S A L')
theorem g_istore_n {j : Fin 4} {v : Int32} (O : Ok G K own bytes maxL ret R mn kc ks) (hd : decode bytes pc = .ok (.istore_n j, 1)) (hl : stor Ls j.val (.int v) = some Ls') (hp : pc + 1 = pc')
    (k : Run G K rv Hf pc' Ls' st H cells slots) : Run G K rv Hf pc Ls (.int v :: st) H cells slots := by
  obtain ⟨l, Z, a0, n⟩ := G; obtain ⟨p, e, R', s, m, args, below, meth, c, kc', ks'⟩ := K
  obtain ⟨hx, hZ, hown, hby, hml, hret, hlk, rfl, hnm, rfl, rfl, hw⟩ := O
  subst hp
  intro T locs real X N S A L
  obtain ⟨real', e1, L'⟩ := store_1 L rfl hl
  exact Done.step (fun t q => XS.istoreN X.here hx rfl (hb hby hd) rfl e1 q) (k T locs real' X N S A L')
theorem g_lstore {j : Nat} {v : Int64} (O : Ok G K own bytes maxL ret R mn kc ks) (hd : decode bytes pc = .ok (.lstore j, 2)) (hl : stor Ls j (.long v) = some Ls') (hp : pc + 2 = pc')
    (k : Run G K rv Hf pc' Ls' st H cells slots) : Run G K rv Hf pc Ls (.long v :: st) H cells slots := by
  obtain ⟨l, Z, a0, n⟩ := G; obtain ⟨p, e, R', s, m, args, below, meth, c, kc', ks'⟩ := K
  obtain ⟨hx, hZ, hown, hby, hml, hret, hlk, rfl, hnm, rfl, rfl, hw⟩ := O
  subst hp
  intro T locs real X N S A L
  obtain ⟨real', e1, L'⟩ := store_2 L rfl hl
  exact Done.step (fun t q => XT.lstore X.here hx rfl (hb hby hd) rfl e1 q) (k T locs real' X N S A L')
theorem g_lstore_n {j : Fin 4} {v : Int64} (O : Ok G K own bytes maxL ret R mn kc ks) (hd : decode bytes pc = .ok (.lstore_n j, 1)) (hl : stor Ls j.val (.long v) = some Ls') (hp : pc + 1 = pc')
    (k : Run G K rv Hf pc' Ls' st H cells slots) : Run G K rv Hf pc Ls (.long v :: st) H cells slots := by
  obtain ⟨l, Z, a0, n⟩ := G; obtain ⟨p, e, R', s, m, args, below, meth, c, kc', ks'⟩ := K
  obtain ⟨hx, hZ, hown, hby, hml, hret, hlk, rfl, hnm, rfl, rfl, hw⟩ := O
  subst hp
  intro T locs real X N S A L
  obtain ⟨real', e1, L'⟩ := store_2 L rfl hl
  exact Done.step (fun t q => XT.lstoreN X.here hx rfl (hb hby hd) rfl e1 q) (k T locs real' X N S A L')
theorem g_astore {j : Nat} {v : Nat} (O : Ok G K own bytes maxL ret R mn kc ks) (hd : decode bytes pc = .ok (.astore j, 2)) (hl : stor Ls j (.ref v) = some Ls') (hp : pc + 2 = pc')
    (k : Run G K rv Hf pc' Ls' st H cells slots) : Run G K rv Hf pc Ls (.ref v :: st) H cells slots := by
  obtain ⟨l, Z, a0, n⟩ := G; obtain ⟨p, e, R', s, m, args, below, meth, c, kc', ks'⟩ := K
  obtain ⟨hx, hZ, hown, hby, hml, hret, hlk, rfl, hnm, rfl, rfl, hw⟩ := O
  subst hp
  intro T locs real X N S A L
  obtain ⟨real', e1, L'⟩ := store_1 L rfl hl
  exact Done.step (fun t q => XS.astore X.here hx rfl (hb hby hd) rfl rfl e1 q) (k T locs real' X N S A L')
theorem g_astore_n {j : Fin 4} {v : Nat} (O : Ok G K own bytes maxL ret R mn kc ks) (hd : decode bytes pc = .ok (.astore_n j, 1)) (hl : stor Ls j.val (.ref v) = some Ls') (hp : pc + 1 = pc')
    (k : Run G K rv Hf pc' Ls' st H cells slots) : Run G K rv Hf pc Ls (.ref v :: st) H cells slots := by
  obtain ⟨l, Z, a0, n⟩ := G; obtain ⟨p, e, R', s, m, args, below, meth, c, kc', ks'⟩ := K
  obtain ⟨hx, hZ, hown, hby, hml, hret, hlk, rfl, hnm, rfl, rfl, hw⟩ := O
  subst hp
  intro T locs real X N S A L
  obtain ⟨real', e1, L'⟩ := store_1 L rfl hl
  exact Done.step (fun t q => XS.astoreN X.here hx rfl (hb hby hd) rfl rfl e1 q) (k T locs real' X N S A L')
theorem g_iinc {j : Nat} {i : Int} {v w : Int32} (O : Ok G K own bytes maxL ret R mn kc ks) (hd : decode bytes pc = .ok (.iinc j i, 3)) (hv : Int32.ofInt i = w) (hg : Ls[j]? = some (some (.int v))) (hl : stor Ls j (.int (v + w)) = some Ls') (hp : pc + 3 = pc')
    (k : Run G K rv Hf pc' Ls' st H cells slots) : Run G K rv Hf pc Ls st H cells slots := by
  obtain ⟨l, Z, a0, n⟩ := G; obtain ⟨p, e, R', s, m, args, below, meth, c, kc', ks'⟩ := K
  obtain ⟨hx, hZ, hown, hby, hml, hret, hlk, rfl, hnm, rfl, rfl, hw⟩ := O
  subst hp
  intro T locs real X N S A L
  obtain ⟨real', e1, L'⟩ := store_1 L rfl hl
  exact Done.step (fun t q => XT.iincV X.here hx rfl w (hb hby hd) hv (L.2.2 _ _ hg) e1 q) (k T locs real' X N S A L')
theorem g_goto {o : Int} (O : Ok G K own bytes maxL ret R mn kc ks) (hd : decode bytes pc = .ok (.goto o, 3)) (ho : 0 ≤ (pc : Int) + o) (hp : ((pc : Int) + o).toNat = pc')
    (k : Run G K rv Hf pc' Ls st H cells slots) : Run G K rv Hf pc Ls st H cells slots := by
  obtain ⟨l, Z, a0, n⟩ := G; obtain ⟨p, e, R', s, m, args, below, meth, c, kc', ks'⟩ := K
  obtain ⟨hx, hZ, hown, hby, hml, hret, hlk, rfl, hnm, rfl, rfl, hw⟩ := O
  intro T locs real X N S A L
  exact Done.step (fun t q => XS.goto X.here hx rfl (pc0 := pc) rfl (hb hby hd) ho hp q) (k T locs real X N S A L)
theorem g_icmp_eq {x y : Int32} {o : Int} {pc1 : Nat} (O : Ok G K own bytes maxL ret R mn kc ks) (hd : decode bytes pc = .ok (.if_icmp .eq o, 3)) (hp : pc + 3 = pc') (ho : 0 ≤ (pc : Int) + o) (ht : ((pc : Int) + o).toNat = pc1)
    (kt : x = y → Run G K rv Hf pc1 Ls st H cells slots) (kf : ¬ x = y → Run G K rv Hf pc' Ls st H cells slots) : Run G K rv Hf pc Ls (.int y :: .int x :: st) H cells slots := by
  obtain ⟨l, Z, a0, n⟩ := G; obtain ⟨p, e, R', s, m, args, below, meth, c, kc', ks'⟩ := K
  obtain ⟨hx, hZ, hown, hby, hml, hret, hlk, rfl, hnm, rfl, rfl, hw⟩ := O
  subst hp
  intro T locs real X N S A L
  by_cases h : x = y
  · exact Done.step (fun t q => XS.icmpYes X.here hx rfl (pc0 := pc) rfl (hb hby hd) rfl (XT.ii_eq_t h) ho ht q) (kt h T locs real X N S A L)
  · exact Done.step (fun t q => XS.icmpNo X.here hx rfl (hb hby hd) rfl (XT.ii_eq_f h) q) (kf h T locs real X N S A L)
theorem g_if_eq {x : Int32} {o : Int} {pc1 : Nat} (O : Ok G K own bytes maxL ret R mn kc ks) (hd : decode bytes pc = .ok (.ifCond .eq o, 3)) (hp : pc + 3 = pc') (ho : 0 ≤ (pc : Int) + o) (ht : ((pc : Int) + o).toNat = pc1)
    (kt : x = 0 → Run G K rv Hf pc1 Ls st H cells slots) (kf : ¬ x = 0 → Run G K rv Hf pc' Ls st H cells slots) : Run G K rv Hf pc Ls (.int x :: st) H cells slots := by
  obtain ⟨l, Z, a0, n⟩ := G; obtain ⟨p, e, R', s, m, args, below, meth, c, kc', ks'⟩ := K
  obtain ⟨hx, hZ, hown, hby, hml, hret, hlk, rfl, hnm, rfl, rfl, hw⟩ := O
  subst hp
  intro T locs real X N S A L
  by_cases h : x = 0
  · exact Done.step (fun t q => XS.ifYes X.here hx rfl (pc0 := pc) rfl (hb hby hd) rfl (XT.i0_eq_t h) ho ht q) (kt h T locs real X N S A L)
  · exact Done.step (fun t q => XS.ifNo X.here hx rfl (hb hby hd) rfl (XT.i0_eq_f h) q) (kf h T locs real X N S A L)
theorem g_lcmp_eq {x y : Int64} {pq : Nat} {o : Int} {pc1 : Nat} (O : Ok G K own bytes maxL ret R mn kc ks) (hd0 : decode bytes pc = .ok (.lcmp, 1)) (hq : pc + 1 = pq) (hd : decode bytes pq = .ok (.ifCond .eq o, 3)) (hp : pq + 3 = pc') (ho : 0 ≤ (pq : Int) + o) (ht : ((pq : Int) + o).toNat = pc1)
    (kt : x = y → Run G K rv Hf pc1 Ls st H cells slots) (kf : ¬ x = y → Run G K rv Hf pc' Ls st H cells slots) : Run G K rv Hf pc Ls (.long y :: .long x :: st) H cells slots := by
  obtain ⟨l, Z, a0, n⟩ := G; obtain ⟨p, e, R', s, m, args, below, meth, c, kc', ks'⟩ := K
  obtain ⟨hx, hZ, hown, hby, hml, hret, hlk, rfl, hnm, rfl, rfl, hw⟩ := O
  subst hq
  subst hp
  intro T locs real X N S A L
  by_cases h : x = y
  · exact Done.step (fun t q => XT.lcmp X.here hx rfl (hb hby hd0) rfl (XS.ifYes X.here hx rfl (pc0 := pc + 1) rfl (hb hby hd) rfl (XT.ll_eq_t h) ho ht q)) (kt h T locs real X N S A L)
  · exact Done.step (fun t q => XT.lcmp X.here hx rfl (hb hby hd0) rfl (XS.ifNo X.here hx rfl (hb hby hd) rfl (XT.ll_eq_f h) q)) (kf h T locs real X N S A L)
theorem g_icmp_ne {x y : Int32} {o : Int} {pc1 : Nat} (O : Ok G K own bytes maxL ret R mn kc ks) (hd : decode bytes pc = .ok (.if_icmp .ne o, 3)) (hp : pc + 3 = pc') (ho : 0 ≤ (pc : Int) + o) (ht : ((pc : Int) + o).toNat = pc1)
    (kt : ¬ x = y → Run G K rv Hf pc1 Ls st H cells slots) (kf : x = y → Run G K rv Hf pc' Ls st H cells slots) : Run G K rv Hf pc Ls (.int y :: .int x :: st) H cells slots := by
  obtain ⟨l, Z, a0, n⟩ := G; obtain ⟨p, e, R', s, m, args, below, meth, c, kc', ks'⟩ := K
  obtain ⟨hx, hZ, hown, hby, hml, hret, hlk, rfl, hnm, rfl, rfl, hw⟩ := O
  subst hp
  intro T locs real X N S A L
  by_cases h : x = y
  · exact Done.step (fun t q => XS.icmpNo X.here hx rfl (hb hby hd) rfl (XT.ii_ne_f h) q) (kf h T locs real X N S A L)
  · exact Done.step (fun t q => XS.icmpYes X.here hx rfl (pc0 := pc) rfl (hb hby hd) rfl (XT.ii_ne_t h) ho ht q) (kt h T locs real X N S A L)
theorem g_if_ne {x : Int32} {o : Int} {pc1 : Nat} (O : Ok G K own bytes maxL ret R mn kc ks) (hd : decode bytes pc = .ok (.ifCond .ne o, 3)) (hp : pc + 3 = pc') (ho : 0 ≤ (pc : Int) + o) (ht : ((pc : Int) + o).toNat = pc1)
    (kt : ¬ x = 0 → Run G K rv Hf pc1 Ls st H cells slots) (kf : x = 0 → Run G K rv Hf pc' Ls st H cells slots) : Run G K rv Hf pc Ls (.int x :: st) H cells slots := by
  obtain ⟨l, Z, a0, n⟩ := G; obtain ⟨p, e, R', s, m, args, below, meth, c, kc', ks'⟩ := K
  obtain ⟨hx, hZ, hown, hby, hml, hret, hlk, rfl, hnm, rfl, rfl, hw⟩ := O
  subst hp
  intro T locs real X N S A L
  by_cases h : x = 0
  · exact Done.step (fun t q => XS.ifNo X.here hx rfl (hb hby hd) rfl (XT.i0_ne_f h) q) (kf h T locs real X N S A L)
  · exact Done.step (fun t q => XS.ifYes X.here hx rfl (pc0 := pc) rfl (hb hby hd) rfl (XT.i0_ne_t h) ho ht q) (kt h T locs real X N S A L)
theorem g_lcmp_ne {x y : Int64} {pq : Nat} {o : Int} {pc1 : Nat} (O : Ok G K own bytes maxL ret R mn kc ks) (hd0 : decode bytes pc = .ok (.lcmp, 1)) (hq : pc + 1 = pq) (hd : decode bytes pq = .ok (.ifCond .ne o, 3)) (hp : pq + 3 = pc') (ho : 0 ≤ (pq : Int) + o) (ht : ((pq : Int) + o).toNat = pc1)
    (kt : ¬ x = y → Run G K rv Hf pc1 Ls st H cells slots) (kf : x = y → Run G K rv Hf pc' Ls st H cells slots) : Run G K rv Hf pc Ls (.long y :: .long x :: st) H cells slots := by
  obtain ⟨l, Z, a0, n⟩ := G; obtain ⟨p, e, R', s, m, args, below, meth, c, kc', ks'⟩ := K
  obtain ⟨hx, hZ, hown, hby, hml, hret, hlk, rfl, hnm, rfl, rfl, hw⟩ := O
  subst hq
  subst hp
  intro T locs real X N S A L
  by_cases h : x = y
  · exact Done.step (fun t q => XT.lcmp X.here hx rfl (hb hby hd0) rfl (XS.ifNo X.here hx rfl (hb hby hd) rfl (XT.ll_ne_f h) q)) (kf h T locs real X N S A L)
  · exact Done.step (fun t q => XT.lcmp X.here hx rfl (hb hby hd0) rfl (XS.ifYes X.here hx rfl (pc0 := pc + 1) rfl (hb hby hd) rfl (XT.ll_ne_t h) ho ht q)) (kt h T locs real X N S A L)
theorem g_icmp_lt {x y : Int32} {o : Int} {pc1 : Nat} (O : Ok G K own bytes maxL ret R mn kc ks) (hd : decode bytes pc = .ok (.if_icmp .lt o, 3)) (hp : pc + 3 = pc') (ho : 0 ≤ (pc : Int) + o) (ht : ((pc : Int) + o).toNat = pc1)
    (kt : x < y → Run G K rv Hf pc1 Ls st H cells slots) (kf : ¬ x < y → Run G K rv Hf pc' Ls st H cells slots) : Run G K rv Hf pc Ls (.int y :: .int x :: st) H cells slots := by
  obtain ⟨l, Z, a0, n⟩ := G; obtain ⟨p, e, R', s, m, args, below, meth, c, kc', ks'⟩ := K
  obtain ⟨hx, hZ, hown, hby, hml, hret, hlk, rfl, hnm, rfl, rfl, hw⟩ := O
  subst hp
  intro T locs real X N S A L
  by_cases h : x < y
  · exact Done.step (fun t q => XS.icmpYes X.here hx rfl (pc0 := pc) rfl (hb hby hd) rfl (XT.ii_lt_t h) ho ht q) (kt h T locs real X N S A L)
  · exact Done.step (fun t q => XS.icmpNo X.here hx rfl (hb hby hd) rfl (XT.ii_lt_f h) q) (kf h T locs real X N S A L)
theorem g_if_lt {x : Int32} {o : Int} {pc1 : Nat} (O : Ok G K own bytes maxL ret R mn kc ks) (hd : decode bytes pc = .ok (.ifCond .lt o, 3)) (hp : pc + 3 = pc') (ho : 0 ≤ (pc : Int) + o) (ht : ((pc : Int) + o).toNat = pc1)
    (kt : x < 0 → Run G K rv Hf pc1 Ls st H cells slots) (kf : ¬ x < 0 → Run G K rv Hf pc' Ls st H cells slots) : Run G K rv Hf pc Ls (.int x :: st) H cells slots := by
  obtain ⟨l, Z, a0, n⟩ := G; obtain ⟨p, e, R', s, m, args, below, meth, c, kc', ks'⟩ := K
  obtain ⟨hx, hZ, hown, hby, hml, hret, hlk, rfl, hnm, rfl, rfl, hw⟩ := O
  subst hp
  intro T locs real X N S A L
  by_cases h : x < 0
  · exact Done.step (fun t q => XS.ifYes X.here hx rfl (pc0 := pc) rfl (hb hby hd) rfl (XT.i0_lt_t h) ho ht q) (kt h T locs real X N S A L)
  · exact Done.step (fun t q => XS.ifNo X.here hx rfl (hb hby hd) rfl (XT.i0_lt_f h) q) (kf h T locs real X N S A L)
theorem g_lcmp_lt {x y : Int64} {pq : Nat} {o : Int} {pc1 : Nat} (O : Ok G K own bytes maxL ret R mn kc ks) (hd0 : decode bytes pc = .ok (.lcmp, 1)) (hq : pc + 1 = pq) (hd : decode bytes pq = .ok (.ifCond .lt o, 3)) (hp : pq + 3 = pc') (ho : 0 ≤ (pq : Int) + o) (ht : ((pq : Int) + o).toNat = pc1)
    (kt : x < y → Run G K rv Hf pc1 Ls st H cells slots) (kf : ¬ x < y → Run G K rv Hf pc' Ls st H cells slots) : Run G K rv Hf pc Ls (.long y :: .long x :: st) H cells slots := by
  obtain ⟨l, Z, a0, n⟩ := G; obtain ⟨p, e, R', s, m, args, below, meth, c, kc', ks'⟩ := K
  obtain ⟨hx, hZ, hown, hby, hml, hret, hlk, rfl, hnm, rfl, rfl, hw⟩ := O
  subst hq
  subst hp
  intro T locs real X N S A L
  by_cases h : x < y
  · exact Done.step (fun t q => XT.lcmp X.here hx rfl (hb hby hd0) rfl (XS.ifYes X.here hx rfl (pc0 := pc + 1) rfl (hb hby hd) rfl (XT.ll_lt_t h) ho ht q)) (kt h T locs real X N S A L)
  · exact Done.step (fun t q => XT.lcmp X.here hx rfl (hb hby hd0) rfl (XS.ifNo X.here hx rfl (hb hby hd) rfl (XT.ll_lt_f h) q)) (kf h T locs real X N S A L)
theorem g_icmp_ge {x y : Int32} {o : Int} {pc1 : Nat} (O : Ok G K own bytes maxL ret R mn kc ks) (hd : decode bytes pc = .ok (.if_icmp .ge o, 3)) (hp : pc + 3 = pc') (ho : 0 ≤ (pc : Int) + o) (ht : ((pc : Int) + o).toNat = pc1)
    (kt : ¬ x < y → Run G K rv Hf pc1 Ls st H cells slots) (kf : x < y → Run G K rv Hf pc' Ls st H cells slots) : Run G K rv Hf pc Ls (.int y :: .int x :: st) H cells slots := by
  obtain ⟨l, Z, a0, n⟩ := G; obtain ⟨p, e, R', s, m, args, below, meth, c, kc', ks'⟩ := K
  obtain ⟨hx, hZ, hown, hby, hml, hret, hlk, rfl, hnm, rfl, rfl, hw⟩ := O
  subst hp
  intro T locs real X N S A L
  by_cases h : x < y
  · exact Done.step (fun t q => XS.icmpNo X.here hx rfl (hb hby hd) rfl (XT.ii_ge_f h) q) (kf h T locs real X N S A L)
  · exact Done.step (fun t q => XS.icmpYes X.here hx rfl (pc0 := pc) rfl (hb hby hd) rfl (XT.ii_ge_t h) ho ht q) (kt h T locs real X N S A L)
theorem g_if_ge {x : Int32} {o : Int} {pc1 : Nat} (O : Ok G K own bytes maxL ret R mn kc ks) (hd : decode bytes pc = .ok (.ifCond .ge o, 3)) (hp : pc + 3 = pc') (ho : 0 ≤ (pc : Int) + o) (ht : ((pc : Int) + o).toNat = pc1)
    (kt : ¬ x < 0 → Run G K rv Hf pc1 Ls st H cells slots) (kf : x < 0 → Run G K rv Hf pc' Ls st H cells slots) : Run G K rv Hf pc Ls (.int x :: st) H cells slots := by
  obtain ⟨l, Z, a0, n⟩ := G; obtain ⟨p, e, R', s, m, args, below, meth, c, kc', ks'⟩ := K
  obtain ⟨hx, hZ, hown, hby, hml, hret, hlk, rfl, hnm, rfl, rfl, hw⟩ := O
  subst hp
  intro T locs real X N S A L
  by_cases h : x < 0
  · exact Done.step (fun t q => XS.ifNo X.here hx rfl (hb hby hd) rfl (XT.i0_ge_f h) q) (kf h T locs real X N S A L)
  · exact Done.step (fun t q => XS.ifYes X.here hx rfl (pc0 := pc) rfl (hb hby hd) rfl (XT.i0_ge_t h) ho ht q) (kt h T locs real X N S A L)
theorem g_lcmp_ge {x y : Int64} {pq : Nat} {o : Int} {pc1 : Nat} (O : Ok G K own bytes maxL ret R mn kc ks) (hd0 : decode bytes pc = .ok (.lcmp, 1)) (hq : pc + 1 = pq) (hd : decode bytes pq = .ok (.ifCond .ge o, 3)) (hp : pq + 3 = pc') (ho : 0 ≤ (pq : Int) + o) (ht : ((pq : Int) + o).toNat = pc1)
    (kt : ¬ x < y → Run G K rv Hf pc1 Ls st H cells slots) (kf : x < y → Run G K rv Hf pc' Ls st H cells slots) : Run G K rv Hf pc Ls (.long y :: .long x :: st) H cells slots := by
  obtain ⟨l, Z, a0, n⟩ := G; obtain ⟨p, e, R', s, m, args, below, meth, c, kc', ks'⟩ := K
  obtain ⟨hx, hZ, hown, hby, hml, hret, hlk, rfl, hnm, rfl, rfl, hw⟩ := O
  subst hq
  subst hp
  intro T locs real X N S A L
  by_cases h : x < y
  · exact Done.step (fun t q => XT.lcmp X.here hx rfl (hb hby hd0) rfl (XS.ifNo X.here hx rfl (hb hby hd) rfl (XT.ll_ge_f h) q)) (kf h T locs real X N S A L)
  · exact Done.step (fun t q => XT.lcmp X.here hx rfl (hb hby hd0) rfl (XS.ifYes X.here hx rfl (pc0 := pc + 1) rfl (hb hby hd) rfl (XT.ll_ge_t h) ho ht q)) (kt h T locs real X N S A L)
theorem g_icmp_gt {x y : Int32} {o : Int} {pc1 : Nat} (O : Ok G K own bytes maxL ret R mn kc ks) (hd : decode bytes pc = .ok (.if_icmp .gt o, 3)) (hp : pc + 3 = pc') (ho : 0 ≤ (pc : Int) + o) (ht : ((pc : Int) + o).toNat = pc1)
    (kt : y < x → Run G K rv Hf pc1 Ls st H cells slots) (kf : ¬ y < x → Run G K rv Hf pc' Ls st H cells slots) : Run G K rv Hf pc Ls (.int y :: .int x :: st) H cells slots := by
  obtain ⟨l, Z, a0, n⟩ := G; obtain ⟨p, e, R', s, m, args, below, meth, c, kc', ks'⟩ := K
  obtain ⟨hx, hZ, hown, hby, hml, hret, hlk, rfl, hnm, rfl, rfl, hw⟩ := O
  subst hp
  intro T locs real X N S A L
  by_cases h : y < x
  · exact Done.step (fun t q => XS.icmpYes X.here hx rfl (pc0 := pc) rfl (hb hby hd) rfl (XT.ii_gt_t h) ho ht q) (kt h T locs real X N S A L)
  · exact Done.step (fun t q => XS.icmpNo X.here hx rfl (hb hby hd) rfl (XT.ii_gt_f h) q) (kf h T locs real X N S A L)
theorem g_if_gt {x : Int32} {o : Int} {pc1 : Nat} (O : Ok G K own bytes maxL ret R mn kc ks) (hd : decode bytes pc = .ok (.ifCond .gt o, 3)) (hp : pc + 3 = pc') (ho : 0 ≤ (pc : Int) + o) (ht : ((pc : Int) + o).toNat = pc1)
    (kt : 0 < x → Run G K rv Hf pc1 Ls st H cells slots) (kf : ¬ 0 < x → Run G K rv Hf pc' Ls st H cells slots) : Run G K rv Hf pc Ls (.int x :: st) H cells slots := by
  obtain ⟨l, Z, a0, n⟩ := G; obtain ⟨p, e, R', s, m, args, below, meth, c, kc', ks'⟩ := K
  obtain ⟨hx, hZ, hown, hby, hml, hret, hlk, rfl, hnm, rfl, rfl, hw⟩ := O
  subst hp
  intro T locs real X N S A L
  by_cases h : 0 < x
  · exact Done.step (fun t q => XS.ifYes X.here hx rfl (pc0 := pc) rfl (hb hby hd) rfl (XT.i0_gt_t h) ho ht q) (kt h T locs real X N S A L)
  · exact Done.step (fun t q => XS.ifNo X.here hx rfl (hb hby hd) rfl (XT.i0_gt_f h) q) (kf h T locs real X N S A L)
theorem g_lcmp_gt {x y : Int64} {pq : Nat} {o : Int} {pc1 : Nat} (O : Ok G K own bytes maxL ret R mn kc ks) (hd0 : decode bytes pc = .ok (.lcmp, 1)) (hq : pc + 1 = pq) (hd : decode bytes pq = .ok (.ifCond .gt o, 3)) (hp : pq + 3 = pc') (ho : 0 ≤ (pq : Int) + o) (ht : ((pq : Int) + o).toNat = pc1)
    (kt : y < x → Run G K rv Hf pc1 Ls st H cells slots) (kf : ¬ y < x → Run G K rv Hf pc' Ls st H cells slots) : Run G K rv Hf pc Ls (.long y :: .long x :: st) H cells slots := by
  obtain ⟨l, Z, a0, n⟩ := G; obtain ⟨p, e, R', s, m, args, below, meth, c, kc', ks'⟩ := K
  obtain ⟨hx, hZ, hown, hby, hml, hret, hlk, rfl, hnm, rfl, rfl, hw⟩ := O
  subst hq
  subst hp
  intro T locs real X N S A L
  by_cases h : y < x
  · exact Done.step (fun t q => XT.lcmp X.here hx rfl (hb hby hd0) rfl (XS.ifYes X.here hx rfl (pc0 := pc + 1) rfl (hb hby hd) rfl (XT.ll_gt_t h) ho ht q)) (kt h T locs real X N S A L)
  · exact Done.step (fun t q => XT.lcmp X.here hx rfl (hb hby hd0) rfl (XS.ifNo X.here hx rfl (hb hby hd) rfl (XT.ll_gt_f h) q)) (kf h T locs real X N S A L)
theorem g_icmp_le {x y : Int32} {o : Int} {pc1 : Nat} (O : Ok G K own bytes maxL ret R mn kc ks) (hd : decode bytes pc = .ok (.if_icmp .le o, 3)) (hp : pc + 3 = pc') (ho : 0 ≤ (pc : Int) + o) (ht : ((pc : Int) + o).toNat = pc1)
    (kt : ¬ y < x → Run G K rv Hf pc1 Ls st H cells slots) (kf : y < x → Run G K rv Hf pc' Ls st H cells slots) : Run G K rv Hf pc Ls (.int y :: .int x :: st) H cells slots := by
  obtain ⟨l, Z, a0, n⟩ := G; obtain ⟨p, e, R', s, m, args, below, meth, c, kc', ks'⟩ := K
  obtain ⟨hx, hZ, hown, hby, hml, hret, hlk, rfl, hnm, rfl, rfl, hw⟩ := O
  subst hp
  intro T locs real X N S A L
  by_cases h : y < x
  · exact Done.step (fun t q => XS.icmpNo X.here hx rfl (hb hby hd) rfl (XT.ii_le_f h) q) (kf h T locs real X N S A L)
  · exact Done.step (fun t q => XS.icmpYes X.here hx rfl (pc0 := pc) rfl (hb hby hd) rfl (XT.ii_le_t h) ho ht q) (kt h T locs real X N S A L)
theorem g_if_le {x : Int32} {o : Int} {pc1 : Nat} (O : Ok G K own bytes maxL ret R mn kc ks) (hd : decode bytes pc = .ok (.ifCond .le o, 3)) (hp : pc + 3 = pc') (ho : 0 ≤ (pc : Int) + o) (ht : ((pc : Int) + o).toNat = pc1)
    (kt : ¬ 0 < x → Run G K rv Hf pc1 Ls st H cells slots) (kf : 0 < x → Run G K rv Hf pc' Ls st H cells slots) : Run G K rv Hf pc Ls (.int x :: st) H cells slots := by
  obtain ⟨l, Z, a0, n⟩ := G; obtain ⟨p, e, R', s, m, args, below, meth, c, kc', ks'⟩ := K
  obtain ⟨hx, hZ, hown, hby, hml, hret, hlk, rfl, hnm, rfl, rfl, hw⟩ := O
  subst hp
  intro T locs real X N S A L
  by_cases h : 0 < x
  · exact Done.step (fun t q => XS.ifNo X.here hx rfl (hb hby hd) rfl (XT.i0_le_f h) q) (kf h T locs real X N S A L)
  · exact Done.step (fun t q => XS.ifYes X.here hx rfl (pc0 := pc) rfl (hb hby hd) rfl (XT.i0_le_t h) ho ht q) (kt h T locs real X N S A L)
theorem g_lcmp_le {x y : Int64} {pq : Nat} {o : Int} {pc1 : Nat} (O : Ok G K own bytes maxL ret R mn kc ks) (hd0 : decode bytes pc = .ok (.lcmp, 1)) (hq : pc + 1 = pq) (hd : decode bytes pq = .ok (.ifCond .le o, 3)) (hp : pq + 3 = pc') (ho : 0 ≤ (pq : Int) + o) (ht : ((pq : Int) + o).toNat = pc1)
    (kt : ¬ y < x → Run G K rv Hf pc1 Ls st H cells slots) (kf : y < x → Run G K rv Hf pc' Ls st H cells slots) : Run G K rv Hf pc Ls (.long y :: .long x :: st) H cells slots := by
  obtain ⟨l, Z, a0, n⟩ := G; obtain ⟨p, e, R', s, m, args, below, meth, c, kc', ks'⟩ := K
  obtain ⟨hx, hZ, hown, hby, hml, hret, hlk, rfl, hnm, rfl, rfl, hw⟩ := O
  subst hq
  subst hp
  intro T locs real X N S A L
  by_cases h : y < x
  · exact Done.step (fun t q => XT.lcmp X.here hx rfl (hb hby hd0) rfl (XS.ifNo X.here hx rfl (hb hby hd) rfl (XT.ll_le_f h) q)) (kf h T locs real X N S A L)
  · exact Done.step (fun t q => XT.lcmp X.here hx rfl (hb hby hd0) rfl (XS.ifYes X.here hx rfl (pc0 := pc + 1) rfl (hb hby hd) rfl (XT.ll_le_t h) ho ht q)) (kt h T locs real X N S A L)
/-! reading and writing the heap, in the model -/
def arr (ty : FieldType) (H : List Obj) (i : Nat) : Option (List Value) := match H[i]? with
  | some (.inl (t, vs)) => if t = ty then some vs else none
  | _ => none
def rd (ty : FieldType) (H : List Obj) (i : Nat) (j : Int32) : Option Value := (arr ty H i).bind fun vs => if j < 0 then none else vs[j.toNatClampNeg]?
def getI : Value → Option Int32
  | .int x => some x
  | _ => none
def getJ : Value → Option Int64
  | .long x => some x
  | _ => none
def getA : Value → Option Nat
  | .ref x => some x
  | _ => none
def rdI (ty : FieldType) (H : List Obj) (i : Nat) (j : Int32) : Option Int32 := (rd ty H i j).bind getI
def rdJ (H : List Obj) (i : Nat) (j : Int32) : Option Int64 := (rd .long H i j).bind getJ
def wr (ty : FieldType) (H : List Obj) (i : Nat) (j : Int32) (v : Value) : Option (List Obj) := (arr ty H i).bind fun vs => if j < 0 ∨ vs.length ≤ j.toNatClampNeg then none else some (H.set i (.inl (ty, vs.set j.toNatClampNeg v)))
def alen (H : List Obj) (i : Nat) : Option Int32 := match H[i]? with
  | some (.inl (_, vs)) => some vs.length.toInt32
  | _ => none
def mkArr (ty : FieldType) (cap : Nat) (H : List Obj) (j : Int32) : Option (List Obj) := if j < 0 ∨ cap < j.toNatClampNeg then none else some (H ++ [.inl (ty, List.replicate j.toNatClampNeg (defaultValue ty))])
def obj (t : Nat) (H : List Obj) (i : Nat) : Option (List Value) := match H[i]? with
  | some (.inr (t', vs)) => if t' = t then some vs else none
  | _ => none
def fld (t k : Nat) (H : List Obj) (i : Nat) : Option Value := (obj t H i).bind fun vs => vs[k]?
def fldI (t k : Nat) (H : List Obj) (i : Nat) : Option Int32 := (fld t k H i).bind getI
def fldJ (t k : Nat) (H : List Obj) (i : Nat) : Option Int64 := (fld t k H i).bind getJ
def fldA (t k : Nat) (H : List Obj) (i : Nat) : Option Nat := (fld t k H i).bind getA
def setF (t k : Nat) (H : List Obj) (i : Nat) (v : Value) : Option (List Obj) := (obj t H i).bind fun vs => if k < vs.length then some (H.set i (.inr (t, vs.set k v))) else none
theorem getI_e {v : Value} {x : Int32} (h : getI v = some x) : v = .int x := by cases v <;> simp [getI] at h; rw [h]
theorem getJ_e {v : Value} {x : Int64} (h : getJ v = some x) : v = .long x := by cases v <;> simp [getJ] at h; rw [h]
theorem getA_e {v : Value} {x : Nat} (h : getA v = some x) : v = .ref x := by cases v <;> simp [getA] at h; rw [h]
theorem rdI_e {ty : FieldType} {i : Nat} {j x : Int32} (h : rdI ty H i j = some x) : rd ty H i j = some (.int x) := by
  obtain ⟨v, h1, h2⟩ := Option.bind_eq_some_iff.mp h; rw [h1, getI_e h2]
theorem rdJ_e {i : Nat} {j : Int32} {x : Int64} (h : rdJ H i j = some x) : rd .long H i j = some (.long x) := by
  obtain ⟨v, h1, h2⟩ := Option.bind_eq_some_iff.mp h; rw [h1, getJ_e h2]
theorem fldI_e {t k i : Nat} {x : Int32} (h : fldI t k H i = some x) : fld t k H i = some (.int x) := by
  obtain ⟨v, h1, h2⟩ := Option.bind_eq_some_iff.mp h; rw [h1, getI_e h2]
theorem fldJ_e {t k i : Nat} {x : Int64} (h : fldJ t k H i = some x) : fld t k H i = some (.long x) := by
  obtain ⟨v, h1, h2⟩ := Option.bind_eq_some_iff.mp h; rw [h1, getJ_e h2]
theorem fldA_e {t k i x : Nat} (h : fldA t k H i = some x) : fld t k H i = some (.ref x) := by
  obtain ⟨v, h1, h2⟩ := Option.bind_eq_some_iff.mp h; rw [h1, getA_e h2]
theorem arr_e {ty : FieldType} {i : Nat} {vs : List Value} (h : arr ty H i = some vs) : H[i]? = some (.inl (ty, vs)) := by
  unfold arr at h; split at h
  · rename_i t us hh; split at h
    · rename_i e; cases h; rw [hh, e]
    · cases h
  · cases h
theorem obj_e {t i : Nat} {vs : List Value} (h : obj t H i = some vs) : H[i]? = some (.inr (t, vs)) := by
  unfold obj at h; split at h
  · rename_i t us hh; split at h
    · rename_i e; cases h; rw [hh, e]
    · cases h
  · cases h
theorem sim_arr {h : Heap} {ty : FieldType} {i : Nat} {vs : List Value} (S : Sim G H h) (e : arr ty H i = some vs) : ∃ c : Cell, Arr G.2.1 h (G.2.2.2 + i) c ty ∧ c.slots = (vs.map (sh G.2.2.2)).toArray := (S.2 i _ (arr_e e)).2
theorem sim_obj {h : Heap} {t i : Nat} {vs : List Value} (S : Sim G H h) (e : obj t H i = some vs) : Exa G.2.1 h (G.2.2.2 + i) (lay t).1 ∧ vs.length = (lay t).2.length ∧ ∀ (k : Nat) (nd : String × String) (v : Value), (lay t).2[k]? = some nd → vs[k]? = some v → Fld G.2.1 h (G.2.2.2 + i) (lay t).1 nd.1 nd.2 (sh G.2.2.2 v) := S.2 i _ (obj_e e)
theorem sim_ext {h h' : Heap} {o : Obj} (S : Sim G H h) (E : Ext h h') (hs : h'.size = h.size + 1) (ho : ObjOk G.2.1 G.2.2.2 h' h.size o) : Sim G (H ++ [o]) h' := by
  refine ⟨by rw [hs, S.1, List.length_append]; rfl, fun i q hq => ?_⟩
  by_cases hi : i < H.length
  · rw [List.getElem?_append_left hi] at hq
    have r := S.2 i q hq
    rcases q with ⟨ty, vs⟩ | ⟨t, vs⟩
    · obtain ⟨X, c, A, r⟩ := r; exact ⟨X.ext E, c, A.ext E, r⟩
    · obtain ⟨X, l, F⟩ := r; exact ⟨X.ext E, l, fun k nd v h1 h2 => (F k nd v h1 h2).ext E⟩
  · rw [List.getElem?_append_right (Nat.le_of_not_lt hi)] at hq
    have : i - H.length = 0 := by
      have := (List.getElem?_eq_some_iff.mp hq).1; simp at this; omega
    rw [this] at hq
    cases hq
    have : G.2.2.2 + i = h.size := by rw [S.1]; have := Nat.le_of_not_lt hi; omega
    rw [this]; exact ho
theorem sim_wr {h h' : Heap} {ty : FieldType} {i j : Nat} {vs : List Value} {v : Value} (S : Sim G H h) (e : arr ty H i = some vs) (W : Wr h h' (G.2.2.2 + i) j (sh G.2.2.2 v)) : Sim G (H.set i (.inl (ty, vs.set j v))) h' := by
  refine ⟨by rw [W.size, S.1, List.length_set], fun i' q hq => ?_⟩
  have hlt := (List.getElem?_eq_some_iff.mp (arr_e e)).1
  by_cases hi : i = i'
  · subst hi
    rw [List.getElem?_set_self hlt] at hq
    cases hq
    obtain ⟨X, c, A, r⟩ := S.2 i _ (arr_e e)
    exact ⟨X.wr W, _, A.same W, by simp [Cell.setSlot, r, List.map_set]⟩
  · rw [List.getElem?_set_ne hi] at hq
    have r := S.2 i' q hq
    have ne : G.2.2.2 + i' ≠ G.2.2.2 + i := by omega
    rcases q with ⟨ty, vs⟩ | ⟨t, vs⟩
    · obtain ⟨X, c, A, r⟩ := r; exact ⟨X.wr W, c, A.other W ne, r⟩
    · obtain ⟨X, l, F⟩ := r; exact ⟨X.wr W, l, fun k nd v h1 h2 => (F k nd v h1 h2).other W (Or.inl ne)⟩
theorem lay_slot {Z : State} {a0 : Array Value} (hw : ∀ d ∈ tables_1, d.before a0 Z = true) {t k k' : Nat} {nd nd' : String × String} (h1 : (lay t).2[k]? = some nd) (h2 : (lay t).2[k']? = some nd') (ne : k ≠ k') : Jvm.RoadKit.slotOf Z (lay t).1 nd.1 nd.2 ≠ Jvm.RoadKit.slotOf Z (lay t).1 nd'.1 nd'.2 := by
  obtain ⟨t1, p1⟩ := lay_parse t nd (List.mem_of_getElem? h1)
  obtain ⟨t2, p2⟩ := lay_parse t nd' (List.mem_of_getElem? h2)
  exact slot_ne (C := (lay t).1) (a0 := a0) ((lay_word t nd (List.mem_of_getElem? h1)).imp (hw _) (hw _)) ((lay_word t nd' (List.mem_of_getElem? h2)).imp (hw _) (hw _)) (lay_names t k k' nd nd' h1 h2 ne) p1 p2
theorem sim_put {h h' : Heap} {t i k : Nat} {nd : String × String} {vs : List Value} {v : Value} (hw : ∀ d ∈ tables_1, d.before G.2.2.1 G.2.1 = true) (S : Sim G H h) (e : obj t H i = some vs) (hk : (lay t).2[k]? = some nd) (W : Wr h h' (G.2.2.2 + i) (Jvm.RoadKit.slotOf G.2.1 (lay t).1 nd.1 nd.2) (sh G.2.2.2 v)) : Sim G (H.set i (.inr (t, vs.set k v))) h' := by
  refine ⟨by rw [W.size, S.1, List.length_set], fun i' q hq => ?_⟩
  have hlt := (List.getElem?_eq_some_iff.mp (obj_e e)).1
  by_cases hi : i = i'
  · subst hi
    rw [List.getElem?_set_self hlt] at hq
    cases hq
    obtain ⟨X, l, F⟩ := S.2 i _ (obj_e e)
    refine ⟨X.wr W, by rw [List.length_set]; exact l, fun k' nd' v' h1 h2 => ?_⟩
    have hkl : k < vs.length := by rw [l]; exact (List.getElem?_eq_some_iff.mp hk).1
    by_cases ek : k = k'
    · subst ek
      rw [List.getElem?_set_self hkl] at h2
      cases h2
      cases hk.symm.trans h1
      exact (F k nd _ hk (List.getElem?_eq_getElem hkl)).same W
    · rw [List.getElem?_set_ne ek] at h2
      exact (F k' nd' v' h1 h2).other W (Or.inr (lay_slot hw h1 hk (Ne.symm ek)))
  · rw [List.getElem?_set_ne hi] at hq
    have r := S.2 i' q hq
    have ne : G.2.2.2 + i' ≠ G.2.2.2 + i := by omega
    rcases q with ⟨ty, vs⟩ | ⟨t, vs⟩
    · obtain ⟨X, c, A, r⟩ := r; exact ⟨X.wr W, c, A.other W ne, r⟩
    · obtain ⟨X, l, F⟩ := r; exact ⟨X.wr W, l, fun k nd v h1 h2 => (F k nd v h1 h2).other W (Or.inl ne)⟩
/-! the steps that read the tables or the heap -/
theorem g_ldc {ix : Nat} {v : Int32} (O : Ok G K own bytes maxL ret R mn kc ks) (hd : decode bytes pc = .ok (.ldc ix, 2)) (w : Jvm.Cond.constant own ix v ∈ tables_1) (hp : pc + 2 = pc')
    (k : Run G K rv Hf pc' Ls (.int v :: st) H cells slots) : Run G K rv Hf pc Ls st H cells slots := by
  obtain ⟨l, Z, a0, n⟩ := G; obtain ⟨p, e, R', s, m, args, below, meth, c, kc', ks'⟩ := K
  obtain ⟨hx, hZ, hown, hby, hml, hret, hlk, rfl, hnm, rfl, rfl, hw⟩ := O
  subst hp
  intro T locs real X N S A L
  exact Done.step (fun t q => X.ldcI hx hown (mv hZ (hw _ w)) rfl (hb hby hd) q) (k T locs real X N S A L)
theorem g_ldc2 {ix : Nat} {v : Int64} (O : Ok G K own bytes maxL ret R mn kc ks) (hd : decode bytes pc = .ok (.ldc2_w ix, 3)) (w : Jvm.Cond.constantLong own ix v ∈ tables_1) (hp : pc + 3 = pc')
    (k : Run G K rv Hf pc' Ls (.long v :: st) H cells slots) : Run G K rv Hf pc Ls st H cells slots := by
  obtain ⟨l, Z, a0, n⟩ := G; obtain ⟨p, e, R', s, m, args, below, meth, c, kc', ks'⟩ := K
  obtain ⟨hx, hZ, hown, hby, hml, hret, hlk, rfl, hnm, rfl, rfl, hw⟩ := O
  subst hp
  intro T locs real X N S A L
  exact Done.step (fun t q => X.ldc2J hx hown (mv hZ (hw _ w)) rfl (hb hby hd) q) (k T locs real X N S A L)
theorem rd_e {ty : FieldType} {i : Nat} {j : Int32} {v : Value} (h : rd ty H i j = some v) : ∃ vs, arr ty H i = some vs ∧ ¬ j < 0 ∧ vs[j.toNatClampNeg]? = some v := by
  obtain ⟨vs, h1, h2⟩ := Option.bind_eq_some_iff.mp h
  split at h2
  · cases h2
  · exact ⟨vs, h1, by assumption, h2⟩
theorem inb_sl {c : Cell} {vs : List Value} {n : Nat} {j : Int32} {v : Value} (e : c.slots = (vs.map (sh n)).toArray) (h0 : ¬ j < 0) (h : vs[j.toNatClampNeg]? = some v) : ¬ (j < 0 ∨ c.slots.size ≤ j.toNatClampNeg) ∧ c.slots[j.toNatClampNeg]? = some (sh n v) := by
  have := (List.getElem?_eq_some_iff.mp h).1
  refine ⟨fun q => q.elim h0 (fun q => by rw [e] at q; simp at q; omega), by rw [e]; simp [h]⟩
theorem g_iaload {i : Nat} {j : Int32} {v : Int32} (O : Ok G K own bytes maxL ret R mn kc ks) (hd : decode bytes pc = .ok (.iaload, 1)) (hr : rdI .int H i j = some v) (hp : pc + 1 = pc')
    (k : Run G K rv Hf pc' Ls (.int v :: st) H cells slots) : Run G K rv Hf pc Ls (.int j :: .ref i :: st) H cells slots := by
  obtain ⟨l, Z, a0, n⟩ := G; obtain ⟨p, e, R', s, m, args, below, meth, c, kc', ks'⟩ := K
  obtain ⟨hx, hZ, hown, hby, hml, hret, hlk, rfl, hnm, rfl, rfl, hw⟩ := O
  subst hp
  intro T locs real X N S A L
  obtain ⟨vs, h1, h2, h3⟩ := rd_e (rdI_e hr)
  obtain ⟨cl, B, es⟩ := sim_arr S h1
  obtain ⟨q1, q2⟩ := inb_sl es h2 h3
  exact Done.step (fun t q => X.iaload hx B.1 (State.isArrayOf_alike hZ.alike B.2.1) B.2.2 q1 q2 (g := mkF m pc real ((.int j :: .ref i :: st).map (sh n))) rfl rfl (hb hby hd) t q) (k T locs real X N S A L)
theorem g_caload {i : Nat} {j : Int32} {v : Int32} (O : Ok G K own bytes maxL ret R mn kc ks) (hd : decode bytes pc = .ok (.caload, 1)) (hr : rdI .char H i j = some v) (hp : pc + 1 = pc')
    (k : Run G K rv Hf pc' Ls (.int v :: st) H cells slots) : Run G K rv Hf pc Ls (.int j :: .ref i :: st) H cells slots := by
  obtain ⟨l, Z, a0, n⟩ := G; obtain ⟨p, e, R', s, m, args, below, meth, c, kc', ks'⟩ := K
  obtain ⟨hx, hZ, hown, hby, hml, hret, hlk, rfl, hnm, rfl, rfl, hw⟩ := O
  subst hp
  intro T locs real X N S A L
  obtain ⟨vs, h1, h2, h3⟩ := rd_e (rdI_e hr)
  obtain ⟨cl, B, es⟩ := sim_arr S h1
  obtain ⟨q1, q2⟩ := inb_sl es h2 h3
  exact Done.step (fun t q => X.caload hx B.1 (State.isArrayOf_alike hZ.alike B.2.1) B.2.2 q1 q2 (g := mkF m pc real ((.int j :: .ref i :: st).map (sh n))) rfl rfl (hb hby hd) t q) (k T locs real X N S A L)
theorem g_baload {i : Nat} {j : Int32} {v : Int32} (O : Ok G K own bytes maxL ret R mn kc ks) (hd : decode bytes pc = .ok (.baload, 1)) (hr : rdI .byte H i j = some v) (hp : pc + 1 = pc')
    (k : Run G K rv Hf pc' Ls (.int v :: st) H cells slots) : Run G K rv Hf pc Ls (.int j :: .ref i :: st) H cells slots := by
  obtain ⟨l, Z, a0, n⟩ := G; obtain ⟨p, e, R', s, m, args, below, meth, c, kc', ks'⟩ := K
  obtain ⟨hx, hZ, hown, hby, hml, hret, hlk, rfl, hnm, rfl, rfl, hw⟩ := O
  subst hp
  intro T locs real X N S A L
  obtain ⟨vs, h1, h2, h3⟩ := rd_e (rdI_e hr)
  obtain ⟨cl, B, es⟩ := sim_arr S h1
  obtain ⟨q1, q2⟩ := inb_sl es h2 h3
  exact Done.step (fun t q => X.baloadBytes hx B.1 (State.isArrayOf_alike hZ.alike B.2.1) B.2.2 q1 q2 (g := mkF m pc real ((.int j :: .ref i :: st).map (sh n))) rfl rfl (hb hby hd) t q) (k T locs real X N S A L)
theorem g_laload {i : Nat} {j : Int32} {v : Int64} (O : Ok G K own bytes maxL ret R mn kc ks) (hd : decode bytes pc = .ok (.laload, 1)) (hr : rdJ H i j = some v) (hp : pc + 1 = pc')
    (k : Run G K rv Hf pc' Ls (.long v :: st) H cells slots) : Run G K rv Hf pc Ls (.int j :: .ref i :: st) H cells slots := by
  obtain ⟨l, Z, a0, n⟩ := G; obtain ⟨p, e, R', s, m, args, below, meth, c, kc', ks'⟩ := K
  obtain ⟨hx, hZ, hown, hby, hml, hret, hlk, rfl, hnm, rfl, rfl, hw⟩ := O
  subst hp
  intro T locs real X N S A L
  obtain ⟨vs, h1, h2, h3⟩ := rd_e (rdJ_e hr)
  obtain ⟨cl, B, es⟩ := sim_arr S h1
  obtain ⟨q1, q2⟩ := inb_sl es h2 h3
  exact Done.step (fun t q => X.laload hx B.1 (State.isArrayOf_alike hZ.alike B.2.1) B.2.2 q1 q2 (g := mkF m pc real ((.int j :: .ref i :: st).map (sh n))) rfl rfl (hb hby hd) t q) (k T locs real X N S A L)
theorem g_arraylength {i : Nat} {v : Int32} (O : Ok G K own bytes maxL ret R mn kc ks) (hd : decode bytes pc = .ok (.arraylength, 1)) (hr : alen H i = some v) (hp : pc + 1 = pc')
    (k : Run G K rv Hf pc' Ls (.int v :: st) H cells slots) : Run G K rv Hf pc Ls (.ref i :: st) H cells slots := by
  obtain ⟨l, Z, a0, n⟩ := G; obtain ⟨p, e, R', s, m, args, below, meth, c, kc', ks'⟩ := K
  obtain ⟨hx, hZ, hown, hby, hml, hret, hlk, rfl, hnm, rfl, rfl, hw⟩ := O
  subst hp
  intro T locs real X N S A L
  unfold alen at hr
  split at hr
  · rename_i ty vs hh
    cases hr
    obtain ⟨-, cl, B, es⟩ := S.2 i _ hh
    have q1 : cl.slots.size = vs.length := by rw [es]; simp
    exact Done.step (fun t q => X.arraylength hx B.1 (State.isArrayOf_alike hZ.alike B.2.1) (g := mkF m pc real ((.ref i :: st).map (sh n))) rfl rfl (hb hby hd) t (by rw [q1]; exact q)) (k T locs real X N S A L)
  · cases hr
theorem wr_e {ty : FieldType} {i : Nat} {j : Int32} {v : Value} {H' : List Obj} (h : wr ty H i j v = some H') : ∃ vs, arr ty H i = some vs ∧ ¬ (j < 0 ∨ vs.length ≤ j.toNatClampNeg) ∧ H' = H.set i (.inl (ty, vs.set j.toNatClampNeg v)) := by
  obtain ⟨vs, h1, h2⟩ := Option.bind_eq_some_iff.mp h
  split at h2
  · cases h2
  · cases h2; exact ⟨vs, h1, by assumption, rfl⟩
theorem wr_len {ty : FieldType} {i : Nat} {j : Int32} {v : Value} {H' : List Obj} (h : wr ty H i j v = some H') : H'.length = H.length := by
  obtain ⟨vs, -, -, rfl⟩ := wr_e h; simp
theorem sl_len {c : Cell} {vs : List Value} {n : Nat} (e : c.slots = (vs.map (sh n)).toArray) : c.slots.size = vs.length := by rw [e]; simp
theorem g_iastore {i : Nat} {j x : Int32} {H' : List Obj} (O : Ok G K own bytes maxL ret R mn kc ks) (hd : decode bytes pc = .ok (.iastore, 1)) (hr : wr .int H i j (.int x) = some H') (hp : pc + 1 = pc')
    (k : Run G K rv Hf pc' Ls st H' cells slots) : Run G K rv Hf pc Ls (.int x :: .int j :: .ref i :: st) H cells slots := by
  obtain ⟨l, Z, a0, n⟩ := G; obtain ⟨p, e, R', s, m, args, below, meth, c, kc', ks'⟩ := K
  obtain ⟨hx, hZ, hown, hby, hml, hret, hlk, rfl, hnm, rfl, rfl, hw⟩ := O
  subst hp
  intro T locs real X N S A L
  obtain ⟨vs, h1, h2, rfl⟩ := wr_e hr
  obtain ⟨cl, B, es⟩ := sim_arr S h1
  obtain ⟨T', h', X', e', W, stp⟩ := stI X hx hZ rfl B (j := j) (x := x) (by rw [sl_len es]; exact h2) (g := mkF m pc real ((.int x :: .int j :: .ref i :: st).map (sh n))) rfl rfl (hb hby hd)
  exact Done.step stp (k T' _ real X' (Fr.snoc X' N (Nat.le_add_right _ _)) (by rw [e']; exact sim_wr (v := .int x) S h1 W) (by simpa using A) L)
theorem g_lastore {i : Nat} {j : Int32} {x : Int64} {H' : List Obj} (O : Ok G K own bytes maxL ret R mn kc ks) (hd : decode bytes pc = .ok (.lastore, 1)) (hr : wr .long H i j (.long x) = some H') (hp : pc + 1 = pc')
    (k : Run G K rv Hf pc' Ls st H' cells slots) : Run G K rv Hf pc Ls (.long x :: .int j :: .ref i :: st) H cells slots := by
  obtain ⟨l, Z, a0, n⟩ := G; obtain ⟨p, e, R', s, m, args, below, meth, c, kc', ks'⟩ := K
  obtain ⟨hx, hZ, hown, hby, hml, hret, hlk, rfl, hnm, rfl, rfl, hw⟩ := O
  subst hp
  intro T locs real X N S A L
  obtain ⟨vs, h1, h2, rfl⟩ := wr_e hr
  obtain ⟨cl, B, es⟩ := sim_arr S h1
  obtain ⟨T', h', X', e', W, stp⟩ := stJ X hx hZ rfl B (j := j) (x := x) (by rw [sl_len es]; exact h2) (g := mkF m pc real ((.long x :: .int j :: .ref i :: st).map (sh n))) rfl rfl (hb hby hd)
  exact Done.step stp (k T' _ real X' (Fr.snoc X' N (Nat.le_add_right _ _)) (by rw [e']; exact sim_wr (v := .long x) S h1 W) (by simpa using A) L)
theorem g_bastore {i : Nat} {j x : Int32} {H' : List Obj} (O : Ok G K own bytes maxL ret R mn kc ks) (hd : decode bytes pc = .ok (.bastore, 1)) (hr : wr .byte H i j (.int (nar .byte x)) = some H') (hp : pc + 1 = pc')
    (k : Run G K rv Hf pc' Ls st H' cells slots) : Run G K rv Hf pc Ls (.int x :: .int j :: .ref i :: st) H cells slots := by
  obtain ⟨l, Z, a0, n⟩ := G; obtain ⟨p, e, R', s, m, args, below, meth, c, kc', ks'⟩ := K
  obtain ⟨hx, hZ, hown, hby, hml, hret, hlk, rfl, hnm, rfl, rfl, hw⟩ := O
  subst hp
  intro T locs real X N S A L
  obtain ⟨vs, h1, h2, rfl⟩ := wr_e hr
  obtain ⟨cl, B, es⟩ := sim_arr S h1
  obtain ⟨T', h', X', e', W, stp⟩ := stB X hx hZ rfl B (j := j) (x := x) (by rw [sl_len es]; exact h2) (g := mkF m pc real ((.int x :: .int j :: .ref i :: st).map (sh n))) rfl rfl (hb hby hd)
  exact Done.step stp (k T' _ real X' (Fr.snoc X' N (Nat.le_add_right _ _)) (by rw [e']; exact sim_wr (v := .int (nar .byte x)) S h1 W) (by simpa using A) L)
theorem g_castore {i : Nat} {j x : Int32} {H' : List Obj} (O : Ok G K own bytes maxL ret R mn kc ks) (hd : decode bytes pc = .ok (.castore, 1)) (hr : wr .char H i j (.int (nar .char x)) = some H') (hp : pc + 1 = pc')
    (k : Run G K rv Hf pc' Ls st H' cells slots) : Run G K rv Hf pc Ls (.int x :: .int j :: .ref i :: st) H cells slots := by
  obtain ⟨l, Z, a0, n⟩ := G; obtain ⟨p, e, R', s, m, args, below, meth, c, kc', ks'⟩ := K
  obtain ⟨hx, hZ, hown, hby, hml, hret, hlk, rfl, hnm, rfl, rfl, hw⟩ := O
  subst hp
  intro T locs real X N S A L
  obtain ⟨vs, h1, h2, rfl⟩ := wr_e hr
  obtain ⟨cl, B, es⟩ := sim_arr S h1
  obtain ⟨T', h', X', e', W, stp⟩ := stC X hx hZ rfl B (j := j) (x := x) (by rw [sl_len es]; exact h2) (g := mkF m pc real ((.int x :: .int j :: .ref i :: st).map (sh n))) rfl rfl (hb hby hd)
  exact Done.step stp (k T' _ real X' (Fr.snoc X' N (Nat.le_add_right _ _)) (by rw [e']; exact sim_wr (v := .int (nar .char x)) S h1 W) (by simpa using A) L)
theorem g_newarray {aty : ArrayType} {cap : Nat} {j : Int32} {H' : List Obj} (O : Ok G K own bytes maxL ret R mn kc ks) (hd : decode bytes pc = .ok (.newarray aty, 2)) (w : Jvm.Cond.arrayClass (newarray.typeOf aty) ∈ tables_1)
    (hr : mkArr (newarray.typeOf aty) cap H j = some H') (hb8 : cap * 8 ≤ 536870912) {c2 s2 : Nat} (hc2 : cells + 1 = c2) (hs2 : slots + cap = s2) (hc : c2 ≤ R.cells) (hs : s2 ≤ R.slots) (hp : pc + 2 = pc')
    (k : Run G K rv Hf pc' Ls (.ref H.length :: st) H' c2 s2) : Run G K rv Hf pc Ls (.int j :: st) H cells slots := by
  obtain ⟨l, Z, a0, n⟩ := G; obtain ⟨p, e, R', s, m, args, below, meth, c, kc', ks'⟩ := K
  obtain ⟨hx, hZ, hown, hby, hml, hret, hlk, rfl, hnm, rfl, rfl, hw⟩ := O
  subst hp hc2 hs2
  intro T locs real X N S A L
  unfold mkArr at hr
  split at hr
  · cases hr
  rename_i hj
  cases hr
  have hj0 : ¬ j < 0 := fun q => hj (Or.inl q)
  obtain ⟨T', h', cA, X', e', E, B, EX, stp⟩ := newPE X hx hZ (hw _ w) rfl (g := mkF m pc real ((.int j :: st).map (sh n))) rfl (hb hby hd) rfl hj0 (cap := cap) (Nat.le_of_not_lt fun q => hj (Or.inr q)) hb8 hc hs rfl
  have hsz : h'.size = T.heap.size + 1 := by
    have a1 : Array.size T.heap < Array.size h' := B.lt
    have a2 : Array.size T'.heap ≤ Array.size s.heap + (cells + 1) := X'.heapSize
    rw [e'] at a2
    have a3 : Array.size T.heap = n + H.length := S.1
    have a4 : Array.size s.heap + cells = n + H.length := A
    omega
  have ea : T.heap.size = n + H.length := S.1
  have S' : Sim (l, Z, a0, n) (H ++ [.inl (newarray.typeOf aty, List.replicate j.toNatClampNeg (defaultValue (newarray.typeOf aty)))]) T'.heap := by
    rw [e']
    refine sim_ext S E hsz ⟨EX, _, B, ?_⟩
    have : sh n (defaultValue (newarray.typeOf aty)) = defaultValue (newarray.typeOf aty) := by cases aty <;> rfl
    simp [newA, this]
  refine Done.step stp ?_
  have k' := k T' locs real X' N S' (by simp only [List.length_append, List.length_singleton] at A ⊢; omega) L
  rw [ea]
  exact k'
theorem g_new {ix t nn : Nat} {H' : List Obj} (O : Ok G K own bytes maxL ret R mn kc ks) (hd : decode bytes pc = .ok (.new ix, 3)) (w1 : Jvm.Cond.classLink own ix (lay t).1 ∈ tables_1) (w2 : Jvm.Cond.instantiable (lay t).1 nn ∈ tables_1) (w3 : Jvm.Cond.initialized (lay t).1 ∈ tables_1)
    {vs : List Value} (hvs : (lay t).2.map (fun nd => (parseFieldDescriptor nd.2).map defaultValue) = vs.map some) (hH : H' = H ++ [.inr (t, vs)]) {c2 s2 : Nat} (hc2 : cells + 1 = c2) (hs2 : slots + nn = s2) (hc : c2 ≤ R.cells) (hs : s2 ≤ R.slots) (hp : pc + 3 = pc')
    (k : Run G K rv Hf pc' Ls (.ref H.length :: st) H' c2 s2) : Run G K rv Hf pc Ls st H cells slots := by
  obtain ⟨l, Z, a0, n⟩ := G; obtain ⟨p, e, R', s, m, args, below, meth, c, kc', ks'⟩ := K
  obtain ⟨hx, hZ, hown, hby, hml, hret, hlk, rfl, hnm, rfl, rfl, hw⟩ := O
  subst hp hH hc2 hs2
  intro T locs real X N S A L
  obtain ⟨T', h', X', e', E, B, D, -, stp⟩ := newO X hx hZ hown (hw _ w1) (hw _ w2) (hw _ w3) rfl (g := mkF m pc real (st.map (sh n))) rfl (hb hby hd) hc hs
  have hsz : h'.size = T.heap.size + 1 := by
    have a1 : Array.size T.heap < Array.size h' := B.lt
    have a2 : Array.size T'.heap ≤ Array.size s.heap + (cells + 1) := X'.heapSize
    rw [e'] at a2
    have a3 : Array.size T.heap = n + H.length := S.1
    have a4 : Array.size s.heap + cells = n + H.length := A
    omega
  have ea : T.heap.size = n + H.length := S.1
  have S' : Sim (l, Z, a0, n) (H ++ [.inr (t, vs)]) T'.heap := by
    rw [e']
    refine sim_ext S E hsz ⟨B, by have := congrArg List.length hvs; simpa using this.symm, fun k nd v h1 h2 => ?_⟩
    have q : ((lay t).2.map (fun nd => (parseFieldDescriptor nd.2).map defaultValue))[k]? = some (some v) := by rw [hvs]; simp [h2]
    rw [List.getElem?_map, h1] at q
    simp only [Option.map_some, Option.some.injEq, Option.map_eq_some_iff] at q
    obtain ⟨ty, q1, q2⟩ := q
    have q3 : sh n v = defaultValue ty := by rw [← q2]; cases ty <;> rfl
    rw [q3]
    exact D ((lay_word t nd (List.mem_of_getElem? h1)).imp (hw _) (hw _)) q1
  refine Done.step stp ?_
  have k' := k T' locs real X' N S' (by simp only [List.length_append, List.length_singleton] at A ⊢; omega) L
  rw [ea]
  exact k'
theorem g_getfield {ix t kf i : Nat} {nd : String × String} {v : Value} (O : Ok G K own bytes maxL ret R mn kc ks) (hd : decode bytes pc = .ok (.getfield ix, 3)) (hk : (lay t).2[kf]? = some nd) (w : Jvm.Cond.fieldLink own ix (lay t).1 nd.1 nd.2 ∈ tables_1)
    (hr : fld t kf H i = some v) (hp : pc + 3 = pc') (k : Run G K rv Hf pc' Ls (v :: st) H cells slots) : Run G K rv Hf pc Ls (.ref i :: st) H cells slots := by
  obtain ⟨l, Z, a0, n⟩ := G; obtain ⟨p, e, R', s, m, args, below, meth, c, kc', ks'⟩ := K
  obtain ⟨hx, hZ, hown, hby, hml, hret, hlk, rfl, hnm, rfl, rfl, hw⟩ := O
  subst hp
  intro T locs real X N S A L
  obtain ⟨vs, h1, h2⟩ := Option.bind_eq_some_iff.mp hr
  obtain ⟨B, l1, F⟩ := sim_obj S h1
  obtain ⟨T', X', e', stp⟩ := getF X hx hZ hown (host := "") (Or.inl (hw _ w)) Via.refl rfl (F kf nd v hk h2) (g := mkF m pc real ((.ref i :: st).map (sh n))) rfl rfl (hb hby hd)
  exact Done.step stp (k T' locs real X' N (by rw [e']; exact S) A L)
theorem g_putfield {ix t kf i nn : Nat} {nd : String × String} {v : Value} {ty : FieldType} {H' : List Obj} (O : Ok G K own bytes maxL ret R mn kc ks) (hd : decode bytes pc = .ok (.putfield ix, 3)) (hk : (lay t).2[kf]? = some nd) (w : Jvm.Cond.fieldLink own ix (lay t).1 nd.1 nd.2 ∈ tables_1)
    (w2 : Jvm.Cond.lays (lay t).1 (lay t).1 nd.1 nd.2 ∈ tables_1 ∨ (Jvm.Cond.laysFinal (lay t).1 (lay t).1 nd.1 nd.2 ∈ tables_1 ∧ own = (lay t).1 ∧ mn = "<init>")) (w3 : Jvm.Cond.instantiable (lay t).1 nn ∈ tables_1) (hty : parseFieldDescriptor nd.2 = some ty) (hn : ∀ n, narrow ty (sh n v) = sh n v) (hf : ∀ n, fits ty (sh n v) = true)
    (hr : setF t kf H i v = some H') (hp : pc + 3 = pc') (k : Run G K rv Hf pc' Ls st H' cells slots) : Run G K rv Hf pc Ls (v :: .ref i :: st) H cells slots := by
  obtain ⟨l, Z, a0, n⟩ := G; obtain ⟨p, e, R', s, m, args, below, meth, c, kc', ks'⟩ := K
  obtain ⟨hx, hZ, hown, hby, hml, hret, hlk, rfl, hnm, rfl, rfl, hw⟩ := O
  subst hp
  intro T locs real X N S A L
  obtain ⟨vs, h1, h2⟩ := Option.bind_eq_some_iff.mp hr
  have hkv : kf < vs.length := Decidable.byContradiction fun hkv => by rw [if_neg hkv] at h2; cases h2
  rw [if_pos hkv] at h2
  cases h2
  obtain ⟨B, l1, F⟩ := sim_obj S h1
  obtain ⟨T', h', X', e', W, stp⟩ := putF X hx hZ hown (host := "") (Or.inl (hw _ w)) Via.refl rfl (F kf nd _ hk (List.getElem?_eq_getElem hkv)) B (w2.imp (hw _) fun q => ⟨hw _ q.1, q.2.1, hnm.trans q.2.2⟩) (hw _ w3) hty (hn n) (hf n) (g := mkF m pc real ((v :: .ref i :: st).map (sh n))) rfl rfl (hb hby hd)
  exact Done.step stp (k T' _ real X' (Fr.snoc X' N (Nat.le_add_right _ _)) (by rw [e']; exact sim_put hw S h1 hk W) (by simpa using A) L)
theorem g_objinit {ix i W : Nat} (O : Ok G K own bytes maxL ret R mn kc ks) (hd : decode bytes pc = .ok (.invokespecial ix, 3)) (w1 : Jvm.Cond.methodLink own ix Lib.objectInit ∈ tables_1) (w2 : Jvm.Cond.instanceMethod Lib.objectInit ∈ tables_1) (w3 : Jvm.Cond.code Lib.objectInit ⟨#[0xb1]⟩ 1 none ∈ tables_1)
    (hLs : Ls.length = maxL) (hW : (st.map fun v => v.category).sum = W) (hf : 1 ≤ R.frames) (hl : W + 12 ≤ R.locals) (hp : pc + 3 = pc') (k : Run G K rv Hf pc' Ls st H cells slots) : Run G K rv Hf pc Ls (.ref i :: st) H cells slots := by
  obtain ⟨l, Z, a0, n⟩ := G; obtain ⟨p, e, R', s, m, args, below, meth, c, kc', ks'⟩ := K
  obtain ⟨hx, hZ, hown, hby, hml, hret, hlk, rfl, hnm, rfl, rfl, hw⟩ := O
  subst hp
  intro T locs real X N S A L
  obtain ⟨T', X', e', stp⟩ := initO X hx hZ hown (hw _ w1) (hw _ w2) (hw _ w3) rfl (g := mkF m pc real ((.ref i :: st).map (sh n))) rfl (by show real.size = _; rw [L.1, hml]; exact hLs) rfl (hb hby hd) hf (W := W) (by show 2 * 0 + ((st.map (sh n)).map _).sum ≤ _; rw [List.map_map, ← hW]; simp [Function.comp_def, sh_cat]) hl
  exact Done.step stp (k T' locs real X' N (by rw [e']; exact S) A L)
def Fg : List (Option Value) → List (Option Value) → Prop
  | [], [] => True
  | _ :: a, none :: b => Fg a b
  | x :: a, some v :: b => x = some v ∧ Fg a b
  | [], _ :: _ => False
  | _ :: _, [] => False
theorem Fg.spec : ∀ {A B : List (Option Value)}, Fg A B → A.length = B.length ∧ ∀ (k : Nat) (v : Value), B[k]? = some (some v) → A[k]? = some (some v)
  | [], [], _ => ⟨rfl, fun k v h => h⟩
  | x :: a, none :: b, h => by
    obtain ⟨h1, h2⟩ := Fg.spec (A := a) (B := b) h
    refine ⟨by simp [h1], fun k v hk => ?_⟩
    cases k with
    | zero => simp at hk
    | succ k => simpa using h2 k v (by simpa using hk)
  | x :: a, some w :: b, h => by
    have h' : x = some w ∧ Fg a b := h
    obtain ⟨h1, h2⟩ := Fg.spec (A := a) (B := b) h'.2
    refine ⟨by simp [h1], fun k v hk => ?_⟩
    cases k with
    | zero => simp at hk; simp [h'.1, hk]
    | succ k => simpa using h2 k v (by simpa using hk)
theorem g_forget (h : Fg Ls Ls') (k : Run G K rv Hf pc Ls' st H cells slots) : Run G K rv Hf pc Ls st H cells slots := by
  obtain ⟨l, Z, a0, n⟩ := G; obtain ⟨p, e, R', s, m, args, below, meth, c, kc', ks'⟩ := K
  obtain ⟨h1, h2⟩ := h.spec
  intro T locs real X N S A L
  exact k T locs real X N S A ⟨L.1.trans h1, L.2.1, fun j v hj => L.2.2 j v (h2 j v hj)⟩
/-! calls and returns -/
theorem cat_sum (n : Nat) (st : List Value) : ((st.map (sh n)).map fun v => v.category).sum = (st.map fun v => v.category).sum := by rw [List.map_map]; simp [Function.comp_def, sh_cat]
theorem g_static {ix : Nat} {y : MethodName} {bytes' : ByteArray} {maxL' : Nat} {ret' : Option FieldType} {rm : Room} {as : List Value} {H' : List Obj} {v : Option Value} {ps : List FieldType} {W : Nat} {stk : List Value} (O : Ok G K own bytes maxL ret R mn kc ks) (hd : decode bytes pc = .ok (.invokestatic ix, 3))
    (w1 : Jvm.Cond.methodLink own ix y ∈ tables_1) (w2 : Jvm.Cond.static y ∈ tables_1) (w3 : Jvm.Cond.initialized y.cls ∈ tables_1) (w4 : Jvm.Cond.code y bytes' maxL' ret' ∈ tables_1) (hy : y.cls ≠ "java/lang/invoke/MethodHandle" ∧ y.cls ≠ "java/lang/invoke/VarHandle")
    (pd : parseMethodDescriptor y.desc = some ⟨ps, ret'⟩) (hl : as.length = ps.length) (hstk : stk = as.reverse ++ st) (hLs : Ls.length = maxL) (hW : (st.map fun v => v.category).sum = W) (hf : rm.frames + 1 ≤ R.frames) (hlo : W + (maxL' + 11) + rm.locals ≤ R.locals) {c2 s2 : Nat} (hc2 : cells + rm.cells = c2) (hs2 : slots + rm.slots = s2) (hc : c2 ≤ R.cells) (hs : s2 ≤ R.slots)
    (con : Con G y bytes' maxL' ret' rm as H v H') (hp : pc + 3 = pc') (k : Run G K rv Hf pc' Ls (v.toList ++ st) H' c2 s2) : Run G K rv Hf pc Ls stk H cells slots := by
  obtain ⟨l, Z, a0, n⟩ := G; obtain ⟨p, e, R', s, m, args, below, meth, c, kc', ks'⟩ := K
  obtain ⟨hx, hZ, hown, hby, hml, hret, hlk, rfl, hnm, rfl, rfl, hw⟩ := O
  subst hp hstk hc2 hs2
  intro T locs real X N S A L
  obtain ⟨v', _, ⟨T', L', k', n'⟩, -, X', ⟨Lc, ⟨hv, N', S', hlen⟩, l1, y1, z1⟩, stp⟩ := Jvm.LawKit.callS X hx (y := y) hown (mvT hZ (hw _ w1)) (mvT hZ (hw _ w2)) (mvT hZ (hw _ w3)) (mvT hZ (hw _ w4)) hy (backOf (W := W) (Q := fun u hh LL => u = Option.map (sh n) v ∧ Fr n LL ∧ Sim (l, Z, a0, n) H' hh ∧ H'.length = H.length + rm.cells) (con T.heap S) hZ (hw _ w4) (hw _ w3) hf hlo) (g := mkF m pc real ((as.reverse ++ st).map (sh n))) rfl (by show real.size = _; rw [L.1, hml]; exact hLs)
    (argsL := as.map (sh n)) (rest := st.map (sh n)) (lenOf pd (by simpa using hl)) (by simp) (by show 2 * 0 + _ ≤ _; rw [cat_sum, hW]; exact Nat.le_of_eq (Nat.zero_add _)) (hb hby hd) (fun _ _ => ⟨rfl, rfl, hc, hs⟩)
  dsimp only [Pt.U, Pt.locs, Pt.cells, Pt.slots] at X' l1 y1 z1 stp S' N'
  subst l1 y1 z1 hv
  have k2 := k T' _ real X' (Fr.app N N') S' (by omega) L
  refine Done.step stp ?_
  cases v <;> exact k2
theorem g_special {ix i : Nat} {y : MethodName} {bytes' : ByteArray} {maxL' : Nat} {rm : Room} {as : List Value} {H' : List Obj} {ps : List FieldType} {W : Nat} {stk : List Value} (O : Ok G K own bytes maxL ret R mn kc ks) (hd : decode bytes pc = .ok (.invokespecial ix, 3)) (hy1 : y.name = "<init>")
    (w1 : Jvm.Cond.methodLink own ix y ∈ tables_1) (w2 : Jvm.Cond.instanceMethod y ∈ tables_1) (w3 : Jvm.Cond.initialized y.cls ∈ tables_1) (w4 : Jvm.Cond.code y bytes' maxL' none ∈ tables_1) (hy : y.cls ≠ "java/lang/invoke/MethodHandle" ∧ y.cls ≠ "java/lang/invoke/VarHandle")
    (pd : parseMethodDescriptor y.desc = some ⟨ps, none⟩) (hl : as.length = ps.length) (hstk : stk = as.reverse ++ .ref i :: st) (hLs : Ls.length = maxL) (hW : (st.map fun v => v.category).sum = W) (hf : rm.frames + 1 ≤ R.frames) (hlo : W + (maxL' + 11) + rm.locals ≤ R.locals) {c2 s2 : Nat} (hc2 : cells + rm.cells = c2) (hs2 : slots + rm.slots = s2) (hc : c2 ≤ R.cells) (hs : s2 ≤ R.slots)
    (con : Con G y bytes' maxL' none rm (.ref i :: as) H none H') (hp : pc + 3 = pc') (k : Run G K rv Hf pc' Ls st H' c2 s2) : Run G K rv Hf pc Ls stk H cells slots := by
  obtain ⟨l, Z, a0, n⟩ := G; obtain ⟨p, e, R', s, m, args, below, meth, c, kc', ks'⟩ := K
  obtain ⟨hx, hZ, hown, hby, hml, hret, hlk, rfl, hnm, rfl, rfl, hw⟩ := O
  subst hp hstk hc2 hs2
  intro T locs real X N S A L
  obtain ⟨v', _, ⟨T', L', k', n'⟩, -, X', ⟨Lc, ⟨hv, N', S', hlen⟩, l1, y1, z1⟩, stp⟩ := X.specialBack hx (y := y) hy1 hown (mvT hZ (hw _ w1)) (mvT hZ (hw _ w2)) (mvT hZ (hw _ w4)) hy (backOf (W := W) (Q := fun u hh LL => u = Option.map (sh n) none ∧ Fr n LL ∧ Sim (l, Z, a0, n) H' hh ∧ H'.length = H.length + rm.cells) (con T.heap S) hZ (hw _ w4) (hw _ w3) hf hlo) (g := mkF m pc real ((as.reverse ++ .ref i :: st).map (sh n))) rfl (by show real.size = _; rw [L.1, hml]; exact hLs) (Steps.refl _)
    (a := n + i) (argsL := as.map (sh n)) (rest := st.map (sh n)) (lenOf pd (by simpa using hl)) (by simp [sh]) (by show 2 * 0 + _ ≤ _; rw [cat_sum, hW]; exact Nat.le_of_eq (Nat.zero_add _)) (hb hby hd) (fun _ _ => ⟨rfl, rfl, hc, hs⟩)
  dsimp only [Pt.U, Pt.locs, Pt.cells, Pt.slots] at X' l1 y1 z1 stp S' N'
  subst l1 y1 z1 hv
  exact Done.step (fun t q => stp.trans q) (k T' _ real X' (Fr.app N N') S' (by omega) L)
theorem g_virtual {ix i t : Nat} {y : MethodName} {bytes' : ByteArray} {maxL' : Nat} {ret' : Option FieldType} {rm : Room} {as vs : List Value} {H' : List Obj} {v : Option Value} {ps : List FieldType} {W : Nat} {stk : List Value} (O : Ok G K own bytes maxL ret R mn kc ks) (hd : decode bytes pc = .ok (.invokevirtual ix, 3))
    (w1 : Jvm.Cond.methodLink own ix y ∈ tables_1) (w2 : Jvm.Cond.declares y ∈ tables_1) (w5 : Jvm.Cond.selects (lay t).1 y y ∈ tables_1) (w6 : Jvm.Cond.instanceMethod y ∈ tables_1) (w3 : Jvm.Cond.initialized y.cls ∈ tables_1) (w4 : Jvm.Cond.code y bytes' maxL' ret' ∈ tables_1) (hy : y.cls ≠ "java/lang/invoke/MethodHandle" ∧ y.cls ≠ "java/lang/invoke/VarHandle")
    (ho : obj t H i = some vs) (pd : parseMethodDescriptor y.desc = some ⟨ps, ret'⟩) (hl : as.length = ps.length) (hstk : stk = as.reverse ++ .ref i :: st) (hLs : Ls.length = maxL) (hW : (st.map fun v => v.category).sum = W) (hf : rm.frames + 1 ≤ R.frames) (hlo : W + (maxL' + 11) + rm.locals ≤ R.locals) {c2 s2 : Nat} (hc2 : cells + rm.cells = c2) (hs2 : slots + rm.slots = s2) (hc : c2 ≤ R.cells) (hs : s2 ≤ R.slots)
    (con : Con G y bytes' maxL' ret' rm (.ref i :: as) H v H') (hp : pc + 3 = pc') (k : Run G K rv Hf pc' Ls (v.toList ++ st) H' c2 s2) : Run G K rv Hf pc Ls stk H cells slots := by
  obtain ⟨l, Z, a0, n⟩ := G; obtain ⟨p, e, R', s, m, args, below, meth, c, kc', ks'⟩ := K
  obtain ⟨hx, hZ, hown, hby, hml, hret, hlk, rfl, hnm, rfl, rfl, hw⟩ := O
  subst hp hstk hc2 hs2
  intro T locs real X N S A L
  obtain ⟨cq, kq, qa, qb, qc⟩ := isOf hZ (T := T) rfl (sim_obj S ho).1
  obtain ⟨v', _, ⟨T', L', k', n'⟩, -, X', ⟨Lc, ⟨hv, N', S', hlen⟩, l1, y1, z1⟩, stp⟩ := X.virtualBack hx (y := y) (z := y) hown (mvT hZ (hw _ w1)) (mvT hZ (hw _ w2)) (notFace_of_selects (args := #[]) (mvT hZ (hw _ w5))) (mvT hZ (hw _ w5)) (mvT hZ (hw _ w6)) hy (backOf (W := W) (Q := fun u hh LL => u = Option.map (sh n) v ∧ Fr n LL ∧ Sim (l, Z, a0, n) H' hh ∧ H'.length = H.length + rm.cells) (con T.heap S) hZ (hw _ w4) (hw _ w3) hf hlo) qa qc (g := mkF m pc real ((as.reverse ++ .ref i :: st).map (sh n))) rfl (by show real.size = _; rw [L.1, hml]; exact hLs) (Steps.refl _)
    (argsL := as.map (sh n)) (rest := st.map (sh n)) (lenOf pd (by simpa using hl)) (by simp [sh]) (by show 2 * 0 + _ ≤ _; rw [cat_sum, hW]; exact Nat.le_of_eq (Nat.zero_add _)) (hb hby hd) (fun _ _ => ⟨rfl, rfl, hc, hs⟩)
  dsimp only [Pt.U, Pt.locs, Pt.cells, Pt.slots] at X' l1 y1 z1 stp S' N'
  subst l1 y1 z1 hv
  have k2 := k T' _ real X' (Fr.app N N') S' (by omega) L
  refine Done.step (fun t q => stp.trans q) ?_
  cases v <;> exact k2
theorem g_ret_void (O : Ok G K own bytes maxL none R mn kc ks) (hd : decode bytes pc = .ok (.return_, 1)) (hc : cells = kc) (hs : slots ≤ ks) : Run G K none H pc Ls [] H cells slots := by
  obtain ⟨l, Z, a0, n⟩ := G; obtain ⟨p, e, R', s, m, args, below, meth, c, kc', ks'⟩ := K
  obtain ⟨hx, hZ, hown, hby, hml, hret, hlk, rfl, hnm, rfl, rfl, hw⟩ := O
  intro T locs real X N S A L
  subst hc
  obtain ⟨fs, hr, hrun, hended, hW, hsame⟩ := X.leave (v := none) (fun _ => rfl) hlk
  exact ⟨_, _, X.returnOut hx hret (hb hby hd) hr, hrun, hended, _, _, rfl, ⟨rfl, N, S, A⟩, ⟨_, rfl⟩, hW, hsame.mono (Nat.le_refl _) hs⟩
theorem g_ret_int {x : Int32} (O : Ok G K own bytes maxL (some .int) R mn kc ks) (hd : decode bytes pc = .ok (.ireturn, 1)) (hc : cells = kc) (hs : slots ≤ ks) : Run G K (some (.int x)) H pc Ls (.int x :: st) H cells slots := by
  obtain ⟨l, Z, a0, n⟩ := G; obtain ⟨p, e, R', s, m, args, below, meth, c, kc', ks'⟩ := K
  obtain ⟨hx, hZ, hown, hby, hml, hret, hlk, rfl, hnm, rfl, rfl, hw⟩ := O
  intro T locs real X N S A L
  subst hc
  obtain ⟨fs, hr, hrun, hended, hW, hsame⟩ := X.leave (v := some (.int x)) (fun h => by rw [hret] at h; cases h) hlk
  exact ⟨_, _, retOut X hx hret rfl (Or.inl ⟨rfl, Or.inl rfl, x, rfl⟩) (hb hby hd) hr, hrun, hended, _, _, rfl, ⟨rfl, N, S, A⟩, ⟨_, rfl⟩, hW, hsame.mono (Nat.le_refl _) hs⟩
theorem g_ret_nar {t : FieldType} {x y : Int32} (O : Ok G K own bytes maxL (some t) R mn kc ks) (hd : decode bytes pc = .ok (.ireturn, 1)) (ht : t = .boolean ∨ t = .byte ∨ t = .char ∨ t = .short) (hy : nar t x = y) (hc : cells = kc) (hs : slots ≤ ks) : Run G K (some (.int y)) H pc Ls (.int x :: st) H cells slots := by
  obtain ⟨l, Z, a0, n⟩ := G; obtain ⟨p, e, R', s, m, args, below, meth, c, kc', ks'⟩ := K
  obtain ⟨hx, hZ, hown, hby, hml, hret, hlk, rfl, hnm, rfl, rfl, hw⟩ := O
  intro T locs real X N S A L
  subst hc hy
  obtain ⟨fs, hr, hrun, hended, hW, hsame⟩ := X.leave (v := some (.int (nar t x))) (fun h => by rw [hret] at h; cases h) hlk
  exact ⟨_, _, retN X hx hret ht (hb hby hd) hr, hrun, hended, _, _, rfl, ⟨rfl, N, S, A⟩, ⟨_, rfl⟩, hW, hsame.mono (Nat.le_refl _) hs⟩
theorem g_ret_long {x : Int64} (O : Ok G K own bytes maxL (some .long) R mn kc ks) (hd : decode bytes pc = .ok (.lreturn, 1)) (hc : cells = kc) (hs : slots ≤ ks) : Run G K (some (.long x)) H pc Ls (.long x :: st) H cells slots := by
  obtain ⟨l, Z, a0, n⟩ := G; obtain ⟨p, e, R', s, m, args, below, meth, c, kc', ks'⟩ := K
  obtain ⟨hx, hZ, hown, hby, hml, hret, hlk, rfl, hnm, rfl, rfl, hw⟩ := O
  intro T locs real X N S A L
  subst hc
  obtain ⟨fs, hr, hrun, hended, hW, hsame⟩ := X.leave (v := some (.long x)) (fun h => by rw [hret] at h; cases h) hlk
  exact ⟨_, _, retOut X hx hret rfl (Or.inr (Or.inl ⟨rfl, rfl, x, rfl⟩)) (hb hby hd) hr, hrun, hended, _, _, rfl, ⟨rfl, N, S, A⟩, ⟨_, rfl⟩, hW, hsame.mono (Nat.le_refl _) hs⟩
theorem g_ret_ref {t : FieldType} {i : Nat} (O : Ok G K own bytes maxL (some t) R mn kc ks) (hd : decode bytes pc = .ok (.areturn, 1)) (ht : t.isReference = true) (hn : ∀ a, narrow t (.ref a) = .ref a) (hc : cells = kc) (hs : slots ≤ ks) : Run G K (some (.ref i)) H pc Ls (.ref i :: st) H cells slots := by
  obtain ⟨l, Z, a0, n⟩ := G; obtain ⟨p, e, R', s, m, args, below, meth, c, kc', ks'⟩ := K
  obtain ⟨hx, hZ, hown, hby, hml, hret, hlk, rfl, hnm, rfl, rfl, hw⟩ := O
  intro T locs real X N S A L
  subst hc
  obtain ⟨fs, hr, hrun, hended, hW, hsame⟩ := X.leave (v := some (.ref (n + i))) (fun h => by rw [hret] at h; cases h) hlk
  exact ⟨_, _, retOut X hx hret (hn _) (Or.inr (Or.inr (Or.inr (Or.inr ⟨rfl, ht, rfl⟩)))) (hb hby hd) hr, hrun, hended, _, _, rfl, ⟨rfl, N, S, A⟩, ⟨_, rfl⟩, hW, hsame.mono (Nat.le_refl _) hs⟩
theorem con_of {y : MethodName} {rm : Room} {as : List Value} (hw : ∀ d ∈ tables_1, d.before G.2.2.1 G.2.1 = true) (pn : plainFor y = true) (hL : aloc as maxL = Ls) (body : ∀ K, Ok G K y.cls bytes maxL ret rm y.name rm.cells rm.slots → Run G K rv Hf 0 Ls [] H 0 0) : Con G y bytes maxL ret rm as H rv Hf := by
  obtain ⟨l, Z, a0, n⟩ := G
  intro h0 S0
  refine MetFree.of_bodySF pn hisR ?_
  intro p e s m args below meth c s₁ Bd hml0 hP hK
  obtain ⟨rfl, hZ, rfl⟩ := hP
  have X0 : Stand p l e rm s m _ below meth c s₁ [] 0 0 := Stand.of_body Bd
  have e0 : s₁.heap = s.heap := by rw [Bd.state]; rfl
  have k := body (p, e, rm, s, m, (as.map (sh n)).toArray, below, meth, c, rm.cells, rm.slots) ⟨Bd.exec, hZ, findClass_of_methodNamed Bd.named, Bd.bytes, hml0, Bd.returns, Bd.notSynchronized, rfl, (name_of_methodNamed Bd.named Bd.method).1, rfl, rfl, hw⟩
  subst hL
  obtain ⟨t, o, h1, h2, h3, v, L, h4, ⟨h5, h6, h7, h8⟩, h9⟩ := k s₁ [] _ X0 (Fr.nil n) (by rw [e0]; exact S0) (by rw [Nat.add_zero]; exact S0.1) (entry_rel n as maxL)
  refine ⟨t, o, h1, h2, h3, v, L, h4, ⟨h5, h6, h7, ?_⟩, h9⟩
  have := S0.1
  simp only at this
  omega
/-- the law itself, over an empty own heap -/
theorem law_of {l : Launch} {s : State} {a0 : Array Value} {as : List Value} {k0 k1 : Nat} (hw : ∀ d ∈ tables_1, d.before a0 s = true) (pn : plainFor x = true) (hL : aloc as maxLocals = Ls) (hid : as.map (sh s.heap.size) = as)
    (body : ∀ K, Ok (l, s, a0, s.heap.size) K x.cls code maxLocals Jvm.Pilot.@@N@@.ret room_1 x.name k0 k1 → Run (l, s, a0, s.heap.size) K rv Hf 0 Ls [] [] 0 0) :
    MetFree l x (head1 (Jvm.Cond.code x code maxLocals Jvm.Pilot.@@N@@.ret :: tables_1) room_1) (fun a U => a = as.toArray ∧ s.Warmed39 U.vm ∧ U.heap = s.heap) (fun _ _ _ _ _ => True) (fun _ U o U' => ∃ v L, o = .returned v ∧ (v = rv.map (sh s.heap.size) ∧ Fr s.heap.size L) ∧ FrameEnd U o U' L k0 k1) := by
  refine MetFree.of_bodySF pn hisR ?_
  intro p e U m args below meth c s₁ Bd hml0 hP hK
  obtain ⟨rfl, hZ, hU⟩ := hP
  have X0 : Stand p l e room_1 U m _ below meth c s₁ [] 0 0 := Stand.of_body Bd
  have e0 : s₁.heap = U.heap := by rw [Bd.state]; rfl
  have k := body (p, e, room_1, U, m, as.toArray, below, meth, c, k0, k1) ⟨Bd.exec, hZ, findClass_of_methodNamed Bd.named, Bd.bytes, hml0, Bd.returns, Bd.notSynchronized, rfl, (name_of_methodNamed Bd.named Bd.method).1, rfl, rfl, hw⟩
  subst hL
  have S0 : Sim (l, s, a0, s.heap.size) [] s₁.heap := ⟨by rw [e0, hU]; rfl, fun i o h => by simp at h⟩
  have er := entry_rel s.heap.size as maxLocals
  rw [hid] at er
  obtain ⟨t, o, h1, h2, h3, v, L, h4, ⟨h5, h6, h7, h8⟩, h9⟩ := k s₁ [] _ X0 (Fr.nil _) S0 (by rw [hU]; rfl) er
  exact ⟨t, o, h1, h2, h3, v, L, h4, ⟨h5, h6⟩, h9⟩
theorem Ok.w (O : Ok G K own bytes maxL ret R mn kc ks) : ∀ d ∈ tables_1, d.before G.2.2.1 G.2.1 = true := by
  obtain ⟨l, Z, a0, n⟩ := G; obtain ⟨p, e, R', s, m, args, below, meth, c, kc', ks'⟩ := K
  obtain ⟨-, -, -, -, -, -, -, -, -, -, -, hw⟩ := O
  exact hw
theorem bnd {α β : Type} {o : Option α} {f : α → Option β} {b : β} (h : o.bind f = some b) : ∃ a, o = some a ∧ f a = some b := Option.bind_eq_some_iff.mp h
theorem g_static1 {ix : Nat} {y : MethodName} {bytes' : ByteArray} {maxL' : Nat} {ret' : Option FieldType} {rm : Room} {as : List Value} {H' : List Obj} {v : Value} {ps : List FieldType} {W : Nat} {stk : List Value} (O : Ok G K own bytes maxL ret R mn kc ks) (hd : decode bytes pc = .ok (.invokestatic ix, 3))
    (w1 : Jvm.Cond.methodLink own ix y ∈ tables_1) (w2 : Jvm.Cond.static y ∈ tables_1) (w3 : Jvm.Cond.initialized y.cls ∈ tables_1) (w4 : Jvm.Cond.code y bytes' maxL' ret' ∈ tables_1) (hy : y.cls ≠ "java/lang/invoke/MethodHandle" ∧ y.cls ≠ "java/lang/invoke/VarHandle")
    (pd : parseMethodDescriptor y.desc = some ⟨ps, ret'⟩) (hl : as.length = ps.length) (hstk : stk = as.reverse ++ st) (hLs : Ls.length = maxL) (hW : (st.map fun v => v.category).sum = W) (hf : rm.frames + 1 ≤ R.frames) (hlo : W + (maxL' + 11) + rm.locals ≤ R.locals) {c2 s2 : Nat} (hc2 : cells + rm.cells = c2) (hs2 : slots + rm.slots = s2) (hc : c2 ≤ R.cells) (hs : s2 ≤ R.slots)
    (con : Con G y bytes' maxL' ret' rm as H (some v) H') (hp : pc + 3 = pc') (k : Run G K rv Hf pc' Ls (v :: st) H' c2 s2) : Run G K rv Hf pc Ls stk H cells slots := g_static O hd w1 w2 w3 w4 hy pd hl hstk hLs hW hf hlo hc2 hs2 hc hs con hp k
theorem g_static0 {ix : Nat} {y : MethodName} {bytes' : ByteArray} {maxL' : Nat} {ret' : Option FieldType} {rm : Room} {as : List Value} {H' : List Obj} {ps : List FieldType} {W : Nat} {stk : List Value} (O : Ok G K own bytes maxL ret R mn kc ks) (hd : decode bytes pc = .ok (.invokestatic ix, 3))
    (w1 : Jvm.Cond.methodLink own ix y ∈ tables_1) (w2 : Jvm.Cond.static y ∈ tables_1) (w3 : Jvm.Cond.initialized y.cls ∈ tables_1) (w4 : Jvm.Cond.code y bytes' maxL' ret' ∈ tables_1) (hy : y.cls ≠ "java/lang/invoke/MethodHandle" ∧ y.cls ≠ "java/lang/invoke/VarHandle")
    (pd : parseMethodDescriptor y.desc = some ⟨ps, ret'⟩) (hl : as.length = ps.length) (hstk : stk = as.reverse ++ st) (hLs : Ls.length = maxL) (hW : (st.map fun v => v.category).sum = W) (hf : rm.frames + 1 ≤ R.frames) (hlo : W + (maxL' + 11) + rm.locals ≤ R.locals) {c2 s2 : Nat} (hc2 : cells + rm.cells = c2) (hs2 : slots + rm.slots = s2) (hc : c2 ≤ R.cells) (hs : s2 ≤ R.slots)
    (con : Con G y bytes' maxL' ret' rm as H none H') (hp : pc + 3 = pc') (k : Run G K rv Hf pc' Ls st H' c2 s2) : Run G K rv Hf pc Ls stk H cells slots := g_static O hd w1 w2 w3 w4 hy pd hl hstk hLs hW hf hlo hc2 hs2 hc hs con hp k
theorem g_virtual1 {ix i t : Nat} {y : MethodName} {bytes' : ByteArray} {maxL' : Nat} {ret' : Option FieldType} {rm : Room} {as vs : List Value} {H' : List Obj} {v : Value} {ps : List FieldType} {W : Nat} {stk : List Value} (O : Ok G K own bytes maxL ret R mn kc ks) (hd : decode bytes pc = .ok (.invokevirtual ix, 3))
    (w1 : Jvm.Cond.methodLink own ix y ∈ tables_1) (w2 : Jvm.Cond.declares y ∈ tables_1) (w5 : Jvm.Cond.selects (lay t).1 y y ∈ tables_1) (w6 : Jvm.Cond.instanceMethod y ∈ tables_1) (w3 : Jvm.Cond.initialized y.cls ∈ tables_1) (w4 : Jvm.Cond.code y bytes' maxL' ret' ∈ tables_1) (hy : y.cls ≠ "java/lang/invoke/MethodHandle" ∧ y.cls ≠ "java/lang/invoke/VarHandle")
    (ho : obj t H i = some vs) (pd : parseMethodDescriptor y.desc = some ⟨ps, ret'⟩) (hl : as.length = ps.length) (hstk : stk = as.reverse ++ .ref i :: st) (hLs : Ls.length = maxL) (hW : (st.map fun v => v.category).sum = W) (hf : rm.frames + 1 ≤ R.frames) (hlo : W + (maxL' + 11) + rm.locals ≤ R.locals) {c2 s2 : Nat} (hc2 : cells + rm.cells = c2) (hs2 : slots + rm.slots = s2) (hc : c2 ≤ R.cells) (hs : s2 ≤ R.slots)
    (con : Con G y bytes' maxL' ret' rm (.ref i :: as) H (some v) H') (hp : pc + 3 = pc') (k : Run G K rv Hf pc' Ls (v :: st) H' c2 s2) : Run G K rv Hf pc Ls stk H cells slots := g_virtual O hd w1 w2 w5 w6 w3 w4 hy ho pd hl hstk hLs hW hf hlo hc2 hs2 hc hs con hp k
theorem g_virtual0 {ix i t : Nat} {y : MethodName} {bytes' : ByteArray} {maxL' : Nat} {ret' : Option FieldType} {rm : Room} {as vs : List Value} {H' : List Obj} {ps : List FieldType} {W : Nat} {stk : List Value} (O : Ok G K own bytes maxL ret R mn kc ks) (hd : decode bytes pc = .ok (.invokevirtual ix, 3))
    (w1 : Jvm.Cond.methodLink own ix y ∈ tables_1) (w2 : Jvm.Cond.declares y ∈ tables_1) (w5 : Jvm.Cond.selects (lay t).1 y y ∈ tables_1) (w6 : Jvm.Cond.instanceMethod y ∈ tables_1) (w3 : Jvm.Cond.initialized y.cls ∈ tables_1) (w4 : Jvm.Cond.code y bytes' maxL' ret' ∈ tables_1) (hy : y.cls ≠ "java/lang/invoke/MethodHandle" ∧ y.cls ≠ "java/lang/invoke/VarHandle")
    (ho : obj t H i = some vs) (pd : parseMethodDescriptor y.desc = some ⟨ps, ret'⟩) (hl : as.length = ps.length) (hstk : stk = as.reverse ++ .ref i :: st) (hLs : Ls.length = maxL) (hW : (st.map fun v => v.category).sum = W) (hf : rm.frames + 1 ≤ R.frames) (hlo : W + (maxL' + 11) + rm.locals ≤ R.locals) {c2 s2 : Nat} (hc2 : cells + rm.cells = c2) (hs2 : slots + rm.slots = s2) (hc : c2 ≤ R.cells) (hs : s2 ≤ R.slots)
    (con : Con G y bytes' maxL' ret' rm (.ref i :: as) H none H') (hp : pc + 3 = pc') (k : Run G K rv Hf pc' Ls st H' c2 s2) : Run G K rv Hf pc Ls stk H cells slots := g_virtual O hd w1 w2 w5 w6 w3 w4 hy ho pd hl hstk hLs hW hf hlo hc2 hs2 hc hs con hp k
/-- clone() of an int[] -/
def cloneI (cap : Nat) (H : List Obj) (i : Nat) : Option (List Obj) := (arr .int H i).bind fun vs => if vs.length ≤ cap ∧ vs.all (fun v => (getI v).isSome) = true then some (H ++ [.inl (.int, vs)]) else none
theorem g_cloneI {ix i cap W : Nat} {H' : List Obj} (O : Ok G K own bytes maxL ret R mn kc ks) (hd : decode bytes pc = .ok (.invokevirtual ix, 3)) (w1 : Jvm.Cond.methodLink own ix (⟨"[I", "clone", "()Ljava/lang/Object;"⟩ : MethodName) ∈ tables_1) (w2 : Jvm.Cond.sameMethod "[I" "java/lang/Object" "clone" "()Ljava/lang/Object;" ∈ tables_1) (w3 : Jvm.Cond.native (⟨"java/lang/Object", "clone", "()Ljava/lang/Object;"⟩ : MethodName) ∈ tables_1)
    (w4 : Jvm.Cond.instanceMethod (⟨"java/lang/Object", "clone", "()Ljava/lang/Object;"⟩ : MethodName) ∈ tables_1) (w5 : Jvm.Cond.selects "[I" (⟨"[I", "clone", "()Ljava/lang/Object;"⟩ : MethodName) (⟨"java/lang/Object", "clone", "()Ljava/lang/Object;"⟩ : MethodName) ∈ tables_1) (w6 : Jvm.Cond.castable "[I" "java/lang/Cloneable" ∈ tables_1) (hr : cloneI cap H i = some H')
    (hLs : Ls.length = maxL) (hW : (st.map fun v => v.category).sum = W) (hf : 1 ≤ R.frames) (hl : W + 14 ≤ R.locals) {c2 s2 : Nat} (hc2 : cells + 1 = c2) (hs2 : slots + cap = s2) (hc : c2 ≤ R.cells) (hs : s2 ≤ R.slots) (hp : pc + 3 = pc')
    (k : Run G K rv Hf pc' Ls (.ref H.length :: st) H' c2 s2) : Run G K rv Hf pc Ls (.ref i :: st) H cells slots := by
  obtain ⟨l, Z, a0, n⟩ := G; obtain ⟨p, e, R', s, m, args, below, meth, c, kc', ks'⟩ := K
  obtain ⟨hx, hZ, hown, hby, hml, hret, hlk, rfl, hnm, rfl, rfl, hw⟩ := O
  subst hp hc2 hs2
  intro T locs real X N S A L
  obtain ⟨vs, h1, h2⟩ := bnd hr
  have hv : vs.length ≤ cap ∧ vs.all (fun v => (getI v).isSome) = true := Decidable.byContradiction fun hv => by rw [if_neg hv] at h2; cases h2
  rw [if_pos hv] at h2
  cases h2
  obtain ⟨EX, cl, B, es⟩ := S.2 i _ (arr_e h1)
  have FC : FitC Z cl := fitC_of B fun j hj v hjv => by
    rw [es] at hjv
    simp only [List.getElem?_toArray, List.getElem?_map, Option.map_eq_some_iff] at hjv
    obtain ⟨u, q1, q2⟩ := hjv
    have := List.all_eq_true.mp hv.2 u (List.mem_of_getElem? q1)
    cases u <;> simp [getI] at this
    rw [← q2]; rfl
  obtain ⟨T', h', X', e', E, B', EX', stp⟩ := cloneA X hx hZ hown (hw _ w1) (hw _ w2) (hw _ w3) (hw _ w4) (hw _ w5) (hw _ w6) rfl B EX FC (g := mkF m pc real ((.ref i :: st).map (sh n))) rfl (by show real.size = _; rw [L.1, hml]; exact hLs) rfl (hb hby hd) hf (W := W) (cap := cap) (by show 2 * 0 + _ ≤ _; rw [cat_sum, hW]; exact Nat.le_of_eq (Nat.zero_add _)) hl (by rw [sl_len es]; exact hv.1) hc hs
  have hsz : h'.size = T.heap.size + 1 := by
    have a1 : Array.size T.heap < Array.size h' := B'.lt
    have a2 : Array.size T'.heap ≤ Array.size s.heap + (cells + 1) := X'.heapSize
    rw [e'] at a2
    have a3 : Array.size T.heap = n + H.length := S.1
    have a4 : Array.size s.heap + cells = n + H.length := A
    omega
  have ea : T.heap.size = n + H.length := S.1
  have S' : Sim (l, Z, a0, n) (H ++ [.inl (.int, vs)]) T'.heap := by
    rw [e']
    exact sim_ext S E hsz ⟨EX', _, B', es⟩
  refine Done.step stp ?_
  have k' := k T' locs real X' N S' (by simp only [List.length_append, List.length_singleton] at A ⊢; omega) L
  rw [ea]
  exact k'
theorem g_checkcastI {ix i : Nat} {vs : List Value} (O : Ok G K own bytes maxL ret R mn kc ks) (hd : decode bytes pc = .ok (.checkcast ix, 3)) (w1 : Jvm.Cond.classLink own ix "[I" ∈ tables_1) (ha : arr .int H i = some vs) (hp : pc + 3 = pc')
    (k : Run G K rv Hf pc' Ls (.ref i :: st) H cells slots) : Run G K rv Hf pc Ls (.ref i :: st) H cells slots := by
  obtain ⟨l, Z, a0, n⟩ := G; obtain ⟨p, e, R', s, m, args, below, meth, c, kc', ks'⟩ := K
  obtain ⟨hx, hZ, hown, hby, hml, hret, hlk, rfl, hnm, rfl, rfl, hw⟩ := O
  subst hp
  intro T locs real X N S A L
  obtain ⟨EX, cl, B, es⟩ := S.2 i _ (arr_e ha)
  obtain ⟨T', X', e', stp⟩ := castY X hx hZ hown (hw _ w1) rfl (Ins.self EX) (g := mkF m pc real ((.ref i :: st).map (sh n))) rfl rfl (hb hby hd)
  exact Done.step stp (k T' locs real X' N (by rw [e']; exact S) A L)
end Laws
/-! small facts on numbers -/
theorem own_n0 : nar .boolean 0 = 0 := rfl
theorem own_n1 : nar .boolean 1 = 1 := rfl
theorem own_fin {r : Int32} {N : Nat} (h0 : 0 ≤ r.toInt) (h1 : r.toInt < N) (hN : N ≤ 2147483648) : ∃ j : Fin N, r = (j.1).toInt32 := by
  refine ⟨⟨r.toInt.toNat, by omega⟩, Int32.toInt_inj.mp ?_⟩
  show r.toInt = (r.toInt.toNat).toInt32.toInt
  rw [len_toInt (by show r.toInt.toNat < 2 ^ 31; omega)]
  omega
theorem own_lt {x y : Int32} : x < y ↔ x.toInt < y.toInt := Int32.lt_iff_toInt_lt
theorem own_le {x y : Int32} : x ≤ y ↔ x.toInt ≤ y.toInt := Int32.le_iff_toInt_le
theorem own_eq {x y : Int32} : x = y ↔ x.toInt = y.toInt := Int32.toInt_inj.symm
theorem own_ltL {x y : Int64} : x < y ↔ x.toInt < y.toInt := Int64.lt_iff_toInt_lt
theorem own_eqL {x y : Int64} : x = y ↔ x.toInt = y.toInt := Int64.toInt_inj.symm
/-- x & (2^31 - 1), then a remainder by a small number -/
theorem own_m31 (a : Int32) : (a &&& 2147483647).toInt = a.toInt % 2147483648 := c_mask a 2147483647 31 (by decide) (by decide)
theorem own_mod {a y : Int32} {d : Int} (hy : y.toInt = d) (h : 0 ≤ a.toInt) : (a % y).toInt = a.toInt % d := (c_irem a y d hy).1 h

/-! body 1 -/
theorem d1_0 : decode prog_23_method_8_code 0 = .ok (.iload 4, 2) := by decide +kernel
theorem d1_2 : decode prog_23_method_8_code 2 = .ok (.iconst 1, 1) := by decide +kernel
theorem d1_3 : decode prog_23_method_8_code 3 = .ok (.isub, 1) := by decide +kernel
theorem d1_4 : decode prog_23_method_8_code 4 = .ok (.istore 5, 2) := by decide +kernel
theorem d1_6 : decode prog_23_method_8_code 6 = .ok (.iload 5, 2) := by decide +kernel
theorem d1_8 : decode prog_23_method_8_code 8 = .ok (.ifCond .le 47, 3) := by decide +kernel
theorem d1_11 : decode prog_23_method_8_code 11 = .ok (.aload_n 0, 1) := by decide +kernel
theorem d1_12 : decode prog_23_method_8_code 12 = .ok (.iload_n 1, 1) := by decide +kernel
theorem d1_13 : decode prog_23_method_8_code 13 = .ok (.iload 5, 2) := by decide +kernel
theorem d1_15 : decode prog_23_method_8_code 15 = .ok (.iadd, 1) := by decide +kernel
theorem d1_16 : decode prog_23_method_8_code 16 = .ok (.laload, 1) := by decide +kernel
theorem d1_17 : decode prog_23_method_8_code 17 = .ok (.lstore 6, 2) := by decide +kernel
theorem d1_19 : decode prog_23_method_8_code 19 = .ok (.aload_n 2, 1) := by decide +kernel
theorem d1_20 : decode prog_23_method_8_code 20 = .ok (.iload_n 3, 1) := by decide +kernel
theorem d1_21 : decode prog_23_method_8_code 21 = .ok (.iload 5, 2) := by decide +kernel
theorem d1_23 : decode prog_23_method_8_code 23 = .ok (.iadd, 1) := by decide +kernel
theorem d1_24 : decode prog_23_method_8_code 24 = .ok (.laload, 1) := by decide +kernel
theorem d1_25 : decode prog_23_method_8_code 25 = .ok (.lstore 8, 2) := by decide +kernel
theorem d1_27 : decode prog_23_method_8_code 27 = .ok (.lload 6, 2) := by decide +kernel
theorem d1_29 : decode prog_23_method_8_code 29 = .ok (.lload 8, 2) := by decide +kernel
theorem d1_31 : decode prog_23_method_8_code 31 = .ok (.lcmp, 1) := by decide +kernel
theorem d1_32 : decode prog_23_method_8_code 32 = .ok (.ifCond .eq 17, 3) := by decide +kernel
theorem d1_35 : decode prog_23_method_8_code 35 = .ok (.lload 6, 2) := by decide +kernel
theorem d1_37 : decode prog_23_method_8_code 37 = .ok (.lload 8, 2) := by decide +kernel
theorem d1_39 : decode prog_23_method_8_code 39 = .ok (.lcmp, 1) := by decide +kernel
theorem d1_40 : decode prog_23_method_8_code 40 = .ok (.ifCond .ge 7, 3) := by decide +kernel
theorem d1_43 : decode prog_23_method_8_code 43 = .ok (.iconst 1, 1) := by decide +kernel
theorem d1_44 : decode prog_23_method_8_code 44 = .ok (.goto 4, 3) := by decide +kernel
theorem d1_47 : decode prog_23_method_8_code 47 = .ok (.iconst 0, 1) := by decide +kernel
theorem d1_48 : decode prog_23_method_8_code 48 = .ok (.ireturn, 1) := by decide +kernel
theorem d1_49 : decode prog_23_method_8_code 49 = .ok (.iinc 5 (-1), 3) := by decide +kernel
theorem d1_52 : decode prog_23_method_8_code 52 = .ok (.goto (-46), 3) := by decide +kernel
theorem d1_55 : decode prog_23_method_8_code 55 = .ok (.aload_n 0, 1) := by decide +kernel
theorem d1_56 : decode prog_23_method_8_code 56 = .ok (.iload_n 1, 1) := by decide +kernel
theorem d1_57 : decode prog_23_method_8_code 57 = .ok (.laload, 1) := by decide +kernel
theorem d1_58 : decode prog_23_method_8_code 58 = .ok (.aload_n 2, 1) := by decide +kernel
theorem d1_59 : decode prog_23_method_8_code 59 = .ok (.iload_n 3, 1) := by decide +kernel
theorem d1_60 : decode prog_23_method_8_code 60 = .ok (.laload, 1) := by decide +kernel
theorem d1_61 : decode prog_23_method_8_code 61 = .ok (.lcmp, 1) := by decide +kernel
theorem d1_62 : decode prog_23_method_8_code 62 = .ok (.ifCond .ge 7, 3) := by decide +kernel
theorem d1_65 : decode prog_23_method_8_code 65 = .ok (.iconst 1, 1) := by decide +kernel
theorem d1_66 : decode prog_23_method_8_code 66 = .ok (.goto 4, 3) := by decide +kernel
theorem d1_69 : decode prog_23_method_8_code 69 = .ok (.iconst 0, 1) := by decide +kernel
theorem d1_70 : decode prog_23_method_8_code 70 = .ok (.ireturn, 1) := by decide +kernel
theorem pd1 : parseMethodDescriptor "([JI[JII)Z" = some ⟨[.array .long, .int, .array .long, .int, .int], some .boolean⟩ := by decide +kernel
theorem pn1 : plainFor (⟨"com/example/waystation/waystation/placement/Limbs", "less", "([JI[JII)Z"⟩ : MethodName) = true := by first | exact plainFor_of_name (by first | (simp [plainName, overriddenIn]; done) | decide +kernel) | decide +kernel
abbrev rm1 : Room := { frames := 0, cells := 0, slots := 0, locals := 0 }
abbrev Ok1 (G : Gx) (K : Kx) : Prop := Ok G K "com/example/waystation/waystation/placement/Limbs" prog_23_method_8_code 10 (Option.some FieldType.boolean) rm1 "less" 0 0
def m1_b48 (t0 : Int32) (H : List Obj) : Option (Int32 × List Obj) :=
  some ((nar .boolean t0), H)
theorem m1_t48 {G : Gx} {K : Kx} (O : Ok1 G K) (t0 : Int32) (H : List Obj) (r : Int32) (Hf : List Obj) (hf : m1_b48 t0 H = some (r, Hf)) : Run G K (some (.int r)) Hf 48 [none, none, none, none, none, none, none, none, none, none] [(.int t0)] H 0 0 := by
  unfold m1_b48 at hf
  cases hf
  exact g_ret_nar O d1_48 (by simp) rfl rfl (by decide)
def m1_b70 (t0 : Int32) (H : List Obj) : Option (Int32 × List Obj) :=
  some ((nar .boolean t0), H)
theorem m1_t70 {G : Gx} {K : Kx} (O : Ok1 G K) (t0 : Int32) (H : List Obj) (r : Int32) (Hf : List Obj) (hf : m1_b70 t0 H = some (r, Hf)) : Run G K (some (.int r)) Hf 70 [none, none, none, none, none, none, none, none, none, none] [(.int t0)] H 0 0 := by
  unfold m1_b70 at hf
  cases hf
  exact g_ret_nar O d1_70 (by simp) rfl rfl (by decide)
def m1_b6 : Nat → Nat → Int32 → Nat → Int32 → Int32 → List Obj → Option (Int32 × List Obj)
  | 0, _, _, _, _, _, _ => none
  | n + 1, v0, v1, v2, v3, v5, H =>
    if 0 < v5 then
      (rdJ H v0 (v1 + v5)).bind fun x16 =>
      (rdJ H v2 (v3 + v5)).bind fun x24 =>
      if x16 = x24 then
        m1_b6 n v0 v1 v2 v3 (v5 + (-1 : Int32)) H
      else
        if x16 < x24 then
          m1_b48 (1 : Int32) H
        else
          m1_b48 (0 : Int32) H
    else
      (rdJ H v0 v1).bind fun x57 =>
      (rdJ H v2 v3).bind fun x60 =>
      if x57 < x60 then
        m1_b70 (1 : Int32) H
      else
        m1_b70 (0 : Int32) H
theorem m1_t6 {G : Gx} {K : Kx} (O : Ok1 G K) : ∀ (n : Nat) (v0 : Nat) (v1 : Int32) (v2 : Nat) (v3 : Int32) (v5 : Int32) (H : List Obj) (r : Int32) (Hf : List Obj), m1_b6 n v0 v1 v2 v3 v5 H = some (r, Hf) → Run G K (some (.int r)) Hf 6 [some (.ref v0), some (.int v1), some (.ref v2), some (.int v3), none, some (.int v5), none, none, none, none] [] H 0 0 := by
  intro n
  induction n with
  | zero => intro v0 v1 v2 v3 v5 H r Hf hf; cases hf
  | succ n ih =>
    intro v0 v1 v2 v3 v5 H r Hf hf
    rw [m1_b6] at hf
    refine g_iload O (pc' := 8) d1_6 (v := v5) rfl rfl ?_
    refine g_if_le O (pc' := 11) d1_8 rfl (by decide) (pc1 := 55) (by decide) (fun h8 => ?_) (fun h8 => ?_)
    · rw [if_neg h8] at hf
      refine g_aload_n O (pc' := 56) d1_55 (v := v0) rfl rfl ?_
      refine g_iload_n O (pc' := 57) d1_56 (v := v1) rfl rfl ?_
      obtain ⟨x57, h57, hf⟩ := bnd hf
      refine g_laload O (pc' := 58) d1_57 h57 rfl ?_
      refine g_aload_n O (pc' := 59) d1_58 (v := v2) rfl rfl ?_
      refine g_iload_n O (pc' := 60) d1_59 (v := v3) rfl rfl ?_
      obtain ⟨x60, h60, hf⟩ := bnd hf
      refine g_laload O (pc' := 61) d1_60 h60 rfl ?_
      refine g_lcmp_ge O (pc' := 65) d1_61 rfl d1_62 rfl (by decide) (pc1 := 69) (by decide) (fun h62 => ?_) (fun h62 => ?_)
      · rw [if_neg h62] at hf
        refine g_iconst O (pc' := 70) d1_69 (v := 0) (by decide) rfl ?_
        refine g_forget (Ls' := [none, none, none, none, none, none, none, none, none, none]) trivial ?_
        exact m1_t70 O (0 : Int32) H _ _ hf
      · rw [if_pos h62] at hf
        refine g_iconst O (pc' := 66) d1_65 (v := 1) (by decide) rfl ?_
        refine g_goto O d1_66 (by decide) (pc' := 70) (by decide) ?_
        refine g_forget (Ls' := [none, none, none, none, none, none, none, none, none, none]) trivial ?_
        exact m1_t70 O (1 : Int32) H _ _ hf
    · rw [if_pos h8] at hf
      refine g_aload_n O (pc' := 12) d1_11 (v := v0) rfl rfl ?_
      refine g_iload_n O (pc' := 13) d1_12 (v := v1) rfl rfl ?_
      refine g_iload O (pc' := 15) d1_13 (v := v5) rfl rfl ?_
      refine g_iadd O (pc' := 16) d1_15 rfl ?_
      obtain ⟨x16, h16, hf⟩ := bnd hf
      refine g_laload O (pc' := 17) d1_16 h16 rfl ?_
      refine g_lstore O (pc' := 19) d1_17 (Ls' := [some (.ref v0), some (.int v1), some (.ref v2), some (.int v3), none, some (.int v5), some (.long x16), none, none, none]) rfl rfl ?_
      refine g_aload_n O (pc' := 20) d1_19 (v := v2) rfl rfl ?_
      refine g_iload_n O (pc' := 21) d1_20 (v := v3) rfl rfl ?_
      refine g_iload O (pc' := 23) d1_21 (v := v5) rfl rfl ?_
      refine g_iadd O (pc' := 24) d1_23 rfl ?_
      obtain ⟨x24, h24, hf⟩ := bnd hf
      refine g_laload O (pc' := 25) d1_24 h24 rfl ?_
      refine g_lstore O (pc' := 27) d1_25 (Ls' := [some (.ref v0), some (.int v1), some (.ref v2), some (.int v3), none, some (.int v5), some (.long x16), none, some (.long x24), none]) rfl rfl ?_
      refine g_lload O (pc' := 29) d1_27 (v := x16) rfl rfl ?_
      refine g_lload O (pc' := 31) d1_29 (v := x24) rfl rfl ?_
      refine g_lcmp_eq O (pc' := 35) d1_31 rfl d1_32 rfl (by decide) (pc1 := 49) (by decide) (fun h32 => ?_) (fun h32 => ?_)
      · rw [if_pos h32] at hf
        refine g_iinc O (pc' := 52) d1_49 (w := -1) (v := v5) (by decide) rfl (Ls' := [some (.ref v0), some (.int v1), some (.ref v2), some (.int v3), none, some (.int (v5 + (-1 : Int32))), some (.long x16), none, some (.long x24), none]) rfl rfl ?_
        refine g_goto O d1_52 (by decide) (pc' := 6) (by decide) ?_
        refine g_forget (Ls' := [some (.ref v0), some (.int v1), some (.ref v2), some (.int v3), none, some (.int (v5 + (-1 : Int32))), none, none, none, none]) (And.intro rfl (And.intro rfl (And.intro rfl (And.intro rfl (And.intro rfl trivial))))) ?_
        exact ih v0 v1 v2 v3 (v5 + (-1 : Int32)) H _ _ hf
      · rw [if_neg h32] at hf
        refine g_lload O (pc' := 37) d1_35 (v := x16) rfl rfl ?_
        refine g_lload O (pc' := 39) d1_37 (v := x24) rfl rfl ?_
        refine g_lcmp_ge O (pc' := 43) d1_39 rfl d1_40 rfl (by decide) (pc1 := 47) (by decide) (fun h40 => ?_) (fun h40 => ?_)
        · rw [if_neg h40] at hf
          refine g_iconst O (pc' := 48) d1_47 (v := 0) (by decide) rfl ?_
          refine g_forget (Ls' := [none, none, none, none, none, none, none, none, none, none]) trivial ?_
          exact m1_t48 O (0 : Int32) H _ _ hf
        · rw [if_pos h40] at hf
          refine g_iconst O (pc' := 44) d1_43 (v := 1) (by decide) rfl ?_
          refine g_goto O d1_44 (by decide) (pc' := 48) (by decide) ?_
          refine g_forget (Ls' := [none, none, none, none, none, none, none, none, none, none]) trivial ?_
          exact m1_t48 O (1 : Int32) H _ _ hf
def m1_b0 (v0 : Nat) (v1 : Int32) (v2 : Nat) (v3 : Int32) (v4 : Int32) (H : List Obj) : Option (Int32 × List Obj) :=
  m1_b6 8 v0 v1 v2 v3 (v4 - (1 : Int32)) H
theorem m1_t0 {G : Gx} {K : Kx} (O : Ok1 G K) (v0 : Nat) (v1 : Int32) (v2 : Nat) (v3 : Int32) (v4 : Int32) (H : List Obj) (r : Int32) (Hf : List Obj) (hf : m1_b0 v0 v1 v2 v3 v4 H = some (r, Hf)) : Run G K (some (.int r)) Hf 0 [some (.ref v0), some (.int v1), some (.ref v2), some (.int v3), some (.int v4), none, none, none, none, none] [] H 0 0 := by
  unfold m1_b0 at hf
  refine g_iload O (pc' := 2) d1_0 (v := v4) rfl rfl ?_
  refine g_iconst O (pc' := 3) d1_2 (v := 1) (by decide) rfl ?_
  refine g_isub O (pc' := 4) d1_3 rfl ?_
  refine g_istore O (pc' := 6) d1_4 (Ls' := [some (.ref v0), some (.int v1), some (.ref v2), some (.int v3), some (.int v4), some (.int (v4 - (1 : Int32))), none, none, none, none]) rfl rfl ?_
  refine g_forget (Ls' := [some (.ref v0), some (.int v1), some (.ref v2), some (.int v3), none, some (.int (v4 - (1 : Int32))), none, none, none, none]) (And.intro rfl (And.intro rfl (And.intro rfl (And.intro rfl (And.intro rfl trivial))))) ?_
  exact m1_t6 O 8 v0 v1 v2 v3 (v4 - (1 : Int32)) H _ _ hf
abbrev m1 (v0 : Nat) (v1 : Int32) (v2 : Nat) (v3 : Int32) (v4 : Int32) (H : List Obj) : Option (Int32 × List Obj) := m1_b0 v0 v1 v2 v3 v4 H
theorem con1 {G : Gx} (hw : ∀ d ∈ tables_1, d.before G.2.2.1 G.2.1 = true) (v0 : Nat) (v1 : Int32) (v2 : Nat) (v3 : Int32) (v4 : Int32) (H : List Obj) {r : Int32} {Hf : List Obj} (hf : m1 v0 v1 v2 v3 v4 H = some (r, Hf)) : Con G (⟨"com/example/waystation/waystation/placement/Limbs", "less", "([JI[JII)Z"⟩ : MethodName) prog_23_method_8_code 10 (Option.some FieldType.boolean) rm1 [(.ref v0), (.int v1), (.ref v2), (.int v3), (.int v4)] H (some (.int r)) Hf :=
  con_of hw pn1 rfl fun K O => m1_t0 O v0 v1 v2 v3 v4 H r Hf hf

/-! body 0 -/
theorem pn0 : plainFor x = true := by first | exact plainFor_of_name (by first | (simp [plainName, overriddenIn]; done) | decide +kernel) | decide +kernel
abbrev Ok0 (G : Gx) (K : Kx) : Prop := Ok G K x.cls code maxLocals ret room_1 x.name 2 8
def m0_b351 (t0 : Int32) (H : List Obj) : Option (Int32 × List Obj) :=
  some ((nar .boolean t0), H)
theorem m0_t351 {G : Gx} {K : Kx} (O : Ok0 G K) (t0 : Int32) (H : List Obj) (r : Int32) (Hf : List Obj) (hf : m0_b351 t0 H = some (r, Hf)) : Run G K (some (.int r)) Hf 351 [none, none, none, none, none, none, none, none, none, none, none, none, none, none, none, none, none, none, none, none, none, none, none, none, none, none, none, none, none, none, none, none, none, none, none] [(.int t0)] H 2 8 := by
  unfold m0_b351 at hf
  cases hf
  exact g_ret_nar O at_351 (by simp) rfl rfl (by decide)
def m0_b328 (v25 : Int32) (v26 : Int32) (v27 : Int32) (v32 : Nat) (v33 : Nat) (v34 : Int32) (H : List Obj) : Option (Int32 × List Obj) :=
  (m1 v32 v26 v33 v27 v25 H).bind fun q338 =>
  if q338.1 = v34 then
    m0_b351 (1 : Int32) q338.2
  else
    m0_b351 (0 : Int32) q338.2
theorem m0_t328 {G : Gx} {K : Kx} (O : Ok0 G K) (v25 : Int32) (v26 : Int32) (v27 : Int32) (v32 : Nat) (v33 : Nat) (v34 : Int32) (H : List Obj) (r : Int32) (Hf : List Obj) (hf : m0_b328 v25 v26 v27 v32 v33 v34 H = some (r, Hf)) : Run G K (some (.int r)) Hf 328 [none, none, none, none, none, none, none, none, none, none, none, none, none, none, none, none, none, none, none, none, none, none, none, none, none, some (.int v25), some (.int v26), some (.int v27), none, none, none, none, some (.ref v32), some (.ref v33), some (.int v34)] [] H 2 8 := by
  unfold m0_b328 at hf
  refine g_aload O (pc' := 330) at_328 (v := v32) rfl rfl ?_
  refine g_iload O (pc' := 332) at_330 (v := v26) rfl rfl ?_
  refine g_aload O (pc' := 334) at_332 (v := v33) rfl rfl ?_
  refine g_iload O (pc' := 336) at_334 (v := v27) rfl rfl ?_
  refine g_iload O (pc' := 338) at_336 (v := v25) rfl rfl ?_
  obtain ⟨⟨x338, H338⟩, h338, hf⟩ := bnd hf
  dsimp only at hf
  refine g_static1 O (pc' := 341) at_338 tw2 tw3 tw4 tw5 (by decide) pd1 (as := [(.ref v32), (.int v26), (.ref v33), (.int v27), (.int v25)]) rfl (st := []) rfl rfl (W := 0) rfl (rm := rm1) (by decide) (by decide) (c2 := 2) (s2 := 8) rfl rfl (by decide) (by decide) (con1 (Ok.w O) v32 v26 v33 v27 v25 H h338) rfl ?_
  refine g_iload O (pc' := 343) at_341 (v := v34) rfl rfl ?_
  refine g_icmp_ne O (pc' := 346) at_343 rfl (by decide) (pc1 := 350) (by decide) (fun h343 => ?_) (fun h343 => ?_)
  · rw [if_neg h343] at hf
    refine g_iconst O (pc' := 351) at_350 (v := 0) (by decide) rfl ?_
    refine g_forget (Ls' := [none, none, none, none, none, none, none, none, none, none, none, none, none, none, none, none, none, none, none, none, none, none, none, none, none, none, none, none, none, none, none, none, none, none, none]) trivial ?_
    exact m0_t351 O (0 : Int32) H338 _ _ hf
  · rw [if_pos h343] at hf
    refine g_iconst O (pc' := 347) at_346 (v := 1) (by decide) rfl ?_
    refine g_goto O at_347 (by decide) (pc' := 351) (by decide) ?_
    refine g_forget (Ls' := [none, none, none, none, none, none, none, none, none, none, none, none, none, none, none, none, none, none, none, none, none, none, none, none, none, none, none, none, none, none, none, none, none, none, none]) trivial ?_
    exact m0_t351 O (1 : Int32) H338 _ _ hf
def m0_b326 (v25 : Int32) (v26 : Int32) (v27 : Int32) (v32 : Nat) (v33 : Nat) (t0 : Int32) (H : List Obj) : Option (Int32 × List Obj) :=
  m0_b328 v25 v26 v27 v32 v33 t0 H
theorem m0_t326 {G : Gx} {K : Kx} (O : Ok0 G K) (v25 : Int32) (v26 : Int32) (v27 : Int32) (v32 : Nat) (v33 : Nat) (t0 : Int32) (H : List Obj) (r : Int32) (Hf : List Obj) (hf : m0_b326 v25 v26 v27 v32 v33 t0 H = some (r, Hf)) : Run G K (some (.int r)) Hf 326 [none, none, none, none, none, none, none, none, none, none, none, none, none, none, none, none, none, none, none, none, none, none, none, none, none, some (.int v25), some (.int v26), some (.int v27), none, none, none, none, some (.ref v32), some (.ref v33), none] [(.int t0)] H 2 8 := by
  unfold m0_b326 at hf
  refine g_istore O (pc' := 328) at_326 (Ls' := [none, none, none, none, none, none, none, none, none, none, none, none, none, none, none, none, none, none, none, none, none, none, none, none, none, some (.int v25), some (.int v26), some (.int v27), none, none, none, none, some (.ref v32), some (.ref v33), some (.int t0)]) rfl rfl ?_
  exact m0_t328 O v25 v26 v27 v32 v33 t0 H _ _ hf
def m0_b313 (v13 : Int64) (v19 : Int64) (v25 : Int32) (v26 : Int32) (v27 : Int32) (v32 : Nat) (v33 : Nat) (H : List Obj) : Option (Int32 × List Obj) :=
  if v13 < v19 then
    m0_b326 v25 v26 v27 v32 v33 (1 : Int32) H
  else
    m0_b326 v25 v26 v27 v32 v33 (0 : Int32) H
theorem m0_t313 {G : Gx} {K : Kx} (O : Ok0 G K) (v13 : Int64) (v19 : Int64) (v25 : Int32) (v26 : Int32) (v27 : Int32) (v32 : Nat) (v33 : Nat) (H : List Obj) (r : Int32) (Hf : List Obj) (hf : m0_b313 v13 v19 v25 v26 v27 v32 v33 H = some (r, Hf)) : Run G K (some (.int r)) Hf 313 [none, none, none, none, none, none, none, none, none, none, none, none, none, some (.long v13), none, none, none, none, none, some (.long v19), none, none, none, none, none, some (.int v25), some (.int v26), some (.int v27), none, none, none, none, some (.ref v32), some (.ref v33), none] [] H 2 8 := by
  unfold m0_b313 at hf
  refine g_lload O (pc' := 315) at_313 (v := v13) rfl rfl ?_
  refine g_lload O (pc' := 317) at_315 (v := v19) rfl rfl ?_
  refine g_lcmp_ge O (pc' := 321) at_317 rfl at_318 rfl (by decide) (pc1 := 325) (by decide) (fun h318 => ?_) (fun h318 => ?_)
  · rw [if_neg h318] at hf
    refine g_iconst O (pc' := 326) at_325 (v := 0) (by decide) rfl ?_
    refine g_forget (Ls' := [none, none, none, none, none, none, none, none, none, none, none, none, none, none, none, none, none, none, none, none, none, none, none, none, none, some (.int v25), some (.int v26), some (.int v27), none, none, none, none, some (.ref v32), some (.ref v33), none]) (And.intro rfl (And.intro rfl (And.intro rfl (And.intro rfl (And.intro rfl trivial))))) ?_
    exact m0_t326 O v25 v26 v27 v32 v33 (0 : Int32) H _ _ hf
  · rw [if_pos h318] at hf
    refine g_iconst O (pc' := 322) at_321 (v := 1) (by decide) rfl ?_
    refine g_goto O at_322 (by decide) (pc' := 326) (by decide) ?_
    refine g_forget (Ls' := [none, none, none, none, none, none, none, none, none, none, none, none, none, none, none, none, none, none, none, none, none, none, none, none, none, some (.int v25), some (.int v26), some (.int v27), none, none, none, none, some (.ref v32), some (.ref v33), none]) (And.intro rfl (And.intro rfl (And.intro rfl (And.intro rfl (And.intro rfl trivial))))) ?_
    exact m0_t326 O v25 v26 v27 v32 v33 (1 : Int32) H _ _ hf
def m0_b308 (v25 : Int32) (v26 : Int32) (v27 : Int32) (v32 : Nat) (v33 : Nat) (t0 : Int32) (H : List Obj) : Option (Int32 × List Obj) :=
  m0_b328 v25 v26 v27 v32 v33 t0 H
theorem m0_t308 {G : Gx} {K : Kx} (O : Ok0 G K) (v25 : Int32) (v26 : Int32) (v27 : Int32) (v32 : Nat) (v33 : Nat) (t0 : Int32) (H : List Obj) (r : Int32) (Hf : List Obj) (hf : m0_b308 v25 v26 v27 v32 v33 t0 H = some (r, Hf)) : Run G K (some (.int r)) Hf 308 [none, none, none, none, none, none, none, none, none, none, none, none, none, none, none, none, none, none, none, none, none, none, none, none, none, some (.int v25), some (.int v26), some (.int v27), none, none, none, none, some (.ref v32), some (.ref v33), none] [(.int t0)] H 2 8 := by
  unfold m0_b308 at hf
  refine g_istore O (pc' := 310) at_308 (Ls' := [none, none, none, none, none, none, none, none, none, none, none, none, none, none, none, none, none, none, none, none, none, none, none, none, none, some (.int v25), some (.int v26), some (.int v27), none, none, none, none, some (.ref v32), some (.ref v33), some (.int t0)]) rfl rfl ?_
  refine g_goto O at_310 (by decide) (pc' := 328) (by decide) ?_
  exact m0_t328 O v25 v26 v27 v32 v33 t0 H _ _ hf
def m0_b281 (v13 : Int64) (v15 : Int64) (v19 : Int64) (v21 : Int64) (v25 : Int32) (v26 : Int32) (v27 : Int32) (v32 : Nat) (v33 : Nat) (H : List Obj) : Option (Int32 × List Obj) :=
  if v25 < (2 : Int32) then
    m0_b313 v13 v19 v25 v26 v27 v32 v33 H
  else
    if v15 = v21 then
      m0_b313 v13 v19 v25 v26 v27 v32 v33 H
    else
      if v15 < v21 then
        m0_b308 v25 v26 v27 v32 v33 (1 : Int32) H
      else
        m0_b308 v25 v26 v27 v32 v33 (0 : Int32) H
theorem m0_t281 {G : Gx} {K : Kx} (O : Ok0 G K) (v13 : Int64) (v15 : Int64) (v19 : Int64) (v21 : Int64) (v25 : Int32) (v26 : Int32) (v27 : Int32) (v32 : Nat) (v33 : Nat) (H : List Obj) (r : Int32) (Hf : List Obj) (hf : m0_b281 v13 v15 v19 v21 v25 v26 v27 v32 v33 H = some (r, Hf)) : Run G K (some (.int r)) Hf 281 [none, none, none, none, none, none, none, none, none, none, none, none, none, some (.long v13), none, some (.long v15), none, none, none, some (.long v19), none, some (.long v21), none, none, none, some (.int v25), some (.int v26), some (.int v27), none, none, none, none, some (.ref v32), some (.ref v33), none] [] H 2 8 := by
  unfold m0_b281 at hf
  refine g_iload O (pc' := 283) at_281 (v := v25) rfl rfl ?_
  refine g_iconst O (pc' := 284) at_283 (v := 2) (by decide) rfl ?_
  refine g_icmp_lt O (pc' := 287) at_284 rfl (by decide) (pc1 := 313) (by decide) (fun h284 => ?_) (fun h284 => ?_)
  · rw [if_pos h284] at hf
    refine g_forget (Ls' := [none, none, none, none, none, none, none, none, none, none, none, none, none, some (.long v13), none, none, none, none, none, some (.long v19), none, none, none, none, none, some (.int v25), some (.int v26), some (.int v27), none, none, none, none, some (.ref v32), some (.ref v33), none]) (And.intro rfl (And.intro rfl (And.intro rfl (And.intro rfl (And.intro rfl (And.intro rfl (And.intro rfl trivial))))))) ?_
    exact m0_t313 O v13 v19 v25 v26 v27 v32 v33 H _ _ hf
  · rw [if_neg h284] at hf
    refine g_lload O (pc' := 289) at_287 (v := v15) rfl rfl ?_
    refine g_lload O (pc' := 291) at_289 (v := v21) rfl rfl ?_
    refine g_lcmp_eq O (pc' := 295) at_291 rfl at_292 rfl (by decide) (pc1 := 313) (by decide) (fun h292 => ?_) (fun h292 => ?_)
    · rw [if_pos h292] at hf
      refine g_forget (Ls' := [none, none, none, none, none, none, none, none, none, none, none, none, none, some (.long v13), none, none, none, none, none, some (.long v19), none, none, none, none, none, some (.int v25), some (.int v26), some (.int v27), none, none, none, none, some (.ref v32), some (.ref v33), none]) (And.intro rfl (And.intro rfl (And.intro rfl (And.intro rfl (And.intro rfl (And.intro rfl (And.intro rfl trivial))))))) ?_
      exact m0_t313 O v13 v19 v25 v26 v27 v32 v33 H _ _ hf
    · rw [if_neg h292] at hf
      refine g_lload O (pc' := 297) at_295 (v := v15) rfl rfl ?_
      refine g_lload O (pc' := 299) at_297 (v := v21) rfl rfl ?_
      refine g_lcmp_ge O (pc' := 303) at_299 rfl at_300 rfl (by decide) (pc1 := 307) (by decide) (fun h300 => ?_) (fun h300 => ?_)
      · rw [if_neg h300] at hf
        refine g_iconst O (pc' := 308) at_307 (v := 0) (by decide) rfl ?_
        refine g_forget (Ls' := [none, none, none, none, none, none, none, none, none, none, none, none, none, none, none, none, none, none, none, none, none, none, none, none, none, some (.int v25), some (.int v26), some (.int v27), none, none, none, none, some (.ref v32), some (.ref v33), none]) (And.intro rfl (And.intro rfl (And.intro rfl (And.intro rfl (And.intro rfl trivial))))) ?_
        exact m0_t308 O v25 v26 v27 v32 v33 (0 : Int32) H _ _ hf
      · rw [if_pos h300] at hf
        refine g_iconst O (pc' := 304) at_303 (v := 1) (by decide) rfl ?_
        refine g_goto O at_304 (by decide) (pc' := 308) (by decide) ?_
        refine g_forget (Ls' := [none, none, none, none, none, none, none, none, none, none, none, none, none, none, none, none, none, none, none, none, none, none, none, none, none, some (.int v25), some (.int v26), some (.int v27), none, none, none, none, some (.ref v32), some (.ref v33), none]) (And.intro rfl (And.intro rfl (And.intro rfl (And.intro rfl (And.intro rfl trivial))))) ?_
        exact m0_t308 O v25 v26 v27 v32 v33 (1 : Int32) H _ _ hf
def m0_b276 (v25 : Int32) (v26 : Int32) (v27 : Int32) (v32 : Nat) (v33 : Nat) (t0 : Int32) (H : List Obj) : Option (Int32 × List Obj) :=
  m0_b328 v25 v26 v27 v32 v33 t0 H
theorem m0_t276 {G : Gx} {K : Kx} (O : Ok0 G K) (v25 : Int32) (v26 : Int32) (v27 : Int32) (v32 : Nat) (v33 : Nat) (t0 : Int32) (H : List Obj) (r : Int32) (Hf : List Obj) (hf : m0_b276 v25 v26 v27 v32 v33 t0 H = some (r, Hf)) : Run G K (some (.int r)) Hf 276 [none, none, none, none, none, none, none, none, none, none, none, none, none, none, none, none, none, none, none, none, none, none, none, none, none, some (.int v25), some (.int v26), some (.int v27), none, none, none, none, some (.ref v32), some (.ref v33), none] [(.int t0)] H 2 8 := by
  unfold m0_b276 at hf
  refine g_istore O (pc' := 278) at_276 (Ls' := [none, none, none, none, none, none, none, none, none, none, none, none, none, none, none, none, none, none, none, none, none, none, none, none, none, some (.int v25), some (.int v26), some (.int v27), none, none, none, none, some (.ref v32), some (.ref v33), some (.int t0)]) rfl rfl ?_
  refine g_goto O at_278 (by decide) (pc' := 328) (by decide) ?_
  exact m0_t328 O v25 v26 v27 v32 v33 t0 H _ _ hf
def m0_b249 (v13 : Int64) (v15 : Int64) (v17 : Int64) (v19 : Int64) (v21 : Int64) (v23 : Int64) (v25 : Int32) (v26 : Int32) (v27 : Int32) (v32 : Nat) (v33 : Nat) (H : List Obj) : Option (Int32 × List Obj) :=
  if v25 = (3 : Int32) then
    if v17 = v23 then
      m0_b281 v13 v15 v19 v21 v25 v26 v27 v32 v33 H
    else
      if v17 < v23 then
        m0_b276 v25 v26 v27 v32 v33 (1 : Int32) H
      else
        m0_b276 v25 v26 v27 v32 v33 (0 : Int32) H
  else
    m0_b281 v13 v15 v19 v21 v25 v26 v27 v32 v33 H
theorem m0_t249 {G : Gx} {K : Kx} (O : Ok0 G K) (v13 : Int64) (v15 : Int64) (v17 : Int64) (v19 : Int64) (v21 : Int64) (v23 : Int64) (v25 : Int32) (v26 : Int32) (v27 : Int32) (v32 : Nat) (v33 : Nat) (H : List Obj) (r : Int32) (Hf : List Obj) (hf : m0_b249 v13 v15 v17 v19 v21 v23 v25 v26 v27 v32 v33 H = some (r, Hf)) : Run G K (some (.int r)) Hf 249 [none, none, none, none, none, none, none, none, none, none, none, none, none, some (.long v13), none, some (.long v15), none, some (.long v17), none, some (.long v19), none, some (.long v21), none, some (.long v23), none, some (.int v25), some (.int v26), some (.int v27), none, none, none, none, some (.ref v32), some (.ref v33), none] [] H 2 8 := by
  unfold m0_b249 at hf
  refine g_iload O (pc' := 251) at_249 (v := v25) rfl rfl ?_
  refine g_iconst O (pc' := 252) at_251 (v := 3) (by decide) rfl ?_
  refine g_icmp_ne O (pc' := 255) at_252 rfl (by decide) (pc1 := 281) (by decide) (fun h252 => ?_) (fun h252 => ?_)
  · rw [if_neg h252] at hf
    refine g_forget (Ls' := [none, none, none, none, none, none, none, none, none, none, none, none, none, some (.long v13), none, some (.long v15), none, none, none, some (.long v19), none, some (.long v21), none, none, none, some (.int v25), some (.int v26), some (.int v27), none, none, none, none, some (.ref v32), some (.ref v33), none]) (And.intro rfl (And.intro rfl (And.intro rfl (And.intro rfl (And.intro rfl (And.intro rfl (And.intro rfl (And.intro rfl (And.intro rfl trivial))))))))) ?_
    exact m0_t281 O v13 v15 v19 v21 v25 v26 v27 v32 v33 H _ _ hf
  · rw [if_pos h252] at hf
    refine g_lload O (pc' := 257) at_255 (v := v17) rfl rfl ?_
    refine g_lload O (pc' := 259) at_257 (v := v23) rfl rfl ?_
    refine g_lcmp_eq O (pc' := 263) at_259 rfl at_260 rfl (by decide) (pc1 := 281) (by decide) (fun h260 => ?_) (fun h260 => ?_)
    · rw [if_pos h260] at hf
      refine g_forget (Ls' := [none, none, none, none, none, none, none, none, none, none, none, none, none, some (.long v13), none, some (.long v15), none, none, none, some (.long v19), none, some (.long v21), none, none, none, some (.int v25), some (.int v26), some (.int v27), none, none, none, none, some (.ref v32), some (.ref v33), none]) (And.intro rfl (And.intro rfl (And.intro rfl (And.intro rfl (And.intro rfl (And.intro rfl (And.intro rfl (And.intro rfl (And.intro rfl trivial))))))))) ?_
      exact m0_t281 O v13 v15 v19 v21 v25 v26 v27 v32 v33 H _ _ hf
    · rw [if_neg h260] at hf
      refine g_lload O (pc' := 265) at_263 (v := v17) rfl rfl ?_
      refine g_lload O (pc' := 267) at_265 (v := v23) rfl rfl ?_
      refine g_lcmp_ge O (pc' := 271) at_267 rfl at_268 rfl (by decide) (pc1 := 275) (by decide) (fun h268 => ?_) (fun h268 => ?_)
      · rw [if_neg h268] at hf
        refine g_iconst O (pc' := 276) at_275 (v := 0) (by decide) rfl ?_
        refine g_forget (Ls' := [none, none, none, none, none, none, none, none, none, none, none, none, none, none, none, none, none, none, none, none, none, none, none, none, none, some (.int v25), some (.int v26), some (.int v27), none, none, none, none, some (.ref v32), some (.ref v33), none]) (And.intro rfl (And.intro rfl (And.intro rfl (And.intro rfl (And.intro rfl trivial))))) ?_
        exact m0_t276 O v25 v26 v27 v32 v33 (0 : Int32) H _ _ hf
      · rw [if_pos h268] at hf
        refine g_iconst O (pc' := 272) at_271 (v := 1) (by decide) rfl ?_
        refine g_goto O at_272 (by decide) (pc' := 276) (by decide) ?_
        refine g_forget (Ls' := [none, none, none, none, none, none, none, none, none, none, none, none, none, none, none, none, none, none, none, none, none, none, none, none, none, some (.int v25), some (.int v26), some (.int v27), none, none, none, none, some (.ref v32), some (.ref v33), none]) (And.intro rfl (And.intro rfl (And.intro rfl (And.intro rfl (And.intro rfl trivial))))) ?_
        exact m0_t276 O v25 v26 v27 v32 v33 (1 : Int32) H _ _ hf
def m0_b225 (v13 : Int64) (v15 : Int64) (v17 : Int64) (v19 : Int64) (v21 : Int64) (v23 : Int64) (v25 : Int32) (v26 : Int32) (v27 : Int32) (v32 : Nat) (v33 : Nat) (H : List Obj) : Option (Int32 × List Obj) :=
  if v25 < (3 : Int32) then
    m0_b249 v13 v15 v17 v19 v21 v23 v25 v26 v27 v32 v33 H
  else
    (wr .long H v32 (v26 + (2 : Int32)) (.long v17)).bind fun H239 =>
    (wr .long H239 v33 (v27 + (2 : Int32)) (.long v23)).bind fun H248 =>
    m0_b249 v13 v15 v17 v19 v21 v23 v25 v26 v27 v32 v33 H248
theorem m0_t225 {G : Gx} {K : Kx} (O : Ok0 G K) (v13 : Int64) (v15 : Int64) (v17 : Int64) (v19 : Int64) (v21 : Int64) (v23 : Int64) (v25 : Int32) (v26 : Int32) (v27 : Int32) (v32 : Nat) (v33 : Nat) (H : List Obj) (r : Int32) (Hf : List Obj) (hf : m0_b225 v13 v15 v17 v19 v21 v23 v25 v26 v27 v32 v33 H = some (r, Hf)) : Run G K (some (.int r)) Hf 225 [none, none, none, none, none, none, none, none, none, none, none, none, none, some (.long v13), none, some (.long v15), none, some (.long v17), none, some (.long v19), none, some (.long v21), none, some (.long v23), none, some (.int v25), some (.int v26), some (.int v27), none, none, none, none, some (.ref v32), some (.ref v33), none] [] H 2 8 := by
  unfold m0_b225 at hf
  refine g_iload O (pc' := 227) at_225 (v := v25) rfl rfl ?_
  refine g_iconst O (pc' := 228) at_227 (v := 3) (by decide) rfl ?_
  refine g_icmp_lt O (pc' := 231) at_228 rfl (by decide) (pc1 := 249) (by decide) (fun h228 => ?_) (fun h228 => ?_)
  · rw [if_pos h228] at hf
    exact m0_t249 O v13 v15 v17 v19 v21 v23 v25 v26 v27 v32 v33 H _ _ hf
  · rw [if_neg h228] at hf
    refine g_aload O (pc' := 233) at_231 (v := v32) rfl rfl ?_
    refine g_iload O (pc' := 235) at_233 (v := v26) rfl rfl ?_
    refine g_iconst O (pc' := 236) at_235 (v := 2) (by decide) rfl ?_
    refine g_iadd O (pc' := 237) at_236 rfl ?_
    refine g_lload O (pc' := 239) at_237 (v := v17) rfl rfl ?_
    obtain ⟨H239, h239, hf⟩ := bnd hf
    refine g_lastore O (pc' := 240) at_239 h239 rfl ?_
    refine g_aload O (pc' := 242) at_240 (v := v33) rfl rfl ?_
    refine g_iload O (pc' := 244) at_242 (v := v27) rfl rfl ?_
    refine g_iconst O (pc' := 245) at_244 (v := 2) (by decide) rfl ?_
    refine g_iadd O (pc' := 246) at_245 rfl ?_
    refine g_lload O (pc' := 248) at_246 (v := v23) rfl rfl ?_
    obtain ⟨H248, h248, hf⟩ := bnd hf
    refine g_lastore O (pc' := 249) at_248 h248 rfl ?_
    exact m0_t249 O v13 v15 v17 v19 v21 v23 v25 v26 v27 v32 v33 H248 _ _ hf
def m0_b128 (v11 : Int64) (v13 : Int64) (v15 : Int64) (v17 : Int64) (v19 : Int64) (v21 : Int64) (v23 : Int64) (v25 : Int32) (v26 : Int32) (v27 : Int32) (t0 : Int64) (H : List Obj) : Option (Int32 × List Obj) :=
  (mkArr .long 4 H (4 : Int32)).bind fun H138 =>
  (wr .long H138 (H.length) (0 : Int32) (.long t0)).bind fun H144 =>
  (wr .long H144 (H.length) (1 : Int32) (.long t0)).bind fun H149 =>
  (wr .long H149 (H.length) (2 : Int32) (.long t0)).bind fun H154 =>
  (wr .long H154 (H.length) (3 : Int32) (.long t0)).bind fun H159 =>
  (mkArr .long 4 H159 (4 : Int32)).bind fun H163 =>
  (wr .long H163 (H159.length) (0 : Int32) (.long (v11 - t0))).bind fun H169 =>
  (wr .long H169 (H159.length) (1 : Int32) (.long (v11 - t0))).bind fun H174 =>
  (wr .long H174 (H159.length) (2 : Int32) (.long (v11 - t0))).bind fun H179 =>
  (wr .long H179 (H159.length) (3 : Int32) (.long (v11 - t0))).bind fun H184 =>
  (wr .long H184 (H.length) v26 (.long v13)).bind fun H193 =>
  (wr .long H193 (H159.length) v27 (.long v19)).bind fun H200 =>
  if v25 < (2 : Int32) then
    m0_b225 v13 v15 v17 v19 v21 v23 v25 v26 v27 (H.length) (H159.length) H200
  else
    (wr .long H200 (H.length) (v26 + (1 : Int32)) (.long v15)).bind fun H215 =>
    (wr .long H215 (H159.length) (v27 + (1 : Int32)) (.long v21)).bind fun H224 =>
    m0_b225 v13 v15 v17 v19 v21 v23 v25 v26 v27 (H.length) (H159.length) H224
theorem m0_t128 {G : Gx} {K : Kx} (O : Ok0 G K) (v11 : Int64) (v13 : Int64) (v15 : Int64) (v17 : Int64) (v19 : Int64) (v21 : Int64) (v23 : Int64) (v25 : Int32) (v26 : Int32) (v27 : Int32) (t0 : Int64) (H : List Obj) (r : Int32) (Hf : List Obj) (hf : m0_b128 v11 v13 v15 v17 v19 v21 v23 v25 v26 v27 t0 H = some (r, Hf)) : Run G K (some (.int r)) Hf 128 [none, none, none, none, none, none, none, none, none, none, none, some (.long v11), none, some (.long v13), none, some (.long v15), none, some (.long v17), none, some (.long v19), none, some (.long v21), none, some (.long v23), none, some (.int v25), some (.int v26), some (.int v27), none, none, none, none, none, none, none] [(.long t0)] H 0 0 := by
  unfold m0_b128 at hf
  refine g_lstore O (pc' := 130) at_128 (Ls' := [none, none, none, none, none, none, none, none, none, none, none, some (.long v11), none, some (.long v13), none, some (.long v15), none, some (.long v17), none, some (.long v19), none, some (.long v21), none, some (.long v23), none, some (.int v25), some (.int v26), some (.int v27), some (.long t0), none, none, none, none, none, none]) rfl rfl ?_
  refine g_lload O (pc' := 132) at_130 (v := v11) rfl rfl ?_
  refine g_lload O (pc' := 134) at_132 (v := t0) rfl rfl ?_
  refine g_lsub O (pc' := 135) at_134 rfl ?_
  refine g_lstore O (pc' := 137) at_135 (Ls' := [none, none, none, none, none, none, none, none, none, none, none, some (.long v11), none, some (.long v13), none, some (.long v15), none, some (.long v17), none, some (.long v19), none, some (.long v21), none, some (.long v23), none, some (.int v25), some (.int v26), some (.int v27), some (.long t0), none, some (.long (v11 - t0)), none, none, none, none]) rfl rfl ?_
  refine g_iconst O (pc' := 138) at_137 (v := 4) (by decide) rfl ?_
  obtain ⟨H138, h138, hf⟩ := bnd hf
  refine g_newarray O (pc' := 140) at_138 (cap := 4) tw1 h138 (by decide) (c2 := 1) (s2 := 4) rfl rfl (by decide) (by decide) rfl ?_
  refine g_dup O (pc' := 141) at_140 rfl rfl ?_
  refine g_iconst O (pc' := 142) at_141 (v := 0) (by decide) rfl ?_
  refine g_lload O (pc' := 144) at_142 (v := t0) rfl rfl ?_
  obtain ⟨H144, h144, hf⟩ := bnd hf
  refine g_lastore O (pc' := 145) at_144 h144 rfl ?_
  refine g_dup O (pc' := 146) at_145 rfl rfl ?_
  refine g_iconst O (pc' := 147) at_146 (v := 1) (by decide) rfl ?_
  refine g_lload O (pc' := 149) at_147 (v := t0) rfl rfl ?_
  obtain ⟨H149, h149, hf⟩ := bnd hf
  refine g_lastore O (pc' := 150) at_149 h149 rfl ?_
  refine g_dup O (pc' := 151) at_150 rfl rfl ?_
  refine g_iconst O (pc' := 152) at_151 (v := 2) (by decide) rfl ?_
  refine g_lload O (pc' := 154) at_152 (v := t0) rfl rfl ?_
  obtain ⟨H154, h154, hf⟩ := bnd hf
  refine g_lastore O (pc' := 155) at_154 h154 rfl ?_
  refine g_dup O (pc' := 156) at_155 rfl rfl ?_
  refine g_iconst O (pc' := 157) at_156 (v := 3) (by decide) rfl ?_
  refine g_lload O (pc' := 159) at_157 (v := t0) rfl rfl ?_
  obtain ⟨H159, h159, hf⟩ := bnd hf
  refine g_lastore O (pc' := 160) at_159 h159 rfl ?_
  refine g_astore O (pc' := 162) at_160 (Ls' := [none, none, none, none, none, none, none, none, none, none, none, some (.long v11), none, some (.long v13), none, some (.long v15), none, some (.long v17), none, some (.long v19), none, some (.long v21), none, some (.long v23), none, some (.int v25), some (.int v26), some (.int v27), some (.long t0), none, some (.long (v11 - t0)), none, some (.ref (H.length)), none, none]) rfl rfl ?_
  refine g_iconst O (pc' := 163) at_162 (v := 4) (by decide) rfl ?_
  obtain ⟨H163, h163, hf⟩ := bnd hf
  refine g_newarray O (pc' := 165) at_163 (cap := 4) tw1 h163 (by decide) (c2 := 2) (s2 := 8) rfl rfl (by decide) (by decide) rfl ?_
  refine g_dup O (pc' := 166) at_165 rfl rfl ?_
  refine g_iconst O (pc' := 167) at_166 (v := 0) (by decide) rfl ?_
  refine g_lload O (pc' := 169) at_167 (v := (v11 - t0)) rfl rfl ?_
  obtain ⟨H169, h169, hf⟩ := bnd hf
  refine g_lastore O (pc' := 170) at_169 h169 rfl ?_
  refine g_dup O (pc' := 171) at_170 rfl rfl ?_
  refine g_iconst O (pc' := 172) at_171 (v := 1) (by decide) rfl ?_
  refine g_lload O (pc' := 174) at_172 (v := (v11 - t0)) rfl rfl ?_
  obtain ⟨H174, h174, hf⟩ := bnd hf
  refine g_lastore O (pc' := 175) at_174 h174 rfl ?_
  refine g_dup O (pc' := 176) at_175 rfl rfl ?_
  refine g_iconst O (pc' := 177) at_176 (v := 2) (by decide) rfl ?_
  refine g_lload O (pc' := 179) at_177 (v := (v11 - t0)) rfl rfl ?_
  obtain ⟨H179, h179, hf⟩ := bnd hf
  refine g_lastore O (pc' := 180) at_179 h179 rfl ?_
  refine g_dup O (pc' := 181) at_180 rfl rfl ?_
  refine g_iconst O (pc' := 182) at_181 (v := 3) (by decide) rfl ?_
  refine g_lload O (pc' := 184) at_182 (v := (v11 - t0)) rfl rfl ?_
  obtain ⟨H184, h184, hf⟩ := bnd hf
  refine g_lastore O (pc' := 185) at_184 h184 rfl ?_
  refine g_astore O (pc' := 187) at_185 (Ls' := [none, none, none, none, none, none, none, none, none, none, none, some (.long v11), none, some (.long v13), none, some (.long v15), none, some (.long v17), none, some (.long v19), none, some (.long v21), none, some (.long v23), none, some (.int v25), some (.int v26), some (.int v27), some (.long t0), none, some (.long (v11 - t0)), none, some (.ref (H.length)), some (.ref (H159.length)), none]) rfl rfl ?_
  refine g_aload O (pc' := 189) at_187 (v := (H.length)) rfl rfl ?_
  refine g_iload O (pc' := 191) at_189 (v := v26) rfl rfl ?_
  refine g_lload O (pc' := 193) at_191 (v := v13) rfl rfl ?_
  obtain ⟨H193, h193, hf⟩ := bnd hf
  refine g_lastore O (pc' := 194) at_193 h193 rfl ?_
  refine g_aload O (pc' := 196) at_194 (v := (H159.length)) rfl rfl ?_
  refine g_iload O (pc' := 198) at_196 (v := v27) rfl rfl ?_
  refine g_lload O (pc' := 200) at_198 (v := v19) rfl rfl ?_
  obtain ⟨H200, h200, hf⟩ := bnd hf
  refine g_lastore O (pc' := 201) at_200 h200 rfl ?_
  refine g_iload O (pc' := 203) at_201 (v := v25) rfl rfl ?_
  refine g_iconst O (pc' := 204) at_203 (v := 2) (by decide) rfl ?_
  refine g_icmp_lt O (pc' := 207) at_204 rfl (by decide) (pc1 := 225) (by decide) (fun h204 => ?_) (fun h204 => ?_)
  · rw [if_pos h204] at hf
    refine g_forget (Ls' := [none, none, none, none, none, none, none, none, none, none, none, none, none, some (.long v13), none, some (.long v15), none, some (.long v17), none, some (.long v19), none, some (.long v21), none, some (.long v23), none, some (.int v25), some (.int v26), some (.int v27), none, none, none, none, some (.ref (H.length)), some (.ref (H159.length)), none]) (And.intro rfl (And.intro rfl (And.intro rfl (And.intro rfl (And.intro rfl (And.intro rfl (And.intro rfl (And.intro rfl (And.intro rfl (And.intro rfl (And.intro rfl trivial))))))))))) ?_
    exact m0_t225 O v13 v15 v17 v19 v21 v23 v25 v26 v27 (H.length) (H159.length) H200 _ _ hf
  · rw [if_neg h204] at hf
    refine g_aload O (pc' := 209) at_207 (v := (H.length)) rfl rfl ?_
    refine g_iload O (pc' := 211) at_209 (v := v26) rfl rfl ?_
    refine g_iconst O (pc' := 212) at_211 (v := 1) (by decide) rfl ?_
    refine g_iadd O (pc' := 213) at_212 rfl ?_
    refine g_lload O (pc' := 215) at_213 (v := v15) rfl rfl ?_
    obtain ⟨H215, h215, hf⟩ := bnd hf
    refine g_lastore O (pc' := 216) at_215 h215 rfl ?_
    refine g_aload O (pc' := 218) at_216 (v := (H159.length)) rfl rfl ?_
    refine g_iload O (pc' := 220) at_218 (v := v27) rfl rfl ?_
    refine g_iconst O (pc' := 221) at_220 (v := 1) (by decide) rfl ?_
    refine g_iadd O (pc' := 222) at_221 rfl ?_
    refine g_lload O (pc' := 224) at_222 (v := v21) rfl rfl ?_
    obtain ⟨H224, h224, hf⟩ := bnd hf
    refine g_lastore O (pc' := 225) at_224 h224 rfl ?_
    refine g_forget (Ls' := [none, none, none, none, none, none, none, none, none, none, none, none, none, some (.long v13), none, some (.long v15), none, some (.long v17), none, some (.long v19), none, some (.long v21), none, some (.long v23), none, some (.int v25), some (.int v26), some (.int v27), none, none, none, none, some (.ref (H.length)), some (.ref (H159.length)), none]) (And.intro rfl (And.intro rfl (And.intro rfl (And.intro rfl (And.intro rfl (And.intro rfl (And.intro rfl (And.intro rfl (And.intro rfl (And.intro rfl (And.intro rfl trivial))))))))))) ?_
    exact m0_t225 O v13 v15 v17 v19 v21 v23 v25 v26 v27 (H.length) (H159.length) H224 _ _ hf
def m0_b96 (v10 : Int32) (v11 : Int64) (v13 : Int64) (v15 : Int64) (v17 : Int64) (v19 : Int64) (v21 : Int64) (v23 : Int64) (v25 : Int32) (H : List Obj) : Option (Int32 × List Obj) :=
  if (v10 &&& (128 : Int32)) = 0 then
    m0_b128 v11 v13 v15 v17 v19 v21 v23 v25 ((XT.ushr v10 (5 : Int32)) &&& (1 : Int32)) ((XT.ushr v10 (6 : Int32)) &&& (1 : Int32)) (0 : Int64) H
  else
    m0_b128 v11 v13 v15 v17 v19 v21 v23 v25 ((XT.ushr v10 (5 : Int32)) &&& (1 : Int32)) ((XT.ushr v10 (6 : Int32)) &&& (1 : Int32)) v11 H
theorem m0_t96 {G : Gx} {K : Kx} (O : Ok0 G K) (v10 : Int32) (v11 : Int64) (v13 : Int64) (v15 : Int64) (v17 : Int64) (v19 : Int64) (v21 : Int64) (v23 : Int64) (v25 : Int32) (H : List Obj) (r : Int32) (Hf : List Obj) (hf : m0_b96 v10 v11 v13 v15 v17 v19 v21 v23 v25 H = some (r, Hf)) : Run G K (some (.int r)) Hf 96 [none, none, none, none, none, none, none, none, none, none, some (.int v10), some (.long v11), none, some (.long v13), none, some (.long v15), none, some (.long v17), none, some (.long v19), none, some (.long v21), none, some (.long v23), none, some (.int v25), none, none, none, none, none, none, none, none, none] [] H 0 0 := by
  unfold m0_b96 at hf
  refine g_iload O (pc' := 98) at_96 (v := v10) rfl rfl ?_
  refine g_iconst O (pc' := 99) at_98 (v := 5) (by decide) rfl ?_
  refine g_iushr O (pc' := 100) at_99 rfl ?_
  refine g_iconst O (pc' := 101) at_100 (v := 1) (by decide) rfl ?_
  refine g_iand O (pc' := 102) at_101 rfl ?_
  refine g_istore O (pc' := 104) at_102 (Ls' := [none, none, none, none, none, none, none, none, none, none, some (.int v10), some (.long v11), none, some (.long v13), none, some (.long v15), none, some (.long v17), none, some (.long v19), none, some (.long v21), none, some (.long v23), none, some (.int v25), some (.int ((XT.ushr v10 (5 : Int32)) &&& (1 : Int32))), none, none, none, none, none, none, none, none]) rfl rfl ?_
  refine g_iload O (pc' := 106) at_104 (v := v10) rfl rfl ?_
  refine g_bipush O (pc' := 108) at_106 (v := 6) (by decide) rfl ?_
  refine g_iushr O (pc' := 109) at_108 rfl ?_
  refine g_iconst O (pc' := 110) at_109 (v := 1) (by decide) rfl ?_
  refine g_iand O (pc' := 111) at_110 rfl ?_
  refine g_istore O (pc' := 113) at_111 (Ls' := [none, none, none, none, none, none, none, none, none, none, some (.int v10), some (.long v11), none, some (.long v13), none, some (.long v15), none, some (.long v17), none, some (.long v19), none, some (.long v21), none, some (.long v23), none, some (.int v25), some (.int ((XT.ushr v10 (5 : Int32)) &&& (1 : Int32))), some (.int ((XT.ushr v10 (6 : Int32)) &&& (1 : Int32))), none, none, none, none, none, none, none]) rfl rfl ?_
  refine g_iload O (pc' := 115) at_113 (v := v10) rfl rfl ?_
  refine g_sipush O (pc' := 118) at_115 (v := 128) (by decide) rfl ?_
  refine g_iand O (pc' := 119) at_118 rfl ?_
  refine g_if_eq O (pc' := 122) at_119 rfl (by decide) (pc1 := 127) (by decide) (fun h119 => ?_) (fun h119 => ?_)
  · rw [if_pos h119] at hf
    refine g_lconst O (pc' := 128) at_127 (v := 0) (by decide) rfl ?_
    refine g_forget (Ls' := [none, none, none, none, none, none, none, none, none, none, none, some (.long v11), none, some (.long v13), none, some (.long v15), none, some (.long v17), none, some (.long v19), none, some (.long v21), none, some (.long v23), none, some (.int v25), some (.int ((XT.ushr v10 (5 : Int32)) &&& (1 : Int32))), some (.int ((XT.ushr v10 (6 : Int32)) &&& (1 : Int32))), none, none, none, none, none, none, none]) (And.intro rfl (And.intro rfl (And.intro rfl (And.intro rfl (And.intro rfl (And.intro rfl (And.intro rfl (And.intro rfl (And.intro rfl (And.intro rfl trivial)))))))))) ?_
    exact m0_t128 O v11 v13 v15 v17 v19 v21 v23 v25 ((XT.ushr v10 (5 : Int32)) &&& (1 : Int32)) ((XT.ushr v10 (6 : Int32)) &&& (1 : Int32)) (0 : Int64) H _ _ hf
  · rw [if_neg h119] at hf
    refine g_lload O (pc' := 124) at_122 (v := v11) rfl rfl ?_
    refine g_goto O at_124 (by decide) (pc' := 128) (by decide) ?_
    refine g_forget (Ls' := [none, none, none, none, none, none, none, none, none, none, none, some (.long v11), none, some (.long v13), none, some (.long v15), none, some (.long v17), none, some (.long v19), none, some (.long v21), none, some (.long v23), none, some (.int v25), some (.int ((XT.ushr v10 (5 : Int32)) &&& (1 : Int32))), some (.int ((XT.ushr v10 (6 : Int32)) &&& (1 : Int32))), none, none, none, none, none, none, none]) (And.intro rfl (And.intro rfl (And.intro rfl (And.intro rfl (And.intro rfl (And.intro rfl (And.intro rfl (And.intro rfl (And.intro rfl (And.intro rfl trivial)))))))))) ?_
    exact m0_t128 O v11 v13 v15 v17 v19 v21 v23 v25 ((XT.ushr v10 (5 : Int32)) &&& (1 : Int32)) ((XT.ushr v10 (6 : Int32)) &&& (1 : Int32)) v11 H _ _ hf
def m0_b82 (v10 : Int32) (v11 : Int64) (v13 : Int64) (v15 : Int64) (v17 : Int64) (v19 : Int64) (v21 : Int64) (t0 : Int64) (H : List Obj) : Option (Int32 × List Obj) :=
  m0_b96 v10 v11 v13 v15 v17 v19 v21 t0 ((1 : Int32) + (((XT.ushr v10 (3 : Int32)) &&& (3 : Int32)) % (3 : Int32))) H
theorem m0_t82 {G : Gx} {K : Kx} (O : Ok0 G K) (v10 : Int32) (v11 : Int64) (v13 : Int64) (v15 : Int64) (v17 : Int64) (v19 : Int64) (v21 : Int64) (t0 : Int64) (H : List Obj) (r : Int32) (Hf : List Obj) (hf : m0_b82 v10 v11 v13 v15 v17 v19 v21 t0 H = some (r, Hf)) : Run G K (some (.int r)) Hf 82 [none, none, none, none, none, none, none, none, none, none, some (.int v10), some (.long v11), none, some (.long v13), none, some (.long v15), none, some (.long v17), none, some (.long v19), none, some (.long v21), none, none, none, none, none, none, none, none, none, none, none, none, none] [(.long t0)] H 0 0 := by
  unfold m0_b82 at hf
  refine g_lstore O (pc' := 84) at_82 (Ls' := [none, none, none, none, none, none, none, none, none, none, some (.int v10), some (.long v11), none, some (.long v13), none, some (.long v15), none, some (.long v17), none, some (.long v19), none, some (.long v21), none, some (.long t0), none, none, none, none, none, none, none, none, none, none, none]) rfl rfl ?_
  refine g_iconst O (pc' := 85) at_84 (v := 1) (by decide) rfl ?_
  refine g_iload O (pc' := 87) at_85 (v := v10) rfl rfl ?_
  refine g_iconst O (pc' := 88) at_87 (v := 3) (by decide) rfl ?_
  refine g_iushr O (pc' := 89) at_88 rfl ?_
  refine g_iconst O (pc' := 90) at_89 (v := 3) (by decide) rfl ?_
  refine g_iand O (pc' := 91) at_90 rfl ?_
  refine g_iconst O (pc' := 92) at_91 (v := 3) (by decide) rfl ?_
  refine g_irem O (pc' := 93) at_92 (by decide) rfl ?_
  refine g_iadd O (pc' := 94) at_93 rfl ?_
  refine g_istore O (pc' := 96) at_94 (Ls' := [none, none, none, none, none, none, none, none, none, none, some (.int v10), some (.long v11), none, some (.long v13), none, some (.long v15), none, some (.long v17), none, some (.long v19), none, some (.long v21), none, some (.long t0), none, some (.int ((1 : Int32) + (((XT.ushr v10 (3 : Int32)) &&& (3 : Int32)) % (3 : Int32)))), none, none, none, none, none, none, none, none, none]) rfl rfl ?_
  exact m0_t96 O v10 v11 v13 v15 v17 v19 v21 t0 ((1 : Int32) + (((XT.ushr v10 (3 : Int32)) &&& (3 : Int32)) % (3 : Int32))) H _ _ hf
def m0_b60 (v6 : Int64) (v8 : Int64) (v10 : Int32) (v11 : Int64) (v13 : Int64) (v15 : Int64) (v17 : Int64) (v19 : Int64) (t0 : Int64) (H : List Obj) : Option (Int32 × List Obj) :=
  if (v10 &&& (4 : Int32)) = 0 then
    m0_b82 v10 v11 v13 v15 v17 v19 t0 ((v6 + v8) &&& v11) H
  else
    m0_b82 v10 v11 v13 v15 v17 v19 t0 v17 H
theorem m0_t60 {G : Gx} {K : Kx} (O : Ok0 G K) (v6 : Int64) (v8 : Int64) (v10 : Int32) (v11 : Int64) (v13 : Int64) (v15 : Int64) (v17 : Int64) (v19 : Int64) (t0 : Int64) (H : List Obj) (r : Int32) (Hf : List Obj) (hf : m0_b60 v6 v8 v10 v11 v13 v15 v17 v19 t0 H = some (r, Hf)) : Run G K (some (.int r)) Hf 60 [none, none, none, none, none, none, some (.long v6), none, some (.long v8), none, some (.int v10), some (.long v11), none, some (.long v13), none, some (.long v15), none, some (.long v17), none, some (.long v19), none, none, none, none, none, none, none, none, none, none, none, none, none, none, none] [(.long t0)] H 0 0 := by
  unfold m0_b60 at hf
  refine g_lstore O (pc' := 62) at_60 (Ls' := [none, none, none, none, none, none, some (.long v6), none, some (.long v8), none, some (.int v10), some (.long v11), none, some (.long v13), none, some (.long v15), none, some (.long v17), none, some (.long v19), none, some (.long t0), none, none, none, none, none, none, none, none, none, none, none, none, none]) rfl rfl ?_
  refine g_iload O (pc' := 64) at_62 (v := v10) rfl rfl ?_
  refine g_iconst O (pc' := 65) at_64 (v := 4) (by decide) rfl ?_
  refine g_iand O (pc' := 66) at_65 rfl ?_
  refine g_if_eq O (pc' := 69) at_66 rfl (by decide) (pc1 := 74) (by decide) (fun h66 => ?_) (fun h66 => ?_)
  · rw [if_pos h66] at hf
    refine g_lload O (pc' := 76) at_74 (v := v6) rfl rfl ?_
    refine g_lload O (pc' := 78) at_76 (v := v8) rfl rfl ?_
    refine g_ladd O (pc' := 79) at_78 rfl ?_
    refine g_lload O (pc' := 81) at_79 (v := v11) rfl rfl ?_
    refine g_land O (pc' := 82) at_81 rfl ?_
    refine g_forget (Ls' := [none, none, none, none, none, none, none, none, none, none, some (.int v10), some (.long v11), none, some (.long v13), none, some (.long v15), none, some (.long v17), none, some (.long v19), none, some (.long t0), none, none, none, none, none, none, none, none, none, none, none, none, none]) (And.intro rfl (And.intro rfl (And.intro rfl (And.intro rfl (And.intro rfl (And.intro rfl (And.intro rfl trivial))))))) ?_
    exact m0_t82 O v10 v11 v13 v15 v17 v19 t0 ((v6 + v8) &&& v11) H _ _ hf
  · rw [if_neg h66] at hf
    refine g_lload O (pc' := 71) at_69 (v := v17) rfl rfl ?_
    refine g_goto O at_71 (by decide) (pc' := 82) (by decide) ?_
    refine g_forget (Ls' := [none, none, none, none, none, none, none, none, none, none, some (.int v10), some (.long v11), none, some (.long v13), none, some (.long v15), none, some (.long v17), none, some (.long v19), none, some (.long t0), none, none, none, none, none, none, none, none, none, none, none, none, none]) (And.intro rfl (And.intro rfl (And.intro rfl (And.intro rfl (And.intro rfl (And.intro rfl (And.intro rfl trivial))))))) ?_
    exact m0_t82 O v10 v11 v13 v15 v17 v19 t0 v17 H _ _ hf
def m0_b41 (v6 : Int64) (v8 : Int64) (v10 : Int32) (v11 : Int64) (v13 : Int64) (v15 : Int64) (v17 : Int64) (t0 : Int64) (H : List Obj) : Option (Int32 × List Obj) :=
  if (v10 &&& (2 : Int32)) = 0 then
    m0_b60 v6 v8 v10 v11 v13 v15 v17 t0 (v8 &&& v11) H
  else
    m0_b60 v6 v8 v10 v11 v13 v15 v17 t0 v15 H
theorem m0_t41 {G : Gx} {K : Kx} (O : Ok0 G K) (v6 : Int64) (v8 : Int64) (v10 : Int32) (v11 : Int64) (v13 : Int64) (v15 : Int64) (v17 : Int64) (t0 : Int64) (H : List Obj) (r : Int32) (Hf : List Obj) (hf : m0_b41 v6 v8 v10 v11 v13 v15 v17 t0 H = some (r, Hf)) : Run G K (some (.int r)) Hf 41 [none, none, none, none, none, none, some (.long v6), none, some (.long v8), none, some (.int v10), some (.long v11), none, some (.long v13), none, some (.long v15), none, some (.long v17), none, none, none, none, none, none, none, none, none, none, none, none, none, none, none, none, none] [(.long t0)] H 0 0 := by
  unfold m0_b41 at hf
  refine g_lstore O (pc' := 43) at_41 (Ls' := [none, none, none, none, none, none, some (.long v6), none, some (.long v8), none, some (.int v10), some (.long v11), none, some (.long v13), none, some (.long v15), none, some (.long v17), none, some (.long t0), none, none, none, none, none, none, none, none, none, none, none, none, none, none, none]) rfl rfl ?_
  refine g_iload O (pc' := 45) at_43 (v := v10) rfl rfl ?_
  refine g_iconst O (pc' := 46) at_45 (v := 2) (by decide) rfl ?_
  refine g_iand O (pc' := 47) at_46 rfl ?_
  refine g_if_eq O (pc' := 50) at_47 rfl (by decide) (pc1 := 55) (by decide) (fun h47 => ?_) (fun h47 => ?_)
  · rw [if_pos h47] at hf
    refine g_lload O (pc' := 57) at_55 (v := v8) rfl rfl ?_
    refine g_lload O (pc' := 59) at_57 (v := v11) rfl rfl ?_
    refine g_land O (pc' := 60) at_59 rfl ?_
    exact m0_t60 O v6 v8 v10 v11 v13 v15 v17 t0 (v8 &&& v11) H _ _ hf
  · rw [if_neg h47] at hf
    refine g_lload O (pc' := 52) at_50 (v := v15) rfl rfl ?_
    refine g_goto O at_52 (by decide) (pc' := 60) (by decide) ?_
    exact m0_t60 O v6 v8 v10 v11 v13 v15 v17 t0 v15 H _ _ hf
def m0_b0 (v0 : Int64) (v2 : Int64) (v4 : Int64) (v6 : Int64) (v8 : Int64) (v10 : Int32) (H : List Obj) : Option (Int32 × List Obj) :=
  if (v10 &&& (1 : Int32)) = 0 then
    m0_b41 v6 v8 v10 (9223372036854775807 : Int64) (v0 &&& (9223372036854775807 : Int64)) (v2 &&& (9223372036854775807 : Int64)) (v4 &&& (9223372036854775807 : Int64)) (v6 &&& (9223372036854775807 : Int64)) H
  else
    m0_b41 v6 v8 v10 (9223372036854775807 : Int64) (v0 &&& (9223372036854775807 : Int64)) (v2 &&& (9223372036854775807 : Int64)) (v4 &&& (9223372036854775807 : Int64)) (v0 &&& (9223372036854775807 : Int64)) H
theorem m0_t0 {G : Gx} {K : Kx} (O : Ok0 G K) (v0 : Int64) (v2 : Int64) (v4 : Int64) (v6 : Int64) (v8 : Int64) (v10 : Int32) (H : List Obj) (r : Int32) (Hf : List Obj) (hf : m0_b0 v0 v2 v4 v6 v8 v10 H = some (r, Hf)) : Run G K (some (.int r)) Hf 0 [some (.long v0), none, some (.long v2), none, some (.long v4), none, some (.long v6), none, some (.long v8), none, some (.int v10), none, none, none, none, none, none, none, none, none, none, none, none, none, none, none, none, none, none, none, none, none, none, none, none] [] H 0 0 := by
  unfold m0_b0 at hf
  refine g_ldc2 O (pc' := 3) at_0 tw0 rfl ?_
  refine g_lstore O (pc' := 5) at_3 (Ls' := [some (.long v0), none, some (.long v2), none, some (.long v4), none, some (.long v6), none, some (.long v8), none, some (.int v10), some (.long (9223372036854775807 : Int64)), none, none, none, none, none, none, none, none, none, none, none, none, none, none, none, none, none, none, none, none, none, none, none]) rfl rfl ?_
  refine g_lload_n O (pc' := 6) at_5 (v := v0) rfl rfl ?_
  refine g_lload O (pc' := 8) at_6 (v := (9223372036854775807 : Int64)) rfl rfl ?_
  refine g_land O (pc' := 9) at_8 rfl ?_
  refine g_lstore O (pc' := 11) at_9 (Ls' := [some (.long v0), none, some (.long v2), none, some (.long v4), none, some (.long v6), none, some (.long v8), none, some (.int v10), some (.long (9223372036854775807 : Int64)), none, some (.long (v0 &&& (9223372036854775807 : Int64))), none, none, none, none, none, none, none, none, none, none, none, none, none, none, none, none, none, none, none, none, none]) rfl rfl ?_
  refine g_lload_n O (pc' := 12) at_11 (v := v2) rfl rfl ?_
  refine g_lload O (pc' := 14) at_12 (v := (9223372036854775807 : Int64)) rfl rfl ?_
  refine g_land O (pc' := 15) at_14 rfl ?_
  refine g_lstore O (pc' := 17) at_15 (Ls' := [some (.long v0), none, some (.long v2), none, some (.long v4), none, some (.long v6), none, some (.long v8), none, some (.int v10), some (.long (9223372036854775807 : Int64)), none, some (.long (v0 &&& (9223372036854775807 : Int64))), none, some (.long (v2 &&& (9223372036854775807 : Int64))), none, none, none, none, none, none, none, none, none, none, none, none, none, none, none, none, none, none, none]) rfl rfl ?_
  refine g_lload O (pc' := 19) at_17 (v := v4) rfl rfl ?_
  refine g_lload O (pc' := 21) at_19 (v := (9223372036854775807 : Int64)) rfl rfl ?_
  refine g_land O (pc' := 22) at_21 rfl ?_
  refine g_lstore O (pc' := 24) at_22 (Ls' := [some (.long v0), none, some (.long v2), none, some (.long v4), none, some (.long v6), none, some (.long v8), none, some (.int v10), some (.long (9223372036854775807 : Int64)), none, some (.long (v0 &&& (9223372036854775807 : Int64))), none, some (.long (v2 &&& (9223372036854775807 : Int64))), none, some (.long (v4 &&& (9223372036854775807 : Int64))), none, none, none, none, none, none, none, none, none, none, none, none, none, none, none, none, none]) rfl rfl ?_
  refine g_iload O (pc' := 26) at_24 (v := v10) rfl rfl ?_
  refine g_iconst O (pc' := 27) at_26 (v := 1) (by decide) rfl ?_
  refine g_iand O (pc' := 28) at_27 rfl ?_
  refine g_if_eq O (pc' := 31) at_28 rfl (by decide) (pc1 := 36) (by decide) (fun h28 => ?_) (fun h28 => ?_)
  · rw [if_pos h28] at hf
    refine g_lload O (pc' := 38) at_36 (v := v6) rfl rfl ?_
    refine g_lload O (pc' := 40) at_38 (v := (9223372036854775807 : Int64)) rfl rfl ?_
    refine g_land O (pc' := 41) at_40 rfl ?_
    refine g_forget (Ls' := [none, none, none, none, none, none, some (.long v6), none, some (.long v8), none, some (.int v10), some (.long (9223372036854775807 : Int64)), none, some (.long (v0 &&& (9223372036854775807 : Int64))), none, some (.long (v2 &&& (9223372036854775807 : Int64))), none, some (.long (v4 &&& (9223372036854775807 : Int64))), none, none, none, none, none, none, none, none, none, none, none, none, none, none, none, none, none]) (And.intro rfl (And.intro rfl (And.intro rfl (And.intro rfl (And.intro rfl (And.intro rfl (And.intro rfl trivial))))))) ?_
    exact m0_t41 O v6 v8 v10 (9223372036854775807 : Int64) (v0 &&& (9223372036854775807 : Int64)) (v2 &&& (9223372036854775807 : Int64)) (v4 &&& (9223372036854775807 : Int64)) (v6 &&& (9223372036854775807 : Int64)) H _ _ hf
  · rw [if_neg h28] at hf
    refine g_lload O (pc' := 33) at_31 (v := (v0 &&& (9223372036854775807 : Int64))) rfl rfl ?_
    refine g_goto O at_33 (by decide) (pc' := 41) (by decide) ?_
    refine g_forget (Ls' := [none, none, none, none, none, none, some (.long v6), none, some (.long v8), none, some (.int v10), some (.long (9223372036854775807 : Int64)), none, some (.long (v0 &&& (9223372036854775807 : Int64))), none, some (.long (v2 &&& (9223372036854775807 : Int64))), none, some (.long (v4 &&& (9223372036854775807 : Int64))), none, none, none, none, none, none, none, none, none, none, none, none, none, none, none, none, none]) (And.intro rfl (And.intro rfl (And.intro rfl (And.intro rfl (And.intro rfl (And.intro rfl (And.intro rfl trivial))))))) ?_
    exact m0_t41 O v6 v8 v10 (9223372036854775807 : Int64) (v0 &&& (9223372036854775807 : Int64)) (v2 &&& (9223372036854775807 : Int64)) (v4 &&& (9223372036854775807 : Int64)) (v0 &&& (9223372036854775807 : Int64)) H _ _ hf
abbrev m0 (v0 : Int64) (v2 : Int64) (v4 : Int64) (v6 : Int64) (v8 : Int64) (v10 : Int32) (H : List Obj) : Option (Int32 × List Obj) := m0_b0 v0 v2 v4 v6 v8 v10 H

theorem own_b1 (x : Int32) : x &&& 1 = 0 ∨ x &&& 1 = 1 := and_one x
theorem own_k (x : Int32) : (1 : Int32) + ((x &&& 3) % 3) = 1 ∨ (1 : Int32) + ((x &&& 3) % 3) = 2 ∨ (1 : Int32) + ((x &&& 3) % 3) = 3 := by
  have h1 : (x &&& 3).toInt = x.toInt % 4 := c_mask x 3 2 (by decide) (by decide)
  obtain ⟨j, hj⟩ := own_fin (r := x &&& 3) (N := 4) (by omega) (by omega) (by decide)
  rw [hj]
  have : ∀ j : Fin 4, (1 : Int32) + ((j.1).toInt32 % 3) = 1 ∨ (1 : Int32) + ((j.1).toInt32 % 3) = 2 ∨ (1 : Int32) + ((j.1).toInt32 % 3) = 3 := by decide +kernel
  exact this j
abbrev A4 (a b c d : Int64) : Obj := .inl (.long, [.long a, .long b, .long c, .long d])
theorem own_249 (a0 a1 a2 b0 b1 b2 : Int64) (k p q : Int32) (H : List Obj) (h3 : k = 3 → m1 0 p 1 q k H = some (if a2 = b2 then if a1 = b1 then if a0 < b0 then 1 else 0 else if a1 < b1 then 1 else 0 else if a2 < b2 then 1 else 0, H))
    (h2 : k = 2 → m1 0 p 1 q k H = some (if a1 = b1 then if a0 < b0 then 1 else 0 else if a1 < b1 then 1 else 0, H)) (h1 : k = 1 → m1 0 p 1 q k H = some (if a0 < b0 then 1 else 0, H)) (hk : k = 1 ∨ k = 2 ∨ k = 3) : m0_b249 a0 a1 a2 b0 b1 b2 k p q 0 1 H = some (1, H) := by
  have e : ∀ t : Int32, m1 0 p 1 q k H = some (t, H) → m0_b328 k p q 0 1 t H = some (1, H) := fun t ht => by
    unfold m0_b328; rw [ht, Option.bind_some]; dsimp only; rw [if_pos rfl]; rfl
  unfold m0_b249 m0_b281 m0_b313 m0_b326 m0_b308 m0_b276
  rcases hk with rfl | rfl | rfl
  · rw [if_neg (by decide), if_pos (by decide)]
    have h := h1 rfl
    split <;> rename_i g
    · rw [if_pos g] at h; exact e _ h
    · rw [if_neg g] at h; exact e _ h
  · rw [if_neg (by decide), if_neg (by decide)]
    have h := h2 rfl
    by_cases g1 : a1 = b1
    · rw [if_pos g1] at h ⊢
      split <;> rename_i g
      · rw [if_pos g] at h; exact e _ h
      · rw [if_neg g] at h; exact e _ h
    · rw [if_neg g1] at h ⊢
      split <;> rename_i g
      · rw [if_pos g] at h; exact e _ h
      · rw [if_neg g] at h; exact e _ h
  · rw [if_pos rfl]
    have h := h3 rfl
    by_cases g2 : a2 = b2
    · rw [if_pos g2] at h ⊢
      rw [if_neg (by decide)]
      by_cases g1 : a1 = b1
      · rw [if_pos g1] at h ⊢
        split <;> rename_i g
        · rw [if_pos g] at h; exact e _ h
        · rw [if_neg g] at h; exact e _ h
      · rw [if_neg g1] at h ⊢
        split <;> rename_i g
        · rw [if_pos g] at h; exact e _ h
        · rw [if_neg g] at h; exact e _ h
    · rw [if_neg g2] at h ⊢
      split <;> rename_i g
      · rw [if_pos g] at h; exact e _ h
      · rw [if_neg g] at h; exact e _ h
theorem own_s1 {p q : Int32} {H : List Obj} {x0 y0 : Int64} (e0 : rdJ H 0 p = some x0) (f0 : rdJ H 1 q = some y0) : m1 0 p 1 q 1 H = some (if x0 < y0 then 1 else 0, H) := by
  show m1_b6 8 0 p 1 q ((1 : Int32) - 1) H = _
  rw [show ((1 : Int32) - 1) = 0 from by decide, m1_b6, if_neg (by decide), e0, Option.bind_some, f0, Option.bind_some]
  split <;> rfl
theorem own_step {n : Nat} {p q : Int32} {H : List Obj} {v w : Int32} {x0 y0 : Int64} (hv : 0 < v) (hw : v + -1 = w) (e0 : rdJ H 0 (p + v) = some x0) (f0 : rdJ H 1 (q + v) = some y0) : m1_b6 (n + 1) 0 p 1 q v H = if x0 = y0 then m1_b6 n 0 p 1 q w H else some (if x0 < y0 then 1 else 0, H) := by
  rw [m1_b6, if_pos hv, e0, Option.bind_some, f0, Option.bind_some, hw]
  split
  · rfl
  · split <;> rfl
theorem own_s2 {p q : Int32} {H : List Obj} {x0 y0 x1 y1 : Int64} (e0 : rdJ H 0 p = some x0) (f0 : rdJ H 1 q = some y0) (e1 : rdJ H 0 (p + 1) = some x1) (f1 : rdJ H 1 (q + 1) = some y1) : m1 0 p 1 q 2 H = some (if x1 = y1 then if x0 < y0 then 1 else 0 else if x1 < y1 then 1 else 0, H) := by
  show m1_b6 8 0 p 1 q ((2 : Int32) - 1) H = _
  rw [show ((2 : Int32) - 1) = 1 from by decide, own_step (w := 0) (by decide) (by decide) e1 f1]
  split
  · rw [m1_b6, if_neg (by decide), e0, Option.bind_some, f0, Option.bind_some]
    split <;> rfl
  · rfl
theorem own_s3 {p q : Int32} {H : List Obj} {x0 y0 x1 y1 x2 y2 : Int64} (e0 : rdJ H 0 p = some x0) (f0 : rdJ H 1 q = some y0) (e1 : rdJ H 0 (p + 1) = some x1) (f1 : rdJ H 1 (q + 1) = some y1) (e2 : rdJ H 0 (p + 2) = some x2) (f2 : rdJ H 1 (q + 2) = some y2) : m1 0 p 1 q 3 H = some (if x2 = y2 then if x1 = y1 then if x0 < y0 then 1 else 0 else if x1 < y1 then 1 else 0 else if x2 < y2 then 1 else 0, H) := by
  show m1_b6 8 0 p 1 q ((3 : Int32) - 1) H = _
  rw [show ((3 : Int32) - 1) = 2 from by decide, own_step (w := 1) (by decide) (by decide) e2 f2]
  split
  · rw [own_step (w := 0) (by decide) (by decide) e1 f1]
    split
    · rw [m1_b6, if_neg (by decide), e0, Option.bind_some, f0, Option.bind_some]
      split <;> rfl
    · rfl
  · rfl
theorem own_128 (m a0 a1 a2 b0 b1 b2 f : Int64) (k p q : Int32) (hk : k = 1 ∨ k = 2 ∨ k = 3) (hp : p = 0 ∨ p = 1) (hq : q = 0 ∨ q = 1) : ∃ Hf, m0_b128 m a0 a1 a2 b0 b1 b2 k p q f [] = some (1, Hf) := by
  rcases hk with rfl | rfl | rfl <;> rcases hp with rfl | rfl <;> rcases hq with rfl | rfl
  · have e : m0_b128 m a0 a1 a2 b0 b1 b2 1 0 0 f [] = m0_b249 a0 a1 a2 b0 b1 b2 1 0 0 0 1 [A4 a0 f f f, A4 b0 (m - f) (m - f) (m - f)] := by simp [m0_b128, m0_b225, mkArr, wr, arr]
    exact ⟨_, e.trans (own_249 a0 a1 a2 b0 b1 b2 1 0 0 [A4 a0 f f f, A4 b0 (m - f) (m - f) (m - f)] (fun h => absurd h (by decide)) (fun h => absurd h (by decide)) (fun _ => own_s1 rfl rfl) (by decide))⟩
  · have e : m0_b128 m a0 a1 a2 b0 b1 b2 1 0 1 f [] = m0_b249 a0 a1 a2 b0 b1 b2 1 0 1 0 1 [A4 a0 f f f, A4 (m - f) b0 (m - f) (m - f)] := by simp [m0_b128, m0_b225, mkArr, wr, arr]
    exact ⟨_, e.trans (own_249 a0 a1 a2 b0 b1 b2 1 0 1 [A4 a0 f f f, A4 (m - f) b0 (m - f) (m - f)] (fun h => absurd h (by decide)) (fun h => absurd h (by decide)) (fun _ => own_s1 rfl rfl) (by decide))⟩
  · have e : m0_b128 m a0 a1 a2 b0 b1 b2 1 1 0 f [] = m0_b249 a0 a1 a2 b0 b1 b2 1 1 0 0 1 [A4 f a0 f f, A4 b0 (m - f) (m - f) (m - f)] := by simp [m0_b128, m0_b225, mkArr, wr, arr]
    exact ⟨_, e.trans (own_249 a0 a1 a2 b0 b1 b2 1 1 0 [A4 f a0 f f, A4 b0 (m - f) (m - f) (m - f)] (fun h => absurd h (by decide)) (fun h => absurd h (by decide)) (fun _ => own_s1 rfl rfl) (by decide))⟩
  · have e : m0_b128 m a0 a1 a2 b0 b1 b2 1 1 1 f [] = m0_b249 a0 a1 a2 b0 b1 b2 1 1 1 0 1 [A4 f a0 f f, A4 (m - f) b0 (m - f) (m - f)] := by simp [m0_b128, m0_b225, mkArr, wr, arr]
    exact ⟨_, e.trans (own_249 a0 a1 a2 b0 b1 b2 1 1 1 [A4 f a0 f f, A4 (m - f) b0 (m - f) (m - f)] (fun h => absurd h (by decide)) (fun h => absurd h (by decide)) (fun _ => own_s1 rfl rfl) (by decide))⟩
  · have e : m0_b128 m a0 a1 a2 b0 b1 b2 2 0 0 f [] = m0_b249 a0 a1 a2 b0 b1 b2 2 0 0 0 1 [A4 a0 a1 f f, A4 b0 b1 (m - f) (m - f)] := by simp [m0_b128, m0_b225, mkArr, wr, arr]
    exact ⟨_, e.trans (own_249 a0 a1 a2 b0 b1 b2 2 0 0 [A4 a0 a1 f f, A4 b0 b1 (m - f) (m - f)] (fun h => absurd h (by decide)) (fun _ => own_s2 rfl rfl rfl rfl) (fun h => absurd h (by decide)) (by decide))⟩
  · have e : m0_b128 m a0 a1 a2 b0 b1 b2 2 0 1 f [] = m0_b249 a0 a1 a2 b0 b1 b2 2 0 1 0 1 [A4 a0 a1 f f, A4 (m - f) b0 b1 (m - f)] := by simp [m0_b128, m0_b225, mkArr, wr, arr]
    exact ⟨_, e.trans (own_249 a0 a1 a2 b0 b1 b2 2 0 1 [A4 a0 a1 f f, A4 (m - f) b0 b1 (m - f)] (fun h => absurd h (by decide)) (fun _ => own_s2 rfl rfl rfl rfl) (fun h => absurd h (by decide)) (by decide))⟩
  · have e : m0_b128 m a0 a1 a2 b0 b1 b2 2 1 0 f [] = m0_b249 a0 a1 a2 b0 b1 b2 2 1 0 0 1 [A4 f a0 a1 f, A4 b0 b1 (m - f) (m - f)] := by simp [m0_b128, m0_b225, mkArr, wr, arr]
    exact ⟨_, e.trans (own_249 a0 a1 a2 b0 b1 b2 2 1 0 [A4 f a0 a1 f, A4 b0 b1 (m - f) (m - f)] (fun h => absurd h (by decide)) (fun _ => own_s2 rfl rfl rfl rfl) (fun h => absurd h (by decide)) (by decide))⟩
  · have e : m0_b128 m a0 a1 a2 b0 b1 b2 2 1 1 f [] = m0_b249 a0 a1 a2 b0 b1 b2 2 1 1 0 1 [A4 f a0 a1 f, A4 (m - f) b0 b1 (m - f)] := by simp [m0_b128, m0_b225, mkArr, wr, arr]
    exact ⟨_, e.trans (own_249 a0 a1 a2 b0 b1 b2 2 1 1 [A4 f a0 a1 f, A4 (m - f) b0 b1 (m - f)] (fun h => absurd h (by decide)) (fun _ => own_s2 rfl rfl rfl rfl) (fun h => absurd h (by decide)) (by decide))⟩
  · have e : m0_b128 m a0 a1 a2 b0 b1 b2 3 0 0 f [] = m0_b249 a0 a1 a2 b0 b1 b2 3 0 0 0 1 [A4 a0 a1 a2 f, A4 b0 b1 b2 (m - f)] := by simp [m0_b128, m0_b225, mkArr, wr, arr]
    exact ⟨_, e.trans (own_249 a0 a1 a2 b0 b1 b2 3 0 0 [A4 a0 a1 a2 f, A4 b0 b1 b2 (m - f)] (fun _ => own_s3 rfl rfl rfl rfl rfl rfl) (fun h => absurd h (by decide)) (fun h => absurd h (by decide)) (by decide))⟩
  · have e : m0_b128 m a0 a1 a2 b0 b1 b2 3 0 1 f [] = m0_b249 a0 a1 a2 b0 b1 b2 3 0 1 0 1 [A4 a0 a1 a2 f, A4 (m - f) b0 b1 b2] := by simp [m0_b128, m0_b225, mkArr, wr, arr]
    exact ⟨_, e.trans (own_249 a0 a1 a2 b0 b1 b2 3 0 1 [A4 a0 a1 a2 f, A4 (m - f) b0 b1 b2] (fun _ => own_s3 rfl rfl rfl rfl rfl rfl) (fun h => absurd h (by decide)) (fun h => absurd h (by decide)) (by decide))⟩
  · have e : m0_b128 m a0 a1 a2 b0 b1 b2 3 1 0 f [] = m0_b249 a0 a1 a2 b0 b1 b2 3 1 0 0 1 [A4 f a0 a1 a2, A4 b0 b1 b2 (m - f)] := by simp [m0_b128, m0_b225, mkArr, wr, arr]
    exact ⟨_, e.trans (own_249 a0 a1 a2 b0 b1 b2 3 1 0 [A4 f a0 a1 a2, A4 b0 b1 b2 (m - f)] (fun _ => own_s3 rfl rfl rfl rfl rfl rfl) (fun h => absurd h (by decide)) (fun h => absurd h (by decide)) (by decide))⟩
  · have e : m0_b128 m a0 a1 a2 b0 b1 b2 3 1 1 f [] = m0_b249 a0 a1 a2 b0 b1 b2 3 1 1 0 1 [A4 f a0 a1 a2, A4 (m - f) b0 b1 b2] := by simp [m0_b128, m0_b225, mkArr, wr, arr]
    exact ⟨_, e.trans (own_249 a0 a1 a2 b0 b1 b2 3 1 1 [A4 f a0 a1 a2, A4 (m - f) b0 b1 b2] (fun _ => own_s3 rfl rfl rfl rfl rfl rfl) (fun h => absurd h (by decide)) (fun h => absurd h (by decide)) (by decide))⟩
theorem plain (i0 : Int64) (i1 : Int64) (i2 : Int64) (i3 : Int64) (i4 : Int64) (i5 : Int32) : ∃ Hf, m0 i0 i1 i2 i3 i4 i5 [] = some (1, Hf) := by
  show ∃ Hf, m0_b0 i0 i1 i2 i3 i4 i5 [] = some (1, Hf)
  unfold m0_b0 m0_b41 m0_b60 m0_b82 m0_b96
  repeat' split
  all_goals exact own_128 _ _ _ _ _ _ _ _ _ _ _ (own_k _) (own_b1 _) (own_b1 _)

theorem comes_1 {Post : Tables → Env → Array Value → State → Outcome → State → Prop} (hpost : ∀ tb e args s v u, (limb_1_1.after args s (.returned v) u = true ∧ limb_1_2.after args s (.returned v) u = true ∧ True) → FrameEnd s (.returned v) u (Jvm.fieldLocs frame_1_writes args s ++ Jvm.arrayLocs frame_1_arrays args s ++ Jvm.staticLocs frame_1_statics s) 16 128 → Post tb e args s (.returned v) u) :
    ArmFor flags0 classFile x code maxLocals ret World_1 tables_1 room_1 Calls_1 rest_1 Pre_1 Post := by
  intro l hfl _ _ p e ha hc hk s m args below hf hA hF happ hP
  obtain ⟨hcalls, hrest, hpre⟩ := hP
  obtain ⟨-, -, -, hnamed, -, -, -, hat⟩ := (Spec.applies_iff hf).mp happ
  obtain ⟨hg, hn⟩ := and_e (Cond.before_iff.mp (show (Jvm.Cond.and given_1 narrow_1).before args s = true from hpre))
  obtain ⟨h1, g0⟩ := and_e hg
  obtain ⟨w0, w1, w2, w3, w4, w5, rfl⟩ : ∃ w0 w1 w2 w3 w4 w5 : Value, args = #[w0, w1, w2, w3, w4, w5] := by
    have hs : args.size = 6 := by simpa [Cond.value, given_1] using h1
    obtain ⟨L⟩ := args
    match L, hs with
    | [w0, w1, w2, w3, w4, w5], _ => exact ⟨w0, w1, w2, w3, w4, w5, rfl⟩
  have hw := fun d (hd : d ∈ tables_1) => atoms_spec (ws := Jvm.Cond.code x code maxLocals ret :: tables_1) hat d (List.mem_cons_of_mem _ hd)
  obtain ⟨a0, g1⟩ := and_e g0
  obtain ⟨i0, e0⟩ := isL_v a0
  obtain rfl : w0 = (.long i0) := Option.some.inj e0
  obtain ⟨a1, g2⟩ := and_e g1
  obtain ⟨i1, e1⟩ := isL_v a1
  obtain rfl : w1 = (.long i1) := Option.some.inj e1
  obtain ⟨a2, g3⟩ := and_e g2
  obtain ⟨i2, e2⟩ := isL_v a2
  obtain rfl : w2 = (.long i2) := Option.some.inj e2
  obtain ⟨a3, g4⟩ := and_e g3
  obtain ⟨i3, e3⟩ := isL_v a3
  obtain rfl : w3 = (.long i3) := Option.some.inj e3
  obtain ⟨a4, g5⟩ := and_e g4
  obtain ⟨i4, e4⟩ := isL_v a4
  obtain rfl : w4 = (.long i4) := Option.some.inj e4
  obtain ⟨i5, e5⟩ := is_v g5
  obtain rfl : w5 = (.int i5) := Option.some.inj e5
  obtain ⟨Hf, hlaw⟩ := plain i0 i1 i2 i3 i4 i5
  obtain ⟨n, o, h1, h2, h3, _, L, rfl, ⟨rfl, N⟩, hq⟩ := law_of (l := l) (s := s) (as := [(.long i0), (.long i1), (.long i2), (.long i3), (.long i4), (.int i5)]) (k0 := 2) (k1 := 8) hw pn0 rfl rfl (fun K O => m0_t0 O i0 i1 i2 i3 i4 i5 [] 1 Hf hlaw) p e ha hc hk s m _ below hf ((Spec.applies_iff_loose hf).mp happ).1 ⟨rfl, State.Warmed39.refl s, rfl⟩ trivial
  refine ⟨n, _, h1, h2, h3, hpost _ _ _ _ _ _ ⟨Cond.after_iff.mpr rfl, Cond.after_iff.mpr (eq_i res_at (Term.int_eval (1)) rfl), trivial⟩ ⟨hq.1, hq.2.1, (hq.2.2.sift fun y hy => Or.inr (N y hy)).mono (by decide) (by decide)⟩⟩
theorem main_1_1 : Claimed_1_1 := comes_1 fun _ _ _ _ _ _ h hF => ⟨h.1, hF⟩
theorem main_1_2 : Claimed_1_2 := comes_1 fun _ _ _ _ _ _ h hF => ⟨h.2.1, hF⟩
end Jvm.Pilot.@@N@@
namespace Jvm.Pilot.@@N@@
open Jvm Jvm.ClassFile Sem Op Lib Jvm.Free Jvm.Stand Jvm.Pilot.@@N@@.Jvm.D
/-! MADE BY PROGRAM (witnessworld.py) out of the Statement's table words and the real class files: 11 classes; the members and pool entries that the words name. The judged class is class 1, her method 1. -/
namespace start1
open Jvm.ClassFile
def u (s : String) : CpInfo := .utf8 (stringToUtf16 s)
/-- a pool by its gaps: so many unusable entries, then the entry; so many at the end -/
def gap : Nat → List CpInfo → List CpInfo
  | 0, r => r
  | n + 1, r => .unusable :: gap n r
def poolList (es : List (Nat × CpInfo)) (last : Nat) : List CpInfo := es.foldr (fun e r => gap e.1 (e.2 :: r)) (gap last [])
def pool (es : List (Nat × CpInfo)) (last : Nat) : Array CpInfo := ⟨poolList es last⟩
def fileOf (pool : Array CpInfo) (this : Nat) (attrs : Array Attribute := #[]) (ms : Array MethodInfo := #[]) (fl : Nat := 33) (sup : Nat := 0) (ifs : Array Nat := #[]) (fds : Array FieldInfo := #[]) : ClassFile where
  minorVersion := 0
  majorVersion := 65
  constantPool := pool
  accessFlags := fl
  thisClass := this
  superClass := sup
  interfaces := ifs
  fields := fds
  methods := ms
  attributes := attrs
def plain (name : String) (sup : Option ClassId) : Class where
  name := name
  kind := .ordinary
  loader := none
  accessFlags := 33
  super := sup
  interfaces := #[]
  cf := none
  fields := #[]
  methods := #[]
  instanceTypes := #[]
  staticTypes := #[]
  resolved := #[]
  callSites := []
  init := .initialized
  statics := none
  mirror := none

def pool0 : Array CpInfo := pool [(5, u "<init>"), (0, u "()V"), (1, .class_ 10), (1, u "java/lang/Object")] 113

def k0m0 : Method := { name := "<init>", desc := "()V", sig := { parameters := [], returnType := none }, accessFlags := 1, code := none }
/-- java/lang/Object -/
def k0 : Class := { plain "java/lang/Object" none with
  accessFlags := 33
  interfaces := #[]
  cf := some (fileOf pool0 8 #[] #[{ accessFlags := 1, nameIndex := 5, descriptorIndex := 6, attributes := #[] }] 33 0 #[] #[])
  fields := #[]
  methods := #[k0m0]
  instanceTypes := #[]
  staticTypes := #[]
  resolved := Array.replicate 124 none
  statics := none }

def pool1 : Array CpInfo := pool [(2, .class_ 4), (1, u "java/lang/Object"), (0, u "<init>"), (0, u "()V"), (0, .long 9223372036854775807), (1, .methodref 10 11), (0, .class_ 12), (0, .nameAndType 13 14), (0, u "com/example/waystation/waystation/placement/Limbs"), (0, u "less"), (0, u "([JI[JII)Z"), (0, .class_ 16), (0, u "com/example/waystation/waystation/placement/LimbsLessPinLaw"), (2, u "law"), (0, u "(JJJJJI)Z")] 5

def k1m0 : Method := { name := "<init>", desc := "()V", sig := { parameters := [], returnType := none }, accessFlags := 1, code := none }
def k1c1 : Code := { maxStack := 5, maxLocals := 35, code := code, exceptionTable := #[], attributes := #[] }
def k1m1 : Method := { name := "law", desc := "(JJJJJI)Z", sig := { parameters := [.long, .long, .long, .long, .long, .int], returnType := some .boolean }, accessFlags := 9, code := some k1c1 }
/-- com/example/waystation/waystation/placement/LimbsLessPinLaw -/
def k1 : Class := { plain "com/example/waystation/waystation/placement/LimbsLessPinLaw" (some 0) with
  accessFlags := 49
  interfaces := #[]
  cf := some (fileOf pool1 15 #[] #[{ accessFlags := 1, nameIndex := 5, descriptorIndex := 6, attributes := #[] }, { accessFlags := 9, nameIndex := 19, descriptorIndex := 20, attributes := #[] }] 49 2 #[] #[])
  fields := #[]
  methods := #[k1m0, k1m1]
  instanceTypes := #[]
  staticTypes := #[]
  resolved := Array.replicate 26 none
  statics := none }

def pool2 : Array CpInfo := pool [(4, .class_ 6), (1, u "java/lang/Object"), (0, u "<init>"), (0, u "()V"), (6, .class_ 16), (0, u "com/example/waystation/waystation/placement/Limbs"), (42, u "BITS"), (0, u "I"), (2, u "MASK"), (0, u "J"), (11, u "less"), (0, u "([JI[JII)Z")] 19

def k2m0 : Method := { name := "<init>", desc := "()V", sig := { parameters := [], returnType := none }, accessFlags := 2, code := none }
def k2c1 : Code := { maxStack := 4, maxLocals := 10, code := prog_23_method_8_code, exceptionTable := #[], attributes := #[] }
def k2m1 : Method := { name := "less", desc := "([JI[JII)Z", sig := { parameters := [(.array .long), .int, (.array .long), .int, .int], returnType := some .boolean }, accessFlags := 8, code := some k2c1 }
/-- com/example/waystation/waystation/placement/Limbs -/
def k2 : Class := { plain "com/example/waystation/waystation/placement/Limbs" (some 0) with
  accessFlags := 48
  interfaces := #[]
  cf := some (fileOf pool2 15 #[] #[{ accessFlags := 2, nameIndex := 7, descriptorIndex := 8, attributes := #[] }, { accessFlags := 8, nameIndex := 76, descriptorIndex := 77, attributes := #[] }] 48 4 #[] #[{ accessFlags := 26, nameIndex := 59, descriptorIndex := 60, attributes := #[] }, { accessFlags := 26, nameIndex := 63, descriptorIndex := 64, attributes := #[] }])
  fields := #[{ name := "BITS", type := .int, accessFlags := 26, slot := 0, constantValue := 0 }, { name := "MASK", type := .long, accessFlags := 26, slot := 1, constantValue := 0 }]
  methods := #[k2m0, k2m1]
  instanceTypes := #[]
  staticTypes := #[.int, .long]
  resolved := Array.replicate 97 none
  statics := none }

def pool3 : Array CpInfo := pool [(1, u "java/lang/Cloneable"), (0, .class_ 1), (0, u "java/lang/Object"), (0, .class_ 3)] 3

/-- java/lang/Cloneable -/
def k3 : Class := { plain "java/lang/Cloneable" (some 0) with
  accessFlags := 1537
  interfaces := #[]
  cf := some (fileOf pool3 2 #[] #[] 1537 4 #[] #[])
  fields := #[]
  methods := #[]
  instanceTypes := #[]
  staticTypes := #[]
  resolved := Array.replicate 8 none
  statics := none }

def pool4 : Array CpInfo := pool [(1, u "java/io/Serializable"), (0, .class_ 1), (0, u "java/lang/Object"), (0, .class_ 3)] 3

/-- java/io/Serializable -/
def k4 : Class := { plain "java/io/Serializable" (some 0) with
  accessFlags := 1537
  interfaces := #[]
  cf := some (fileOf pool4 2 #[] #[] 1537 4 #[] #[])
  fields := #[]
  methods := #[]
  instanceTypes := #[]
  staticTypes := #[]
  resolved := Array.replicate 8 none
  statics := none }

/-- the primitive byte -/
def k5 : Class := { plain "byte" none with kind := .primitive 'B', accessFlags := 0x411 }
/-- [B -/
def k6 : Class := { plain "[B" (some 0) with kind := .array 5 .byte, interfaces := #[3, 4], accessFlags := 1041 }

/-- the primitive int -/
def k7 : Class := { plain "int" none with kind := .primitive 'I', accessFlags := 0x411 }
/-- [I -/
def k8 : Class := { plain "[I" (some 0) with kind := .array 7 .int, interfaces := #[3, 4], accessFlags := 1041 }

/-- the primitive long -/
def k9 : Class := { plain "long" none with kind := .primitive 'J', accessFlags := 0x411 }
/-- [J -/
def k10 : Class := { plain "[J" (some 0) with kind := .array 9 .long, interfaces := #[3, 4], accessFlags := 1041 }

def heap : Heap := #[]
def classes : Array Class := #[k0, k1, k2, k3, k4, k5, k6, k7, k8, k9, k10]
def interned : List (Array UInt16 × Addr) := []
def slotsUsed : Nat := 0
def theMethod : MethodId := ⟨1, 1⟩
def args0 : Array Value := #[.long 5, .long 5, .long 5, .long 5, .long 5, .int 5]
def aboutOver (below : List Frame) : State where
  vm := { classes := classes, interned := interned.toArray }
  heap := heap
  slotsUsed := slotsUsed
  threads := #[{ frames := .invoking theMethod args0 :: below }]
def below0 : List Frame := [.native { method := ⟨0, 0⟩, args := #[] }]
def about1 : State := aboutOver below0
def p0 : Program := .bare "" "" ""
def e0 : Env := launch0.env 0 0 0
theorem w_frames : about1.frames = Frame.invoking theMethod args0 :: below0 := rfl
set_option maxRecDepth 65536 in
theorem w_args : argsFit about1.vm theMethod args0 = true := by decide +kernel
set_option maxRecDepth 65536 in
theorem w_heap : heapFits about1 = true := by decide +kernel
set_option maxRecDepth 65536 in
theorem w_runnable : about1.curStatus? = some .runnable := by decide +kernel
set_option maxRecDepth 65536 in
theorem w_alone : about1.alone = true := by decide +kernel
set_option maxRecDepth 65536 in
theorem w_named : about1.methodNamed? x = some theMethod := by decide +kernel
set_option maxRecDepth 65536 in
theorem w_hears : about1.hears theMethod below0 = true := by decide +kernel
set_option maxRecDepth 65536 in
theorem w_ripe : about1.ripe theMethod args0 below0 = true := by decide +kernel
theorem w_running : about1.status = .running := rfl
set_option maxRecDepth 65536 in
theorem w_room : about1.hasRoom e0.platform room_1 = true :=
  launch0.hasRoom_least _ room_1 (by decide +kernel) (by decide +kernel) (by decide +kernel) (by decide +kernel) (by decide +kernel) (by decide +kernel)
theorem allAtoms_all (ts : List Jvm.Cond) (a : Array Jvm.Value) (st : Jvm.State) : (allAtoms ts).before a st = ts.all (fun c => c.before a st) := by
  induction ts with
  | nil => rfl
  | cons c t ih =>
    show (Jvm.Cond.and c (allAtoms t)).before a st = _
    rw [Jvm.Cond.before_and, ih, List.all_cons]
def words1 : List Jvm.Cond := Jvm.Cond.code x code maxLocals ret :: tables_1
/-- a 'code' word, met by the world's own term for the bytes: nothing is compared byte by byte -/
theorem code_word {y : MethodName} {bytes : ByteArray} {mx : Nat} {rt : Option FieldType} {a : Array Value} {s : State} {m : MethodId} {meth : Method} {c : Code} (h1 : s.methodNamed? y = some m) (h2 : s.vm.method? m = some meth) (h3 : meth.code = some c) (h4 : c.code = bytes)
    (h5 : (c.maxLocals == mx && c.exceptionTable.isEmpty && decide (c.maxStack ≤ mostOperands) && decide (meth.sig.returnType = rt) && !meth.locks && decide (parseMethodDescriptor y.desc = some meth.sig)) = true) : (Jvm.Cond.code y bytes mx rt).before a s = true := by
  simp only [Bool.and_eq_true, beq_iff_eq, Bool.not_eq_true', decide_eq_true_eq] at h5
  obtain ⟨⟨⟨⟨⟨g1, g2⟩, g3⟩, g4⟩, g5⟩, g6⟩ := h5
  simp [Cond.before, Cond.holds, Cond.value, h1, h2, h3, h4, g1, g2, g3, g4, g5, g6]
def isCode : Jvm.Cond → Bool
  | .code _ _ _ _ => true
  | _ => false
theorem all_split {L : List Jvm.Cond} {P : Jvm.Cond → Bool} (h1 : L.all (fun c => isCode c || P c) = true) (h2 : ∀ c ∈ L.filter isCode, P c = true) : L.all P = true := by
  refine List.all_eq_true.mpr fun c hc => ?_
  have h := List.all_eq_true.mp h1 c hc
  rcases Bool.eq_false_or_eq_true (isCode c) with hi | hi
  · exact h2 c (List.mem_filter.mpr ⟨hc, hi⟩)
  · simpa [hi] using h
set_option maxRecDepth 65536 in
theorem w_c0 : (Jvm.Cond.code x code maxLocals ret).before args0 about1 = true := code_word (m := ⟨1, 1⟩) (meth := k1m1) (c := k1c1) (by decide +kernel) rfl rfl rfl (by decide +kernel)
set_option maxRecDepth 65536 in
theorem w_c1 : (Jvm.Cond.code ({ cls := "com/example/waystation/waystation/placement/Limbs", name := "less", desc := "([JI[JII)Z" } : Jvm.MethodName) prog_23_method_8_code (10 : Nat) (Option.some Jvm.ClassFile.FieldType.boolean)).before args0 about1 = true := code_word (m := ⟨2, 1⟩) (meth := k2m1) (c := k2c1) (by decide +kernel) rfl rfl rfl (by decide +kernel)
def codes1 : List Jvm.Cond := [Jvm.Cond.code x code maxLocals ret, Jvm.Cond.code ({ cls := "com/example/waystation/waystation/placement/Limbs", name := "less", desc := "([JI[JII)Z" } : Jvm.MethodName) prog_23_method_8_code (10 : Nat) (Option.some Jvm.ClassFile.FieldType.boolean)]
set_option maxRecDepth 65536 in
theorem codes_eq : words1.filter isCode = codes1 := rfl
theorem w_codes : ∀ c ∈ words1.filter isCode, c.before args0 about1 = true := by
  rw [codes_eq]
  intro c hc
  simp only [codes1, List.mem_cons, List.not_mem_nil, or_false] at hc
  rcases hc with rfl | rfl
  · exact w_c0
  · exact w_c1
set_option maxRecDepth 65536 in
theorem w_t1 : words1.all (fun c => isCode c || c.before args0 about1) = true := by decide +kernel
theorem w_tables : (allAtoms (Jvm.Cond.code x code maxLocals ret :: tables_1)).before args0 about1 = true := by
  rw [allAtoms_all]
  show words1.all (fun c => c.before args0 about1) = true
  refine all_split ?_ w_codes
  rw [w_t1]
set_option maxRecDepth 65536 in
theorem w_case : (Jvm.Cond.and given_1 narrow_1).before args0 about1 = true := by decide +kernel
theorem w_applies : (headSpec (Jvm.Cond.code x code maxLocals ret :: tables_1) room_1).applies x e0.platform about1 = true :=
  (Spec.applies_iff w_frames).mpr ⟨w_running, w_runnable, w_alone, w_named, w_hears, w_ripe, w_room, w_tables⟩
theorem atStart : AtStart classFile x code maxLocals ret World_1 tables_1 room_1 Calls_1 rest_1 Pre_1 launch0 p0 e0 about1 theMethod args0 below0 :=
  ⟨lists_1, trivial, launch0.admits_env _ _ _, launch0.least_env, fairChoices_fair.cas, fairChoices_fair.clock, w_frames, w_args, w_heap, w_applies, trivial, trivial, w_case⟩
end start1
theorem witness_1 : WitnessClaimed_1 := ⟨start1.p0, start1.e0, start1.about1, start1.theMethod, start1.args0, start1.below0, start1.atStart⟩
end Jvm.Pilot.@@N@@
