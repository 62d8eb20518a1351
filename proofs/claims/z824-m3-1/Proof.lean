import JvmDerived
import JvmDerived.Pilot.@@N@@Statement
import JvmDerived.Pilot.@@N@@Code
set_option linter.unusedVariables false
set_option linter.unusedSimpArgs false
set_option maxRecDepth 65536
set_option maxHeartbeats 4000000
namespace Jvm.Pilot.@@N@@
open Jvm Jvm.ClassFile Sem Op Lib Jvm.Free Jvm.Stand Jvm.LawKit Jvm.RoadKit Bundle Jvm.Pilot.@@N@@.Jvm.D
theorem tw0 : Jvm.Cond.constantLong "com/example/waystation/waystation/placement/LimbsSubtractPinLaw" (11 : Nat) (9223372036854775807 : Int64) ∈ tables_1 := List.mem_of_getElem? (i := 0) rfl
theorem tw1 : Jvm.Cond.methodLink "com/example/waystation/waystation/placement/LimbsSubtractPinLaw" (13 : Nat) (⟨"com/example/waystation/waystation/placement/LimbsSubtractPinLaw", "bor", "(J)J"⟩ : MethodName) ∈ tables_1 := List.mem_of_getElem? (i := 1) rfl
theorem tw2 : Jvm.Cond.static (⟨"com/example/waystation/waystation/placement/LimbsSubtractPinLaw", "bor", "(J)J"⟩ : MethodName) ∈ tables_1 := List.mem_of_getElem? (i := 2) rfl
theorem tw3 : Jvm.Cond.initialized "com/example/waystation/waystation/placement/LimbsSubtractPinLaw" ∈ tables_1 := List.mem_of_getElem? (i := 3) rfl
theorem tw4 : Jvm.Cond.code (⟨"com/example/waystation/waystation/placement/LimbsSubtractPinLaw", "bor", "(J)J"⟩ : MethodName) method_3_code (2 : Nat) (Option.some FieldType.long) ∈ tables_1 := List.mem_of_getElem? (i := 4) rfl
theorem tw5 : Jvm.Cond.methodLink "com/example/waystation/waystation/placement/LimbsSubtractPinLaw" (17 : Nat) (⟨"com/example/waystation/waystation/placement/LimbsSubtractPinLaw", "lim", "(J)J"⟩ : MethodName) ∈ tables_1 := List.mem_of_getElem? (i := 5) rfl
theorem tw6 : Jvm.Cond.static (⟨"com/example/waystation/waystation/placement/LimbsSubtractPinLaw", "lim", "(J)J"⟩ : MethodName) ∈ tables_1 := List.mem_of_getElem? (i := 6) rfl
theorem tw7 : Jvm.Cond.code (⟨"com/example/waystation/waystation/placement/LimbsSubtractPinLaw", "lim", "(J)J"⟩ : MethodName) method_2_code (2 : Nat) (Option.some FieldType.long) ∈ tables_1 := List.mem_of_getElem? (i := 7) rfl
theorem tw8 : Jvm.Cond.arrayClass FieldType.long ∈ tables_1 := List.mem_of_getElem? (i := 8) rfl
theorem tw9 : Jvm.Cond.constantLong "com/example/waystation/waystation/placement/LimbsSubtractPinLaw" (20 : Nat) (-1 : Int64) ∈ tables_1 := List.mem_of_getElem? (i := 9) rfl
theorem tw10 : Jvm.Cond.methodLink "com/example/waystation/waystation/placement/LimbsSubtractPinLaw" (22 : Nat) (⟨"com/example/waystation/waystation/placement/Limbs", "subtract", "([JI[JI[JII)V"⟩ : MethodName) ∈ tables_1 := List.mem_of_getElem? (i := 10) rfl
theorem tw11 : Jvm.Cond.static (⟨"com/example/waystation/waystation/placement/Limbs", "subtract", "([JI[JI[JII)V"⟩ : MethodName) ∈ tables_1 := List.mem_of_getElem? (i := 11) rfl
theorem tw12 : Jvm.Cond.initialized "com/example/waystation/waystation/placement/Limbs" ∈ tables_1 := List.mem_of_getElem? (i := 12) rfl
theorem tw13 : Jvm.Cond.code (⟨"com/example/waystation/waystation/placement/Limbs", "subtract", "([JI[JI[JII)V"⟩ : MethodName) prog_23_method_5_code (12 : Nat) (Option.none : Option FieldType) ∈ tables_1 := List.mem_of_getElem? (i := 13) rfl
theorem tw14 : Jvm.Cond.constantLong "com/example/waystation/waystation/placement/Limbs" (45 : Nat) (9223372036854775807 : Int64) ∈ tables_1 := List.mem_of_getElem? (i := 14) rfl
theorem tw15 : Jvm.Cond.methodLink "com/example/waystation/waystation/placement/LimbsSubtractPinLaw" (28 : Nat) (⟨"com/example/waystation/waystation/placement/LimbsSubtractPinLaw", "eq5", "([J[J)Z"⟩ : MethodName) ∈ tables_1 := List.mem_of_getElem? (i := 15) rfl
theorem tw16 : Jvm.Cond.static (⟨"com/example/waystation/waystation/placement/LimbsSubtractPinLaw", "eq5", "([J[J)Z"⟩ : MethodName) ∈ tables_1 := List.mem_of_getElem? (i := 16) rfl
theorem tw17 : Jvm.Cond.code (⟨"com/example/waystation/waystation/placement/LimbsSubtractPinLaw", "eq5", "([J[J)Z"⟩ : MethodName) method_4_code (2 : Nat) (Option.some FieldType.boolean) ∈ tables_1 := List.mem_of_getElem? (i := 17) rfl
def lay (t : Nat) : String × List (String × String) := ("", [])
theorem lay_word (t : Nat) (nd : String × String) (h : nd ∈ (lay t).2) : Jvm.Cond.lays (lay t).1 (lay t).1 nd.1 nd.2 ∈ tables_1 ∨ Jvm.Cond.laysFinal (lay t).1 (lay t).1 nd.1 nd.2 ∈ tables_1 := by simp [lay] at h
theorem lay_parse (t : Nat) (nd : String × String) (h : nd ∈ (lay t).2) : ∃ ty, parseFieldDescriptor nd.2 = some ty := by simp [lay] at h
theorem lay_names (t k k' : Nat) (nd nd' : String × String) (h1 : (lay t).2[k]? = some nd) (h2 : (lay t).2[k']? = some nd') (ne : k ≠ k') : nd.1 ≠ nd'.1 := by simp [lay] at h1
/-! the abstract machine over the library's laws -/
abbrev Obj := Sum (FieldType × List Value) (Nat × List Value)
abbrev Gx := Launch × State × Array Value × Nat
abbrev Kx := Program × Env × Room × State × MethodId × Array Value × List Frame × Method × Code × Nat × Nat
/-- a reference of the model is the number of an own object; the object of number 0 lies at n -/
def sh (n : Nat) : Value → Value
  | .ref i => .ref (n + i)
  | v => v
theorem sh_cat (n : Nat) (v : Value) : (sh n v).category = v.category := by cases v <;> rfl
/-! local variables -/
def Wf (f : Nat → Option Slot) : Prop :=
  (∀ (k : Nat) (v : Value), f k = some (Slot.val v) → v.category = 2 → f (k + 1) = some .second) ∧ (∀ k, f k = some .second → ∃ v : Value, 1 ≤ k ∧ f (k - 1) = some (Slot.val v) ∧ v.category = 2)
def Lrel (n : Nat) (Ls : List (Option Value)) (L : Array Slot) : Prop :=
  L.size = Ls.length ∧ Wf (fun k => L[k]?) ∧ ∀ (k : Nat) (v : Value), Ls[k]? = some (some v) → L[k]? = some (Slot.val (sh n v))
def clr (Ls : List (Option Value)) : Nat → List (Option Value)
  | 0 => Ls
  | j + 1 => match Ls[j]? with
    | some (some w) => if w.category = 2 then Ls.set j none else Ls
    | _ => Ls
def stor (Ls : List (Option Value)) (i : Nat) (v : Value) : Option (List (Option Value)) :=
  if v.category = 2 then (if i + 1 < Ls.length then some (((clr Ls i).set i (some v)).set (i + 1) none) else none) else (if i < Ls.length then some ((clr Ls i).set i (some v)) else none)
theorem wf_gen {f f' : Nat → Option Slot} (hf : Wf f) {i last : Nat} {v : Value} (hl : (v.category = 2 ∧ last = i + 1 ∧ f' (i + 1) = some .second) ∨ (v.category ≠ 2 ∧ last = i)) (h0 : f' i = some (Slot.val v))
    (h1 : ∀ k, k + 1 = i → ∀ w : Value, f k = some (Slot.val w) → w.category = 2 → f' k = some .unset) (h2 : f (last + 1) = some .second → f' (last + 1) = some .unset)
    (h3 : ∀ k, k < i ∨ last < k → f' k = f k ∨ (f' k = some .unset ∧ ((k + 1 = i ∧ ∃ w : Value, f k = some (Slot.val w) ∧ w.category = 2) ∨ (k = last + 1 ∧ f k = some .second)))) : Wf f' := by
  have hc : ∀ k, k = i ∨ (k = i + 1 ∧ last = i + 1 ∧ f' (i + 1) = some .second) ∨ (k < i ∨ last < k) := fun k => by
    rcases hl with ⟨-, a, b⟩ | ⟨-, a⟩
    · by_cases h : k = i; · exact Or.inl h
      by_cases h' : k = i + 1; · exact Or.inr (Or.inl ⟨h', a, b⟩)
      exact Or.inr (Or.inr (by omega))
    · by_cases h : k = i; · exact Or.inl h
      exact Or.inr (Or.inr (by omega))
  have hli : i ≤ last := by omega
  constructor
  · intro k w hk hw
    rcases hc k with rfl | ⟨rfl, -, b⟩ | h
    · rcases hl with ⟨-, -, b⟩ | ⟨a, -⟩
      · exact b
      · rw [h0] at hk; cases hk; exact absurd hw a
    · rw [b] at hk; cases hk
    · rcases h3 k h with q | ⟨q, -⟩
      · rw [q] at hk
        have hs := hf.1 k w hk hw
        by_cases e1 : k + 1 = i
        · have := h1 k e1 w hk hw; rw [q, hk] at this; cases this
        · have h' : k + 1 < i ∨ last < k + 1 := by omega
          rcases h3 (k + 1) h' with q' | ⟨-, ⟨-, w', a, -⟩ | ⟨a, -⟩⟩
          · rw [q']; exact hs
          · rw [hs] at a; cases a
          · omega
      · rw [q] at hk; cases hk
  · intro k hk
    rcases hc k with rfl | ⟨rfl, a, b⟩ | h
    · rw [h0] at hk; cases hk
    · rcases hl with ⟨c, -, -⟩ | ⟨-, c⟩
      · exact ⟨v, by omega, by simpa using h0, c⟩
      · omega
    · rcases h3 k h with q | ⟨q, -⟩
      · rw [q] at hk
        obtain ⟨w, k1, hw, hw2⟩ := hf.2 k hk
        by_cases e1 : k = last + 1
        · subst e1; have := h2 hk; rw [q, hk] at this; cases this
        · have h' : k - 1 < i ∨ last < k - 1 := by
            rcases h with h | h
            · exact Or.inl (by omega)
            · exact Or.inr (by omega)
          rcases h3 (k - 1) h' with q' | ⟨-, ⟨a, -⟩ | ⟨a, b⟩⟩
          · exact ⟨w, k1, by rw [q']; exact hw, hw2⟩
          · have : k = i := by omega
            omega
          · rw [hw] at b; cases b
      · rw [q] at hk; cases hk
theorem clr_get {Ls : List (Option Value)} {i k : Nat} {w : Value} (h : (clr Ls i)[k]? = some (some w)) : Ls[k]? = some (some w) ∧ (k + 1 = i → w.category ≠ 2) := by
  cases i with
  | zero => exact ⟨h, fun q => by omega⟩
  | succ j =>
    simp only [clr] at h
    split at h
    · rename_i w' hw'
      split at h
      · rename_i h2
        by_cases e : j = k
        · subst e; rw [List.getElem?_set] at h; simp at h
        · rw [List.getElem?_set_ne e] at h; exact ⟨h, fun q => by omega⟩
      · rename_i h2
        refine ⟨h, fun q => ?_⟩
        have : j = k := by omega
        subst this; rw [hw'] at h; cases h; exact h2
    · rename_i hn
      refine ⟨h, fun q => ?_⟩
      have : j = k := by omega
      subst this; exact absurd h (hn w)
theorem clr_len (Ls : List (Option Value)) (i : Nat) : (clr Ls i).length = Ls.length := by
  cases i with
  | zero => rfl
  | succ j => simp only [clr]; split <;> (try split) <;> simp
theorem lrel_gen {n : Nat} {Ls Ls' : List (Option Value)} {L L' : Array Slot} {i last : Nat} {v : Value} (h : Lrel n Ls L) (hsz : L'.size = L.size) (hlen : Ls'.length = Ls.length)
    (hl : (v.category = 2 ∧ last = i + 1 ∧ L'[i + 1]? = some .second) ∨ (v.category ≠ 2 ∧ last = i)) (h0 : L'[i]? = some (Slot.val (sh n v)))
    (h1 : ∀ k, k + 1 = i → ∀ w : Value, L[k]? = some (Slot.val w) → w.category = 2 → L'[k]? = some .unset) (h2 : L[last + 1]? = some .second → L'[last + 1]? = some .unset)
    (h3 : ∀ k, k < i ∨ last < k → L'[k]? = L[k]? ∨ (L'[k]? = some .unset ∧ ((k + 1 = i ∧ ∃ w : Value, L[k]? = some (Slot.val w) ∧ w.category = 2) ∨ (k = last + 1 ∧ L[k]? = some .second))))
    (hs : ∀ k w, Ls'[k]? = some (some w) → (k = i ∧ w = v) ∨ ((k < i ∨ last < k) ∧ Ls[k]? = some (some w) ∧ (k + 1 = i → w.category ≠ 2))) : Lrel n Ls' L' := by
  refine ⟨by rw [hsz, hlen]; exact h.1, wf_gen (f := fun k => L[k]?) (f' := fun k => L'[k]?) (v := sh n v) h.2.1 (by rw [sh_cat]; exact hl) h0 h1 h2 h3, fun k w hk => ?_⟩
  rcases hs k w hk with ⟨rfl, rfl⟩ | ⟨a, b, c⟩
  · exact h0
  · have hb := h.2.2 k w b
    rcases h3 k a with q | ⟨-, ⟨q, w', r1, r2⟩ | ⟨-, r⟩⟩
    · rw [q]; exact hb
    · rw [hb] at r1; cases r1; exact absurd (by rw [← sh_cat n w]; exact r2) (c q)
    · rw [hb] at r; cases r
theorem get_set (L : Array Slot) (i j : Nat) (x : Slot) (hi : i < L.size) : (L.setIfInBounds i x)[j]? = if i = j then some x else L[j]? := by
  rw [Array.getElem?_setIfInBounds]; simp [hi]
theorem store_1 {n : Nat} {Ls Ls' : List (Option Value)} {L : Array Slot} {i : Nat} {v : Value} (h : Lrel n Ls L) (hc : v.category = 1) (hl : stor Ls i v = some Ls') : ∃ L', storeLocals L i (sh n v) = some L' ∧ Lrel n Ls' L' := by
  have hc2 : ¬ v.category = 2 := by omega
  simp only [stor, hc2, if_false] at hl
  have hi : i < Ls.length := Decidable.byContradiction fun hi => by rw [if_neg hi] at hl; cases hl
  rw [if_pos hi] at hl
  cases hl
  have hiL : i < L.size := by rw [h.1]; exact hi
  have hcs : (sh n v).category = 1 := (sh_cat n v).trans hc
  have hs : ∀ k w, ((clr Ls i).set i (some v))[k]? = some (some w) → (k = i ∧ w = v) ∨ ((k < i ∨ i < k) ∧ Ls[k]? = some (some w) ∧ (k + 1 = i → w.category ≠ 2)) := fun k w hk => by
    by_cases e : i = k
    · subst e
      rw [List.getElem?_set_self (by rw [clr_len]; exact hi)] at hk
      cases hk; exact Or.inl ⟨rfl, rfl⟩
    · rw [List.getElem?_set_ne e] at hk
      exact Or.inr ⟨by omega, clr_get hk⟩
  have hlen : ((clr Ls i).set i (some v)).length = Ls.length := by simp [clr_len]
  have hgo : L[i]? = some L[i] := Array.getElem?_eq_getElem hiL
  cases hq : L[i] with
  | unset =>
    rw [hq] at hgo
    refine ⟨L.setIfInBounds i (.val (sh n v)), by simp [storeLocals, storeSelf, setAt, hgo, hcs, hiL, hq], lrel_gen (i := i) (last := i) (v := v) h (by simp) hlen (Or.inr ⟨hc2, rfl⟩) ?_ ?_ ?_ ?_ hs⟩
    · rw [get_set _ _ _ _ hiL]; simp
    · intro k hk w hw hw2; have := h.2.1.1 k w hw hw2; simp only [hk] at this; rw [hgo] at this; cases this
    · intro hk; obtain ⟨w, -, a, -⟩ := h.2.1.2 _ hk; simp only [Nat.add_sub_cancel] at a; rw [hgo] at a; cases a
    · intro k hk; left; rw [get_set _ _ _ _ hiL, if_neg (by omega)]
  | second =>
    rw [hq] at hgo
    obtain ⟨w0, i1, hw0, hw2⟩ := h.2.1.2 _ hgo
    simp only at hw0
    have hi1 : i - 1 < L.size := by omega
    refine ⟨(L.setIfInBounds (i - 1) .unset).setIfInBounds i (.val (sh n v)), by simp [storeLocals, storeSelf, setAt, hgo, hcs, hiL, hi1, hq], lrel_gen (i := i) (last := i) (v := v) h (by simp) hlen (Or.inr ⟨hc2, rfl⟩) ?_ ?_ ?_ ?_ hs⟩
    · rw [get_set _ _ _ _ (by simpa using hiL)]; simp
    · intro k hk w hw hw2'; rw [get_set _ _ _ _ (by simpa using hiL), get_set _ _ _ _ hi1, if_neg (by omega), if_pos (by omega)]
    · intro hk; obtain ⟨w, -, a, -⟩ := h.2.1.2 _ hk; simp only [Nat.add_sub_cancel] at a; rw [hgo] at a; cases a
    · intro k hk; rw [get_set _ _ _ _ (by simpa using hiL), get_set _ _ _ _ hi1, if_neg (by omega)]
      by_cases e : i - 1 = k
      · subst e; rw [if_pos rfl]; exact Or.inr ⟨rfl, Or.inl ⟨by omega, w0, hw0, hw2⟩⟩
      · rw [if_neg e]; exact Or.inl rfl
  | val old =>
    rw [hq] at hgo
    have hnl : ∀ k, k + 1 = i → ∀ w : Value, L[k]? = some (Slot.val w) → w.category = 2 → False := fun k hk w hw hw2 => by
      have := h.2.1.1 k w hw hw2; simp only [hk] at this; rw [hgo] at this; cases this
    by_cases ho : old.category = 2
    · have hn : L[i + 1]? = some .second := h.2.1.1 i old hgo ho
      have hi1 : i + 1 < L.size := (Array.getElem?_eq_some_iff.mp hn).1
      refine ⟨(L.setIfInBounds (i + 1) .unset).setIfInBounds i (.val (sh n v)), by simp [storeLocals, storeSelf, setAt, hgo, hcs, hiL, hi1, ho, hq], lrel_gen (i := i) (last := i) (v := v) h (by simp) hlen (Or.inr ⟨hc2, rfl⟩) ?_ ?_ ?_ ?_ hs⟩
      · rw [get_set _ _ _ _ (by simpa using hiL)]; simp
      · intro k hk w hw hw2; exact (hnl k hk w hw hw2).elim
      · intro _; rw [get_set _ _ _ _ (by simpa using hiL), get_set _ _ _ _ hi1, if_neg (by omega), if_pos rfl]
      · intro k hk; rw [get_set _ _ _ _ (by simpa using hiL), get_set _ _ _ _ hi1, if_neg (by omega)]
        by_cases e : i + 1 = k
        · subst e; rw [if_pos rfl]; exact Or.inr ⟨rfl, Or.inr ⟨rfl, hn⟩⟩
        · rw [if_neg e]; exact Or.inl rfl
    · refine ⟨L.setIfInBounds i (.val (sh n v)), by simp [storeLocals, storeSelf, setAt, hgo, hcs, hiL, ho, hq], lrel_gen (i := i) (last := i) (v := v) h (by simp) hlen (Or.inr ⟨hc2, rfl⟩) ?_ ?_ ?_ ?_ hs⟩
      · rw [get_set _ _ _ _ hiL]; simp
      · intro k hk w hw hw2; exact (hnl k hk w hw hw2).elim
      · intro hk; obtain ⟨w, -, a, b⟩ := h.2.1.2 _ hk; simp only [Nat.add_sub_cancel] at a; rw [hgo] at a; cases a; exact absurd b ho
      · intro k hk; left; rw [get_set _ _ _ _ hiL, if_neg (by omega)]
/-- the second half of a long's store -/
theorem self_2 {l : Array Slot} {i : Nat} {v : Value} (hc : v.category = 2) (h1 : i + 1 < l.size) (hw : ∀ w : Value, l[i + 1]? = some (Slot.val w) → w.category = 2 → i + 2 < l.size) :
    ∃ l', storeSelf l i v = some l' ∧ l'.size = l.size ∧ l'[i]? = some (Slot.val v) ∧ l'[i + 1]? = some .second ∧ (∀ k, k < i ∨ i + 2 < k → l'[k]? = l[k]?) ∧
      ((∃ w : Value, l[i + 1]? = some (Slot.val w) ∧ w.category = 2) ∧ l'[i + 2]? = some .unset ∨ (¬ ∃ w : Value, l[i + 1]? = some (Slot.val w) ∧ w.category = 2) ∧ l'[i + 2]? = l[i + 2]?) := by
  have hi : i < l.size := by omega
  have hgo : l[i + 1]? = some l[i + 1] := Array.getElem?_eq_getElem h1
  have hgo' : (l.setIfInBounds i (.val v))[i + 1]? = some l[i + 1] := by rw [get_set _ _ _ _ hi, if_neg (by omega)]; exact hgo
  by_cases hx : ∃ w : Value, l[i + 1]? = some (Slot.val w) ∧ w.category = 2
  · obtain ⟨w, a, b⟩ := hx
    have h2 := hw w a b
    have e : l[i + 1] = .val w := Option.some.inj (hgo.symm.trans a)
    refine ⟨((l.setIfInBounds i (.val v)).setIfInBounds (i + 2) .unset).setIfInBounds (i + 1) .second, ?_, by simp, ?_, ?_, ?_, Or.inl ⟨⟨w, a, b⟩, ?_⟩⟩
    · rw [e] at hgo'
      simp [storeSelf, setAt, hi, hc, hgo', b, h1, h2, e]
    · rw [get_set _ _ _ _ (by simpa using h1), if_neg (by omega), get_set _ _ _ _ (by simpa using h2), if_neg (by omega), get_set _ _ _ _ hi, if_pos rfl]
    · rw [get_set _ _ _ _ (by simpa using h1), if_pos rfl]
    · intro k hk; rw [get_set _ _ _ _ (by simpa using h1), if_neg (by omega), get_set _ _ _ _ (by simpa using h2), if_neg (by omega), get_set _ _ _ _ hi, if_neg (by omega)]
    · rw [get_set _ _ _ _ (by simpa using h1), if_neg (by omega), get_set _ _ _ _ (by simpa using h2), if_pos rfl]
  · refine ⟨(l.setIfInBounds i (.val v)).setIfInBounds (i + 1) .second, ?_, by simp, ?_, ?_, ?_, Or.inr ⟨hx, ?_⟩⟩
    · cases e : l[i + 1] with
      | unset => rw [e] at hgo'; simp [storeSelf, setAt, hi, hc, hgo', h1, e]
      | second => rw [e] at hgo'; simp [storeSelf, setAt, hi, hc, hgo', h1, e]
      | val w =>
        rw [e] at hgo' hgo
        have hn : ¬ w.category = 2 := fun q => hx ⟨w, hgo, q⟩
        simp [storeSelf, setAt, hi, hc, hgo', h1, hn, e]
    · rw [get_set _ _ _ _ (by simpa using h1), if_neg (by omega), get_set _ _ _ _ hi, if_pos rfl]
    · rw [get_set _ _ _ _ (by simpa using h1), if_pos rfl]
    · intro k hk; rw [get_set _ _ _ _ (by simpa using h1), if_neg (by omega), get_set _ _ _ _ hi, if_neg (by omega)]
    · rw [get_set _ _ _ _ (by simpa using h1), if_neg (by omega), get_set _ _ _ _ hi, if_neg (by omega)]
theorem store_2 {n : Nat} {Ls Ls' : List (Option Value)} {L : Array Slot} {i : Nat} {v : Value} (h : Lrel n Ls L) (hc : v.category = 2) (hl : stor Ls i v = some Ls') : ∃ L', storeLocals L i (sh n v) = some L' ∧ Lrel n Ls' L' := by
  simp only [stor, hc, if_true] at hl
  have hi : i + 1 < Ls.length := Decidable.byContradiction fun hi => by rw [if_neg hi] at hl; cases hl
  rw [if_pos hi] at hl
  cases hl
  have hiL : i + 1 < L.size := by rw [h.1]; exact hi
  have hi0 : i < L.size := by omega
  have hcs : (sh n v).category = 2 := (sh_cat n v).trans hc
  have hs : ∀ k w, (((clr Ls i).set i (some v)).set (i + 1) none)[k]? = some (some w) → (k = i ∧ w = v) ∨ ((k < i ∨ i + 1 < k) ∧ Ls[k]? = some (some w) ∧ (k + 1 = i → w.category ≠ 2)) := fun k w hk => by
    by_cases e' : i + 1 = k
    · subst e'
      rw [List.getElem?_set_self (by simp [clr_len]; exact hi)] at hk
      cases hk
    · rw [List.getElem?_set_ne e'] at hk
      by_cases e : i = k
      · subst e
        rw [List.getElem?_set_self (by rw [clr_len]; omega)] at hk
        cases hk; exact Or.inl ⟨rfl, rfl⟩
      · rw [List.getElem?_set_ne e] at hk
        exact Or.inr ⟨by omega, clr_get hk⟩
  have hlen : (((clr Ls i).set i (some v)).set (i + 1) none).length = Ls.length := by simp [clr_len]
  have hgo : L[i]? = some L[i] := Array.getElem?_eq_getElem hi0
  have hW := h.2.1
  -- the first half: l1
  have key : ∃ l1, storeLocals L i (sh n v) = storeSelf l1 i (sh n v) ∧ l1.size = L.size ∧ (∀ k, k + 1 = i → ∀ w : Value, L[k]? = some (Slot.val w) → w.category = 2 → l1[k]? = some .unset) ∧
      (∀ k, k < i ∨ i + 1 < k → l1[k]? = L[k]? ∨ (l1[k]? = some .unset ∧ k + 1 = i ∧ ∃ w : Value, L[k]? = some (Slot.val w) ∧ w.category = 2)) ∧
      ((∃ w : Value, l1[i + 1]? = some (Slot.val w) ∧ w.category = 2) → L[i + 1]? = l1[i + 1]?) ∧ (L[i + 1]? = l1[i + 1]? ∨ L[i + 1]? = some .second) := by
    cases hq : L[i] with
    | unset =>
      rw [hq] at hgo
      refine ⟨L, by simp [storeLocals, hgo, hq], rfl, ?_, fun k _ => Or.inl rfl, fun _ => rfl, Or.inl rfl⟩
      intro k hk w hw hw2; have := hW.1 k w hw hw2; simp only [hk] at this; rw [hgo] at this; cases this
    | second =>
      rw [hq] at hgo
      obtain ⟨w0, i1, hw0, hw2⟩ := hW.2 _ hgo
      simp only at hw0
      have hi1 : i - 1 < L.size := by omega
      refine ⟨L.setIfInBounds (i - 1) .unset, by simp [storeLocals, setAt, hgo, hi1, hq], by simp, ?_, ?_, fun _ => by rw [get_set _ _ _ _ hi1, if_neg (by omega)], Or.inl (by rw [get_set _ _ _ _ hi1, if_neg (by omega)])⟩
      · intro k hk w hw hw2'; rw [get_set _ _ _ _ hi1, if_pos (by omega)]
      · intro k hk; rw [get_set _ _ _ _ hi1]
        by_cases e : i - 1 = k
        · subst e; rw [if_pos rfl]; exact Or.inr ⟨rfl, by omega, w0, hw0, hw2⟩
        · rw [if_neg e]; exact Or.inl rfl
    | val old =>
      rw [hq] at hgo
      have hnl : ∀ k, k + 1 = i → ∀ w : Value, L[k]? = some (Slot.val w) → w.category = 2 → False := fun k hk w hw hw2 => by
        have := hW.1 k w hw hw2; simp only [hk] at this; rw [hgo] at this; cases this
      by_cases ho : old.category = 2
      · have hn : L[i + 1]? = some .second := hW.1 i old hgo ho
        refine ⟨L.setIfInBounds (i + 1) .unset, by simp [storeLocals, setAt, hgo, hiL, ho, hq], by simp, fun k hk w hw hw2 => (hnl k hk w hw hw2).elim, ?_, ?_, Or.inr hn⟩
        · intro k hk; left; rw [get_set _ _ _ _ hiL, if_neg (by omega)]
        · rintro ⟨w, a, -⟩; rw [get_set _ _ _ _ hiL, if_pos rfl] at a; cases a
      · exact ⟨L, by simp [storeLocals, hgo, ho, hq], rfl, fun k hk w hw hw2 => (hnl k hk w hw hw2).elim, fun k _ => Or.inl rfl, fun _ => rfl, Or.inl rfl⟩
  obtain ⟨l1, k1, k2, k3, k4, k5, k6⟩ := key
  have hw2 : ∀ w : Value, l1[i + 1]? = some (Slot.val w) → w.category = 2 → i + 2 < l1.size := fun w a b => by
    have e := k5 ⟨w, a, b⟩
    rw [a] at e
    have := hW.1 (i + 1) w e b
    rw [k2]; exact (Array.getElem?_eq_some_iff.mp this).1
  obtain ⟨l', s1, s2, s3, s4, s5, s6⟩ := self_2 (v := sh n v) hcs (by rw [k2]; exact hiL) hw2
  refine ⟨l', by rw [k1]; exact s1, lrel_gen (i := i) (last := i + 1) (v := v) h (by rw [s2, k2]) hlen (Or.inl ⟨hc, rfl, s4⟩) s3 ?_ ?_ ?_ hs⟩
  · intro k hk w hw hw2'; rw [s5 k (by omega)]; exact k3 k hk w hw hw2'
  · intro hk
    obtain ⟨w, -, a, b⟩ := hW.2 _ hk
    simp only [Nat.add_sub_cancel] at a
    rcases s6 with ⟨-, q⟩ | ⟨q, -⟩
    · exact q
    · rcases k6 with k6 | k6
      · exact absurd ⟨w, by rw [← k6]; exact a, b⟩ q
      · rw [a] at k6; cases k6
  · intro k hk
    by_cases e : k = i + 2
    · subst e
      rcases s6 with ⟨⟨w, a, b⟩, q⟩ | ⟨-, q⟩
      · have e := k5 ⟨w, a, b⟩
        rw [a] at e
        exact Or.inr ⟨q, Or.inr ⟨rfl, hW.1 (i + 1) w e b⟩⟩
      · rcases k4 (i + 2) (by omega) with r | ⟨-, r, -⟩
        · left; rw [q, r]
        · omega
    · rw [s5 k (by omega)]
      rcases k4 k hk with r | ⟨r1, r2, r3⟩
      · exact Or.inl r
      · exact Or.inr ⟨r1, Or.inl ⟨r2, r3⟩⟩
/-! the entry -/
def aloc1 : List Value → List (Option Value)
  | [] => []
  | v :: r => if v.category = 2 then some v :: none :: aloc1 r else some v :: aloc1 r
def aloc (as : List Value) (maxL : Nat) : List (Option Value) := aloc1 as ++ List.replicate (maxL - (aloc1 as).length) none
def aslot : List Value → List Slot
  | [] => []
  | v :: r => if v.category = 2 then .val v :: .second :: aslot r else .val v :: aslot r
theorem aslot_eq (as : List Value) : ∀ acc : Array Slot, as.foldl (fun acc v => if v.category = 2 then (acc.push (Slot.val v)).push Slot.second else acc.push (Slot.val v)) acc = acc ++ (aslot as).toArray := by
  induction as with
  | nil => intro acc; simp [aslot]
  | cons v r ih =>
    intro acc
    rw [List.foldl_cons, ih]
    simp only [aslot]
    split <;> (apply Array.ext'; simp)
theorem aslot_len (n : Nat) (as : List Value) : (aslot (as.map (sh n))).length = (aloc1 as).length := by
  induction as with
  | nil => rfl
  | cons v r ih => simp only [List.map_cons, aslot, aloc1, sh_cat]; split <;> simp [ih]
theorem aslot_wf (as : List Value) : (∀ (k : Nat) (v : Value), (aslot as)[k]? = some (Slot.val v) → v.category = 2 → (aslot as)[k + 1]? = some .second) ∧ (∀ k, (aslot as)[k]? = some .second → ∃ v : Value, 1 ≤ k ∧ (aslot as)[k - 1]? = some (Slot.val v) ∧ v.category = 2) := by
  induction as with
  | nil => constructor <;> intro k <;> simp [aslot]
  | cons v r ih =>
    simp only [aslot]
    by_cases h : v.category = 2
    · rw [if_pos h]
      constructor
      · intro k w hk hw
        match k, hk with
        | 0, hk => rfl
        | 1, hk => simp at hk
        | k + 2, hk => simpa using ih.1 k w (by simpa using hk) hw
      · intro k hk
        match k, hk with
        | 0, hk => simp at hk
        | 1, hk => exact ⟨v, by omega, by simp, h⟩
        | k + 2, hk =>
          obtain ⟨w, a, b, c⟩ := ih.2 k (by simpa using hk)
          match k, a, b with
          | k + 1, a, b => exact ⟨w, by omega, by simpa using b, c⟩
    · rw [if_neg h]
      constructor
      · intro k w hk hw
        match k, hk with
        | 0, hk => simp at hk; subst hk; exact absurd hw h
        | k + 1, hk => simpa using ih.1 k w (by simpa using hk) hw
      · intro k hk
        match k, hk with
        | 0, hk => simp at hk
        | k + 1, hk =>
          obtain ⟨w, a, b, c⟩ := ih.2 k (by simpa using hk)
          match k, a, b with
          | k + 1, a, b => exact ⟨w, by omega, by simpa using b, c⟩
theorem aslot_val (n : Nat) (as : List Value) : ∀ (k : Nat) (v : Value), (aloc1 as)[k]? = some (some v) → (aslot (as.map (sh n)))[k]? = some (Slot.val (sh n v)) := by
  induction as with
  | nil => intro k v; simp [aloc1]
  | cons v r ih =>
    intro k w
    simp only [aloc1, List.map_cons, aslot, sh_cat]
    split
    · match k with
      | 0 => simp; intro h; rw [h]
      | 1 => simp
      | k + 2 => simpa using ih k w
    · match k with
      | 0 => simp; intro h; rw [h]
      | k + 1 => simpa using ih k w
theorem entry_rel (n : Nat) (as : List Value) (maxL : Nat) : Lrel n (aloc as maxL) (argsToLocals (as.map (sh n)).toArray maxL) := by
  have e : argsToLocals (as.map (sh n)).toArray maxL = (aslot (as.map (sh n)) ++ List.replicate (maxL - (aloc1 as).length) Slot.unset).toArray := by
    unfold argsToLocals
    simp only [List.foldl_toArray']
    rw [aslot_eq]
    apply Array.ext'
    simp [aslot_len]
  rw [e]
  have hl := aslot_len n as
  refine ⟨by simp [aloc, hl], ?_, ?_⟩
  · have hw := aslot_wf (as.map (sh n))
    constructor
    · intro k v hk hv
      simp only [List.getElem?_toArray] at hk ⊢
      by_cases h : k < (aslot (as.map (sh n))).length
      · rw [List.getElem?_append_left h] at hk
        have q := hw.1 k v hk hv
        rw [List.getElem?_append_left (List.getElem?_eq_some_iff.mp q).1]; exact q
      · rw [List.getElem?_append_right (by omega), List.getElem?_replicate] at hk
        split at hk <;> cases hk
    · intro k hk
      simp only [List.getElem?_toArray] at hk ⊢
      by_cases h : k < (aslot (as.map (sh n))).length
      · rw [List.getElem?_append_left h] at hk
        obtain ⟨v, a, b, c⟩ := hw.2 k hk
        exact ⟨v, a, by rw [List.getElem?_append_left (List.getElem?_eq_some_iff.mp b).1]; exact b, c⟩
      · rw [List.getElem?_append_right (by omega), List.getElem?_replicate] at hk
        split at hk <;> cases hk
  · intro k v hk
    simp only [List.getElem?_toArray]
    simp only [aloc] at hk
    by_cases h : k < (aloc1 as).length
    · rw [List.getElem?_append_left h] at hk
      rw [List.getElem?_append_left (by rw [hl]; exact h)]; exact aslot_val n as k v hk
    · rw [List.getElem?_append_right (by omega), List.getElem?_replicate] at hk
      split at hk <;> cases hk
/-! the heap -/
def ObjOk (Z : State) (n : Nat) (h : Heap) (a : Addr) : Obj → Prop
  | .inl (ty, vs) => Exa Z h a ("[" ++ ty.toString) ∧ ∃ c : Cell, Arr Z h a c ty ∧ c.slots = (vs.map (sh n)).toArray
  | .inr (t, vs) => Exa Z h a (lay t).1 ∧ vs.length = (lay t).2.length ∧ ∀ (k : Nat) (nd : String × String) (v : Value), (lay t).2[k]? = some nd → vs[k]? = some v → Fld Z h a (lay t).1 nd.1 nd.2 (sh n v)
def Sim (G : Gx) (H : List Obj) (h : Heap) : Prop := h.size = G.2.2.2 + H.length ∧ ∀ (i : Nat) (o : Obj), H[i]? = some o → ObjOk G.2.1 G.2.2.2 h (G.2.2.2 + i) o
def Done (G : Gx) (K : Kx) (rv : Option Value) (Hf : List Obj) (S0 : State) : Prop := match G, K with
  | (l, Z, a0, n), (p, e, R, s, m, args, below, meth, c, kc, ks) =>
    ∃ t o, Steps p.tables e below S0 t ∧ t.status = .running ∧ Ended t below o ∧ ∃ v L, o = .returned v ∧ (v = rv.map (sh n) ∧ Fr n L ∧ Sim (l, Z, a0, n) Hf t.heap ∧ s.heap.size + kc = n + Hf.length) ∧ FrameEnd s o t L kc ks
def Run (G : Gx) (K : Kx) (rv : Option Value) (Hf : List Obj) (pc : Nat) (Ls : List (Option Value)) (st : List Value) (H : List Obj) (cells slots : Nat) : Prop := match G, K with
  | (l, Z, a0, n), (p, e, R, s, m, args, below, meth, c, kc, ks) => ∀ T locs real, Stand p l e R s m args below meth c T locs cells slots → Fr n locs → Sim (l, Z, a0, n) H T.heap → s.heap.size + cells = n + H.length → Lrel n Ls real →
    Done (l, Z, a0, n) (p, e, R, s, m, args, below, meth, c, kc, ks) rv Hf (T.setTop (mkF m pc real (st.map (sh n))))
def Ok (G : Gx) (K : Kx) (own : String) (bytes : ByteArray) (maxL : Nat) (ret : Option FieldType) (R : Room) (mn : String) (kc ks : Nat) : Prop := match G, K with
  | (l, Z, a0, n), (p, e, R', s, m, args, below, meth, c, kc', ks') => p.tables.exec = Jvm.exec ∧ Z.Warmed39 s.vm ∧ s.vm.findClass own = some m.cls ∧ c.code = bytes ∧ c.maxLocals = maxL ∧ meth.sig.returnType = ret ∧ meth.locks = false ∧ R' = R ∧ meth.name = mn ∧ kc' = kc ∧ ks' = ks ∧ ∀ d ∈ tables_1, d.before a0 Z = true
def Con (G : Gx) (y : MethodName) (bytes : ByteArray) (maxL : Nat) (ret : Option FieldType) (rm : Room) (as : List Value) (H : List Obj) (rv : Option Value) (Hf : List Obj) : Prop := match G with
  | (l, Z, a0, n) => ∀ h0, Sim (l, Z, a0, n) H h0 → MetFree l y (head1 [Cond.code y bytes maxL ret] rm) (fun a U => a = (as.map (sh n)).toArray ∧ Z.Warmed39 U.vm ∧ U.heap = h0) (fun _ _ _ _ _ => True)
      (fun _ U o U' => ∃ v L, o = .returned v ∧ (v = rv.map (sh n) ∧ Fr n L ∧ Sim (l, Z, a0, n) Hf U'.heap ∧ Hf.length = H.length + rm.cells) ∧ FrameEnd U o U' L rm.cells rm.slots)
section Laws
variable {G : Gx} {K : Kx} {rv : Option Value} {Hf : List Obj} {pc pc' : Nat} {Ls Ls' : List (Option Value)} {st : List Value} {H : List Obj} {cells slots : Nat} {own : String} {bytes : ByteArray} {maxL : Nat} {ret : Option FieldType} {R : Room} {mn : String} {kc ks : Nat}
theorem Done.step {l : Launch} {Z : State} {a0 : Array Value} {n : Nat} {p : Program} {e : Env} {R : Room} {s : State} {m : MethodId} {args : Array Value} {below : List Frame} {meth : Method} {c : Code} {kc ks : Nat} {S0 S1 : State}
    (h : ∀ t, Steps p.tables e below S1 t → Steps p.tables e below S0 t) (k : Done (l, Z, a0, n) (p, e, R, s, m, args, below, meth, c, kc, ks) rv Hf S1) : Done (l, Z, a0, n) (p, e, R, s, m, args, below, meth, c, kc, ks) rv Hf S0 := by
  obtain ⟨t, o, h1, r⟩ := k
  exact ⟨t, o, h t h1, r⟩
theorem g_iconst {i : Int} {v : Int32} (O : Ok G K own bytes maxL ret R mn kc ks) (hd : decode bytes pc = .ok (.iconst i, 1)) (hv : Int32.ofInt i = v) (hp : pc + 1 = pc')
    (k : Run G K rv Hf pc' Ls (.int v :: st) H cells slots) : Run G K rv Hf pc Ls (st) H cells slots := by
  obtain ⟨l, Z, a0, n⟩ := G; obtain ⟨p, e, R', s, m, args, below, meth, c, kc', ks'⟩ := K
  obtain ⟨hx, hZ, hown, hby, hml, hret, hlk, rfl, hnm, rfl, rfl, hw⟩ := O
  subst hp
  intro T locs real X N S A L
  exact Done.step (fun t q => XT.iconstV X.here hx rfl v (hb hby hd) hv q) (k T locs real X N S A L)
theorem g_bipush {i : Int} {v : Int32} (O : Ok G K own bytes maxL ret R mn kc ks) (hd : decode bytes pc = .ok (.bipush i, 2)) (hv : (Int8.ofInt i).toInt32 = v) (hp : pc + 2 = pc')
    (k : Run G K rv Hf pc' Ls (.int v :: st) H cells slots) : Run G K rv Hf pc Ls (st) H cells slots := by
  obtain ⟨l, Z, a0, n⟩ := G; obtain ⟨p, e, R', s, m, args, below, meth, c, kc', ks'⟩ := K
  obtain ⟨hx, hZ, hown, hby, hml, hret, hlk, rfl, hnm, rfl, rfl, hw⟩ := O
  subst hp
  intro T locs real X N S A L
  exact Done.step (fun t q => XT.bipushV X.here hx rfl v (hb hby hd) hv q) (k T locs real X N S A L)
theorem g_sipush {i : Int} {v : Int32} (O : Ok G K own bytes maxL ret R mn kc ks) (hd : decode bytes pc = .ok (.sipush i, 3)) (hv : (Int16.ofInt i).toInt32 = v) (hp : pc + 3 = pc')
    (k : Run G K rv Hf pc' Ls (.int v :: st) H cells slots) : Run G K rv Hf pc Ls (st) H cells slots := by
  obtain ⟨l, Z, a0, n⟩ := G; obtain ⟨p, e, R', s, m, args, below, meth, c, kc', ks'⟩ := K
  obtain ⟨hx, hZ, hown, hby, hml, hret, hlk, rfl, hnm, rfl, rfl, hw⟩ := O
  subst hp
  intro T locs real X N S A L
  exact Done.step (fun t q => XT.sipushV X.here hx rfl v (hb hby hd) hv q) (k T locs real X N S A L)
theorem g_lconst {i : Fin 2} {v : Int64} (O : Ok G K own bytes maxL ret R mn kc ks) (hd : decode bytes pc = .ok (.lconst i, 1)) (hv : Int64.ofNat i = v) (hp : pc + 1 = pc')
    (k : Run G K rv Hf pc' Ls (.long v :: st) H cells slots) : Run G K rv Hf pc Ls (st) H cells slots := by
  obtain ⟨l, Z, a0, n⟩ := G; obtain ⟨p, e, R', s, m, args, below, meth, c, kc', ks'⟩ := K
  obtain ⟨hx, hZ, hown, hby, hml, hret, hlk, rfl, hnm, rfl, rfl, hw⟩ := O
  subst hp
  intro T locs real X N S A L
  exact Done.step (fun t q => XT.lconstV X.here hx rfl v (hb hby hd) hv q) (k T locs real X N S A L)
theorem g_iadd {x y : Int32} (O : Ok G K own bytes maxL ret R mn kc ks) (hd : decode bytes pc = .ok (.iadd, 1))  (hp : pc + 1 = pc')
    (k : Run G K rv Hf pc' Ls (.int (x + y) :: st) H cells slots) : Run G K rv Hf pc Ls (.int y :: .int x :: st) H cells slots := by
  obtain ⟨l, Z, a0, n⟩ := G; obtain ⟨p, e, R', s, m, args, below, meth, c, kc', ks'⟩ := K
  obtain ⟨hx, hZ, hown, hby, hml, hret, hlk, rfl, hnm, rfl, rfl, hw⟩ := O
  subst hp
  intro T locs real X N S A L
  exact Done.step (fun t q => XS.iadd X.here hx rfl (hb hby hd) rfl q) (k T locs real X N S A L)
theorem g_isub {x y : Int32} (O : Ok G K own bytes maxL ret R mn kc ks) (hd : decode bytes pc = .ok (.isub, 1))  (hp : pc + 1 = pc')
    (k : Run G K rv Hf pc' Ls (.int (x - y) :: st) H cells slots) : Run G K rv Hf pc Ls (.int y :: .int x :: st) H cells slots := by
  obtain ⟨l, Z, a0, n⟩ := G; obtain ⟨p, e, R', s, m, args, below, meth, c, kc', ks'⟩ := K
  obtain ⟨hx, hZ, hown, hby, hml, hret, hlk, rfl, hnm, rfl, rfl, hw⟩ := O
  subst hp
  intro T locs real X N S A L
  exact Done.step (fun t q => XS.isub X.here hx rfl (hb hby hd) rfl q) (k T locs real X N S A L)
theorem g_imul {x y : Int32} (O : Ok G K own bytes maxL ret R mn kc ks) (hd : decode bytes pc = .ok (.imul, 1))  (hp : pc + 1 = pc')
    (k : Run G K rv Hf pc' Ls (.int (x * y) :: st) H cells slots) : Run G K rv Hf pc Ls (.int y :: .int x :: st) H cells slots := by
  obtain ⟨l, Z, a0, n⟩ := G; obtain ⟨p, e, R', s, m, args, below, meth, c, kc', ks'⟩ := K
  obtain ⟨hx, hZ, hown, hby, hml, hret, hlk, rfl, hnm, rfl, rfl, hw⟩ := O
  subst hp
  intro T locs real X N S A L
  exact Done.step (fun t q => XS.imul X.here hx rfl (hb hby hd) rfl q) (k T locs real X N S A L)
theorem g_iand {x y : Int32} (O : Ok G K own bytes maxL ret R mn kc ks) (hd : decode bytes pc = .ok (.iand, 1))  (hp : pc + 1 = pc')
    (k : Run G K rv Hf pc' Ls (.int (x &&& y) :: st) H cells slots) : Run G K rv Hf pc Ls (.int y :: .int x :: st) H cells slots := by
  obtain ⟨l, Z, a0, n⟩ := G; obtain ⟨p, e, R', s, m, args, below, meth, c, kc', ks'⟩ := K
  obtain ⟨hx, hZ, hown, hby, hml, hret, hlk, rfl, hnm, rfl, rfl, hw⟩ := O
  subst hp
  intro T locs real X N S A L
  exact Done.step (fun t q => XS.iand X.here hx rfl (hb hby hd) rfl q) (k T locs real X N S A L)
theorem g_ior {x y : Int32} (O : Ok G K own bytes maxL ret R mn kc ks) (hd : decode bytes pc = .ok (.ior, 1))  (hp : pc + 1 = pc')
    (k : Run G K rv Hf pc' Ls (.int (x ||| y) :: st) H cells slots) : Run G K rv Hf pc Ls (.int y :: .int x :: st) H cells slots := by
  obtain ⟨l, Z, a0, n⟩ := G; obtain ⟨p, e, R', s, m, args, below, meth, c, kc', ks'⟩ := K
  obtain ⟨hx, hZ, hown, hby, hml, hret, hlk, rfl, hnm, rfl, rfl, hw⟩ := O
  subst hp
  intro T locs real X N S A L
  exact Done.step (fun t q => XT.ior X.here hx rfl (hb hby hd) rfl q) (k T locs real X N S A L)
theorem g_ixor {x y : Int32} (O : Ok G K own bytes maxL ret R mn kc ks) (hd : decode bytes pc = .ok (.ixor, 1))  (hp : pc + 1 = pc')
    (k : Run G K rv Hf pc' Ls (.int (x ^^^ y) :: st) H cells slots) : Run G K rv Hf pc Ls (.int y :: .int x :: st) H cells slots := by
  obtain ⟨l, Z, a0, n⟩ := G; obtain ⟨p, e, R', s, m, args, below, meth, c, kc', ks'⟩ := K
  obtain ⟨hx, hZ, hown, hby, hml, hret, hlk, rfl, hnm, rfl, rfl, hw⟩ := O
  subst hp
  intro T locs real X N S A L
  exact Done.step (fun t q => XT.ixor X.here hx rfl (hb hby hd) rfl q) (k T locs real X N S A L)
theorem g_ishl {x y : Int32} (O : Ok G K own bytes maxL ret R mn kc ks) (hd : decode bytes pc = .ok (.ishl, 1))  (hp : pc + 1 = pc')
    (k : Run G K rv Hf pc' Ls (.int (x <<< (y &&& 31)) :: st) H cells slots) : Run G K rv Hf pc Ls (.int y :: .int x :: st) H cells slots := by
  obtain ⟨l, Z, a0, n⟩ := G; obtain ⟨p, e, R', s, m, args, below, meth, c, kc', ks'⟩ := K
  obtain ⟨hx, hZ, hown, hby, hml, hret, hlk, rfl, hnm, rfl, rfl, hw⟩ := O
  subst hp
  intro T locs real X N S A L
  exact Done.step (fun t q => XT.ishl X.here hx rfl (hb hby hd) rfl q) (k T locs real X N S A L)
theorem g_ishr {x y : Int32} (O : Ok G K own bytes maxL ret R mn kc ks) (hd : decode bytes pc = .ok (.ishr, 1))  (hp : pc + 1 = pc')
    (k : Run G K rv Hf pc' Ls (.int (x >>> (y &&& 31)) :: st) H cells slots) : Run G K rv Hf pc Ls (.int y :: .int x :: st) H cells slots := by
  obtain ⟨l, Z, a0, n⟩ := G; obtain ⟨p, e, R', s, m, args, below, meth, c, kc', ks'⟩ := K
  obtain ⟨hx, hZ, hown, hby, hml, hret, hlk, rfl, hnm, rfl, rfl, hw⟩ := O
  subst hp
  intro T locs real X N S A L
  exact Done.step (fun t q => XT.ishr X.here hx rfl (hb hby hd) rfl q) (k T locs real X N S A L)
theorem g_iushr {x y : Int32} (O : Ok G K own bytes maxL ret R mn kc ks) (hd : decode bytes pc = .ok (.iushr, 1))  (hp : pc + 1 = pc')
    (k : Run G K rv Hf pc' Ls (.int (XT.ushr x y) :: st) H cells slots) : Run G K rv Hf pc Ls (.int y :: .int x :: st) H cells slots := by
  obtain ⟨l, Z, a0, n⟩ := G; obtain ⟨p, e, R', s, m, args, below, meth, c, kc', ks'⟩ := K
  obtain ⟨hx, hZ, hown, hby, hml, hret, hlk, rfl, hnm, rfl, rfl, hw⟩ := O
  subst hp
  intro T locs real X N S A L
  exact Done.step (fun t q => XT.iushr X.here hx rfl (hb hby hd) rfl q) (k T locs real X N S A L)
theorem g_ladd {x y : Int64} (O : Ok G K own bytes maxL ret R mn kc ks) (hd : decode bytes pc = .ok (.ladd, 1))  (hp : pc + 1 = pc')
    (k : Run G K rv Hf pc' Ls (.long (x + y) :: st) H cells slots) : Run G K rv Hf pc Ls (.long y :: .long x :: st) H cells slots := by
  obtain ⟨l, Z, a0, n⟩ := G; obtain ⟨p, e, R', s, m, args, below, meth, c, kc', ks'⟩ := K
  obtain ⟨hx, hZ, hown, hby, hml, hret, hlk, rfl, hnm, rfl, rfl, hw⟩ := O
  subst hp
  intro T locs real X N S A L
  exact Done.step (fun t q => XT.ladd X.here hx rfl (hb hby hd) rfl q) (k T locs real X N S A L)
theorem g_lsub {x y : Int64} (O : Ok G K own bytes maxL ret R mn kc ks) (hd : decode bytes pc = .ok (.lsub, 1))  (hp : pc + 1 = pc')
    (k : Run G K rv Hf pc' Ls (.long (x - y) :: st) H cells slots) : Run G K rv Hf pc Ls (.long y :: .long x :: st) H cells slots := by
  obtain ⟨l, Z, a0, n⟩ := G; obtain ⟨p, e, R', s, m, args, below, meth, c, kc', ks'⟩ := K
  obtain ⟨hx, hZ, hown, hby, hml, hret, hlk, rfl, hnm, rfl, rfl, hw⟩ := O
  subst hp
  intro T locs real X N S A L
  exact Done.step (fun t q => XT.lsub X.here hx rfl (hb hby hd) rfl q) (k T locs real X N S A L)
theorem g_lmul {x y : Int64} (O : Ok G K own bytes maxL ret R mn kc ks) (hd : decode bytes pc = .ok (.lmul, 1))  (hp : pc + 1 = pc')
    (k : Run G K rv Hf pc' Ls (.long (x * y) :: st) H cells slots) : Run G K rv Hf pc Ls (.long y :: .long x :: st) H cells slots := by
  obtain ⟨l, Z, a0, n⟩ := G; obtain ⟨p, e, R', s, m, args, below, meth, c, kc', ks'⟩ := K
  obtain ⟨hx, hZ, hown, hby, hml, hret, hlk, rfl, hnm, rfl, rfl, hw⟩ := O
  subst hp
  intro T locs real X N S A L
  exact Done.step (fun t q => XT.lmul X.here hx rfl (hb hby hd) rfl q) (k T locs real X N S A L)
theorem g_land {x y : Int64} (O : Ok G K own bytes maxL ret R mn kc ks) (hd : decode bytes pc = .ok (.land, 1))  (hp : pc + 1 = pc')
    (k : Run G K rv Hf pc' Ls (.long (x &&& y) :: st) H cells slots) : Run G K rv Hf pc Ls (.long y :: .long x :: st) H cells slots := by
  obtain ⟨l, Z, a0, n⟩ := G; obtain ⟨p, e, R', s, m, args, below, meth, c, kc', ks'⟩ := K
  obtain ⟨hx, hZ, hown, hby, hml, hret, hlk, rfl, hnm, rfl, rfl, hw⟩ := O
  subst hp
  intro T locs real X N S A L
  exact Done.step (fun t q => XT.land X.here hx rfl (hb hby hd) rfl q) (k T locs real X N S A L)
theorem g_lor {x y : Int64} (O : Ok G K own bytes maxL ret R mn kc ks) (hd : decode bytes pc = .ok (.lor, 1))  (hp : pc + 1 = pc')
    (k : Run G K rv Hf pc' Ls (.long (x ||| y) :: st) H cells slots) : Run G K rv Hf pc Ls (.long y :: .long x :: st) H cells slots := by
  obtain ⟨l, Z, a0, n⟩ := G; obtain ⟨p, e, R', s, m, args, below, meth, c, kc', ks'⟩ := K
  obtain ⟨hx, hZ, hown, hby, hml, hret, hlk, rfl, hnm, rfl, rfl, hw⟩ := O
  subst hp
  intro T locs real X N S A L
  exact Done.step (fun t q => XT.lor X.here hx rfl (hb hby hd) rfl q) (k T locs real X N S A L)
theorem g_lxor {x y : Int64} (O : Ok G K own bytes maxL ret R mn kc ks) (hd : decode bytes pc = .ok (.lxor, 1))  (hp : pc + 1 = pc')
    (k : Run G K rv Hf pc' Ls (.long (x ^^^ y) :: st) H cells slots) : Run G K rv Hf pc Ls (.long y :: .long x :: st) H cells slots := by
  obtain ⟨l, Z, a0, n⟩ := G; obtain ⟨p, e, R', s, m, args, below, meth, c, kc', ks'⟩ := K
  obtain ⟨hx, hZ, hown, hby, hml, hret, hlk, rfl, hnm, rfl, rfl, hw⟩ := O
  subst hp
  intro T locs real X N S A L
  exact Done.step (fun t q => XT.lxor X.here hx rfl (hb hby hd) rfl q) (k T locs real X N S A L)
theorem g_lshl {x : Int64} {y : Int32} (O : Ok G K own bytes maxL ret R mn kc ks) (hd : decode bytes pc = .ok (.lshl, 1))  (hp : pc + 1 = pc')
    (k : Run G K rv Hf pc' Ls (.long (x <<< (y.toInt64 &&& 63)) :: st) H cells slots) : Run G K rv Hf pc Ls (.int y :: .long x :: st) H cells slots := by
  obtain ⟨l, Z, a0, n⟩ := G; obtain ⟨p, e, R', s, m, args, below, meth, c, kc', ks'⟩ := K
  obtain ⟨hx, hZ, hown, hby, hml, hret, hlk, rfl, hnm, rfl, rfl, hw⟩ := O
  subst hp
  intro T locs real X N S A L
  exact Done.step (fun t q => XT.lshl X.here hx rfl (hb hby hd) rfl q) (k T locs real X N S A L)
theorem g_lshr {x : Int64} {y : Int32} (O : Ok G K own bytes maxL ret R mn kc ks) (hd : decode bytes pc = .ok (.lshr, 1))  (hp : pc + 1 = pc')
    (k : Run G K rv Hf pc' Ls (.long (x >>> (y.toInt64 &&& 63)) :: st) H cells slots) : Run G K rv Hf pc Ls (.int y :: .long x :: st) H cells slots := by
  obtain ⟨l, Z, a0, n⟩ := G; obtain ⟨p, e, R', s, m, args, below, meth, c, kc', ks'⟩ := K
  obtain ⟨hx, hZ, hown, hby, hml, hret, hlk, rfl, hnm, rfl, rfl, hw⟩ := O
  subst hp
  intro T locs real X N S A L
  exact Done.step (fun t q => XT.lshr X.here hx rfl (hb hby hd) rfl q) (k T locs real X N S A L)
theorem g_lushr {x : Int64} {y : Int32} (O : Ok G K own bytes maxL ret R mn kc ks) (hd : decode bytes pc = .ok (.lushr, 1))  (hp : pc + 1 = pc')
    (k : Run G K rv Hf pc' Ls (.long (XT.ushrL x y) :: st) H cells slots) : Run G K rv Hf pc Ls (.int y :: .long x :: st) H cells slots := by
  obtain ⟨l, Z, a0, n⟩ := G; obtain ⟨p, e, R', s, m, args, below, meth, c, kc', ks'⟩ := K
  obtain ⟨hx, hZ, hown, hby, hml, hret, hlk, rfl, hnm, rfl, rfl, hw⟩ := O
  subst hp
  intro T locs real X N S A L
  exact Done.step (fun t q => XT.lushr X.here hx rfl (hb hby hd) rfl q) (k T locs real X N S A L)
theorem g_idiv {x y : Int32} (O : Ok G K own bytes maxL ret R mn kc ks) (hd : decode bytes pc = .ok (.idiv, 1)) (hy : y ≠ 0) (hp : pc + 1 = pc')
    (k : Run G K rv Hf pc' Ls (.int (x / y) :: st) H cells slots) : Run G K rv Hf pc Ls (.int y :: .int x :: st) H cells slots := by
  obtain ⟨l, Z, a0, n⟩ := G; obtain ⟨p, e, R', s, m, args, below, meth, c, kc', ks'⟩ := K
  obtain ⟨hx, hZ, hown, hby, hml, hret, hlk, rfl, hnm, rfl, rfl, hw⟩ := O
  subst hp
  intro T locs real X N S A L
  exact Done.step (fun t q => XS.idiv X.here hx rfl (hb hby hd) rfl hy q) (k T locs real X N S A L)
theorem g_irem {x y : Int32} (O : Ok G K own bytes maxL ret R mn kc ks) (hd : decode bytes pc = .ok (.irem, 1)) (hy : y ≠ 0) (hp : pc + 1 = pc')
    (k : Run G K rv Hf pc' Ls (.int (x % y) :: st) H cells slots) : Run G K rv Hf pc Ls (.int y :: .int x :: st) H cells slots := by
  obtain ⟨l, Z, a0, n⟩ := G; obtain ⟨p, e, R', s, m, args, below, meth, c, kc', ks'⟩ := K
  obtain ⟨hx, hZ, hown, hby, hml, hret, hlk, rfl, hnm, rfl, rfl, hw⟩ := O
  subst hp
  intro T locs real X N S A L
  exact Done.step (fun t q => iremM X hx rfl (hb hby hd) rfl hy q) (k T locs real X N S A L)
theorem g_ldiv {x y : Int64} (O : Ok G K own bytes maxL ret R mn kc ks) (hd : decode bytes pc = .ok (.ldiv, 1)) (hy : y ≠ 0) (hp : pc + 1 = pc')
    (k : Run G K rv Hf pc' Ls (.long (x / y) :: st) H cells slots) : Run G K rv Hf pc Ls (.long y :: .long x :: st) H cells slots := by
  obtain ⟨l, Z, a0, n⟩ := G; obtain ⟨p, e, R', s, m, args, below, meth, c, kc', ks'⟩ := K
  obtain ⟨hx, hZ, hown, hby, hml, hret, hlk, rfl, hnm, rfl, rfl, hw⟩ := O
  subst hp
  intro T locs real X N S A L
  exact Done.step (fun t q => XT.ldiv X.here hx rfl (hb hby hd) rfl hy q) (k T locs real X N S A L)
theorem g_lrem {x y : Int64} (O : Ok G K own bytes maxL ret R mn kc ks) (hd : decode bytes pc = .ok (.lrem, 1)) (hy : y ≠ 0) (hp : pc + 1 = pc')
    (k : Run G K rv Hf pc' Ls (.long (x % y) :: st) H cells slots) : Run G K rv Hf pc Ls (.long y :: .long x :: st) H cells slots := by
  obtain ⟨l, Z, a0, n⟩ := G; obtain ⟨p, e, R', s, m, args, below, meth, c, kc', ks'⟩ := K
  obtain ⟨hx, hZ, hown, hby, hml, hret, hlk, rfl, hnm, rfl, rfl, hw⟩ := O
  subst hp
  intro T locs real X N S A L
  exact Done.step (fun t q => XT.lrem X.here hx rfl (hb hby hd) rfl hy (by rw [lrem_mod]; exact q)) (k T locs real X N S A L)
theorem g_i2l {x : Int32} (O : Ok G K own bytes maxL ret R mn kc ks) (hd : decode bytes pc = .ok (.i2l, 1))  (hp : pc + 1 = pc')
    (k : Run G K rv Hf pc' Ls (.long x.toInt64 :: st) H cells slots) : Run G K rv Hf pc Ls (.int x :: st) H cells slots := by
  obtain ⟨l, Z, a0, n⟩ := G; obtain ⟨p, e, R', s, m, args, below, meth, c, kc', ks'⟩ := K
  obtain ⟨hx, hZ, hown, hby, hml, hret, hlk, rfl, hnm, rfl, rfl, hw⟩ := O
  subst hp
  intro T locs real X N S A L
  exact Done.step (fun t q => XT.i2l X.here hx rfl (hb hby hd) rfl q) (k T locs real X N S A L)
theorem g_l2i {x : Int64} (O : Ok G K own bytes maxL ret R mn kc ks) (hd : decode bytes pc = .ok (.l2i, 1))  (hp : pc + 1 = pc')
    (k : Run G K rv Hf pc' Ls (.int x.toInt32 :: st) H cells slots) : Run G K rv Hf pc Ls (.long x :: st) H cells slots := by
  obtain ⟨l, Z, a0, n⟩ := G; obtain ⟨p, e, R', s, m, args, below, meth, c, kc', ks'⟩ := K
  obtain ⟨hx, hZ, hown, hby, hml, hret, hlk, rfl, hnm, rfl, rfl, hw⟩ := O
  subst hp
  intro T locs real X N S A L
  exact Done.step (fun t q => XT.l2i X.here hx rfl (hb hby hd) rfl q) (k T locs real X N S A L)
theorem g_i2b {x : Int32} (O : Ok G K own bytes maxL ret R mn kc ks) (hd : decode bytes pc = .ok (.i2b, 1))  (hp : pc + 1 = pc')
    (k : Run G K rv Hf pc' Ls (.int x.toInt8.toInt32 :: st) H cells slots) : Run G K rv Hf pc Ls (.int x :: st) H cells slots := by
  obtain ⟨l, Z, a0, n⟩ := G; obtain ⟨p, e, R', s, m, args, below, meth, c, kc', ks'⟩ := K
  obtain ⟨hx, hZ, hown, hby, hml, hret, hlk, rfl, hnm, rfl, rfl, hw⟩ := O
  subst hp
  intro T locs real X N S A L
  exact Done.step (fun t q => XT.i2b X.here hx rfl (hb hby hd) rfl q) (k T locs real X N S A L)
theorem g_i2c {x : Int32} (O : Ok G K own bytes maxL ret R mn kc ks) (hd : decode bytes pc = .ok (.i2c, 1))  (hp : pc + 1 = pc')
    (k : Run G K rv Hf pc' Ls (.int x.toUInt32.toUInt16.toUInt32.toInt32 :: st) H cells slots) : Run G K rv Hf pc Ls (.int x :: st) H cells slots := by
  obtain ⟨l, Z, a0, n⟩ := G; obtain ⟨p, e, R', s, m, args, below, meth, c, kc', ks'⟩ := K
  obtain ⟨hx, hZ, hown, hby, hml, hret, hlk, rfl, hnm, rfl, rfl, hw⟩ := O
  subst hp
  intro T locs real X N S A L
  exact Done.step (fun t q => XT.i2c X.here hx rfl (hb hby hd) rfl q) (k T locs real X N S A L)
theorem g_dup {x : Value} (O : Ok G K own bytes maxL ret R mn kc ks) (hd : decode bytes pc = .ok (.dup, 1)) (hc : x.category = 1) (hp : pc + 1 = pc')
    (k : Run G K rv Hf pc' Ls (x :: x :: st) H cells slots) : Run G K rv Hf pc Ls (x :: st) H cells slots := by
  obtain ⟨l, Z, a0, n⟩ := G; obtain ⟨p, e, R', s, m, args, below, meth, c, kc', ks'⟩ := K
  obtain ⟨hx, hZ, hown, hby, hml, hret, hlk, rfl, hnm, rfl, rfl, hw⟩ := O
  subst hp
  intro T locs real X N S A L
  exact Done.step (fun t q => XS.dup X.here hx rfl (hb hby hd) rfl ((sh_cat n x).trans hc) q) (k T locs real X N S A L)
theorem g_dup_x1 {x y : Value} (O : Ok G K own bytes maxL ret R mn kc ks) (hd : decode bytes pc = .ok (.dup_x1, 1)) (hc : x.category = 1) (hc' : y.category = 1) (hp : pc + 1 = pc')
    (k : Run G K rv Hf pc' Ls (x :: y :: x :: st) H cells slots) : Run G K rv Hf pc Ls (x :: y :: st) H cells slots := by
  obtain ⟨l, Z, a0, n⟩ := G; obtain ⟨p, e, R', s, m, args, below, meth, c, kc', ks'⟩ := K
  obtain ⟨hx, hZ, hown, hby, hml, hret, hlk, rfl, hnm, rfl, rfl, hw⟩ := O
  subst hp
  intro T locs real X N S A L
  exact Done.step (fun t q => XT.dupX1 X.here hx rfl (hb hby hd) rfl ((sh_cat n x).trans hc) ((sh_cat n y).trans hc') q) (k T locs real X N S A L)
theorem g_pop {x : Value} (O : Ok G K own bytes maxL ret R mn kc ks) (hd : decode bytes pc = .ok (.pop, 1)) (hc : x.category = 1) (hp : pc + 1 = pc')
    (k : Run G K rv Hf pc' Ls (st) H cells slots) : Run G K rv Hf pc Ls (x :: st) H cells slots := by
  obtain ⟨l, Z, a0, n⟩ := G; obtain ⟨p, e, R', s, m, args, below, meth, c, kc', ks'⟩ := K
  obtain ⟨hx, hZ, hown, hby, hml, hret, hlk, rfl, hnm, rfl, rfl, hw⟩ := O
  subst hp
  intro T locs real X N S A L
  exact Done.step (fun t q => XT.pop X.here hx rfl (hb hby hd) rfl ((sh_cat n x).trans hc) q) (k T locs real X N S A L)
theorem g_iload {j : Nat} {v : Int32} (O : Ok G K own bytes maxL ret R mn kc ks) (hd : decode bytes pc = .ok (.iload j, 2)) (hl : Ls[j]? = some (some (.int v))) (hp : pc + 2 = pc')
    (k : Run G K rv Hf pc' Ls (.int v :: st) H cells slots) : Run G K rv Hf pc Ls st H cells slots := by
  obtain ⟨l, Z, a0, n⟩ := G; obtain ⟨p, e, R', s, m, args, below, meth, c, kc', ks'⟩ := K
  obtain ⟨hx, hZ, hown, hby, hml, hret, hlk, rfl, hnm, rfl, rfl, hw⟩ := O
  subst hp
  intro T locs real X N S A L
  exact Done.step (fun t q => XS.iload X.here hx rfl (hb hby hd) (L.2.2 _ _ hl) q) (k T locs real X N S A L)
theorem g_iload_n {j : Fin 4} {v : Int32} (O : Ok G K own bytes maxL ret R mn kc ks) (hd : decode bytes pc = .ok (.iload_n j, 1)) (hl : Ls[j.val]? = some (some (.int v))) (hp : pc + 1 = pc')
    (k : Run G K rv Hf pc' Ls (.int v :: st) H cells slots) : Run G K rv Hf pc Ls st H cells slots := by
  obtain ⟨l, Z, a0, n⟩ := G; obtain ⟨p, e, R', s, m, args, below, meth, c, kc', ks'⟩ := K
  obtain ⟨hx, hZ, hown, hby, hml, hret, hlk, rfl, hnm, rfl, rfl, hw⟩ := O
  subst hp
  intro T locs real X N S A L
  exact Done.step (fun t q => XS.iloadN X.here hx rfl (hb hby hd) (L.2.2 _ _ hl) q) (k T locs real X N S A L)
theorem g_lload {j : Nat} {v : Int64} (O : Ok G K own bytes maxL ret R mn kc ks) (hd : decode bytes pc = .ok (.lload j, 2)) (hl : Ls[j]? = some (some (.long v))) (hp : pc + 2 = pc')
    (k : Run G K rv Hf pc' Ls (.long v :: st) H cells slots) : Run G K rv Hf pc Ls st H cells slots := by
  obtain ⟨l, Z, a0, n⟩ := G; obtain ⟨p, e, R', s, m, args, below, meth, c, kc', ks'⟩ := K
  obtain ⟨hx, hZ, hown, hby, hml, hret, hlk, rfl, hnm, rfl, rfl, hw⟩ := O
  subst hp
  intro T locs real X N S A L
  exact Done.step (fun t q => XT.lload X.here hx rfl (hb hby hd) (L.2.2 _ _ hl) q) (k T locs real X N S A L)
theorem g_lload_n {j : Fin 4} {v : Int64} (O : Ok G K own bytes maxL ret R mn kc ks) (hd : decode bytes pc = .ok (.lload_n j, 1)) (hl : Ls[j.val]? = some (some (.long v))) (hp : pc + 1 = pc')
    (k : Run G K rv Hf pc' Ls (.long v :: st) H cells slots) : Run G K rv Hf pc Ls st H cells slots := by
  obtain ⟨l, Z, a0, n⟩ := G; obtain ⟨p, e, R', s, m, args, below, meth, c, kc', ks'⟩ := K
  obtain ⟨hx, hZ, hown, hby, hml, hret, hlk, rfl, hnm, rfl, rfl, hw⟩ := O
  subst hp
  intro T locs real X N S A L
  exact Done.step (fun t q => XT.lloadN X.here hx rfl (hb hby hd) (L.2.2 _ _ hl) q) (k T locs real X N S A L)
theorem g_aload {j : Nat} {v : Nat} (O : Ok G K own bytes maxL ret R mn kc ks) (hd : decode bytes pc = .ok (.aload j, 2)) (hl : Ls[j]? = some (some (.ref v))) (hp : pc + 2 = pc')
    (k : Run G K rv Hf pc' Ls (.ref v :: st) H cells slots) : Run G K rv Hf pc Ls st H cells slots := by
  obtain ⟨l, Z, a0, n⟩ := G; obtain ⟨p, e, R', s, m, args, below, meth, c, kc', ks'⟩ := K
  obtain ⟨hx, hZ, hown, hby, hml, hret, hlk, rfl, hnm, rfl, rfl, hw⟩ := O
  subst hp
  intro T locs real X N S A L
  exact Done.step (fun t q => XS.aload X.here hx rfl (hb hby hd) (L.2.2 _ _ hl) rfl q) (k T locs real X N S A L)
theorem g_aload_n {j : Fin 4} {v : Nat} (O : Ok G K own bytes maxL ret R mn kc ks) (hd : decode bytes pc = .ok (.aload_n j, 1)) (hl : Ls[j.val]? = some (some (.ref v))) (hp : pc + 1 = pc')
    (k : Run G K rv Hf pc' Ls (.ref v :: st) H cells slots) : Run G K rv Hf pc Ls st H cells slots := by
  obtain ⟨l, Z, a0, n⟩ := G; obtain ⟨p, e, R', s, m, args, below, meth, c, kc', ks'⟩ := K
  obtain ⟨hx, hZ, hown, hby, hml, hret, hlk, rfl, hnm, rfl, rfl, hw⟩ := O
  subst hp
  intro T locs real X N S A L
  exact Done.step (fun t q => XS.aloadN X.here hx rfl (hb hby hd) (L.2.2 _ _ hl) rfl q) (k T locs real X N S A L)
theorem g_istore {j : Nat} {v : Int32} (O : Ok G K own bytes maxL ret R mn kc ks) (hd : decode bytes pc = .ok (.istore j, 2)) (hl : stor Ls j (.int v) = some Ls') (hp : pc + 2 = pc')
    (k : Run G K rv Hf pc' Ls' st H cells slots) : Run G K rv Hf pc Ls (.int v :: st) H cells slots := by
  obtain ⟨l, Z, a0, n⟩ := G; obtain ⟨p, e, R', s, m, args, below, meth, c, kc', ks'⟩ := K
  obtain ⟨hx, hZ, hown, hby, hml, hret, hlk, rfl, hnm, rfl, rfl, hw⟩ := O
  subst hp
  intro T locs real X N S A L
  obtain ⟨real', e1, L'⟩ := store_1 L rfl hl
  exact Done.step (fun t q => XS.istore X.here hx rfl (hb hby hd) rfl e1 q) (k T locs real' X N S A L')
theorem g_istore_n {j : Fin 4} {v : Int32} (O : Ok G K own bytes maxL ret R mn kc ks) (hd : decode bytes pc = .ok (.istore_n j, 1)) (hl : stor Ls j.val (.int v) = some Ls') (hp : pc + 1 = pc')
    (k : Run G K rv Hf pc' Ls' st H cells slots) : Run G K rv Hf pc Ls (.int v :: st) H cells slots := by
  obtain ⟨l, Z, a0, n⟩ := G; obtain ⟨p, e, R', s, m, args, below, meth, c, kc', ks'⟩ := K
  obtain ⟨hx, hZ, hown, hby, hml, hret, hlk, rfl, hnm, rfl, rfl, hw⟩ := O
  subst hp
  intro T locs real X N S A L
  obtain ⟨real', e1, L'⟩ := store_1 L rfl hl
  exact Done.step (fun t q => XS.istoreN X.here hx rfl (hb hby hd) rfl e1 q) (k T locs real' X N S A L')
theorem g_lstore {j : Nat} {v : Int64} (O : Ok G K own bytes maxL ret R mn kc ks) (hd : decode bytes pc = .ok (.lstore j, 2)) (hl : stor Ls j (.long v) = some Ls') (hp : pc + 2 = pc')
    (k : Run G K rv Hf pc' Ls' st H cells slots) : Run G K rv Hf pc Ls (.long v :: st) H cells slots := by
  obtain ⟨l, Z, a0, n⟩ := G; obtain ⟨p, e, R', s, m, args, below, meth, c, kc', ks'⟩ := K
  obtain ⟨hx, hZ, hown, hby, hml, hret, hlk, rfl, hnm, rfl, rfl, hw⟩ := O
  subst hp
  intro T locs real X N S A L
  obtain ⟨real', e1, L'⟩ := store_2 L rfl hl
  exact Done.step (fun t q => XT.lstore X.here hx rfl (hb hby hd) rfl e1 q) (k T locs real' X N S A L')
theorem g_lstore_n {j : Fin 4} {v : Int64} (O : Ok G K own bytes maxL ret R mn kc ks) (hd : decode bytes pc = .ok (.lstore_n j, 1)) (hl : stor Ls j.val (.long v) = some Ls') (hp : pc + 1 = pc')
    (k : Run G K rv Hf pc' Ls' st H cells slots) : Run G K rv Hf pc Ls (.long v :: st) H cells slots := by
  obtain ⟨l, Z, a0, n⟩ := G; obtain ⟨p, e, R', s, m, args, below, meth, c, kc', ks'⟩ := K
  obtain ⟨hx, hZ, hown, hby, hml, hret, hlk, rfl, hnm, rfl, rfl, hw⟩ := O
  subst hp
  intro T locs real X N S A L
  obtain ⟨real', e1, L'⟩ := store_2 L rfl hl
  exact Done.step (fun t q => XT.lstoreN X.here hx rfl (hb hby hd) rfl e1 q) (k T locs real' X N S A L')
theorem g_astore {j : Nat} {v : Nat} (O : Ok G K own bytes maxL ret R mn kc ks) (hd : decode bytes pc = .ok (.astore j, 2)) (hl : stor Ls j (.ref v) = some Ls') (hp : pc + 2 = pc')
    (k : Run G K rv Hf pc' Ls' st H cells slots) : Run G K rv Hf pc Ls (.ref v :: st) H cells slots := by
  obtain ⟨l, Z, a0, n⟩ := G; obtain ⟨p, e, R', s, m, args, below, meth, c, kc', ks'⟩ := K
  obtain ⟨hx, hZ, hown, hby, hml, hret, hlk, rfl, hnm, rfl, rfl, hw⟩ := O
  subst hp
  intro T locs real X N S A L
  obtain ⟨real', e1, L'⟩ := store_1 L rfl hl
  exact Done.step (fun t q => XS.astore X.here hx rfl (hb hby hd) rfl rfl e1 q) (k T locs real' X N S A L')
theorem g_astore_n {j : Fin 4} {v : Nat} (O : Ok G K own bytes maxL ret R mn kc ks) (hd : decode bytes pc = .ok (.astore_n j, 1)) (hl : stor Ls j.val (.ref v) = some Ls') (hp : pc + 1 = pc')
    (k : Run G K rv Hf pc' Ls' st H cells slots) : Run G K rv Hf pc Ls (.ref v :: st) H cells slots := by
  obtain ⟨l, Z, a0, n⟩ := G; obtain ⟨p, e, R', s, m, args, below, meth, c, kc', ks'⟩ := K
  obtain ⟨hx, hZ, hown, hby, hml, hret, hlk, rfl, hnm, rfl, rfl, hw⟩ := O
  subst hp
  intro T locs real X N S A L
  obtain ⟨real', e1, L'⟩ := store_1 L rfl hl
  exact Done.step (fun t q => XS.astoreN X.here hx rfl (hb hby hd) rfl rfl e1 q) (k T locs real' X N S A L')
theorem g_iinc {j : Nat} {i : Int} {v w : Int32} (O : Ok G K own bytes maxL ret R mn kc ks) (hd : decode bytes pc = .ok (.iinc j i, 3)) (hv : Int32.ofInt i = w) (hg : Ls[j]? = some (some (.int v))) (hl : stor Ls j (.int (v + w)) = some Ls') (hp : pc + 3 = pc')
    (k : Run G K rv Hf pc' Ls' st H cells slots) : Run G K rv Hf pc Ls st H cells slots := by
  obtain ⟨l, Z, a0, n⟩ := G; obtain ⟨p, e, R', s, m, args, below, meth, c, kc', ks'⟩ := K
  obtain ⟨hx, hZ, hown, hby, hml, hret, hlk, rfl, hnm, rfl, rfl, hw⟩ := O
  subst hp
  intro T locs real X N S A L
  obtain ⟨real', e1, L'⟩ := store_1 L rfl hl
  exact Done.step (fun t q => XT.iincV X.here hx rfl w (hb hby hd) hv (L.2.2 _ _ hg) e1 q) (k T locs real' X N S A L')
theorem g_goto {o : Int} (O : Ok G K own bytes maxL ret R mn kc ks) (hd : decode bytes pc = .ok (.goto o, 3)) (ho : 0 ≤ (pc : Int) + o) (hp : ((pc : Int) + o).toNat = pc')
    (k : Run G K rv Hf pc' Ls st H cells slots) : Run G K rv Hf pc Ls st H cells slots := by
  obtain ⟨l, Z, a0, n⟩ := G; obtain ⟨p, e, R', s, m, args, below, meth, c, kc', ks'⟩ := K
  obtain ⟨hx, hZ, hown, hby, hml, hret, hlk, rfl, hnm, rfl, rfl, hw⟩ := O
  intro T locs real X N S A L
  exact Done.step (fun t q => XS.goto X.here hx rfl (pc0 := pc) rfl (hb hby hd) ho hp q) (k T locs real X N S A L)
theorem g_icmp_eq {x y : Int32} {o : Int} {pc1 : Nat} (O : Ok G K own bytes maxL ret R mn kc ks) (hd : decode bytes pc = .ok (.if_icmp .eq o, 3)) (hp : pc + 3 = pc') (ho : 0 ≤ (pc : Int) + o) (ht : ((pc : Int) + o).toNat = pc1)
    (kt : x = y → Run G K rv Hf pc1 Ls st H cells slots) (kf : ¬ x = y → Run G K rv Hf pc' Ls st H cells slots) : Run G K rv Hf pc Ls (.int y :: .int x :: st) H cells slots := by
  obtain ⟨l, Z, a0, n⟩ := G; obtain ⟨p, e, R', s, m, args, below, meth, c, kc', ks'⟩ := K
  obtain ⟨hx, hZ, hown, hby, hml, hret, hlk, rfl, hnm, rfl, rfl, hw⟩ := O
  subst hp
  intro T locs real X N S A L
  by_cases h : x = y
  · exact Done.step (fun t q => XS.icmpYes X.here hx rfl (pc0 := pc) rfl (hb hby hd) rfl (XT.ii_eq_t h) ho ht q) (kt h T locs real X N S A L)
  · exact Done.step (fun t q => XS.icmpNo X.here hx rfl (hb hby hd) rfl (XT.ii_eq_f h) q) (kf h T locs real X N S A L)
theorem g_if_eq {x : Int32} {o : Int} {pc1 : Nat} (O : Ok G K own bytes maxL ret R mn kc ks) (hd : decode bytes pc = .ok (.ifCond .eq o, 3)) (hp : pc + 3 = pc') (ho : 0 ≤ (pc : Int) + o) (ht : ((pc : Int) + o).toNat = pc1)
    (kt : x = 0 → Run G K rv Hf pc1 Ls st H cells slots) (kf : ¬ x = 0 → Run G K rv Hf pc' Ls st H cells slots) : Run G K rv Hf pc Ls (.int x :: st) H cells slots := by
  obtain ⟨l, Z, a0, n⟩ := G; obtain ⟨p, e, R', s, m, args, below, meth, c, kc', ks'⟩ := K
  obtain ⟨hx, hZ, hown, hby, hml, hret, hlk, rfl, hnm, rfl, rfl, hw⟩ := O
  subst hp
  intro T locs real X N S A L
  by_cases h : x = 0
  · exact Done.step (fun t q => XS.ifYes X.here hx rfl (pc0 := pc) rfl (hb hby hd) rfl (XT.i0_eq_t h) ho ht q) (kt h T locs real X N S A L)
  · exact Done.step (fun t q => XS.ifNo X.here hx rfl (hb hby hd) rfl (XT.i0_eq_f h) q) (kf h T locs real X N S A L)
theorem g_lcmp_eq {x y : Int64} {pq : Nat} {o : Int} {pc1 : Nat} (O : Ok G K own bytes maxL ret R mn kc ks) (hd0 : decode bytes pc = .ok (.lcmp, 1)) (hq : pc + 1 = pq) (hd : decode bytes pq = .ok (.ifCond .eq o, 3)) (hp : pq + 3 = pc') (ho : 0 ≤ (pq : Int) + o) (ht : ((pq : Int) + o).toNat = pc1)
    (kt : x = y → Run G K rv Hf pc1 Ls st H cells slots) (kf : ¬ x = y → Run G K rv Hf pc' Ls st H cells slots) : Run G K rv Hf pc Ls (.long y :: .long x :: st) H cells slots := by
  obtain ⟨l, Z, a0, n⟩ := G; obtain ⟨p, e, R', s, m, args, below, meth, c, kc', ks'⟩ := K
  obtain ⟨hx, hZ, hown, hby, hml, hret, hlk, rfl, hnm, rfl, rfl, hw⟩ := O
  subst hq
  subst hp
  intro T locs real X N S A L
  by_cases h : x = y
  · exact Done.step (fun t q => XT.lcmp X.here hx rfl (hb hby hd0) rfl (XS.ifYes X.here hx rfl (pc0 := pc + 1) rfl (hb hby hd) rfl (XT.ll_eq_t h) ho ht q)) (kt h T locs real X N S A L)
  · exact Done.step (fun t q => XT.lcmp X.here hx rfl (hb hby hd0) rfl (XS.ifNo X.here hx rfl (hb hby hd) rfl (XT.ll_eq_f h) q)) (kf h T locs real X N S A L)
theorem g_icmp_ne {x y : Int32} {o : Int} {pc1 : Nat} (O : Ok G K own bytes maxL ret R mn kc ks) (hd : decode bytes pc = .ok (.if_icmp .ne o, 3)) (hp : pc + 3 = pc') (ho : 0 ≤ (pc : Int) + o) (ht : ((pc : Int) + o).toNat = pc1)
    (kt : ¬ x = y → Run G K rv Hf pc1 Ls st H cells slots) (kf : x = y → Run G K rv Hf pc' Ls st H cells slots) : Run G K rv Hf pc Ls (.int y :: .int x :: st) H cells slots := by
  obtain ⟨l, Z, a0, n⟩ := G; obtain ⟨p, e, R', s, m, args, below, meth, c, kc', ks'⟩ := K
  obtain ⟨hx, hZ, hown, hby, hml, hret, hlk, rfl, hnm, rfl, rfl, hw⟩ := O
  subst hp
  intro T locs real X N S A L
  by_cases h : x = y
  · exact Done.step (fun t q => XS.icmpNo X.here hx rfl (hb hby hd) rfl (XT.ii_ne_f h) q) (kf h T locs real X N S A L)
  · exact Done.step (fun t q => XS.icmpYes X.here hx rfl (pc0 := pc) rfl (hb hby hd) rfl (XT.ii_ne_t h) ho ht q) (kt h T locs real X N S A L)
theorem g_if_ne {x : Int32} {o : Int} {pc1 : Nat} (O : Ok G K own bytes maxL ret R mn kc ks) (hd : decode bytes pc = .ok (.ifCond .ne o, 3)) (hp : pc + 3 = pc') (ho : 0 ≤ (pc : Int) + o) (ht : ((pc : Int) + o).toNat = pc1)
    (kt : ¬ x = 0 → Run G K rv Hf pc1 Ls st H cells slots) (kf : x = 0 → Run G K rv Hf pc' Ls st H cells slots) : Run G K rv Hf pc Ls (.int x :: st) H cells slots := by
  obtain ⟨l, Z, a0, n⟩ := G; obtain ⟨p, e, R', s, m, args, below, meth, c, kc', ks'⟩ := K
  obtain ⟨hx, hZ, hown, hby, hml, hret, hlk, rfl, hnm, rfl, rfl, hw⟩ := O
  subst hp
  intro T locs real X N S A L
  by_cases h : x = 0
  · exact Done.step (fun t q => XS.ifNo X.here hx rfl (hb hby hd) rfl (XT.i0_ne_f h) q) (kf h T locs real X N S A L)
  · exact Done.step (fun t q => XS.ifYes X.here hx rfl (pc0 := pc) rfl (hb hby hd) rfl (XT.i0_ne_t h) ho ht q) (kt h T locs real X N S A L)
theorem g_lcmp_ne {x y : Int64} {pq : Nat} {o : Int} {pc1 : Nat} (O : Ok G K own bytes maxL ret R mn kc ks) (hd0 : decode bytes pc = .ok (.lcmp, 1)) (hq : pc + 1 = pq) (hd : decode bytes pq = .ok (.ifCond .ne o, 3)) (hp : pq + 3 = pc') (ho : 0 ≤ (pq : Int) + o) (ht : ((pq : Int) + o).toNat = pc1)
    (kt : ¬ x = y → Run G K rv Hf pc1 Ls st H cells slots) (kf : x = y → Run G K rv Hf pc' Ls st H cells slots) : Run G K rv Hf pc Ls (.long y :: .long x :: st) H cells slots := by
  obtain ⟨l, Z, a0, n⟩ := G; obtain ⟨p, e, R', s, m, args, below, meth, c, kc', ks'⟩ := K
  obtain ⟨hx, hZ, hown, hby, hml, hret, hlk, rfl, hnm, rfl, rfl, hw⟩ := O
  subst hq
  subst hp
  intro T locs real X N S A L
  by_cases h : x = y
  · exact Done.step (fun t q => XT.lcmp X.here hx rfl (hb hby hd0) rfl (XS.ifNo X.here hx rfl (hb hby hd) rfl (XT.ll_ne_f h) q)) (kf h T locs real X N S A L)
  · exact Done.step (fun t q => XT.lcmp X.here hx rfl (hb hby hd0) rfl (XS.ifYes X.here hx rfl (pc0 := pc + 1) rfl (hb hby hd) rfl (XT.ll_ne_t h) ho ht q)) (kt h T locs real X N S A L)
theorem g_icmp_lt {x y : Int32} {o : Int} {pc1 : Nat} (O : Ok G K own bytes maxL ret R mn kc ks) (hd : decode bytes pc = .ok (.if_icmp .lt o, 3)) (hp : pc + 3 = pc') (ho : 0 ≤ (pc : Int) + o) (ht : ((pc : Int) + o).toNat = pc1)
    (kt : x < y → Run G K rv Hf pc1 Ls st H cells slots) (kf : ¬ x < y → Run G K rv Hf pc' Ls st H cells slots) : Run G K rv Hf pc Ls (.int y :: .int x :: st) H cells slots := by
  obtain ⟨l, Z, a0, n⟩ := G; obtain ⟨p, e, R', s, m, args, below, meth, c, kc', ks'⟩ := K
  obtain ⟨hx, hZ, hown, hby, hml, hret, hlk, rfl, hnm, rfl, rfl, hw⟩ := O
  subst hp
  intro T locs real X N S A L
  by_cases h : x < y
  · exact Done.step (fun t q => XS.icmpYes X.here hx rfl (pc0 := pc) rfl (hb hby hd) rfl (XT.ii_lt_t h) ho ht q) (kt h T locs real X N S A L)
  · exact Done.step (fun t q => XS.icmpNo X.here hx rfl (hb hby hd) rfl (XT.ii_lt_f h) q) (kf h T locs real X N S A L)
theorem g_if_lt {x : Int32} {o : Int} {pc1 : Nat} (O : Ok G K own bytes maxL ret R mn kc ks) (hd : decode bytes pc = .ok (.ifCond .lt o, 3)) (hp : pc + 3 = pc') (ho : 0 ≤ (pc : Int) + o) (ht : ((pc : Int) + o).toNat = pc1)
    (kt : x < 0 → Run G K rv Hf pc1 Ls st H cells slots) (kf : ¬ x < 0 → Run G K rv Hf pc' Ls st H cells slots) : Run G K rv Hf pc Ls (.int x :: st) H cells slots := by
  obtain ⟨l, Z, a0, n⟩ := G; obtain ⟨p, e, R', s, m, args, below, meth, c, kc', ks'⟩ := K
  obtain ⟨hx, hZ, hown, hby, hml, hret, hlk, rfl, hnm, rfl, rfl, hw⟩ := O
  subst hp
  intro T locs real X N S A L
  by_cases h : x < 0
  · exact Done.step (fun t q => XS.ifYes X.here hx rfl (pc0 := pc) rfl (hb hby hd) rfl (XT.i0_lt_t h) ho ht q) (kt h T locs real X N S A L)
  · exact Done.step (fun t q => XS.ifNo X.here hx rfl (hb hby hd) rfl (XT.i0_lt_f h) q) (kf h T locs real X N S A L)
theorem g_lcmp_lt {x y : Int64} {pq : Nat} {o : Int} {pc1 : Nat} (O : Ok G K own bytes maxL ret R mn kc ks) (hd0 : decode bytes pc = .ok (.lcmp, 1)) (hq : pc + 1 = pq) (hd : decode bytes pq = .ok (.ifCond .lt o, 3)) (hp : pq + 3 = pc') (ho : 0 ≤ (pq : Int) + o) (ht : ((pq : Int) + o).toNat = pc1)
    (kt : x < y → Run G K rv Hf pc1 Ls st H cells slots) (kf : ¬ x < y → Run G K rv Hf pc' Ls st H cells slots) : Run G K rv Hf pc Ls (.long y :: .long x :: st) H cells slots := by
  obtain ⟨l, Z, a0, n⟩ := G; obtain ⟨p, e, R', s, m, args, below, meth, c, kc', ks'⟩ := K
  obtain ⟨hx, hZ, hown, hby, hml, hret, hlk, rfl, hnm, rfl, rfl, hw⟩ := O
  subst hq
  subst hp
  intro T locs real X N S A L
  by_cases h : x < y
  · exact Done.step (fun t q => XT.lcmp X.here hx rfl (hb hby hd0) rfl (XS.ifYes X.here hx rfl (pc0 := pc + 1) rfl (hb hby hd) rfl (XT.ll_lt_t h) ho ht q)) (kt h T locs real X N S A L)
  · exact Done.step (fun t q => XT.lcmp X.here hx rfl (hb hby hd0) rfl (XS.ifNo X.here hx rfl (hb hby hd) rfl (XT.ll_lt_f h) q)) (kf h T locs real X N S A L)
theorem g_icmp_ge {x y : Int32} {o : Int} {pc1 : Nat} (O : Ok G K own bytes maxL ret R mn kc ks) (hd : decode bytes pc = .ok (.if_icmp .ge o, 3)) (hp : pc + 3 = pc') (ho : 0 ≤ (pc : Int) + o) (ht : ((pc : Int) + o).toNat = pc1)
    (kt : ¬ x < y → Run G K rv Hf pc1 Ls st H cells slots) (kf : x < y → Run G K rv Hf pc' Ls st H cells slots) : Run G K rv Hf pc Ls (.int y :: .int x :: st) H cells slots := by
  obtain ⟨l, Z, a0, n⟩ := G; obtain ⟨p, e, R', s, m, args, below, meth, c, kc', ks'⟩ := K
  obtain ⟨hx, hZ, hown, hby, hml, hret, hlk, rfl, hnm, rfl, rfl, hw⟩ := O
  subst hp
  intro T locs real X N S A L
  by_cases h : x < y
  · exact Done.step (fun t q => XS.icmpNo X.here hx rfl (hb hby hd) rfl (XT.ii_ge_f h) q) (kf h T locs real X N S A L)
  · exact Done.step (fun t q => XS.icmpYes X.here hx rfl (pc0 := pc) rfl (hb hby hd) rfl (XT.ii_ge_t h) ho ht q) (kt h T locs real X N S A L)
theorem g_if_ge {x : Int32} {o : Int} {pc1 : Nat} (O : Ok G K own bytes maxL ret R mn kc ks) (hd : decode bytes pc = .ok (.ifCond .ge o, 3)) (hp : pc + 3 = pc') (ho : 0 ≤ (pc : Int) + o) (ht : ((pc : Int) + o).toNat = pc1)
    (kt : ¬ x < 0 → Run G K rv Hf pc1 Ls st H cells slots) (kf : x < 0 → Run G K rv Hf pc' Ls st H cells slots) : Run G K rv Hf pc Ls (.int x :: st) H cells slots := by
  obtain ⟨l, Z, a0, n⟩ := G; obtain ⟨p, e, R', s, m, args, below, meth, c, kc', ks'⟩ := K
  obtain ⟨hx, hZ, hown, hby, hml, hret, hlk, rfl, hnm, rfl, rfl, hw⟩ := O
  subst hp
  intro T locs real X N S A L
  by_cases h : x < 0
  · exact Done.step (fun t q => XS.ifNo X.here hx rfl (hb hby hd) rfl (XT.i0_ge_f h) q) (kf h T locs real X N S A L)
  · exact Done.step (fun t q => XS.ifYes X.here hx rfl (pc0 := pc) rfl (hb hby hd) rfl (XT.i0_ge_t h) ho ht q) (kt h T locs real X N S A L)
theorem g_lcmp_ge {x y : Int64} {pq : Nat} {o : Int} {pc1 : Nat} (O : Ok G K own bytes maxL ret R mn kc ks) (hd0 : decode bytes pc = .ok (.lcmp, 1)) (hq : pc + 1 = pq) (hd : decode bytes pq = .ok (.ifCond .ge o, 3)) (hp : pq + 3 = pc') (ho : 0 ≤ (pq : Int) + o) (ht : ((pq : Int) + o).toNat = pc1)
    (kt : ¬ x < y → Run G K rv Hf pc1 Ls st H cells slots) (kf : x < y → Run G K rv Hf pc' Ls st H cells slots) : Run G K rv Hf pc Ls (.long y :: .long x :: st) H cells slots := by
  obtain ⟨l, Z, a0, n⟩ := G; obtain ⟨p, e, R', s, m, args, below, meth, c, kc', ks'⟩ := K
  obtain ⟨hx, hZ, hown, hby, hml, hret, hlk, rfl, hnm, rfl, rfl, hw⟩ := O
  subst hq
  subst hp
  intro T locs real X N S A L
  by_cases h : x < y
  · exact Done.step (fun t q => XT.lcmp X.here hx rfl (hb hby hd0) rfl (XS.ifNo X.here hx rfl (hb hby hd) rfl (XT.ll_ge_f h) q)) (kf h T locs real X N S A L)
  · exact Done.step (fun t q => XT.lcmp X.here hx rfl (hb hby hd0) rfl (XS.ifYes X.here hx rfl (pc0 := pc + 1) rfl (hb hby hd) rfl (XT.ll_ge_t h) ho ht q)) (kt h T locs real X N S A L)
theorem g_icmp_gt {x y : Int32} {o : Int} {pc1 : Nat} (O : Ok G K own bytes maxL ret R mn kc ks) (hd : decode bytes pc = .ok (.if_icmp .gt o, 3)) (hp : pc + 3 = pc') (ho : 0 ≤ (pc : Int) + o) (ht : ((pc : Int) + o).toNat = pc1)
    (kt : y < x → Run G K rv Hf pc1 Ls st H cells slots) (kf : ¬ y < x → Run G K rv Hf pc' Ls st H cells slots) : Run G K rv Hf pc Ls (.int y :: .int x :: st) H cells slots := by
  obtain ⟨l, Z, a0, n⟩ := G; obtain ⟨p, e, R', s, m, args, below, meth, c, kc', ks'⟩ := K
  obtain ⟨hx, hZ, hown, hby, hml, hret, hlk, rfl, hnm, rfl, rfl, hw⟩ := O
  subst hp
  intro T locs real X N S A L
  by_cases h : y < x
  · exact Done.step (fun t q => XS.icmpYes X.here hx rfl (pc0 := pc) rfl (hb hby hd) rfl (XT.ii_gt_t h) ho ht q) (kt h T locs real X N S A L)
  · exact Done.step (fun t q => XS.icmpNo X.here hx rfl (hb hby hd) rfl (XT.ii_gt_f h) q) (kf h T locs real X N S A L)
theorem g_if_gt {x : Int32} {o : Int} {pc1 : Nat} (O : Ok G K own bytes maxL ret R mn kc ks) (hd : decode bytes pc = .ok (.ifCond .gt o, 3)) (hp : pc + 3 = pc') (ho : 0 ≤ (pc : Int) + o) (ht : ((pc : Int) + o).toNat = pc1)
    (kt : 0 < x → Run G K rv Hf pc1 Ls st H cells slots) (kf : ¬ 0 < x → Run G K rv Hf pc' Ls st H cells slots) : Run G K rv Hf pc Ls (.int x :: st) H cells slots := by
  obtain ⟨l, Z, a0, n⟩ := G; obtain ⟨p, e, R', s, m, args, below, meth, c, kc', ks'⟩ := K
  obtain ⟨hx, hZ, hown, hby, hml, hret, hlk, rfl, hnm, rfl, rfl, hw⟩ := O
  subst hp
  intro T locs real X N S A L
  by_cases h : 0 < x
  · exact Done.step (fun t q => XS.ifYes X.here hx rfl (pc0 := pc) rfl (hb hby hd) rfl (XT.i0_gt_t h) ho ht q) (kt h T locs real X N S A L)
  · exact Done.step (fun t q => XS.ifNo X.here hx rfl (hb hby hd) rfl (XT.i0_gt_f h) q) (kf h T locs real X N S A L)
theorem g_lcmp_gt {x y : Int64} {pq : Nat} {o : Int} {pc1 : Nat} (O : Ok G K own bytes maxL ret R mn kc ks) (hd0 : decode bytes pc = .ok (.lcmp, 1)) (hq : pc + 1 = pq) (hd : decode bytes pq = .ok (.ifCond .gt o, 3)) (hp : pq + 3 = pc') (ho : 0 ≤ (pq : Int) + o) (ht : ((pq : Int) + o).toNat = pc1)
    (kt : y < x → Run G K rv Hf pc1 Ls st H cells slots) (kf : ¬ y < x → Run G K rv Hf pc' Ls st H cells slots) : Run G K rv Hf pc Ls (.long y :: .long x :: st) H cells slots := by
  obtain ⟨l, Z, a0, n⟩ := G; obtain ⟨p, e, R', s, m, args, below, meth, c, kc', ks'⟩ := K
  obtain ⟨hx, hZ, hown, hby, hml, hret, hlk, rfl, hnm, rfl, rfl, hw⟩ := O
  subst hq
  subst hp
  intro T locs real X N S A L
  by_cases h : y < x
  · exact Done.step (fun t q => XT.lcmp X.here hx rfl (hb hby hd0) rfl (XS.ifYes X.here hx rfl (pc0 := pc + 1) rfl (hb hby hd) rfl (XT.ll_gt_t h) ho ht q)) (kt h T locs real X N S A L)
  · exact Done.step (fun t q => XT.lcmp X.here hx rfl (hb hby hd0) rfl (XS.ifNo X.here hx rfl (hb hby hd) rfl (XT.ll_gt_f h) q)) (kf h T locs real X N S A L)
theorem g_icmp_le {x y : Int32} {o : Int} {pc1 : Nat} (O : Ok G K own bytes maxL ret R mn kc ks) (hd : decode bytes pc = .ok (.if_icmp .le o, 3)) (hp : pc + 3 = pc') (ho : 0 ≤ (pc : Int) + o) (ht : ((pc : Int) + o).toNat = pc1)
    (kt : ¬ y < x → Run G K rv Hf pc1 Ls st H cells slots) (kf : y < x → Run G K rv Hf pc' Ls st H cells slots) : Run G K rv Hf pc Ls (.int y :: .int x :: st) H cells slots := by
  obtain ⟨l, Z, a0, n⟩ := G; obtain ⟨p, e, R', s, m, args, below, meth, c, kc', ks'⟩ := K
  obtain ⟨hx, hZ, hown, hby, hml, hret, hlk, rfl, hnm, rfl, rfl, hw⟩ := O
  subst hp
  intro T locs real X N S A L
  by_cases h : y < x
  · exact Done.step (fun t q => XS.icmpNo X.here hx rfl (hb hby hd) rfl (XT.ii_le_f h) q) (kf h T locs real X N S A L)
  · exact Done.step (fun t q => XS.icmpYes X.here hx rfl (pc0 := pc) rfl (hb hby hd) rfl (XT.ii_le_t h) ho ht q) (kt h T locs real X N S A L)
theorem g_if_le {x : Int32} {o : Int} {pc1 : Nat} (O : Ok G K own bytes maxL ret R mn kc ks) (hd : decode bytes pc = .ok (.ifCond .le o, 3)) (hp : pc + 3 = pc') (ho : 0 ≤ (pc : Int) + o) (ht : ((pc : Int) + o).toNat = pc1)
    (kt : ¬ 0 < x → Run G K rv Hf pc1 Ls st H cells slots) (kf : 0 < x → Run G K rv Hf pc' Ls st H cells slots) : Run G K rv Hf pc Ls (.int x :: st) H cells slots := by
  obtain ⟨l, Z, a0, n⟩ := G; obtain ⟨p, e, R', s, m, args, below, meth, c, kc', ks'⟩ := K
  obtain ⟨hx, hZ, hown, hby, hml, hret, hlk, rfl, hnm, rfl, rfl, hw⟩ := O
  subst hp
  intro T locs real X N S A L
  by_cases h : 0 < x
  · exact Done.step (fun t q => XS.ifNo X.here hx rfl (hb hby hd) rfl (XT.i0_le_f h) q) (kf h T locs real X N S A L)
  · exact Done.step (fun t q => XS.ifYes X.here hx rfl (pc0 := pc) rfl (hb hby hd) rfl (XT.i0_le_t h) ho ht q) (kt h T locs real X N S A L)
theorem g_lcmp_le {x y : Int64} {pq : Nat} {o : Int} {pc1 : Nat} (O : Ok G K own bytes maxL ret R mn kc ks) (hd0 : decode bytes pc = .ok (.lcmp, 1)) (hq : pc + 1 = pq) (hd : decode bytes pq = .ok (.ifCond .le o, 3)) (hp : pq + 3 = pc') (ho : 0 ≤ (pq : Int) + o) (ht : ((pq : Int) + o).toNat = pc1)
    (kt : ¬ y < x → Run G K rv Hf pc1 Ls st H cells slots) (kf : y < x → Run G K rv Hf pc' Ls st H cells slots) : Run G K rv Hf pc Ls (.long y :: .long x :: st) H cells slots := by
  obtain ⟨l, Z, a0, n⟩ := G; obtain ⟨p, e, R', s, m, args, below, meth, c, kc', ks'⟩ := K
  obtain ⟨hx, hZ, hown, hby, hml, hret, hlk, rfl, hnm, rfl, rfl, hw⟩ := O
  subst hq
  subst hp
  intro T locs real X N S A L
  by_cases h : y < x
  · exact Done.step (fun t q => XT.lcmp X.here hx rfl (hb hby hd0) rfl (XS.ifNo X.here hx rfl (hb hby hd) rfl (XT.ll_le_f h) q)) (kf h T locs real X N S A L)
  · exact Done.step (fun t q => XT.lcmp X.here hx rfl (hb hby hd0) rfl (XS.ifYes X.here hx rfl (pc0 := pc + 1) rfl (hb hby hd) rfl (XT.ll_le_t h) ho ht q)) (kt h T locs real X N S A L)
/-! reading and writing the heap, in the model -/
def arr (ty : FieldType) (H : List Obj) (i : Nat) : Option (List Value) := match H[i]? with
  | some (.inl (t, vs)) => if t = ty then some vs else none
  | _ => none
def rd (ty : FieldType) (H : List Obj) (i : Nat) (j : Int32) : Option Value := (arr ty H i).bind fun vs => if j < 0 then none else vs[j.toNatClampNeg]?
def getI : Value → Option Int32
  | .int x => some x
  | _ => none
def getJ : Value → Option Int64
  | .long x => some x
  | _ => none
def getA : Value → Option Nat
  | .ref x => some x
  | _ => none
def rdI (ty : FieldType) (H : List Obj) (i : Nat) (j : Int32) : Option Int32 := (rd ty H i j).bind getI
def rdJ (H : List Obj) (i : Nat) (j : Int32) : Option Int64 := (rd .long H i j).bind getJ
def wr (ty : FieldType) (H : List Obj) (i : Nat) (j : Int32) (v : Value) : Option (List Obj) := (arr ty H i).bind fun vs => if j < 0 ∨ vs.length ≤ j.toNatClampNeg then none else some (H.set i (.inl (ty, vs.set j.toNatClampNeg v)))
def alen (H : List Obj) (i : Nat) : Option Int32 := match H[i]? with
  | some (.inl (_, vs)) => some vs.length.toInt32
  | _ => none
def mkArr (ty : FieldType) (cap : Nat) (H : List Obj) (j : Int32) : Option (List Obj) := if j < 0 ∨ cap < j.toNatClampNeg then none else some (H ++ [.inl (ty, List.replicate j.toNatClampNeg (defaultValue ty))])
def obj (t : Nat) (H : List Obj) (i : Nat) : Option (List Value) := match H[i]? with
  | some (.inr (t', vs)) => if t' = t then some vs else none
  | _ => none
def fld (t k : Nat) (H : List Obj) (i : Nat) : Option Value := (obj t H i).bind fun vs => vs[k]?
def fldI (t k : Nat) (H : List Obj) (i : Nat) : Option Int32 := (fld t k H i).bind getI
def fldJ (t k : Nat) (H : List Obj) (i : Nat) : Option Int64 := (fld t k H i).bind getJ
def fldA (t k : Nat) (H : List Obj) (i : Nat) : Option Nat := (fld t k H i).bind getA
def setF (t k : Nat) (H : List Obj) (i : Nat) (v : Value) : Option (List Obj) := (obj t H i).bind fun vs => if k < vs.length then some (H.set i (.inr (t, vs.set k v))) else none
theorem getI_e {v : Value} {x : Int32} (h : getI v = some x) : v = .int x := by cases v <;> simp [getI] at h; rw [h]
theorem getJ_e {v : Value} {x : Int64} (h : getJ v = some x) : v = .long x := by cases v <;> simp [getJ] at h; rw [h]
theorem getA_e {v : Value} {x : Nat} (h : getA v = some x) : v = .ref x := by cases v <;> simp [getA] at h; rw [h]
theorem rdI_e {ty : FieldType} {i : Nat} {j x : Int32} (h : rdI ty H i j = some x) : rd ty H i j = some (.int x) := by
  obtain ⟨v, h1, h2⟩ := Option.bind_eq_some_iff.mp h; rw [h1, getI_e h2]
theorem rdJ_e {i : Nat} {j : Int32} {x : Int64} (h : rdJ H i j = some x) : rd .long H i j = some (.long x) := by
  obtain ⟨v, h1, h2⟩ := Option.bind_eq_some_iff.mp h; rw [h1, getJ_e h2]
theorem fldI_e {t k i : Nat} {x : Int32} (h : fldI t k H i = some x) : fld t k H i = some (.int x) := by
  obtain ⟨v, h1, h2⟩ := Option.bind_eq_some_iff.mp h; rw [h1, getI_e h2]
theorem fldJ_e {t k i : Nat} {x : Int64} (h : fldJ t k H i = some x) : fld t k H i = some (.long x) := by
  obtain ⟨v, h1, h2⟩ := Option.bind_eq_some_iff.mp h; rw [h1, getJ_e h2]
theorem fldA_e {t k i x : Nat} (h : fldA t k H i = some x) : fld t k H i = some (.ref x) := by
  obtain ⟨v, h1, h2⟩ := Option.bind_eq_some_iff.mp h; rw [h1, getA_e h2]
theorem arr_e {ty : FieldType} {i : Nat} {vs : List Value} (h : arr ty H i = some vs) : H[i]? = some (.inl (ty, vs)) := by
  unfold arr at h; split at h
  · rename_i t us hh; split at h
    · rename_i e; cases h; rw [hh, e]
    · cases h
  · cases h
theorem obj_e {t i : Nat} {vs : List Value} (h : obj t H i = some vs) : H[i]? = some (.inr (t, vs)) := by
  unfold obj at h; split at h
  · rename_i t us hh; split at h
    · rename_i e; cases h; rw [hh, e]
    · cases h
  · cases h
theorem sim_arr {h : Heap} {ty : FieldType} {i : Nat} {vs : List Value} (S : Sim G H h) (e : arr ty H i = some vs) : ∃ c : Cell, Arr G.2.1 h (G.2.2.2 + i) c ty ∧ c.slots = (vs.map (sh G.2.2.2)).toArray := (S.2 i _ (arr_e e)).2
theorem sim_obj {h : Heap} {t i : Nat} {vs : List Value} (S : Sim G H h) (e : obj t H i = some vs) : Exa G.2.1 h (G.2.2.2 + i) (lay t).1 ∧ vs.length = (lay t).2.length ∧ ∀ (k : Nat) (nd : String × String) (v : Value), (lay t).2[k]? = some nd → vs[k]? = some v → Fld G.2.1 h (G.2.2.2 + i) (lay t).1 nd.1 nd.2 (sh G.2.2.2 v) := S.2 i _ (obj_e e)
theorem sim_ext {h h' : Heap} {o : Obj} (S : Sim G H h) (E : Ext h h') (hs : h'.size = h.size + 1) (ho : ObjOk G.2.1 G.2.2.2 h' h.size o) : Sim G (H ++ [o]) h' := by
  refine ⟨by rw [hs, S.1, List.length_append]; rfl, fun i q hq => ?_⟩
  by_cases hi : i < H.length
  · rw [List.getElem?_append_left hi] at hq
    have r := S.2 i q hq
    rcases q with ⟨ty, vs⟩ | ⟨t, vs⟩
    · obtain ⟨X, c, A, r⟩ := r; exact ⟨X.ext E, c, A.ext E, r⟩
    · obtain ⟨X, l, F⟩ := r; exact ⟨X.ext E, l, fun k nd v h1 h2 => (F k nd v h1 h2).ext E⟩
  · rw [List.getElem?_append_right (Nat.le_of_not_lt hi)] at hq
    have : i - H.length = 0 := by
      have := (List.getElem?_eq_some_iff.mp hq).1; simp at this; omega
    rw [this] at hq
    cases hq
    have : G.2.2.2 + i = h.size := by rw [S.1]; have := Nat.le_of_not_lt hi; omega
    rw [this]; exact ho
theorem sim_wr {h h' : Heap} {ty : FieldType} {i j : Nat} {vs : List Value} {v : Value} (S : Sim G H h) (e : arr ty H i = some vs) (W : Wr h h' (G.2.2.2 + i) j (sh G.2.2.2 v)) : Sim G (H.set i (.inl (ty, vs.set j v))) h' := by
  refine ⟨by rw [W.size, S.1, List.length_set], fun i' q hq => ?_⟩
  have hlt := (List.getElem?_eq_some_iff.mp (arr_e e)).1
  by_cases hi : i = i'
  · subst hi
    rw [List.getElem?_set_self hlt] at hq
    cases hq
    obtain ⟨X, c, A, r⟩ := S.2 i _ (arr_e e)
    exact ⟨X.wr W, _, A.same W, by simp [Cell.setSlot, r, List.map_set]⟩
  · rw [List.getElem?_set_ne hi] at hq
    have r := S.2 i' q hq
    have ne : G.2.2.2 + i' ≠ G.2.2.2 + i := by omega
    rcases q with ⟨ty, vs⟩ | ⟨t, vs⟩
    · obtain ⟨X, c, A, r⟩ := r; exact ⟨X.wr W, c, A.other W ne, r⟩
    · obtain ⟨X, l, F⟩ := r; exact ⟨X.wr W, l, fun k nd v h1 h2 => (F k nd v h1 h2).other W (Or.inl ne)⟩
theorem lay_slot {Z : State} {a0 : Array Value} (hw : ∀ d ∈ tables_1, d.before a0 Z = true) {t k k' : Nat} {nd nd' : String × String} (h1 : (lay t).2[k]? = some nd) (h2 : (lay t).2[k']? = some nd') (ne : k ≠ k') : Jvm.RoadKit.slotOf Z (lay t).1 nd.1 nd.2 ≠ Jvm.RoadKit.slotOf Z (lay t).1 nd'.1 nd'.2 := by
  obtain ⟨t1, p1⟩ := lay_parse t nd (List.mem_of_getElem? h1)
  obtain ⟨t2, p2⟩ := lay_parse t nd' (List.mem_of_getElem? h2)
  exact slot_ne (C := (lay t).1) (a0 := a0) ((lay_word t nd (List.mem_of_getElem? h1)).imp (hw _) (hw _)) ((lay_word t nd' (List.mem_of_getElem? h2)).imp (hw _) (hw _)) (lay_names t k k' nd nd' h1 h2 ne) p1 p2
theorem sim_put {h h' : Heap} {t i k : Nat} {nd : String × String} {vs : List Value} {v : Value} (hw : ∀ d ∈ tables_1, d.before G.2.2.1 G.2.1 = true) (S : Sim G H h) (e : obj t H i = some vs) (hk : (lay t).2[k]? = some nd) (W : Wr h h' (G.2.2.2 + i) (Jvm.RoadKit.slotOf G.2.1 (lay t).1 nd.1 nd.2) (sh G.2.2.2 v)) : Sim G (H.set i (.inr (t, vs.set k v))) h' := by
  refine ⟨by rw [W.size, S.1, List.length_set], fun i' q hq => ?_⟩
  have hlt := (List.getElem?_eq_some_iff.mp (obj_e e)).1
  by_cases hi : i = i'
  · subst hi
    rw [List.getElem?_set_self hlt] at hq
    cases hq
    obtain ⟨X, l, F⟩ := S.2 i _ (obj_e e)
    refine ⟨X.wr W, by rw [List.length_set]; exact l, fun k' nd' v' h1 h2 => ?_⟩
    have hkl : k < vs.length := by rw [l]; exact (List.getElem?_eq_some_iff.mp hk).1
    by_cases ek : k = k'
    · subst ek
      rw [List.getElem?_set_self hkl] at h2
      cases h2
      cases hk.symm.trans h1
      exact (F k nd _ hk (List.getElem?_eq_getElem hkl)).same W
    · rw [List.getElem?_set_ne ek] at h2
      exact (F k' nd' v' h1 h2).other W (Or.inr (lay_slot hw h1 hk (Ne.symm ek)))
  · rw [List.getElem?_set_ne hi] at hq
    have r := S.2 i' q hq
    have ne : G.2.2.2 + i' ≠ G.2.2.2 + i := by omega
    rcases q with ⟨ty, vs⟩ | ⟨t, vs⟩
    · obtain ⟨X, c, A, r⟩ := r; exact ⟨X.wr W, c, A.other W ne, r⟩
    · obtain ⟨X, l, F⟩ := r; exact ⟨X.wr W, l, fun k nd v h1 h2 => (F k nd v h1 h2).other W (Or.inl ne)⟩
/-! the steps that read the tables or the heap -/
theorem g_ldc {ix : Nat} {v : Int32} (O : Ok G K own bytes maxL ret R mn kc ks) (hd : decode bytes pc = .ok (.ldc ix, 2)) (w : Jvm.Cond.constant own ix v ∈ tables_1) (hp : pc + 2 = pc')
    (k : Run G K rv Hf pc' Ls (.int v :: st) H cells slots) : Run G K rv Hf pc Ls st H cells slots := by
  obtain ⟨l, Z, a0, n⟩ := G; obtain ⟨p, e, R', s, m, args, below, meth, c, kc', ks'⟩ := K
  obtain ⟨hx, hZ, hown, hby, hml, hret, hlk, rfl, hnm, rfl, rfl, hw⟩ := O
  subst hp
  intro T locs real X N S A L
  exact Done.step (fun t q => X.ldcI hx hown (mv hZ (hw _ w)) rfl (hb hby hd) q) (k T locs real X N S A L)
theorem g_ldc2 {ix : Nat} {v : Int64} (O : Ok G K own bytes maxL ret R mn kc ks) (hd : decode bytes pc = .ok (.ldc2_w ix, 3)) (w : Jvm.Cond.constantLong own ix v ∈ tables_1) (hp : pc + 3 = pc')
    (k : Run G K rv Hf pc' Ls (.long v :: st) H cells slots) : Run G K rv Hf pc Ls st H cells slots := by
  obtain ⟨l, Z, a0, n⟩ := G; obtain ⟨p, e, R', s, m, args, below, meth, c, kc', ks'⟩ := K
  obtain ⟨hx, hZ, hown, hby, hml, hret, hlk, rfl, hnm, rfl, rfl, hw⟩ := O
  subst hp
  intro T locs real X N S A L
  exact Done.step (fun t q => X.ldc2J hx hown (mv hZ (hw _ w)) rfl (hb hby hd) q) (k T locs real X N S A L)
theorem rd_e {ty : FieldType} {i : Nat} {j : Int32} {v : Value} (h : rd ty H i j = some v) : ∃ vs, arr ty H i = some vs ∧ ¬ j < 0 ∧ vs[j.toNatClampNeg]? = some v := by
  obtain ⟨vs, h1, h2⟩ := Option.bind_eq_some_iff.mp h
  split at h2
  · cases h2
  · exact ⟨vs, h1, by assumption, h2⟩
theorem inb_sl {c : Cell} {vs : List Value} {n : Nat} {j : Int32} {v : Value} (e : c.slots = (vs.map (sh n)).toArray) (h0 : ¬ j < 0) (h : vs[j.toNatClampNeg]? = some v) : ¬ (j < 0 ∨ c.slots.size ≤ j.toNatClampNeg) ∧ c.slots[j.toNatClampNeg]? = some (sh n v) := by
  have := (List.getElem?_eq_some_iff.mp h).1
  refine ⟨fun q => q.elim h0 (fun q => by rw [e] at q; simp at q; omega), by rw [e]; simp [h]⟩
theorem g_iaload {i : Nat} {j : Int32} {v : Int32} (O : Ok G K own bytes maxL ret R mn kc ks) (hd : decode bytes pc = .ok (.iaload, 1)) (hr : rdI .int H i j = some v) (hp : pc + 1 = pc')
    (k : Run G K rv Hf pc' Ls (.int v :: st) H cells slots) : Run G K rv Hf pc Ls (.int j :: .ref i :: st) H cells slots := by
  obtain ⟨l, Z, a0, n⟩ := G; obtain ⟨p, e, R', s, m, args, below, meth, c, kc', ks'⟩ := K
  obtain ⟨hx, hZ, hown, hby, hml, hret, hlk, rfl, hnm, rfl, rfl, hw⟩ := O
  subst hp
  intro T locs real X N S A L
  obtain ⟨vs, h1, h2, h3⟩ := rd_e (rdI_e hr)
  obtain ⟨cl, B, es⟩ := sim_arr S h1
  obtain ⟨q1, q2⟩ := inb_sl es h2 h3
  exact Done.step (fun t q => X.iaload hx B.1 (State.isArrayOf_alike hZ.alike B.2.1) B.2.2 q1 q2 (g := mkF m pc real ((.int j :: .ref i :: st).map (sh n))) rfl rfl (hb hby hd) t q) (k T locs real X N S A L)
theorem g_caload {i : Nat} {j : Int32} {v : Int32} (O : Ok G K own bytes maxL ret R mn kc ks) (hd : decode bytes pc = .ok (.caload, 1)) (hr : rdI .char H i j = some v) (hp : pc + 1 = pc')
    (k : Run G K rv Hf pc' Ls (.int v :: st) H cells slots) : Run G K rv Hf pc Ls (.int j :: .ref i :: st) H cells slots := by
  obtain ⟨l, Z, a0, n⟩ := G; obtain ⟨p, e, R', s, m, args, below, meth, c, kc', ks'⟩ := K
  obtain ⟨hx, hZ, hown, hby, hml, hret, hlk, rfl, hnm, rfl, rfl, hw⟩ := O
  subst hp
  intro T locs real X N S A L
  obtain ⟨vs, h1, h2, h3⟩ := rd_e (rdI_e hr)
  obtain ⟨cl, B, es⟩ := sim_arr S h1
  obtain ⟨q1, q2⟩ := inb_sl es h2 h3
  exact Done.step (fun t q => X.caload hx B.1 (State.isArrayOf_alike hZ.alike B.2.1) B.2.2 q1 q2 (g := mkF m pc real ((.int j :: .ref i :: st).map (sh n))) rfl rfl (hb hby hd) t q) (k T locs real X N S A L)
theorem g_baload {i : Nat} {j : Int32} {v : Int32} (O : Ok G K own bytes maxL ret R mn kc ks) (hd : decode bytes pc = .ok (.baload, 1)) (hr : rdI .byte H i j = some v) (hp : pc + 1 = pc')
    (k : Run G K rv Hf pc' Ls (.int v :: st) H cells slots) : Run G K rv Hf pc Ls (.int j :: .ref i :: st) H cells slots := by
  obtain ⟨l, Z, a0, n⟩ := G; obtain ⟨p, e, R', s, m, args, below, meth, c, kc', ks'⟩ := K
  obtain ⟨hx, hZ, hown, hby, hml, hret, hlk, rfl, hnm, rfl, rfl, hw⟩ := O
  subst hp
  intro T locs real X N S A L
  obtain ⟨vs, h1, h2, h3⟩ := rd_e (rdI_e hr)
  obtain ⟨cl, B, es⟩ := sim_arr S h1
  obtain ⟨q1, q2⟩ := inb_sl es h2 h3
  exact Done.step (fun t q => X.baloadBytes hx B.1 (State.isArrayOf_alike hZ.alike B.2.1) B.2.2 q1 q2 (g := mkF m pc real ((.int j :: .ref i :: st).map (sh n))) rfl rfl (hb hby hd) t q) (k T locs real X N S A L)
theorem g_laload {i : Nat} {j : Int32} {v : Int64} (O : Ok G K own bytes maxL ret R mn kc ks) (hd : decode bytes pc = .ok (.laload, 1)) (hr : rdJ H i j = some v) (hp : pc + 1 = pc')
    (k : Run G K rv Hf pc' Ls (.long v :: st) H cells slots) : Run G K rv Hf pc Ls (.int j :: .ref i :: st) H cells slots := by
  obtain ⟨l, Z, a0, n⟩ := G; obtain ⟨p, e, R', s, m, args, below, meth, c, kc', ks'⟩ := K
  obtain ⟨hx, hZ, hown, hby, hml, hret, hlk, rfl, hnm, rfl, rfl, hw⟩ := O
  subst hp
  intro T locs real X N S A L
  obtain ⟨vs, h1, h2, h3⟩ := rd_e (rdJ_e hr)
  obtain ⟨cl, B, es⟩ := sim_arr S h1
  obtain ⟨q1, q2⟩ := inb_sl es h2 h3
  exact Done.step (fun t q => X.laload hx B.1 (State.isArrayOf_alike hZ.alike B.2.1) B.2.2 q1 q2 (g := mkF m pc real ((.int j :: .ref i :: st).map (sh n))) rfl rfl (hb hby hd) t q) (k T locs real X N S A L)
theorem g_arraylength {i : Nat} {v : Int32} (O : Ok G K own bytes maxL ret R mn kc ks) (hd : decode bytes pc = .ok (.arraylength, 1)) (hr : alen H i = some v) (hp : pc + 1 = pc')
    (k : Run G K rv Hf pc' Ls (.int v :: st) H cells slots) : Run G K rv Hf pc Ls (.ref i :: st) H cells slots := by
  obtain ⟨l, Z, a0, n⟩ := G; obtain ⟨p, e, R', s, m, args, below, meth, c, kc', ks'⟩ := K
  obtain ⟨hx, hZ, hown, hby, hml, hret, hlk, rfl, hnm, rfl, rfl, hw⟩ := O
  subst hp
  intro T locs real X N S A L
  unfold alen at hr
  split at hr
  · rename_i ty vs hh
    cases hr
    obtain ⟨-, cl, B, es⟩ := S.2 i _ hh
    have q1 : cl.slots.size = vs.length := by rw [es]; simp
    exact Done.step (fun t q => X.arraylength hx B.1 (State.isArrayOf_alike hZ.alike B.2.1) (g := mkF m pc real ((.ref i :: st).map (sh n))) rfl rfl (hb hby hd) t (by rw [q1]; exact q)) (k T locs real X N S A L)
  · cases hr
theorem wr_e {ty : FieldType} {i : Nat} {j : Int32} {v : Value} {H' : List Obj} (h : wr ty H i j v = some H') : ∃ vs, arr ty H i = some vs ∧ ¬ (j < 0 ∨ vs.length ≤ j.toNatClampNeg) ∧ H' = H.set i (.inl (ty, vs.set j.toNatClampNeg v)) := by
  obtain ⟨vs, h1, h2⟩ := Option.bind_eq_some_iff.mp h
  split at h2
  · cases h2
  · cases h2; exact ⟨vs, h1, by assumption, rfl⟩
theorem wr_len {ty : FieldType} {i : Nat} {j : Int32} {v : Value} {H' : List Obj} (h : wr ty H i j v = some H') : H'.length = H.length := by
  obtain ⟨vs, -, -, rfl⟩ := wr_e h; simp
theorem sl_len {c : Cell} {vs : List Value} {n : Nat} (e : c.slots = (vs.map (sh n)).toArray) : c.slots.size = vs.length := by rw [e]; simp
theorem g_iastore {i : Nat} {j x : Int32} {H' : List Obj} (O : Ok G K own bytes maxL ret R mn kc ks) (hd : decode bytes pc = .ok (.iastore, 1)) (hr : wr .int H i j (.int x) = some H') (hp : pc + 1 = pc')
    (k : Run G K rv Hf pc' Ls st H' cells slots) : Run G K rv Hf pc Ls (.int x :: .int j :: .ref i :: st) H cells slots := by
  obtain ⟨l, Z, a0, n⟩ := G; obtain ⟨p, e, R', s, m, args, below, meth, c, kc', ks'⟩ := K
  obtain ⟨hx, hZ, hown, hby, hml, hret, hlk, rfl, hnm, rfl, rfl, hw⟩ := O
  subst hp
  intro T locs real X N S A L
  obtain ⟨vs, h1, h2, rfl⟩ := wr_e hr
  obtain ⟨cl, B, es⟩ := sim_arr S h1
  obtain ⟨T', h', X', e', W, stp⟩ := stI X hx hZ rfl B (j := j) (x := x) (by rw [sl_len es]; exact h2) (g := mkF m pc real ((.int x :: .int j :: .ref i :: st).map (sh n))) rfl rfl (hb hby hd)
  exact Done.step stp (k T' _ real X' (Fr.snoc X' N (Nat.le_add_right _ _)) (by rw [e']; exact sim_wr (v := .int x) S h1 W) (by simpa using A) L)
theorem g_lastore {i : Nat} {j : Int32} {x : Int64} {H' : List Obj} (O : Ok G K own bytes maxL ret R mn kc ks) (hd : decode bytes pc = .ok (.lastore, 1)) (hr : wr .long H i j (.long x) = some H') (hp : pc + 1 = pc')
    (k : Run G K rv Hf pc' Ls st H' cells slots) : Run G K rv Hf pc Ls (.long x :: .int j :: .ref i :: st) H cells slots := by
  obtain ⟨l, Z, a0, n⟩ := G; obtain ⟨p, e, R', s, m, args, below, meth, c, kc', ks'⟩ := K
  obtain ⟨hx, hZ, hown, hby, hml, hret, hlk, rfl, hnm, rfl, rfl, hw⟩ := O
  subst hp
  intro T locs real X N S A L
  obtain ⟨vs, h1, h2, rfl⟩ := wr_e hr
  obtain ⟨cl, B, es⟩ := sim_arr S h1
  obtain ⟨T', h', X', e', W, stp⟩ := stJ X hx hZ rfl B (j := j) (x := x) (by rw [sl_len es]; exact h2) (g := mkF m pc real ((.long x :: .int j :: .ref i :: st).map (sh n))) rfl rfl (hb hby hd)
  exact Done.step stp (k T' _ real X' (Fr.snoc X' N (Nat.le_add_right _ _)) (by rw [e']; exact sim_wr (v := .long x) S h1 W) (by simpa using A) L)
theorem g_bastore {i : Nat} {j x : Int32} {H' : List Obj} (O : Ok G K own bytes maxL ret R mn kc ks) (hd : decode bytes pc = .ok (.bastore, 1)) (hr : wr .byte H i j (.int (nar .byte x)) = some H') (hp : pc + 1 = pc')
    (k : Run G K rv Hf pc' Ls st H' cells slots) : Run G K rv Hf pc Ls (.int x :: .int j :: .ref i :: st) H cells slots := by
  obtain ⟨l, Z, a0, n⟩ := G; obtain ⟨p, e, R', s, m, args, below, meth, c, kc', ks'⟩ := K
  obtain ⟨hx, hZ, hown, hby, hml, hret, hlk, rfl, hnm, rfl, rfl, hw⟩ := O
  subst hp
  intro T locs real X N S A L
  obtain ⟨vs, h1, h2, rfl⟩ := wr_e hr
  obtain ⟨cl, B, es⟩ := sim_arr S h1
  obtain ⟨T', h', X', e', W, stp⟩ := stB X hx hZ rfl B (j := j) (x := x) (by rw [sl_len es]; exact h2) (g := mkF m pc real ((.int x :: .int j :: .ref i :: st).map (sh n))) rfl rfl (hb hby hd)
  exact Done.step stp (k T' _ real X' (Fr.snoc X' N (Nat.le_add_right _ _)) (by rw [e']; exact sim_wr (v := .int (nar .byte x)) S h1 W) (by simpa using A) L)
theorem g_castore {i : Nat} {j x : Int32} {H' : List Obj} (O : Ok G K own bytes maxL ret R mn kc ks) (hd : decode bytes pc = .ok (.castore, 1)) (hr : wr .char H i j (.int (nar .char x)) = some H') (hp : pc + 1 = pc')
    (k : Run G K rv Hf pc' Ls st H' cells slots) : Run G K rv Hf pc Ls (.int x :: .int j :: .ref i :: st) H cells slots := by
  obtain ⟨l, Z, a0, n⟩ := G; obtain ⟨p, e, R', s, m, args, below, meth, c, kc', ks'⟩ := K
  obtain ⟨hx, hZ, hown, hby, hml, hret, hlk, rfl, hnm, rfl, rfl, hw⟩ := O
  subst hp
  intro T locs real X N S A L
  obtain ⟨vs, h1, h2, rfl⟩ := wr_e hr
  obtain ⟨cl, B, es⟩ := sim_arr S h1
  obtain ⟨T', h', X', e', W, stp⟩ := stC X hx hZ rfl B (j := j) (x := x) (by rw [sl_len es]; exact h2) (g := mkF m pc real ((.int x :: .int j :: .ref i :: st).map (sh n))) rfl rfl (hb hby hd)
  exact Done.step stp (k T' _ real X' (Fr.snoc X' N (Nat.le_add_right _ _)) (by rw [e']; exact sim_wr (v := .int (nar .char x)) S h1 W) (by simpa using A) L)
theorem g_newarray {aty : ArrayType} {cap : Nat} {j : Int32} {H' : List Obj} (O : Ok G K own bytes maxL ret R mn kc ks) (hd : decode bytes pc = .ok (.newarray aty, 2)) (w : Jvm.Cond.arrayClass (newarray.typeOf aty) ∈ tables_1)
    (hr : mkArr (newarray.typeOf aty) cap H j = some H') (hb8 : cap * 8 ≤ 536870912) {c2 s2 : Nat} (hc2 : cells + 1 = c2) (hs2 : slots + cap = s2) (hc : c2 ≤ R.cells) (hs : s2 ≤ R.slots) (hp : pc + 2 = pc')
    (k : Run G K rv Hf pc' Ls (.ref H.length :: st) H' c2 s2) : Run G K rv Hf pc Ls (.int j :: st) H cells slots := by
  obtain ⟨l, Z, a0, n⟩ := G; obtain ⟨p, e, R', s, m, args, below, meth, c, kc', ks'⟩ := K
  obtain ⟨hx, hZ, hown, hby, hml, hret, hlk, rfl, hnm, rfl, rfl, hw⟩ := O
  subst hp hc2 hs2
  intro T locs real X N S A L
  unfold mkArr at hr
  split at hr
  · cases hr
  rename_i hj
  cases hr
  have hj0 : ¬ j < 0 := fun q => hj (Or.inl q)
  obtain ⟨T', h', cA, X', e', E, B, EX, stp⟩ := newPE X hx hZ (hw _ w) rfl (g := mkF m pc real ((.int j :: st).map (sh n))) rfl (hb hby hd) rfl hj0 (cap := cap) (Nat.le_of_not_lt fun q => hj (Or.inr q)) hb8 hc hs rfl
  have hsz : h'.size = T.heap.size + 1 := by
    have a1 : Array.size T.heap < Array.size h' := B.lt
    have a2 : Array.size T'.heap ≤ Array.size s.heap + (cells + 1) := X'.heapSize
    rw [e'] at a2
    have a3 : Array.size T.heap = n + H.length := S.1
    have a4 : Array.size s.heap + cells = n + H.length := A
    omega
  have ea : T.heap.size = n + H.length := S.1
  have S' : Sim (l, Z, a0, n) (H ++ [.inl (newarray.typeOf aty, List.replicate j.toNatClampNeg (defaultValue (newarray.typeOf aty)))]) T'.heap := by
    rw [e']
    refine sim_ext S E hsz ⟨EX, _, B, ?_⟩
    have : sh n (defaultValue (newarray.typeOf aty)) = defaultValue (newarray.typeOf aty) := by cases aty <;> rfl
    simp [newA, this]
  refine Done.step stp ?_
  have k' := k T' locs real X' N S' (by simp only [List.length_append, List.length_singleton] at A ⊢; omega) L
  rw [ea]
  exact k'
theorem g_new {ix t nn : Nat} {H' : List Obj} (O : Ok G K own bytes maxL ret R mn kc ks) (hd : decode bytes pc = .ok (.new ix, 3)) (w1 : Jvm.Cond.classLink own ix (lay t).1 ∈ tables_1) (w2 : Jvm.Cond.instantiable (lay t).1 nn ∈ tables_1) (w3 : Jvm.Cond.initialized (lay t).1 ∈ tables_1)
    {vs : List Value} (hvs : (lay t).2.map (fun nd => (parseFieldDescriptor nd.2).map defaultValue) = vs.map some) (hH : H' = H ++ [.inr (t, vs)]) {c2 s2 : Nat} (hc2 : cells + 1 = c2) (hs2 : slots + nn = s2) (hc : c2 ≤ R.cells) (hs : s2 ≤ R.slots) (hp : pc + 3 = pc')
    (k : Run G K rv Hf pc' Ls (.ref H.length :: st) H' c2 s2) : Run G K rv Hf pc Ls st H cells slots := by
  obtain ⟨l, Z, a0, n⟩ := G; obtain ⟨p, e, R', s, m, args, below, meth, c, kc', ks'⟩ := K
  obtain ⟨hx, hZ, hown, hby, hml, hret, hlk, rfl, hnm, rfl, rfl, hw⟩ := O
  subst hp hH hc2 hs2
  intro T locs real X N S A L
  obtain ⟨T', h', X', e', E, B, D, -, stp⟩ := newO X hx hZ hown (hw _ w1) (hw _ w2) (hw _ w3) rfl (g := mkF m pc real (st.map (sh n))) rfl (hb hby hd) hc hs
  have hsz : h'.size = T.heap.size + 1 := by
    have a1 : Array.size T.heap < Array.size h' := B.lt
    have a2 : Array.size T'.heap ≤ Array.size s.heap + (cells + 1) := X'.heapSize
    rw [e'] at a2
    have a3 : Array.size T.heap = n + H.length := S.1
    have a4 : Array.size s.heap + cells = n + H.length := A
    omega
  have ea : T.heap.size = n + H.length := S.1
  have S' : Sim (l, Z, a0, n) (H ++ [.inr (t, vs)]) T'.heap := by
    rw [e']
    refine sim_ext S E hsz ⟨B, by have := congrArg List.length hvs; simpa using this.symm, fun k nd v h1 h2 => ?_⟩
    have q : ((lay t).2.map (fun nd => (parseFieldDescriptor nd.2).map defaultValue))[k]? = some (some v) := by rw [hvs]; simp [h2]
    rw [List.getElem?_map, h1] at q
    simp only [Option.map_some, Option.some.injEq, Option.map_eq_some_iff] at q
    obtain ⟨ty, q1, q2⟩ := q
    have q3 : sh n v = defaultValue ty := by rw [← q2]; cases ty <;> rfl
    rw [q3]
    exact D ((lay_word t nd (List.mem_of_getElem? h1)).imp (hw _) (hw _)) q1
  refine Done.step stp ?_
  have k' := k T' locs real X' N S' (by simp only [List.length_append, List.length_singleton] at A ⊢; omega) L
  rw [ea]
  exact k'
theorem g_getfield {ix t kf i : Nat} {nd : String × String} {v : Value} (O : Ok G K own bytes maxL ret R mn kc ks) (hd : decode bytes pc = .ok (.getfield ix, 3)) (hk : (lay t).2[kf]? = some nd) (w : Jvm.Cond.fieldLink own ix (lay t).1 nd.1 nd.2 ∈ tables_1)
    (hr : fld t kf H i = some v) (hp : pc + 3 = pc') (k : Run G K rv Hf pc' Ls (v :: st) H cells slots) : Run G K rv Hf pc Ls (.ref i :: st) H cells slots := by
  obtain ⟨l, Z, a0, n⟩ := G; obtain ⟨p, e, R', s, m, args, below, meth, c, kc', ks'⟩ := K
  obtain ⟨hx, hZ, hown, hby, hml, hret, hlk, rfl, hnm, rfl, rfl, hw⟩ := O
  subst hp
  intro T locs real X N S A L
  obtain ⟨vs, h1, h2⟩ := Option.bind_eq_some_iff.mp hr
  obtain ⟨B, l1, F⟩ := sim_obj S h1
  obtain ⟨T', X', e', stp⟩ := getF X hx hZ hown (host := "") (Or.inl (hw _ w)) Via.refl rfl (F kf nd v hk h2) (g := mkF m pc real ((.ref i :: st).map (sh n))) rfl rfl (hb hby hd)
  exact Done.step stp (k T' locs real X' N (by rw [e']; exact S) A L)
theorem g_putfield {ix t kf i nn : Nat} {nd : String × String} {v : Value} {ty : FieldType} {H' : List Obj} (O : Ok G K own bytes maxL ret R mn kc ks) (hd : decode bytes pc = .ok (.putfield ix, 3)) (hk : (lay t).2[kf]? = some nd) (w : Jvm.Cond.fieldLink own ix (lay t).1 nd.1 nd.2 ∈ tables_1)
    (w2 : Jvm.Cond.lays (lay t).1 (lay t).1 nd.1 nd.2 ∈ tables_1 ∨ (Jvm.Cond.laysFinal (lay t).1 (lay t).1 nd.1 nd.2 ∈ tables_1 ∧ own = (lay t).1 ∧ mn = "<init>")) (w3 : Jvm.Cond.instantiable (lay t).1 nn ∈ tables_1) (hty : parseFieldDescriptor nd.2 = some ty) (hn : ∀ n, narrow ty (sh n v) = sh n v) (hf : ∀ n, fits ty (sh n v) = true)
    (hr : setF t kf H i v = some H') (hp : pc + 3 = pc') (k : Run G K rv Hf pc' Ls st H' cells slots) : Run G K rv Hf pc Ls (v :: .ref i :: st) H cells slots := by
  obtain ⟨l, Z, a0, n⟩ := G; obtain ⟨p, e, R', s, m, args, below, meth, c, kc', ks'⟩ := K
  obtain ⟨hx, hZ, hown, hby, hml, hret, hlk, rfl, hnm, rfl, rfl, hw⟩ := O
  subst hp
  intro T locs real X N S A L
  obtain ⟨vs, h1, h2⟩ := Option.bind_eq_some_iff.mp hr
  have hkv : kf < vs.length := Decidable.byContradiction fun hkv => by rw [if_neg hkv] at h2; cases h2
  rw [if_pos hkv] at h2
  cases h2
  obtain ⟨B, l1, F⟩ := sim_obj S h1
  obtain ⟨T', h', X', e', W, stp⟩ := putF X hx hZ hown (host := "") (Or.inl (hw _ w)) Via.refl rfl (F kf nd _ hk (List.getElem?_eq_getElem hkv)) B (w2.imp (hw _) fun q => ⟨hw _ q.1, q.2.1, hnm.trans q.2.2⟩) (hw _ w3) hty (hn n) (hf n) (g := mkF m pc real ((v :: .ref i :: st).map (sh n))) rfl rfl (hb hby hd)
  exact Done.step stp (k T' _ real X' (Fr.snoc X' N (Nat.le_add_right _ _)) (by rw [e']; exact sim_put hw S h1 hk W) (by simpa using A) L)
theorem g_objinit {ix i W : Nat} (O : Ok G K own bytes maxL ret R mn kc ks) (hd : decode bytes pc = .ok (.invokespecial ix, 3)) (w1 : Jvm.Cond.methodLink own ix Lib.objectInit ∈ tables_1) (w2 : Jvm.Cond.instanceMethod Lib.objectInit ∈ tables_1) (w3 : Jvm.Cond.code Lib.objectInit ⟨#[0xb1]⟩ 1 none ∈ tables_1)
    (hLs : Ls.length = maxL) (hW : (st.map fun v => v.category).sum = W) (hf : 1 ≤ R.frames) (hl : W + 12 ≤ R.locals) (hp : pc + 3 = pc') (k : Run G K rv Hf pc' Ls st H cells slots) : Run G K rv Hf pc Ls (.ref i :: st) H cells slots := by
  obtain ⟨l, Z, a0, n⟩ := G; obtain ⟨p, e, R', s, m, args, below, meth, c, kc', ks'⟩ := K
  obtain ⟨hx, hZ, hown, hby, hml, hret, hlk, rfl, hnm, rfl, rfl, hw⟩ := O
  subst hp
  intro T locs real X N S A L
  obtain ⟨T', X', e', stp⟩ := initO X hx hZ hown (hw _ w1) (hw _ w2) (hw _ w3) rfl (g := mkF m pc real ((.ref i :: st).map (sh n))) rfl (by show real.size = _; rw [L.1, hml]; exact hLs) rfl (hb hby hd) hf (W := W) (by show 2 * 0 + ((st.map (sh n)).map _).sum ≤ _; rw [List.map_map, ← hW]; simp [Function.comp_def, sh_cat]) hl
  exact Done.step stp (k T' locs real X' N (by rw [e']; exact S) A L)
def Fg : List (Option Value) → List (Option Value) → Prop
  | [], [] => True
  | _ :: a, none :: b => Fg a b
  | x :: a, some v :: b => x = some v ∧ Fg a b
  | [], _ :: _ => False
  | _ :: _, [] => False
theorem Fg.spec : ∀ {A B : List (Option Value)}, Fg A B → A.length = B.length ∧ ∀ (k : Nat) (v : Value), B[k]? = some (some v) → A[k]? = some (some v)
  | [], [], _ => ⟨rfl, fun k v h => h⟩
  | x :: a, none :: b, h => by
    obtain ⟨h1, h2⟩ := Fg.spec (A := a) (B := b) h
    refine ⟨by simp [h1], fun k v hk => ?_⟩
    cases k with
    | zero => simp at hk
    | succ k => simpa using h2 k v (by simpa using hk)
  | x :: a, some w :: b, h => by
    have h' : x = some w ∧ Fg a b := h
    obtain ⟨h1, h2⟩ := Fg.spec (A := a) (B := b) h'.2
    refine ⟨by simp [h1], fun k v hk => ?_⟩
    cases k with
    | zero => simp at hk; simp [h'.1, hk]
    | succ k => simpa using h2 k v (by simpa using hk)
theorem g_forget (h : Fg Ls Ls') (k : Run G K rv Hf pc Ls' st H cells slots) : Run G K rv Hf pc Ls st H cells slots := by
  obtain ⟨l, Z, a0, n⟩ := G; obtain ⟨p, e, R', s, m, args, below, meth, c, kc', ks'⟩ := K
  obtain ⟨h1, h2⟩ := h.spec
  intro T locs real X N S A L
  exact k T locs real X N S A ⟨L.1.trans h1, L.2.1, fun j v hj => L.2.2 j v (h2 j v hj)⟩
/-! calls and returns -/
theorem cat_sum (n : Nat) (st : List Value) : ((st.map (sh n)).map fun v => v.category).sum = (st.map fun v => v.category).sum := by rw [List.map_map]; simp [Function.comp_def, sh_cat]
theorem g_static {ix : Nat} {y : MethodName} {bytes' : ByteArray} {maxL' : Nat} {ret' : Option FieldType} {rm : Room} {as : List Value} {H' : List Obj} {v : Option Value} {ps : List FieldType} {W : Nat} {stk : List Value} (O : Ok G K own bytes maxL ret R mn kc ks) (hd : decode bytes pc = .ok (.invokestatic ix, 3))
    (w1 : Jvm.Cond.methodLink own ix y ∈ tables_1) (w2 : Jvm.Cond.static y ∈ tables_1) (w3 : Jvm.Cond.initialized y.cls ∈ tables_1) (w4 : Jvm.Cond.code y bytes' maxL' ret' ∈ tables_1) (hy : y.cls ≠ "java/lang/invoke/MethodHandle" ∧ y.cls ≠ "java/lang/invoke/VarHandle")
    (pd : parseMethodDescriptor y.desc = some ⟨ps, ret'⟩) (hl : as.length = ps.length) (hstk : stk = as.reverse ++ st) (hLs : Ls.length = maxL) (hW : (st.map fun v => v.category).sum = W) (hf : rm.frames + 1 ≤ R.frames) (hlo : W + (maxL' + 11) + rm.locals ≤ R.locals) {c2 s2 : Nat} (hc2 : cells + rm.cells = c2) (hs2 : slots + rm.slots = s2) (hc : c2 ≤ R.cells) (hs : s2 ≤ R.slots)
    (con : Con G y bytes' maxL' ret' rm as H v H') (hp : pc + 3 = pc') (k : Run G K rv Hf pc' Ls (v.toList ++ st) H' c2 s2) : Run G K rv Hf pc Ls stk H cells slots := by
  obtain ⟨l, Z, a0, n⟩ := G; obtain ⟨p, e, R', s, m, args, below, meth, c, kc', ks'⟩ := K
  obtain ⟨hx, hZ, hown, hby, hml, hret, hlk, rfl, hnm, rfl, rfl, hw⟩ := O
  subst hp hstk hc2 hs2
  intro T locs real X N S A L
  obtain ⟨v', _, ⟨T', L', k', n'⟩, -, X', ⟨Lc, ⟨hv, N', S', hlen⟩, l1, y1, z1⟩, stp⟩ := Jvm.LawKit.callS X hx (y := y) hown (mvT hZ (hw _ w1)) (mvT hZ (hw _ w2)) (mvT hZ (hw _ w3)) (mvT hZ (hw _ w4)) hy (backOf (W := W) (Q := fun u hh LL => u = Option.map (sh n) v ∧ Fr n LL ∧ Sim (l, Z, a0, n) H' hh ∧ H'.length = H.length + rm.cells) (con T.heap S) hZ (hw _ w4) (hw _ w3) hf hlo) (g := mkF m pc real ((as.reverse ++ st).map (sh n))) rfl (by show real.size = _; rw [L.1, hml]; exact hLs)
    (argsL := as.map (sh n)) (rest := st.map (sh n)) (lenOf pd (by simpa using hl)) (by simp) (by show 2 * 0 + _ ≤ _; rw [cat_sum, hW]; exact Nat.le_of_eq (Nat.zero_add _)) (hb hby hd) (fun _ _ => ⟨rfl, rfl, hc, hs⟩)
  dsimp only [Pt.U, Pt.locs, Pt.cells, Pt.slots] at X' l1 y1 z1 stp S' N'
  subst l1 y1 z1 hv
  have k2 := k T' _ real X' (Fr.app N N') S' (by omega) L
  refine Done.step stp ?_
  cases v <;> exact k2
theorem g_special {ix i : Nat} {y : MethodName} {bytes' : ByteArray} {maxL' : Nat} {rm : Room} {as : List Value} {H' : List Obj} {ps : List FieldType} {W : Nat} {stk : List Value} (O : Ok G K own bytes maxL ret R mn kc ks) (hd : decode bytes pc = .ok (.invokespecial ix, 3)) (hy1 : y.name = "<init>")
    (w1 : Jvm.Cond.methodLink own ix y ∈ tables_1) (w2 : Jvm.Cond.instanceMethod y ∈ tables_1) (w3 : Jvm.Cond.initialized y.cls ∈ tables_1) (w4 : Jvm.Cond.code y bytes' maxL' none ∈ tables_1) (hy : y.cls ≠ "java/lang/invoke/MethodHandle" ∧ y.cls ≠ "java/lang/invoke/VarHandle")
    (pd : parseMethodDescriptor y.desc = some ⟨ps, none⟩) (hl : as.length = ps.length) (hstk : stk = as.reverse ++ .ref i :: st) (hLs : Ls.length = maxL) (hW : (st.map fun v => v.category).sum = W) (hf : rm.frames + 1 ≤ R.frames) (hlo : W + (maxL' + 11) + rm.locals ≤ R.locals) {c2 s2 : Nat} (hc2 : cells + rm.cells = c2) (hs2 : slots + rm.slots = s2) (hc : c2 ≤ R.cells) (hs : s2 ≤ R.slots)
    (con : Con G y bytes' maxL' none rm (.ref i :: as) H none H') (hp : pc + 3 = pc') (k : Run G K rv Hf pc' Ls st H' c2 s2) : Run G K rv Hf pc Ls stk H cells slots := by
  obtain ⟨l, Z, a0, n⟩ := G; obtain ⟨p, e, R', s, m, args, below, meth, c, kc', ks'⟩ := K
  obtain ⟨hx, hZ, hown, hby, hml, hret, hlk, rfl, hnm, rfl, rfl, hw⟩ := O
  subst hp hstk hc2 hs2
  intro T locs real X N S A L
  obtain ⟨v', _, ⟨T', L', k', n'⟩, -, X', ⟨Lc, ⟨hv, N', S', hlen⟩, l1, y1, z1⟩, stp⟩ := X.specialBack hx (y := y) hy1 hown (mvT hZ (hw _ w1)) (mvT hZ (hw _ w2)) (mvT hZ (hw _ w4)) hy (backOf (W := W) (Q := fun u hh LL => u = Option.map (sh n) none ∧ Fr n LL ∧ Sim (l, Z, a0, n) H' hh ∧ H'.length = H.length + rm.cells) (con T.heap S) hZ (hw _ w4) (hw _ w3) hf hlo) (g := mkF m pc real ((as.reverse ++ .ref i :: st).map (sh n))) rfl (by show real.size = _; rw [L.1, hml]; exact hLs) (Steps.refl _)
    (a := n + i) (argsL := as.map (sh n)) (rest := st.map (sh n)) (lenOf pd (by simpa using hl)) (by simp [sh]) (by show 2 * 0 + _ ≤ _; rw [cat_sum, hW]; exact Nat.le_of_eq (Nat.zero_add _)) (hb hby hd) (fun _ _ => ⟨rfl, rfl, hc, hs⟩)
  dsimp only [Pt.U, Pt.locs, Pt.cells, Pt.slots] at X' l1 y1 z1 stp S' N'
  subst l1 y1 z1 hv
  exact Done.step (fun t q => stp.trans q) (k T' _ real X' (Fr.app N N') S' (by omega) L)
theorem g_virtual {ix i t : Nat} {y : MethodName} {bytes' : ByteArray} {maxL' : Nat} {ret' : Option FieldType} {rm : Room} {as vs : List Value} {H' : List Obj} {v : Option Value} {ps : List FieldType} {W : Nat} {stk : List Value} (O : Ok G K own bytes maxL ret R mn kc ks) (hd : decode bytes pc = .ok (.invokevirtual ix, 3))
    (w1 : Jvm.Cond.methodLink own ix y ∈ tables_1) (w2 : Jvm.Cond.declares y ∈ tables_1) (w5 : Jvm.Cond.selects (lay t).1 y y ∈ tables_1) (w6 : Jvm.Cond.instanceMethod y ∈ tables_1) (w3 : Jvm.Cond.initialized y.cls ∈ tables_1) (w4 : Jvm.Cond.code y bytes' maxL' ret' ∈ tables_1) (hy : y.cls ≠ "java/lang/invoke/MethodHandle" ∧ y.cls ≠ "java/lang/invoke/VarHandle")
    (ho : obj t H i = some vs) (pd : parseMethodDescriptor y.desc = some ⟨ps, ret'⟩) (hl : as.length = ps.length) (hstk : stk = as.reverse ++ .ref i :: st) (hLs : Ls.length = maxL) (hW : (st.map fun v => v.category).sum = W) (hf : rm.frames + 1 ≤ R.frames) (hlo : W + (maxL' + 11) + rm.locals ≤ R.locals) {c2 s2 : Nat} (hc2 : cells + rm.cells = c2) (hs2 : slots + rm.slots = s2) (hc : c2 ≤ R.cells) (hs : s2 ≤ R.slots)
    (con : Con G y bytes' maxL' ret' rm (.ref i :: as) H v H') (hp : pc + 3 = pc') (k : Run G K rv Hf pc' Ls (v.toList ++ st) H' c2 s2) : Run G K rv Hf pc Ls stk H cells slots := by
  obtain ⟨l, Z, a0, n⟩ := G; obtain ⟨p, e, R', s, m, args, below, meth, c, kc', ks'⟩ := K
  obtain ⟨hx, hZ, hown, hby, hml, hret, hlk, rfl, hnm, rfl, rfl, hw⟩ := O
  subst hp hstk hc2 hs2
  intro T locs real X N S A L
  obtain ⟨cq, kq, qa, qb, qc⟩ := isOf hZ (T := T) rfl (sim_obj S ho).1
  obtain ⟨v', _, ⟨T', L', k', n'⟩, -, X', ⟨Lc, ⟨hv, N', S', hlen⟩, l1, y1, z1⟩, stp⟩ := X.virtualBack hx (y := y) (z := y) hown (mvT hZ (hw _ w1)) (mvT hZ (hw _ w2)) (notFace_of_selects (args := #[]) (mvT hZ (hw _ w5))) (mvT hZ (hw _ w5)) (mvT hZ (hw _ w6)) hy (backOf (W := W) (Q := fun u hh LL => u = Option.map (sh n) v ∧ Fr n LL ∧ Sim (l, Z, a0, n) H' hh ∧ H'.length = H.length + rm.cells) (con T.heap S) hZ (hw _ w4) (hw _ w3) hf hlo) qa qc (g := mkF m pc real ((as.reverse ++ .ref i :: st).map (sh n))) rfl (by show real.size = _; rw [L.1, hml]; exact hLs) (Steps.refl _)
    (argsL := as.map (sh n)) (rest := st.map (sh n)) (lenOf pd (by simpa using hl)) (by simp [sh]) (by show 2 * 0 + _ ≤ _; rw [cat_sum, hW]; exact Nat.le_of_eq (Nat.zero_add _)) (hb hby hd) (fun _ _ => ⟨rfl, rfl, hc, hs⟩)
  dsimp only [Pt.U, Pt.locs, Pt.cells, Pt.slots] at X' l1 y1 z1 stp S' N'
  subst l1 y1 z1 hv
  have k2 := k T' _ real X' (Fr.app N N') S' (by omega) L
  refine Done.step (fun t q => stp.trans q) ?_
  cases v <;> exact k2
theorem g_ret_void (O : Ok G K own bytes maxL none R mn kc ks) (hd : decode bytes pc = .ok (.return_, 1)) (hc : cells = kc) (hs : slots ≤ ks) : Run G K none H pc Ls [] H cells slots := by
  obtain ⟨l, Z, a0, n⟩ := G; obtain ⟨p, e, R', s, m, args, below, meth, c, kc', ks'⟩ := K
  obtain ⟨hx, hZ, hown, hby, hml, hret, hlk, rfl, hnm, rfl, rfl, hw⟩ := O
  intro T locs real X N S A L
  subst hc
  obtain ⟨fs, hr, hrun, hended, hW, hsame⟩ := X.leave (v := none) (fun _ => rfl) hlk
  exact ⟨_, _, X.returnOut hx hret (hb hby hd) hr, hrun, hended, _, _, rfl, ⟨rfl, N, S, A⟩, ⟨_, rfl⟩, hW, hsame.mono (Nat.le_refl _) hs⟩
theorem g_ret_int {x : Int32} (O : Ok G K own bytes maxL (some .int) R mn kc ks) (hd : decode bytes pc = .ok (.ireturn, 1)) (hc : cells = kc) (hs : slots ≤ ks) : Run G K (some (.int x)) H pc Ls (.int x :: st) H cells slots := by
  obtain ⟨l, Z, a0, n⟩ := G; obtain ⟨p, e, R', s, m, args, below, meth, c, kc', ks'⟩ := K
  obtain ⟨hx, hZ, hown, hby, hml, hret, hlk, rfl, hnm, rfl, rfl, hw⟩ := O
  intro T locs real X N S A L
  subst hc
  obtain ⟨fs, hr, hrun, hended, hW, hsame⟩ := X.leave (v := some (.int x)) (fun h => by rw [hret] at h; cases h) hlk
  exact ⟨_, _, retOut X hx hret rfl (Or.inl ⟨rfl, Or.inl rfl, x, rfl⟩) (hb hby hd) hr, hrun, hended, _, _, rfl, ⟨rfl, N, S, A⟩, ⟨_, rfl⟩, hW, hsame.mono (Nat.le_refl _) hs⟩
theorem g_ret_nar {t : FieldType} {x y : Int32} (O : Ok G K own bytes maxL (some t) R mn kc ks) (hd : decode bytes pc = .ok (.ireturn, 1)) (ht : t = .boolean ∨ t = .byte ∨ t = .char ∨ t = .short) (hy : nar t x = y) (hc : cells = kc) (hs : slots ≤ ks) : Run G K (some (.int y)) H pc Ls (.int x :: st) H cells slots := by
  obtain ⟨l, Z, a0, n⟩ := G; obtain ⟨p, e, R', s, m, args, below, meth, c, kc', ks'⟩ := K
  obtain ⟨hx, hZ, hown, hby, hml, hret, hlk, rfl, hnm, rfl, rfl, hw⟩ := O
  intro T locs real X N S A L
  subst hc hy
  obtain ⟨fs, hr, hrun, hended, hW, hsame⟩ := X.leave (v := some (.int (nar t x))) (fun h => by rw [hret] at h; cases h) hlk
  exact ⟨_, _, retN X hx hret ht (hb hby hd) hr, hrun, hended, _, _, rfl, ⟨rfl, N, S, A⟩, ⟨_, rfl⟩, hW, hsame.mono (Nat.le_refl _) hs⟩
theorem g_ret_long {x : Int64} (O : Ok G K own bytes maxL (some .long) R mn kc ks) (hd : decode bytes pc = .ok (.lreturn, 1)) (hc : cells = kc) (hs : slots ≤ ks) : Run G K (some (.long x)) H pc Ls (.long x :: st) H cells slots := by
  obtain ⟨l, Z, a0, n⟩ := G; obtain ⟨p, e, R', s, m, args, below, meth, c, kc', ks'⟩ := K
  obtain ⟨hx, hZ, hown, hby, hml, hret, hlk, rfl, hnm, rfl, rfl, hw⟩ := O
  intro T locs real X N S A L
  subst hc
  obtain ⟨fs, hr, hrun, hended, hW, hsame⟩ := X.leave (v := some (.long x)) (fun h => by rw [hret] at h; cases h) hlk
  exact ⟨_, _, retOut X hx hret rfl (Or.inr (Or.inl ⟨rfl, rfl, x, rfl⟩)) (hb hby hd) hr, hrun, hended, _, _, rfl, ⟨rfl, N, S, A⟩, ⟨_, rfl⟩, hW, hsame.mono (Nat.le_refl _) hs⟩
theorem g_ret_ref {t : FieldType} {i : Nat} (O : Ok G K own bytes maxL (some t) R mn kc ks) (hd : decode bytes pc = .ok (.areturn, 1)) (ht : t.isReference = true) (hn : ∀ a, narrow t (.ref a) = .ref a) (hc : cells = kc) (hs : slots ≤ ks) : Run G K (some (.ref i)) H pc Ls (.ref i :: st) H cells slots := by
  obtain ⟨l, Z, a0, n⟩ := G; obtain ⟨p, e, R', s, m, args, below, meth, c, kc', ks'⟩ := K
  obtain ⟨hx, hZ, hown, hby, hml, hret, hlk, rfl, hnm, rfl, rfl, hw⟩ := O
  intro T locs real X N S A L
  subst hc
  obtain ⟨fs, hr, hrun, hended, hW, hsame⟩ := X.leave (v := some (.ref (n + i))) (fun h => by rw [hret] at h; cases h) hlk
  exact ⟨_, _, retOut X hx hret (hn _) (Or.inr (Or.inr (Or.inr (Or.inr ⟨rfl, ht, rfl⟩)))) (hb hby hd) hr, hrun, hended, _, _, rfl, ⟨rfl, N, S, A⟩, ⟨_, rfl⟩, hW, hsame.mono (Nat.le_refl _) hs⟩
theorem con_of {y : MethodName} {rm : Room} {as : List Value} (hw : ∀ d ∈ tables_1, d.before G.2.2.1 G.2.1 = true) (pn : plainFor y = true) (hL : aloc as maxL = Ls) (body : ∀ K, Ok G K y.cls bytes maxL ret rm y.name rm.cells rm.slots → Run G K rv Hf 0 Ls [] H 0 0) : Con G y bytes maxL ret rm as H rv Hf := by
  obtain ⟨l, Z, a0, n⟩ := G
  intro h0 S0
  refine MetFree.of_bodySF pn hisR ?_
  intro p e s m args below meth c s₁ Bd hml0 hP hK
  obtain ⟨rfl, hZ, rfl⟩ := hP
  have X0 : Stand p l e rm s m _ below meth c s₁ [] 0 0 := Stand.of_body Bd
  have e0 : s₁.heap = s.heap := by rw [Bd.state]; rfl
  have k := body (p, e, rm, s, m, (as.map (sh n)).toArray, below, meth, c, rm.cells, rm.slots) ⟨Bd.exec, hZ, findClass_of_methodNamed Bd.named, Bd.bytes, hml0, Bd.returns, Bd.notSynchronized, rfl, (name_of_methodNamed Bd.named Bd.method).1, rfl, rfl, hw⟩
  subst hL
  obtain ⟨t, o, h1, h2, h3, v, L, h4, ⟨h5, h6, h7, h8⟩, h9⟩ := k s₁ [] _ X0 (Fr.nil n) (by rw [e0]; exact S0) (by rw [Nat.add_zero]; exact S0.1) (entry_rel n as maxL)
  refine ⟨t, o, h1, h2, h3, v, L, h4, ⟨h5, h6, h7, ?_⟩, h9⟩
  have := S0.1
  simp only at this
  omega
/-- the law itself, over an empty own heap -/
theorem law_of {l : Launch} {s : State} {a0 : Array Value} {as : List Value} {k0 k1 : Nat} (hw : ∀ d ∈ tables_1, d.before a0 s = true) (pn : plainFor x = true) (hL : aloc as maxLocals = Ls) (hid : as.map (sh s.heap.size) = as)
    (body : ∀ K, Ok (l, s, a0, s.heap.size) K x.cls code maxLocals Jvm.Pilot.@@N@@.ret room_1 x.name k0 k1 → Run (l, s, a0, s.heap.size) K rv Hf 0 Ls [] [] 0 0) :
    MetFree l x (head1 (Jvm.Cond.code x code maxLocals Jvm.Pilot.@@N@@.ret :: tables_1) room_1) (fun a U => a = as.toArray ∧ s.Warmed39 U.vm ∧ U.heap = s.heap) (fun _ _ _ _ _ => True) (fun _ U o U' => ∃ v L, o = .returned v ∧ (v = rv.map (sh s.heap.size) ∧ Fr s.heap.size L) ∧ FrameEnd U o U' L k0 k1) := by
  refine MetFree.of_bodySF pn hisR ?_
  intro p e U m args below meth c s₁ Bd hml0 hP hK
  obtain ⟨rfl, hZ, hU⟩ := hP
  have X0 : Stand p l e room_1 U m _ below meth c s₁ [] 0 0 := Stand.of_body Bd
  have e0 : s₁.heap = U.heap := by rw [Bd.state]; rfl
  have k := body (p, e, room_1, U, m, as.toArray, below, meth, c, k0, k1) ⟨Bd.exec, hZ, findClass_of_methodNamed Bd.named, Bd.bytes, hml0, Bd.returns, Bd.notSynchronized, rfl, (name_of_methodNamed Bd.named Bd.method).1, rfl, rfl, hw⟩
  subst hL
  have S0 : Sim (l, s, a0, s.heap.size) [] s₁.heap := ⟨by rw [e0, hU]; rfl, fun i o h => by simp at h⟩
  have er := entry_rel s.heap.size as maxLocals
  rw [hid] at er
  obtain ⟨t, o, h1, h2, h3, v, L, h4, ⟨h5, h6, h7, h8⟩, h9⟩ := k s₁ [] _ X0 (Fr.nil _) S0 (by rw [hU]; rfl) er
  exact ⟨t, o, h1, h2, h3, v, L, h4, ⟨h5, h6⟩, h9⟩
theorem Ok.w (O : Ok G K own bytes maxL ret R mn kc ks) : ∀ d ∈ tables_1, d.before G.2.2.1 G.2.1 = true := by
  obtain ⟨l, Z, a0, n⟩ := G; obtain ⟨p, e, R', s, m, args, below, meth, c, kc', ks'⟩ := K
  obtain ⟨-, -, -, -, -, -, -, -, -, -, -, hw⟩ := O
  exact hw
theorem bnd {α β : Type} {o : Option α} {f : α → Option β} {b : β} (h : o.bind f = some b) : ∃ a, o = some a ∧ f a = some b := Option.bind_eq_some_iff.mp h
theorem g_static1 {ix : Nat} {y : MethodName} {bytes' : ByteArray} {maxL' : Nat} {ret' : Option FieldType} {rm : Room} {as : List Value} {H' : List Obj} {v : Value} {ps : List FieldType} {W : Nat} {stk : List Value} (O : Ok G K own bytes maxL ret R mn kc ks) (hd : decode bytes pc = .ok (.invokestatic ix, 3))
    (w1 : Jvm.Cond.methodLink own ix y ∈ tables_1) (w2 : Jvm.Cond.static y ∈ tables_1) (w3 : Jvm.Cond.initialized y.cls ∈ tables_1) (w4 : Jvm.Cond.code y bytes' maxL' ret' ∈ tables_1) (hy : y.cls ≠ "java/lang/invoke/MethodHandle" ∧ y.cls ≠ "java/lang/invoke/VarHandle")
    (pd : parseMethodDescriptor y.desc = some ⟨ps, ret'⟩) (hl : as.length = ps.length) (hstk : stk = as.reverse ++ st) (hLs : Ls.length = maxL) (hW : (st.map fun v => v.category).sum = W) (hf : rm.frames + 1 ≤ R.frames) (hlo : W + (maxL' + 11) + rm.locals ≤ R.locals) {c2 s2 : Nat} (hc2 : cells + rm.cells = c2) (hs2 : slots + rm.slots = s2) (hc : c2 ≤ R.cells) (hs : s2 ≤ R.slots)
    (con : Con G y bytes' maxL' ret' rm as H (some v) H') (hp : pc + 3 = pc') (k : Run G K rv Hf pc' Ls (v :: st) H' c2 s2) : Run G K rv Hf pc Ls stk H cells slots := g_static O hd w1 w2 w3 w4 hy pd hl hstk hLs hW hf hlo hc2 hs2 hc hs con hp k
theorem g_static0 {ix : Nat} {y : MethodName} {bytes' : ByteArray} {maxL' : Nat} {ret' : Option FieldType} {rm : Room} {as : List Value} {H' : List Obj} {ps : List FieldType} {W : Nat} {stk : List Value} (O : Ok G K own bytes maxL ret R mn kc ks) (hd : decode bytes pc = .ok (.invokestatic ix, 3))
    (w1 : Jvm.Cond.methodLink own ix y ∈ tables_1) (w2 : Jvm.Cond.static y ∈ tables_1) (w3 : Jvm.Cond.initialized y.cls ∈ tables_1) (w4 : Jvm.Cond.code y bytes' maxL' ret' ∈ tables_1) (hy : y.cls ≠ "java/lang/invoke/MethodHandle" ∧ y.cls ≠ "java/lang/invoke/VarHandle")
    (pd : parseMethodDescriptor y.desc = some ⟨ps, ret'⟩) (hl : as.length = ps.length) (hstk : stk = as.reverse ++ st) (hLs : Ls.length = maxL) (hW : (st.map fun v => v.category).sum = W) (hf : rm.frames + 1 ≤ R.frames) (hlo : W + (maxL' + 11) + rm.locals ≤ R.locals) {c2 s2 : Nat} (hc2 : cells + rm.cells = c2) (hs2 : slots + rm.slots = s2) (hc : c2 ≤ R.cells) (hs : s2 ≤ R.slots)
    (con : Con G y bytes' maxL' ret' rm as H none H') (hp : pc + 3 = pc') (k : Run G K rv Hf pc' Ls st H' c2 s2) : Run G K rv Hf pc Ls stk H cells slots := g_static O hd w1 w2 w3 w4 hy pd hl hstk hLs hW hf hlo hc2 hs2 hc hs con hp k
theorem g_virtual1 {ix i t : Nat} {y : MethodName} {bytes' : ByteArray} {maxL' : Nat} {ret' : Option FieldType} {rm : Room} {as vs : List Value} {H' : List Obj} {v : Value} {ps : List FieldType} {W : Nat} {stk : List Value} (O : Ok G K own bytes maxL ret R mn kc ks) (hd : decode bytes pc = .ok (.invokevirtual ix, 3))
    (w1 : Jvm.Cond.methodLink own ix y ∈ tables_1) (w2 : Jvm.Cond.declares y ∈ tables_1) (w5 : Jvm.Cond.selects (lay t).1 y y ∈ tables_1) (w6 : Jvm.Cond.instanceMethod y ∈ tables_1) (w3 : Jvm.Cond.initialized y.cls ∈ tables_1) (w4 : Jvm.Cond.code y bytes' maxL' ret' ∈ tables_1) (hy : y.cls ≠ "java/lang/invoke/MethodHandle" ∧ y.cls ≠ "java/lang/invoke/VarHandle")
    (ho : obj t H i = some vs) (pd : parseMethodDescriptor y.desc = some ⟨ps, ret'⟩) (hl : as.length = ps.length) (hstk : stk = as.reverse ++ .ref i :: st) (hLs : Ls.length = maxL) (hW : (st.map fun v => v.category).sum = W) (hf : rm.frames + 1 ≤ R.frames) (hlo : W + (maxL' + 11) + rm.locals ≤ R.locals) {c2 s2 : Nat} (hc2 : cells + rm.cells = c2) (hs2 : slots + rm.slots = s2) (hc : c2 ≤ R.cells) (hs : s2 ≤ R.slots)
    (con : Con G y bytes' maxL' ret' rm (.ref i :: as) H (some v) H') (hp : pc + 3 = pc') (k : Run G K rv Hf pc' Ls (v :: st) H' c2 s2) : Run G K rv Hf pc Ls stk H cells slots := g_virtual O hd w1 w2 w5 w6 w3 w4 hy ho pd hl hstk hLs hW hf hlo hc2 hs2 hc hs con hp k
theorem g_virtual0 {ix i t : Nat} {y : MethodName} {bytes' : ByteArray} {maxL' : Nat} {ret' : Option FieldType} {rm : Room} {as vs : List Value} {H' : List Obj} {ps : List FieldType} {W : Nat} {stk : List Value} (O : Ok G K own bytes maxL ret R mn kc ks) (hd : decode bytes pc = .ok (.invokevirtual ix, 3))
    (w1 : Jvm.Cond.methodLink own ix y ∈ tables_1) (w2 : Jvm.Cond.declares y ∈ tables_1) (w5 : Jvm.Cond.selects (lay t).1 y y ∈ tables_1) (w6 : Jvm.Cond.instanceMethod y ∈ tables_1) (w3 : Jvm.Cond.initialized y.cls ∈ tables_1) (w4 : Jvm.Cond.code y bytes' maxL' ret' ∈ tables_1) (hy : y.cls ≠ "java/lang/invoke/MethodHandle" ∧ y.cls ≠ "java/lang/invoke/VarHandle")
    (ho : obj t H i = some vs) (pd : parseMethodDescriptor y.desc = some ⟨ps, ret'⟩) (hl : as.length = ps.length) (hstk : stk = as.reverse ++ .ref i :: st) (hLs : Ls.length = maxL) (hW : (st.map fun v => v.category).sum = W) (hf : rm.frames + 1 ≤ R.frames) (hlo : W + (maxL' + 11) + rm.locals ≤ R.locals) {c2 s2 : Nat} (hc2 : cells + rm.cells = c2) (hs2 : slots + rm.slots = s2) (hc : c2 ≤ R.cells) (hs : s2 ≤ R.slots)
    (con : Con G y bytes' maxL' ret' rm (.ref i :: as) H none H') (hp : pc + 3 = pc') (k : Run G K rv Hf pc' Ls st H' c2 s2) : Run G K rv Hf pc Ls stk H cells slots := g_virtual O hd w1 w2 w5 w6 w3 w4 hy ho pd hl hstk hLs hW hf hlo hc2 hs2 hc hs con hp k
/-- clone() of an int[] -/
def cloneI (cap : Nat) (H : List Obj) (i : Nat) : Option (List Obj) := (arr .int H i).bind fun vs => if vs.length ≤ cap ∧ vs.all (fun v => (getI v).isSome) = true then some (H ++ [.inl (.int, vs)]) else none
theorem g_cloneI {ix i cap W : Nat} {H' : List Obj} (O : Ok G K own bytes maxL ret R mn kc ks) (hd : decode bytes pc = .ok (.invokevirtual ix, 3)) (w1 : Jvm.Cond.methodLink own ix (⟨"[I", "clone", "()Ljava/lang/Object;"⟩ : MethodName) ∈ tables_1) (w2 : Jvm.Cond.sameMethod "[I" "java/lang/Object" "clone" "()Ljava/lang/Object;" ∈ tables_1) (w3 : Jvm.Cond.native (⟨"java/lang/Object", "clone", "()Ljava/lang/Object;"⟩ : MethodName) ∈ tables_1)
    (w4 : Jvm.Cond.instanceMethod (⟨"java/lang/Object", "clone", "()Ljava/lang/Object;"⟩ : MethodName) ∈ tables_1) (w5 : Jvm.Cond.selects "[I" (⟨"[I", "clone", "()Ljava/lang/Object;"⟩ : MethodName) (⟨"java/lang/Object", "clone", "()Ljava/lang/Object;"⟩ : MethodName) ∈ tables_1) (w6 : Jvm.Cond.castable "[I" "java/lang/Cloneable" ∈ tables_1) (hr : cloneI cap H i = some H')
    (hLs : Ls.length = maxL) (hW : (st.map fun v => v.category).sum = W) (hf : 1 ≤ R.frames) (hl : W + 14 ≤ R.locals) {c2 s2 : Nat} (hc2 : cells + 1 = c2) (hs2 : slots + cap = s2) (hc : c2 ≤ R.cells) (hs : s2 ≤ R.slots) (hp : pc + 3 = pc')
    (k : Run G K rv Hf pc' Ls (.ref H.length :: st) H' c2 s2) : Run G K rv Hf pc Ls (.ref i :: st) H cells slots := by
  obtain ⟨l, Z, a0, n⟩ := G; obtain ⟨p, e, R', s, m, args, below, meth, c, kc', ks'⟩ := K
  obtain ⟨hx, hZ, hown, hby, hml, hret, hlk, rfl, hnm, rfl, rfl, hw⟩ := O
  subst hp hc2 hs2
  intro T locs real X N S A L
  obtain ⟨vs, h1, h2⟩ := bnd hr
  have hv : vs.length ≤ cap ∧ vs.all (fun v => (getI v).isSome) = true := Decidable.byContradiction fun hv => by rw [if_neg hv] at h2; cases h2
  rw [if_pos hv] at h2
  cases h2
  obtain ⟨EX, cl, B, es⟩ := S.2 i _ (arr_e h1)
  have FC : FitC Z cl := fitC_of B fun j hj v hjv => by
    rw [es] at hjv
    simp only [List.getElem?_toArray, List.getElem?_map, Option.map_eq_some_iff] at hjv
    obtain ⟨u, q1, q2⟩ := hjv
    have := List.all_eq_true.mp hv.2 u (List.mem_of_getElem? q1)
    cases u <;> simp [getI] at this
    rw [← q2]; rfl
  obtain ⟨T', h', X', e', E, B', EX', stp⟩ := cloneA X hx hZ hown (hw _ w1) (hw _ w2) (hw _ w3) (hw _ w4) (hw _ w5) (hw _ w6) rfl B EX FC (g := mkF m pc real ((.ref i :: st).map (sh n))) rfl (by show real.size = _; rw [L.1, hml]; exact hLs) rfl (hb hby hd) hf (W := W) (cap := cap) (by show 2 * 0 + _ ≤ _; rw [cat_sum, hW]; exact Nat.le_of_eq (Nat.zero_add _)) hl (by rw [sl_len es]; exact hv.1) hc hs
  have hsz : h'.size = T.heap.size + 1 := by
    have a1 : Array.size T.heap < Array.size h' := B'.lt
    have a2 : Array.size T'.heap ≤ Array.size s.heap + (cells + 1) := X'.heapSize
    rw [e'] at a2
    have a3 : Array.size T.heap = n + H.length := S.1
    have a4 : Array.size s.heap + cells = n + H.length := A
    omega
  have ea : T.heap.size = n + H.length := S.1
  have S' : Sim (l, Z, a0, n) (H ++ [.inl (.int, vs)]) T'.heap := by
    rw [e']
    exact sim_ext S E hsz ⟨EX', _, B', es⟩
  refine Done.step stp ?_
  have k' := k T' locs real X' N S' (by simp only [List.length_append, List.length_singleton] at A ⊢; omega) L
  rw [ea]
  exact k'
theorem g_checkcastI {ix i : Nat} {vs : List Value} (O : Ok G K own bytes maxL ret R mn kc ks) (hd : decode bytes pc = .ok (.checkcast ix, 3)) (w1 : Jvm.Cond.classLink own ix "[I" ∈ tables_1) (ha : arr .int H i = some vs) (hp : pc + 3 = pc')
    (k : Run G K rv Hf pc' Ls (.ref i :: st) H cells slots) : Run G K rv Hf pc Ls (.ref i :: st) H cells slots := by
  obtain ⟨l, Z, a0, n⟩ := G; obtain ⟨p, e, R', s, m, args, below, meth, c, kc', ks'⟩ := K
  obtain ⟨hx, hZ, hown, hby, hml, hret, hlk, rfl, hnm, rfl, rfl, hw⟩ := O
  subst hp
  intro T locs real X N S A L
  obtain ⟨EX, cl, B, es⟩ := S.2 i _ (arr_e ha)
  obtain ⟨T', X', e', stp⟩ := castY X hx hZ hown (hw _ w1) rfl (Ins.self EX) (g := mkF m pc real ((.ref i :: st).map (sh n))) rfl rfl (hb hby hd)
  exact Done.step stp (k T' locs real X' N (by rw [e']; exact S) A L)
end Laws
/-! small facts on numbers -/
theorem own_n0 : nar .boolean 0 = 0 := rfl
theorem own_n1 : nar .boolean 1 = 1 := rfl
theorem own_fin {r : Int32} {N : Nat} (h0 : 0 ≤ r.toInt) (h1 : r.toInt < N) (hN : N ≤ 2147483648) : ∃ j : Fin N, r = (j.1).toInt32 := by
  refine ⟨⟨r.toInt.toNat, by omega⟩, Int32.toInt_inj.mp ?_⟩
  show r.toInt = (r.toInt.toNat).toInt32.toInt
  rw [len_toInt (by show r.toInt.toNat < 2 ^ 31; omega)]
  omega
theorem own_lt {x y : Int32} : x < y ↔ x.toInt < y.toInt := Int32.lt_iff_toInt_lt
theorem own_le {x y : Int32} : x ≤ y ↔ x.toInt ≤ y.toInt := Int32.le_iff_toInt_le
theorem own_eq {x y : Int32} : x = y ↔ x.toInt = y.toInt := Int32.toInt_inj.symm
theorem own_ltL {x y : Int64} : x < y ↔ x.toInt < y.toInt := Int64.lt_iff_toInt_lt
theorem own_eqL {x y : Int64} : x = y ↔ x.toInt = y.toInt := Int64.toInt_inj.symm
/-- x & (2^31 - 1), then a remainder by a small number -/
theorem own_m31 (a : Int32) : (a &&& 2147483647).toInt = a.toInt % 2147483648 := c_mask a 2147483647 31 (by decide) (by decide)
theorem own_mod {a y : Int32} {d : Int} (hy : y.toInt = d) (h : 0 ≤ a.toInt) : (a % y).toInt = a.toInt % d := (c_irem a y d hy).1 h

/-! body 1 -/
theorem d1_0 : decode method_3_code 0 = .ok (.lload_n 0, 1) := by decide +kernel
theorem d1_1 : decode method_3_code 1 = .ok (.lconst 0, 1) := by decide +kernel
theorem d1_2 : decode method_3_code 2 = .ok (.lcmp, 1) := by decide +kernel
theorem d1_3 : decode method_3_code 3 = .ok (.ifCond .ge 7, 3) := by decide +kernel
theorem d1_6 : decode method_3_code 6 = .ok (.lconst 1, 1) := by decide +kernel
theorem d1_7 : decode method_3_code 7 = .ok (.goto 4, 3) := by decide +kernel
theorem d1_10 : decode method_3_code 10 = .ok (.lconst 0, 1) := by decide +kernel
theorem d1_11 : decode method_3_code 11 = .ok (.lreturn, 1) := by decide +kernel
theorem pd1 : parseMethodDescriptor "(J)J" = some ⟨[.long], some .long⟩ := by decide +kernel
theorem pn1 : plainFor (⟨"com/example/waystation/waystation/placement/LimbsSubtractPinLaw", "bor", "(J)J"⟩ : MethodName) = true := by first | exact plainFor_of_name (by first | (simp [plainName, overriddenIn]; done) | decide +kernel) | decide +kernel
abbrev rm1 : Room := { frames := 0, cells := 0, slots := 0, locals := 0 }
abbrev Ok1 (G : Gx) (K : Kx) : Prop := Ok G K "com/example/waystation/waystation/placement/LimbsSubtractPinLaw" method_3_code 2 (Option.some FieldType.long) rm1 "bor" 0 0
def m1_b11 (t0 : Int64) : Int64 :=
  t0
theorem m1_t11 {G : Gx} {K : Kx} (O : Ok1 G K) (t0 : Int64) (H : List Obj) : Run G K (some (.long (m1_b11 t0))) H 11 [none, none] [(.long t0)] H 0 0 := by
  unfold m1_b11
  exact g_ret_long O d1_11 rfl (by decide)
def m1_b0 (v0 : Int64) : Int64 :=
  if v0 < (0 : Int64) then
    m1_b11 (1 : Int64)
  else
    m1_b11 (0 : Int64)
theorem m1_t0 {G : Gx} {K : Kx} (O : Ok1 G K) (v0 : Int64) (H : List Obj) : Run G K (some (.long (m1_b0 v0))) H 0 [some (.long v0), none] [] H 0 0 := by
  unfold m1_b0
  refine g_lload_n O (pc' := 1) d1_0 (v := v0) rfl rfl ?_
  refine g_lconst O (pc' := 2) d1_1 (v := 0) (by decide) rfl ?_
  refine g_lcmp_ge O (pc' := 6) d1_2 rfl d1_3 rfl (by decide) (pc1 := 10) (by decide) (fun h3 => ?_) (fun h3 => ?_)
  · rw [if_neg h3]
    refine g_lconst O (pc' := 11) d1_10 (v := 0) (by decide) rfl ?_
    refine g_forget (Ls' := [none, none]) trivial ?_
    exact m1_t11 O (0 : Int64) H
  · rw [if_pos h3]
    refine g_lconst O (pc' := 7) d1_6 (v := 1) (by decide) rfl ?_
    refine g_goto O d1_7 (by decide) (pc' := 11) (by decide) ?_
    refine g_forget (Ls' := [none, none]) trivial ?_
    exact m1_t11 O (1 : Int64) H
abbrev m1 (v0 : Int64) : Int64 := m1_b0 v0
theorem con1 {G : Gx} (hw : ∀ d ∈ tables_1, d.before G.2.2.1 G.2.1 = true) (v0 : Int64) (H : List Obj) : Con G (⟨"com/example/waystation/waystation/placement/LimbsSubtractPinLaw", "bor", "(J)J"⟩ : MethodName) method_3_code 2 (Option.some FieldType.long) rm1 [(.long v0)] H (some (.long (m1 v0))) H :=
  con_of hw pn1 rfl fun K O => m1_t0 O v0 H

/-! body 2 -/
theorem d2_0 : decode method_2_code 0 = .ok (.lload_n 0, 1) := by decide +kernel
theorem d2_1 : decode method_2_code 1 = .ok (.lconst 0, 1) := by decide +kernel
theorem d2_2 : decode method_2_code 2 = .ok (.lcmp, 1) := by decide +kernel
theorem d2_3 : decode method_2_code 3 = .ok (.ifCond .ge 13, 3) := by decide +kernel
theorem d2_6 : decode method_2_code 6 = .ok (.lload_n 0, 1) := by decide +kernel
theorem d2_7 : decode method_2_code 7 = .ok (.ldc2_w 11, 3) := by decide +kernel
theorem d2_10 : decode method_2_code 10 = .ok (.ladd, 1) := by decide +kernel
theorem d2_11 : decode method_2_code 11 = .ok (.lconst 1, 1) := by decide +kernel
theorem d2_12 : decode method_2_code 12 = .ok (.ladd, 1) := by decide +kernel
theorem d2_13 : decode method_2_code 13 = .ok (.goto 4, 3) := by decide +kernel
theorem d2_16 : decode method_2_code 16 = .ok (.lload_n 0, 1) := by decide +kernel
theorem d2_17 : decode method_2_code 17 = .ok (.lreturn, 1) := by decide +kernel
theorem pd2 : parseMethodDescriptor "(J)J" = some ⟨[.long], some .long⟩ := by decide +kernel
theorem pn2 : plainFor (⟨"com/example/waystation/waystation/placement/LimbsSubtractPinLaw", "lim", "(J)J"⟩ : MethodName) = true := by first | exact plainFor_of_name (by first | (simp [plainName, overriddenIn]; done) | decide +kernel) | decide +kernel
abbrev rm2 : Room := { frames := 0, cells := 0, slots := 0, locals := 0 }
abbrev Ok2 (G : Gx) (K : Kx) : Prop := Ok G K "com/example/waystation/waystation/placement/LimbsSubtractPinLaw" method_2_code 2 (Option.some FieldType.long) rm2 "lim" 0 0
def m2_b17 (t0 : Int64) : Int64 :=
  t0
theorem m2_t17 {G : Gx} {K : Kx} (O : Ok2 G K) (t0 : Int64) (H : List Obj) : Run G K (some (.long (m2_b17 t0))) H 17 [none, none] [(.long t0)] H 0 0 := by
  unfold m2_b17
  exact g_ret_long O d2_17 rfl (by decide)
def m2_b0 (v0 : Int64) : Int64 :=
  if v0 < (0 : Int64) then
    m2_b17 ((v0 + (9223372036854775807 : Int64)) + (1 : Int64))
  else
    m2_b17 v0
theorem m2_t0 {G : Gx} {K : Kx} (O : Ok2 G K) (v0 : Int64) (H : List Obj) : Run G K (some (.long (m2_b0 v0))) H 0 [some (.long v0), none] [] H 0 0 := by
  unfold m2_b0
  refine g_lload_n O (pc' := 1) d2_0 (v := v0) rfl rfl ?_
  refine g_lconst O (pc' := 2) d2_1 (v := 0) (by decide) rfl ?_
  refine g_lcmp_ge O (pc' := 6) d2_2 rfl d2_3 rfl (by decide) (pc1 := 16) (by decide) (fun h3 => ?_) (fun h3 => ?_)
  · rw [if_neg h3]
    refine g_lload_n O (pc' := 17) d2_16 (v := v0) rfl rfl ?_
    refine g_forget (Ls' := [none, none]) trivial ?_
    exact m2_t17 O v0 H
  · rw [if_pos h3]
    refine g_lload_n O (pc' := 7) d2_6 (v := v0) rfl rfl ?_
    refine g_ldc2 O (pc' := 10) d2_7 tw0 rfl ?_
    refine g_ladd O (pc' := 11) d2_10 rfl ?_
    refine g_lconst O (pc' := 12) d2_11 (v := 1) (by decide) rfl ?_
    refine g_ladd O (pc' := 13) d2_12 rfl ?_
    refine g_goto O d2_13 (by decide) (pc' := 17) (by decide) ?_
    refine g_forget (Ls' := [none, none]) trivial ?_
    exact m2_t17 O ((v0 + (9223372036854775807 : Int64)) + (1 : Int64)) H
abbrev m2 (v0 : Int64) : Int64 := m2_b0 v0
theorem con2 {G : Gx} (hw : ∀ d ∈ tables_1, d.before G.2.2.1 G.2.1 = true) (v0 : Int64) (H : List Obj) : Con G (⟨"com/example/waystation/waystation/placement/LimbsSubtractPinLaw", "lim", "(J)J"⟩ : MethodName) method_2_code 2 (Option.some FieldType.long) rm2 [(.long v0)] H (some (.long (m2 v0))) H :=
  con_of hw pn2 rfl fun K O => m2_t0 O v0 H

/-! body 3 -/
theorem d3_0 : decode prog_23_method_5_code 0 = .ok (.lconst 0, 1) := by decide +kernel
theorem d3_1 : decode prog_23_method_5_code 1 = .ok (.lstore 7, 2) := by decide +kernel
theorem d3_3 : decode prog_23_method_5_code 3 = .ok (.iconst 0, 1) := by decide +kernel
theorem d3_4 : decode prog_23_method_5_code 4 = .ok (.istore 9, 2) := by decide +kernel
theorem d3_6 : decode prog_23_method_5_code 6 = .ok (.iload 9, 2) := by decide +kernel
theorem d3_8 : decode prog_23_method_5_code 8 = .ok (.iload 6, 2) := by decide +kernel
theorem d3_10 : decode prog_23_method_5_code 10 = .ok (.if_icmp .ge 48, 3) := by decide +kernel
theorem d3_13 : decode prog_23_method_5_code 13 = .ok (.aload_n 0, 1) := by decide +kernel
theorem d3_14 : decode prog_23_method_5_code 14 = .ok (.iload_n 1, 1) := by decide +kernel
theorem d3_15 : decode prog_23_method_5_code 15 = .ok (.iload 9, 2) := by decide +kernel
theorem d3_17 : decode prog_23_method_5_code 17 = .ok (.iadd, 1) := by decide +kernel
theorem d3_18 : decode prog_23_method_5_code 18 = .ok (.laload, 1) := by decide +kernel
theorem d3_19 : decode prog_23_method_5_code 19 = .ok (.aload_n 2, 1) := by decide +kernel
theorem d3_20 : decode prog_23_method_5_code 20 = .ok (.iload_n 3, 1) := by decide +kernel
theorem d3_21 : decode prog_23_method_5_code 21 = .ok (.iload 9, 2) := by decide +kernel
theorem d3_23 : decode prog_23_method_5_code 23 = .ok (.iadd, 1) := by decide +kernel
theorem d3_24 : decode prog_23_method_5_code 24 = .ok (.laload, 1) := by decide +kernel
theorem d3_25 : decode prog_23_method_5_code 25 = .ok (.lsub, 1) := by decide +kernel
theorem d3_26 : decode prog_23_method_5_code 26 = .ok (.lload 7, 2) := by decide +kernel
theorem d3_28 : decode prog_23_method_5_code 28 = .ok (.lsub, 1) := by decide +kernel
theorem d3_29 : decode prog_23_method_5_code 29 = .ok (.lstore 10, 2) := by decide +kernel
theorem d3_31 : decode prog_23_method_5_code 31 = .ok (.aload 4, 2) := by decide +kernel
theorem d3_33 : decode prog_23_method_5_code 33 = .ok (.iload 5, 2) := by decide +kernel
theorem d3_35 : decode prog_23_method_5_code 35 = .ok (.iload 9, 2) := by decide +kernel
theorem d3_37 : decode prog_23_method_5_code 37 = .ok (.iadd, 1) := by decide +kernel
theorem d3_38 : decode prog_23_method_5_code 38 = .ok (.lload 10, 2) := by decide +kernel
theorem d3_40 : decode prog_23_method_5_code 40 = .ok (.ldc2_w 45, 3) := by decide +kernel
theorem d3_43 : decode prog_23_method_5_code 43 = .ok (.land, 1) := by decide +kernel
theorem d3_44 : decode prog_23_method_5_code 44 = .ok (.lastore, 1) := by decide +kernel
theorem d3_45 : decode prog_23_method_5_code 45 = .ok (.lload 10, 2) := by decide +kernel
theorem d3_47 : decode prog_23_method_5_code 47 = .ok (.bipush 63, 2) := by decide +kernel
theorem d3_49 : decode prog_23_method_5_code 49 = .ok (.lushr, 1) := by decide +kernel
theorem d3_50 : decode prog_23_method_5_code 50 = .ok (.lstore 7, 2) := by decide +kernel
theorem d3_52 : decode prog_23_method_5_code 52 = .ok (.iinc 9 1, 3) := by decide +kernel
theorem d3_55 : decode prog_23_method_5_code 55 = .ok (.goto (-49), 3) := by decide +kernel
theorem d3_58 : decode prog_23_method_5_code 58 = .ok (.return_, 1) := by decide +kernel
theorem pd3 : parseMethodDescriptor "([JI[JI[JII)V" = some ⟨[.array .long, .int, .array .long, .int, .array .long, .int, .int], none⟩ := by decide +kernel
theorem pn3 : plainFor (⟨"com/example/waystation/waystation/placement/Limbs", "subtract", "([JI[JI[JII)V"⟩ : MethodName) = true := by first | exact plainFor_of_name (by first | (simp [plainName, overriddenIn]; done) | decide +kernel) | decide +kernel
abbrev rm3 : Room := { frames := 0, cells := 0, slots := 0, locals := 0 }
abbrev Ok3 (G : Gx) (K : Kx) : Prop := Ok G K "com/example/waystation/waystation/placement/Limbs" prog_23_method_5_code 12 (Option.none : Option FieldType) rm3 "subtract" 0 0
def m3_b6 : Nat → Nat → Int32 → Nat → Int32 → Nat → Int32 → Int32 → Int64 → Int32 → List Obj → Option (List Obj)
  | 0, _, _, _, _, _, _, _, _, _, _ => none
  | n + 1, v0, v1, v2, v3, v4, v5, v6, v7, v9, H =>
    if v9 < v6 then
      (rdJ H v0 (v1 + v9)).bind fun x18 =>
      (rdJ H v2 (v3 + v9)).bind fun x24 =>
      (wr .long H v4 (v5 + v9) (.long (((x18 - x24) - v7) &&& (9223372036854775807 : Int64)))).bind fun H44 =>
      m3_b6 n v0 v1 v2 v3 v4 v5 v6 (XT.ushrL ((x18 - x24) - v7) (63 : Int32)) (v9 + (1 : Int32)) H44
    else
      some H
theorem m3_t6 {G : Gx} {K : Kx} (O : Ok3 G K) : ∀ (n : Nat) (v0 : Nat) (v1 : Int32) (v2 : Nat) (v3 : Int32) (v4 : Nat) (v5 : Int32) (v6 : Int32) (v7 : Int64) (v9 : Int32) (H : List Obj) (_ : Unit) (Hf : List Obj), m3_b6 n v0 v1 v2 v3 v4 v5 v6 v7 v9 H = some Hf → Run G K none Hf 6 [some (.ref v0), some (.int v1), some (.ref v2), some (.int v3), some (.ref v4), some (.int v5), some (.int v6), some (.long v7), none, some (.int v9), none, none] [] H 0 0 := by
  intro n
  induction n with
  | zero => intro v0 v1 v2 v3 v4 v5 v6 v7 v9 H r Hf hf; cases hf
  | succ n ih =>
    intro v0 v1 v2 v3 v4 v5 v6 v7 v9 H r Hf hf
    rw [m3_b6] at hf
    refine g_iload O (pc' := 8) d3_6 (v := v9) rfl rfl ?_
    refine g_iload O (pc' := 10) d3_8 (v := v6) rfl rfl ?_
    refine g_icmp_ge O (pc' := 13) d3_10 rfl (by decide) (pc1 := 58) (by decide) (fun h10 => ?_) (fun h10 => ?_)
    · rw [if_neg h10] at hf
      cases hf
      exact g_ret_void O d3_58 rfl (by decide)
    · rw [if_pos h10] at hf
      refine g_aload_n O (pc' := 14) d3_13 (v := v0) rfl rfl ?_
      refine g_iload_n O (pc' := 15) d3_14 (v := v1) rfl rfl ?_
      refine g_iload O (pc' := 17) d3_15 (v := v9) rfl rfl ?_
      refine g_iadd O (pc' := 18) d3_17 rfl ?_
      obtain ⟨x18, h18, hf⟩ := bnd hf
      refine g_laload O (pc' := 19) d3_18 h18 rfl ?_
      refine g_aload_n O (pc' := 20) d3_19 (v := v2) rfl rfl ?_
      refine g_iload_n O (pc' := 21) d3_20 (v := v3) rfl rfl ?_
      refine g_iload O (pc' := 23) d3_21 (v := v9) rfl rfl ?_
      refine g_iadd O (pc' := 24) d3_23 rfl ?_
      obtain ⟨x24, h24, hf⟩ := bnd hf
      refine g_laload O (pc' := 25) d3_24 h24 rfl ?_
      refine g_lsub O (pc' := 26) d3_25 rfl ?_
      refine g_lload O (pc' := 28) d3_26 (v := v7) rfl rfl ?_
      refine g_lsub O (pc' := 29) d3_28 rfl ?_
      refine g_lstore O (pc' := 31) d3_29 (Ls' := [some (.ref v0), some (.int v1), some (.ref v2), some (.int v3), some (.ref v4), some (.int v5), some (.int v6), some (.long v7), none, some (.int v9), some (.long ((x18 - x24) - v7)), none]) rfl rfl ?_
      refine g_aload O (pc' := 33) d3_31 (v := v4) rfl rfl ?_
      refine g_iload O (pc' := 35) d3_33 (v := v5) rfl rfl ?_
      refine g_iload O (pc' := 37) d3_35 (v := v9) rfl rfl ?_
      refine g_iadd O (pc' := 38) d3_37 rfl ?_
      refine g_lload O (pc' := 40) d3_38 (v := ((x18 - x24) - v7)) rfl rfl ?_
      refine g_ldc2 O (pc' := 43) d3_40 tw14 rfl ?_
      refine g_land O (pc' := 44) d3_43 rfl ?_
      obtain ⟨H44, h44, hf⟩ := bnd hf
      refine g_lastore O (pc' := 45) d3_44 h44 rfl ?_
      refine g_lload O (pc' := 47) d3_45 (v := ((x18 - x24) - v7)) rfl rfl ?_
      refine g_bipush O (pc' := 49) d3_47 (v := 63) (by decide) rfl ?_
      refine g_lushr O (pc' := 50) d3_49 rfl ?_
      refine g_lstore O (pc' := 52) d3_50 (Ls' := [some (.ref v0), some (.int v1), some (.ref v2), some (.int v3), some (.ref v4), some (.int v5), some (.int v6), some (.long (XT.ushrL ((x18 - x24) - v7) (63 : Int32))), none, some (.int v9), some (.long ((x18 - x24) - v7)), none]) rfl rfl ?_
      refine g_iinc O (pc' := 55) d3_52 (w := 1) (v := v9) (by decide) rfl (Ls' := [some (.ref v0), some (.int v1), some (.ref v2), some (.int v3), some (.ref v4), some (.int v5), some (.int v6), some (.long (XT.ushrL ((x18 - x24) - v7) (63 : Int32))), none, some (.int (v9 + (1 : Int32))), some (.long ((x18 - x24) - v7)), none]) rfl rfl ?_
      refine g_goto O d3_55 (by decide) (pc' := 6) (by decide) ?_
      refine g_forget (Ls' := [some (.ref v0), some (.int v1), some (.ref v2), some (.int v3), some (.ref v4), some (.int v5), some (.int v6), some (.long (XT.ushrL ((x18 - x24) - v7) (63 : Int32))), none, some (.int (v9 + (1 : Int32))), none, none]) (And.intro rfl (And.intro rfl (And.intro rfl (And.intro rfl (And.intro rfl (And.intro rfl (And.intro rfl (And.intro rfl (And.intro rfl trivial))))))))) ?_
      exact ih v0 v1 v2 v3 v4 v5 v6 (XT.ushrL ((x18 - x24) - v7) (63 : Int32)) (v9 + (1 : Int32)) H44 () _ hf
def m3_b0 (v0 : Nat) (v1 : Int32) (v2 : Nat) (v3 : Int32) (v4 : Nat) (v5 : Int32) (v6 : Int32) (H : List Obj) : Option (List Obj) :=
  m3_b6 8 v0 v1 v2 v3 v4 v5 v6 (0 : Int64) (0 : Int32) H
theorem m3_t0 {G : Gx} {K : Kx} (O : Ok3 G K) (v0 : Nat) (v1 : Int32) (v2 : Nat) (v3 : Int32) (v4 : Nat) (v5 : Int32) (v6 : Int32) (H : List Obj) (_ : Unit) (Hf : List Obj) (hf : m3_b0 v0 v1 v2 v3 v4 v5 v6 H = some Hf) : Run G K none Hf 0 [some (.ref v0), some (.int v1), some (.ref v2), some (.int v3), some (.ref v4), some (.int v5), some (.int v6), none, none, none, none, none] [] H 0 0 := by
  unfold m3_b0 at hf
  refine g_lconst O (pc' := 1) d3_0 (v := 0) (by decide) rfl ?_
  refine g_lstore O (pc' := 3) d3_1 (Ls' := [some (.ref v0), some (.int v1), some (.ref v2), some (.int v3), some (.ref v4), some (.int v5), some (.int v6), some (.long (0 : Int64)), none, none, none, none]) rfl rfl ?_
  refine g_iconst O (pc' := 4) d3_3 (v := 0) (by decide) rfl ?_
  refine g_istore O (pc' := 6) d3_4 (Ls' := [some (.ref v0), some (.int v1), some (.ref v2), some (.int v3), some (.ref v4), some (.int v5), some (.int v6), some (.long (0 : Int64)), none, some (.int (0 : Int32)), none, none]) rfl rfl ?_
  exact m3_t6 O 8 v0 v1 v2 v3 v4 v5 v6 (0 : Int64) (0 : Int32) H () _ hf
abbrev m3 (v0 : Nat) (v1 : Int32) (v2 : Nat) (v3 : Int32) (v4 : Nat) (v5 : Int32) (v6 : Int32) (H : List Obj) : Option (List Obj) := m3_b0 v0 v1 v2 v3 v4 v5 v6 H
theorem con3 {G : Gx} (hw : ∀ d ∈ tables_1, d.before G.2.2.1 G.2.1 = true) (v0 : Nat) (v1 : Int32) (v2 : Nat) (v3 : Int32) (v4 : Nat) (v5 : Int32) (v6 : Int32) (H : List Obj) {Hf : List Obj} (hf : m3 v0 v1 v2 v3 v4 v5 v6 H = some Hf) : Con G (⟨"com/example/waystation/waystation/placement/Limbs", "subtract", "([JI[JI[JII)V"⟩ : MethodName) prog_23_method_5_code 12 (Option.none : Option FieldType) rm3 [(.ref v0), (.int v1), (.ref v2), (.int v3), (.ref v4), (.int v5), (.int v6)] H none Hf :=
  con_of hw pn3 rfl fun K O => m3_t0 O v0 v1 v2 v3 v4 v5 v6 H () Hf hf

/-! body 4 -/
theorem d4_0 : decode method_4_code 0 = .ok (.aload_n 0, 1) := by decide +kernel
theorem d4_1 : decode method_4_code 1 = .ok (.iconst 0, 1) := by decide +kernel
theorem d4_2 : decode method_4_code 2 = .ok (.laload, 1) := by decide +kernel
theorem d4_3 : decode method_4_code 3 = .ok (.aload_n 1, 1) := by decide +kernel
theorem d4_4 : decode method_4_code 4 = .ok (.iconst 0, 1) := by decide +kernel
theorem d4_5 : decode method_4_code 5 = .ok (.laload, 1) := by decide +kernel
theorem d4_6 : decode method_4_code 6 = .ok (.lcmp, 1) := by decide +kernel
theorem d4_7 : decode method_4_code 7 = .ok (.ifCond .ne 47, 3) := by decide +kernel
theorem d4_10 : decode method_4_code 10 = .ok (.aload_n 0, 1) := by decide +kernel
theorem d4_11 : decode method_4_code 11 = .ok (.iconst 1, 1) := by decide +kernel
theorem d4_12 : decode method_4_code 12 = .ok (.laload, 1) := by decide +kernel
theorem d4_13 : decode method_4_code 13 = .ok (.aload_n 1, 1) := by decide +kernel
theorem d4_14 : decode method_4_code 14 = .ok (.iconst 1, 1) := by decide +kernel
theorem d4_15 : decode method_4_code 15 = .ok (.laload, 1) := by decide +kernel
theorem d4_16 : decode method_4_code 16 = .ok (.lcmp, 1) := by decide +kernel
theorem d4_17 : decode method_4_code 17 = .ok (.ifCond .ne 37, 3) := by decide +kernel
theorem d4_20 : decode method_4_code 20 = .ok (.aload_n 0, 1) := by decide +kernel
theorem d4_21 : decode method_4_code 21 = .ok (.iconst 2, 1) := by decide +kernel
theorem d4_22 : decode method_4_code 22 = .ok (.laload, 1) := by decide +kernel
theorem d4_23 : decode method_4_code 23 = .ok (.aload_n 1, 1) := by decide +kernel
theorem d4_24 : decode method_4_code 24 = .ok (.iconst 2, 1) := by decide +kernel
theorem d4_25 : decode method_4_code 25 = .ok (.laload, 1) := by decide +kernel
theorem d4_26 : decode method_4_code 26 = .ok (.lcmp, 1) := by decide +kernel
theorem d4_27 : decode method_4_code 27 = .ok (.ifCond .ne 27, 3) := by decide +kernel
theorem d4_30 : decode method_4_code 30 = .ok (.aload_n 0, 1) := by decide +kernel
theorem d4_31 : decode method_4_code 31 = .ok (.iconst 3, 1) := by decide +kernel
theorem d4_32 : decode method_4_code 32 = .ok (.laload, 1) := by decide +kernel
theorem d4_33 : decode method_4_code 33 = .ok (.aload_n 1, 1) := by decide +kernel
theorem d4_34 : decode method_4_code 34 = .ok (.iconst 3, 1) := by decide +kernel
theorem d4_35 : decode method_4_code 35 = .ok (.laload, 1) := by decide +kernel
theorem d4_36 : decode method_4_code 36 = .ok (.lcmp, 1) := by decide +kernel
theorem d4_37 : decode method_4_code 37 = .ok (.ifCond .ne 17, 3) := by decide +kernel
theorem d4_40 : decode method_4_code 40 = .ok (.aload_n 0, 1) := by decide +kernel
theorem d4_41 : decode method_4_code 41 = .ok (.iconst 4, 1) := by decide +kernel
theorem d4_42 : decode method_4_code 42 = .ok (.laload, 1) := by decide +kernel
theorem d4_43 : decode method_4_code 43 = .ok (.aload_n 1, 1) := by decide +kernel
theorem d4_44 : decode method_4_code 44 = .ok (.iconst 4, 1) := by decide +kernel
theorem d4_45 : decode method_4_code 45 = .ok (.laload, 1) := by decide +kernel
theorem d4_46 : decode method_4_code 46 = .ok (.lcmp, 1) := by decide +kernel
theorem d4_47 : decode method_4_code 47 = .ok (.ifCond .ne 7, 3) := by decide +kernel
theorem d4_50 : decode method_4_code 50 = .ok (.iconst 1, 1) := by decide +kernel
theorem d4_51 : decode method_4_code 51 = .ok (.goto 4, 3) := by decide +kernel
theorem d4_54 : decode method_4_code 54 = .ok (.iconst 0, 1) := by decide +kernel
theorem d4_55 : decode method_4_code 55 = .ok (.ireturn, 1) := by decide +kernel
theorem pd4 : parseMethodDescriptor "([J[J)Z" = some ⟨[.array .long, .array .long], some .boolean⟩ := by decide +kernel
theorem pn4 : plainFor (⟨"com/example/waystation/waystation/placement/LimbsSubtractPinLaw", "eq5", "([J[J)Z"⟩ : MethodName) = true := by first | exact plainFor_of_name (by first | (simp [plainName, overriddenIn]; done) | decide +kernel) | decide +kernel
abbrev rm4 : Room := { frames := 0, cells := 0, slots := 0, locals := 0 }
abbrev Ok4 (G : Gx) (K : Kx) : Prop := Ok G K "com/example/waystation/waystation/placement/LimbsSubtractPinLaw" method_4_code 2 (Option.some FieldType.boolean) rm4 "eq5" 0 0
def m4_b55 (t0 : Int32) (H : List Obj) : Option (Int32 × List Obj) :=
  some ((nar .boolean t0), H)
theorem m4_t55 {G : Gx} {K : Kx} (O : Ok4 G K) (t0 : Int32) (H : List Obj) (r : Int32) (Hf : List Obj) (hf : m4_b55 t0 H = some (r, Hf)) : Run G K (some (.int r)) Hf 55 [none, none] [(.int t0)] H 0 0 := by
  unfold m4_b55 at hf
  cases hf
  exact g_ret_nar O d4_55 (by simp) rfl rfl (by decide)
def m4_b54 (H : List Obj) : Option (Int32 × List Obj) :=
  m4_b55 (0 : Int32) H
theorem m4_t54 {G : Gx} {K : Kx} (O : Ok4 G K) (H : List Obj) (r : Int32) (Hf : List Obj) (hf : m4_b54 H = some (r, Hf)) : Run G K (some (.int r)) Hf 54 [none, none] [] H 0 0 := by
  unfold m4_b54 at hf
  refine g_iconst O (pc' := 55) d4_54 (v := 0) (by decide) rfl ?_
  exact m4_t55 O (0 : Int32) H _ _ hf
def m4_b0 (v0 : Nat) (v1 : Nat) (H : List Obj) : Option (Int32 × List Obj) :=
  (rdJ H v0 (0 : Int32)).bind fun x2 =>
  (rdJ H v1 (0 : Int32)).bind fun x5 =>
  if x2 = x5 then
    (rdJ H v0 (1 : Int32)).bind fun x12 =>
    (rdJ H v1 (1 : Int32)).bind fun x15 =>
    if x12 = x15 then
      (rdJ H v0 (2 : Int32)).bind fun x22 =>
      (rdJ H v1 (2 : Int32)).bind fun x25 =>
      if x22 = x25 then
        (rdJ H v0 (3 : Int32)).bind fun x32 =>
        (rdJ H v1 (3 : Int32)).bind fun x35 =>
        if x32 = x35 then
          (rdJ H v0 (4 : Int32)).bind fun x42 =>
          (rdJ H v1 (4 : Int32)).bind fun x45 =>
          if x42 = x45 then
            m4_b55 (1 : Int32) H
          else
            m4_b54 H
        else
          m4_b54 H
      else
        m4_b54 H
    else
      m4_b54 H
  else
    m4_b54 H
theorem m4_t0 {G : Gx} {K : Kx} (O : Ok4 G K) (v0 : Nat) (v1 : Nat) (H : List Obj) (r : Int32) (Hf : List Obj) (hf : m4_b0 v0 v1 H = some (r, Hf)) : Run G K (some (.int r)) Hf 0 [some (.ref v0), some (.ref v1)] [] H 0 0 := by
  unfold m4_b0 at hf
  refine g_aload_n O (pc' := 1) d4_0 (v := v0) rfl rfl ?_
  refine g_iconst O (pc' := 2) d4_1 (v := 0) (by decide) rfl ?_
  obtain ⟨x2, h2, hf⟩ := bnd hf
  refine g_laload O (pc' := 3) d4_2 h2 rfl ?_
  refine g_aload_n O (pc' := 4) d4_3 (v := v1) rfl rfl ?_
  refine g_iconst O (pc' := 5) d4_4 (v := 0) (by decide) rfl ?_
  obtain ⟨x5, h5, hf⟩ := bnd hf
  refine g_laload O (pc' := 6) d4_5 h5 rfl ?_
  refine g_lcmp_ne O (pc' := 10) d4_6 rfl d4_7 rfl (by decide) (pc1 := 54) (by decide) (fun h7 => ?_) (fun h7 => ?_)
  · rw [if_neg h7] at hf
    refine g_forget (Ls' := [none, none]) trivial ?_
    exact m4_t54 O H _ _ hf
  · rw [if_pos h7] at hf
    refine g_aload_n O (pc' := 11) d4_10 (v := v0) rfl rfl ?_
    refine g_iconst O (pc' := 12) d4_11 (v := 1) (by decide) rfl ?_
    obtain ⟨x12, h12, hf⟩ := bnd hf
    refine g_laload O (pc' := 13) d4_12 h12 rfl ?_
    refine g_aload_n O (pc' := 14) d4_13 (v := v1) rfl rfl ?_
    refine g_iconst O (pc' := 15) d4_14 (v := 1) (by decide) rfl ?_
    obtain ⟨x15, h15, hf⟩ := bnd hf
    refine g_laload O (pc' := 16) d4_15 h15 rfl ?_
    refine g_lcmp_ne O (pc' := 20) d4_16 rfl d4_17 rfl (by decide) (pc1 := 54) (by decide) (fun h17 => ?_) (fun h17 => ?_)
    · rw [if_neg h17] at hf
      refine g_forget (Ls' := [none, none]) trivial ?_
      exact m4_t54 O H _ _ hf
    · rw [if_pos h17] at hf
      refine g_aload_n O (pc' := 21) d4_20 (v := v0) rfl rfl ?_
      refine g_iconst O (pc' := 22) d4_21 (v := 2) (by decide) rfl ?_
      obtain ⟨x22, h22, hf⟩ := bnd hf
      refine g_laload O (pc' := 23) d4_22 h22 rfl ?_
      refine g_aload_n O (pc' := 24) d4_23 (v := v1) rfl rfl ?_
      refine g_iconst O (pc' := 25) d4_24 (v := 2) (by decide) rfl ?_
      obtain ⟨x25, h25, hf⟩ := bnd hf
      refine g_laload O (pc' := 26) d4_25 h25 rfl ?_
      refine g_lcmp_ne O (pc' := 30) d4_26 rfl d4_27 rfl (by decide) (pc1 := 54) (by decide) (fun h27 => ?_) (fun h27 => ?_)
      · rw [if_neg h27] at hf
        refine g_forget (Ls' := [none, none]) trivial ?_
        exact m4_t54 O H _ _ hf
      · rw [if_pos h27] at hf
        refine g_aload_n O (pc' := 31) d4_30 (v := v0) rfl rfl ?_
        refine g_iconst O (pc' := 32) d4_31 (v := 3) (by decide) rfl ?_
        obtain ⟨x32, h32, hf⟩ := bnd hf
        refine g_laload O (pc' := 33) d4_32 h32 rfl ?_
        refine g_aload_n O (pc' := 34) d4_33 (v := v1) rfl rfl ?_
        refine g_iconst O (pc' := 35) d4_34 (v := 3) (by decide) rfl ?_
        obtain ⟨x35, h35, hf⟩ := bnd hf
        refine g_laload O (pc' := 36) d4_35 h35 rfl ?_
        refine g_lcmp_ne O (pc' := 40) d4_36 rfl d4_37 rfl (by decide) (pc1 := 54) (by decide) (fun h37 => ?_) (fun h37 => ?_)
        · rw [if_neg h37] at hf
          refine g_forget (Ls' := [none, none]) trivial ?_
          exact m4_t54 O H _ _ hf
        · rw [if_pos h37] at hf
          refine g_aload_n O (pc' := 41) d4_40 (v := v0) rfl rfl ?_
          refine g_iconst O (pc' := 42) d4_41 (v := 4) (by decide) rfl ?_
          obtain ⟨x42, h42, hf⟩ := bnd hf
          refine g_laload O (pc' := 43) d4_42 h42 rfl ?_
          refine g_aload_n O (pc' := 44) d4_43 (v := v1) rfl rfl ?_
          refine g_iconst O (pc' := 45) d4_44 (v := 4) (by decide) rfl ?_
          obtain ⟨x45, h45, hf⟩ := bnd hf
          refine g_laload O (pc' := 46) d4_45 h45 rfl ?_
          refine g_lcmp_ne O (pc' := 50) d4_46 rfl d4_47 rfl (by decide) (pc1 := 54) (by decide) (fun h47 => ?_) (fun h47 => ?_)
          · rw [if_neg h47] at hf
            refine g_forget (Ls' := [none, none]) trivial ?_
            exact m4_t54 O H _ _ hf
          · rw [if_pos h47] at hf
            refine g_iconst O (pc' := 51) d4_50 (v := 1) (by decide) rfl ?_
            refine g_goto O d4_51 (by decide) (pc' := 55) (by decide) ?_
            refine g_forget (Ls' := [none, none]) trivial ?_
            exact m4_t55 O (1 : Int32) H _ _ hf
abbrev m4 (v0 : Nat) (v1 : Nat) (H : List Obj) : Option (Int32 × List Obj) := m4_b0 v0 v1 H
theorem con4 {G : Gx} (hw : ∀ d ∈ tables_1, d.before G.2.2.1 G.2.1 = true) (v0 : Nat) (v1 : Nat) (H : List Obj) {r : Int32} {Hf : List Obj} (hf : m4 v0 v1 H = some (r, Hf)) : Con G (⟨"com/example/waystation/waystation/placement/LimbsSubtractPinLaw", "eq5", "([J[J)Z"⟩ : MethodName) method_4_code 2 (Option.some FieldType.boolean) rm4 [(.ref v0), (.ref v1)] H (some (.int r)) Hf :=
  con_of hw pn4 rfl fun K O => m4_t0 O v0 v1 H r Hf hf

/-! body 0 -/
theorem pn0 : plainFor x = true := by first | exact plainFor_of_name (by first | (simp [plainName, overriddenIn]; done) | decide +kernel) | decide +kernel
abbrev Ok0 (G : Gx) (K : Kx) : Prop := Ok G K x.cls code maxLocals ret room_1 x.name 6 30
def m0_b722 (v65 : Int32) (H : List Obj) : Option (Int32 × List Obj) :=
  some ((nar .boolean v65), H)
theorem m0_t722 {G : Gx} {K : Kx} (O : Ok0 G K) (v65 : Int32) (H : List Obj) (r : Int32) (Hf : List Obj) (hf : m0_b722 v65 H = some (r, Hf)) : Run G K (some (.int r)) Hf 722 [none, none, none, none, none, none, none, none, none, none, none, none, none, none, none, none, none, none, none, none, none, none, none, none, none, none, none, none, none, none, none, none, none, none, none, none, none, none, none, none, none, none, none, none, none, none, none, none, none, none, none, none, none, none, none, none, none, none, none, none, none, none, none, none, none, some (.int v65)] [] H 6 30 := by
  unfold m0_b722 at hf
  refine g_iload O (pc' := 724) at_722 (v := v65) rfl rfl ?_
  cases hf
  exact g_ret_nar O at_724 (by simp) rfl rfl (by decide)
def m0_b720 (t0 : Int32) (H : List Obj) : Option (Int32 × List Obj) :=
  m0_b722 t0 H
theorem m0_t720 {G : Gx} {K : Kx} (O : Ok0 G K) (t0 : Int32) (H : List Obj) (r : Int32) (Hf : List Obj) (hf : m0_b720 t0 H = some (r, Hf)) : Run G K (some (.int r)) Hf 720 [none, none, none, none, none, none, none, none, none, none, none, none, none, none, none, none, none, none, none, none, none, none, none, none, none, none, none, none, none, none, none, none, none, none, none, none, none, none, none, none, none, none, none, none, none, none, none, none, none, none, none, none, none, none, none, none, none, none, none, none, none, none, none, none, none, none] [(.int t0)] H 6 30 := by
  unfold m0_b720 at hf
  refine g_istore O (pc' := 722) at_720 (Ls' := [none, none, none, none, none, none, none, none, none, none, none, none, none, none, none, none, none, none, none, none, none, none, none, none, none, none, none, none, none, none, none, none, none, none, none, none, none, none, none, none, none, none, none, none, none, none, none, none, none, none, none, none, none, none, none, none, none, none, none, none, none, none, none, none, none, some (.int t0)]) rfl rfl ?_
  exact m0_t722 O t0 H _ _ hf
def m0_b719 (H : List Obj) : Option (Int32 × List Obj) :=
  m0_b720 (0 : Int32) H
theorem m0_t719 {G : Gx} {K : Kx} (O : Ok0 G K) (H : List Obj) (r : Int32) (Hf : List Obj) (hf : m0_b719 H = some (r, Hf)) : Run G K (some (.int r)) Hf 719 [none, none, none, none, none, none, none, none, none, none, none, none, none, none, none, none, none, none, none, none, none, none, none, none, none, none, none, none, none, none, none, none, none, none, none, none, none, none, none, none, none, none, none, none, none, none, none, none, none, none, none, none, none, none, none, none, none, none, none, none, none, none, none, none, none, none] [] H 6 30 := by
  unfold m0_b719 at hf
  refine g_iconst O (pc' := 720) at_719 (v := 0) (by decide) rfl ?_
  exact m0_t720 O (0 : Int32) H _ _ hf
def m0_b693 (v15 : Int32) (v57 : Nat) (v58 : Nat) (t0 : Int32) (H : List Obj) : Option (Int32 × List Obj) :=
  if v15 = 0 then
    if t0 = 0 then
      m0_b719 H
    else
      (m4 v57 v58 H).bind fun q709 =>
      if q709.1 = 0 then
        m0_b719 q709.2
      else
        m0_b720 (1 : Int32) q709.2
  else
    m0_b722 t0 H
theorem m0_t693 {G : Gx} {K : Kx} (O : Ok0 G K) (v15 : Int32) (v57 : Nat) (v58 : Nat) (t0 : Int32) (H : List Obj) (r : Int32) (Hf : List Obj) (hf : m0_b693 v15 v57 v58 t0 H = some (r, Hf)) : Run G K (some (.int r)) Hf 693 [none, none, none, none, none, none, none, none, none, none, none, none, none, none, none, some (.int v15), none, none, none, none, none, none, none, none, none, none, none, none, none, none, none, none, none, none, none, none, none, none, none, none, none, none, none, none, none, none, none, none, none, none, none, none, none, none, none, none, none, some (.ref v57), some (.ref v58), none, none, none, none, none, none, none] [(.int t0)] H 6 30 := by
  unfold m0_b693 at hf
  refine g_istore O (pc' := 695) at_693 (Ls' := [none, none, none, none, none, none, none, none, none, none, none, none, none, none, none, some (.int v15), none, none, none, none, none, none, none, none, none, none, none, none, none, none, none, none, none, none, none, none, none, none, none, none, none, none, none, none, none, none, none, none, none, none, none, none, none, none, none, none, none, some (.ref v57), some (.ref v58), none, none, none, none, none, none, some (.int t0)]) rfl rfl ?_
  refine g_iload O (pc' := 697) at_695 (v := v15) rfl rfl ?_
  refine g_if_ne O (pc' := 700) at_697 rfl (by decide) (pc1 := 722) (by decide) (fun h697 => ?_) (fun h697 => ?_)
  · rw [if_neg h697] at hf
    refine g_forget (Ls' := [none, none, none, none, none, none, none, none, none, none, none, none, none, none, none, none, none, none, none, none, none, none, none, none, none, none, none, none, none, none, none, none, none, none, none, none, none, none, none, none, none, none, none, none, none, none, none, none, none, none, none, none, none, none, none, none, none, none, none, none, none, none, none, none, none, some (.int t0)]) (And.intro rfl trivial) ?_
    exact m0_t722 O t0 H _ _ hf
  · rw [if_pos h697] at hf
    refine g_iload O (pc' := 702) at_700 (v := t0) rfl rfl ?_
    refine g_if_eq O (pc' := 705) at_702 rfl (by decide) (pc1 := 719) (by decide) (fun h702 => ?_) (fun h702 => ?_)
    · rw [if_pos h702] at hf
      refine g_forget (Ls' := [none, none, none, none, none, none, none, none, none, none, none, none, none, none, none, none, none, none, none, none, none, none, none, none, none, none, none, none, none, none, none, none, none, none, none, none, none, none, none, none, none, none, none, none, none, none, none, none, none, none, none, none, none, none, none, none, none, none, none, none, none, none, none, none, none, none]) trivial ?_
      exact m0_t719 O H _ _ hf
    · rw [if_neg h702] at hf
      refine g_aload O (pc' := 707) at_705 (v := v57) rfl rfl ?_
      refine g_aload O (pc' := 709) at_707 (v := v58) rfl rfl ?_
      obtain ⟨⟨x709, H709⟩, h709, hf⟩ := bnd hf
      dsimp only at hf
      refine g_static1 O (pc' := 712) at_709 tw15 tw16 tw3 tw17 (by decide) pd4 (as := [(.ref v57), (.ref v58)]) rfl (st := []) rfl rfl (W := 0) rfl (rm := rm4) (by decide) (by decide) (c2 := 6) (s2 := 30) rfl rfl (by decide) (by decide) (con4 (Ok.w O) v57 v58 H h709) rfl ?_
      refine g_if_eq O (pc' := 715) at_712 rfl (by decide) (pc1 := 719) (by decide) (fun h712 => ?_) (fun h712 => ?_)
      · rw [if_pos h712] at hf
        refine g_forget (Ls' := [none, none, none, none, none, none, none, none, none, none, none, none, none, none, none, none, none, none, none, none, none, none, none, none, none, none, none, none, none, none, none, none, none, none, none, none, none, none, none, none, none, none, none, none, none, none, none, none, none, none, none, none, none, none, none, none, none, none, none, none, none, none, none, none, none, none]) trivial ?_
        exact m0_t719 O H709 _ _ hf
      · rw [if_neg h712] at hf
        refine g_iconst O (pc' := 716) at_715 (v := 1) (by decide) rfl ?_
        refine g_goto O at_716 (by decide) (pc' := 720) (by decide) ?_
        refine g_forget (Ls' := [none, none, none, none, none, none, none, none, none, none, none, none, none, none, none, none, none, none, none, none, none, none, none, none, none, none, none, none, none, none, none, none, none, none, none, none, none, none, none, none, none, none, none, none, none, none, none, none, none, none, none, none, none, none, none, none, none, none, none, none, none, none, none, none, none, none]) trivial ?_
        exact m0_t720 O (1 : Int32) H709 _ _ hf
def m0_b692 (v15 : Int32) (v57 : Nat) (v58 : Nat) (H : List Obj) : Option (Int32 × List Obj) :=
  m0_b693 v15 v57 v58 (0 : Int32) H
theorem m0_t692 {G : Gx} {K : Kx} (O : Ok0 G K) (v15 : Int32) (v57 : Nat) (v58 : Nat) (H : List Obj) (r : Int32) (Hf : List Obj) (hf : m0_b692 v15 v57 v58 H = some (r, Hf)) : Run G K (some (.int r)) Hf 692 [none, none, none, none, none, none, none, none, none, none, none, none, none, none, none, some (.int v15), none, none, none, none, none, none, none, none, none, none, none, none, none, none, none, none, none, none, none, none, none, none, none, none, none, none, none, none, none, none, none, none, none, none, none, none, none, none, none, none, none, some (.ref v57), some (.ref v58), none, none, none, none, none, none, none] [] H 6 30 := by
  unfold m0_b692 at hf
  refine g_iconst O (pc' := 693) at_692 (v := 0) (by decide) rfl ?_
  exact m0_t693 O v15 v57 v58 (0 : Int32) H _ _ hf
def m0_b625 (v12 : Int32) (v13 : Int32) (v15 : Int32) (v51 : Int64) (v53 : Int64) (v55 : Int64) (v57 : Nat) (v58 : Nat) (v59 : Nat) (v60 : Nat) (v62 : Nat) (v63 : Nat) (t0 : Int32) (H : List Obj) : Option (Int32 × List Obj) :=
  (wr .long H v62 t0 (.long v51)).bind fun H633 =>
  (wr .long H633 v62 (t0 + (1 : Int32)) (.long v53)).bind fun H642 =>
  (wr .long H642 v62 (t0 + (2 : Int32)) (.long v55)).bind fun H651 =>
  (m3 v57 v12 v59 v13 v63 t0 (3 : Int32) H651).bind fun H665 =>
  (m4 v63 v62 H665).bind fun q672 =>
  if q672.1 = 0 then
    m0_b692 v15 v57 v58 q672.2
  else
    (m4 v59 v60 q672.2).bind fun q682 =>
    if q682.1 = 0 then
      m0_b692 v15 v57 v58 q682.2
    else
      m0_b693 v15 v57 v58 (1 : Int32) q682.2
theorem m0_t625 {G : Gx} {K : Kx} (O : Ok0 G K) (v12 : Int32) (v13 : Int32) (v15 : Int32) (v51 : Int64) (v53 : Int64) (v55 : Int64) (v57 : Nat) (v58 : Nat) (v59 : Nat) (v60 : Nat) (v62 : Nat) (v63 : Nat) (t0 : Int32) (H : List Obj) (r : Int32) (Hf : List Obj) (hf : m0_b625 v12 v13 v15 v51 v53 v55 v57 v58 v59 v60 v62 v63 t0 H = some (r, Hf)) : Run G K (some (.int r)) Hf 625 [none, none, none, none, none, none, none, none, none, none, none, none, some (.int v12), some (.int v13), none, some (.int v15), none, none, none, none, none, none, none, none, none, none, none, none, none, none, none, none, none, none, none, none, none, none, none, none, none, none, none, none, none, none, none, none, none, none, none, some (.long v51), none, some (.long v53), none, some (.long v55), none, some (.ref v57), some (.ref v58), some (.ref v59), some (.ref v60), none, some (.ref v62), some (.ref v63), none, none] [(.int t0)] H 6 30 := by
  unfold m0_b625 at hf
  refine g_istore O (pc' := 627) at_625 (Ls' := [none, none, none, none, none, none, none, none, none, none, none, none, some (.int v12), some (.int v13), none, some (.int v15), none, none, none, none, none, none, none, none, none, none, none, none, none, none, none, none, none, none, none, none, none, none, none, none, none, none, none, none, none, none, none, none, none, none, none, some (.long v51), none, some (.long v53), none, some (.long v55), none, some (.ref v57), some (.ref v58), some (.ref v59), some (.ref v60), none, some (.ref v62), some (.ref v63), some (.int t0), none]) rfl rfl ?_
  refine g_aload O (pc' := 629) at_627 (v := v62) rfl rfl ?_
  refine g_iload O (pc' := 631) at_629 (v := t0) rfl rfl ?_
  refine g_lload O (pc' := 633) at_631 (v := v51) rfl rfl ?_
  obtain ⟨H633, h633, hf⟩ := bnd hf
  refine g_lastore O (pc' := 634) at_633 h633 rfl ?_
  refine g_aload O (pc' := 636) at_634 (v := v62) rfl rfl ?_
  refine g_iload O (pc' := 638) at_636 (v := t0) rfl rfl ?_
  refine g_iconst O (pc' := 639) at_638 (v := 1) (by decide) rfl ?_
  refine g_iadd O (pc' := 640) at_639 rfl ?_
  refine g_lload O (pc' := 642) at_640 (v := v53) rfl rfl ?_
  obtain ⟨H642, h642, hf⟩ := bnd hf
  refine g_lastore O (pc' := 643) at_642 h642 rfl ?_
  refine g_aload O (pc' := 645) at_643 (v := v62) rfl rfl ?_
  refine g_iload O (pc' := 647) at_645 (v := t0) rfl rfl ?_
  refine g_iconst O (pc' := 648) at_647 (v := 2) (by decide) rfl ?_
  refine g_iadd O (pc' := 649) at_648 rfl ?_
  refine g_lload O (pc' := 651) at_649 (v := v55) rfl rfl ?_
  obtain ⟨H651, h651, hf⟩ := bnd hf
  refine g_lastore O (pc' := 652) at_651 h651 rfl ?_
  refine g_aload O (pc' := 654) at_652 (v := v57) rfl rfl ?_
  refine g_iload O (pc' := 656) at_654 (v := v12) rfl rfl ?_
  refine g_aload O (pc' := 658) at_656 (v := v59) rfl rfl ?_
  refine g_iload O (pc' := 660) at_658 (v := v13) rfl rfl ?_
  refine g_aload O (pc' := 662) at_660 (v := v63) rfl rfl ?_
  refine g_iload O (pc' := 664) at_662 (v := t0) rfl rfl ?_
  refine g_iconst O (pc' := 665) at_664 (v := 3) (by decide) rfl ?_
  obtain ⟨H665, h665, hf⟩ := bnd hf
  refine g_static0 O (pc' := 668) at_665 tw10 tw11 tw12 tw13 (by decide) pd3 (as := [(.ref v57), (.int v12), (.ref v59), (.int v13), (.ref v63), (.int t0), (.int (3 : Int32))]) rfl (st := []) rfl rfl (W := 0) rfl (rm := rm3) (by decide) (by decide) (c2 := 6) (s2 := 30) rfl rfl (by decide) (by decide) (con3 (Ok.w O) v57 v12 v59 v13 v63 t0 (3 : Int32) H651 h665) rfl ?_
  refine g_aload O (pc' := 670) at_668 (v := v63) rfl rfl ?_
  refine g_aload O (pc' := 672) at_670 (v := v62) rfl rfl ?_
  obtain ⟨⟨x672, H672⟩, h672, hf⟩ := bnd hf
  dsimp only at hf
  refine g_static1 O (pc' := 675) at_672 tw15 tw16 tw3 tw17 (by decide) pd4 (as := [(.ref v63), (.ref v62)]) rfl (st := []) rfl rfl (W := 0) rfl (rm := rm4) (by decide) (by decide) (c2 := 6) (s2 := 30) rfl rfl (by decide) (by decide) (con4 (Ok.w O) v63 v62 H665 h672) rfl ?_
  refine g_if_eq O (pc' := 678) at_675 rfl (by decide) (pc1 := 692) (by decide) (fun h675 => ?_) (fun h675 => ?_)
  · rw [if_pos h675] at hf
    refine g_forget (Ls' := [none, none, none, none, none, none, none, none, none, none, none, none, none, none, none, some (.int v15), none, none, none, none, none, none, none, none, none, none, none, none, none, none, none, none, none, none, none, none, none, none, none, none, none, none, none, none, none, none, none, none, none, none, none, none, none, none, none, none, none, some (.ref v57), some (.ref v58), none, none, none, none, none, none, none]) (And.intro rfl (And.intro rfl (And.intro rfl trivial))) ?_
    exact m0_t692 O v15 v57 v58 H672 _ _ hf
  · rw [if_neg h675] at hf
    refine g_aload O (pc' := 680) at_678 (v := v59) rfl rfl ?_
    refine g_aload O (pc' := 682) at_680 (v := v60) rfl rfl ?_
    obtain ⟨⟨x682, H682⟩, h682, hf⟩ := bnd hf
    dsimp only at hf
    refine g_static1 O (pc' := 685) at_682 tw15 tw16 tw3 tw17 (by decide) pd4 (as := [(.ref v59), (.ref v60)]) rfl (st := []) rfl rfl (W := 0) rfl (rm := rm4) (by decide) (by decide) (c2 := 6) (s2 := 30) rfl rfl (by decide) (by decide) (con4 (Ok.w O) v59 v60 H672 h682) rfl ?_
    refine g_if_eq O (pc' := 688) at_685 rfl (by decide) (pc1 := 692) (by decide) (fun h685 => ?_) (fun h685 => ?_)
    · rw [if_pos h685] at hf
      refine g_forget (Ls' := [none, none, none, none, none, none, none, none, none, none, none, none, none, none, none, some (.int v15), none, none, none, none, none, none, none, none, none, none, none, none, none, none, none, none, none, none, none, none, none, none, none, none, none, none, none, none, none, none, none, none, none, none, none, none, none, none, none, none, none, some (.ref v57), some (.ref v58), none, none, none, none, none, none, none]) (And.intro rfl (And.intro rfl (And.intro rfl trivial))) ?_
      exact m0_t692 O v15 v57 v58 H682 _ _ hf
    · rw [if_neg h685] at hf
      refine g_iconst O (pc' := 689) at_688 (v := 1) (by decide) rfl ?_
      refine g_goto O at_689 (by decide) (pc' := 693) (by decide) ?_
      refine g_forget (Ls' := [none, none, none, none, none, none, none, none, none, none, none, none, none, none, none, some (.int v15), none, none, none, none, none, none, none, none, none, none, none, none, none, none, none, none, none, none, none, none, none, none, none, none, none, none, none, none, none, none, none, none, none, none, none, none, none, none, none, none, none, some (.ref v57), some (.ref v58), none, none, none, none, none, none, none]) (And.intro rfl (And.intro rfl (And.intro rfl trivial))) ?_
      exact m0_t693 O v15 v57 v58 (1 : Int32) H682 _ _ hf
def m0_b611 (v12 : Int32) (v13 : Int32) (v14 : Int32) (v15 : Int32) (v51 : Int64) (v53 : Int64) (v55 : Int64) (v57 : Nat) (v58 : Nat) (v59 : Nat) (v60 : Nat) (v62 : Nat) (t0 : Nat) (H : List Obj) : Option (Int32 × List Obj) :=
  if v15 = 0 then
    m0_b625 v12 v13 v15 v51 v53 v55 v57 v58 v59 v60 v62 t0 v14 H
  else
    m0_b625 v12 v13 v15 v51 v53 v55 v57 v58 v59 v60 v62 t0 v12 H
theorem m0_t611 {G : Gx} {K : Kx} (O : Ok0 G K) (v12 : Int32) (v13 : Int32) (v14 : Int32) (v15 : Int32) (v51 : Int64) (v53 : Int64) (v55 : Int64) (v57 : Nat) (v58 : Nat) (v59 : Nat) (v60 : Nat) (v62 : Nat) (t0 : Nat) (H : List Obj) (r : Int32) (Hf : List Obj) (hf : m0_b611 v12 v13 v14 v15 v51 v53 v55 v57 v58 v59 v60 v62 t0 H = some (r, Hf)) : Run G K (some (.int r)) Hf 611 [none, none, none, none, none, none, none, none, none, none, none, none, some (.int v12), some (.int v13), some (.int v14), some (.int v15), none, none, none, none, none, none, none, none, none, none, none, none, none, none, none, none, none, none, none, none, none, none, none, none, none, none, none, none, none, none, none, none, none, none, none, some (.long v51), none, some (.long v53), none, some (.long v55), none, some (.ref v57), some (.ref v58), some (.ref v59), some (.ref v60), none, some (.ref v62), none, none, none] [(.ref t0)] H 6 30 := by
  unfold m0_b611 at hf
  refine g_astore O (pc' := 613) at_611 (Ls' := [none, none, none, none, none, none, none, none, none, none, none, none, some (.int v12), some (.int v13), some (.int v14), some (.int v15), none, none, none, none, none, none, none, none, none, none, none, none, none, none, none, none, none, none, none, none, none, none, none, none, none, none, none, none, none, none, none, none, none, none, none, some (.long v51), none, some (.long v53), none, some (.long v55), none, some (.ref v57), some (.ref v58), some (.ref v59), some (.ref v60), none, some (.ref v62), some (.ref t0), none, none]) rfl rfl ?_
  refine g_iload O (pc' := 615) at_613 (v := v15) rfl rfl ?_
  refine g_if_eq O (pc' := 618) at_615 rfl (by decide) (pc1 := 623) (by decide) (fun h615 => ?_) (fun h615 => ?_)
  · rw [if_pos h615] at hf
    refine g_iload O (pc' := 625) at_623 (v := v14) rfl rfl ?_
    refine g_forget (Ls' := [none, none, none, none, none, none, none, none, none, none, none, none, some (.int v12), some (.int v13), none, some (.int v15), none, none, none, none, none, none, none, none, none, none, none, none, none, none, none, none, none, none, none, none, none, none, none, none, none, none, none, none, none, none, none, none, none, none, none, some (.long v51), none, some (.long v53), none, some (.long v55), none, some (.ref v57), some (.ref v58), some (.ref v59), some (.ref v60), none, some (.ref v62), some (.ref t0), none, none]) (And.intro rfl (And.intro rfl (And.intro rfl (And.intro rfl (And.intro rfl (And.intro rfl (And.intro rfl (And.intro rfl (And.intro rfl (And.intro rfl (And.intro rfl (And.intro rfl trivial)))))))))))) ?_
    exact m0_t625 O v12 v13 v15 v51 v53 v55 v57 v58 v59 v60 v62 t0 v14 H _ _ hf
  · rw [if_neg h615] at hf
    refine g_iload O (pc' := 620) at_618 (v := v12) rfl rfl ?_
    refine g_goto O at_620 (by decide) (pc' := 625) (by decide) ?_
    refine g_forget (Ls' := [none, none, none, none, none, none, none, none, none, none, none, none, some (.int v12), some (.int v13), none, some (.int v15), none, none, none, none, none, none, none, none, none, none, none, none, none, none, none, none, none, none, none, none, none, none, none, none, none, none, none, none, none, none, none, none, none, none, none, some (.long v51), none, some (.long v53), none, some (.long v55), none, some (.ref v57), some (.ref v58), some (.ref v59), some (.ref v60), none, some (.ref v62), some (.ref t0), none, none]) (And.intro rfl (And.intro rfl (And.intro rfl (And.intro rfl (And.intro rfl (And.intro rfl (And.intro rfl (And.intro rfl (And.intro rfl (And.intro rfl (And.intro rfl (And.intro rfl trivial)))))))))))) ?_
    exact m0_t625 O v12 v13 v15 v51 v53 v55 v57 v58 v59 v60 v62 t0 v12 H _ _ hf
def m0_b599 (v12 : Int32) (v13 : Int32) (v14 : Int32) (v15 : Int32) (v51 : Int64) (v53 : Int64) (v55 : Int64) (v57 : Nat) (v58 : Nat) (v59 : Nat) (v60 : Nat) (v61 : Nat) (v62 : Nat) (H : List Obj) : Option (Int32 × List Obj) :=
  if v15 = 0 then
    m0_b611 v12 v13 v14 v15 v51 v53 v55 v57 v58 v59 v60 v62 v61 H
  else
    m0_b611 v12 v13 v14 v15 v51 v53 v55 v57 v58 v59 v60 v62 v57 H
theorem m0_t599 {G : Gx} {K : Kx} (O : Ok0 G K) (v12 : Int32) (v13 : Int32) (v14 : Int32) (v15 : Int32) (v51 : Int64) (v53 : Int64) (v55 : Int64) (v57 : Nat) (v58 : Nat) (v59 : Nat) (v60 : Nat) (v61 : Nat) (v62 : Nat) (H : List Obj) (r : Int32) (Hf : List Obj) (hf : m0_b599 v12 v13 v14 v15 v51 v53 v55 v57 v58 v59 v60 v61 v62 H = some (r, Hf)) : Run G K (some (.int r)) Hf 599 [none, none, none, none, none, none, none, none, none, none, none, none, some (.int v12), some (.int v13), some (.int v14), some (.int v15), none, none, none, none, none, none, none, none, none, none, none, none, none, none, none, none, none, none, none, none, none, none, none, none, none, none, none, none, none, none, none, none, none, none, none, some (.long v51), none, some (.long v53), none, some (.long v55), none, some (.ref v57), some (.ref v58), some (.ref v59), some (.ref v60), some (.ref v61), some (.ref v62), none, none, none] [] H 6 30 := by
  unfold m0_b599 at hf
  refine g_iload O (pc' := 601) at_599 (v := v15) rfl rfl ?_
  refine g_if_eq O (pc' := 604) at_601 rfl (by decide) (pc1 := 609) (by decide) (fun h601 => ?_) (fun h601 => ?_)
  · rw [if_pos h601] at hf
    refine g_aload O (pc' := 611) at_609 (v := v61) rfl rfl ?_
    refine g_forget (Ls' := [none, none, none, none, none, none, none, none, none, none, none, none, some (.int v12), some (.int v13), some (.int v14), some (.int v15), none, none, none, none, none, none, none, none, none, none, none, none, none, none, none, none, none, none, none, none, none, none, none, none, none, none, none, none, none, none, none, none, none, none, none, some (.long v51), none, some (.long v53), none, some (.long v55), none, some (.ref v57), some (.ref v58), some (.ref v59), some (.ref v60), none, some (.ref v62), none, none, none]) (And.intro rfl (And.intro rfl (And.intro rfl (And.intro rfl (And.intro rfl (And.intro rfl (And.intro rfl (And.intro rfl (And.intro rfl (And.intro rfl (And.intro rfl (And.intro rfl trivial)))))))))))) ?_
    exact m0_t611 O v12 v13 v14 v15 v51 v53 v55 v57 v58 v59 v60 v62 v61 H _ _ hf
  · rw [if_neg h601] at hf
    refine g_aload O (pc' := 606) at_604 (v := v57) rfl rfl ?_
    refine g_goto O at_606 (by decide) (pc' := 611) (by decide) ?_
    refine g_forget (Ls' := [none, none, none, none, none, none, none, none, none, none, none, none, some (.int v12), some (.int v13), some (.int v14), some (.int v15), none, none, none, none, none, none, none, none, none, none, none, none, none, none, none, none, none, none, none, none, none, none, none, none, none, none, none, none, none, none, none, none, none, none, none, some (.long v51), none, some (.long v53), none, some (.long v55), none, some (.ref v57), some (.ref v58), some (.ref v59), some (.ref v60), none, some (.ref v62), none, none, none]) (And.intro rfl (And.intro rfl (And.intro rfl (And.intro rfl (And.intro rfl (And.intro rfl (And.intro rfl (And.intro rfl (And.intro rfl (And.intro rfl (And.intro rfl (And.intro rfl trivial)))))))))))) ?_
    exact m0_t611 O v12 v13 v14 v15 v51 v53 v55 v57 v58 v59 v60 v62 v57 H _ _ hf
def m0_b499 (v12 : Int32) (v13 : Int32) (v14 : Int32) (v15 : Int32) (v29 : Int64) (v31 : Int64) (v33 : Int64) (v35 : Int64) (v37 : Int64) (v39 : Int64) (v51 : Int64) (v53 : Int64) (v55 : Int64) (v57 : Nat) (v58 : Nat) (v59 : Nat) (v60 : Nat) (v61 : Nat) (v62 : Nat) (H : List Obj) : Option (Int32 × List Obj) :=
  (wr .long H v57 v12 (.long v29)).bind fun H505 =>
  (wr .long H505 v57 (v12 + (1 : Int32)) (.long v31)).bind fun H514 =>
  (wr .long H514 v57 (v12 + (2 : Int32)) (.long v33)).bind fun H523 =>
  (wr .long H523 v58 v12 (.long v29)).bind fun H530 =>
  (wr .long H530 v58 (v12 + (1 : Int32)) (.long v31)).bind fun H539 =>
  (wr .long H539 v58 (v12 + (2 : Int32)) (.long v33)).bind fun H548 =>
  (wr .long H548 v59 v13 (.long v35)).bind fun H555 =>
  (wr .long H555 v59 (v13 + (1 : Int32)) (.long v37)).bind fun H564 =>
  (wr .long H564 v59 (v13 + (2 : Int32)) (.long v39)).bind fun H573 =>
  (wr .long H573 v60 v13 (.long v35)).bind fun H580 =>
  (wr .long H580 v60 (v13 + (1 : Int32)) (.long v37)).bind fun H589 =>
  (wr .long H589 v60 (v13 + (2 : Int32)) (.long v39)).bind fun H598 =>
  m0_b599 v12 v13 v14 v15 v51 v53 v55 v57 v58 v59 v60 v61 v62 H598
theorem m0_t499 {G : Gx} {K : Kx} (O : Ok0 G K) (v12 : Int32) (v13 : Int32) (v14 : Int32) (v15 : Int32) (v29 : Int64) (v31 : Int64) (v33 : Int64) (v35 : Int64) (v37 : Int64) (v39 : Int64) (v51 : Int64) (v53 : Int64) (v55 : Int64) (v57 : Nat) (v58 : Nat) (v59 : Nat) (v60 : Nat) (v61 : Nat) (v62 : Nat) (H : List Obj) (r : Int32) (Hf : List Obj) (hf : m0_b499 v12 v13 v14 v15 v29 v31 v33 v35 v37 v39 v51 v53 v55 v57 v58 v59 v60 v61 v62 H = some (r, Hf)) : Run G K (some (.int r)) Hf 499 [none, none, none, none, none, none, none, none, none, none, none, none, some (.int v12), some (.int v13), some (.int v14), some (.int v15), none, none, none, none, none, none, none, none, none, none, none, none, none, some (.long v29), none, some (.long v31), none, some (.long v33), none, some (.long v35), none, some (.long v37), none, some (.long v39), none, none, none, none, none, none, none, none, none, none, none, some (.long v51), none, some (.long v53), none, some (.long v55), none, some (.ref v57), some (.ref v58), some (.ref v59), some (.ref v60), some (.ref v61), some (.ref v62), none, none, none] [] H 6 30 := by
  unfold m0_b499 at hf
  refine g_aload O (pc' := 501) at_499 (v := v57) rfl rfl ?_
  refine g_iload O (pc' := 503) at_501 (v := v12) rfl rfl ?_
  refine g_lload O (pc' := 505) at_503 (v := v29) rfl rfl ?_
  obtain ⟨H505, h505, hf⟩ := bnd hf
  refine g_lastore O (pc' := 506) at_505 h505 rfl ?_
  refine g_aload O (pc' := 508) at_506 (v := v57) rfl rfl ?_
  refine g_iload O (pc' := 510) at_508 (v := v12) rfl rfl ?_
  refine g_iconst O (pc' := 511) at_510 (v := 1) (by decide) rfl ?_
  refine g_iadd O (pc' := 512) at_511 rfl ?_
  refine g_lload O (pc' := 514) at_512 (v := v31) rfl rfl ?_
  obtain ⟨H514, h514, hf⟩ := bnd hf
  refine g_lastore O (pc' := 515) at_514 h514 rfl ?_
  refine g_aload O (pc' := 517) at_515 (v := v57) rfl rfl ?_
  refine g_iload O (pc' := 519) at_517 (v := v12) rfl rfl ?_
  refine g_iconst O (pc' := 520) at_519 (v := 2) (by decide) rfl ?_
  refine g_iadd O (pc' := 521) at_520 rfl ?_
  refine g_lload O (pc' := 523) at_521 (v := v33) rfl rfl ?_
  obtain ⟨H523, h523, hf⟩ := bnd hf
  refine g_lastore O (pc' := 524) at_523 h523 rfl ?_
  refine g_aload O (pc' := 526) at_524 (v := v58) rfl rfl ?_
  refine g_iload O (pc' := 528) at_526 (v := v12) rfl rfl ?_
  refine g_lload O (pc' := 530) at_528 (v := v29) rfl rfl ?_
  obtain ⟨H530, h530, hf⟩ := bnd hf
  refine g_lastore O (pc' := 531) at_530 h530 rfl ?_
  refine g_aload O (pc' := 533) at_531 (v := v58) rfl rfl ?_
  refine g_iload O (pc' := 535) at_533 (v := v12) rfl rfl ?_
  refine g_iconst O (pc' := 536) at_535 (v := 1) (by decide) rfl ?_
  refine g_iadd O (pc' := 537) at_536 rfl ?_
  refine g_lload O (pc' := 539) at_537 (v := v31) rfl rfl ?_
  obtain ⟨H539, h539, hf⟩ := bnd hf
  refine g_lastore O (pc' := 540) at_539 h539 rfl ?_
  refine g_aload O (pc' := 542) at_540 (v := v58) rfl rfl ?_
  refine g_iload O (pc' := 544) at_542 (v := v12) rfl rfl ?_
  refine g_iconst O (pc' := 545) at_544 (v := 2) (by decide) rfl ?_
  refine g_iadd O (pc' := 546) at_545 rfl ?_
  refine g_lload O (pc' := 548) at_546 (v := v33) rfl rfl ?_
  obtain ⟨H548, h548, hf⟩ := bnd hf
  refine g_lastore O (pc' := 549) at_548 h548 rfl ?_
  refine g_aload O (pc' := 551) at_549 (v := v59) rfl rfl ?_
  refine g_iload O (pc' := 553) at_551 (v := v13) rfl rfl ?_
  refine g_lload O (pc' := 555) at_553 (v := v35) rfl rfl ?_
  obtain ⟨H555, h555, hf⟩ := bnd hf
  refine g_lastore O (pc' := 556) at_555 h555 rfl ?_
  refine g_aload O (pc' := 558) at_556 (v := v59) rfl rfl ?_
  refine g_iload O (pc' := 560) at_558 (v := v13) rfl rfl ?_
  refine g_iconst O (pc' := 561) at_560 (v := 1) (by decide) rfl ?_
  refine g_iadd O (pc' := 562) at_561 rfl ?_
  refine g_lload O (pc' := 564) at_562 (v := v37) rfl rfl ?_
  obtain ⟨H564, h564, hf⟩ := bnd hf
  refine g_lastore O (pc' := 565) at_564 h564 rfl ?_
  refine g_aload O (pc' := 567) at_565 (v := v59) rfl rfl ?_
  refine g_iload O (pc' := 569) at_567 (v := v13) rfl rfl ?_
  refine g_iconst O (pc' := 570) at_569 (v := 2) (by decide) rfl ?_
  refine g_iadd O (pc' := 571) at_570 rfl ?_
  refine g_lload O (pc' := 573) at_571 (v := v39) rfl rfl ?_
  obtain ⟨H573, h573, hf⟩ := bnd hf
  refine g_lastore O (pc' := 574) at_573 h573 rfl ?_
  refine g_aload O (pc' := 576) at_574 (v := v60) rfl rfl ?_
  refine g_iload O (pc' := 578) at_576 (v := v13) rfl rfl ?_
  refine g_lload O (pc' := 580) at_578 (v := v35) rfl rfl ?_
  obtain ⟨H580, h580, hf⟩ := bnd hf
  refine g_lastore O (pc' := 581) at_580 h580 rfl ?_
  refine g_aload O (pc' := 583) at_581 (v := v60) rfl rfl ?_
  refine g_iload O (pc' := 585) at_583 (v := v13) rfl rfl ?_
  refine g_iconst O (pc' := 586) at_585 (v := 1) (by decide) rfl ?_
  refine g_iadd O (pc' := 587) at_586 rfl ?_
  refine g_lload O (pc' := 589) at_587 (v := v37) rfl rfl ?_
  obtain ⟨H589, h589, hf⟩ := bnd hf
  refine g_lastore O (pc' := 590) at_589 h589 rfl ?_
  refine g_aload O (pc' := 592) at_590 (v := v60) rfl rfl ?_
  refine g_iload O (pc' := 594) at_592 (v := v13) rfl rfl ?_
  refine g_iconst O (pc' := 595) at_594 (v := 2) (by decide) rfl ?_
  refine g_iadd O (pc' := 596) at_595 rfl ?_
  refine g_lload O (pc' := 598) at_596 (v := v39) rfl rfl ?_
  obtain ⟨H598, h598, hf⟩ := bnd hf
  refine g_lastore O (pc' := 599) at_598 h598 rfl ?_
  refine g_forget (Ls' := [none, none, none, none, none, none, none, none, none, none, none, none, some (.int v12), some (.int v13), some (.int v14), some (.int v15), none, none, none, none, none, none, none, none, none, none, none, none, none, none, none, none, none, none, none, none, none, none, none, none, none, none, none, none, none, none, none, none, none, none, none, some (.long v51), none, some (.long v53), none, some (.long v55), none, some (.ref v57), some (.ref v58), some (.ref v59), some (.ref v60), some (.ref v61), some (.ref v62), none, none, none]) (And.intro rfl (And.intro rfl (And.intro rfl (And.intro rfl (And.intro rfl (And.intro rfl (And.intro rfl (And.intro rfl (And.intro rfl (And.intro rfl (And.intro rfl (And.intro rfl (And.intro rfl trivial))))))))))))) ?_
  exact m0_t599 O v12 v13 v14 v15 v51 v53 v55 v57 v58 v59 v60 v61 v62 H598 _ _ hf
def m0_b464 (v12 : Int32) (v13 : Int32) (v14 : Int32) (v15 : Int32) (v29 : Int64) (v31 : Int64) (v33 : Int64) (v35 : Int64) (v37 : Int64) (v39 : Int64) (v51 : Int64) (v53 : Int64) (v55 : Int64) (v57 : Nat) (v58 : Nat) (v59 : Nat) (v60 : Nat) (v61 : Nat) (H : List Obj) : Option (Int32 × List Obj) :=
  (mkArr .long 5 H (5 : Int32)).bind fun H465 =>
  (wr .long H465 (H.length) (0 : Int32) (.long (-1 : Int64))).bind fun H472 =>
  (wr .long H472 (H.length) (1 : Int32) (.long (-1 : Int64))).bind fun H478 =>
  (wr .long H478 (H.length) (2 : Int32) (.long (-1 : Int64))).bind fun H484 =>
  (wr .long H484 (H.length) (3 : Int32) (.long (-1 : Int64))).bind fun H490 =>
  (wr .long H490 (H.length) (4 : Int32) (.long (-1 : Int64))).bind fun H496 =>
  m0_b499 v12 v13 v14 v15 v29 v31 v33 v35 v37 v39 v51 v53 v55 v57 v58 v59 v60 v61 (H.length) H496
theorem m0_t464 {G : Gx} {K : Kx} (O : Ok0 G K) (v12 : Int32) (v13 : Int32) (v14 : Int32) (v15 : Int32) (v29 : Int64) (v31 : Int64) (v33 : Int64) (v35 : Int64) (v37 : Int64) (v39 : Int64) (v51 : Int64) (v53 : Int64) (v55 : Int64) (v57 : Nat) (v58 : Nat) (v59 : Nat) (v60 : Nat) (v61 : Nat) (H : List Obj) (r : Int32) (Hf : List Obj) (hf : m0_b464 v12 v13 v14 v15 v29 v31 v33 v35 v37 v39 v51 v53 v55 v57 v58 v59 v60 v61 H = some (r, Hf)) : Run G K (some (.int r)) Hf 464 [none, none, none, none, none, none, none, none, none, none, none, none, some (.int v12), some (.int v13), some (.int v14), some (.int v15), none, none, none, none, none, none, none, none, none, none, none, none, none, some (.long v29), none, some (.long v31), none, some (.long v33), none, some (.long v35), none, some (.long v37), none, some (.long v39), none, none, none, none, none, none, none, none, none, none, none, some (.long v51), none, some (.long v53), none, some (.long v55), none, some (.ref v57), some (.ref v58), some (.ref v59), some (.ref v60), some (.ref v61), none, none, none, none] [] H 5 25 := by
  unfold m0_b464 at hf
  refine g_iconst O (pc' := 465) at_464 (v := 5) (by decide) rfl ?_
  obtain ⟨H465, h465, hf⟩ := bnd hf
  refine g_newarray O (pc' := 467) at_465 (cap := 5) tw8 h465 (by decide) (c2 := 6) (s2 := 30) rfl rfl (by decide) (by decide) rfl ?_
  refine g_dup O (pc' := 468) at_467 rfl rfl ?_
  refine g_iconst O (pc' := 469) at_468 (v := 0) (by decide) rfl ?_
  refine g_ldc2 O (pc' := 472) at_469 tw9 rfl ?_
  obtain ⟨H472, h472, hf⟩ := bnd hf
  refine g_lastore O (pc' := 473) at_472 h472 rfl ?_
  refine g_dup O (pc' := 474) at_473 rfl rfl ?_
  refine g_iconst O (pc' := 475) at_474 (v := 1) (by decide) rfl ?_
  refine g_ldc2 O (pc' := 478) at_475 tw9 rfl ?_
  obtain ⟨H478, h478, hf⟩ := bnd hf
  refine g_lastore O (pc' := 479) at_478 h478 rfl ?_
  refine g_dup O (pc' := 480) at_479 rfl rfl ?_
  refine g_iconst O (pc' := 481) at_480 (v := 2) (by decide) rfl ?_
  refine g_ldc2 O (pc' := 484) at_481 tw9 rfl ?_
  obtain ⟨H484, h484, hf⟩ := bnd hf
  refine g_lastore O (pc' := 485) at_484 h484 rfl ?_
  refine g_dup O (pc' := 486) at_485 rfl rfl ?_
  refine g_iconst O (pc' := 487) at_486 (v := 3) (by decide) rfl ?_
  refine g_ldc2 O (pc' := 490) at_487 tw9 rfl ?_
  obtain ⟨H490, h490, hf⟩ := bnd hf
  refine g_lastore O (pc' := 491) at_490 h490 rfl ?_
  refine g_dup O (pc' := 492) at_491 rfl rfl ?_
  refine g_iconst O (pc' := 493) at_492 (v := 4) (by decide) rfl ?_
  refine g_ldc2 O (pc' := 496) at_493 tw9 rfl ?_
  obtain ⟨H496, h496, hf⟩ := bnd hf
  refine g_lastore O (pc' := 497) at_496 h496 rfl ?_
  refine g_astore O (pc' := 499) at_497 (Ls' := [none, none, none, none, none, none, none, none, none, none, none, none, some (.int v12), some (.int v13), some (.int v14), some (.int v15), none, none, none, none, none, none, none, none, none, none, none, none, none, some (.long v29), none, some (.long v31), none, some (.long v33), none, some (.long v35), none, some (.long v37), none, some (.long v39), none, none, none, none, none, none, none, none, none, none, none, some (.long v51), none, some (.long v53), none, some (.long v55), none, some (.ref v57), some (.ref v58), some (.ref v59), some (.ref v60), some (.ref v61), some (.ref (H.length)), none, none, none]) rfl rfl ?_
  exact m0_t499 O v12 v13 v14 v15 v29 v31 v33 v35 v37 v39 v51 v53 v55 v57 v58 v59 v60 v61 (H.length) H496 _ _ hf
def m0_b429 (v12 : Int32) (v13 : Int32) (v14 : Int32) (v15 : Int32) (v29 : Int64) (v31 : Int64) (v33 : Int64) (v35 : Int64) (v37 : Int64) (v39 : Int64) (v51 : Int64) (v53 : Int64) (v55 : Int64) (v57 : Nat) (v58 : Nat) (v59 : Nat) (v60 : Nat) (H : List Obj) : Option (Int32 × List Obj) :=
  (mkArr .long 5 H (5 : Int32)).bind fun H430 =>
  (wr .long H430 (H.length) (0 : Int32) (.long (-1 : Int64))).bind fun H437 =>
  (wr .long H437 (H.length) (1 : Int32) (.long (-1 : Int64))).bind fun H443 =>
  (wr .long H443 (H.length) (2 : Int32) (.long (-1 : Int64))).bind fun H449 =>
  (wr .long H449 (H.length) (3 : Int32) (.long (-1 : Int64))).bind fun H455 =>
  (wr .long H455 (H.length) (4 : Int32) (.long (-1 : Int64))).bind fun H461 =>
  m0_b464 v12 v13 v14 v15 v29 v31 v33 v35 v37 v39 v51 v53 v55 v57 v58 v59 v60 (H.length) H461
theorem m0_t429 {G : Gx} {K : Kx} (O : Ok0 G K) (v12 : Int32) (v13 : Int32) (v14 : Int32) (v15 : Int32) (v29 : Int64) (v31 : Int64) (v33 : Int64) (v35 : Int64) (v37 : Int64) (v39 : Int64) (v51 : Int64) (v53 : Int64) (v55 : Int64) (v57 : Nat) (v58 : Nat) (v59 : Nat) (v60 : Nat) (H : List Obj) (r : Int32) (Hf : List Obj) (hf : m0_b429 v12 v13 v14 v15 v29 v31 v33 v35 v37 v39 v51 v53 v55 v57 v58 v59 v60 H = some (r, Hf)) : Run G K (some (.int r)) Hf 429 [none, none, none, none, none, none, none, none, none, none, none, none, some (.int v12), some (.int v13), some (.int v14), some (.int v15), none, none, none, none, none, none, none, none, none, none, none, none, none, some (.long v29), none, some (.long v31), none, some (.long v33), none, some (.long v35), none, some (.long v37), none, some (.long v39), none, none, none, none, none, none, none, none, none, none, none, some (.long v51), none, some (.long v53), none, some (.long v55), none, some (.ref v57), some (.ref v58), some (.ref v59), some (.ref v60), none, none, none, none, none] [] H 4 20 := by
  unfold m0_b429 at hf
  refine g_iconst O (pc' := 430) at_429 (v := 5) (by decide) rfl ?_
  obtain ⟨H430, h430, hf⟩ := bnd hf
  refine g_newarray O (pc' := 432) at_430 (cap := 5) tw8 h430 (by decide) (c2 := 5) (s2 := 25) rfl rfl (by decide) (by decide) rfl ?_
  refine g_dup O (pc' := 433) at_432 rfl rfl ?_
  refine g_iconst O (pc' := 434) at_433 (v := 0) (by decide) rfl ?_
  refine g_ldc2 O (pc' := 437) at_434 tw9 rfl ?_
  obtain ⟨H437, h437, hf⟩ := bnd hf
  refine g_lastore O (pc' := 438) at_437 h437 rfl ?_
  refine g_dup O (pc' := 439) at_438 rfl rfl ?_
  refine g_iconst O (pc' := 440) at_439 (v := 1) (by decide) rfl ?_
  refine g_ldc2 O (pc' := 443) at_440 tw9 rfl ?_
  obtain ⟨H443, h443, hf⟩ := bnd hf
  refine g_lastore O (pc' := 444) at_443 h443 rfl ?_
  refine g_dup O (pc' := 445) at_444 rfl rfl ?_
  refine g_iconst O (pc' := 446) at_445 (v := 2) (by decide) rfl ?_
  refine g_ldc2 O (pc' := 449) at_446 tw9 rfl ?_
  obtain ⟨H449, h449, hf⟩ := bnd hf
  refine g_lastore O (pc' := 450) at_449 h449 rfl ?_
  refine g_dup O (pc' := 451) at_450 rfl rfl ?_
  refine g_iconst O (pc' := 452) at_451 (v := 3) (by decide) rfl ?_
  refine g_ldc2 O (pc' := 455) at_452 tw9 rfl ?_
  obtain ⟨H455, h455, hf⟩ := bnd hf
  refine g_lastore O (pc' := 456) at_455 h455 rfl ?_
  refine g_dup O (pc' := 457) at_456 rfl rfl ?_
  refine g_iconst O (pc' := 458) at_457 (v := 4) (by decide) rfl ?_
  refine g_ldc2 O (pc' := 461) at_458 tw9 rfl ?_
  obtain ⟨H461, h461, hf⟩ := bnd hf
  refine g_lastore O (pc' := 462) at_461 h461 rfl ?_
  refine g_astore O (pc' := 464) at_462 (Ls' := [none, none, none, none, none, none, none, none, none, none, none, none, some (.int v12), some (.int v13), some (.int v14), some (.int v15), none, none, none, none, none, none, none, none, none, none, none, none, none, some (.long v29), none, some (.long v31), none, some (.long v33), none, some (.long v35), none, some (.long v37), none, some (.long v39), none, none, none, none, none, none, none, none, none, none, none, some (.long v51), none, some (.long v53), none, some (.long v55), none, some (.ref v57), some (.ref v58), some (.ref v59), some (.ref v60), some (.ref (H.length)), none, none, none, none]) rfl rfl ?_
  exact m0_t464 O v12 v13 v14 v15 v29 v31 v33 v35 v37 v39 v51 v53 v55 v57 v58 v59 v60 (H.length) H461 _ _ hf
def m0_b394 (v12 : Int32) (v13 : Int32) (v14 : Int32) (v15 : Int32) (v29 : Int64) (v31 : Int64) (v33 : Int64) (v35 : Int64) (v37 : Int64) (v39 : Int64) (v51 : Int64) (v53 : Int64) (v55 : Int64) (v57 : Nat) (v58 : Nat) (v59 : Nat) (H : List Obj) : Option (Int32 × List Obj) :=
  (mkArr .long 5 H (5 : Int32)).bind fun H395 =>
  (wr .long H395 (H.length) (0 : Int32) (.long (-1 : Int64))).bind fun H402 =>
  (wr .long H402 (H.length) (1 : Int32) (.long (-1 : Int64))).bind fun H408 =>
  (wr .long H408 (H.length) (2 : Int32) (.long (-1 : Int64))).bind fun H414 =>
  (wr .long H414 (H.length) (3 : Int32) (.long (-1 : Int64))).bind fun H420 =>
  (wr .long H420 (H.length) (4 : Int32) (.long (-1 : Int64))).bind fun H426 =>
  m0_b429 v12 v13 v14 v15 v29 v31 v33 v35 v37 v39 v51 v53 v55 v57 v58 v59 (H.length) H426
theorem m0_t394 {G : Gx} {K : Kx} (O : Ok0 G K) (v12 : Int32) (v13 : Int32) (v14 : Int32) (v15 : Int32) (v29 : Int64) (v31 : Int64) (v33 : Int64) (v35 : Int64) (v37 : Int64) (v39 : Int64) (v51 : Int64) (v53 : Int64) (v55 : Int64) (v57 : Nat) (v58 : Nat) (v59 : Nat) (H : List Obj) (r : Int32) (Hf : List Obj) (hf : m0_b394 v12 v13 v14 v15 v29 v31 v33 v35 v37 v39 v51 v53 v55 v57 v58 v59 H = some (r, Hf)) : Run G K (some (.int r)) Hf 394 [none, none, none, none, none, none, none, none, none, none, none, none, some (.int v12), some (.int v13), some (.int v14), some (.int v15), none, none, none, none, none, none, none, none, none, none, none, none, none, some (.long v29), none, some (.long v31), none, some (.long v33), none, some (.long v35), none, some (.long v37), none, some (.long v39), none, none, none, none, none, none, none, none, none, none, none, some (.long v51), none, some (.long v53), none, some (.long v55), none, some (.ref v57), some (.ref v58), some (.ref v59), none, none, none, none, none, none] [] H 3 15 := by
  unfold m0_b394 at hf
  refine g_iconst O (pc' := 395) at_394 (v := 5) (by decide) rfl ?_
  obtain ⟨H395, h395, hf⟩ := bnd hf
  refine g_newarray O (pc' := 397) at_395 (cap := 5) tw8 h395 (by decide) (c2 := 4) (s2 := 20) rfl rfl (by decide) (by decide) rfl ?_
  refine g_dup O (pc' := 398) at_397 rfl rfl ?_
  refine g_iconst O (pc' := 399) at_398 (v := 0) (by decide) rfl ?_
  refine g_ldc2 O (pc' := 402) at_399 tw9 rfl ?_
  obtain ⟨H402, h402, hf⟩ := bnd hf
  refine g_lastore O (pc' := 403) at_402 h402 rfl ?_
  refine g_dup O (pc' := 404) at_403 rfl rfl ?_
  refine g_iconst O (pc' := 405) at_404 (v := 1) (by decide) rfl ?_
  refine g_ldc2 O (pc' := 408) at_405 tw9 rfl ?_
  obtain ⟨H408, h408, hf⟩ := bnd hf
  refine g_lastore O (pc' := 409) at_408 h408 rfl ?_
  refine g_dup O (pc' := 410) at_409 rfl rfl ?_
  refine g_iconst O (pc' := 411) at_410 (v := 2) (by decide) rfl ?_
  refine g_ldc2 O (pc' := 414) at_411 tw9 rfl ?_
  obtain ⟨H414, h414, hf⟩ := bnd hf
  refine g_lastore O (pc' := 415) at_414 h414 rfl ?_
  refine g_dup O (pc' := 416) at_415 rfl rfl ?_
  refine g_iconst O (pc' := 417) at_416 (v := 3) (by decide) rfl ?_
  refine g_ldc2 O (pc' := 420) at_417 tw9 rfl ?_
  obtain ⟨H420, h420, hf⟩ := bnd hf
  refine g_lastore O (pc' := 421) at_420 h420 rfl ?_
  refine g_dup O (pc' := 422) at_421 rfl rfl ?_
  refine g_iconst O (pc' := 423) at_422 (v := 4) (by decide) rfl ?_
  refine g_ldc2 O (pc' := 426) at_423 tw9 rfl ?_
  obtain ⟨H426, h426, hf⟩ := bnd hf
  refine g_lastore O (pc' := 427) at_426 h426 rfl ?_
  refine g_astore O (pc' := 429) at_427 (Ls' := [none, none, none, none, none, none, none, none, none, none, none, none, some (.int v12), some (.int v13), some (.int v14), some (.int v15), none, none, none, none, none, none, none, none, none, none, none, none, none, some (.long v29), none, some (.long v31), none, some (.long v33), none, some (.long v35), none, some (.long v37), none, some (.long v39), none, none, none, none, none, none, none, none, none, none, none, some (.long v51), none, some (.long v53), none, some (.long v55), none, some (.ref v57), some (.ref v58), some (.ref v59), some (.ref (H.length)), none, none, none, none, none]) rfl rfl ?_
  exact m0_t429 O v12 v13 v14 v15 v29 v31 v33 v35 v37 v39 v51 v53 v55 v57 v58 v59 (H.length) H426 _ _ hf
def m0_b359 (v12 : Int32) (v13 : Int32) (v14 : Int32) (v15 : Int32) (v29 : Int64) (v31 : Int64) (v33 : Int64) (v35 : Int64) (v37 : Int64) (v39 : Int64) (v51 : Int64) (v53 : Int64) (v55 : Int64) (v57 : Nat) (v58 : Nat) (H : List Obj) : Option (Int32 × List Obj) :=
  (mkArr .long 5 H (5 : Int32)).bind fun H360 =>
  (wr .long H360 (H.length) (0 : Int32) (.long (-1 : Int64))).bind fun H367 =>
  (wr .long H367 (H.length) (1 : Int32) (.long (-1 : Int64))).bind fun H373 =>
  (wr .long H373 (H.length) (2 : Int32) (.long (-1 : Int64))).bind fun H379 =>
  (wr .long H379 (H.length) (3 : Int32) (.long (-1 : Int64))).bind fun H385 =>
  (wr .long H385 (H.length) (4 : Int32) (.long (-1 : Int64))).bind fun H391 =>
  m0_b394 v12 v13 v14 v15 v29 v31 v33 v35 v37 v39 v51 v53 v55 v57 v58 (H.length) H391
theorem m0_t359 {G : Gx} {K : Kx} (O : Ok0 G K) (v12 : Int32) (v13 : Int32) (v14 : Int32) (v15 : Int32) (v29 : Int64) (v31 : Int64) (v33 : Int64) (v35 : Int64) (v37 : Int64) (v39 : Int64) (v51 : Int64) (v53 : Int64) (v55 : Int64) (v57 : Nat) (v58 : Nat) (H : List Obj) (r : Int32) (Hf : List Obj) (hf : m0_b359 v12 v13 v14 v15 v29 v31 v33 v35 v37 v39 v51 v53 v55 v57 v58 H = some (r, Hf)) : Run G K (some (.int r)) Hf 359 [none, none, none, none, none, none, none, none, none, none, none, none, some (.int v12), some (.int v13), some (.int v14), some (.int v15), none, none, none, none, none, none, none, none, none, none, none, none, none, some (.long v29), none, some (.long v31), none, some (.long v33), none, some (.long v35), none, some (.long v37), none, some (.long v39), none, none, none, none, none, none, none, none, none, none, none, some (.long v51), none, some (.long v53), none, some (.long v55), none, some (.ref v57), some (.ref v58), none, none, none, none, none, none, none] [] H 2 10 := by
  unfold m0_b359 at hf
  refine g_iconst O (pc' := 360) at_359 (v := 5) (by decide) rfl ?_
  obtain ⟨H360, h360, hf⟩ := bnd hf
  refine g_newarray O (pc' := 362) at_360 (cap := 5) tw8 h360 (by decide) (c2 := 3) (s2 := 15) rfl rfl (by decide) (by decide) rfl ?_
  refine g_dup O (pc' := 363) at_362 rfl rfl ?_
  refine g_iconst O (pc' := 364) at_363 (v := 0) (by decide) rfl ?_
  refine g_ldc2 O (pc' := 367) at_364 tw9 rfl ?_
  obtain ⟨H367, h367, hf⟩ := bnd hf
  refine g_lastore O (pc' := 368) at_367 h367 rfl ?_
  refine g_dup O (pc' := 369) at_368 rfl rfl ?_
  refine g_iconst O (pc' := 370) at_369 (v := 1) (by decide) rfl ?_
  refine g_ldc2 O (pc' := 373) at_370 tw9 rfl ?_
  obtain ⟨H373, h373, hf⟩ := bnd hf
  refine g_lastore O (pc' := 374) at_373 h373 rfl ?_
  refine g_dup O (pc' := 375) at_374 rfl rfl ?_
  refine g_iconst O (pc' := 376) at_375 (v := 2) (by decide) rfl ?_
  refine g_ldc2 O (pc' := 379) at_376 tw9 rfl ?_
  obtain ⟨H379, h379, hf⟩ := bnd hf
  refine g_lastore O (pc' := 380) at_379 h379 rfl ?_
  refine g_dup O (pc' := 381) at_380 rfl rfl ?_
  refine g_iconst O (pc' := 382) at_381 (v := 3) (by decide) rfl ?_
  refine g_ldc2 O (pc' := 385) at_382 tw9 rfl ?_
  obtain ⟨H385, h385, hf⟩ := bnd hf
  refine g_lastore O (pc' := 386) at_385 h385 rfl ?_
  refine g_dup O (pc' := 387) at_386 rfl rfl ?_
  refine g_iconst O (pc' := 388) at_387 (v := 4) (by decide) rfl ?_
  refine g_ldc2 O (pc' := 391) at_388 tw9 rfl ?_
  obtain ⟨H391, h391, hf⟩ := bnd hf
  refine g_lastore O (pc' := 392) at_391 h391 rfl ?_
  refine g_astore O (pc' := 394) at_392 (Ls' := [none, none, none, none, none, none, none, none, none, none, none, none, some (.int v12), some (.int v13), some (.int v14), some (.int v15), none, none, none, none, none, none, none, none, none, none, none, none, none, some (.long v29), none, some (.long v31), none, some (.long v33), none, some (.long v35), none, some (.long v37), none, some (.long v39), none, none, none, none, none, none, none, none, none, none, none, some (.long v51), none, some (.long v53), none, some (.long v55), none, some (.ref v57), some (.ref v58), some (.ref (H.length)), none, none, none, none, none, none]) rfl rfl ?_
  exact m0_t394 O v12 v13 v14 v15 v29 v31 v33 v35 v37 v39 v51 v53 v55 v57 v58 (H.length) H391 _ _ hf
def m0_b324 (v12 : Int32) (v13 : Int32) (v14 : Int32) (v15 : Int32) (v29 : Int64) (v31 : Int64) (v33 : Int64) (v35 : Int64) (v37 : Int64) (v39 : Int64) (v51 : Int64) (v53 : Int64) (v55 : Int64) (v57 : Nat) (H : List Obj) : Option (Int32 × List Obj) :=
  (mkArr .long 5 H (5 : Int32)).bind fun H325 =>
  (wr .long H325 (H.length) (0 : Int32) (.long (-1 : Int64))).bind fun H332 =>
  (wr .long H332 (H.length) (1 : Int32) (.long (-1 : Int64))).bind fun H338 =>
  (wr .long H338 (H.length) (2 : Int32) (.long (-1 : Int64))).bind fun H344 =>
  (wr .long H344 (H.length) (3 : Int32) (.long (-1 : Int64))).bind fun H350 =>
  (wr .long H350 (H.length) (4 : Int32) (.long (-1 : Int64))).bind fun H356 =>
  m0_b359 v12 v13 v14 v15 v29 v31 v33 v35 v37 v39 v51 v53 v55 v57 (H.length) H356
theorem m0_t324 {G : Gx} {K : Kx} (O : Ok0 G K) (v12 : Int32) (v13 : Int32) (v14 : Int32) (v15 : Int32) (v29 : Int64) (v31 : Int64) (v33 : Int64) (v35 : Int64) (v37 : Int64) (v39 : Int64) (v51 : Int64) (v53 : Int64) (v55 : Int64) (v57 : Nat) (H : List Obj) (r : Int32) (Hf : List Obj) (hf : m0_b324 v12 v13 v14 v15 v29 v31 v33 v35 v37 v39 v51 v53 v55 v57 H = some (r, Hf)) : Run G K (some (.int r)) Hf 324 [none, none, none, none, none, none, none, none, none, none, none, none, some (.int v12), some (.int v13), some (.int v14), some (.int v15), none, none, none, none, none, none, none, none, none, none, none, none, none, some (.long v29), none, some (.long v31), none, some (.long v33), none, some (.long v35), none, some (.long v37), none, some (.long v39), none, none, none, none, none, none, none, none, none, none, none, some (.long v51), none, some (.long v53), none, some (.long v55), none, some (.ref v57), none, none, none, none, none, none, none, none] [] H 1 5 := by
  unfold m0_b324 at hf
  refine g_iconst O (pc' := 325) at_324 (v := 5) (by decide) rfl ?_
  obtain ⟨H325, h325, hf⟩ := bnd hf
  refine g_newarray O (pc' := 327) at_325 (cap := 5) tw8 h325 (by decide) (c2 := 2) (s2 := 10) rfl rfl (by decide) (by decide) rfl ?_
  refine g_dup O (pc' := 328) at_327 rfl rfl ?_
  refine g_iconst O (pc' := 329) at_328 (v := 0) (by decide) rfl ?_
  refine g_ldc2 O (pc' := 332) at_329 tw9 rfl ?_
  obtain ⟨H332, h332, hf⟩ := bnd hf
  refine g_lastore O (pc' := 333) at_332 h332 rfl ?_
  refine g_dup O (pc' := 334) at_333 rfl rfl ?_
  refine g_iconst O (pc' := 335) at_334 (v := 1) (by decide) rfl ?_
  refine g_ldc2 O (pc' := 338) at_335 tw9 rfl ?_
  obtain ⟨H338, h338, hf⟩ := bnd hf
  refine g_lastore O (pc' := 339) at_338 h338 rfl ?_
  refine g_dup O (pc' := 340) at_339 rfl rfl ?_
  refine g_iconst O (pc' := 341) at_340 (v := 2) (by decide) rfl ?_
  refine g_ldc2 O (pc' := 344) at_341 tw9 rfl ?_
  obtain ⟨H344, h344, hf⟩ := bnd hf
  refine g_lastore O (pc' := 345) at_344 h344 rfl ?_
  refine g_dup O (pc' := 346) at_345 rfl rfl ?_
  refine g_iconst O (pc' := 347) at_346 (v := 3) (by decide) rfl ?_
  refine g_ldc2 O (pc' := 350) at_347 tw9 rfl ?_
  obtain ⟨H350, h350, hf⟩ := bnd hf
  refine g_lastore O (pc' := 351) at_350 h350 rfl ?_
  refine g_dup O (pc' := 352) at_351 rfl rfl ?_
  refine g_iconst O (pc' := 353) at_352 (v := 4) (by decide) rfl ?_
  refine g_ldc2 O (pc' := 356) at_353 tw9 rfl ?_
  obtain ⟨H356, h356, hf⟩ := bnd hf
  refine g_lastore O (pc' := 357) at_356 h356 rfl ?_
  refine g_astore O (pc' := 359) at_357 (Ls' := [none, none, none, none, none, none, none, none, none, none, none, none, some (.int v12), some (.int v13), some (.int v14), some (.int v15), none, none, none, none, none, none, none, none, none, none, none, none, none, some (.long v29), none, some (.long v31), none, some (.long v33), none, some (.long v35), none, some (.long v37), none, some (.long v39), none, none, none, none, none, none, none, none, none, none, none, some (.long v51), none, some (.long v53), none, some (.long v55), none, some (.ref v57), some (.ref (H.length)), none, none, none, none, none, none, none]) rfl rfl ?_
  exact m0_t359 O v12 v13 v14 v15 v29 v31 v33 v35 v37 v39 v51 v53 v55 v57 (H.length) H356 _ _ hf
def m0_b289 (v12 : Int32) (v13 : Int32) (v14 : Int32) (v15 : Int32) (v29 : Int64) (v31 : Int64) (v33 : Int64) (v35 : Int64) (v37 : Int64) (v39 : Int64) (v51 : Int64) (v53 : Int64) (v55 : Int64) (H : List Obj) : Option (Int32 × List Obj) :=
  (mkArr .long 5 H (5 : Int32)).bind fun H290 =>
  (wr .long H290 (H.length) (0 : Int32) (.long (-1 : Int64))).bind fun H297 =>
  (wr .long H297 (H.length) (1 : Int32) (.long (-1 : Int64))).bind fun H303 =>
  (wr .long H303 (H.length) (2 : Int32) (.long (-1 : Int64))).bind fun H309 =>
  (wr .long H309 (H.length) (3 : Int32) (.long (-1 : Int64))).bind fun H315 =>
  (wr .long H315 (H.length) (4 : Int32) (.long (-1 : Int64))).bind fun H321 =>
  m0_b324 v12 v13 v14 v15 v29 v31 v33 v35 v37 v39 v51 v53 v55 (H.length) H321
theorem m0_t289 {G : Gx} {K : Kx} (O : Ok0 G K) (v12 : Int32) (v13 : Int32) (v14 : Int32) (v15 : Int32) (v29 : Int64) (v31 : Int64) (v33 : Int64) (v35 : Int64) (v37 : Int64) (v39 : Int64) (v51 : Int64) (v53 : Int64) (v55 : Int64) (H : List Obj) (r : Int32) (Hf : List Obj) (hf : m0_b289 v12 v13 v14 v15 v29 v31 v33 v35 v37 v39 v51 v53 v55 H = some (r, Hf)) : Run G K (some (.int r)) Hf 289 [none, none, none, none, none, none, none, none, none, none, none, none, some (.int v12), some (.int v13), some (.int v14), some (.int v15), none, none, none, none, none, none, none, none, none, none, none, none, none, some (.long v29), none, some (.long v31), none, some (.long v33), none, some (.long v35), none, some (.long v37), none, some (.long v39), none, none, none, none, none, none, none, none, none, none, none, some (.long v51), none, some (.long v53), none, some (.long v55), none, none, none, none, none, none, none, none, none, none] [] H 0 0 := by
  unfold m0_b289 at hf
  refine g_iconst O (pc' := 290) at_289 (v := 5) (by decide) rfl ?_
  obtain ⟨H290, h290, hf⟩ := bnd hf
  refine g_newarray O (pc' := 292) at_290 (cap := 5) tw8 h290 (by decide) (c2 := 1) (s2 := 5) rfl rfl (by decide) (by decide) rfl ?_
  refine g_dup O (pc' := 293) at_292 rfl rfl ?_
  refine g_iconst O (pc' := 294) at_293 (v := 0) (by decide) rfl ?_
  refine g_ldc2 O (pc' := 297) at_294 tw9 rfl ?_
  obtain ⟨H297, h297, hf⟩ := bnd hf
  refine g_lastore O (pc' := 298) at_297 h297 rfl ?_
  refine g_dup O (pc' := 299) at_298 rfl rfl ?_
  refine g_iconst O (pc' := 300) at_299 (v := 1) (by decide) rfl ?_
  refine g_ldc2 O (pc' := 303) at_300 tw9 rfl ?_
  obtain ⟨H303, h303, hf⟩ := bnd hf
  refine g_lastore O (pc' := 304) at_303 h303 rfl ?_
  refine g_dup O (pc' := 305) at_304 rfl rfl ?_
  refine g_iconst O (pc' := 306) at_305 (v := 2) (by decide) rfl ?_
  refine g_ldc2 O (pc' := 309) at_306 tw9 rfl ?_
  obtain ⟨H309, h309, hf⟩ := bnd hf
  refine g_lastore O (pc' := 310) at_309 h309 rfl ?_
  refine g_dup O (pc' := 311) at_310 rfl rfl ?_
  refine g_iconst O (pc' := 312) at_311 (v := 3) (by decide) rfl ?_
  refine g_ldc2 O (pc' := 315) at_312 tw9 rfl ?_
  obtain ⟨H315, h315, hf⟩ := bnd hf
  refine g_lastore O (pc' := 316) at_315 h315 rfl ?_
  refine g_dup O (pc' := 317) at_316 rfl rfl ?_
  refine g_iconst O (pc' := 318) at_317 (v := 4) (by decide) rfl ?_
  refine g_ldc2 O (pc' := 321) at_318 tw9 rfl ?_
  obtain ⟨H321, h321, hf⟩ := bnd hf
  refine g_lastore O (pc' := 322) at_321 h321 rfl ?_
  refine g_astore O (pc' := 324) at_322 (Ls' := [none, none, none, none, none, none, none, none, none, none, none, none, some (.int v12), some (.int v13), some (.int v14), some (.int v15), none, none, none, none, none, none, none, none, none, none, none, none, none, some (.long v29), none, some (.long v31), none, some (.long v33), none, some (.long v35), none, some (.long v37), none, some (.long v39), none, none, none, none, none, none, none, none, none, none, none, some (.long v51), none, some (.long v53), none, some (.long v55), none, some (.ref (H.length)), none, none, none, none, none, none, none, none]) rfl rfl ?_
  exact m0_t324 O v12 v13 v14 v15 v29 v31 v33 v35 v37 v39 v51 v53 v55 (H.length) H321 _ _ hf
def m0_b219 (v12 : Int32) (v13 : Int32) (v14 : Int32) (v15 : Int32) (v29 : Int64) (v31 : Int64) (v33 : Int64) (v35 : Int64) (v37 : Int64) (t0 : Int64) (H : List Obj) : Option (Int32 × List Obj) :=
  if ((v33 - t0) - (m1 ((v31 - v37) - (m1 (v29 - v35))))) < (0 : Int64) then
    none
  else
    m0_b289 v12 v13 v14 v15 v29 v31 v33 v35 v37 t0 (m2 (v29 - v35)) (m2 ((v31 - v37) - (m1 (v29 - v35)))) ((v33 - t0) - (m1 ((v31 - v37) - (m1 (v29 - v35))))) H
theorem m0_t219 {G : Gx} {K : Kx} (O : Ok0 G K) (v12 : Int32) (v13 : Int32) (v14 : Int32) (v15 : Int32) (v29 : Int64) (v31 : Int64) (v33 : Int64) (v35 : Int64) (v37 : Int64) (t0 : Int64) (H : List Obj) (r : Int32) (Hf : List Obj) (hf : m0_b219 v12 v13 v14 v15 v29 v31 v33 v35 v37 t0 H = some (r, Hf)) : Run G K (some (.int r)) Hf 219 [none, none, none, none, none, none, none, none, none, none, none, none, some (.int v12), some (.int v13), some (.int v14), some (.int v15), none, none, none, none, none, none, none, none, none, none, none, none, none, some (.long v29), none, some (.long v31), none, some (.long v33), none, some (.long v35), none, some (.long v37), none, none, none, none, none, none, none, none, none, none, none, none, none, none, none, none, none, none, none, none, none, none, none, none, none, none, none, none] [(.long t0)] H 0 0 := by
  unfold m0_b219 at hf
  refine g_lstore O (pc' := 221) at_219 (Ls' := [none, none, none, none, none, none, none, none, none, none, none, none, some (.int v12), some (.int v13), some (.int v14), some (.int v15), none, none, none, none, none, none, none, none, none, none, none, none, none, some (.long v29), none, some (.long v31), none, some (.long v33), none, some (.long v35), none, some (.long v37), none, some (.long t0), none, none, none, none, none, none, none, none, none, none, none, none, none, none, none, none, none, none, none, none, none, none, none, none, none, none]) rfl rfl ?_
  refine g_lload O (pc' := 223) at_221 (v := v29) rfl rfl ?_
  refine g_lload O (pc' := 225) at_223 (v := v35) rfl rfl ?_
  refine g_lsub O (pc' := 226) at_225 rfl ?_
  refine g_lstore O (pc' := 228) at_226 (Ls' := [none, none, none, none, none, none, none, none, none, none, none, none, some (.int v12), some (.int v13), some (.int v14), some (.int v15), none, none, none, none, none, none, none, none, none, none, none, none, none, some (.long v29), none, some (.long v31), none, some (.long v33), none, some (.long v35), none, some (.long v37), none, some (.long t0), none, some (.long (v29 - v35)), none, none, none, none, none, none, none, none, none, none, none, none, none, none, none, none, none, none, none, none, none, none, none, none]) rfl rfl ?_
  refine g_lload O (pc' := 230) at_228 (v := (v29 - v35)) rfl rfl ?_
  refine g_static1 O (pc' := 233) at_230 tw1 tw2 tw3 tw4 (by decide) pd1 (as := [(.long (v29 - v35))]) rfl (st := []) rfl rfl (W := 0) rfl (rm := rm1) (by decide) (by decide) (c2 := 0) (s2 := 0) rfl rfl (by decide) (by decide) (con1 (Ok.w O) (v29 - v35) H) rfl ?_
  refine g_lstore O (pc' := 235) at_233 (Ls' := [none, none, none, none, none, none, none, none, none, none, none, none, some (.int v12), some (.int v13), some (.int v14), some (.int v15), none, none, none, none, none, none, none, none, none, none, none, none, none, some (.long v29), none, some (.long v31), none, some (.long v33), none, some (.long v35), none, some (.long v37), none, some (.long t0), none, some (.long (v29 - v35)), none, some (.long (m1 (v29 - v35))), none, none, none, none, none, none, none, none, none, none, none, none, none, none, none, none, none, none, none, none, none, none]) rfl rfl ?_
  refine g_lload O (pc' := 237) at_235 (v := v31) rfl rfl ?_
  refine g_lload O (pc' := 239) at_237 (v := v37) rfl rfl ?_
  refine g_lsub O (pc' := 240) at_239 rfl ?_
  refine g_lload O (pc' := 242) at_240 (v := (m1 (v29 - v35))) rfl rfl ?_
  refine g_lsub O (pc' := 243) at_242 rfl ?_
  refine g_lstore O (pc' := 245) at_243 (Ls' := [none, none, none, none, none, none, none, none, none, none, none, none, some (.int v12), some (.int v13), some (.int v14), some (.int v15), none, none, none, none, none, none, none, none, none, none, none, none, none, some (.long v29), none, some (.long v31), none, some (.long v33), none, some (.long v35), none, some (.long v37), none, some (.long t0), none, some (.long (v29 - v35)), none, some (.long (m1 (v29 - v35))), none, some (.long ((v31 - v37) - (m1 (v29 - v35)))), none, none, none, none, none, none, none, none, none, none, none, none, none, none, none, none, none, none, none, none]) rfl rfl ?_
  refine g_lload O (pc' := 247) at_245 (v := ((v31 - v37) - (m1 (v29 - v35)))) rfl rfl ?_
  refine g_static1 O (pc' := 250) at_247 tw1 tw2 tw3 tw4 (by decide) pd1 (as := [(.long ((v31 - v37) - (m1 (v29 - v35))))]) rfl (st := []) rfl rfl (W := 0) rfl (rm := rm1) (by decide) (by decide) (c2 := 0) (s2 := 0) rfl rfl (by decide) (by decide) (con1 (Ok.w O) ((v31 - v37) - (m1 (v29 - v35))) H) rfl ?_
  refine g_lstore O (pc' := 252) at_250 (Ls' := [none, none, none, none, none, none, none, none, none, none, none, none, some (.int v12), some (.int v13), some (.int v14), some (.int v15), none, none, none, none, none, none, none, none, none, none, none, none, none, some (.long v29), none, some (.long v31), none, some (.long v33), none, some (.long v35), none, some (.long v37), none, some (.long t0), none, some (.long (v29 - v35)), none, some (.long (m1 (v29 - v35))), none, some (.long ((v31 - v37) - (m1 (v29 - v35)))), none, some (.long (m1 ((v31 - v37) - (m1 (v29 - v35))))), none, none, none, none, none, none, none, none, none, none, none, none, none, none, none, none, none, none]) rfl rfl ?_
  refine g_lload O (pc' := 254) at_252 (v := v33) rfl rfl ?_
  refine g_lload O (pc' := 256) at_254 (v := t0) rfl rfl ?_
  refine g_lsub O (pc' := 257) at_256 rfl ?_
  refine g_lload O (pc' := 259) at_257 (v := (m1 ((v31 - v37) - (m1 (v29 - v35))))) rfl rfl ?_
  refine g_lsub O (pc' := 260) at_259 rfl ?_
  refine g_lstore O (pc' := 262) at_260 (Ls' := [none, none, none, none, none, none, none, none, none, none, none, none, some (.int v12), some (.int v13), some (.int v14), some (.int v15), none, none, none, none, none, none, none, none, none, none, none, none, none, some (.long v29), none, some (.long v31), none, some (.long v33), none, some (.long v35), none, some (.long v37), none, some (.long t0), none, some (.long (v29 - v35)), none, some (.long (m1 (v29 - v35))), none, some (.long ((v31 - v37) - (m1 (v29 - v35)))), none, some (.long (m1 ((v31 - v37) - (m1 (v29 - v35))))), none, some (.long ((v33 - t0) - (m1 ((v31 - v37) - (m1 (v29 - v35)))))), none, none, none, none, none, none, none, none, none, none, none, none, none, none, none, none]) rfl rfl ?_
  refine g_lload O (pc' := 264) at_262 (v := ((v33 - t0) - (m1 ((v31 - v37) - (m1 (v29 - v35)))))) rfl rfl ?_
  refine g_lconst O (pc' := 265) at_264 (v := 0) (by decide) rfl ?_
  refine g_lcmp_ge O (pc' := 269) at_265 rfl at_266 rfl (by decide) (pc1 := 271) (by decide) (fun h266 => ?_) (fun h266 => ?_)
  · rw [if_neg h266] at hf
    refine g_lload O (pc' := 273) at_271 (v := (v29 - v35)) rfl rfl ?_
    refine g_static1 O (pc' := 276) at_273 tw5 tw6 tw3 tw7 (by decide) pd2 (as := [(.long (v29 - v35))]) rfl (st := []) rfl rfl (W := 0) rfl (rm := rm2) (by decide) (by decide) (c2 := 0) (s2 := 0) rfl rfl (by decide) (by decide) (con2 (Ok.w O) (v29 - v35) H) rfl ?_
    refine g_lstore O (pc' := 278) at_276 (Ls' := [none, none, none, none, none, none, none, none, none, none, none, none, some (.int v12), some (.int v13), some (.int v14), some (.int v15), none, none, none, none, none, none, none, none, none, none, none, none, none, some (.long v29), none, some (.long v31), none, some (.long v33), none, some (.long v35), none, some (.long v37), none, some (.long t0), none, some (.long (v29 - v35)), none, some (.long (m1 (v29 - v35))), none, some (.long ((v31 - v37) - (m1 (v29 - v35)))), none, some (.long (m1 ((v31 - v37) - (m1 (v29 - v35))))), none, some (.long ((v33 - t0) - (m1 ((v31 - v37) - (m1 (v29 - v35)))))), none, some (.long (m2 (v29 - v35))), none, none, none, none, none, none, none, none, none, none, none, none, none, none]) rfl rfl ?_
    refine g_lload O (pc' := 280) at_278 (v := ((v31 - v37) - (m1 (v29 - v35)))) rfl rfl ?_
    refine g_static1 O (pc' := 283) at_280 tw5 tw6 tw3 tw7 (by decide) pd2 (as := [(.long ((v31 - v37) - (m1 (v29 - v35))))]) rfl (st := []) rfl rfl (W := 0) rfl (rm := rm2) (by decide) (by decide) (c2 := 0) (s2 := 0) rfl rfl (by decide) (by decide) (con2 (Ok.w O) ((v31 - v37) - (m1 (v29 - v35))) H) rfl ?_
    refine g_lstore O (pc' := 285) at_283 (Ls' := [none, none, none, none, none, none, none, none, none, none, none, none, some (.int v12), some (.int v13), some (.int v14), some (.int v15), none, none, none, none, none, none, none, none, none, none, none, none, none, some (.long v29), none, some (.long v31), none, some (.long v33), none, some (.long v35), none, some (.long v37), none, some (.long t0), none, some (.long (v29 - v35)), none, some (.long (m1 (v29 - v35))), none, some (.long ((v31 - v37) - (m1 (v29 - v35)))), none, some (.long (m1 ((v31 - v37) - (m1 (v29 - v35))))), none, some (.long ((v33 - t0) - (m1 ((v31 - v37) - (m1 (v29 - v35)))))), none, some (.long (m2 (v29 - v35))), none, some (.long (m2 ((v31 - v37) - (m1 (v29 - v35))))), none, none, none, none, none, none, none, none, none, none, none, none]) rfl rfl ?_
    refine g_lload O (pc' := 287) at_285 (v := ((v33 - t0) - (m1 ((v31 - v37) - (m1 (v29 - v35)))))) rfl rfl ?_
    refine g_lstore O (pc' := 289) at_287 (Ls' := [none, none, none, none, none, none, none, none, none, none, none, none, some (.int v12), some (.int v13), some (.int v14), some (.int v15), none, none, none, none, none, none, none, none, none, none, none, none, none, some (.long v29), none, some (.long v31), none, some (.long v33), none, some (.long v35), none, some (.long v37), none, some (.long t0), none, some (.long (v29 - v35)), none, some (.long (m1 (v29 - v35))), none, some (.long ((v31 - v37) - (m1 (v29 - v35)))), none, some (.long (m1 ((v31 - v37) - (m1 (v29 - v35))))), none, some (.long ((v33 - t0) - (m1 ((v31 - v37) - (m1 (v29 - v35)))))), none, some (.long (m2 (v29 - v35))), none, some (.long (m2 ((v31 - v37) - (m1 (v29 - v35))))), none, some (.long ((v33 - t0) - (m1 ((v31 - v37) - (m1 (v29 - v35)))))), none, none, none, none, none, none, none, none, none, none]) rfl rfl ?_
    refine g_forget (Ls' := [none, none, none, none, none, none, none, none, none, none, none, none, some (.int v12), some (.int v13), some (.int v14), some (.int v15), none, none, none, none, none, none, none, none, none, none, none, none, none, some (.long v29), none, some (.long v31), none, some (.long v33), none, some (.long v35), none, some (.long v37), none, some (.long t0), none, none, none, none, none, none, none, none, none, none, none, some (.long (m2 (v29 - v35))), none, some (.long (m2 ((v31 - v37) - (m1 (v29 - v35))))), none, some (.long ((v33 - t0) - (m1 ((v31 - v37) - (m1 (v29 - v35)))))), none, none, none, none, none, none, none, none, none, none]) (And.intro rfl (And.intro rfl (And.intro rfl (And.intro rfl (And.intro rfl (And.intro rfl (And.intro rfl (And.intro rfl (And.intro rfl (And.intro rfl (And.intro rfl (And.intro rfl (And.intro rfl trivial))))))))))))) ?_
    exact m0_t289 O v12 v13 v14 v15 v29 v31 v33 v35 v37 t0 (m2 (v29 - v35)) (m2 ((v31 - v37) - (m1 (v29 - v35)))) ((v33 - t0) - (m1 ((v31 - v37) - (m1 (v29 - v35))))) H _ _ hf
  · rw [if_pos h266] at hf
    cases hf
def m0_b205 (v12 : Int32) (v13 : Int32) (v14 : Int32) (v15 : Int32) (v20 : Int64) (v26 : Int64) (v28 : Int32) (v29 : Int64) (v31 : Int64) (v33 : Int64) (v35 : Int64) (t0 : Int64) (H : List Obj) : Option (Int32 × List Obj) :=
  if v28 = 0 then
    m0_b219 v12 v13 v14 v15 v29 v31 v33 v35 t0 v20 H
  else
    m0_b219 v12 v13 v14 v15 v29 v31 v33 v35 t0 v26 H
theorem m0_t205 {G : Gx} {K : Kx} (O : Ok0 G K) (v12 : Int32) (v13 : Int32) (v14 : Int32) (v15 : Int32) (v20 : Int64) (v26 : Int64) (v28 : Int32) (v29 : Int64) (v31 : Int64) (v33 : Int64) (v35 : Int64) (t0 : Int64) (H : List Obj) (r : Int32) (Hf : List Obj) (hf : m0_b205 v12 v13 v14 v15 v20 v26 v28 v29 v31 v33 v35 t0 H = some (r, Hf)) : Run G K (some (.int r)) Hf 205 [none, none, none, none, none, none, none, none, none, none, none, none, some (.int v12), some (.int v13), some (.int v14), some (.int v15), none, none, none, none, some (.long v20), none, none, none, none, none, some (.long v26), none, some (.int v28), some (.long v29), none, some (.long v31), none, some (.long v33), none, some (.long v35), none, none, none, none, none, none, none, none, none, none, none, none, none, none, none, none, none, none, none, none, none, none, none, none, none, none, none, none, none, none] [(.long t0)] H 0 0 := by
  unfold m0_b205 at hf
  refine g_lstore O (pc' := 207) at_205 (Ls' := [none, none, none, none, none, none, none, none, none, none, none, none, some (.int v12), some (.int v13), some (.int v14), some (.int v15), none, none, none, none, some (.long v20), none, none, none, none, none, some (.long v26), none, some (.int v28), some (.long v29), none, some (.long v31), none, some (.long v33), none, some (.long v35), none, some (.long t0), none, none, none, none, none, none, none, none, none, none, none, none, none, none, none, none, none, none, none, none, none, none, none, none, none, none, none, none]) rfl rfl ?_
  refine g_iload O (pc' := 209) at_207 (v := v28) rfl rfl ?_
  refine g_if_eq O (pc' := 212) at_209 rfl (by decide) (pc1 := 217) (by decide) (fun h209 => ?_) (fun h209 => ?_)
  · rw [if_pos h209] at hf
    refine g_lload O (pc' := 219) at_217 (v := v20) rfl rfl ?_
    refine g_forget (Ls' := [none, none, none, none, none, none, none, none, none, none, none, none, some (.int v12), some (.int v13), some (.int v14), some (.int v15), none, none, none, none, none, none, none, none, none, none, none, none, none, some (.long v29), none, some (.long v31), none, some (.long v33), none, some (.long v35), none, some (.long t0), none, none, none, none, none, none, none, none, none, none, none, none, none, none, none, none, none, none, none, none, none, none, none, none, none, none, none, none]) (And.intro rfl (And.intro rfl (And.intro rfl (And.intro rfl (And.intro rfl (And.intro rfl (And.intro rfl (And.intro rfl (And.intro rfl trivial))))))))) ?_
    exact m0_t219 O v12 v13 v14 v15 v29 v31 v33 v35 t0 v20 H _ _ hf
  · rw [if_neg h209] at hf
    refine g_lload O (pc' := 214) at_212 (v := v26) rfl rfl ?_
    refine g_goto O at_214 (by decide) (pc' := 219) (by decide) ?_
    refine g_forget (Ls' := [none, none, none, none, none, none, none, none, none, none, none, none, some (.int v12), some (.int v13), some (.int v14), some (.int v15), none, none, none, none, none, none, none, none, none, none, none, none, none, some (.long v29), none, some (.long v31), none, some (.long v33), none, some (.long v35), none, some (.long t0), none, none, none, none, none, none, none, none, none, none, none, none, none, none, none, none, none, none, none, none, none, none, none, none, none, none, none, none]) (And.intro rfl (And.intro rfl (And.intro rfl (And.intro rfl (And.intro rfl (And.intro rfl (And.intro rfl (And.intro rfl (And.intro rfl trivial))))))))) ?_
    exact m0_t219 O v12 v13 v14 v15 v29 v31 v33 v35 t0 v26 H _ _ hf
def m0_b191 (v12 : Int32) (v13 : Int32) (v14 : Int32) (v15 : Int32) (v18 : Int64) (v20 : Int64) (v24 : Int64) (v26 : Int64) (v28 : Int32) (v29 : Int64) (v31 : Int64) (v33 : Int64) (t0 : Int64) (H : List Obj) : Option (Int32 × List Obj) :=
  if v28 = 0 then
    m0_b205 v12 v13 v14 v15 v20 v26 v28 v29 v31 v33 t0 v18 H
  else
    m0_b205 v12 v13 v14 v15 v20 v26 v28 v29 v31 v33 t0 v24 H
theorem m0_t191 {G : Gx} {K : Kx} (O : Ok0 G K) (v12 : Int32) (v13 : Int32) (v14 : Int32) (v15 : Int32) (v18 : Int64) (v20 : Int64) (v24 : Int64) (v26 : Int64) (v28 : Int32) (v29 : Int64) (v31 : Int64) (v33 : Int64) (t0 : Int64) (H : List Obj) (r : Int32) (Hf : List Obj) (hf : m0_b191 v12 v13 v14 v15 v18 v20 v24 v26 v28 v29 v31 v33 t0 H = some (r, Hf)) : Run G K (some (.int r)) Hf 191 [none, none, none, none, none, none, none, none, none, none, none, none, some (.int v12), some (.int v13), some (.int v14), some (.int v15), none, none, some (.long v18), none, some (.long v20), none, none, none, some (.long v24), none, some (.long v26), none, some (.int v28), some (.long v29), none, some (.long v31), none, some (.long v33), none, none, none, none, none, none, none, none, none, none, none, none, none, none, none, none, none, none, none, none, none, none, none, none, none, none, none, none, none, none, none, none] [(.long t0)] H 0 0 := by
  unfold m0_b191 at hf
  refine g_lstore O (pc' := 193) at_191 (Ls' := [none, none, none, none, none, none, none, none, none, none, none, none, some (.int v12), some (.int v13), some (.int v14), some (.int v15), none, none, some (.long v18), none, some (.long v20), none, none, none, some (.long v24), none, some (.long v26), none, some (.int v28), some (.long v29), none, some (.long v31), none, some (.long v33), none, some (.long t0), none, none, none, none, none, none, none, none, none, none, none, none, none, none, none, none, none, none, none, none, none, none, none, none, none, none, none, none, none, none]) rfl rfl ?_
  refine g_iload O (pc' := 195) at_193 (v := v28) rfl rfl ?_
  refine g_if_eq O (pc' := 198) at_195 rfl (by decide) (pc1 := 203) (by decide) (fun h195 => ?_) (fun h195 => ?_)
  · rw [if_pos h195] at hf
    refine g_lload O (pc' := 205) at_203 (v := v18) rfl rfl ?_
    refine g_forget (Ls' := [none, none, none, none, none, none, none, none, none, none, none, none, some (.int v12), some (.int v13), some (.int v14), some (.int v15), none, none, none, none, some (.long v20), none, none, none, none, none, some (.long v26), none, some (.int v28), some (.long v29), none, some (.long v31), none, some (.long v33), none, some (.long t0), none, none, none, none, none, none, none, none, none, none, none, none, none, none, none, none, none, none, none, none, none, none, none, none, none, none, none, none, none, none]) (And.intro rfl (And.intro rfl (And.intro rfl (And.intro rfl (And.intro rfl (And.intro rfl (And.intro rfl (And.intro rfl (And.intro rfl (And.intro rfl (And.intro rfl trivial))))))))))) ?_
    exact m0_t205 O v12 v13 v14 v15 v20 v26 v28 v29 v31 v33 t0 v18 H _ _ hf
  · rw [if_neg h195] at hf
    refine g_lload O (pc' := 200) at_198 (v := v24) rfl rfl ?_
    refine g_goto O at_200 (by decide) (pc' := 205) (by decide) ?_
    refine g_forget (Ls' := [none, none, none, none, none, none, none, none, none, none, none, none, some (.int v12), some (.int v13), some (.int v14), some (.int v15), none, none, none, none, some (.long v20), none, none, none, none, none, some (.long v26), none, some (.int v28), some (.long v29), none, some (.long v31), none, some (.long v33), none, some (.long t0), none, none, none, none, none, none, none, none, none, none, none, none, none, none, none, none, none, none, none, none, none, none, none, none, none, none, none, none, none, none]) (And.intro rfl (And.intro rfl (And.intro rfl (And.intro rfl (And.intro rfl (And.intro rfl (And.intro rfl (And.intro rfl (And.intro rfl (And.intro rfl (And.intro rfl trivial))))))))))) ?_
    exact m0_t205 O v12 v13 v14 v15 v20 v26 v28 v29 v31 v33 t0 v24 H _ _ hf
def m0_b177 (v12 : Int32) (v13 : Int32) (v14 : Int32) (v15 : Int32) (v16 : Int64) (v18 : Int64) (v20 : Int64) (v22 : Int64) (v24 : Int64) (v26 : Int64) (v28 : Int32) (v29 : Int64) (v31 : Int64) (t0 : Int64) (H : List Obj) : Option (Int32 × List Obj) :=
  if v28 = 0 then
    m0_b191 v12 v13 v14 v15 v18 v20 v24 v26 v28 v29 v31 t0 v16 H
  else
    m0_b191 v12 v13 v14 v15 v18 v20 v24 v26 v28 v29 v31 t0 v22 H
theorem m0_t177 {G : Gx} {K : Kx} (O : Ok0 G K) (v12 : Int32) (v13 : Int32) (v14 : Int32) (v15 : Int32) (v16 : Int64) (v18 : Int64) (v20 : Int64) (v22 : Int64) (v24 : Int64) (v26 : Int64) (v28 : Int32) (v29 : Int64) (v31 : Int64) (t0 : Int64) (H : List Obj) (r : Int32) (Hf : List Obj) (hf : m0_b177 v12 v13 v14 v15 v16 v18 v20 v22 v24 v26 v28 v29 v31 t0 H = some (r, Hf)) : Run G K (some (.int r)) Hf 177 [none, none, none, none, none, none, none, none, none, none, none, none, some (.int v12), some (.int v13), some (.int v14), some (.int v15), some (.long v16), none, some (.long v18), none, some (.long v20), none, some (.long v22), none, some (.long v24), none, some (.long v26), none, some (.int v28), some (.long v29), none, some (.long v31), none, none, none, none, none, none, none, none, none, none, none, none, none, none, none, none, none, none, none, none, none, none, none, none, none, none, none, none, none, none, none, none, none, none] [(.long t0)] H 0 0 := by
  unfold m0_b177 at hf
  refine g_lstore O (pc' := 179) at_177 (Ls' := [none, none, none, none, none, none, none, none, none, none, none, none, some (.int v12), some (.int v13), some (.int v14), some (.int v15), some (.long v16), none, some (.long v18), none, some (.long v20), none, some (.long v22), none, some (.long v24), none, some (.long v26), none, some (.int v28), some (.long v29), none, some (.long v31), none, some (.long t0), none, none, none, none, none, none, none, none, none, none, none, none, none, none, none, none, none, none, none, none, none, none, none, none, none, none, none, none, none, none, none, none]) rfl rfl ?_
  refine g_iload O (pc' := 181) at_179 (v := v28) rfl rfl ?_
  refine g_if_eq O (pc' := 184) at_181 rfl (by decide) (pc1 := 189) (by decide) (fun h181 => ?_) (fun h181 => ?_)
  · rw [if_pos h181] at hf
    refine g_lload O (pc' := 191) at_189 (v := v16) rfl rfl ?_
    refine g_forget (Ls' := [none, none, none, none, none, none, none, none, none, none, none, none, some (.int v12), some (.int v13), some (.int v14), some (.int v15), none, none, some (.long v18), none, some (.long v20), none, none, none, some (.long v24), none, some (.long v26), none, some (.int v28), some (.long v29), none, some (.long v31), none, some (.long t0), none, none, none, none, none, none, none, none, none, none, none, none, none, none, none, none, none, none, none, none, none, none, none, none, none, none, none, none, none, none, none, none]) (And.intro rfl (And.intro rfl (And.intro rfl (And.intro rfl (And.intro rfl (And.intro rfl (And.intro rfl (And.intro rfl (And.intro rfl (And.intro rfl (And.intro rfl (And.intro rfl trivial)))))))))))) ?_
    exact m0_t191 O v12 v13 v14 v15 v18 v20 v24 v26 v28 v29 v31 t0 v16 H _ _ hf
  · rw [if_neg h181] at hf
    refine g_lload O (pc' := 186) at_184 (v := v22) rfl rfl ?_
    refine g_goto O at_186 (by decide) (pc' := 191) (by decide) ?_
    refine g_forget (Ls' := [none, none, none, none, none, none, none, none, none, none, none, none, some (.int v12), some (.int v13), some (.int v14), some (.int v15), none, none, some (.long v18), none, some (.long v20), none, none, none, some (.long v24), none, some (.long v26), none, some (.int v28), some (.long v29), none, some (.long v31), none, some (.long t0), none, none, none, none, none, none, none, none, none, none, none, none, none, none, none, none, none, none, none, none, none, none, none, none, none, none, none, none, none, none, none, none]) (And.intro rfl (And.intro rfl (And.intro rfl (And.intro rfl (And.intro rfl (And.intro rfl (And.intro rfl (And.intro rfl (And.intro rfl (And.intro rfl (And.intro rfl (And.intro rfl trivial)))))))))))) ?_
    exact m0_t191 O v12 v13 v14 v15 v18 v20 v24 v26 v28 v29 v31 t0 v22 H _ _ hf
def m0_b163 (v12 : Int32) (v13 : Int32) (v14 : Int32) (v15 : Int32) (v16 : Int64) (v18 : Int64) (v20 : Int64) (v22 : Int64) (v24 : Int64) (v26 : Int64) (v28 : Int32) (v29 : Int64) (t0 : Int64) (H : List Obj) : Option (Int32 × List Obj) :=
  if v28 = 0 then
    m0_b177 v12 v13 v14 v15 v16 v18 v20 v22 v24 v26 v28 v29 t0 v26 H
  else
    m0_b177 v12 v13 v14 v15 v16 v18 v20 v22 v24 v26 v28 v29 t0 v20 H
theorem m0_t163 {G : Gx} {K : Kx} (O : Ok0 G K) (v12 : Int32) (v13 : Int32) (v14 : Int32) (v15 : Int32) (v16 : Int64) (v18 : Int64) (v20 : Int64) (v22 : Int64) (v24 : Int64) (v26 : Int64) (v28 : Int32) (v29 : Int64) (t0 : Int64) (H : List Obj) (r : Int32) (Hf : List Obj) (hf : m0_b163 v12 v13 v14 v15 v16 v18 v20 v22 v24 v26 v28 v29 t0 H = some (r, Hf)) : Run G K (some (.int r)) Hf 163 [none, none, none, none, none, none, none, none, none, none, none, none, some (.int v12), some (.int v13), some (.int v14), some (.int v15), some (.long v16), none, some (.long v18), none, some (.long v20), none, some (.long v22), none, some (.long v24), none, some (.long v26), none, some (.int v28), some (.long v29), none, none, none, none, none, none, none, none, none, none, none, none, none, none, none, none, none, none, none, none, none, none, none, none, none, none, none, none, none, none, none, none, none, none, none, none] [(.long t0)] H 0 0 := by
  unfold m0_b163 at hf
  refine g_lstore O (pc' := 165) at_163 (Ls' := [none, none, none, none, none, none, none, none, none, none, none, none, some (.int v12), some (.int v13), some (.int v14), some (.int v15), some (.long v16), none, some (.long v18), none, some (.long v20), none, some (.long v22), none, some (.long v24), none, some (.long v26), none, some (.int v28), some (.long v29), none, some (.long t0), none, none, none, none, none, none, none, none, none, none, none, none, none, none, none, none, none, none, none, none, none, none, none, none, none, none, none, none, none, none, none, none, none, none]) rfl rfl ?_
  refine g_iload O (pc' := 167) at_165 (v := v28) rfl rfl ?_
  refine g_if_eq O (pc' := 170) at_167 rfl (by decide) (pc1 := 175) (by decide) (fun h167 => ?_) (fun h167 => ?_)
  · rw [if_pos h167] at hf
    refine g_lload O (pc' := 177) at_175 (v := v26) rfl rfl ?_
    exact m0_t177 O v12 v13 v14 v15 v16 v18 v20 v22 v24 v26 v28 v29 t0 v26 H _ _ hf
  · rw [if_neg h167] at hf
    refine g_lload O (pc' := 172) at_170 (v := v20) rfl rfl ?_
    refine g_goto O at_172 (by decide) (pc' := 177) (by decide) ?_
    exact m0_t177 O v12 v13 v14 v15 v16 v18 v20 v22 v24 v26 v28 v29 t0 v20 H _ _ hf
def m0_b149 (v12 : Int32) (v13 : Int32) (v14 : Int32) (v15 : Int32) (v16 : Int64) (v18 : Int64) (v20 : Int64) (v22 : Int64) (v24 : Int64) (v26 : Int64) (v28 : Int32) (t0 : Int64) (H : List Obj) : Option (Int32 × List Obj) :=
  if v28 = 0 then
    m0_b163 v12 v13 v14 v15 v16 v18 v20 v22 v24 v26 v28 t0 v24 H
  else
    m0_b163 v12 v13 v14 v15 v16 v18 v20 v22 v24 v26 v28 t0 v18 H
theorem m0_t149 {G : Gx} {K : Kx} (O : Ok0 G K) (v12 : Int32) (v13 : Int32) (v14 : Int32) (v15 : Int32) (v16 : Int64) (v18 : Int64) (v20 : Int64) (v22 : Int64) (v24 : Int64) (v26 : Int64) (v28 : Int32) (t0 : Int64) (H : List Obj) (r : Int32) (Hf : List Obj) (hf : m0_b149 v12 v13 v14 v15 v16 v18 v20 v22 v24 v26 v28 t0 H = some (r, Hf)) : Run G K (some (.int r)) Hf 149 [none, none, none, none, none, none, none, none, none, none, none, none, some (.int v12), some (.int v13), some (.int v14), some (.int v15), some (.long v16), none, some (.long v18), none, some (.long v20), none, some (.long v22), none, some (.long v24), none, some (.long v26), none, some (.int v28), none, none, none, none, none, none, none, none, none, none, none, none, none, none, none, none, none, none, none, none, none, none, none, none, none, none, none, none, none, none, none, none, none, none, none, none, none] [(.long t0)] H 0 0 := by
  unfold m0_b149 at hf
  refine g_lstore O (pc' := 151) at_149 (Ls' := [none, none, none, none, none, none, none, none, none, none, none, none, some (.int v12), some (.int v13), some (.int v14), some (.int v15), some (.long v16), none, some (.long v18), none, some (.long v20), none, some (.long v22), none, some (.long v24), none, some (.long v26), none, some (.int v28), some (.long t0), none, none, none, none, none, none, none, none, none, none, none, none, none, none, none, none, none, none, none, none, none, none, none, none, none, none, none, none, none, none, none, none, none, none, none, none]) rfl rfl ?_
  refine g_iload O (pc' := 153) at_151 (v := v28) rfl rfl ?_
  refine g_if_eq O (pc' := 156) at_153 rfl (by decide) (pc1 := 161) (by decide) (fun h153 => ?_) (fun h153 => ?_)
  · rw [if_pos h153] at hf
    refine g_lload O (pc' := 163) at_161 (v := v24) rfl rfl ?_
    exact m0_t163 O v12 v13 v14 v15 v16 v18 v20 v22 v24 v26 v28 t0 v24 H _ _ hf
  · rw [if_neg h153] at hf
    refine g_lload O (pc' := 158) at_156 (v := v18) rfl rfl ?_
    refine g_goto O at_158 (by decide) (pc' := 163) (by decide) ?_
    exact m0_t163 O v12 v13 v14 v15 v16 v18 v20 v22 v24 v26 v28 t0 v18 H _ _ hf
def m0_b135 (v12 : Int32) (v13 : Int32) (v14 : Int32) (v15 : Int32) (v16 : Int64) (v18 : Int64) (v20 : Int64) (v22 : Int64) (v24 : Int64) (v26 : Int64) (t0 : Int32) (H : List Obj) : Option (Int32 × List Obj) :=
  if t0 = 0 then
    m0_b149 v12 v13 v14 v15 v16 v18 v20 v22 v24 v26 t0 v22 H
  else
    m0_b149 v12 v13 v14 v15 v16 v18 v20 v22 v24 v26 t0 v16 H
theorem m0_t135 {G : Gx} {K : Kx} (O : Ok0 G K) (v12 : Int32) (v13 : Int32) (v14 : Int32) (v15 : Int32) (v16 : Int64) (v18 : Int64) (v20 : Int64) (v22 : Int64) (v24 : Int64) (v26 : Int64) (t0 : Int32) (H : List Obj) (r : Int32) (Hf : List Obj) (hf : m0_b135 v12 v13 v14 v15 v16 v18 v20 v22 v24 v26 t0 H = some (r, Hf)) : Run G K (some (.int r)) Hf 135 [none, none, none, none, none, none, none, none, none, none, none, none, some (.int v12), some (.int v13), some (.int v14), some (.int v15), some (.long v16), none, some (.long v18), none, some (.long v20), none, some (.long v22), none, some (.long v24), none, some (.long v26), none, none, none, none, none, none, none, none, none, none, none, none, none, none, none, none, none, none, none, none, none, none, none, none, none, none, none, none, none, none, none, none, none, none, none, none, none, none, none] [(.int t0)] H 0 0 := by
  unfold m0_b135 at hf
  refine g_istore O (pc' := 137) at_135 (Ls' := [none, none, none, none, none, none, none, none, none, none, none, none, some (.int v12), some (.int v13), some (.int v14), some (.int v15), some (.long v16), none, some (.long v18), none, some (.long v20), none, some (.long v22), none, some (.long v24), none, some (.long v26), none, some (.int t0), none, none, none, none, none, none, none, none, none, none, none, none, none, none, none, none, none, none, none, none, none, none, none, none, none, none, none, none, none, none, none, none, none, none, none, none, none]) rfl rfl ?_
  refine g_iload O (pc' := 139) at_137 (v := t0) rfl rfl ?_
  refine g_if_eq O (pc' := 142) at_139 rfl (by decide) (pc1 := 147) (by decide) (fun h139 => ?_) (fun h139 => ?_)
  · rw [if_pos h139] at hf
    refine g_lload O (pc' := 149) at_147 (v := v22) rfl rfl ?_
    exact m0_t149 O v12 v13 v14 v15 v16 v18 v20 v22 v24 v26 t0 v22 H _ _ hf
  · rw [if_neg h139] at hf
    refine g_lload O (pc' := 144) at_142 (v := v16) rfl rfl ?_
    refine g_goto O at_144 (by decide) (pc' := 149) (by decide) ?_
    exact m0_t149 O v12 v13 v14 v15 v16 v18 v20 v22 v24 v26 t0 v16 H _ _ hf
def m0_b130 (v12 : Int32) (v13 : Int32) (v14 : Int32) (v15 : Int32) (v16 : Int64) (v18 : Int64) (v20 : Int64) (v22 : Int64) (v24 : Int64) (v26 : Int64) (H : List Obj) : Option (Int32 × List Obj) :=
  m0_b135 v12 v13 v14 v15 v16 v18 v20 v22 v24 v26 (1 : Int32) H
theorem m0_t130 {G : Gx} {K : Kx} (O : Ok0 G K) (v12 : Int32) (v13 : Int32) (v14 : Int32) (v15 : Int32) (v16 : Int64) (v18 : Int64) (v20 : Int64) (v22 : Int64) (v24 : Int64) (v26 : Int64) (H : List Obj) (r : Int32) (Hf : List Obj) (hf : m0_b130 v12 v13 v14 v15 v16 v18 v20 v22 v24 v26 H = some (r, Hf)) : Run G K (some (.int r)) Hf 130 [none, none, none, none, none, none, none, none, none, none, none, none, some (.int v12), some (.int v13), some (.int v14), some (.int v15), some (.long v16), none, some (.long v18), none, some (.long v20), none, some (.long v22), none, some (.long v24), none, some (.long v26), none, none, none, none, none, none, none, none, none, none, none, none, none, none, none, none, none, none, none, none, none, none, none, none, none, none, none, none, none, none, none, none, none, none, none, none, none, none, none] [] H 0 0 := by
  unfold m0_b130 at hf
  refine g_iconst O (pc' := 131) at_130 (v := 1) (by decide) rfl ?_
  refine g_goto O at_131 (by decide) (pc' := 135) (by decide) ?_
  exact m0_t135 O v12 v13 v14 v15 v16 v18 v20 v22 v24 v26 (1 : Int32) H _ _ hf
def m0_b134 (v12 : Int32) (v13 : Int32) (v14 : Int32) (v15 : Int32) (v16 : Int64) (v18 : Int64) (v20 : Int64) (v22 : Int64) (v24 : Int64) (v26 : Int64) (H : List Obj) : Option (Int32 × List Obj) :=
  m0_b135 v12 v13 v14 v15 v16 v18 v20 v22 v24 v26 (0 : Int32) H
theorem m0_t134 {G : Gx} {K : Kx} (O : Ok0 G K) (v12 : Int32) (v13 : Int32) (v14 : Int32) (v15 : Int32) (v16 : Int64) (v18 : Int64) (v20 : Int64) (v22 : Int64) (v24 : Int64) (v26 : Int64) (H : List Obj) (r : Int32) (Hf : List Obj) (hf : m0_b134 v12 v13 v14 v15 v16 v18 v20 v22 v24 v26 H = some (r, Hf)) : Run G K (some (.int r)) Hf 134 [none, none, none, none, none, none, none, none, none, none, none, none, some (.int v12), some (.int v13), some (.int v14), some (.int v15), some (.long v16), none, some (.long v18), none, some (.long v20), none, some (.long v22), none, some (.long v24), none, some (.long v26), none, none, none, none, none, none, none, none, none, none, none, none, none, none, none, none, none, none, none, none, none, none, none, none, none, none, none, none, none, none, none, none, none, none, none, none, none, none, none] [] H 0 0 := by
  unfold m0_b134 at hf
  refine g_iconst O (pc' := 135) at_134 (v := 0) (by decide) rfl ?_
  exact m0_t135 O v12 v13 v14 v15 v16 v18 v20 v22 v24 v26 (0 : Int32) H _ _ hf
def m0_b42 (v0 : Int64) (v2 : Int64) (v4 : Int64) (v6 : Int64) (v8 : Int64) (v10 : Int64) (v12 : Int32) (v13 : Int32) (v14 : Int32) (t0 : Int32) (H : List Obj) : Option (Int32 × List Obj) :=
  if (v10 &&& (9223372036854775807 : Int64)) < (v4 &&& (9223372036854775807 : Int64)) then
    m0_b130 v12 v13 v14 t0 (v0 &&& (9223372036854775807 : Int64)) (v2 &&& (9223372036854775807 : Int64)) (v4 &&& (9223372036854775807 : Int64)) (v6 &&& (9223372036854775807 : Int64)) (v8 &&& (9223372036854775807 : Int64)) (v10 &&& (9223372036854775807 : Int64)) H
  else
    if (v4 &&& (9223372036854775807 : Int64)) = (v10 &&& (9223372036854775807 : Int64)) then
      if (v8 &&& (9223372036854775807 : Int64)) < (v2 &&& (9223372036854775807 : Int64)) then
        m0_b130 v12 v13 v14 t0 (v0 &&& (9223372036854775807 : Int64)) (v2 &&& (9223372036854775807 : Int64)) (v4 &&& (9223372036854775807 : Int64)) (v6 &&& (9223372036854775807 : Int64)) (v8 &&& (9223372036854775807 : Int64)) (v10 &&& (9223372036854775807 : Int64)) H
      else
        if (v2 &&& (9223372036854775807 : Int64)) = (v8 &&& (9223372036854775807 : Int64)) then
          if (v0 &&& (9223372036854775807 : Int64)) < (v6 &&& (9223372036854775807 : Int64)) then
            m0_b134 v12 v13 v14 t0 (v0 &&& (9223372036854775807 : Int64)) (v2 &&& (9223372036854775807 : Int64)) (v4 &&& (9223372036854775807 : Int64)) (v6 &&& (9223372036854775807 : Int64)) (v8 &&& (9223372036854775807 : Int64)) (v10 &&& (9223372036854775807 : Int64)) H
          else
            m0_b130 v12 v13 v14 t0 (v0 &&& (9223372036854775807 : Int64)) (v2 &&& (9223372036854775807 : Int64)) (v4 &&& (9223372036854775807 : Int64)) (v6 &&& (9223372036854775807 : Int64)) (v8 &&& (9223372036854775807 : Int64)) (v10 &&& (9223372036854775807 : Int64)) H
        else
          m0_b134 v12 v13 v14 t0 (v0 &&& (9223372036854775807 : Int64)) (v2 &&& (9223372036854775807 : Int64)) (v4 &&& (9223372036854775807 : Int64)) (v6 &&& (9223372036854775807 : Int64)) (v8 &&& (9223372036854775807 : Int64)) (v10 &&& (9223372036854775807 : Int64)) H
    else
      m0_b134 v12 v13 v14 t0 (v0 &&& (9223372036854775807 : Int64)) (v2 &&& (9223372036854775807 : Int64)) (v4 &&& (9223372036854775807 : Int64)) (v6 &&& (9223372036854775807 : Int64)) (v8 &&& (9223372036854775807 : Int64)) (v10 &&& (9223372036854775807 : Int64)) H
theorem m0_t42 {G : Gx} {K : Kx} (O : Ok0 G K) (v0 : Int64) (v2 : Int64) (v4 : Int64) (v6 : Int64) (v8 : Int64) (v10 : Int64) (v12 : Int32) (v13 : Int32) (v14 : Int32) (t0 : Int32) (H : List Obj) (r : Int32) (Hf : List Obj) (hf : m0_b42 v0 v2 v4 v6 v8 v10 v12 v13 v14 t0 H = some (r, Hf)) : Run G K (some (.int r)) Hf 42 [some (.long v0), none, some (.long v2), none, some (.long v4), none, some (.long v6), none, some (.long v8), none, some (.long v10), none, some (.int v12), some (.int v13), some (.int v14), none, none, none, none, none, none, none, none, none, none, none, none, none, none, none, none, none, none, none, none, none, none, none, none, none, none, none, none, none, none, none, none, none, none, none, none, none, none, none, none, none, none, none, none, none, none, none, none, none, none, none] [(.int t0)] H 0 0 := by
  unfold m0_b42 at hf
  refine g_istore O (pc' := 44) at_42 (Ls' := [some (.long v0), none, some (.long v2), none, some (.long v4), none, some (.long v6), none, some (.long v8), none, some (.long v10), none, some (.int v12), some (.int v13), some (.int v14), some (.int t0), none, none, none, none, none, none, none, none, none, none, none, none, none, none, none, none, none, none, none, none, none, none, none, none, none, none, none, none, none, none, none, none, none, none, none, none, none, none, none, none, none, none, none, none, none, none, none, none, none, none]) rfl rfl ?_
  refine g_lload_n O (pc' := 45) at_44 (v := v0) rfl rfl ?_
  refine g_ldc2 O (pc' := 48) at_45 tw0 rfl ?_
  refine g_land O (pc' := 49) at_48 rfl ?_
  refine g_lstore O (pc' := 51) at_49 (Ls' := [some (.long v0), none, some (.long v2), none, some (.long v4), none, some (.long v6), none, some (.long v8), none, some (.long v10), none, some (.int v12), some (.int v13), some (.int v14), some (.int t0), some (.long (v0 &&& (9223372036854775807 : Int64))), none, none, none, none, none, none, none, none, none, none, none, none, none, none, none, none, none, none, none, none, none, none, none, none, none, none, none, none, none, none, none, none, none, none, none, none, none, none, none, none, none, none, none, none, none, none, none, none, none]) rfl rfl ?_
  refine g_lload_n O (pc' := 52) at_51 (v := v2) rfl rfl ?_
  refine g_ldc2 O (pc' := 55) at_52 tw0 rfl ?_
  refine g_land O (pc' := 56) at_55 rfl ?_
  refine g_lstore O (pc' := 58) at_56 (Ls' := [some (.long v0), none, some (.long v2), none, some (.long v4), none, some (.long v6), none, some (.long v8), none, some (.long v10), none, some (.int v12), some (.int v13), some (.int v14), some (.int t0), some (.long (v0 &&& (9223372036854775807 : Int64))), none, some (.long (v2 &&& (9223372036854775807 : Int64))), none, none, none, none, none, none, none, none, none, none, none, none, none, none, none, none, none, none, none, none, none, none, none, none, none, none, none, none, none, none, none, none, none, none, none, none, none, none, none, none, none, none, none, none, none, none, none]) rfl rfl ?_
  refine g_lload O (pc' := 60) at_58 (v := v4) rfl rfl ?_
  refine g_ldc2 O (pc' := 63) at_60 tw0 rfl ?_
  refine g_land O (pc' := 64) at_63 rfl ?_
  refine g_lstore O (pc' := 66) at_64 (Ls' := [some (.long v0), none, some (.long v2), none, some (.long v4), none, some (.long v6), none, some (.long v8), none, some (.long v10), none, some (.int v12), some (.int v13), some (.int v14), some (.int t0), some (.long (v0 &&& (9223372036854775807 : Int64))), none, some (.long (v2 &&& (9223372036854775807 : Int64))), none, some (.long (v4 &&& (9223372036854775807 : Int64))), none, none, none, none, none, none, none, none, none, none, none, none, none, none, none, none, none, none, none, none, none, none, none, none, none, none, none, none, none, none, none, none, none, none, none, none, none, none, none, none, none, none, none, none, none]) rfl rfl ?_
  refine g_lload O (pc' := 68) at_66 (v := v6) rfl rfl ?_
  refine g_ldc2 O (pc' := 71) at_68 tw0 rfl ?_
  refine g_land O (pc' := 72) at_71 rfl ?_
  refine g_lstore O (pc' := 74) at_72 (Ls' := [some (.long v0), none, some (.long v2), none, some (.long v4), none, some (.long v6), none, some (.long v8), none, some (.long v10), none, some (.int v12), some (.int v13), some (.int v14), some (.int t0), some (.long (v0 &&& (9223372036854775807 : Int64))), none, some (.long (v2 &&& (9223372036854775807 : Int64))), none, some (.long (v4 &&& (9223372036854775807 : Int64))), none, some (.long (v6 &&& (9223372036854775807 : Int64))), none, none, none, none, none, none, none, none, none, none, none, none, none, none, none, none, none, none, none, none, none, none, none, none, none, none, none, none, none, none, none, none, none, none, none, none, none, none, none, none, none, none, none]) rfl rfl ?_
  refine g_lload O (pc' := 76) at_74 (v := v8) rfl rfl ?_
  refine g_ldc2 O (pc' := 79) at_76 tw0 rfl ?_
  refine g_land O (pc' := 80) at_79 rfl ?_
  refine g_lstore O (pc' := 82) at_80 (Ls' := [some (.long v0), none, some (.long v2), none, some (.long v4), none, some (.long v6), none, some (.long v8), none, some (.long v10), none, some (.int v12), some (.int v13), some (.int v14), some (.int t0), some (.long (v0 &&& (9223372036854775807 : Int64))), none, some (.long (v2 &&& (9223372036854775807 : Int64))), none, some (.long (v4 &&& (9223372036854775807 : Int64))), none, some (.long (v6 &&& (9223372036854775807 : Int64))), none, some (.long (v8 &&& (9223372036854775807 : Int64))), none, none, none, none, none, none, none, none, none, none, none, none, none, none, none, none, none, none, none, none, none, none, none, none, none, none, none, none, none, none, none, none, none, none, none, none, none, none, none, none, none]) rfl rfl ?_
  refine g_lload O (pc' := 84) at_82 (v := v10) rfl rfl ?_
  refine g_ldc2 O (pc' := 87) at_84 tw0 rfl ?_
  refine g_land O (pc' := 88) at_87 rfl ?_
  refine g_lstore O (pc' := 90) at_88 (Ls' := [some (.long v0), none, some (.long v2), none, some (.long v4), none, some (.long v6), none, some (.long v8), none, some (.long v10), none, some (.int v12), some (.int v13), some (.int v14), some (.int t0), some (.long (v0 &&& (9223372036854775807 : Int64))), none, some (.long (v2 &&& (9223372036854775807 : Int64))), none, some (.long (v4 &&& (9223372036854775807 : Int64))), none, some (.long (v6 &&& (9223372036854775807 : Int64))), none, some (.long (v8 &&& (9223372036854775807 : Int64))), none, some (.long (v10 &&& (9223372036854775807 : Int64))), none, none, none, none, none, none, none, none, none, none, none, none, none, none, none, none, none, none, none, none, none, none, none, none, none, none, none, none, none, none, none, none, none, none, none, none, none, none, none]) rfl rfl ?_
  refine g_lload O (pc' := 92) at_90 (v := (v4 &&& (9223372036854775807 : Int64))) rfl rfl ?_
  refine g_lload O (pc' := 94) at_92 (v := (v10 &&& (9223372036854775807 : Int64))) rfl rfl ?_
  refine g_lcmp_gt O (pc' := 98) at_94 rfl at_95 rfl (by decide) (pc1 := 130) (by decide) (fun h95 => ?_) (fun h95 => ?_)
  · rw [if_pos h95] at hf
    refine g_forget (Ls' := [none, none, none, none, none, none, none, none, none, none, none, none, some (.int v12), some (.int v13), some (.int v14), some (.int t0), some (.long (v0 &&& (9223372036854775807 : Int64))), none, some (.long (v2 &&& (9223372036854775807 : Int64))), none, some (.long (v4 &&& (9223372036854775807 : Int64))), none, some (.long (v6 &&& (9223372036854775807 : Int64))), none, some (.long (v8 &&& (9223372036854775807 : Int64))), none, some (.long (v10 &&& (9223372036854775807 : Int64))), none, none, none, none, none, none, none, none, none, none, none, none, none, none, none, none, none, none, none, none, none, none, none, none, none, none, none, none, none, none, none, none, none, none, none, none, none, none, none]) (And.intro rfl (And.intro rfl (And.intro rfl (And.intro rfl (And.intro rfl (And.intro rfl (And.intro rfl (And.intro rfl (And.intro rfl (And.intro rfl trivial)))))))))) ?_
    exact m0_t130 O v12 v13 v14 t0 (v0 &&& (9223372036854775807 : Int64)) (v2 &&& (9223372036854775807 : Int64)) (v4 &&& (9223372036854775807 : Int64)) (v6 &&& (9223372036854775807 : Int64)) (v8 &&& (9223372036854775807 : Int64)) (v10 &&& (9223372036854775807 : Int64)) H _ _ hf
  · rw [if_neg h95] at hf
    refine g_lload O (pc' := 100) at_98 (v := (v4 &&& (9223372036854775807 : Int64))) rfl rfl ?_
    refine g_lload O (pc' := 102) at_100 (v := (v10 &&& (9223372036854775807 : Int64))) rfl rfl ?_
    refine g_lcmp_ne O (pc' := 106) at_102 rfl at_103 rfl (by decide) (pc1 := 134) (by decide) (fun h103 => ?_) (fun h103 => ?_)
    · rw [if_neg h103] at hf
      refine g_forget (Ls' := [none, none, none, none, none, none, none, none, none, none, none, none, some (.int v12), some (.int v13), some (.int v14), some (.int t0), some (.long (v0 &&& (9223372036854775807 : Int64))), none, some (.long (v2 &&& (9223372036854775807 : Int64))), none, some (.long (v4 &&& (9223372036854775807 : Int64))), none, some (.long (v6 &&& (9223372036854775807 : Int64))), none, some (.long (v8 &&& (9223372036854775807 : Int64))), none, some (.long (v10 &&& (9223372036854775807 : Int64))), none, none, none, none, none, none, none, none, none, none, none, none, none, none, none, none, none, none, none, none, none, none, none, none, none, none, none, none, none, none, none, none, none, none, none, none, none, none, none]) (And.intro rfl (And.intro rfl (And.intro rfl (And.intro rfl (And.intro rfl (And.intro rfl (And.intro rfl (And.intro rfl (And.intro rfl (And.intro rfl trivial)))))))))) ?_
      exact m0_t134 O v12 v13 v14 t0 (v0 &&& (9223372036854775807 : Int64)) (v2 &&& (9223372036854775807 : Int64)) (v4 &&& (9223372036854775807 : Int64)) (v6 &&& (9223372036854775807 : Int64)) (v8 &&& (9223372036854775807 : Int64)) (v10 &&& (9223372036854775807 : Int64)) H _ _ hf
    · rw [if_pos h103] at hf
      refine g_lload O (pc' := 108) at_106 (v := (v2 &&& (9223372036854775807 : Int64))) rfl rfl ?_
      refine g_lload O (pc' := 110) at_108 (v := (v8 &&& (9223372036854775807 : Int64))) rfl rfl ?_
      refine g_lcmp_gt O (pc' := 114) at_110 rfl at_111 rfl (by decide) (pc1 := 130) (by decide) (fun h111 => ?_) (fun h111 => ?_)
      · rw [if_pos h111] at hf
        refine g_forget (Ls' := [none, none, none, none, none, none, none, none, none, none, none, none, some (.int v12), some (.int v13), some (.int v14), some (.int t0), some (.long (v0 &&& (9223372036854775807 : Int64))), none, some (.long (v2 &&& (9223372036854775807 : Int64))), none, some (.long (v4 &&& (9223372036854775807 : Int64))), none, some (.long (v6 &&& (9223372036854775807 : Int64))), none, some (.long (v8 &&& (9223372036854775807 : Int64))), none, some (.long (v10 &&& (9223372036854775807 : Int64))), none, none, none, none, none, none, none, none, none, none, none, none, none, none, none, none, none, none, none, none, none, none, none, none, none, none, none, none, none, none, none, none, none, none, none, none, none, none, none]) (And.intro rfl (And.intro rfl (And.intro rfl (And.intro rfl (And.intro rfl (And.intro rfl (And.intro rfl (And.intro rfl (And.intro rfl (And.intro rfl trivial)))))))))) ?_
        exact m0_t130 O v12 v13 v14 t0 (v0 &&& (9223372036854775807 : Int64)) (v2 &&& (9223372036854775807 : Int64)) (v4 &&& (9223372036854775807 : Int64)) (v6 &&& (9223372036854775807 : Int64)) (v8 &&& (9223372036854775807 : Int64)) (v10 &&& (9223372036854775807 : Int64)) H _ _ hf
      · rw [if_neg h111] at hf
        refine g_lload O (pc' := 116) at_114 (v := (v2 &&& (9223372036854775807 : Int64))) rfl rfl ?_
        refine g_lload O (pc' := 118) at_116 (v := (v8 &&& (9223372036854775807 : Int64))) rfl rfl ?_
        refine g_lcmp_ne O (pc' := 122) at_118 rfl at_119 rfl (by decide) (pc1 := 134) (by decide) (fun h119 => ?_) (fun h119 => ?_)
        · rw [if_neg h119] at hf
          refine g_forget (Ls' := [none, none, none, none, none, none, none, none, none, none, none, none, some (.int v12), some (.int v13), some (.int v14), some (.int t0), some (.long (v0 &&& (9223372036854775807 : Int64))), none, some (.long (v2 &&& (9223372036854775807 : Int64))), none, some (.long (v4 &&& (9223372036854775807 : Int64))), none, some (.long (v6 &&& (9223372036854775807 : Int64))), none, some (.long (v8 &&& (9223372036854775807 : Int64))), none, some (.long (v10 &&& (9223372036854775807 : Int64))), none, none, none, none, none, none, none, none, none, none, none, none, none, none, none, none, none, none, none, none, none, none, none, none, none, none, none, none, none, none, none, none, none, none, none, none, none, none, none]) (And.intro rfl (And.intro rfl (And.intro rfl (And.intro rfl (And.intro rfl (And.intro rfl (And.intro rfl (And.intro rfl (And.intro rfl (And.intro rfl trivial)))))))))) ?_
          exact m0_t134 O v12 v13 v14 t0 (v0 &&& (9223372036854775807 : Int64)) (v2 &&& (9223372036854775807 : Int64)) (v4 &&& (9223372036854775807 : Int64)) (v6 &&& (9223372036854775807 : Int64)) (v8 &&& (9223372036854775807 : Int64)) (v10 &&& (9223372036854775807 : Int64)) H _ _ hf
        · rw [if_pos h119] at hf
          refine g_lload O (pc' := 124) at_122 (v := (v0 &&& (9223372036854775807 : Int64))) rfl rfl ?_
          refine g_lload O (pc' := 126) at_124 (v := (v6 &&& (9223372036854775807 : Int64))) rfl rfl ?_
          refine g_lcmp_lt O (pc' := 130) at_126 rfl at_127 rfl (by decide) (pc1 := 134) (by decide) (fun h127 => ?_) (fun h127 => ?_)
          · rw [if_pos h127] at hf
            refine g_forget (Ls' := [none, none, none, none, none, none, none, none, none, none, none, none, some (.int v12), some (.int v13), some (.int v14), some (.int t0), some (.long (v0 &&& (9223372036854775807 : Int64))), none, some (.long (v2 &&& (9223372036854775807 : Int64))), none, some (.long (v4 &&& (9223372036854775807 : Int64))), none, some (.long (v6 &&& (9223372036854775807 : Int64))), none, some (.long (v8 &&& (9223372036854775807 : Int64))), none, some (.long (v10 &&& (9223372036854775807 : Int64))), none, none, none, none, none, none, none, none, none, none, none, none, none, none, none, none, none, none, none, none, none, none, none, none, none, none, none, none, none, none, none, none, none, none, none, none, none, none, none]) (And.intro rfl (And.intro rfl (And.intro rfl (And.intro rfl (And.intro rfl (And.intro rfl (And.intro rfl (And.intro rfl (And.intro rfl (And.intro rfl trivial)))))))))) ?_
            exact m0_t134 O v12 v13 v14 t0 (v0 &&& (9223372036854775807 : Int64)) (v2 &&& (9223372036854775807 : Int64)) (v4 &&& (9223372036854775807 : Int64)) (v6 &&& (9223372036854775807 : Int64)) (v8 &&& (9223372036854775807 : Int64)) (v10 &&& (9223372036854775807 : Int64)) H _ _ hf
          · rw [if_neg h127] at hf
            refine g_forget (Ls' := [none, none, none, none, none, none, none, none, none, none, none, none, some (.int v12), some (.int v13), some (.int v14), some (.int t0), some (.long (v0 &&& (9223372036854775807 : Int64))), none, some (.long (v2 &&& (9223372036854775807 : Int64))), none, some (.long (v4 &&& (9223372036854775807 : Int64))), none, some (.long (v6 &&& (9223372036854775807 : Int64))), none, some (.long (v8 &&& (9223372036854775807 : Int64))), none, some (.long (v10 &&& (9223372036854775807 : Int64))), none, none, none, none, none, none, none, none, none, none, none, none, none, none, none, none, none, none, none, none, none, none, none, none, none, none, none, none, none, none, none, none, none, none, none, none, none, none, none]) (And.intro rfl (And.intro rfl (And.intro rfl (And.intro rfl (And.intro rfl (And.intro rfl (And.intro rfl (And.intro rfl (And.intro rfl (And.intro rfl trivial)))))))))) ?_
            exact m0_t130 O v12 v13 v14 t0 (v0 &&& (9223372036854775807 : Int64)) (v2 &&& (9223372036854775807 : Int64)) (v4 &&& (9223372036854775807 : Int64)) (v6 &&& (9223372036854775807 : Int64)) (v8 &&& (9223372036854775807 : Int64)) (v10 &&& (9223372036854775807 : Int64)) H _ _ hf
def m0_b30 (v0 : Int64) (v2 : Int64) (v4 : Int64) (v6 : Int64) (v8 : Int64) (v10 : Int64) (v12 : Int32) (v13 : Int32) (v14 : Int32) (H : List Obj) : Option (Int32 × List Obj) :=
  if v10 < (0 : Int64) then
    m0_b42 v0 v2 v4 v6 v8 v10 v12 v13 v14 (1 : Int32) H
  else
    m0_b42 v0 v2 v4 v6 v8 v10 v12 v13 v14 (0 : Int32) H
theorem m0_t30 {G : Gx} {K : Kx} (O : Ok0 G K) (v0 : Int64) (v2 : Int64) (v4 : Int64) (v6 : Int64) (v8 : Int64) (v10 : Int64) (v12 : Int32) (v13 : Int32) (v14 : Int32) (H : List Obj) (r : Int32) (Hf : List Obj) (hf : m0_b30 v0 v2 v4 v6 v8 v10 v12 v13 v14 H = some (r, Hf)) : Run G K (some (.int r)) Hf 30 [some (.long v0), none, some (.long v2), none, some (.long v4), none, some (.long v6), none, some (.long v8), none, some (.long v10), none, some (.int v12), some (.int v13), some (.int v14), none, none, none, none, none, none, none, none, none, none, none, none, none, none, none, none, none, none, none, none, none, none, none, none, none, none, none, none, none, none, none, none, none, none, none, none, none, none, none, none, none, none, none, none, none, none, none, none, none, none, none] [] H 0 0 := by
  unfold m0_b30 at hf
  refine g_lload O (pc' := 32) at_30 (v := v10) rfl rfl ?_
  refine g_lconst O (pc' := 33) at_32 (v := 0) (by decide) rfl ?_
  refine g_lcmp_ge O (pc' := 37) at_33 rfl at_34 rfl (by decide) (pc1 := 41) (by decide) (fun h34 => ?_) (fun h34 => ?_)
  · rw [if_neg h34] at hf
    refine g_iconst O (pc' := 42) at_41 (v := 0) (by decide) rfl ?_
    exact m0_t42 O v0 v2 v4 v6 v8 v10 v12 v13 v14 (0 : Int32) H _ _ hf
  · rw [if_pos h34] at hf
    refine g_iconst O (pc' := 38) at_37 (v := 1) (by decide) rfl ?_
    refine g_goto O at_38 (by decide) (pc' := 42) (by decide) ?_
    exact m0_t42 O v0 v2 v4 v6 v8 v10 v12 v13 v14 (1 : Int32) H _ _ hf
def m0_b0 (v0 : Int64) (v2 : Int64) (v4 : Int64) (v6 : Int64) (v8 : Int64) (v10 : Int64) (H : List Obj) : Option (Int32 × List Obj) :=
  m0_b30 v0 v2 v4 v6 v8 v10 (((XT.ushrL v2 (63 : Int32))).toInt32) (((XT.ushrL v4 (63 : Int32))).toInt32) ((((XT.ushrL v6 (63 : Int32))).toInt32) + (((XT.ushrL v8 (63 : Int32))).toInt32)) H
theorem m0_t0 {G : Gx} {K : Kx} (O : Ok0 G K) (v0 : Int64) (v2 : Int64) (v4 : Int64) (v6 : Int64) (v8 : Int64) (v10 : Int64) (H : List Obj) (r : Int32) (Hf : List Obj) (hf : m0_b0 v0 v2 v4 v6 v8 v10 H = some (r, Hf)) : Run G K (some (.int r)) Hf 0 [some (.long v0), none, some (.long v2), none, some (.long v4), none, some (.long v6), none, some (.long v8), none, some (.long v10), none, none, none, none, none, none, none, none, none, none, none, none, none, none, none, none, none, none, none, none, none, none, none, none, none, none, none, none, none, none, none, none, none, none, none, none, none, none, none, none, none, none, none, none, none, none, none, none, none, none, none, none, none, none, none] [] H 0 0 := by
  unfold m0_b0 at hf
  refine g_lload_n O (pc' := 1) at_0 (v := v2) rfl rfl ?_
  refine g_bipush O (pc' := 3) at_1 (v := 63) (by decide) rfl ?_
  refine g_lushr O (pc' := 4) at_3 rfl ?_
  refine g_l2i O (pc' := 5) at_4 rfl ?_
  refine g_istore O (pc' := 7) at_5 (Ls' := [some (.long v0), none, some (.long v2), none, some (.long v4), none, some (.long v6), none, some (.long v8), none, some (.long v10), none, some (.int (((XT.ushrL v2 (63 : Int32))).toInt32)), none, none, none, none, none, none, none, none, none, none, none, none, none, none, none, none, none, none, none, none, none, none, none, none, none, none, none, none, none, none, none, none, none, none, none, none, none, none, none, none, none, none, none, none, none, none, none, none, none, none, none, none, none]) rfl rfl ?_
  refine g_lload O (pc' := 9) at_7 (v := v4) rfl rfl ?_
  refine g_bipush O (pc' := 11) at_9 (v := 63) (by decide) rfl ?_
  refine g_lushr O (pc' := 12) at_11 rfl ?_
  refine g_l2i O (pc' := 13) at_12 rfl ?_
  refine g_istore O (pc' := 15) at_13 (Ls' := [some (.long v0), none, some (.long v2), none, some (.long v4), none, some (.long v6), none, some (.long v8), none, some (.long v10), none, some (.int (((XT.ushrL v2 (63 : Int32))).toInt32)), some (.int (((XT.ushrL v4 (63 : Int32))).toInt32)), none, none, none, none, none, none, none, none, none, none, none, none, none, none, none, none, none, none, none, none, none, none, none, none, none, none, none, none, none, none, none, none, none, none, none, none, none, none, none, none, none, none, none, none, none, none, none, none, none, none, none, none]) rfl rfl ?_
  refine g_lload O (pc' := 17) at_15 (v := v6) rfl rfl ?_
  refine g_bipush O (pc' := 19) at_17 (v := 63) (by decide) rfl ?_
  refine g_lushr O (pc' := 20) at_19 rfl ?_
  refine g_l2i O (pc' := 21) at_20 rfl ?_
  refine g_lload O (pc' := 23) at_21 (v := v8) rfl rfl ?_
  refine g_bipush O (pc' := 25) at_23 (v := 63) (by decide) rfl ?_
  refine g_lushr O (pc' := 26) at_25 rfl ?_
  refine g_l2i O (pc' := 27) at_26 rfl ?_
  refine g_iadd O (pc' := 28) at_27 rfl ?_
  refine g_istore O (pc' := 30) at_28 (Ls' := [some (.long v0), none, some (.long v2), none, some (.long v4), none, some (.long v6), none, some (.long v8), none, some (.long v10), none, some (.int (((XT.ushrL v2 (63 : Int32))).toInt32)), some (.int (((XT.ushrL v4 (63 : Int32))).toInt32)), some (.int ((((XT.ushrL v6 (63 : Int32))).toInt32) + (((XT.ushrL v8 (63 : Int32))).toInt32))), none, none, none, none, none, none, none, none, none, none, none, none, none, none, none, none, none, none, none, none, none, none, none, none, none, none, none, none, none, none, none, none, none, none, none, none, none, none, none, none, none, none, none, none, none, none, none, none, none, none, none]) rfl rfl ?_
  exact m0_t30 O v0 v2 v4 v6 v8 v10 (((XT.ushrL v2 (63 : Int32))).toInt32) (((XT.ushrL v4 (63 : Int32))).toInt32) ((((XT.ushrL v6 (63 : Int32))).toInt32) + (((XT.ushrL v8 (63 : Int32))).toInt32)) H _ _ hf
abbrev m0 (v0 : Int64) (v2 : Int64) (v4 : Int64) (v6 : Int64) (v8 : Int64) (v10 : Int64) (H : List Obj) : Option (Int32 × List Obj) := m0_b0 v0 v2 v4 v6 v8 v10 H

abbrev A5 (a b c d e : Int64) : Obj := .inl (.long, [.long a, .long b, .long c, .long d, .long e])
theorem own_rd {H : List Obj} {i : Nat} {a b c d e : Int64} (h : arr .long H i = some [.long a, .long b, .long c, .long d, .long e]) : rdJ H i 0 = some a ∧ rdJ H i 1 = some b ∧ rdJ H i 2 = some c ∧ rdJ H i 3 = some d ∧ rdJ H i 4 = some e := by
  unfold rdJ rd
  rw [h]
  exact ⟨rfl, rfl, rfl, rfl, rfl⟩
theorem own_same {H : List Obj} {i j : Nat} {a b c d e : Int64} (h : arr .long H i = some [.long a, .long b, .long c, .long d, .long e]) (h' : arr .long H j = some [.long a, .long b, .long c, .long d, .long e]) : m4 i j H = some (1, H) := by
  obtain ⟨r0, r1, r2, r3, r4⟩ := own_rd h
  obtain ⟨s0, s1, s2, s3, s4⟩ := own_rd h'
  show m4_b0 i j H = _
  unfold m4_b0
  rw [r0, Option.bind_some, s0, Option.bind_some, if_pos rfl, r1, Option.bind_some, s1, Option.bind_some, if_pos rfl, r2, Option.bind_some, s2, Option.bind_some, if_pos rfl, r3, Option.bind_some, s3, Option.bind_some, if_pos rfl, r4, Option.bind_some, s4, Option.bind_some, if_pos rfl]; rfl
theorem own_625 {v12 v13 v15 t0 : Int32} {v51 v53 v55 : Int64} {v57 v58 v59 v60 v62 v63 : Nat} {H H1 H2 H3 H4 : List Obj} (h1 : wr .long H v62 t0 (.long v51) = some H1) (h2 : wr .long H1 v62 (t0 + 1) (.long v53) = some H2) (h3 : wr .long H2 v62 (t0 + 2) (.long v55) = some H3)
    (hm : m3 v57 v12 v59 v13 v63 t0 3 H3 = some H4) (e1 : m4 v63 v62 H4 = some (1, H4)) (e2 : m4 v59 v60 H4 = some (1, H4)) (e3 : v15 = 0 → m4 v57 v58 H4 = some (1, H4)) : ∃ Hf, m0_b625 v12 v13 v15 v51 v53 v55 v57 v58 v59 v60 v62 v63 t0 H = some (1, Hf) := by
  have z : ¬ (1 : Int32) = 0 := by decide
  unfold m0_b625
  rw [h1, Option.bind_some, h2, Option.bind_some, h3, Option.bind_some, hm, Option.bind_some, e1, Option.bind_some]; dsimp only
  rw [if_neg z, e2, Option.bind_some]; dsimp only
  rw [if_neg z]
  unfold m0_b693
  by_cases g : v15 = 0
  · rw [if_pos g, if_neg z, e3 g, Option.bind_some]; dsimp only
    rw [if_neg z]; exact ⟨_, rfl⟩
  · rw [if_neg g]; exact ⟨_, rfl⟩
theorem own_u63 (x : Int64) : (XT.ushrL x 63).toInt = (x.toInt % 18446744073709551616) / 9223372036854775808 := by
  have e : XT.ushrL x 63 = (x.toUInt64 >>> ((63 : Int32) &&& 0x3f).toInt64.toUInt64).toInt64 := congrArg (fun z => (x.toUInt64 >>> z).toInt64) (by decide : (63 : Int32).toInt64.toUInt64 &&& Int64.toUInt64 63 = ((63 : Int32) &&& 0x3f).toInt64.toUInt64)
  rw [e]
  exact c_lushr x 63 63 (by decide) (by decide)
theorem own_bor (r : Int64) : (r < 0 ∧ m1 r = 1) ∨ (¬ r < 0 ∧ m1 r = 0) := by
  by_cases h : r < 0
  · exact Or.inl ⟨h, by show m1_b0 r = 1; unfold m1_b0; rw [if_pos h]; rfl⟩
  · exact Or.inr ⟨h, by show m1_b0 r = 0; unfold m1_b0; rw [if_neg h]; rfl⟩
theorem own_sgn (r : Int64) : XT.ushrL r 63 = m1 r := by
  have z1 : (1 : Int64).toInt = 1 := by decide
  have z0 : (0 : Int64).toInt = 0 := by decide
  have u := own_u63 r; have q := rng64 r
  rcases own_bor r with ⟨h, e⟩ | ⟨h, e⟩ <;> rw [e, own_eqL] <;> rw [own_ltL] at h <;> omega
theorem own_addL {x y : Int64} {a b : Int} (hx : x.toInt = a) (hy : y.toInt = b) (h : -9223372036854775808 ≤ a + b ∧ a + b < 9223372036854775808) : (x + y).toInt = a + b := by
  have e := c_ladd x y; have r := rng64 (x + y); omega
theorem own_subL {x y : Int64} {a b : Int} (hx : x.toInt = a) (hy : y.toInt = b) (h : -9223372036854775808 ≤ a - b ∧ a - b < 9223372036854775808) : (x - y).toInt = a - b := by
  have e := c_lsub x y; have r := rng64 (x - y); omega
theorem k_1 {R : Int} (q : -9223372036854775808 ≤ R ∧ R < 9223372036854775808) (h : R < 0) : -9223372036854775808 ≤ R + 9223372036854775807 ∧ R + 9223372036854775807 < 9223372036854775808 := by omega
theorem k_2 {R : Int} (q : -9223372036854775808 ≤ R ∧ R < 9223372036854775808) (h : R < 0) : -9223372036854775808 ≤ R + 9223372036854775807 + 1 ∧ R + 9223372036854775807 + 1 < 9223372036854775808 := by omega
theorem k_3 {R : Int} (q : -9223372036854775808 ≤ R ∧ R < 9223372036854775808) (h : R < 0) : R % 9223372036854775808 = R + 9223372036854775807 + 1 := by omega
theorem k_4 {R : Int} (q : -9223372036854775808 ≤ R ∧ R < 9223372036854775808) (h : ¬ R < 0) : R % 9223372036854775808 = R := by omega
theorem k_5 {a b : Int} (ha : 0 ≤ a ∧ a < 9223372036854775808) (hb : 0 ≤ b ∧ b < 9223372036854775808) : -9223372036854775808 ≤ a - b ∧ a - b < 9223372036854775808 := by omega
theorem k_6 {a b c : Int} (ha : 0 ≤ a ∧ a < 9223372036854775808) (hb : 0 ≤ b ∧ b < 9223372036854775808) : -9223372036854775808 ≤ a - b - (if c < 0 then 1 else 0) ∧ a - b - (if c < 0 then 1 else 0) < 9223372036854775808 := by
  by_cases h : c < 0
  · rw [if_pos h]; omega
  · rw [if_neg h]; omega
theorem k_7 {a b c d e f : Int} (g : b < a ∨ (b = a ∧ (d < c ∨ (d = c ∧ f ≤ e)))) : ¬ a - b - (if c - d - (if e - f < 0 then 1 else 0) < 0 then 1 else 0) < 0 := by
  by_cases h : e - f < 0
  · rw [if_pos h]
    by_cases h' : c - d - 1 < 0
    · rw [if_pos h']; omega
    · rw [if_neg h']; omega
  · rw [if_neg h]
    by_cases h' : c - d - 0 < 0
    · rw [if_pos h']; omega
    · rw [if_neg h']; omega
theorem own_m1i (r : Int64) : (m1 r).toInt = if r.toInt < 0 then 1 else 0 := by
  have z0 : (0 : Int64).toInt = 0 := by decide
  rcases own_bor r with ⟨h, e⟩ | ⟨h, e⟩
  · rw [own_ltL, z0] at h; rw [e, if_pos h]; decide
  · rw [own_ltL, z0] at h; rw [e, if_neg h]; decide
theorem own_lim (r : Int64) : r &&& 9223372036854775807 = m2 r := by
  have z1 : (1 : Int64).toInt = 1 := by decide
  have z0 : (0 : Int64).toInt = 0 := by decide
  have zM : (9223372036854775807 : Int64).toInt = 9223372036854775807 := by decide
  have m : (r &&& 9223372036854775807).toInt = r.toInt % 9223372036854775808 := c_maskL r 9223372036854775807 63 (by decide) (by decide)
  have q : -9223372036854775808 ≤ r.toInt ∧ r.toInt < 9223372036854775808 := rng64 r
  show _ = m2_b0 r
  unfold m2_b0 m2_b17
  by_cases h : r < 0
  · have h' := h
    rw [own_ltL, z0] at h'
    rw [if_pos h]
    exact own_eqL.mpr ((m.trans (k_3 q h')).trans (own_addL (own_addL rfl zM (k_1 q h')) z1 (k_2 q h')).symm)
  · have h' := h
    rw [own_ltL, z0] at h'
    rw [if_neg h]
    exact own_eqL.mpr (m.trans (k_4 q h'))
theorem own_lim0 {r : Int64} (h : ¬ r < 0) : m2 r = r := by show m2_b0 r = r; unfold m2_b0; rw [if_neg h]; rfl
theorem own_sz (x : Int64) : x - 0 = x := Int64.sub_zero x
theorem bs {α β : Type} {a : Option α} {x : α} {f : α → Option β} {r : Option β} (h : a = some x) (g : f x = r) : a.bind f = r := by
  rw [h]; exact g
theorem own_sub3 {v0 v2 v4 : Nat} {v1 v3 v5 : Int32} {H H1 H2 H3 : List Obj} {p0 p1 p2 q0 q1 q2 d0 d1 d2 : Int64} (h0 : ((p0 - q0 - 0) &&& 9223372036854775807) = d0) (h1 : ((p1 - q1 - XT.ushrL (p0 - q0 - 0) 63) &&& 9223372036854775807) = d1) (h2 : ((p2 - q2 - XT.ushrL (p1 - q1 - XT.ushrL (p0 - q0 - 0) 63) 63) &&& 9223372036854775807) = d2)
    (a1 : rdJ H v0 (v1 + 0) = some p0) (a2 : rdJ H v2 (v3 + 0) = some q0) (a3 : wr .long H v4 (v5 + 0) (.long d0) = some H1)
    (a4 : rdJ H1 v0 (v1 + (0 + 1)) = some p1) (a5 : rdJ H1 v2 (v3 + (0 + 1)) = some q1) (a6 : wr .long H1 v4 (v5 + (0 + 1)) (.long d1) = some H2)
    (a7 : rdJ H2 v0 (v1 + (0 + 1 + 1)) = some p2) (a8 : rdJ H2 v2 (v3 + (0 + 1 + 1)) = some q2) (a9 : wr .long H2 v4 (v5 + (0 + 1 + 1)) (.long d2) = some H3) : m3 v0 v1 v2 v3 v4 v5 3 H = some H3 := by
  subst h0; subst h1; subst h2
  show m3_b6 8 v0 v1 v2 v3 v4 v5 3 0 0 H = some H3
  rw [m3_b6, if_pos (by decide : (0 : Int32) < 3)]
  refine bs a1 (bs a2 (bs a3 ?_))
  rw [m3_b6, if_pos (by decide : (0 + 1 : Int32) < 3)]
  refine bs a4 (bs a5 (bs a6 ?_))
  rw [m3_b6, if_pos (by decide : (0 + 1 + 1 : Int32) < 3)]
  refine bs a7 (bs a8 (bs a9 ?_))
  rw [m3_b6, if_neg (by decide : ¬ (0 + 1 + 1 + 1 : Int32) < 3)]
theorem own_289 (v12 v13 v14 v15 : Int32) (v29 v31 v33 v35 v37 v39 v51 v53 v55 : Int64) : m0_b289 v12 v13 v14 v15 v29 v31 v33 v35 v37 v39 v51 v53 v55  [] = m0_b324 v12 v13 v14 v15 v29 v31 v33 v35 v37 v39 v51 v53 v55 0 [A5 (-1) (-1) (-1) (-1) (-1)] := by
  unfold m0_b289
  refine bs (x := [A5 0 0 0 0 0]) rfl ?_
  refine bs (x := [A5 (-1) 0 0 0 0]) rfl ?_
  refine bs (x := [A5 (-1) (-1) 0 0 0]) rfl ?_
  refine bs (x := [A5 (-1) (-1) (-1) 0 0]) rfl ?_
  refine bs (x := [A5 (-1) (-1) (-1) (-1) 0]) rfl ?_
  refine bs (x := [A5 (-1) (-1) (-1) (-1) (-1)]) rfl ?_
  rfl
theorem own_324 (v12 v13 v14 v15 : Int32) (v29 v31 v33 v35 v37 v39 v51 v53 v55 : Int64) : m0_b324 v12 v13 v14 v15 v29 v31 v33 v35 v37 v39 v51 v53 v55 0 [A5 (-1) (-1) (-1) (-1) (-1)] = m0_b359 v12 v13 v14 v15 v29 v31 v33 v35 v37 v39 v51 v53 v55 0 1 [A5 (-1) (-1) (-1) (-1) (-1), A5 (-1) (-1) (-1) (-1) (-1)] := by
  unfold m0_b324
  refine bs (x := [A5 (-1) (-1) (-1) (-1) (-1), A5 0 0 0 0 0]) rfl ?_
  refine bs (x := [A5 (-1) (-1) (-1) (-1) (-1), A5 (-1) 0 0 0 0]) rfl ?_
  refine bs (x := [A5 (-1) (-1) (-1) (-1) (-1), A5 (-1) (-1) 0 0 0]) rfl ?_
  refine bs (x := [A5 (-1) (-1) (-1) (-1) (-1), A5 (-1) (-1) (-1) 0 0]) rfl ?_
  refine bs (x := [A5 (-1) (-1) (-1) (-1) (-1), A5 (-1) (-1) (-1) (-1) 0]) rfl ?_
  refine bs (x := [A5 (-1) (-1) (-1) (-1) (-1), A5 (-1) (-1) (-1) (-1) (-1)]) rfl ?_
  rfl
theorem own_359 (v12 v13 v14 v15 : Int32) (v29 v31 v33 v35 v37 v39 v51 v53 v55 : Int64) : m0_b359 v12 v13 v14 v15 v29 v31 v33 v35 v37 v39 v51 v53 v55 0 1 [A5 (-1) (-1) (-1) (-1) (-1), A5 (-1) (-1) (-1) (-1) (-1)] = m0_b394 v12 v13 v14 v15 v29 v31 v33 v35 v37 v39 v51 v53 v55 0 1 2 [A5 (-1) (-1) (-1) (-1) (-1), A5 (-1) (-1) (-1) (-1) (-1), A5 (-1) (-1) (-1) (-1) (-1)] := by
  unfold m0_b359
  refine bs (x := [A5 (-1) (-1) (-1) (-1) (-1), A5 (-1) (-1) (-1) (-1) (-1), A5 0 0 0 0 0]) rfl ?_
  refine bs (x := [A5 (-1) (-1) (-1) (-1) (-1), A5 (-1) (-1) (-1) (-1) (-1), A5 (-1) 0 0 0 0]) rfl ?_
  refine bs (x := [A5 (-1) (-1) (-1) (-1) (-1), A5 (-1) (-1) (-1) (-1) (-1), A5 (-1) (-1) 0 0 0]) rfl ?_
  refine bs (x := [A5 (-1) (-1) (-1) (-1) (-1), A5 (-1) (-1) (-1) (-1) (-1), A5 (-1) (-1) (-1) 0 0]) rfl ?_
  refine bs (x := [A5 (-1) (-1) (-1) (-1) (-1), A5 (-1) (-1) (-1) (-1) (-1), A5 (-1) (-1) (-1) (-1) 0]) rfl ?_
  refine bs (x := [A5 (-1) (-1) (-1) (-1) (-1), A5 (-1) (-1) (-1) (-1) (-1), A5 (-1) (-1) (-1) (-1) (-1)]) rfl ?_
  rfl
theorem own_394 (v12 v13 v14 v15 : Int32) (v29 v31 v33 v35 v37 v39 v51 v53 v55 : Int64) : m0_b394 v12 v13 v14 v15 v29 v31 v33 v35 v37 v39 v51 v53 v55 0 1 2 [A5 (-1) (-1) (-1) (-1) (-1), A5 (-1) (-1) (-1) (-1) (-1), A5 (-1) (-1) (-1) (-1) (-1)] = m0_b429 v12 v13 v14 v15 v29 v31 v33 v35 v37 v39 v51 v53 v55 0 1 2 3 [A5 (-1) (-1) (-1) (-1) (-1), A5 (-1) (-1) (-1) (-1) (-1), A5 (-1) (-1) (-1) (-1) (-1), A5 (-1) (-1) (-1) (-1) (-1)] := by
  unfold m0_b394
  refine bs (x := [A5 (-1) (-1) (-1) (-1) (-1), A5 (-1) (-1) (-1) (-1) (-1), A5 (-1) (-1) (-1) (-1) (-1), A5 0 0 0 0 0]) rfl ?_
  refine bs (x := [A5 (-1) (-1) (-1) (-1) (-1), A5 (-1) (-1) (-1) (-1) (-1), A5 (-1) (-1) (-1) (-1) (-1), A5 (-1) 0 0 0 0]) rfl ?_
  refine bs (x := [A5 (-1) (-1) (-1) (-1) (-1), A5 (-1) (-1) (-1) (-1) (-1), A5 (-1) (-1) (-1) (-1) (-1), A5 (-1) (-1) 0 0 0]) rfl ?_
  refine bs (x := [A5 (-1) (-1) (-1) (-1) (-1), A5 (-1) (-1) (-1) (-1) (-1), A5 (-1) (-1) (-1) (-1) (-1), A5 (-1) (-1) (-1) 0 0]) rfl ?_
  refine bs (x := [A5 (-1) (-1) (-1) (-1) (-1), A5 (-1) (-1) (-1) (-1) (-1), A5 (-1) (-1) (-1) (-1) (-1), A5 (-1) (-1) (-1) (-1) 0]) rfl ?_
  refine bs (x := [A5 (-1) (-1) (-1) (-1) (-1), A5 (-1) (-1) (-1) (-1) (-1), A5 (-1) (-1) (-1) (-1) (-1), A5 (-1) (-1) (-1) (-1) (-1)]) rfl ?_
  rfl
theorem own_429 (v12 v13 v14 v15 : Int32) (v29 v31 v33 v35 v37 v39 v51 v53 v55 : Int64) : m0_b429 v12 v13 v14 v15 v29 v31 v33 v35 v37 v39 v51 v53 v55 0 1 2 3 [A5 (-1) (-1) (-1) (-1) (-1), A5 (-1) (-1) (-1) (-1) (-1), A5 (-1) (-1) (-1) (-1) (-1), A5 (-1) (-1) (-1) (-1) (-1)] = m0_b464 v12 v13 v14 v15 v29 v31 v33 v35 v37 v39 v51 v53 v55 0 1 2 3 4 [A5 (-1) (-1) (-1) (-1) (-1), A5 (-1) (-1) (-1) (-1) (-1), A5 (-1) (-1) (-1) (-1) (-1), A5 (-1) (-1) (-1) (-1) (-1), A5 (-1) (-1) (-1) (-1) (-1)] := by
  unfold m0_b429
  refine bs (x := [A5 (-1) (-1) (-1) (-1) (-1), A5 (-1) (-1) (-1) (-1) (-1), A5 (-1) (-1) (-1) (-1) (-1), A5 (-1) (-1) (-1) (-1) (-1), A5 0 0 0 0 0]) rfl ?_
  refine bs (x := [A5 (-1) (-1) (-1) (-1) (-1), A5 (-1) (-1) (-1) (-1) (-1), A5 (-1) (-1) (-1) (-1) (-1), A5 (-1) (-1) (-1) (-1) (-1), A5 (-1) 0 0 0 0]) rfl ?_
  refine bs (x := [A5 (-1) (-1) (-1) (-1) (-1), A5 (-1) (-1) (-1) (-1) (-1), A5 (-1) (-1) (-1) (-1) (-1), A5 (-1) (-1) (-1) (-1) (-1), A5 (-1) (-1) 0 0 0]) rfl ?_
  refine bs (x := [A5 (-1) (-1) (-1) (-1) (-1), A5 (-1) (-1) (-1) (-1) (-1), A5 (-1) (-1) (-1) (-1) (-1), A5 (-1) (-1) (-1) (-1) (-1), A5 (-1) (-1) (-1) 0 0]) rfl ?_
  refine bs (x := [A5 (-1) (-1) (-1) (-1) (-1), A5 (-1) (-1) (-1) (-1) (-1), A5 (-1) (-1) (-1) (-1) (-1), A5 (-1) (-1) (-1) (-1) (-1), A5 (-1) (-1) (-1) (-1) 0]) rfl ?_
  refine bs (x := [A5 (-1) (-1) (-1) (-1) (-1), A5 (-1) (-1) (-1) (-1) (-1), A5 (-1) (-1) (-1) (-1) (-1), A5 (-1) (-1) (-1) (-1) (-1), A5 (-1) (-1) (-1) (-1) (-1)]) rfl ?_
  rfl
theorem own_464 (v12 v13 v14 v15 : Int32) (v29 v31 v33 v35 v37 v39 v51 v53 v55 : Int64) : m0_b464 v12 v13 v14 v15 v29 v31 v33 v35 v37 v39 v51 v53 v55 0 1 2 3 4 [A5 (-1) (-1) (-1) (-1) (-1), A5 (-1) (-1) (-1) (-1) (-1), A5 (-1) (-1) (-1) (-1) (-1), A5 (-1) (-1) (-1) (-1) (-1), A5 (-1) (-1) (-1) (-1) (-1)] = m0_b499 v12 v13 v14 v15 v29 v31 v33 v35 v37 v39 v51 v53 v55 0 1 2 3 4 5 [A5 (-1) (-1) (-1) (-1) (-1), A5 (-1) (-1) (-1) (-1) (-1), A5 (-1) (-1) (-1) (-1) (-1), A5 (-1) (-1) (-1) (-1) (-1), A5 (-1) (-1) (-1) (-1) (-1), A5 (-1) (-1) (-1) (-1) (-1)] := by
  unfold m0_b464
  refine bs (x := [A5 (-1) (-1) (-1) (-1) (-1), A5 (-1) (-1) (-1) (-1) (-1), A5 (-1) (-1) (-1) (-1) (-1), A5 (-1) (-1) (-1) (-1) (-1), A5 (-1) (-1) (-1) (-1) (-1), A5 0 0 0 0 0]) rfl ?_
  refine bs (x := [A5 (-1) (-1) (-1) (-1) (-1), A5 (-1) (-1) (-1) (-1) (-1), A5 (-1) (-1) (-1) (-1) (-1), A5 (-1) (-1) (-1) (-1) (-1), A5 (-1) (-1) (-1) (-1) (-1), A5 (-1) 0 0 0 0]) rfl ?_
  refine bs (x := [A5 (-1) (-1) (-1) (-1) (-1), A5 (-1) (-1) (-1) (-1) (-1), A5 (-1) (-1) (-1) (-1) (-1), A5 (-1) (-1) (-1) (-1) (-1), A5 (-1) (-1) (-1) (-1) (-1), A5 (-1) (-1) 0 0 0]) rfl ?_
  refine bs (x := [A5 (-1) (-1) (-1) (-1) (-1), A5 (-1) (-1) (-1) (-1) (-1), A5 (-1) (-1) (-1) (-1) (-1), A5 (-1) (-1) (-1) (-1) (-1), A5 (-1) (-1) (-1) (-1) (-1), A5 (-1) (-1) (-1) 0 0]) rfl ?_
  refine bs (x := [A5 (-1) (-1) (-1) (-1) (-1), A5 (-1) (-1) (-1) (-1) (-1), A5 (-1) (-1) (-1) (-1) (-1), A5 (-1) (-1) (-1) (-1) (-1), A5 (-1) (-1) (-1) (-1) (-1), A5 (-1) (-1) (-1) (-1) 0]) rfl ?_
  refine bs (x := [A5 (-1) (-1) (-1) (-1) (-1), A5 (-1) (-1) (-1) (-1) (-1), A5 (-1) (-1) (-1) (-1) (-1), A5 (-1) (-1) (-1) (-1) (-1), A5 (-1) (-1) (-1) (-1) (-1), A5 (-1) (-1) (-1) (-1) (-1)]) rfl ?_
  rfl
theorem own_499_00 (v14 v15 : Int32) (p0 p1 p2 q0 q1 q2 d0 d1 d2 : Int64) : m0_b499 0 0 v14 v15 p0 p1 p2 q0 q1 q2 d0 d1 d2 0 1 2 3 4 5 [A5 (-1) (-1) (-1) (-1) (-1), A5 (-1) (-1) (-1) (-1) (-1), A5 (-1) (-1) (-1) (-1) (-1), A5 (-1) (-1) (-1) (-1) (-1), A5 (-1) (-1) (-1) (-1) (-1), A5 (-1) (-1) (-1) (-1) (-1)] = m0_b599 0 0 v14 v15 d0 d1 d2 0 1 2 3 4 5 [A5 p0 p1 p2 (-1) (-1), A5 p0 p1 p2 (-1) (-1), A5 q0 q1 q2 (-1) (-1), A5 q0 q1 q2 (-1) (-1), A5 (-1) (-1) (-1) (-1) (-1), A5 (-1) (-1) (-1) (-1) (-1)] := by
  unfold m0_b499
  refine bs (x := [A5 p0 (-1) (-1) (-1) (-1), A5 (-1) (-1) (-1) (-1) (-1), A5 (-1) (-1) (-1) (-1) (-1), A5 (-1) (-1) (-1) (-1) (-1), A5 (-1) (-1) (-1) (-1) (-1), A5 (-1) (-1) (-1) (-1) (-1)]) rfl ?_
  refine bs (x := [A5 p0 p1 (-1) (-1) (-1), A5 (-1) (-1) (-1) (-1) (-1), A5 (-1) (-1) (-1) (-1) (-1), A5 (-1) (-1) (-1) (-1) (-1), A5 (-1) (-1) (-1) (-1) (-1), A5 (-1) (-1) (-1) (-1) (-1)]) rfl ?_
  refine bs (x := [A5 p0 p1 p2 (-1) (-1), A5 (-1) (-1) (-1) (-1) (-1), A5 (-1) (-1) (-1) (-1) (-1), A5 (-1) (-1) (-1) (-1) (-1), A5 (-1) (-1) (-1) (-1) (-1), A5 (-1) (-1) (-1) (-1) (-1)]) rfl ?_
  refine bs (x := [A5 p0 p1 p2 (-1) (-1), A5 p0 (-1) (-1) (-1) (-1), A5 (-1) (-1) (-1) (-1) (-1), A5 (-1) (-1) (-1) (-1) (-1), A5 (-1) (-1) (-1) (-1) (-1), A5 (-1) (-1) (-1) (-1) (-1)]) rfl ?_
  refine bs (x := [A5 p0 p1 p2 (-1) (-1), A5 p0 p1 (-1) (-1) (-1), A5 (-1) (-1) (-1) (-1) (-1), A5 (-1) (-1) (-1) (-1) (-1), A5 (-1) (-1) (-1) (-1) (-1), A5 (-1) (-1) (-1) (-1) (-1)]) rfl ?_
  refine bs (x := [A5 p0 p1 p2 (-1) (-1), A5 p0 p1 p2 (-1) (-1), A5 (-1) (-1) (-1) (-1) (-1), A5 (-1) (-1) (-1) (-1) (-1), A5 (-1) (-1) (-1) (-1) (-1), A5 (-1) (-1) (-1) (-1) (-1)]) rfl ?_
  refine bs (x := [A5 p0 p1 p2 (-1) (-1), A5 p0 p1 p2 (-1) (-1), A5 q0 (-1) (-1) (-1) (-1), A5 (-1) (-1) (-1) (-1) (-1), A5 (-1) (-1) (-1) (-1) (-1), A5 (-1) (-1) (-1) (-1) (-1)]) rfl ?_
  refine bs (x := [A5 p0 p1 p2 (-1) (-1), A5 p0 p1 p2 (-1) (-1), A5 q0 q1 (-1) (-1) (-1), A5 (-1) (-1) (-1) (-1) (-1), A5 (-1) (-1) (-1) (-1) (-1), A5 (-1) (-1) (-1) (-1) (-1)]) rfl ?_
  refine bs (x := [A5 p0 p1 p2 (-1) (-1), A5 p0 p1 p2 (-1) (-1), A5 q0 q1 q2 (-1) (-1), A5 (-1) (-1) (-1) (-1) (-1), A5 (-1) (-1) (-1) (-1) (-1), A5 (-1) (-1) (-1) (-1) (-1)]) rfl ?_
  refine bs (x := [A5 p0 p1 p2 (-1) (-1), A5 p0 p1 p2 (-1) (-1), A5 q0 q1 q2 (-1) (-1), A5 q0 (-1) (-1) (-1) (-1), A5 (-1) (-1) (-1) (-1) (-1), A5 (-1) (-1) (-1) (-1) (-1)]) rfl ?_
  refine bs (x := [A5 p0 p1 p2 (-1) (-1), A5 p0 p1 p2 (-1) (-1), A5 q0 q1 q2 (-1) (-1), A5 q0 q1 (-1) (-1) (-1), A5 (-1) (-1) (-1) (-1) (-1), A5 (-1) (-1) (-1) (-1) (-1)]) rfl ?_
  refine bs (x := [A5 p0 p1 p2 (-1) (-1), A5 p0 p1 p2 (-1) (-1), A5 q0 q1 q2 (-1) (-1), A5 q0 q1 q2 (-1) (-1), A5 (-1) (-1) (-1) (-1) (-1), A5 (-1) (-1) (-1) (-1) (-1)]) rfl ?_
  rfl
theorem own_499_01 (v14 v15 : Int32) (p0 p1 p2 q0 q1 q2 d0 d1 d2 : Int64) : m0_b499 0 1 v14 v15 p0 p1 p2 q0 q1 q2 d0 d1 d2 0 1 2 3 4 5 [A5 (-1) (-1) (-1) (-1) (-1), A5 (-1) (-1) (-1) (-1) (-1), A5 (-1) (-1) (-1) (-1) (-1), A5 (-1) (-1) (-1) (-1) (-1), A5 (-1) (-1) (-1) (-1) (-1), A5 (-1) (-1) (-1) (-1) (-1)] = m0_b599 0 1 v14 v15 d0 d1 d2 0 1 2 3 4 5 [A5 p0 p1 p2 (-1) (-1), A5 p0 p1 p2 (-1) (-1), A5 (-1) q0 q1 q2 (-1), A5 (-1) q0 q1 q2 (-1), A5 (-1) (-1) (-1) (-1) (-1), A5 (-1) (-1) (-1) (-1) (-1)] := by
  unfold m0_b499
  refine bs (x := [A5 p0 (-1) (-1) (-1) (-1), A5 (-1) (-1) (-1) (-1) (-1), A5 (-1) (-1) (-1) (-1) (-1), A5 (-1) (-1) (-1) (-1) (-1), A5 (-1) (-1) (-1) (-1) (-1), A5 (-1) (-1) (-1) (-1) (-1)]) rfl ?_
  refine bs (x := [A5 p0 p1 (-1) (-1) (-1), A5 (-1) (-1) (-1) (-1) (-1), A5 (-1) (-1) (-1) (-1) (-1), A5 (-1) (-1) (-1) (-1) (-1), A5 (-1) (-1) (-1) (-1) (-1), A5 (-1) (-1) (-1) (-1) (-1)]) rfl ?_
  refine bs (x := [A5 p0 p1 p2 (-1) (-1), A5 (-1) (-1) (-1) (-1) (-1), A5 (-1) (-1) (-1) (-1) (-1), A5 (-1) (-1) (-1) (-1) (-1), A5 (-1) (-1) (-1) (-1) (-1), A5 (-1) (-1) (-1) (-1) (-1)]) rfl ?_
  refine bs (x := [A5 p0 p1 p2 (-1) (-1), A5 p0 (-1) (-1) (-1) (-1), A5 (-1) (-1) (-1) (-1) (-1), A5 (-1) (-1) (-1) (-1) (-1), A5 (-1) (-1) (-1) (-1) (-1), A5 (-1) (-1) (-1) (-1) (-1)]) rfl ?_
  refine bs (x := [A5 p0 p1 p2 (-1) (-1), A5 p0 p1 (-1) (-1) (-1), A5 (-1) (-1) (-1) (-1) (-1), A5 (-1) (-1) (-1) (-1) (-1), A5 (-1) (-1) (-1) (-1) (-1), A5 (-1) (-1) (-1) (-1) (-1)]) rfl ?_
  refine bs (x := [A5 p0 p1 p2 (-1) (-1), A5 p0 p1 p2 (-1) (-1), A5 (-1) (-1) (-1) (-1) (-1), A5 (-1) (-1) (-1) (-1) (-1), A5 (-1) (-1) (-1) (-1) (-1), A5 (-1) (-1) (-1) (-1) (-1)]) rfl ?_
  refine bs (x := [A5 p0 p1 p2 (-1) (-1), A5 p0 p1 p2 (-1) (-1), A5 (-1) q0 (-1) (-1) (-1), A5 (-1) (-1) (-1) (-1) (-1), A5 (-1) (-1) (-1) (-1) (-1), A5 (-1) (-1) (-1) (-1) (-1)]) rfl ?_
  refine bs (x := [A5 p0 p1 p2 (-1) (-1), A5 p0 p1 p2 (-1) (-1), A5 (-1) q0 q1 (-1) (-1), A5 (-1) (-1) (-1) (-1) (-1), A5 (-1) (-1) (-1) (-1) (-1), A5 (-1) (-1) (-1) (-1) (-1)]) rfl ?_
  refine bs (x := [A5 p0 p1 p2 (-1) (-1), A5 p0 p1 p2 (-1) (-1), A5 (-1) q0 q1 q2 (-1), A5 (-1) (-1) (-1) (-1) (-1), A5 (-1) (-1) (-1) (-1) (-1), A5 (-1) (-1) (-1) (-1) (-1)]) rfl ?_
  refine bs (x := [A5 p0 p1 p2 (-1) (-1), A5 p0 p1 p2 (-1) (-1), A5 (-1) q0 q1 q2 (-1), A5 (-1) q0 (-1) (-1) (-1), A5 (-1) (-1) (-1) (-1) (-1), A5 (-1) (-1) (-1) (-1) (-1)]) rfl ?_
  refine bs (x := [A5 p0 p1 p2 (-1) (-1), A5 p0 p1 p2 (-1) (-1), A5 (-1) q0 q1 q2 (-1), A5 (-1) q0 q1 (-1) (-1), A5 (-1) (-1) (-1) (-1) (-1), A5 (-1) (-1) (-1) (-1) (-1)]) rfl ?_
  refine bs (x := [A5 p0 p1 p2 (-1) (-1), A5 p0 p1 p2 (-1) (-1), A5 (-1) q0 q1 q2 (-1), A5 (-1) q0 q1 q2 (-1), A5 (-1) (-1) (-1) (-1) (-1), A5 (-1) (-1) (-1) (-1) (-1)]) rfl ?_
  rfl
theorem own_499_10 (v14 v15 : Int32) (p0 p1 p2 q0 q1 q2 d0 d1 d2 : Int64) : m0_b499 1 0 v14 v15 p0 p1 p2 q0 q1 q2 d0 d1 d2 0 1 2 3 4 5 [A5 (-1) (-1) (-1) (-1) (-1), A5 (-1) (-1) (-1) (-1) (-1), A5 (-1) (-1) (-1) (-1) (-1), A5 (-1) (-1) (-1) (-1) (-1), A5 (-1) (-1) (-1) (-1) (-1), A5 (-1) (-1) (-1) (-1) (-1)] = m0_b599 1 0 v14 v15 d0 d1 d2 0 1 2 3 4 5 [A5 (-1) p0 p1 p2 (-1), A5 (-1) p0 p1 p2 (-1), A5 q0 q1 q2 (-1) (-1), A5 q0 q1 q2 (-1) (-1), A5 (-1) (-1) (-1) (-1) (-1), A5 (-1) (-1) (-1) (-1) (-1)] := by
  unfold m0_b499
  refine bs (x := [A5 (-1) p0 (-1) (-1) (-1), A5 (-1) (-1) (-1) (-1) (-1), A5 (-1) (-1) (-1) (-1) (-1), A5 (-1) (-1) (-1) (-1) (-1), A5 (-1) (-1) (-1) (-1) (-1), A5 (-1) (-1) (-1) (-1) (-1)]) rfl ?_
  refine bs (x := [A5 (-1) p0 p1 (-1) (-1), A5 (-1) (-1) (-1) (-1) (-1), A5 (-1) (-1) (-1) (-1) (-1), A5 (-1) (-1) (-1) (-1) (-1), A5 (-1) (-1) (-1) (-1) (-1), A5 (-1) (-1) (-1) (-1) (-1)]) rfl ?_
  refine bs (x := [A5 (-1) p0 p1 p2 (-1), A5 (-1) (-1) (-1) (-1) (-1), A5 (-1) (-1) (-1) (-1) (-1), A5 (-1) (-1) (-1) (-1) (-1), A5 (-1) (-1) (-1) (-1) (-1), A5 (-1) (-1) (-1) (-1) (-1)]) rfl ?_
  refine bs (x := [A5 (-1) p0 p1 p2 (-1), A5 (-1) p0 (-1) (-1) (-1), A5 (-1) (-1) (-1) (-1) (-1), A5 (-1) (-1) (-1) (-1) (-1), A5 (-1) (-1) (-1) (-1) (-1), A5 (-1) (-1) (-1) (-1) (-1)]) rfl ?_
  refine bs (x := [A5 (-1) p0 p1 p2 (-1), A5 (-1) p0 p1 (-1) (-1), A5 (-1) (-1) (-1) (-1) (-1), A5 (-1) (-1) (-1) (-1) (-1), A5 (-1) (-1) (-1) (-1) (-1), A5 (-1) (-1) (-1) (-1) (-1)]) rfl ?_
  refine bs (x := [A5 (-1) p0 p1 p2 (-1), A5 (-1) p0 p1 p2 (-1), A5 (-1) (-1) (-1) (-1) (-1), A5 (-1) (-1) (-1) (-1) (-1), A5 (-1) (-1) (-1) (-1) (-1), A5 (-1) (-1) (-1) (-1) (-1)]) rfl ?_
  refine bs (x := [A5 (-1) p0 p1 p2 (-1), A5 (-1) p0 p1 p2 (-1), A5 q0 (-1) (-1) (-1) (-1), A5 (-1) (-1) (-1) (-1) (-1), A5 (-1) (-1) (-1) (-1) (-1), A5 (-1) (-1) (-1) (-1) (-1)]) rfl ?_
  refine bs (x := [A5 (-1) p0 p1 p2 (-1), A5 (-1) p0 p1 p2 (-1), A5 q0 q1 (-1) (-1) (-1), A5 (-1) (-1) (-1) (-1) (-1), A5 (-1) (-1) (-1) (-1) (-1), A5 (-1) (-1) (-1) (-1) (-1)]) rfl ?_
  refine bs (x := [A5 (-1) p0 p1 p2 (-1), A5 (-1) p0 p1 p2 (-1), A5 q0 q1 q2 (-1) (-1), A5 (-1) (-1) (-1) (-1) (-1), A5 (-1) (-1) (-1) (-1) (-1), A5 (-1) (-1) (-1) (-1) (-1)]) rfl ?_
  refine bs (x := [A5 (-1) p0 p1 p2 (-1), A5 (-1) p0 p1 p2 (-1), A5 q0 q1 q2 (-1) (-1), A5 q0 (-1) (-1) (-1) (-1), A5 (-1) (-1) (-1) (-1) (-1), A5 (-1) (-1) (-1) (-1) (-1)]) rfl ?_
  refine bs (x := [A5 (-1) p0 p1 p2 (-1), A5 (-1) p0 p1 p2 (-1), A5 q0 q1 q2 (-1) (-1), A5 q0 q1 (-1) (-1) (-1), A5 (-1) (-1) (-1) (-1) (-1), A5 (-1) (-1) (-1) (-1) (-1)]) rfl ?_
  refine bs (x := [A5 (-1) p0 p1 p2 (-1), A5 (-1) p0 p1 p2 (-1), A5 q0 q1 q2 (-1) (-1), A5 q0 q1 q2 (-1) (-1), A5 (-1) (-1) (-1) (-1) (-1), A5 (-1) (-1) (-1) (-1) (-1)]) rfl ?_
  rfl
theorem own_499_11 (v14 v15 : Int32) (p0 p1 p2 q0 q1 q2 d0 d1 d2 : Int64) : m0_b499 1 1 v14 v15 p0 p1 p2 q0 q1 q2 d0 d1 d2 0 1 2 3 4 5 [A5 (-1) (-1) (-1) (-1) (-1), A5 (-1) (-1) (-1) (-1) (-1), A5 (-1) (-1) (-1) (-1) (-1), A5 (-1) (-1) (-1) (-1) (-1), A5 (-1) (-1) (-1) (-1) (-1), A5 (-1) (-1) (-1) (-1) (-1)] = m0_b599 1 1 v14 v15 d0 d1 d2 0 1 2 3 4 5 [A5 (-1) p0 p1 p2 (-1), A5 (-1) p0 p1 p2 (-1), A5 (-1) q0 q1 q2 (-1), A5 (-1) q0 q1 q2 (-1), A5 (-1) (-1) (-1) (-1) (-1), A5 (-1) (-1) (-1) (-1) (-1)] := by
  unfold m0_b499
  refine bs (x := [A5 (-1) p0 (-1) (-1) (-1), A5 (-1) (-1) (-1) (-1) (-1), A5 (-1) (-1) (-1) (-1) (-1), A5 (-1) (-1) (-1) (-1) (-1), A5 (-1) (-1) (-1) (-1) (-1), A5 (-1) (-1) (-1) (-1) (-1)]) rfl ?_
  refine bs (x := [A5 (-1) p0 p1 (-1) (-1), A5 (-1) (-1) (-1) (-1) (-1), A5 (-1) (-1) (-1) (-1) (-1), A5 (-1) (-1) (-1) (-1) (-1), A5 (-1) (-1) (-1) (-1) (-1), A5 (-1) (-1) (-1) (-1) (-1)]) rfl ?_
  refine bs (x := [A5 (-1) p0 p1 p2 (-1), A5 (-1) (-1) (-1) (-1) (-1), A5 (-1) (-1) (-1) (-1) (-1), A5 (-1) (-1) (-1) (-1) (-1), A5 (-1) (-1) (-1) (-1) (-1), A5 (-1) (-1) (-1) (-1) (-1)]) rfl ?_
  refine bs (x := [A5 (-1) p0 p1 p2 (-1), A5 (-1) p0 (-1) (-1) (-1), A5 (-1) (-1) (-1) (-1) (-1), A5 (-1) (-1) (-1) (-1) (-1), A5 (-1) (-1) (-1) (-1) (-1), A5 (-1) (-1) (-1) (-1) (-1)]) rfl ?_
  refine bs (x := [A5 (-1) p0 p1 p2 (-1), A5 (-1) p0 p1 (-1) (-1), A5 (-1) (-1) (-1) (-1) (-1), A5 (-1) (-1) (-1) (-1) (-1), A5 (-1) (-1) (-1) (-1) (-1), A5 (-1) (-1) (-1) (-1) (-1)]) rfl ?_
  refine bs (x := [A5 (-1) p0 p1 p2 (-1), A5 (-1) p0 p1 p2 (-1), A5 (-1) (-1) (-1) (-1) (-1), A5 (-1) (-1) (-1) (-1) (-1), A5 (-1) (-1) (-1) (-1) (-1), A5 (-1) (-1) (-1) (-1) (-1)]) rfl ?_
  refine bs (x := [A5 (-1) p0 p1 p2 (-1), A5 (-1) p0 p1 p2 (-1), A5 (-1) q0 (-1) (-1) (-1), A5 (-1) (-1) (-1) (-1) (-1), A5 (-1) (-1) (-1) (-1) (-1), A5 (-1) (-1) (-1) (-1) (-1)]) rfl ?_
  refine bs (x := [A5 (-1) p0 p1 p2 (-1), A5 (-1) p0 p1 p2 (-1), A5 (-1) q0 q1 (-1) (-1), A5 (-1) (-1) (-1) (-1) (-1), A5 (-1) (-1) (-1) (-1) (-1), A5 (-1) (-1) (-1) (-1) (-1)]) rfl ?_
  refine bs (x := [A5 (-1) p0 p1 p2 (-1), A5 (-1) p0 p1 p2 (-1), A5 (-1) q0 q1 q2 (-1), A5 (-1) (-1) (-1) (-1) (-1), A5 (-1) (-1) (-1) (-1) (-1), A5 (-1) (-1) (-1) (-1) (-1)]) rfl ?_
  refine bs (x := [A5 (-1) p0 p1 p2 (-1), A5 (-1) p0 p1 p2 (-1), A5 (-1) q0 q1 q2 (-1), A5 (-1) q0 (-1) (-1) (-1), A5 (-1) (-1) (-1) (-1) (-1), A5 (-1) (-1) (-1) (-1) (-1)]) rfl ?_
  refine bs (x := [A5 (-1) p0 p1 p2 (-1), A5 (-1) p0 p1 p2 (-1), A5 (-1) q0 q1 q2 (-1), A5 (-1) q0 q1 (-1) (-1), A5 (-1) (-1) (-1) (-1) (-1), A5 (-1) (-1) (-1) (-1) (-1)]) rfl ?_
  refine bs (x := [A5 (-1) p0 p1 p2 (-1), A5 (-1) p0 p1 p2 (-1), A5 (-1) q0 q1 q2 (-1), A5 (-1) q0 q1 q2 (-1), A5 (-1) (-1) (-1) (-1) (-1), A5 (-1) (-1) (-1) (-1) (-1)]) rfl ?_
  rfl
theorem own_c0000 (p0 p1 p2 q0 q1 q2 d0 d1 d2 : Int64) (h0 : ((p0 - q0 - 0) &&& 9223372036854775807) = d0) (h1 : ((p1 - q1 - XT.ushrL (p0 - q0 - 0) 63) &&& 9223372036854775807) = d1) (h2 : ((p2 - q2 - XT.ushrL (p1 - q1 - XT.ushrL (p0 - q0 - 0) 63) 63) &&& 9223372036854775807) = d2) : ∃ Hf, m0_b289 0 0 0 0 p0 p1 p2 q0 q1 q2 d0 d1 d2 [] = some (1, Hf) := by
  rw [own_289, own_324, own_359, own_394, own_429, own_464, own_499_00]
  unfold m0_b599; rw [if_pos (rfl : (0 : Int32) = 0)]; unfold m0_b611; rw [if_pos (rfl : (0 : Int32) = 0)]
  exact own_625 (H1 := [A5 p0 p1 p2 (-1) (-1), A5 p0 p1 p2 (-1) (-1), A5 q0 q1 q2 (-1) (-1), A5 q0 q1 q2 (-1) (-1), A5 (-1) (-1) (-1) (-1) (-1), A5 d0 (-1) (-1) (-1) (-1)]) (H2 := [A5 p0 p1 p2 (-1) (-1), A5 p0 p1 p2 (-1) (-1), A5 q0 q1 q2 (-1) (-1), A5 q0 q1 q2 (-1) (-1), A5 (-1) (-1) (-1) (-1) (-1), A5 d0 d1 (-1) (-1) (-1)]) (H3 := [A5 p0 p1 p2 (-1) (-1), A5 p0 p1 p2 (-1) (-1), A5 q0 q1 q2 (-1) (-1), A5 q0 q1 q2 (-1) (-1), A5 (-1) (-1) (-1) (-1) (-1), A5 d0 d1 d2 (-1) (-1)]) (H4 := [A5 p0 p1 p2 (-1) (-1), A5 p0 p1 p2 (-1) (-1), A5 q0 q1 q2 (-1) (-1), A5 q0 q1 q2 (-1) (-1), A5 d0 d1 d2 (-1) (-1), A5 d0 d1 d2 (-1) (-1)]) rfl rfl rfl (own_sub3 (p0 := p0) (p1 := p1) (p2 := p2) (q0 := q0) (q1 := q1) (q2 := q2) (H1 := [A5 p0 p1 p2 (-1) (-1), A5 p0 p1 p2 (-1) (-1), A5 q0 q1 q2 (-1) (-1), A5 q0 q1 q2 (-1) (-1), A5 d0 (-1) (-1) (-1) (-1), A5 d0 d1 d2 (-1) (-1)]) (H2 := [A5 p0 p1 p2 (-1) (-1), A5 p0 p1 p2 (-1) (-1), A5 q0 q1 q2 (-1) (-1), A5 q0 q1 q2 (-1) (-1), A5 d0 d1 (-1) (-1) (-1), A5 d0 d1 d2 (-1) (-1)]) h0 h1 h2 rfl rfl rfl rfl rfl rfl rfl rfl rfl) (own_same rfl rfl) (own_same rfl rfl) (fun _ => own_same rfl rfl)
theorem own_c0001 (p0 p1 p2 q0 q1 q2 d0 d1 d2 : Int64) (h0 : ((p0 - q0 - 0) &&& 9223372036854775807) = d0) (h1 : ((p1 - q1 - XT.ushrL (p0 - q0 - 0) 63) &&& 9223372036854775807) = d1) (h2 : ((p2 - q2 - XT.ushrL (p1 - q1 - XT.ushrL (p0 - q0 - 0) 63) 63) &&& 9223372036854775807) = d2) : ∃ Hf, m0_b289 0 0 1 0 p0 p1 p2 q0 q1 q2 d0 d1 d2 [] = some (1, Hf) := by
  rw [own_289, own_324, own_359, own_394, own_429, own_464, own_499_00]
  unfold m0_b599; rw [if_pos (rfl : (0 : Int32) = 0)]; unfold m0_b611; rw [if_pos (rfl : (0 : Int32) = 0)]
  exact own_625 (H1 := [A5 p0 p1 p2 (-1) (-1), A5 p0 p1 p2 (-1) (-1), A5 q0 q1 q2 (-1) (-1), A5 q0 q1 q2 (-1) (-1), A5 (-1) (-1) (-1) (-1) (-1), A5 (-1) d0 (-1) (-1) (-1)]) (H2 := [A5 p0 p1 p2 (-1) (-1), A5 p0 p1 p2 (-1) (-1), A5 q0 q1 q2 (-1) (-1), A5 q0 q1 q2 (-1) (-1), A5 (-1) (-1) (-1) (-1) (-1), A5 (-1) d0 d1 (-1) (-1)]) (H3 := [A5 p0 p1 p2 (-1) (-1), A5 p0 p1 p2 (-1) (-1), A5 q0 q1 q2 (-1) (-1), A5 q0 q1 q2 (-1) (-1), A5 (-1) (-1) (-1) (-1) (-1), A5 (-1) d0 d1 d2 (-1)]) (H4 := [A5 p0 p1 p2 (-1) (-1), A5 p0 p1 p2 (-1) (-1), A5 q0 q1 q2 (-1) (-1), A5 q0 q1 q2 (-1) (-1), A5 (-1) d0 d1 d2 (-1), A5 (-1) d0 d1 d2 (-1)]) rfl rfl rfl (own_sub3 (p0 := p0) (p1 := p1) (p2 := p2) (q0 := q0) (q1 := q1) (q2 := q2) (H1 := [A5 p0 p1 p2 (-1) (-1), A5 p0 p1 p2 (-1) (-1), A5 q0 q1 q2 (-1) (-1), A5 q0 q1 q2 (-1) (-1), A5 (-1) d0 (-1) (-1) (-1), A5 (-1) d0 d1 d2 (-1)]) (H2 := [A5 p0 p1 p2 (-1) (-1), A5 p0 p1 p2 (-1) (-1), A5 q0 q1 q2 (-1) (-1), A5 q0 q1 q2 (-1) (-1), A5 (-1) d0 d1 (-1) (-1), A5 (-1) d0 d1 d2 (-1)]) h0 h1 h2 rfl rfl rfl rfl rfl rfl rfl rfl rfl) (own_same rfl rfl) (own_same rfl rfl) (fun _ => own_same rfl rfl)
theorem own_c0002 (p0 p1 p2 q0 q1 q2 d0 d1 d2 : Int64) (h0 : ((p0 - q0 - 0) &&& 9223372036854775807) = d0) (h1 : ((p1 - q1 - XT.ushrL (p0 - q0 - 0) 63) &&& 9223372036854775807) = d1) (h2 : ((p2 - q2 - XT.ushrL (p1 - q1 - XT.ushrL (p0 - q0 - 0) 63) 63) &&& 9223372036854775807) = d2) : ∃ Hf, m0_b289 0 0 2 0 p0 p1 p2 q0 q1 q2 d0 d1 d2 [] = some (1, Hf) := by
  rw [own_289, own_324, own_359, own_394, own_429, own_464, own_499_00]
  unfold m0_b599; rw [if_pos (rfl : (0 : Int32) = 0)]; unfold m0_b611; rw [if_pos (rfl : (0 : Int32) = 0)]
  exact own_625 (H1 := [A5 p0 p1 p2 (-1) (-1), A5 p0 p1 p2 (-1) (-1), A5 q0 q1 q2 (-1) (-1), A5 q0 q1 q2 (-1) (-1), A5 (-1) (-1) (-1) (-1) (-1), A5 (-1) (-1) d0 (-1) (-1)]) (H2 := [A5 p0 p1 p2 (-1) (-1), A5 p0 p1 p2 (-1) (-1), A5 q0 q1 q2 (-1) (-1), A5 q0 q1 q2 (-1) (-1), A5 (-1) (-1) (-1) (-1) (-1), A5 (-1) (-1) d0 d1 (-1)]) (H3 := [A5 p0 p1 p2 (-1) (-1), A5 p0 p1 p2 (-1) (-1), A5 q0 q1 q2 (-1) (-1), A5 q0 q1 q2 (-1) (-1), A5 (-1) (-1) (-1) (-1) (-1), A5 (-1) (-1) d0 d1 d2]) (H4 := [A5 p0 p1 p2 (-1) (-1), A5 p0 p1 p2 (-1) (-1), A5 q0 q1 q2 (-1) (-1), A5 q0 q1 q2 (-1) (-1), A5 (-1) (-1) d0 d1 d2, A5 (-1) (-1) d0 d1 d2]) rfl rfl rfl (own_sub3 (p0 := p0) (p1 := p1) (p2 := p2) (q0 := q0) (q1 := q1) (q2 := q2) (H1 := [A5 p0 p1 p2 (-1) (-1), A5 p0 p1 p2 (-1) (-1), A5 q0 q1 q2 (-1) (-1), A5 q0 q1 q2 (-1) (-1), A5 (-1) (-1) d0 (-1) (-1), A5 (-1) (-1) d0 d1 d2]) (H2 := [A5 p0 p1 p2 (-1) (-1), A5 p0 p1 p2 (-1) (-1), A5 q0 q1 q2 (-1) (-1), A5 q0 q1 q2 (-1) (-1), A5 (-1) (-1) d0 d1 (-1), A5 (-1) (-1) d0 d1 d2]) h0 h1 h2 rfl rfl rfl rfl rfl rfl rfl rfl rfl) (own_same rfl rfl) (own_same rfl rfl) (fun _ => own_same rfl rfl)
theorem own_c0010 (p0 p1 p2 q0 q1 q2 d0 d1 d2 : Int64) (h0 : ((p0 - q0 - 0) &&& 9223372036854775807) = d0) (h1 : ((p1 - q1 - XT.ushrL (p0 - q0 - 0) 63) &&& 9223372036854775807) = d1) (h2 : ((p2 - q2 - XT.ushrL (p1 - q1 - XT.ushrL (p0 - q0 - 0) 63) 63) &&& 9223372036854775807) = d2) : ∃ Hf, m0_b289 0 1 0 0 p0 p1 p2 q0 q1 q2 d0 d1 d2 [] = some (1, Hf) := by
  rw [own_289, own_324, own_359, own_394, own_429, own_464, own_499_01]
  unfold m0_b599; rw [if_pos (rfl : (0 : Int32) = 0)]; unfold m0_b611; rw [if_pos (rfl : (0 : Int32) = 0)]
  exact own_625 (H1 := [A5 p0 p1 p2 (-1) (-1), A5 p0 p1 p2 (-1) (-1), A5 (-1) q0 q1 q2 (-1), A5 (-1) q0 q1 q2 (-1), A5 (-1) (-1) (-1) (-1) (-1), A5 d0 (-1) (-1) (-1) (-1)]) (H2 := [A5 p0 p1 p2 (-1) (-1), A5 p0 p1 p2 (-1) (-1), A5 (-1) q0 q1 q2 (-1), A5 (-1) q0 q1 q2 (-1), A5 (-1) (-1) (-1) (-1) (-1), A5 d0 d1 (-1) (-1) (-1)]) (H3 := [A5 p0 p1 p2 (-1) (-1), A5 p0 p1 p2 (-1) (-1), A5 (-1) q0 q1 q2 (-1), A5 (-1) q0 q1 q2 (-1), A5 (-1) (-1) (-1) (-1) (-1), A5 d0 d1 d2 (-1) (-1)]) (H4 := [A5 p0 p1 p2 (-1) (-1), A5 p0 p1 p2 (-1) (-1), A5 (-1) q0 q1 q2 (-1), A5 (-1) q0 q1 q2 (-1), A5 d0 d1 d2 (-1) (-1), A5 d0 d1 d2 (-1) (-1)]) rfl rfl rfl (own_sub3 (p0 := p0) (p1 := p1) (p2 := p2) (q0 := q0) (q1 := q1) (q2 := q2) (H1 := [A5 p0 p1 p2 (-1) (-1), A5 p0 p1 p2 (-1) (-1), A5 (-1) q0 q1 q2 (-1), A5 (-1) q0 q1 q2 (-1), A5 d0 (-1) (-1) (-1) (-1), A5 d0 d1 d2 (-1) (-1)]) (H2 := [A5 p0 p1 p2 (-1) (-1), A5 p0 p1 p2 (-1) (-1), A5 (-1) q0 q1 q2 (-1), A5 (-1) q0 q1 q2 (-1), A5 d0 d1 (-1) (-1) (-1), A5 d0 d1 d2 (-1) (-1)]) h0 h1 h2 rfl rfl rfl rfl rfl rfl rfl rfl rfl) (own_same rfl rfl) (own_same rfl rfl) (fun _ => own_same rfl rfl)
theorem own_c0011 (p0 p1 p2 q0 q1 q2 d0 d1 d2 : Int64) (h0 : ((p0 - q0 - 0) &&& 9223372036854775807) = d0) (h1 : ((p1 - q1 - XT.ushrL (p0 - q0 - 0) 63) &&& 9223372036854775807) = d1) (h2 : ((p2 - q2 - XT.ushrL (p1 - q1 - XT.ushrL (p0 - q0 - 0) 63) 63) &&& 9223372036854775807) = d2) : ∃ Hf, m0_b289 0 1 1 0 p0 p1 p2 q0 q1 q2 d0 d1 d2 [] = some (1, Hf) := by
  rw [own_289, own_324, own_359, own_394, own_429, own_464, own_499_01]
  unfold m0_b599; rw [if_pos (rfl : (0 : Int32) = 0)]; unfold m0_b611; rw [if_pos (rfl : (0 : Int32) = 0)]
  exact own_625 (H1 := [A5 p0 p1 p2 (-1) (-1), A5 p0 p1 p2 (-1) (-1), A5 (-1) q0 q1 q2 (-1), A5 (-1) q0 q1 q2 (-1), A5 (-1) (-1) (-1) (-1) (-1), A5 (-1) d0 (-1) (-1) (-1)]) (H2 := [A5 p0 p1 p2 (-1) (-1), A5 p0 p1 p2 (-1) (-1), A5 (-1) q0 q1 q2 (-1), A5 (-1) q0 q1 q2 (-1), A5 (-1) (-1) (-1) (-1) (-1), A5 (-1) d0 d1 (-1) (-1)]) (H3 := [A5 p0 p1 p2 (-1) (-1), A5 p0 p1 p2 (-1) (-1), A5 (-1) q0 q1 q2 (-1), A5 (-1) q0 q1 q2 (-1), A5 (-1) (-1) (-1) (-1) (-1), A5 (-1) d0 d1 d2 (-1)]) (H4 := [A5 p0 p1 p2 (-1) (-1), A5 p0 p1 p2 (-1) (-1), A5 (-1) q0 q1 q2 (-1), A5 (-1) q0 q1 q2 (-1), A5 (-1) d0 d1 d2 (-1), A5 (-1) d0 d1 d2 (-1)]) rfl rfl rfl (own_sub3 (p0 := p0) (p1 := p1) (p2 := p2) (q0 := q0) (q1 := q1) (q2 := q2) (H1 := [A5 p0 p1 p2 (-1) (-1), A5 p0 p1 p2 (-1) (-1), A5 (-1) q0 q1 q2 (-1), A5 (-1) q0 q1 q2 (-1), A5 (-1) d0 (-1) (-1) (-1), A5 (-1) d0 d1 d2 (-1)]) (H2 := [A5 p0 p1 p2 (-1) (-1), A5 p0 p1 p2 (-1) (-1), A5 (-1) q0 q1 q2 (-1), A5 (-1) q0 q1 q2 (-1), A5 (-1) d0 d1 (-1) (-1), A5 (-1) d0 d1 d2 (-1)]) h0 h1 h2 rfl rfl rfl rfl rfl rfl rfl rfl rfl) (own_same rfl rfl) (own_same rfl rfl) (fun _ => own_same rfl rfl)
theorem own_c0012 (p0 p1 p2 q0 q1 q2 d0 d1 d2 : Int64) (h0 : ((p0 - q0 - 0) &&& 9223372036854775807) = d0) (h1 : ((p1 - q1 - XT.ushrL (p0 - q0 - 0) 63) &&& 9223372036854775807) = d1) (h2 : ((p2 - q2 - XT.ushrL (p1 - q1 - XT.ushrL (p0 - q0 - 0) 63) 63) &&& 9223372036854775807) = d2) : ∃ Hf, m0_b289 0 1 2 0 p0 p1 p2 q0 q1 q2 d0 d1 d2 [] = some (1, Hf) := by
  rw [own_289, own_324, own_359, own_394, own_429, own_464, own_499_01]
  unfold m0_b599; rw [if_pos (rfl : (0 : Int32) = 0)]; unfold m0_b611; rw [if_pos (rfl : (0 : Int32) = 0)]
  exact own_625 (H1 := [A5 p0 p1 p2 (-1) (-1), A5 p0 p1 p2 (-1) (-1), A5 (-1) q0 q1 q2 (-1), A5 (-1) q0 q1 q2 (-1), A5 (-1) (-1) (-1) (-1) (-1), A5 (-1) (-1) d0 (-1) (-1)]) (H2 := [A5 p0 p1 p2 (-1) (-1), A5 p0 p1 p2 (-1) (-1), A5 (-1) q0 q1 q2 (-1), A5 (-1) q0 q1 q2 (-1), A5 (-1) (-1) (-1) (-1) (-1), A5 (-1) (-1) d0 d1 (-1)]) (H3 := [A5 p0 p1 p2 (-1) (-1), A5 p0 p1 p2 (-1) (-1), A5 (-1) q0 q1 q2 (-1), A5 (-1) q0 q1 q2 (-1), A5 (-1) (-1) (-1) (-1) (-1), A5 (-1) (-1) d0 d1 d2]) (H4 := [A5 p0 p1 p2 (-1) (-1), A5 p0 p1 p2 (-1) (-1), A5 (-1) q0 q1 q2 (-1), A5 (-1) q0 q1 q2 (-1), A5 (-1) (-1) d0 d1 d2, A5 (-1) (-1) d0 d1 d2]) rfl rfl rfl (own_sub3 (p0 := p0) (p1 := p1) (p2 := p2) (q0 := q0) (q1 := q1) (q2 := q2) (H1 := [A5 p0 p1 p2 (-1) (-1), A5 p0 p1 p2 (-1) (-1), A5 (-1) q0 q1 q2 (-1), A5 (-1) q0 q1 q2 (-1), A5 (-1) (-1) d0 (-1) (-1), A5 (-1) (-1) d0 d1 d2]) (H2 := [A5 p0 p1 p2 (-1) (-1), A5 p0 p1 p2 (-1) (-1), A5 (-1) q0 q1 q2 (-1), A5 (-1) q0 q1 q2 (-1), A5 (-1) (-1) d0 d1 (-1), A5 (-1) (-1) d0 d1 d2]) h0 h1 h2 rfl rfl rfl rfl rfl rfl rfl rfl rfl) (own_same rfl rfl) (own_same rfl rfl) (fun _ => own_same rfl rfl)
theorem own_c0100 (p0 p1 p2 q0 q1 q2 d0 d1 d2 : Int64) (h0 : ((p0 - q0 - 0) &&& 9223372036854775807) = d0) (h1 : ((p1 - q1 - XT.ushrL (p0 - q0 - 0) 63) &&& 9223372036854775807) = d1) (h2 : ((p2 - q2 - XT.ushrL (p1 - q1 - XT.ushrL (p0 - q0 - 0) 63) 63) &&& 9223372036854775807) = d2) : ∃ Hf, m0_b289 1 0 0 0 p0 p1 p2 q0 q1 q2 d0 d1 d2 [] = some (1, Hf) := by
  rw [own_289, own_324, own_359, own_394, own_429, own_464, own_499_10]
  unfold m0_b599; rw [if_pos (rfl : (0 : Int32) = 0)]; unfold m0_b611; rw [if_pos (rfl : (0 : Int32) = 0)]
  exact own_625 (H1 := [A5 (-1) p0 p1 p2 (-1), A5 (-1) p0 p1 p2 (-1), A5 q0 q1 q2 (-1) (-1), A5 q0 q1 q2 (-1) (-1), A5 (-1) (-1) (-1) (-1) (-1), A5 d0 (-1) (-1) (-1) (-1)]) (H2 := [A5 (-1) p0 p1 p2 (-1), A5 (-1) p0 p1 p2 (-1), A5 q0 q1 q2 (-1) (-1), A5 q0 q1 q2 (-1) (-1), A5 (-1) (-1) (-1) (-1) (-1), A5 d0 d1 (-1) (-1) (-1)]) (H3 := [A5 (-1) p0 p1 p2 (-1), A5 (-1) p0 p1 p2 (-1), A5 q0 q1 q2 (-1) (-1), A5 q0 q1 q2 (-1) (-1), A5 (-1) (-1) (-1) (-1) (-1), A5 d0 d1 d2 (-1) (-1)]) (H4 := [A5 (-1) p0 p1 p2 (-1), A5 (-1) p0 p1 p2 (-1), A5 q0 q1 q2 (-1) (-1), A5 q0 q1 q2 (-1) (-1), A5 d0 d1 d2 (-1) (-1), A5 d0 d1 d2 (-1) (-1)]) rfl rfl rfl (own_sub3 (p0 := p0) (p1 := p1) (p2 := p2) (q0 := q0) (q1 := q1) (q2 := q2) (H1 := [A5 (-1) p0 p1 p2 (-1), A5 (-1) p0 p1 p2 (-1), A5 q0 q1 q2 (-1) (-1), A5 q0 q1 q2 (-1) (-1), A5 d0 (-1) (-1) (-1) (-1), A5 d0 d1 d2 (-1) (-1)]) (H2 := [A5 (-1) p0 p1 p2 (-1), A5 (-1) p0 p1 p2 (-1), A5 q0 q1 q2 (-1) (-1), A5 q0 q1 q2 (-1) (-1), A5 d0 d1 (-1) (-1) (-1), A5 d0 d1 d2 (-1) (-1)]) h0 h1 h2 rfl rfl rfl rfl rfl rfl rfl rfl rfl) (own_same rfl rfl) (own_same rfl rfl) (fun _ => own_same rfl rfl)
theorem own_c0101 (p0 p1 p2 q0 q1 q2 d0 d1 d2 : Int64) (h0 : ((p0 - q0 - 0) &&& 9223372036854775807) = d0) (h1 : ((p1 - q1 - XT.ushrL (p0 - q0 - 0) 63) &&& 9223372036854775807) = d1) (h2 : ((p2 - q2 - XT.ushrL (p1 - q1 - XT.ushrL (p0 - q0 - 0) 63) 63) &&& 9223372036854775807) = d2) : ∃ Hf, m0_b289 1 0 1 0 p0 p1 p2 q0 q1 q2 d0 d1 d2 [] = some (1, Hf) := by
  rw [own_289, own_324, own_359, own_394, own_429, own_464, own_499_10]
  unfold m0_b599; rw [if_pos (rfl : (0 : Int32) = 0)]; unfold m0_b611; rw [if_pos (rfl : (0 : Int32) = 0)]
  exact own_625 (H1 := [A5 (-1) p0 p1 p2 (-1), A5 (-1) p0 p1 p2 (-1), A5 q0 q1 q2 (-1) (-1), A5 q0 q1 q2 (-1) (-1), A5 (-1) (-1) (-1) (-1) (-1), A5 (-1) d0 (-1) (-1) (-1)]) (H2 := [A5 (-1) p0 p1 p2 (-1), A5 (-1) p0 p1 p2 (-1), A5 q0 q1 q2 (-1) (-1), A5 q0 q1 q2 (-1) (-1), A5 (-1) (-1) (-1) (-1) (-1), A5 (-1) d0 d1 (-1) (-1)]) (H3 := [A5 (-1) p0 p1 p2 (-1), A5 (-1) p0 p1 p2 (-1), A5 q0 q1 q2 (-1) (-1), A5 q0 q1 q2 (-1) (-1), A5 (-1) (-1) (-1) (-1) (-1), A5 (-1) d0 d1 d2 (-1)]) (H4 := [A5 (-1) p0 p1 p2 (-1), A5 (-1) p0 p1 p2 (-1), A5 q0 q1 q2 (-1) (-1), A5 q0 q1 q2 (-1) (-1), A5 (-1) d0 d1 d2 (-1), A5 (-1) d0 d1 d2 (-1)]) rfl rfl rfl (own_sub3 (p0 := p0) (p1 := p1) (p2 := p2) (q0 := q0) (q1 := q1) (q2 := q2) (H1 := [A5 (-1) p0 p1 p2 (-1), A5 (-1) p0 p1 p2 (-1), A5 q0 q1 q2 (-1) (-1), A5 q0 q1 q2 (-1) (-1), A5 (-1) d0 (-1) (-1) (-1), A5 (-1) d0 d1 d2 (-1)]) (H2 := [A5 (-1) p0 p1 p2 (-1), A5 (-1) p0 p1 p2 (-1), A5 q0 q1 q2 (-1) (-1), A5 q0 q1 q2 (-1) (-1), A5 (-1) d0 d1 (-1) (-1), A5 (-1) d0 d1 d2 (-1)]) h0 h1 h2 rfl rfl rfl rfl rfl rfl rfl rfl rfl) (own_same rfl rfl) (own_same rfl rfl) (fun _ => own_same rfl rfl)
theorem own_c0102 (p0 p1 p2 q0 q1 q2 d0 d1 d2 : Int64) (h0 : ((p0 - q0 - 0) &&& 9223372036854775807) = d0) (h1 : ((p1 - q1 - XT.ushrL (p0 - q0 - 0) 63) &&& 9223372036854775807) = d1) (h2 : ((p2 - q2 - XT.ushrL (p1 - q1 - XT.ushrL (p0 - q0 - 0) 63) 63) &&& 9223372036854775807) = d2) : ∃ Hf, m0_b289 1 0 2 0 p0 p1 p2 q0 q1 q2 d0 d1 d2 [] = some (1, Hf) := by
  rw [own_289, own_324, own_359, own_394, own_429, own_464, own_499_10]
  unfold m0_b599; rw [if_pos (rfl : (0 : Int32) = 0)]; unfold m0_b611; rw [if_pos (rfl : (0 : Int32) = 0)]
  exact own_625 (H1 := [A5 (-1) p0 p1 p2 (-1), A5 (-1) p0 p1 p2 (-1), A5 q0 q1 q2 (-1) (-1), A5 q0 q1 q2 (-1) (-1), A5 (-1) (-1) (-1) (-1) (-1), A5 (-1) (-1) d0 (-1) (-1)]) (H2 := [A5 (-1) p0 p1 p2 (-1), A5 (-1) p0 p1 p2 (-1), A5 q0 q1 q2 (-1) (-1), A5 q0 q1 q2 (-1) (-1), A5 (-1) (-1) (-1) (-1) (-1), A5 (-1) (-1) d0 d1 (-1)]) (H3 := [A5 (-1) p0 p1 p2 (-1), A5 (-1) p0 p1 p2 (-1), A5 q0 q1 q2 (-1) (-1), A5 q0 q1 q2 (-1) (-1), A5 (-1) (-1) (-1) (-1) (-1), A5 (-1) (-1) d0 d1 d2]) (H4 := [A5 (-1) p0 p1 p2 (-1), A5 (-1) p0 p1 p2 (-1), A5 q0 q1 q2 (-1) (-1), A5 q0 q1 q2 (-1) (-1), A5 (-1) (-1) d0 d1 d2, A5 (-1) (-1) d0 d1 d2]) rfl rfl rfl (own_sub3 (p0 := p0) (p1 := p1) (p2 := p2) (q0 := q0) (q1 := q1) (q2 := q2) (H1 := [A5 (-1) p0 p1 p2 (-1), A5 (-1) p0 p1 p2 (-1), A5 q0 q1 q2 (-1) (-1), A5 q0 q1 q2 (-1) (-1), A5 (-1) (-1) d0 (-1) (-1), A5 (-1) (-1) d0 d1 d2]) (H2 := [A5 (-1) p0 p1 p2 (-1), A5 (-1) p0 p1 p2 (-1), A5 q0 q1 q2 (-1) (-1), A5 q0 q1 q2 (-1) (-1), A5 (-1) (-1) d0 d1 (-1), A5 (-1) (-1) d0 d1 d2]) h0 h1 h2 rfl rfl rfl rfl rfl rfl rfl rfl rfl) (own_same rfl rfl) (own_same rfl rfl) (fun _ => own_same rfl rfl)
theorem own_c0110 (p0 p1 p2 q0 q1 q2 d0 d1 d2 : Int64) (h0 : ((p0 - q0 - 0) &&& 9223372036854775807) = d0) (h1 : ((p1 - q1 - XT.ushrL (p0 - q0 - 0) 63) &&& 9223372036854775807) = d1) (h2 : ((p2 - q2 - XT.ushrL (p1 - q1 - XT.ushrL (p0 - q0 - 0) 63) 63) &&& 9223372036854775807) = d2) : ∃ Hf, m0_b289 1 1 0 0 p0 p1 p2 q0 q1 q2 d0 d1 d2 [] = some (1, Hf) := by
  rw [own_289, own_324, own_359, own_394, own_429, own_464, own_499_11]
  unfold m0_b599; rw [if_pos (rfl : (0 : Int32) = 0)]; unfold m0_b611; rw [if_pos (rfl : (0 : Int32) = 0)]
  exact own_625 (H1 := [A5 (-1) p0 p1 p2 (-1), A5 (-1) p0 p1 p2 (-1), A5 (-1) q0 q1 q2 (-1), A5 (-1) q0 q1 q2 (-1), A5 (-1) (-1) (-1) (-1) (-1), A5 d0 (-1) (-1) (-1) (-1)]) (H2 := [A5 (-1) p0 p1 p2 (-1), A5 (-1) p0 p1 p2 (-1), A5 (-1) q0 q1 q2 (-1), A5 (-1) q0 q1 q2 (-1), A5 (-1) (-1) (-1) (-1) (-1), A5 d0 d1 (-1) (-1) (-1)]) (H3 := [A5 (-1) p0 p1 p2 (-1), A5 (-1) p0 p1 p2 (-1), A5 (-1) q0 q1 q2 (-1), A5 (-1) q0 q1 q2 (-1), A5 (-1) (-1) (-1) (-1) (-1), A5 d0 d1 d2 (-1) (-1)]) (H4 := [A5 (-1) p0 p1 p2 (-1), A5 (-1) p0 p1 p2 (-1), A5 (-1) q0 q1 q2 (-1), A5 (-1) q0 q1 q2 (-1), A5 d0 d1 d2 (-1) (-1), A5 d0 d1 d2 (-1) (-1)]) rfl rfl rfl (own_sub3 (p0 := p0) (p1 := p1) (p2 := p2) (q0 := q0) (q1 := q1) (q2 := q2) (H1 := [A5 (-1) p0 p1 p2 (-1), A5 (-1) p0 p1 p2 (-1), A5 (-1) q0 q1 q2 (-1), A5 (-1) q0 q1 q2 (-1), A5 d0 (-1) (-1) (-1) (-1), A5 d0 d1 d2 (-1) (-1)]) (H2 := [A5 (-1) p0 p1 p2 (-1), A5 (-1) p0 p1 p2 (-1), A5 (-1) q0 q1 q2 (-1), A5 (-1) q0 q1 q2 (-1), A5 d0 d1 (-1) (-1) (-1), A5 d0 d1 d2 (-1) (-1)]) h0 h1 h2 rfl rfl rfl rfl rfl rfl rfl rfl rfl) (own_same rfl rfl) (own_same rfl rfl) (fun _ => own_same rfl rfl)
theorem own_c0111 (p0 p1 p2 q0 q1 q2 d0 d1 d2 : Int64) (h0 : ((p0 - q0 - 0) &&& 9223372036854775807) = d0) (h1 : ((p1 - q1 - XT.ushrL (p0 - q0 - 0) 63) &&& 9223372036854775807) = d1) (h2 : ((p2 - q2 - XT.ushrL (p1 - q1 - XT.ushrL (p0 - q0 - 0) 63) 63) &&& 9223372036854775807) = d2) : ∃ Hf, m0_b289 1 1 1 0 p0 p1 p2 q0 q1 q2 d0 d1 d2 [] = some (1, Hf) := by
  rw [own_289, own_324, own_359, own_394, own_429, own_464, own_499_11]
  unfold m0_b599; rw [if_pos (rfl : (0 : Int32) = 0)]; unfold m0_b611; rw [if_pos (rfl : (0 : Int32) = 0)]
  exact own_625 (H1 := [A5 (-1) p0 p1 p2 (-1), A5 (-1) p0 p1 p2 (-1), A5 (-1) q0 q1 q2 (-1), A5 (-1) q0 q1 q2 (-1), A5 (-1) (-1) (-1) (-1) (-1), A5 (-1) d0 (-1) (-1) (-1)]) (H2 := [A5 (-1) p0 p1 p2 (-1), A5 (-1) p0 p1 p2 (-1), A5 (-1) q0 q1 q2 (-1), A5 (-1) q0 q1 q2 (-1), A5 (-1) (-1) (-1) (-1) (-1), A5 (-1) d0 d1 (-1) (-1)]) (H3 := [A5 (-1) p0 p1 p2 (-1), A5 (-1) p0 p1 p2 (-1), A5 (-1) q0 q1 q2 (-1), A5 (-1) q0 q1 q2 (-1), A5 (-1) (-1) (-1) (-1) (-1), A5 (-1) d0 d1 d2 (-1)]) (H4 := [A5 (-1) p0 p1 p2 (-1), A5 (-1) p0 p1 p2 (-1), A5 (-1) q0 q1 q2 (-1), A5 (-1) q0 q1 q2 (-1), A5 (-1) d0 d1 d2 (-1), A5 (-1) d0 d1 d2 (-1)]) rfl rfl rfl (own_sub3 (p0 := p0) (p1 := p1) (p2 := p2) (q0 := q0) (q1 := q1) (q2 := q2) (H1 := [A5 (-1) p0 p1 p2 (-1), A5 (-1) p0 p1 p2 (-1), A5 (-1) q0 q1 q2 (-1), A5 (-1) q0 q1 q2 (-1), A5 (-1) d0 (-1) (-1) (-1), A5 (-1) d0 d1 d2 (-1)]) (H2 := [A5 (-1) p0 p1 p2 (-1), A5 (-1) p0 p1 p2 (-1), A5 (-1) q0 q1 q2 (-1), A5 (-1) q0 q1 q2 (-1), A5 (-1) d0 d1 (-1) (-1), A5 (-1) d0 d1 d2 (-1)]) h0 h1 h2 rfl rfl rfl rfl rfl rfl rfl rfl rfl) (own_same rfl rfl) (own_same rfl rfl) (fun _ => own_same rfl rfl)
theorem own_c0112 (p0 p1 p2 q0 q1 q2 d0 d1 d2 : Int64) (h0 : ((p0 - q0 - 0) &&& 9223372036854775807) = d0) (h1 : ((p1 - q1 - XT.ushrL (p0 - q0 - 0) 63) &&& 9223372036854775807) = d1) (h2 : ((p2 - q2 - XT.ushrL (p1 - q1 - XT.ushrL (p0 - q0 - 0) 63) 63) &&& 9223372036854775807) = d2) : ∃ Hf, m0_b289 1 1 2 0 p0 p1 p2 q0 q1 q2 d0 d1 d2 [] = some (1, Hf) := by
  rw [own_289, own_324, own_359, own_394, own_429, own_464, own_499_11]
  unfold m0_b599; rw [if_pos (rfl : (0 : Int32) = 0)]; unfold m0_b611; rw [if_pos (rfl : (0 : Int32) = 0)]
  exact own_625 (H1 := [A5 (-1) p0 p1 p2 (-1), A5 (-1) p0 p1 p2 (-1), A5 (-1) q0 q1 q2 (-1), A5 (-1) q0 q1 q2 (-1), A5 (-1) (-1) (-1) (-1) (-1), A5 (-1) (-1) d0 (-1) (-1)]) (H2 := [A5 (-1) p0 p1 p2 (-1), A5 (-1) p0 p1 p2 (-1), A5 (-1) q0 q1 q2 (-1), A5 (-1) q0 q1 q2 (-1), A5 (-1) (-1) (-1) (-1) (-1), A5 (-1) (-1) d0 d1 (-1)]) (H3 := [A5 (-1) p0 p1 p2 (-1), A5 (-1) p0 p1 p2 (-1), A5 (-1) q0 q1 q2 (-1), A5 (-1) q0 q1 q2 (-1), A5 (-1) (-1) (-1) (-1) (-1), A5 (-1) (-1) d0 d1 d2]) (H4 := [A5 (-1) p0 p1 p2 (-1), A5 (-1) p0 p1 p2 (-1), A5 (-1) q0 q1 q2 (-1), A5 (-1) q0 q1 q2 (-1), A5 (-1) (-1) d0 d1 d2, A5 (-1) (-1) d0 d1 d2]) rfl rfl rfl (own_sub3 (p0 := p0) (p1 := p1) (p2 := p2) (q0 := q0) (q1 := q1) (q2 := q2) (H1 := [A5 (-1) p0 p1 p2 (-1), A5 (-1) p0 p1 p2 (-1), A5 (-1) q0 q1 q2 (-1), A5 (-1) q0 q1 q2 (-1), A5 (-1) (-1) d0 (-1) (-1), A5 (-1) (-1) d0 d1 d2]) (H2 := [A5 (-1) p0 p1 p2 (-1), A5 (-1) p0 p1 p2 (-1), A5 (-1) q0 q1 q2 (-1), A5 (-1) q0 q1 q2 (-1), A5 (-1) (-1) d0 d1 (-1), A5 (-1) (-1) d0 d1 d2]) h0 h1 h2 rfl rfl rfl rfl rfl rfl rfl rfl rfl) (own_same rfl rfl) (own_same rfl rfl) (fun _ => own_same rfl rfl)
theorem own_c100 (p0 p1 p2 q0 q1 q2 d0 d1 d2 : Int64) (d : Int32) (h0 : ((p0 - q0 - 0) &&& 9223372036854775807) = d0) (h1 : ((p1 - q1 - XT.ushrL (p0 - q0 - 0) 63) &&& 9223372036854775807) = d1) (h2 : ((p2 - q2 - XT.ushrL (p1 - q1 - XT.ushrL (p0 - q0 - 0) 63) 63) &&& 9223372036854775807) = d2) : ∃ Hf, m0_b289 0 0 d 1 p0 p1 p2 q0 q1 q2 d0 d1 d2 [] = some (1, Hf) := by
  rw [own_289, own_324, own_359, own_394, own_429, own_464, own_499_00]
  unfold m0_b599; rw [if_neg (by decide : ¬ (1 : Int32) = 0)]; unfold m0_b611; rw [if_neg (by decide : ¬ (1 : Int32) = 0)]
  exact own_625 (H1 := [A5 p0 p1 p2 (-1) (-1), A5 p0 p1 p2 (-1) (-1), A5 q0 q1 q2 (-1) (-1), A5 q0 q1 q2 (-1) (-1), A5 (-1) (-1) (-1) (-1) (-1), A5 d0 (-1) (-1) (-1) (-1)]) (H2 := [A5 p0 p1 p2 (-1) (-1), A5 p0 p1 p2 (-1) (-1), A5 q0 q1 q2 (-1) (-1), A5 q0 q1 q2 (-1) (-1), A5 (-1) (-1) (-1) (-1) (-1), A5 d0 d1 (-1) (-1) (-1)]) (H3 := [A5 p0 p1 p2 (-1) (-1), A5 p0 p1 p2 (-1) (-1), A5 q0 q1 q2 (-1) (-1), A5 q0 q1 q2 (-1) (-1), A5 (-1) (-1) (-1) (-1) (-1), A5 d0 d1 d2 (-1) (-1)]) (H4 := [A5 d0 d1 d2 (-1) (-1), A5 p0 p1 p2 (-1) (-1), A5 q0 q1 q2 (-1) (-1), A5 q0 q1 q2 (-1) (-1), A5 (-1) (-1) (-1) (-1) (-1), A5 d0 d1 d2 (-1) (-1)]) rfl rfl rfl (own_sub3 (p0 := p0) (p1 := p1) (p2 := p2) (q0 := q0) (q1 := q1) (q2 := q2) (H1 := [A5 d0 p1 p2 (-1) (-1), A5 p0 p1 p2 (-1) (-1), A5 q0 q1 q2 (-1) (-1), A5 q0 q1 q2 (-1) (-1), A5 (-1) (-1) (-1) (-1) (-1), A5 d0 d1 d2 (-1) (-1)]) (H2 := [A5 d0 d1 p2 (-1) (-1), A5 p0 p1 p2 (-1) (-1), A5 q0 q1 q2 (-1) (-1), A5 q0 q1 q2 (-1) (-1), A5 (-1) (-1) (-1) (-1) (-1), A5 d0 d1 d2 (-1) (-1)]) h0 h1 h2 rfl rfl rfl rfl rfl rfl rfl rfl rfl) (own_same rfl rfl) (own_same rfl rfl) (fun h => absurd h (by decide))
theorem own_c101 (p0 p1 p2 q0 q1 q2 d0 d1 d2 : Int64) (d : Int32) (h0 : ((p0 - q0 - 0) &&& 9223372036854775807) = d0) (h1 : ((p1 - q1 - XT.ushrL (p0 - q0 - 0) 63) &&& 9223372036854775807) = d1) (h2 : ((p2 - q2 - XT.ushrL (p1 - q1 - XT.ushrL (p0 - q0 - 0) 63) 63) &&& 9223372036854775807) = d2) : ∃ Hf, m0_b289 0 1 d 1 p0 p1 p2 q0 q1 q2 d0 d1 d2 [] = some (1, Hf) := by
  rw [own_289, own_324, own_359, own_394, own_429, own_464, own_499_01]
  unfold m0_b599; rw [if_neg (by decide : ¬ (1 : Int32) = 0)]; unfold m0_b611; rw [if_neg (by decide : ¬ (1 : Int32) = 0)]
  exact own_625 (H1 := [A5 p0 p1 p2 (-1) (-1), A5 p0 p1 p2 (-1) (-1), A5 (-1) q0 q1 q2 (-1), A5 (-1) q0 q1 q2 (-1), A5 (-1) (-1) (-1) (-1) (-1), A5 d0 (-1) (-1) (-1) (-1)]) (H2 := [A5 p0 p1 p2 (-1) (-1), A5 p0 p1 p2 (-1) (-1), A5 (-1) q0 q1 q2 (-1), A5 (-1) q0 q1 q2 (-1), A5 (-1) (-1) (-1) (-1) (-1), A5 d0 d1 (-1) (-1) (-1)]) (H3 := [A5 p0 p1 p2 (-1) (-1), A5 p0 p1 p2 (-1) (-1), A5 (-1) q0 q1 q2 (-1), A5 (-1) q0 q1 q2 (-1), A5 (-1) (-1) (-1) (-1) (-1), A5 d0 d1 d2 (-1) (-1)]) (H4 := [A5 d0 d1 d2 (-1) (-1), A5 p0 p1 p2 (-1) (-1), A5 (-1) q0 q1 q2 (-1), A5 (-1) q0 q1 q2 (-1), A5 (-1) (-1) (-1) (-1) (-1), A5 d0 d1 d2 (-1) (-1)]) rfl rfl rfl (own_sub3 (p0 := p0) (p1 := p1) (p2 := p2) (q0 := q0) (q1 := q1) (q2 := q2) (H1 := [A5 d0 p1 p2 (-1) (-1), A5 p0 p1 p2 (-1) (-1), A5 (-1) q0 q1 q2 (-1), A5 (-1) q0 q1 q2 (-1), A5 (-1) (-1) (-1) (-1) (-1), A5 d0 d1 d2 (-1) (-1)]) (H2 := [A5 d0 d1 p2 (-1) (-1), A5 p0 p1 p2 (-1) (-1), A5 (-1) q0 q1 q2 (-1), A5 (-1) q0 q1 q2 (-1), A5 (-1) (-1) (-1) (-1) (-1), A5 d0 d1 d2 (-1) (-1)]) h0 h1 h2 rfl rfl rfl rfl rfl rfl rfl rfl rfl) (own_same rfl rfl) (own_same rfl rfl) (fun h => absurd h (by decide))
theorem own_c110 (p0 p1 p2 q0 q1 q2 d0 d1 d2 : Int64) (d : Int32) (h0 : ((p0 - q0 - 0) &&& 9223372036854775807) = d0) (h1 : ((p1 - q1 - XT.ushrL (p0 - q0 - 0) 63) &&& 9223372036854775807) = d1) (h2 : ((p2 - q2 - XT.ushrL (p1 - q1 - XT.ushrL (p0 - q0 - 0) 63) 63) &&& 9223372036854775807) = d2) : ∃ Hf, m0_b289 1 0 d 1 p0 p1 p2 q0 q1 q2 d0 d1 d2 [] = some (1, Hf) := by
  rw [own_289, own_324, own_359, own_394, own_429, own_464, own_499_10]
  unfold m0_b599; rw [if_neg (by decide : ¬ (1 : Int32) = 0)]; unfold m0_b611; rw [if_neg (by decide : ¬ (1 : Int32) = 0)]
  exact own_625 (H1 := [A5 (-1) p0 p1 p2 (-1), A5 (-1) p0 p1 p2 (-1), A5 q0 q1 q2 (-1) (-1), A5 q0 q1 q2 (-1) (-1), A5 (-1) (-1) (-1) (-1) (-1), A5 (-1) d0 (-1) (-1) (-1)]) (H2 := [A5 (-1) p0 p1 p2 (-1), A5 (-1) p0 p1 p2 (-1), A5 q0 q1 q2 (-1) (-1), A5 q0 q1 q2 (-1) (-1), A5 (-1) (-1) (-1) (-1) (-1), A5 (-1) d0 d1 (-1) (-1)]) (H3 := [A5 (-1) p0 p1 p2 (-1), A5 (-1) p0 p1 p2 (-1), A5 q0 q1 q2 (-1) (-1), A5 q0 q1 q2 (-1) (-1), A5 (-1) (-1) (-1) (-1) (-1), A5 (-1) d0 d1 d2 (-1)]) (H4 := [A5 (-1) d0 d1 d2 (-1), A5 (-1) p0 p1 p2 (-1), A5 q0 q1 q2 (-1) (-1), A5 q0 q1 q2 (-1) (-1), A5 (-1) (-1) (-1) (-1) (-1), A5 (-1) d0 d1 d2 (-1)]) rfl rfl rfl (own_sub3 (p0 := p0) (p1 := p1) (p2 := p2) (q0 := q0) (q1 := q1) (q2 := q2) (H1 := [A5 (-1) d0 p1 p2 (-1), A5 (-1) p0 p1 p2 (-1), A5 q0 q1 q2 (-1) (-1), A5 q0 q1 q2 (-1) (-1), A5 (-1) (-1) (-1) (-1) (-1), A5 (-1) d0 d1 d2 (-1)]) (H2 := [A5 (-1) d0 d1 p2 (-1), A5 (-1) p0 p1 p2 (-1), A5 q0 q1 q2 (-1) (-1), A5 q0 q1 q2 (-1) (-1), A5 (-1) (-1) (-1) (-1) (-1), A5 (-1) d0 d1 d2 (-1)]) h0 h1 h2 rfl rfl rfl rfl rfl rfl rfl rfl rfl) (own_same rfl rfl) (own_same rfl rfl) (fun h => absurd h (by decide))
theorem own_c111 (p0 p1 p2 q0 q1 q2 d0 d1 d2 : Int64) (d : Int32) (h0 : ((p0 - q0 - 0) &&& 9223372036854775807) = d0) (h1 : ((p1 - q1 - XT.ushrL (p0 - q0 - 0) 63) &&& 9223372036854775807) = d1) (h2 : ((p2 - q2 - XT.ushrL (p1 - q1 - XT.ushrL (p0 - q0 - 0) 63) 63) &&& 9223372036854775807) = d2) : ∃ Hf, m0_b289 1 1 d 1 p0 p1 p2 q0 q1 q2 d0 d1 d2 [] = some (1, Hf) := by
  rw [own_289, own_324, own_359, own_394, own_429, own_464, own_499_11]
  unfold m0_b599; rw [if_neg (by decide : ¬ (1 : Int32) = 0)]; unfold m0_b611; rw [if_neg (by decide : ¬ (1 : Int32) = 0)]
  exact own_625 (H1 := [A5 (-1) p0 p1 p2 (-1), A5 (-1) p0 p1 p2 (-1), A5 (-1) q0 q1 q2 (-1), A5 (-1) q0 q1 q2 (-1), A5 (-1) (-1) (-1) (-1) (-1), A5 (-1) d0 (-1) (-1) (-1)]) (H2 := [A5 (-1) p0 p1 p2 (-1), A5 (-1) p0 p1 p2 (-1), A5 (-1) q0 q1 q2 (-1), A5 (-1) q0 q1 q2 (-1), A5 (-1) (-1) (-1) (-1) (-1), A5 (-1) d0 d1 (-1) (-1)]) (H3 := [A5 (-1) p0 p1 p2 (-1), A5 (-1) p0 p1 p2 (-1), A5 (-1) q0 q1 q2 (-1), A5 (-1) q0 q1 q2 (-1), A5 (-1) (-1) (-1) (-1) (-1), A5 (-1) d0 d1 d2 (-1)]) (H4 := [A5 (-1) d0 d1 d2 (-1), A5 (-1) p0 p1 p2 (-1), A5 (-1) q0 q1 q2 (-1), A5 (-1) q0 q1 q2 (-1), A5 (-1) (-1) (-1) (-1) (-1), A5 (-1) d0 d1 d2 (-1)]) rfl rfl rfl (own_sub3 (p0 := p0) (p1 := p1) (p2 := p2) (q0 := q0) (q1 := q1) (q2 := q2) (H1 := [A5 (-1) d0 p1 p2 (-1), A5 (-1) p0 p1 p2 (-1), A5 (-1) q0 q1 q2 (-1), A5 (-1) q0 q1 q2 (-1), A5 (-1) (-1) (-1) (-1) (-1), A5 (-1) d0 d1 d2 (-1)]) (H2 := [A5 (-1) d0 d1 p2 (-1), A5 (-1) p0 p1 p2 (-1), A5 (-1) q0 q1 q2 (-1), A5 (-1) q0 q1 q2 (-1), A5 (-1) (-1) (-1) (-1) (-1), A5 (-1) d0 d1 d2 (-1)]) h0 h1 h2 rfl rfl rfl rfl rfl rfl rfl rfl rfl) (own_same rfl rfl) (own_same rfl rfl) (fun h => absurd h (by decide))
theorem own_130 (v12 v13 v14 v15 : Int32) (v16 v18 v20 v22 v24 v26 : Int64) (H : List Obj) : m0_b130 v12 v13 v14 v15 v16 v18 v20 v22 v24 v26 H = m0_b219 v12 v13 v14 v15 v16 v18 v20 v22 v24 v26 H := by
  have z : ¬ (1 : Int32) = 0 := by decide
  unfold m0_b130; unfold m0_b135; rw [if_neg z]; unfold m0_b149; rw [if_neg z]; unfold m0_b163; rw [if_neg z]; unfold m0_b177; rw [if_neg z]; unfold m0_b191; rw [if_neg z]; unfold m0_b205; rw [if_neg z]
theorem own_134 (v12 v13 v14 v15 : Int32) (v16 v18 v20 v22 v24 v26 : Int64) (H : List Obj) : m0_b134 v12 v13 v14 v15 v16 v18 v20 v22 v24 v26 H = m0_b219 v12 v13 v14 v15 v22 v24 v26 v16 v18 v20 H := by
  have z : (0 : Int32) = 0 := rfl
  unfold m0_b134; unfold m0_b135; rw [if_pos z]; unfold m0_b149; rw [if_pos z]; unfold m0_b163; rw [if_pos z]; unfold m0_b177; rw [if_pos z]; unfold m0_b191; rw [if_pos z]; unfold m0_b205; rw [if_pos z]
theorem own_bit (x : Int64) : (XT.ushrL x 63).toInt32 = 0 ∨ (XT.ushrL x 63).toInt32 = 1 := by
  rw [own_sgn]
  rcases own_bor x with ⟨-, e⟩ | ⟨-, e⟩ <;> rw [e]
  · exact Or.inr (by decide)
  · exact Or.inl (by decide)
theorem own_219 {oa ob od al : Int32} {p0 p1 p2 q0 q1 q2 : Int64} (hoa : oa = 0 ∨ oa = 1) (hob : ob = 0 ∨ ob = 1) (hod : od = 0 ∨ od = 1 ∨ od = 2) (hal : al = 0 ∨ al = 1)
    (a0 : 0 ≤ p0.toInt) (a1 : 0 ≤ p1.toInt) (a2 : 0 ≤ p2.toInt) (b0 : 0 ≤ q0.toInt) (b1 : 0 ≤ q1.toInt) (b2 : 0 ≤ q2.toInt) (hge : q2.toInt < p2.toInt ∨ (q2.toInt = p2.toInt ∧ (q1.toInt < p1.toInt ∨ (q1.toInt = p1.toInt ∧ q0.toInt ≤ p0.toInt)))) : ∃ Hf, m0_b219 oa ob od al p0 p1 p2 q0 q1 q2 [] = some (1, Hf) := by
  have z0 : (0 : Int64).toInt = 0 := by decide
  have e0 := own_subL (x := p0) (y := q0) rfl rfl (k_5 ⟨a0, (rng64 p0).2⟩ ⟨b0, (rng64 q0).2⟩)
  have e1 := own_subL (x := p1) (y := q1) rfl rfl (k_5 ⟨a1, (rng64 p1).2⟩ ⟨b1, (rng64 q1).2⟩)
  have e2 := own_subL (x := p2) (y := q2) rfl rfl (k_5 ⟨a2, (rng64 p2).2⟩ ⟨b2, (rng64 q2).2⟩)
  have g0 := own_m1i (p0 - q0)
  rw [e0] at g0
  have f1 := own_subL e1 g0 (k_6 ⟨a1, (rng64 p1).2⟩ ⟨b1, (rng64 q1).2⟩)
  have g1 := own_m1i (p1 - q1 - m1 (p0 - q0))
  rw [f1] at g1
  have f2 := own_subL e2 g1 (k_6 ⟨a2, (rng64 p2).2⟩ ⟨b2, (rng64 q2).2⟩)
  have hn : ¬ (p2 - q2 - m1 (p1 - q1 - m1 (p0 - q0))) < 0 := by
    rw [own_ltL, f2, z0]; exact k_7 hge
  have h0 : ((p0 - q0 - 0) &&& 9223372036854775807) = m2 (p0 - q0) := by rw [own_sz]; exact own_lim _
  have h1 : ((p1 - q1 - XT.ushrL (p0 - q0 - 0) 63) &&& 9223372036854775807) = m2 (p1 - q1 - m1 (p0 - q0)) := by rw [own_sz, own_sgn]; exact own_lim _
  have h2 : ((p2 - q2 - XT.ushrL (p1 - q1 - XT.ushrL (p0 - q0 - 0) 63) 63) &&& 9223372036854775807) = p2 - q2 - m1 (p1 - q1 - m1 (p0 - q0)) := by rw [own_sz, own_sgn, own_sgn, own_lim]; exact own_lim0 hn
  unfold m0_b219
  rw [if_neg hn]
  rcases hal with rfl | rfl <;> rcases hoa with rfl | rfl <;> rcases hob with rfl | rfl
  · rcases hod with rfl | rfl | rfl
    · exact own_c0000 _ _ _ _ _ _ _ _ _ h0 h1 h2
    · exact own_c0001 _ _ _ _ _ _ _ _ _ h0 h1 h2
    · exact own_c0002 _ _ _ _ _ _ _ _ _ h0 h1 h2
  · rcases hod with rfl | rfl | rfl
    · exact own_c0010 _ _ _ _ _ _ _ _ _ h0 h1 h2
    · exact own_c0011 _ _ _ _ _ _ _ _ _ h0 h1 h2
    · exact own_c0012 _ _ _ _ _ _ _ _ _ h0 h1 h2
  · rcases hod with rfl | rfl | rfl
    · exact own_c0100 _ _ _ _ _ _ _ _ _ h0 h1 h2
    · exact own_c0101 _ _ _ _ _ _ _ _ _ h0 h1 h2
    · exact own_c0102 _ _ _ _ _ _ _ _ _ h0 h1 h2
  · rcases hod with rfl | rfl | rfl
    · exact own_c0110 _ _ _ _ _ _ _ _ _ h0 h1 h2
    · exact own_c0111 _ _ _ _ _ _ _ _ _ h0 h1 h2
    · exact own_c0112 _ _ _ _ _ _ _ _ _ h0 h1 h2
  · exact own_c100 _ _ _ _ _ _ _ _ _ _ h0 h1 h2
  · exact own_c101 _ _ _ _ _ _ _ _ _ _ h0 h1 h2
  · exact own_c110 _ _ _ _ _ _ _ _ _ _ h0 h1 h2
  · exact own_c111 _ _ _ _ _ _ _ _ _ _ h0 h1 h2
theorem plain (i0 : Int64) (i1 : Int64) (i2 : Int64) (i3 : Int64) (i4 : Int64) (i5 : Int64) : ∃ Hf, m0 i0 i1 i2 i3 i4 i5 [] = some (1, Hf) := by
  show ∃ Hf, m0_b0 i0 i1 i2 i3 i4 i5 [] = some (1, Hf)
  unfold m0_b0
  have ha := own_bit i1; have hb := own_bit i2
  have hd : (XT.ushrL i3 63).toInt32 + (XT.ushrL i4 63).toInt32 = 0 ∨ (XT.ushrL i3 63).toInt32 + (XT.ushrL i4 63).toInt32 = 1 ∨ (XT.ushrL i3 63).toInt32 + (XT.ushrL i4 63).toInt32 = 2 := by
    rcases own_bit i3 with h | h <;> rcases own_bit i4 with g | g <;> rw [h, g] <;> decide
  generalize (XT.ushrL i1 63).toInt32 = oa at *
  generalize (XT.ushrL i2 63).toInt32 = ob at *
  generalize (XT.ushrL i3 63).toInt32 + (XT.ushrL i4 63).toInt32 = od at *
  have key : ∀ al : Int32, al = 0 ∨ al = 1 → ∃ Hf, m0_b42 i0 i1 i2 i3 i4 i5 oa ob od al [] = some (1, Hf) := by
    intro al hal
    have a0 : (i0 &&& 9223372036854775807).toInt = i0.toInt % 9223372036854775808 := c_maskL i0 9223372036854775807 63 (by decide) (by decide)
    have a1 : (i1 &&& 9223372036854775807).toInt = i1.toInt % 9223372036854775808 := c_maskL i1 9223372036854775807 63 (by decide) (by decide)
    have a2 : (i2 &&& 9223372036854775807).toInt = i2.toInt % 9223372036854775808 := c_maskL i2 9223372036854775807 63 (by decide) (by decide)
    have b0 : (i3 &&& 9223372036854775807).toInt = i3.toInt % 9223372036854775808 := c_maskL i3 9223372036854775807 63 (by decide) (by decide)
    have b1 : (i4 &&& 9223372036854775807).toInt = i4.toInt % 9223372036854775808 := c_maskL i4 9223372036854775807 63 (by decide) (by decide)
    have b2 : (i5 &&& 9223372036854775807).toInt = i5.toInt % 9223372036854775808 := c_maskL i5 9223372036854775807 63 (by decide) (by decide)
    unfold m0_b42
    generalize i0 &&& 9223372036854775807 = x0 at *
    generalize i1 &&& 9223372036854775807 = x1 at *
    generalize i2 &&& 9223372036854775807 = x2 at *
    generalize i3 &&& 9223372036854775807 = y0 at *
    generalize i4 &&& 9223372036854775807 = y1 at *
    generalize i5 &&& 9223372036854775807 = y2 at *
    have G1 : (y2.toInt < x2.toInt ∨ (y2.toInt = x2.toInt ∧ (y1.toInt < x1.toInt ∨ (y1.toInt = x1.toInt ∧ y0.toInt ≤ x0.toInt)))) → ∃ Hf, m0_b130 oa ob od al x0 x1 x2 y0 y1 y2 [] = some (1, Hf) := fun h => by
      rw [own_130]; exact own_219 ha hb hd hal (by omega) (by omega) (by omega) (by omega) (by omega) (by omega) h
    have G2 : (x2.toInt < y2.toInt ∨ (x2.toInt = y2.toInt ∧ (x1.toInt < y1.toInt ∨ (x1.toInt = y1.toInt ∧ x0.toInt ≤ y0.toInt)))) → ∃ Hf, m0_b134 oa ob od al x0 x1 x2 y0 y1 y2 [] = some (1, Hf) := fun h => by
      rw [own_134]; exact own_219 ha hb hd hal (by omega) (by omega) (by omega) (by omega) (by omega) (by omega) h
    simp only [own_ltL, own_eqL]
    split
    · exact G1 (by omega)
    · split
      · split
        · exact G1 (by omega)
        · split
          · split
            · exact G2 (by omega)
            · exact G1 (by omega)
          · exact G2 (by omega)
      · exact G2 (by omega)
  unfold m0_b30
  split
  · exact key 1 (Or.inr rfl)
  · exact key 0 (Or.inl rfl)

theorem comes_1 {Post : Tables → Env → Array Value → State → Outcome → State → Prop} (hpost : ∀ tb e args s v u, (limb_1_1.after args s (.returned v) u = true ∧ limb_1_2.after args s (.returned v) u = true ∧ True) → FrameEnd s (.returned v) u (Jvm.fieldLocs frame_1_writes args s ++ Jvm.arrayLocs frame_1_arrays args s ++ Jvm.staticLocs frame_1_statics s) 24 128 → Post tb e args s (.returned v) u) :
    ArmFor flags0 classFile x code maxLocals ret World_1 tables_1 room_1 Calls_1 rest_1 Pre_1 Post := by
  intro l hfl _ _ p e ha hc hk s m args below hf hA hF happ hP
  obtain ⟨hcalls, hrest, hpre⟩ := hP
  obtain ⟨-, -, -, hnamed, -, -, -, hat⟩ := (Spec.applies_iff hf).mp happ
  obtain ⟨hg, hn⟩ := and_e (Cond.before_iff.mp (show (Jvm.Cond.and given_1 narrow_1).before args s = true from hpre))
  obtain ⟨h1, g0⟩ := and_e hg
  obtain ⟨w0, w1, w2, w3, w4, w5, rfl⟩ : ∃ w0 w1 w2 w3 w4 w5 : Value, args = #[w0, w1, w2, w3, w4, w5] := by
    have hs : args.size = 6 := by simpa [Cond.value, given_1] using h1
    obtain ⟨L⟩ := args
    match L, hs with
    | [w0, w1, w2, w3, w4, w5], _ => exact ⟨w0, w1, w2, w3, w4, w5, rfl⟩
  have hw := fun d (hd : d ∈ tables_1) => atoms_spec (ws := Jvm.Cond.code x code maxLocals ret :: tables_1) hat d (List.mem_cons_of_mem _ hd)
  obtain ⟨a0, g1⟩ := and_e g0
  obtain ⟨i0, e0⟩ := isL_v a0
  obtain rfl : w0 = (.long i0) := Option.some.inj e0
  obtain ⟨a1, g2⟩ := and_e g1
  obtain ⟨i1, e1⟩ := isL_v a1
  obtain rfl : w1 = (.long i1) := Option.some.inj e1
  obtain ⟨a2, g3⟩ := and_e g2
  obtain ⟨i2, e2⟩ := isL_v a2
  obtain rfl : w2 = (.long i2) := Option.some.inj e2
  obtain ⟨a3, g4⟩ := and_e g3
  obtain ⟨i3, e3⟩ := isL_v a3
  obtain rfl : w3 = (.long i3) := Option.some.inj e3
  obtain ⟨a4, g5⟩ := and_e g4
  obtain ⟨i4, e4⟩ := isL_v a4
  obtain rfl : w4 = (.long i4) := Option.some.inj e4
  obtain ⟨i5, e5⟩ := isL_v g5
  obtain rfl : w5 = (.long i5) := Option.some.inj e5
  obtain ⟨Hf, hlaw⟩ := plain i0 i1 i2 i3 i4 i5
  obtain ⟨n, o, h1, h2, h3, _, L, rfl, ⟨rfl, N⟩, hq⟩ := law_of (l := l) (s := s) (as := [(.long i0), (.long i1), (.long i2), (.long i3), (.long i4), (.long i5)]) (k0 := 6) (k1 := 30) hw pn0 rfl rfl (fun K O => m0_t0 O i0 i1 i2 i3 i4 i5 [] 1 Hf hlaw) p e ha hc hk s m _ below hf ((Spec.applies_iff_loose hf).mp happ).1 ⟨rfl, State.Warmed39.refl s, rfl⟩ trivial
  refine ⟨n, _, h1, h2, h3, hpost _ _ _ _ _ _ ⟨Cond.after_iff.mpr rfl, Cond.after_iff.mpr (eq_i res_at (Term.int_eval (1)) rfl), trivial⟩ ⟨hq.1, hq.2.1, (hq.2.2.sift fun y hy => Or.inr (N y hy)).mono (by decide) (by decide)⟩⟩
theorem main_1_1 : Claimed_1_1 := comes_1 fun _ _ _ _ _ _ h hF => ⟨h.1, hF⟩
theorem main_1_2 : Claimed_1_2 := comes_1 fun _ _ _ _ _ _ h hF => ⟨h.2.1, hF⟩
end Jvm.Pilot.@@N@@
namespace Jvm.Pilot.@@N@@
open Jvm Jvm.ClassFile Sem Op Lib Jvm.Free Jvm.Stand Jvm.Pilot.@@N@@.Jvm.D
/-! MADE BY PROGRAM (witnessworld.py) out of the Statement's table words and the real class files: 11 classes; the members and pool entries that the words name. The judged class is class 1, her method 4. -/
namespace start1
open Jvm.ClassFile
def u (s : String) : CpInfo := .utf8 (stringToUtf16 s)
/-- a pool by its gaps: so many unusable entries, then the entry; so many at the end -/
def gap : Nat → List CpInfo → List CpInfo
  | 0, r => r
  | n + 1, r => .unusable :: gap n r
def poolList (es : List (Nat × CpInfo)) (last : Nat) : List CpInfo := es.foldr (fun e r => gap e.1 (e.2 :: r)) (gap last [])
def pool (es : List (Nat × CpInfo)) (last : Nat) : Array CpInfo := ⟨poolList es last⟩
def fileOf (pool : Array CpInfo) (this : Nat) (attrs : Array Attribute := #[]) (ms : Array MethodInfo := #[]) (fl : Nat := 33) (sup : Nat := 0) (ifs : Array Nat := #[]) (fds : Array FieldInfo := #[]) : ClassFile where
  minorVersion := 0
  majorVersion := 65
  constantPool := pool
  accessFlags := fl
  thisClass := this
  superClass := sup
  interfaces := ifs
  fields := fds
  methods := ms
  attributes := attrs
def plain (name : String) (sup : Option ClassId) : Class where
  name := name
  kind := .ordinary
  loader := none
  accessFlags := 33
  super := sup
  interfaces := #[]
  cf := none
  fields := #[]
  methods := #[]
  instanceTypes := #[]
  staticTypes := #[]
  resolved := #[]
  callSites := []
  init := .initialized
  statics := none
  mirror := none

def pool0 : Array CpInfo := pool [(5, u "<init>"), (0, u "()V"), (1, .class_ 10), (1, u "java/lang/Object")] 113

def k0m0 : Method := { name := "<init>", desc := "()V", sig := { parameters := [], returnType := none }, accessFlags := 1, code := none }
/-- java/lang/Object -/
def k0 : Class := { plain "java/lang/Object" none with
  accessFlags := 33
  interfaces := #[]
  cf := some (fileOf pool0 8 #[] #[{ accessFlags := 1, nameIndex := 5, descriptorIndex := 6, attributes := #[] }] 33 0 #[] #[])
  fields := #[]
  methods := #[k0m0]
  instanceTypes := #[]
  staticTypes := #[]
  resolved := Array.replicate 124 none
  statics := none }

def pool1 : Array CpInfo := pool [(4, .class_ 6), (1, u "java/lang/Object"), (0, u "<init>"), (0, u "()V"), (0, .class_ 10), (0, u "com/example/waystation/waystation/placement/LimbsSubtractPinLaw"), (0, .long 9223372036854775807), (1, .methodref 9 14), (0, .nameAndType 15 16), (0, u "bor"), (0, u "(J)J"), (0, .methodref 9 18), (0, .nameAndType 19 16), (0, u "lim"), (0, .long 18446744073709551615), (1, .methodref 23 24), (0, .class_ 25), (0, .nameAndType 26 27), (0, u "com/example/waystation/waystation/placement/Limbs"), (0, u "subtract"), (0, u "([JI[JI[JII)V"), (0, .methodref 9 29), (0, .nameAndType 30 31), (0, u "eq5"), (0, u "([J[J)Z"), (0, u "M"), (0, u "J"), (4, u "law"), (0, u "(JJJJJJ)Z")] 4

def k1m0 : Method := { name := "<init>", desc := "()V", sig := { parameters := [], returnType := none }, accessFlags := 1, code := none }
def k1c1 : Code := { maxStack := 4, maxLocals := 2, code := method_2_code, exceptionTable := #[], attributes := #[] }
def k1m1 : Method := { name := "lim", desc := "(J)J", sig := { parameters := [.long], returnType := some .long }, accessFlags := 10, code := some k1c1 }
def k1c2 : Code := { maxStack := 4, maxLocals := 2, code := method_3_code, exceptionTable := #[], attributes := #[] }
def k1m2 : Method := { name := "bor", desc := "(J)J", sig := { parameters := [.long], returnType := some .long }, accessFlags := 10, code := some k1c2 }
def k1c3 : Code := { maxStack := 4, maxLocals := 2, code := method_4_code, exceptionTable := #[], attributes := #[] }
def k1m3 : Method := { name := "eq5", desc := "([J[J)Z", sig := { parameters := [(.array .long), (.array .long)], returnType := some .boolean }, accessFlags := 10, code := some k1c3 }
def k1c4 : Code := { maxStack := 7, maxLocals := 66, code := code, exceptionTable := #[], attributes := #[] }
def k1m4 : Method := { name := "law", desc := "(JJJJJJ)Z", sig := { parameters := [.long, .long, .long, .long, .long, .long], returnType := some .boolean }, accessFlags := 9, code := some k1c4 }
/-- com/example/waystation/waystation/placement/LimbsSubtractPinLaw -/
def k1 : Class := { plain "com/example/waystation/waystation/placement/LimbsSubtractPinLaw" (some 0) with
  accessFlags := 49
  interfaces := #[]
  cf := some (fileOf pool1 9 #[] #[{ accessFlags := 1, nameIndex := 7, descriptorIndex := 8, attributes := #[] }, { accessFlags := 10, nameIndex := 19, descriptorIndex := 16, attributes := #[] }, { accessFlags := 10, nameIndex := 15, descriptorIndex := 16, attributes := #[] }, { accessFlags := 10, nameIndex := 30, descriptorIndex := 31, attributes := #[] }, { accessFlags := 9, nameIndex := 38, descriptorIndex := 39, attributes := #[] }] 49 4 #[] #[{ accessFlags := 26, nameIndex := 32, descriptorIndex := 33, attributes := #[] }])
  fields := #[{ name := "M", type := .long, accessFlags := 26, slot := 0, constantValue := 0 }]
  methods := #[k1m0, k1m1, k1m2, k1m3, k1m4]
  instanceTypes := #[]
  staticTypes := #[.long]
  resolved := Array.replicate 44 none
  statics := none }

def pool2 : Array CpInfo := pool [(4, .class_ 6), (1, u "java/lang/Object"), (0, u "<init>"), (0, u "()V"), (6, .class_ 16), (0, u "com/example/waystation/waystation/placement/Limbs"), (28, .long 9223372036854775807), (13, u "BITS"), (0, u "I"), (2, u "MASK"), (0, u "J"), (8, u "([JI[JI[JII)V"), (0, u "subtract")] 22

def k2m0 : Method := { name := "<init>", desc := "()V", sig := { parameters := [], returnType := none }, accessFlags := 2, code := none }
def k2c1 : Code := { maxStack := 6, maxLocals := 12, code := prog_23_method_5_code, exceptionTable := #[], attributes := #[] }
def k2m1 : Method := { name := "subtract", desc := "([JI[JI[JII)V", sig := { parameters := [(.array .long), .int, (.array .long), .int, (.array .long), .int, .int], returnType := none }, accessFlags := 8, code := some k2c1 }
/-- com/example/waystation/waystation/placement/Limbs -/
def k2 : Class := { plain "com/example/waystation/waystation/placement/Limbs" (some 0) with
  accessFlags := 48
  interfaces := #[]
  cf := some (fileOf pool2 15 #[] #[{ accessFlags := 2, nameIndex := 7, descriptorIndex := 8, attributes := #[] }, { accessFlags := 8, nameIndex := 74, descriptorIndex := 73, attributes := #[] }] 48 4 #[] #[{ accessFlags := 26, nameIndex := 59, descriptorIndex := 60, attributes := #[] }, { accessFlags := 26, nameIndex := 63, descriptorIndex := 64, attributes := #[] }])
  fields := #[{ name := "BITS", type := .int, accessFlags := 26, slot := 0, constantValue := 0 }, { name := "MASK", type := .long, accessFlags := 26, slot := 1, constantValue := 0 }]
  methods := #[k2m0, k2m1]
  instanceTypes := #[]
  staticTypes := #[.int, .long]
  resolved := Array.replicate 97 none
  statics := none }

def pool3 : Array CpInfo := pool [(1, u "java/lang/Cloneable"), (0, .class_ 1), (0, u "java/lang/Object"), (0, .class_ 3)] 3

/-- java/lang/Cloneable -/
def k3 : Class := { plain "java/lang/Cloneable" (some 0) with
  accessFlags := 1537
  interfaces := #[]
  cf := some (fileOf pool3 2 #[] #[] 1537 4 #[] #[])
  fields := #[]
  methods := #[]
  instanceTypes := #[]
  staticTypes := #[]
  resolved := Array.replicate 8 none
  statics := none }

def pool4 : Array CpInfo := pool [(1, u "java/io/Serializable"), (0, .class_ 1), (0, u "java/lang/Object"), (0, .class_ 3)] 3

/-- java/io/Serializable -/
def k4 : Class := { plain "java/io/Serializable" (some 0) with
  accessFlags := 1537
  interfaces := #[]
  cf := some (fileOf pool4 2 #[] #[] 1537 4 #[] #[])
  fields := #[]
  methods := #[]
  instanceTypes := #[]
  staticTypes := #[]
  resolved := Array.replicate 8 none
  statics := none }

/-- the primitive byte -/
def k5 : Class := { plain "byte" none with kind := .primitive 'B', accessFlags := 0x411 }
/-- [B -/
def k6 : Class := { plain "[B" (some 0) with kind := .array 5 .byte, interfaces := #[3, 4], accessFlags := 1041 }

/-- the primitive int -/
def k7 : Class := { plain "int" none with kind := .primitive 'I', accessFlags := 0x411 }
/-- [I -/
def k8 : Class := { plain "[I" (some 0) with kind := .array 7 .int, interfaces := #[3, 4], accessFlags := 1041 }

/-- the primitive long -/
def k9 : Class := { plain "long" none with kind := .primitive 'J', accessFlags := 0x411 }
/-- [J -/
def k10 : Class := { plain "[J" (some 0) with kind := .array 9 .long, interfaces := #[3, 4], accessFlags := 1041 }

def heap : Heap := #[]
def classes : Array Class := #[k0, k1, k2, k3, k4, k5, k6, k7, k8, k9, k10]
def interned : List (Array UInt16 × Addr) := []
def slotsUsed : Nat := 0
def theMethod : MethodId := ⟨1, 4⟩
def args0 : Array Value := #[.long 5, .long 5, .long 5, .long 5, .long 5, .long 5]
def aboutOver (below : List Frame) : State where
  vm := { classes := classes, interned := interned.toArray }
  heap := heap
  slotsUsed := slotsUsed
  threads := #[{ frames := .invoking theMethod args0 :: below }]
def below0 : List Frame := [.native { method := ⟨0, 0⟩, args := #[] }]
def about1 : State := aboutOver below0
def p0 : Program := .bare "" "" ""
def e0 : Env := launch0.env 0 0 0
theorem w_frames : about1.frames = Frame.invoking theMethod args0 :: below0 := rfl
set_option maxRecDepth 65536 in
theorem w_args : argsFit about1.vm theMethod args0 = true := by decide +kernel
set_option maxRecDepth 65536 in
theorem w_heap : heapFits about1 = true := by decide +kernel
set_option maxRecDepth 65536 in
theorem w_runnable : about1.curStatus? = some .runnable := by decide +kernel
set_option maxRecDepth 65536 in
theorem w_alone : about1.alone = true := by decide +kernel
set_option maxRecDepth 65536 in
theorem w_named : about1.methodNamed? x = some theMethod := by decide +kernel
set_option maxRecDepth 65536 in
theorem w_hears : about1.hears theMethod below0 = true := by decide +kernel
set_option maxRecDepth 65536 in
theorem w_ripe : about1.ripe theMethod args0 below0 = true := by decide +kernel
theorem w_running : about1.status = .running := rfl
set_option maxRecDepth 65536 in
theorem w_room : about1.hasRoom e0.platform room_1 = true :=
  launch0.hasRoom_least _ room_1 (by decide +kernel) (by decide +kernel) (by decide +kernel) (by decide +kernel) (by decide +kernel) (by decide +kernel)
theorem allAtoms_all (ts : List Jvm.Cond) (a : Array Jvm.Value) (st : Jvm.State) : (allAtoms ts).before a st = ts.all (fun c => c.before a st) := by
  induction ts with
  | nil => rfl
  | cons c t ih =>
    show (Jvm.Cond.and c (allAtoms t)).before a st = _
    rw [Jvm.Cond.before_and, ih, List.all_cons]
def words1 : List Jvm.Cond := Jvm.Cond.code x code maxLocals ret :: tables_1
/-- a 'code' word, met by the world's own term for the bytes: nothing is compared byte by byte -/
theorem code_word {y : MethodName} {bytes : ByteArray} {mx : Nat} {rt : Option FieldType} {a : Array Value} {s : State} {m : MethodId} {meth : Method} {c : Code} (h1 : s.methodNamed? y = some m) (h2 : s.vm.method? m = some meth) (h3 : meth.code = some c) (h4 : c.code = bytes)
    (h5 : (c.maxLocals == mx && c.exceptionTable.isEmpty && decide (c.maxStack ≤ mostOperands) && decide (meth.sig.returnType = rt) && !meth.locks && decide (parseMethodDescriptor y.desc = some meth.sig)) = true) : (Jvm.Cond.code y bytes mx rt).before a s = true := by
  simp only [Bool.and_eq_true, beq_iff_eq, Bool.not_eq_true', decide_eq_true_eq] at h5
  obtain ⟨⟨⟨⟨⟨g1, g2⟩, g3⟩, g4⟩, g5⟩, g6⟩ := h5
  simp [Cond.before, Cond.holds, Cond.value, h1, h2, h3, h4, g1, g2, g3, g4, g5, g6]
def isCode : Jvm.Cond → Bool
  | .code _ _ _ _ => true
  | _ => false
theorem all_split {L : List Jvm.Cond} {P : Jvm.Cond → Bool} (h1 : L.all (fun c => isCode c || P c) = true) (h2 : ∀ c ∈ L.filter isCode, P c = true) : L.all P = true := by
  refine List.all_eq_true.mpr fun c hc => ?_
  have h := List.all_eq_true.mp h1 c hc
  rcases Bool.eq_false_or_eq_true (isCode c) with hi | hi
  · exact h2 c (List.mem_filter.mpr ⟨hc, hi⟩)
  · simpa [hi] using h
set_option maxRecDepth 65536 in
theorem w_c0 : (Jvm.Cond.code x code maxLocals ret).before args0 about1 = true := code_word (m := ⟨1, 4⟩) (meth := k1m4) (c := k1c4) (by decide +kernel) rfl rfl rfl (by decide +kernel)
set_option maxRecDepth 65536 in
theorem w_c1 : (Jvm.Cond.code ({ cls := "com/example/waystation/waystation/placement/LimbsSubtractPinLaw", name := "bor", desc := "(J)J" } : Jvm.MethodName) method_3_code (2 : Nat) (Option.some Jvm.ClassFile.FieldType.long)).before args0 about1 = true := code_word (m := ⟨1, 2⟩) (meth := k1m2) (c := k1c2) (by decide +kernel) rfl rfl rfl (by decide +kernel)
set_option maxRecDepth 65536 in
theorem w_c2 : (Jvm.Cond.code ({ cls := "com/example/waystation/waystation/placement/LimbsSubtractPinLaw", name := "lim", desc := "(J)J" } : Jvm.MethodName) method_2_code (2 : Nat) (Option.some Jvm.ClassFile.FieldType.long)).before args0 about1 = true := code_word (m := ⟨1, 1⟩) (meth := k1m1) (c := k1c1) (by decide +kernel) rfl rfl rfl (by decide +kernel)
set_option maxRecDepth 65536 in
theorem w_c3 : (Jvm.Cond.code ({ cls := "com/example/waystation/waystation/placement/Limbs", name := "subtract", desc := "([JI[JI[JII)V" } : Jvm.MethodName) prog_23_method_5_code (12 : Nat) (Option.none : Option Jvm.ClassFile.FieldType)).before args0 about1 = true := code_word (m := ⟨2, 1⟩) (meth := k2m1) (c := k2c1) (by decide +kernel) rfl rfl rfl (by decide +kernel)
set_option maxRecDepth 65536 in
theorem w_c4 : (Jvm.Cond.code ({ cls := "com/example/waystation/waystation/placement/LimbsSubtractPinLaw", name := "eq5", desc := "([J[J)Z" } : Jvm.MethodName) method_4_code (2 : Nat) (Option.some Jvm.ClassFile.FieldType.boolean)).before args0 about1 = true := code_word (m := ⟨1, 3⟩) (meth := k1m3) (c := k1c3) (by decide +kernel) rfl rfl rfl (by decide +kernel)
def codes1 : List Jvm.Cond := [Jvm.Cond.code x code maxLocals ret, Jvm.Cond.code ({ cls := "com/example/waystation/waystation/placement/LimbsSubtractPinLaw", name := "bor", desc := "(J)J" } : Jvm.MethodName) method_3_code (2 : Nat) (Option.some Jvm.ClassFile.FieldType.long), Jvm.Cond.code ({ cls := "com/example/waystation/waystation/placement/LimbsSubtractPinLaw", name := "lim", desc := "(J)J" } : Jvm.MethodName) method_2_code (2 : Nat) (Option.some Jvm.ClassFile.FieldType.long), Jvm.Cond.code ({ cls := "com/example/waystation/waystation/placement/Limbs", name := "subtract", desc := "([JI[JI[JII)V" } : Jvm.MethodName) prog_23_method_5_code (12 : Nat) (Option.none : Option Jvm.ClassFile.FieldType), Jvm.Cond.code ({ cls := "com/example/waystation/waystation/placement/LimbsSubtractPinLaw", name := "eq5", desc := "([J[J)Z" } : Jvm.MethodName) method_4_code (2 : Nat) (Option.some Jvm.ClassFile.FieldType.boolean)]
set_option maxRecDepth 65536 in
theorem codes_eq : words1.filter isCode = codes1 := rfl
theorem w_codes : ∀ c ∈ words1.filter isCode, c.before args0 about1 = true := by
  rw [codes_eq]
  intro c hc
  simp only [codes1, List.mem_cons, List.not_mem_nil, or_false] at hc
  rcases hc with rfl | rfl | rfl | rfl | rfl
  · exact w_c0
  · exact w_c1
  · exact w_c2
  · exact w_c3
  · exact w_c4
set_option maxRecDepth 65536 in
theorem w_t1 : words1.all (fun c => isCode c || c.before args0 about1) = true := by decide +kernel
theorem w_tables : (allAtoms (Jvm.Cond.code x code maxLocals ret :: tables_1)).before args0 about1 = true := by
  rw [allAtoms_all]
  show words1.all (fun c => c.before args0 about1) = true
  refine all_split ?_ w_codes
  rw [w_t1]
set_option maxRecDepth 65536 in
theorem w_case : (Jvm.Cond.and given_1 narrow_1).before args0 about1 = true := by decide +kernel
theorem w_applies : (headSpec (Jvm.Cond.code x code maxLocals ret :: tables_1) room_1).applies x e0.platform about1 = true :=
  (Spec.applies_iff w_frames).mpr ⟨w_running, w_runnable, w_alone, w_named, w_hears, w_ripe, w_room, w_tables⟩
theorem atStart : AtStart classFile x code maxLocals ret World_1 tables_1 room_1 Calls_1 rest_1 Pre_1 launch0 p0 e0 about1 theMethod args0 below0 :=
  ⟨lists_1, trivial, launch0.admits_env _ _ _, launch0.least_env, fairChoices_fair.cas, fairChoices_fair.clock, w_frames, w_args, w_heap, w_applies, trivial, trivial, w_case⟩
end start1
theorem witness_1 : WitnessClaimed_1 := ⟨start1.p0, start1.e0, start1.about1, start1.theMethod, start1.args0, start1.below0, start1.atStart⟩
end Jvm.Pilot.@@N@@
