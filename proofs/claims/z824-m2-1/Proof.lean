import JvmDerived
import JvmDerived.Pilot.@@N@@Statement
import JvmDerived.Pilot.@@N@@Code
set_option linter.unusedVariables false
set_option linter.unusedSimpArgs false
set_option maxRecDepth 65536
set_option maxHeartbeats 4000000
namespace Jvm.Pilot.@@N@@
open Jvm Jvm.ClassFile Sem Op Lib Jvm.Free Jvm.Stand Jvm.LawKit Jvm.RoadKit Bundle Jvm.Pilot.@@N@@.Jvm.D
theorem tw0 : Jvm.Cond.constantLong "com/example/waystation/waystation/placement/LimbsAddPinLaw" (9 : Nat) (9223372036854775807 : Int64) ∈ tables_1 := List.mem_of_getElem? (i := 0) rfl
theorem tw1 : Jvm.Cond.constant "com/example/waystation/waystation/placement/LimbsAddPinLaw" (11 : Nat) (2147483647 : Int32) ∈ tables_1 := List.mem_of_getElem? (i := 1) rfl
theorem tw2 : Jvm.Cond.arrayClass FieldType.long ∈ tables_1 := List.mem_of_getElem? (i := 2) rfl
theorem tw3 : Jvm.Cond.constantLong "com/example/waystation/waystation/placement/LimbsAddPinLaw" (12 : Nat) (11 : Int64) ∈ tables_1 := List.mem_of_getElem? (i := 3) rfl
theorem tw4 : Jvm.Cond.constantLong "com/example/waystation/waystation/placement/LimbsAddPinLaw" (14 : Nat) (12 : Int64) ∈ tables_1 := List.mem_of_getElem? (i := 4) rfl
theorem tw5 : Jvm.Cond.constantLong "com/example/waystation/waystation/placement/LimbsAddPinLaw" (16 : Nat) (13 : Int64) ∈ tables_1 := List.mem_of_getElem? (i := 5) rfl
theorem tw6 : Jvm.Cond.constantLong "com/example/waystation/waystation/placement/LimbsAddPinLaw" (18 : Nat) (14 : Int64) ∈ tables_1 := List.mem_of_getElem? (i := 6) rfl
theorem tw7 : Jvm.Cond.constantLong "com/example/waystation/waystation/placement/LimbsAddPinLaw" (20 : Nat) (21 : Int64) ∈ tables_1 := List.mem_of_getElem? (i := 7) rfl
theorem tw8 : Jvm.Cond.constantLong "com/example/waystation/waystation/placement/LimbsAddPinLaw" (22 : Nat) (22 : Int64) ∈ tables_1 := List.mem_of_getElem? (i := 8) rfl
theorem tw9 : Jvm.Cond.constantLong "com/example/waystation/waystation/placement/LimbsAddPinLaw" (24 : Nat) (23 : Int64) ∈ tables_1 := List.mem_of_getElem? (i := 9) rfl
theorem tw10 : Jvm.Cond.constantLong "com/example/waystation/waystation/placement/LimbsAddPinLaw" (26 : Nat) (24 : Int64) ∈ tables_1 := List.mem_of_getElem? (i := 10) rfl
theorem tw11 : Jvm.Cond.constantLong "com/example/waystation/waystation/placement/LimbsAddPinLaw" (28 : Nat) (31 : Int64) ∈ tables_1 := List.mem_of_getElem? (i := 11) rfl
theorem tw12 : Jvm.Cond.constantLong "com/example/waystation/waystation/placement/LimbsAddPinLaw" (30 : Nat) (32 : Int64) ∈ tables_1 := List.mem_of_getElem? (i := 12) rfl
theorem tw13 : Jvm.Cond.constantLong "com/example/waystation/waystation/placement/LimbsAddPinLaw" (32 : Nat) (33 : Int64) ∈ tables_1 := List.mem_of_getElem? (i := 13) rfl
theorem tw14 : Jvm.Cond.constantLong "com/example/waystation/waystation/placement/LimbsAddPinLaw" (34 : Nat) (34 : Int64) ∈ tables_1 := List.mem_of_getElem? (i := 14) rfl
theorem tw15 : Jvm.Cond.methodLink "com/example/waystation/waystation/placement/LimbsAddPinLaw" (36 : Nat) (⟨"com/example/waystation/waystation/placement/Limbs", "add", "([JI[JI[JII)V"⟩ : MethodName) ∈ tables_1 := List.mem_of_getElem? (i := 15) rfl
theorem tw16 : Jvm.Cond.static (⟨"com/example/waystation/waystation/placement/Limbs", "add", "([JI[JI[JII)V"⟩ : MethodName) ∈ tables_1 := List.mem_of_getElem? (i := 16) rfl
theorem tw17 : Jvm.Cond.initialized "com/example/waystation/waystation/placement/Limbs" ∈ tables_1 := List.mem_of_getElem? (i := 17) rfl
theorem tw18 : Jvm.Cond.code (⟨"com/example/waystation/waystation/placement/Limbs", "add", "([JI[JI[JII)V"⟩ : MethodName) prog_23_method_4_code (12 : Nat) (Option.none : Option FieldType) ∈ tables_1 := List.mem_of_getElem? (i := 18) rfl
theorem tw19 : Jvm.Cond.constantLong "com/example/waystation/waystation/placement/Limbs" (45 : Nat) (9223372036854775807 : Int64) ∈ tables_1 := List.mem_of_getElem? (i := 19) rfl
theorem tw20 : Jvm.Cond.methodLink "com/example/waystation/waystation/placement/LimbsAddPinLaw" (42 : Nat) (⟨"com/example/waystation/waystation/placement/LimbsAddPinLaw", "same", "([J[J)Z"⟩ : MethodName) ∈ tables_1 := List.mem_of_getElem? (i := 20) rfl
theorem tw21 : Jvm.Cond.static (⟨"com/example/waystation/waystation/placement/LimbsAddPinLaw", "same", "([J[J)Z"⟩ : MethodName) ∈ tables_1 := List.mem_of_getElem? (i := 21) rfl
theorem tw22 : Jvm.Cond.initialized "com/example/waystation/waystation/placement/LimbsAddPinLaw" ∈ tables_1 := List.mem_of_getElem? (i := 22) rfl
theorem tw23 : Jvm.Cond.code (⟨"com/example/waystation/waystation/placement/LimbsAddPinLaw", "same", "([J[J)Z"⟩ : MethodName) method_2_code (2 : Nat) (Option.some FieldType.boolean) ∈ tables_1 := List.mem_of_getElem? (i := 23) rfl
def lay (t : Nat) : String × List (String × String) := ("", [])
theorem lay_word (t : Nat) (nd : String × String) (h : nd ∈ (lay t).2) : Jvm.Cond.lays (lay t).1 (lay t).1 nd.1 nd.2 ∈ tables_1 ∨ Jvm.Cond.laysFinal (lay t).1 (lay t).1 nd.1 nd.2 ∈ tables_1 := by simp [lay] at h
theorem lay_parse (t : Nat) (nd : String × String) (h : nd ∈ (lay t).2) : ∃ ty, parseFieldDescriptor nd.2 = some ty := by simp [lay] at h
theorem lay_names (t k k' : Nat) (nd nd' : String × String) (h1 : (lay t).2[k]? = some nd) (h2 : (lay t).2[k']? = some nd') (ne : k ≠ k') : nd.1 ≠ nd'.1 := by simp [lay] at h1
/-! the abstract machine over the library's laws -/
abbrev Obj := Sum (FieldType × List Value) (Nat × List Value)
abbrev Gx := Launch × State × Array Value × Nat
abbrev Kx := Program × Env × Room × State × MethodId × Array Value × List Frame × Method × Code × Nat × Nat
/-- a reference of the model is the number of an own object; the object of number 0 lies at n -/
def sh (n : Nat) : Value → Value
  | .ref i => .ref (n + i)
  | v => v
theorem sh_cat (n : Nat) (v : Value) : (sh n v).category = v.category := by cases v <;> rfl
/-! local variables -/
def Wf (f : Nat → Option Slot) : Prop :=
  (∀ (k : Nat) (v : Value), f k = some (Slot.val v) → v.category = 2 → f (k + 1) = some .second) ∧ (∀ k, f k = some .second → ∃ v : Value, 1 ≤ k ∧ f (k - 1) = some (Slot.val v) ∧ v.category = 2)
def Lrel (n : Nat) (Ls : List (Option Value)) (L : Array Slot) : Prop :=
  L.size = Ls.length ∧ Wf (fun k => L[k]?) ∧ ∀ (k : Nat) (v : Value), Ls[k]? = some (some v) → L[k]? = some (Slot.val (sh n v))
def clr (Ls : List (Option Value)) : Nat → List (Option Value)
  | 0 => Ls
  | j + 1 => match Ls[j]? with
    | some (some w) => if w.category = 2 then Ls.set j none else Ls
    | _ => Ls
def stor (Ls : List (Option Value)) (i : Nat) (v : Value) : Option (List (Option Value)) :=
  if v.category = 2 then (if i + 1 < Ls.length then some (((clr Ls i).set i (some v)).set (i + 1) none) else none) else (if i < Ls.length then some ((clr Ls i).set i (some v)) else none)
theorem wf_gen {f f' : Nat → Option Slot} (hf : Wf f) {i last : Nat} {v : Value} (hl : (v.category = 2 ∧ last = i + 1 ∧ f' (i + 1) = some .second) ∨ (v.category ≠ 2 ∧ last = i)) (h0 : f' i = some (Slot.val v))
    (h1 : ∀ k, k + 1 = i → ∀ w : Value, f k = some (Slot.val w) → w.category = 2 → f' k = some .unset) (h2 : f (last + 1) = some .second → f' (last + 1) = some .unset)
    (h3 : ∀ k, k < i ∨ last < k → f' k = f k ∨ (f' k = some .unset ∧ ((k + 1 = i ∧ ∃ w : Value, f k = some (Slot.val w) ∧ w.category = 2) ∨ (k = last + 1 ∧ f k = some .second)))) : Wf f' := by
  have hc : ∀ k, k = i ∨ (k = i + 1 ∧ last = i + 1 ∧ f' (i + 1) = some .second) ∨ (k < i ∨ last < k) := fun k => by
    rcases hl with ⟨-, a, b⟩ | ⟨-, a⟩
    · by_cases h : k = i; · exact Or.inl h
      by_cases h' : k = i + 1; · exact Or.inr (Or.inl ⟨h', a, b⟩)
      exact Or.inr (Or.inr (by omega))
    · by_cases h : k = i; · exact Or.inl h
      exact Or.inr (Or.inr (by omega))
  have hli : i ≤ last := by omega
  constructor
  · intro k w hk hw
    rcases hc k with rfl | ⟨rfl, -, b⟩ | h
    · rcases hl with ⟨-, -, b⟩ | ⟨a, -⟩
      · exact b
      · rw [h0] at hk; cases hk; exact absurd hw a
    · rw [b] at hk; cases hk
    · rcases h3 k h with q | ⟨q, -⟩
      · rw [q] at hk
        have hs := hf.1 k w hk hw
        by_cases e1 : k + 1 = i
        · have := h1 k e1 w hk hw; rw [q, hk] at this; cases this
        · have h' : k + 1 < i ∨ last < k + 1 := by omega
          rcases h3 (k + 1) h' with q' | ⟨-, ⟨-, w', a, -⟩ | ⟨a, -⟩⟩
          · rw [q']; exact hs
          · rw [hs] at a; cases a
          · omega
      · rw [q] at hk; cases hk
  · intro k hk
    rcases hc k with rfl | ⟨rfl, a, b⟩ | h
    · rw [h0] at hk; cases hk
    · rcases hl with ⟨c, -, -⟩ | ⟨-, c⟩
      · exact ⟨v, by omega, by simpa using h0, c⟩
      · omega
    · rcases h3 k h with q | ⟨q, -⟩
      · rw [q] at hk
        obtain ⟨w, k1, hw, hw2⟩ := hf.2 k hk
        by_cases e1 : k = last + 1
        · subst e1; have := h2 hk; rw [q, hk] at this; cases this
        · have h' : k - 1 < i ∨ last < k - 1 := by
            rcases h with h | h
            · exact Or.inl (by omega)
            · exact Or.inr (by omega)
          rcases h3 (k - 1) h' with q' | ⟨-, ⟨a, -⟩ | ⟨a, b⟩⟩
          · exact ⟨w, k1, by rw [q']; exact hw, hw2⟩
          · have : k = i := by omega
            omega
          · rw [hw] at b; cases b
      · rw [q] at hk; cases hk
theorem clr_get {Ls : List (Option Value)} {i k : Nat} {w : Value} (h : (clr Ls i)[k]? = some (some w)) : Ls[k]? = some (some w) ∧ (k + 1 = i → w.category ≠ 2) := by
  cases i with
  | zero => exact ⟨h, fun q => by omega⟩
  | succ j =>
    simp only [clr] at h
    split at h
    · rename_i w' hw'
      split at h
      · rename_i h2
        by_cases e : j = k
        · subst e; rw [List.getElem?_set] at h; simp at h
        · rw [List.getElem?_set_ne e] at h; exact ⟨h, fun q => by omega⟩
      · rename_i h2
        refine ⟨h, fun q => ?_⟩
        have : j = k := by omega
        subst this; rw [hw'] at h; cases h; exact h2
    · rename_i hn
      refine ⟨h, fun q => ?_⟩
      have : j = k := by omega
      subst this; exact absurd h (hn w)
theorem clr_len (Ls : List (Option Value)) (i : Nat) : (clr Ls i).length = Ls.length := by
  cases i with
  | zero => rfl
  | succ j => simp only [clr]; split <;> (try split) <;> simp
theorem lrel_gen {n : Nat} {Ls Ls' : List (Option Value)} {L L' : Array Slot} {i last : Nat} {v : Value} (h : Lrel n Ls L) (hsz : L'.size = L.size) (hlen : Ls'.length = Ls.length)
    (hl : (v.category = 2 ∧ last = i + 1 ∧ L'[i + 1]? = some .second) ∨ (v.category ≠ 2 ∧ last = i)) (h0 : L'[i]? = some (Slot.val (sh n v)))
    (h1 : ∀ k, k + 1 = i → ∀ w : Value, L[k]? = some (Slot.val w) → w.category = 2 → L'[k]? = some .unset) (h2 : L[last + 1]? = some .second → L'[last + 1]? = some .unset)
    (h3 : ∀ k, k < i ∨ last < k → L'[k]? = L[k]? ∨ (L'[k]? = some .unset ∧ ((k + 1 = i ∧ ∃ w : Value, L[k]? = some (Slot.val w) ∧ w.category = 2) ∨ (k = last + 1 ∧ L[k]? = some .second))))
    (hs : ∀ k w, Ls'[k]? = some (some w) → (k = i ∧ w = v) ∨ ((k < i ∨ last < k) ∧ Ls[k]? = some (some w) ∧ (k + 1 = i → w.category ≠ 2))) : Lrel n Ls' L' := by
  refine ⟨by rw [hsz, hlen]; exact h.1, wf_gen (f := fun k => L[k]?) (f' := fun k => L'[k]?) (v := sh n v) h.2.1 (by rw [sh_cat]; exact hl) h0 h1 h2 h3, fun k w hk => ?_⟩
  rcases hs k w hk with ⟨rfl, rfl⟩ | ⟨a, b, c⟩
  · exact h0
  · have hb := h.2.2 k w b
    rcases h3 k a with q | ⟨-, ⟨q, w', r1, r2⟩ | ⟨-, r⟩⟩
    · rw [q]; exact hb
    · rw [hb] at r1; cases r1; exact absurd (by rw [← sh_cat n w]; exact r2) (c q)
    · rw [hb] at r; cases r
theorem get_set (L : Array Slot) (i j : Nat) (x : Slot) (hi : i < L.size) : (L.setIfInBounds i x)[j]? = if i = j then some x else L[j]? := by
  rw [Array.getElem?_setIfInBounds]; simp [hi]
theorem store_1 {n : Nat} {Ls Ls' : List (Option Value)} {L : Array Slot} {i : Nat} {v : Value} (h : Lrel n Ls L) (hc : v.category = 1) (hl : stor Ls i v = some Ls') : ∃ L', storeLocals L i (sh n v) = some L' ∧ Lrel n Ls' L' := by
  have hc2 : ¬ v.category = 2 := by omega
  simp only [stor, hc2, if_false] at hl
  have hi : i < Ls.length := Decidable.byContradiction fun hi => by rw [if_neg hi] at hl; cases hl
  rw [if_pos hi] at hl
  cases hl
  have hiL : i < L.size := by rw [h.1]; exact hi
  have hcs : (sh n v).category = 1 := (sh_cat n v).trans hc
  have hs : ∀ k w, ((clr Ls i).set i (some v))[k]? = some (some w) → (k = i ∧ w = v) ∨ ((k < i ∨ i < k) ∧ Ls[k]? = some (some w) ∧ (k + 1 = i → w.category ≠ 2)) := fun k w hk => by
    by_cases e : i = k
    · subst e
      rw [List.getElem?_set_self (by rw [clr_len]; exact hi)] at hk
      cases hk; exact Or.inl ⟨rfl, rfl⟩
    · rw [List.getElem?_set_ne e] at hk
      exact Or.inr ⟨by omega, clr_get hk⟩
  have hlen : ((clr Ls i).set i (some v)).length = Ls.length := by simp [clr_len]
  have hgo : L[i]? = some L[i] := Array.getElem?_eq_getElem hiL
  cases hq : L[i] with
  | unset =>
    rw [hq] at hgo
    refine ⟨L.setIfInBounds i (.val (sh n v)), by simp [storeLocals, storeSelf, setAt, hgo, hcs, hiL, hq], lrel_gen (i := i) (last := i) (v := v) h (by simp) hlen (Or.inr ⟨hc2, rfl⟩) ?_ ?_ ?_ ?_ hs⟩
    · rw [get_set _ _ _ _ hiL]; simp
    · intro k hk w hw hw2; have := h.2.1.1 k w hw hw2; simp only [hk] at this; rw [hgo] at this; cases this
    · intro hk; obtain ⟨w, -, a, -⟩ := h.2.1.2 _ hk; simp only [Nat.add_sub_cancel] at a; rw [hgo] at a; cases a
    · intro k hk; left; rw [get_set _ _ _ _ hiL, if_neg (by omega)]
  | second =>
    rw [hq] at hgo
    obtain ⟨w0, i1, hw0, hw2⟩ := h.2.1.2 _ hgo
    simp only at hw0
    have hi1 : i - 1 < L.size := by omega
    refine ⟨(L.setIfInBounds (i - 1) .unset).setIfInBounds i (.val (sh n v)), by simp [storeLocals, storeSelf, setAt, hgo, hcs, hiL, hi1, hq], lrel_gen (i := i) (last := i) (v := v) h (by simp) hlen (Or.inr ⟨hc2, rfl⟩) ?_ ?_ ?_ ?_ hs⟩
    · rw [get_set _ _ _ _ (by simpa using hiL)]; simp
    · intro k hk w hw hw2'; rw [get_set _ _ _ _ (by simpa using hiL), get_set _ _ _ _ hi1, if_neg (by omega), if_pos (by omega)]
    · intro hk; obtain ⟨w, -, a, -⟩ := h.2.1.2 _ hk; simp only [Nat.add_sub_cancel] at a; rw [hgo] at a; cases a
    · intro k hk; rw [get_set _ _ _ _ (by simpa using hiL), get_set _ _ _ _ hi1, if_neg (by omega)]
      by_cases e : i - 1 = k
      · subst e; rw [if_pos rfl]; exact Or.inr ⟨rfl, Or.inl ⟨by omega, w0, hw0, hw2⟩⟩
      · rw [if_neg e]; exact Or.inl rfl
  | val old =>
    rw [hq] at hgo
    have hnl : ∀ k, k + 1 = i → ∀ w : Value, L[k]? = some (Slot.val w) → w.category = 2 → False := fun k hk w hw hw2 => by
      have := h.2.1.1 k w hw hw2; simp only [hk] at this; rw [hgo] at this; cases this
    by_cases ho : old.category = 2
    · have hn : L[i + 1]? = some .second := h.2.1.1 i old hgo ho
      have hi1 : i + 1 < L.size := (Array.getElem?_eq_some_iff.mp hn).1
      refine ⟨(L.setIfInBounds (i + 1) .unset).setIfInBounds i (.val (sh n v)), by simp [storeLocals, storeSelf, setAt, hgo, hcs, hiL, hi1, ho, hq], lrel_gen (i := i) (last := i) (v := v) h (by simp) hlen (Or.inr ⟨hc2, rfl⟩) ?_ ?_ ?_ ?_ hs⟩
      · rw [get_set _ _ _ _ (by simpa using hiL)]; simp
      · intro k hk w hw hw2; exact (hnl k hk w hw hw2).elim
      · intro _; rw [get_set _ _ _ _ (by simpa using hiL), get_set _ _ _ _ hi1, if_neg (by omega), if_pos rfl]
      · intro k hk; rw [get_set _ _ _ _ (by simpa using hiL), get_set _ _ _ _ hi1, if_neg (by omega)]
        by_cases e : i + 1 = k
        · subst e; rw [if_pos rfl]; exact Or.inr ⟨rfl, Or.inr ⟨rfl, hn⟩⟩
        · rw [if_neg e]; exact Or.inl rfl
    · refine ⟨L.setIfInBounds i (.val (sh n v)), by simp [storeLocals, storeSelf, setAt, hgo, hcs, hiL, ho, hq], lrel_gen (i := i) (last := i) (v := v) h (by simp) hlen (Or.inr ⟨hc2, rfl⟩) ?_ ?_ ?_ ?_ hs⟩
      · rw [get_set _ _ _ _ hiL]; simp
      · intro k hk w hw hw2; exact (hnl k hk w hw hw2).elim
      · intro hk; obtain ⟨w, -, a, b⟩ := h.2.1.2 _ hk; simp only [Nat.add_sub_cancel] at a; rw [hgo] at a; cases a; exact absurd b ho
      · intro k hk; left; rw [get_set _ _ _ _ hiL, if_neg (by omega)]
/-- the second half of a long's store -/
theorem self_2 {l : Array Slot} {i : Nat} {v : Value} (hc : v.category = 2) (h1 : i + 1 < l.size) (hw : ∀ w : Value, l[i + 1]? = some (Slot.val w) → w.category = 2 → i + 2 < l.size) :
    ∃ l', storeSelf l i v = some l' ∧ l'.size = l.size ∧ l'[i]? = some (Slot.val v) ∧ l'[i + 1]? = some .second ∧ (∀ k, k < i ∨ i + 2 < k → l'[k]? = l[k]?) ∧
      ((∃ w : Value, l[i + 1]? = some (Slot.val w) ∧ w.category = 2) ∧ l'[i + 2]? = some .unset ∨ (¬ ∃ w : Value, l[i + 1]? = some (Slot.val w) ∧ w.category = 2) ∧ l'[i + 2]? = l[i + 2]?) := by
  have hi : i < l.size := by omega
  have hgo : l[i + 1]? = some l[i + 1] := Array.getElem?_eq_getElem h1
  have hgo' : (l.setIfInBounds i (.val v))[i + 1]? = some l[i + 1] := by rw [get_set _ _ _ _ hi, if_neg (by omega)]; exact hgo
  by_cases hx : ∃ w : Value, l[i + 1]? = some (Slot.val w) ∧ w.category = 2
  · obtain ⟨w, a, b⟩ := hx
    have h2 := hw w a b
    have e : l[i + 1] = .val w := Option.some.inj (hgo.symm.trans a)
    refine ⟨((l.setIfInBounds i (.val v)).setIfInBounds (i + 2) .unset).setIfInBounds (i + 1) .second, ?_, by simp, ?_, ?_, ?_, Or.inl ⟨⟨w, a, b⟩, ?_⟩⟩
    · rw [e] at hgo'
      simp [storeSelf, setAt, hi, hc, hgo', b, h1, h2, e]
    · rw [get_set _ _ _ _ (by simpa using h1), if_neg (by omega), get_set _ _ _ _ (by simpa using h2), if_neg (by omega), get_set _ _ _ _ hi, if_pos rfl]
    · rw [get_set _ _ _ _ (by simpa using h1), if_pos rfl]
    · intro k hk; rw [get_set _ _ _ _ (by simpa using h1), if_neg (by omega), get_set _ _ _ _ (by simpa using h2), if_neg (by omega), get_set _ _ _ _ hi, if_neg (by omega)]
    · rw [get_set _ _ _ _ (by simpa using h1), if_neg (by omega), get_set _ _ _ _ (by simpa using h2), if_pos rfl]
  · refine ⟨(l.setIfInBounds i (.val v)).setIfInBounds (i + 1) .second, ?_, by simp, ?_, ?_, ?_, Or.inr ⟨hx, ?_⟩⟩
    · cases e : l[i + 1] with
      | unset => rw [e] at hgo'; simp [storeSelf, setAt, hi, hc, hgo', h1, e]
      | second => rw [e] at hgo'; simp [storeSelf, setAt, hi, hc, hgo', h1, e]
      | val w =>
        rw [e] at hgo' hgo
        have hn : ¬ w.category = 2 := fun q => hx ⟨w, hgo, q⟩
        simp [storeSelf, setAt, hi, hc, hgo', h1, hn, e]
    · rw [get_set _ _ _ _ (by simpa using h1), if_neg (by omega), get_set _ _ _ _ hi, if_pos rfl]
    · rw [get_set _ _ _ _ (by simpa using h1), if_pos rfl]
    · intro k hk; rw [get_set _ _ _ _ (by simpa using h1), if_neg (by omega), get_set _ _ _ _ hi, if_neg (by omega)]
    · rw [get_set _ _ _ _ (by simpa using h1), if_neg (by omega), get_set _ _ _ _ hi, if_neg (by omega)]
theorem store_2 {n : Nat} {Ls Ls' : List (Option Value)} {L : Array Slot} {i : Nat} {v : Value} (h : Lrel n Ls L) (hc : v.category = 2) (hl : stor Ls i v = some Ls') : ∃ L', storeLocals L i (sh n v) = some L' ∧ Lrel n Ls' L' := by
  simp only [stor, hc, if_true] at hl
  have hi : i + 1 < Ls.length := Decidable.byContradiction fun hi => by rw [if_neg hi] at hl; cases hl
  rw [if_pos hi] at hl
  cases hl
  have hiL : i + 1 < L.size := by rw [h.1]; exact hi
  have hi0 : i < L.size := by omega
  have hcs : (sh n v).category = 2 := (sh_cat n v).trans hc
  have hs : ∀ k w, (((clr Ls i).set i (some v)).set (i + 1) none)[k]? = some (some w) → (k = i ∧ w = v) ∨ ((k < i ∨ i + 1 < k) ∧ Ls[k]? = some (some w) ∧ (k + 1 = i → w.category ≠ 2)) := fun k w hk => by
    by_cases e' : i + 1 = k
    · subst e'
      rw [List.getElem?_set_self (by simp [clr_len]; exact hi)] at hk
      cases hk
    · rw [List.getElem?_set_ne e'] at hk
      by_cases e : i = k
      · subst e
        rw [List.getElem?_set_self (by rw [clr_len]; omega)] at hk
        cases hk; exact Or.inl ⟨rfl, rfl⟩
      · rw [List.getElem?_set_ne e] at hk
        exact Or.inr ⟨by omega, clr_get hk⟩
  have hlen : (((clr Ls i).set i (some v)).set (i + 1) none).length = Ls.length := by simp [clr_len]
  have hgo : L[i]? = some L[i] := Array.getElem?_eq_getElem hi0
  have hW := h.2.1
  -- the first half: l1
  have key : ∃ l1, storeLocals L i (sh n v) = storeSelf l1 i (sh n v) ∧ l1.size = L.size ∧ (∀ k, k + 1 = i → ∀ w : Value, L[k]? = some (Slot.val w) → w.category = 2 → l1[k]? = some .unset) ∧
      (∀ k, k < i ∨ i + 1 < k → l1[k]? = L[k]? ∨ (l1[k]? = some .unset ∧ k + 1 = i ∧ ∃ w : Value, L[k]? = some (Slot.val w) ∧ w.category = 2)) ∧
      ((∃ w : Value, l1[i + 1]? = some (Slot.val w) ∧ w.category = 2) → L[i + 1]? = l1[i + 1]?) ∧ (L[i + 1]? = l1[i + 1]? ∨ L[i + 1]? = some .second) := by
    cases hq : L[i] with
    | unset =>
      rw [hq] at hgo
      refine ⟨L, by simp [storeLocals, hgo, hq], rfl, ?_, fun k _ => Or.inl rfl, fun _ => rfl, Or.inl rfl⟩
      intro k hk w hw hw2; have := hW.1 k w hw hw2; simp only [hk] at this; rw [hgo] at this; cases this
    | second =>
      rw [hq] at hgo
      obtain ⟨w0, i1, hw0, hw2⟩ := hW.2 _ hgo
      simp only at hw0
      have hi1 : i - 1 < L.size := by omega
      refine ⟨L.setIfInBounds (i - 1) .unset, by simp [storeLocals, setAt, hgo, hi1, hq], by simp, ?_, ?_, fun _ => by rw [get_set _ _ _ _ hi1, if_neg (by omega)], Or.inl (by rw [get_set _ _ _ _ hi1, if_neg (by omega)])⟩
      · intro k hk w hw hw2'; rw [get_set _ _ _ _ hi1, if_pos (by omega)]
      · intro k hk; rw [get_set _ _ _ _ hi1]
        by_cases e : i - 1 = k
        · subst e; rw [if_pos rfl]; exact Or.inr ⟨rfl, by omega, w0, hw0, hw2⟩
        · rw [if_neg e]; exact Or.inl rfl
    | val old =>
      rw [hq] at hgo
      have hnl : ∀ k, k + 1 = i → ∀ w : Value, L[k]? = some (Slot.val w) → w.category = 2 → False := fun k hk w hw hw2 => by
        have := hW.1 k w hw hw2; simp only [hk] at this; rw [hgo] at this; cases this
      by_cases ho : old.category = 2
      · have hn : L[i + 1]? = some .second := hW.1 i old hgo ho
        refine ⟨L.setIfInBounds (i + 1) .unset, by simp [storeLocals, setAt, hgo, hiL, ho, hq], by simp, fun k hk w hw hw2 => (hnl k hk w hw hw2).elim, ?_, ?_, Or.inr hn⟩
        · intro k hk; left; rw [get_set _ _ _ _ hiL, if_neg (by omega)]
        · rintro ⟨w, a, -⟩; rw [get_set _ _ _ _ hiL, if_pos rfl] at a; cases a
      · exact ⟨L, by simp [storeLocals, hgo, ho, hq], rfl, fun k hk w hw hw2 => (hnl k hk w hw hw2).elim, fun k _ => Or.inl rfl, fun _ => rfl, Or.inl rfl⟩
  obtain ⟨l1, k1, k2, k3, k4, k5, k6⟩ := key
  have hw2 : ∀ w : Value, l1[i + 1]? = some (Slot.val w) → w.category = 2 → i + 2 < l1.size := fun w a b => by
    have e := k5 ⟨w, a, b⟩
    rw [a] at e
    have := hW.1 (i + 1) w e b
    rw [k2]; exact (Array.getElem?_eq_some_iff.mp this).1
  obtain ⟨l', s1, s2, s3, s4, s5, s6⟩ := self_2 (v := sh n v) hcs (by rw [k2]; exact hiL) hw2
  refine ⟨l', by rw [k1]; exact s1, lrel_gen (i := i) (last := i + 1) (v := v) h (by rw [s2, k2]) hlen (Or.inl ⟨hc, rfl, s4⟩) s3 ?_ ?_ ?_ hs⟩
  · intro k hk w hw hw2'; rw [s5 k (by omega)]; exact k3 k hk w hw hw2'
  · intro hk
    obtain ⟨w, -, a, b⟩ := hW.2 _ hk
    simp only [Nat.add_sub_cancel] at a
    rcases s6 with ⟨-, q⟩ | ⟨q, -⟩
    · exact q
    · rcases k6 with k6 | k6
      · exact absurd ⟨w, by rw [← k6]; exact a, b⟩ q
      · rw [a] at k6; cases k6
  · intro k hk
    by_cases e : k = i + 2
    · subst e
      rcases s6 with ⟨⟨w, a, b⟩, q⟩ | ⟨-, q⟩
      · have e := k5 ⟨w, a, b⟩
        rw [a] at e
        exact Or.inr ⟨q, Or.inr ⟨rfl, hW.1 (i + 1) w e b⟩⟩
      · rcases k4 (i + 2) (by omega) with r | ⟨-, r, -⟩
        · left; rw [q, r]
        · omega
    · rw [s5 k (by omega)]
      rcases k4 k hk with r | ⟨r1, r2, r3⟩
      · exact Or.inl r
      · exact Or.inr ⟨r1, Or.inl ⟨r2, r3⟩⟩
/-! the entry -/
def aloc1 : List Value → List (Option Value)
  | [] => []
  | v :: r => if v.category = 2 then some v :: none :: aloc1 r else some v :: aloc1 r
def aloc (as : List Value) (maxL : Nat) : List (Option Value) := aloc1 as ++ List.replicate (maxL - (aloc1 as).length) none
def aslot : List Value → List Slot
  | [] => []
  | v :: r => if v.category = 2 then .val v :: .second :: aslot r else .val v :: aslot r
theorem aslot_eq (as : List Value) : ∀ acc : Array Slot, as.foldl (fun acc v => if v.category = 2 then (acc.push (Slot.val v)).push Slot.second else acc.push (Slot.val v)) acc = acc ++ (aslot as).toArray := by
  induction as with
  | nil => intro acc; simp [aslot]
  | cons v r ih =>
    intro acc
    rw [List.foldl_cons, ih]
    simp only [aslot]
    split <;> (apply Array.ext'; simp)
theorem aslot_len (n : Nat) (as : List Value) : (aslot (as.map (sh n))).length = (aloc1 as).length := by
  induction as with
  | nil => rfl
  | cons v r ih => simp only [List.map_cons, aslot, aloc1, sh_cat]; split <;> simp [ih]
theorem aslot_wf (as : List Value) : (∀ (k : Nat) (v : Value), (aslot as)[k]? = some (Slot.val v) → v.category = 2 → (aslot as)[k + 1]? = some .second) ∧ (∀ k, (aslot as)[k]? = some .second → ∃ v : Value, 1 ≤ k ∧ (aslot as)[k - 1]? = some (Slot.val v) ∧ v.category = 2) := by
  induction as with
  | nil => constructor <;> intro k <;> simp [aslot]
  | cons v r ih =>
    simp only [aslot]
    by_cases h : v.category = 2
    · rw [if_pos h]
      constructor
      · intro k w hk hw
        match k, hk with
        | 0, hk => rfl
        | 1, hk => simp at hk
        | k + 2, hk => simpa using ih.1 k w (by simpa using hk) hw
      · intro k hk
        match k, hk with
        | 0, hk => simp at hk
        | 1, hk => exact ⟨v, by omega, by simp, h⟩
        | k + 2, hk =>
          obtain ⟨w, a, b, c⟩ := ih.2 k (by simpa using hk)
          match k, a, b with
          | k + 1, a, b => exact ⟨w, by omega, by simpa using b, c⟩
    · rw [if_neg h]
      constructor
      · intro k w hk hw
        match k, hk with
        | 0, hk => simp at hk; subst hk; exact absurd hw h
        | k + 1, hk => simpa using ih.1 k w (by simpa using hk) hw
      · intro k hk
        match k, hk with
        | 0, hk => simp at hk
        | k + 1, hk =>
          obtain ⟨w, a, b, c⟩ := ih.2 k (by simpa using hk)
          match k, a, b with
          | k + 1, a, b => exact ⟨w, by omega, by simpa using b, c⟩
theorem aslot_val (n : Nat) (as : List Value) : ∀ (k : Nat) (v : Value), (aloc1 as)[k]? = some (some v) → (aslot (as.map (sh n)))[k]? = some (Slot.val (sh n v)) := by
  induction as with
  | nil => intro k v; simp [aloc1]
  | cons v r ih =>
    intro k w
    simp only [aloc1, List.map_cons, aslot, sh_cat]
    split
    · match k with
      | 0 => simp; intro h; rw [h]
      | 1 => simp
      | k + 2 => simpa using ih k w
    · match k with
      | 0 => simp; intro h; rw [h]
      | k + 1 => simpa using ih k w
theorem entry_rel (n : Nat) (as : List Value) (maxL : Nat) : Lrel n (aloc as maxL) (argsToLocals (as.map (sh n)).toArray maxL) := by
  have e : argsToLocals (as.map (sh n)).toArray maxL = (aslot (as.map (sh n)) ++ List.replicate (maxL - (aloc1 as).length) Slot.unset).toArray := by
    unfold argsToLocals
    simp only [List.foldl_toArray']
    rw [aslot_eq]
    apply Array.ext'
    simp [aslot_len]
  rw [e]
  have hl := aslot_len n as
  refine ⟨by simp [aloc, hl], ?_, ?_⟩
  · have hw := aslot_wf (as.map (sh n))
    constructor
    · intro k v hk hv
      simp only [List.getElem?_toArray] at hk ⊢
      by_cases h : k < (aslot (as.map (sh n))).length
      · rw [List.getElem?_append_left h] at hk
        have q := hw.1 k v hk hv
        rw [List.getElem?_append_left (List.getElem?_eq_some_iff.mp q).1]; exact q
      · rw [List.getElem?_append_right (by omega), List.getElem?_replicate] at hk
        split at hk <;> cases hk
    · intro k hk
      simp only [List.getElem?_toArray] at hk ⊢
      by_cases h : k < (aslot (as.map (sh n))).length
      · rw [List.getElem?_append_left h] at hk
        obtain ⟨v, a, b, c⟩ := hw.2 k hk
        exact ⟨v, a, by rw [List.getElem?_append_left (List.getElem?_eq_some_iff.mp b).1]; exact b, c⟩
      · rw [List.getElem?_append_right (by omega), List.getElem?_replicate] at hk
        split at hk <;> cases hk
  · intro k v hk
    simp only [List.getElem?_toArray]
    simp only [aloc] at hk
    by_cases h : k < (aloc1 as).length
    · rw [List.getElem?_append_left h] at hk
      rw [List.getElem?_append_left (by rw [hl]; exact h)]; exact aslot_val n as k v hk
    · rw [List.getElem?_append_right (by omega), List.getElem?_replicate] at hk
      split at hk <;> cases hk
/-! the heap -/
def ObjOk (Z : State) (n : Nat) (h : Heap) (a : Addr) : Obj → Prop
  | .inl (ty, vs) => Exa Z h a ("[" ++ ty.toString) ∧ ∃ c : Cell, Arr Z h a c ty ∧ c.slots = (vs.map (sh n)).toArray
  | .inr (t, vs) => Exa Z h a (lay t).1 ∧ vs.length = (lay t).2.length ∧ ∀ (k : Nat) (nd : String × String) (v : Value), (lay t).2[k]? = some nd → vs[k]? = some v → Fld Z h a (lay t).1 nd.1 nd.2 (sh n v)
def Sim (G : Gx) (H : List Obj) (h : Heap) : Prop := h.size = G.2.2.2 + H.length ∧ ∀ (i : Nat) (o : Obj), H[i]? = some o → ObjOk G.2.1 G.2.2.2 h (G.2.2.2 + i) o
def Done (G : Gx) (K : Kx) (rv : Option Value) (Hf : List Obj) (S0 : State) : Prop := match G, K with
  | (l, Z, a0, n), (p, e, R, s, m, args, below, meth, c, kc, ks) =>
    ∃ t o, Steps p.tables e below S0 t ∧ t.status = .running ∧ Ended t below o ∧ ∃ v L, o = .returned v ∧ (v = rv.map (sh n) ∧ Fr n L ∧ Sim (l, Z, a0, n) Hf t.heap ∧ s.heap.size + kc = n + Hf.length) ∧ FrameEnd s o t L kc ks
def Run (G : Gx) (K : Kx) (rv : Option Value) (Hf : List Obj) (pc : Nat) (Ls : List (Option Value)) (st : List Value) (H : List Obj) (cells slots : Nat) : Prop := match G, K with
  | (l, Z, a0, n), (p, e, R, s, m, args, below, meth, c, kc, ks) => ∀ T locs real, Stand p l e R s m args below meth c T locs cells slots → Fr n locs → Sim (l, Z, a0, n) H T.heap → s.heap.size + cells = n + H.length → Lrel n Ls real →
    Done (l, Z, a0, n) (p, e, R, s, m, args, below, meth, c, kc, ks) rv Hf (T.setTop (mkF m pc real (st.map (sh n))))
def Ok (G : Gx) (K : Kx) (own : String) (bytes : ByteArray) (maxL : Nat) (ret : Option FieldType) (R : Room) (mn : String) (kc ks : Nat) : Prop := match G, K with
  | (l, Z, a0, n), (p, e, R', s, m, args, below, meth, c, kc', ks') => p.tables.exec = Jvm.exec ∧ Z.Warmed39 s.vm ∧ s.vm.findClass own = some m.cls ∧ c.code = bytes ∧ c.maxLocals = maxL ∧ meth.sig.returnType = ret ∧ meth.locks = false ∧ R' = R ∧ meth.name = mn ∧ kc' = kc ∧ ks' = ks ∧ ∀ d ∈ tables_1, d.before a0 Z = true
def Con (G : Gx) (y : MethodName) (bytes : ByteArray) (maxL : Nat) (ret : Option FieldType) (rm : Room) (as : List Value) (H : List Obj) (rv : Option Value) (Hf : List Obj) : Prop := match G with
  | (l, Z, a0, n) => ∀ h0, Sim (l, Z, a0, n) H h0 → MetFree l y (head1 [Cond.code y bytes maxL ret] rm) (fun a U => a = (as.map (sh n)).toArray ∧ Z.Warmed39 U.vm ∧ U.heap = h0) (fun _ _ _ _ _ => True)
      (fun _ U o U' => ∃ v L, o = .returned v ∧ (v = rv.map (sh n) ∧ Fr n L ∧ Sim (l, Z, a0, n) Hf U'.heap ∧ Hf.length = H.length + rm.cells) ∧ FrameEnd U o U' L rm.cells rm.slots)
section Laws
variable {G : Gx} {K : Kx} {rv : Option Value} {Hf : List Obj} {pc pc' : Nat} {Ls Ls' : List (Option Value)} {st : List Value} {H : List Obj} {cells slots : Nat} {own : String} {bytes : ByteArray} {maxL : Nat} {ret : Option FieldType} {R : Room} {mn : String} {kc ks : Nat}
theorem Done.step {l : Launch} {Z : State} {a0 : Array Value} {n : Nat} {p : Program} {e : Env} {R : Room} {s : State} {m : MethodId} {args : Array Value} {below : List Frame} {meth : Method} {c : Code} {kc ks : Nat} {S0 S1 : State}
    (h : ∀ t, Steps p.tables e below S1 t → Steps p.tables e below S0 t) (k : Done (l, Z, a0, n) (p, e, R, s, m, args, below, meth, c, kc, ks) rv Hf S1) : Done (l, Z, a0, n) (p, e, R, s, m, args, below, meth, c, kc, ks) rv Hf S0 := by
  obtain ⟨t, o, h1, r⟩ := k
  exact ⟨t, o, h t h1, r⟩
theorem g_iconst {i : Int} {v : Int32} (O : Ok G K own bytes maxL ret R mn kc ks) (hd : decode bytes pc = .ok (.iconst i, 1)) (hv : Int32.ofInt i = v) (hp : pc + 1 = pc')
    (k : Run G K rv Hf pc' Ls (.int v :: st) H cells slots) : Run G K rv Hf pc Ls (st) H cells slots := by
  obtain ⟨l, Z, a0, n⟩ := G; obtain ⟨p, e, R', s, m, args, below, meth, c, kc', ks'⟩ := K
  obtain ⟨hx, hZ, hown, hby, hml, hret, hlk, rfl, hnm, rfl, rfl, hw⟩ := O
  subst hp
  intro T locs real X N S A L
  exact Done.step (fun t q => XT.iconstV X.here hx rfl v (hb hby hd) hv q) (k T locs real X N S A L)
theorem g_bipush {i : Int} {v : Int32} (O : Ok G K own bytes maxL ret R mn kc ks) (hd : decode bytes pc = .ok (.bipush i, 2)) (hv : (Int8.ofInt i).toInt32 = v) (hp : pc + 2 = pc')
    (k : Run G K rv Hf pc' Ls (.int v :: st) H cells slots) : Run G K rv Hf pc Ls (st) H cells slots := by
  obtain ⟨l, Z, a0, n⟩ := G; obtain ⟨p, e, R', s, m, args, below, meth, c, kc', ks'⟩ := K
  obtain ⟨hx, hZ, hown, hby, hml, hret, hlk, rfl, hnm, rfl, rfl, hw⟩ := O
  subst hp
  intro T locs real X N S A L
  exact Done.step (fun t q => XT.bipushV X.here hx rfl v (hb hby hd) hv q) (k T locs real X N S A L)
theorem g_sipush {i : Int} {v : Int32} (O : Ok G K own bytes maxL ret R mn kc ks) (hd : decode bytes pc = .ok (.sipush i, 3)) (hv : (Int16.ofInt i).toInt32 = v) (hp : pc + 3 = pc')
    (k : Run G K rv Hf pc' Ls (.int v :: st) H cells slots) : Run G K rv Hf pc Ls (st) H cells slots := by
  obtain ⟨l, Z, a0, n⟩ := G; obtain ⟨p, e, R', s, m, args, below, meth, c, kc', ks'⟩ := K
  obtain ⟨hx, hZ, hown, hby, hml, hret, hlk, rfl, hnm, rfl, rfl, hw⟩ := O
  subst hp
  intro T locs real X N S A L
  exact Done.step (fun t q => XT.sipushV X.here hx rfl v (hb hby hd) hv q) (k T locs real X N S A L)
theorem g_lconst {i : Fin 2} {v : Int64} (O : Ok G K own bytes maxL ret R mn kc ks) (hd : decode bytes pc = .ok (.lconst i, 1)) (hv : Int64.ofNat i = v) (hp : pc + 1 = pc')
    (k : Run G K rv Hf pc' Ls (.long v :: st) H cells slots) : Run G K rv Hf pc Ls (st) H cells slots := by
  obtain ⟨l, Z, a0, n⟩ := G; obtain ⟨p, e, R', s, m, args, below, meth, c, kc', ks'⟩ := K
  obtain ⟨hx, hZ, hown, hby, hml, hret, hlk, rfl, hnm, rfl, rfl, hw⟩ := O
  subst hp
  intro T locs real X N S A L
  exact Done.step (fun t q => XT.lconstV X.here hx rfl v (hb hby hd) hv q) (k T locs real X N S A L)
theorem g_iadd {x y : Int32} (O : Ok G K own bytes maxL ret R mn kc ks) (hd : decode bytes pc = .ok (.iadd, 1))  (hp : pc + 1 = pc')
    (k : Run G K rv Hf pc' Ls (.int (x + y) :: st) H cells slots) : Run G K rv Hf pc Ls (.int y :: .int x :: st) H cells slots := by
  obtain ⟨l, Z, a0, n⟩ := G; obtain ⟨p, e, R', s, m, args, below, meth, c, kc', ks'⟩ := K
  obtain ⟨hx, hZ, hown, hby, hml, hret, hlk, rfl, hnm, rfl, rfl, hw⟩ := O
  subst hp
  intro T locs real X N S A L
  exact Done.step (fun t q => XS.iadd X.here hx rfl (hb hby hd) rfl q) (k T locs real X N S A L)
theorem g_isub {x y : Int32} (O : Ok G K own bytes maxL ret R mn kc ks) (hd : decode bytes pc = .ok (.isub, 1))  (hp : pc + 1 = pc')
    (k : Run G K rv Hf pc' Ls (.int (x - y) :: st) H cells slots) : Run G K rv Hf pc Ls (.int y :: .int x :: st) H cells slots := by
  obtain ⟨l, Z, a0, n⟩ := G; obtain ⟨p, e, R', s, m, args, below, meth, c, kc', ks'⟩ := K
  obtain ⟨hx, hZ, hown, hby, hml, hret, hlk, rfl, hnm, rfl, rfl, hw⟩ := O
  subst hp
  intro T locs real X N S A L
  exact Done.step (fun t q => XS.isub X.here hx rfl (hb hby hd) rfl q) (k T locs real X N S A L)
theorem g_imul {x y : Int32} (O : Ok G K own bytes maxL ret R mn kc ks) (hd : decode bytes pc = .ok (.imul, 1))  (hp : pc + 1 = pc')
    (k : Run G K rv Hf pc' Ls (.int (x * y) :: st) H cells slots) : Run G K rv Hf pc Ls (.int y :: .int x :: st) H cells slots := by
  obtain ⟨l, Z, a0, n⟩ := G; obtain ⟨p, e, R', s, m, args, below, meth, c, kc', ks'⟩ := K
  obtain ⟨hx, hZ, hown, hby, hml, hret, hlk, rfl, hnm, rfl, rfl, hw⟩ := O
  subst hp
  intro T locs real X N S A L
  exact Done.step (fun t q => XS.imul X.here hx rfl (hb hby hd) rfl q) (k T locs real X N S A L)
theorem g_iand {x y : Int32} (O : Ok G K own bytes maxL ret R mn kc ks) (hd : decode bytes pc = .ok (.iand, 1))  (hp : pc + 1 = pc')
    (k : Run G K rv Hf pc' Ls (.int (x &&& y) :: st) H cells slots) : Run G K rv Hf pc Ls (.int y :: .int x :: st) H cells slots := by
  obtain ⟨l, Z, a0, n⟩ := G; obtain ⟨p, e, R', s, m, args, below, meth, c, kc', ks'⟩ := K
  obtain ⟨hx, hZ, hown, hby, hml, hret, hlk, rfl, hnm, rfl, rfl, hw⟩ := O
  subst hp
  intro T locs real X N S A L
  exact Done.step (fun t q => XS.iand X.here hx rfl (hb hby hd) rfl q) (k T locs real X N S A L)
theorem g_ior {x y : Int32} (O : Ok G K own bytes maxL ret R mn kc ks) (hd : decode bytes pc = .ok (.ior, 1))  (hp : pc + 1 = pc')
    (k : Run G K rv Hf pc' Ls (.int (x ||| y) :: st) H cells slots) : Run G K rv Hf pc Ls (.int y :: .int x :: st) H cells slots := by
  obtain ⟨l, Z, a0, n⟩ := G; obtain ⟨p, e, R', s, m, args, below, meth, c, kc', ks'⟩ := K
  obtain ⟨hx, hZ, hown, hby, hml, hret, hlk, rfl, hnm, rfl, rfl, hw⟩ := O
  subst hp
  intro T locs real X N S A L
  exact Done.step (fun t q => XT.ior X.here hx rfl (hb hby hd) rfl q) (k T locs real X N S A L)
theorem g_ixor {x y : Int32} (O : Ok G K own bytes maxL ret R mn kc ks) (hd : decode bytes pc = .ok (.ixor, 1))  (hp : pc + 1 = pc')
    (k : Run G K rv Hf pc' Ls (.int (x ^^^ y) :: st) H cells slots) : Run G K rv Hf pc Ls (.int y :: .int x :: st) H cells slots := by
  obtain ⟨l, Z, a0, n⟩ := G; obtain ⟨p, e, R', s, m, args, below, meth, c, kc', ks'⟩ := K
  obtain ⟨hx, hZ, hown, hby, hml, hret, hlk, rfl, hnm, rfl, rfl, hw⟩ := O
  subst hp
  intro T locs real X N S A L
  exact Done.step (fun t q => XT.ixor X.here hx rfl (hb hby hd) rfl q) (k T locs real X N S A L)
theorem g_ishl {x y : Int32} (O : Ok G K own bytes maxL ret R mn kc ks) (hd : decode bytes pc = .ok (.ishl, 1))  (hp : pc + 1 = pc')
    (k : Run G K rv Hf pc' Ls (.int (x <<< (y &&& 31)) :: st) H cells slots) : Run G K rv Hf pc Ls (.int y :: .int x :: st) H cells slots := by
  obtain ⟨l, Z, a0, n⟩ := G; obtain ⟨p, e, R', s, m, args, below, meth, c, kc', ks'⟩ := K
  obtain ⟨hx, hZ, hown, hby, hml, hret, hlk, rfl, hnm, rfl, rfl, hw⟩ := O
  subst hp
  intro T locs real X N S A L
  exact Done.step (fun t q => XT.ishl X.here hx rfl (hb hby hd) rfl q) (k T locs real X N S A L)
theorem g_ishr {x y : Int32} (O : Ok G K own bytes maxL ret R mn kc ks) (hd : decode bytes pc = .ok (.ishr, 1))  (hp : pc + 1 = pc')
    (k : Run G K rv Hf pc' Ls (.int (x >>> (y &&& 31)) :: st) H cells slots) : Run G K rv Hf pc Ls (.int y :: .int x :: st) H cells slots := by
  obtain ⟨l, Z, a0, n⟩ := G; obtain ⟨p, e, R', s, m, args, below, meth, c, kc', ks'⟩ := K
  obtain ⟨hx, hZ, hown, hby, hml, hret, hlk, rfl, hnm, rfl, rfl, hw⟩ := O
  subst hp
  intro T locs real X N S A L
  exact Done.step (fun t q => XT.ishr X.here hx rfl (hb hby hd) rfl q) (k T locs real X N S A L)
theorem g_iushr {x y : Int32} (O : Ok G K own bytes maxL ret R mn kc ks) (hd : decode bytes pc = .ok (.iushr, 1))  (hp : pc + 1 = pc')
    (k : Run G K rv Hf pc' Ls (.int (XT.ushr x y) :: st) H cells slots) : Run G K rv Hf pc Ls (.int y :: .int x :: st) H cells slots := by
  obtain ⟨l, Z, a0, n⟩ := G; obtain ⟨p, e, R', s, m, args, below, meth, c, kc', ks'⟩ := K
  obtain ⟨hx, hZ, hown, hby, hml, hret, hlk, rfl, hnm, rfl, rfl, hw⟩ := O
  subst hp
  intro T locs real X N S A L
  exact Done.step (fun t q => XT.iushr X.here hx rfl (hb hby hd) rfl q) (k T locs real X N S A L)
theorem g_ladd {x y : Int64} (O : Ok G K own bytes maxL ret R mn kc ks) (hd : decode bytes pc = .ok (.ladd, 1))  (hp : pc + 1 = pc')
    (k : Run G K rv Hf pc' Ls (.long (x + y) :: st) H cells slots) : Run G K rv Hf pc Ls (.long y :: .long x :: st) H cells slots := by
  obtain ⟨l, Z, a0, n⟩ := G; obtain ⟨p, e, R', s, m, args, below, meth, c, kc', ks'⟩ := K
  obtain ⟨hx, hZ, hown, hby, hml, hret, hlk, rfl, hnm, rfl, rfl, hw⟩ := O
  subst hp
  intro T locs real X N S A L
  exact Done.step (fun t q => XT.ladd X.here hx rfl (hb hby hd) rfl q) (k T locs real X N S A L)
theorem g_lsub {x y : Int64} (O : Ok G K own bytes maxL ret R mn kc ks) (hd : decode bytes pc = .ok (.lsub, 1))  (hp : pc + 1 = pc')
    (k : Run G K rv Hf pc' Ls (.long (x - y) :: st) H cells slots) : Run G K rv Hf pc Ls (.long y :: .long x :: st) H cells slots := by
  obtain ⟨l, Z, a0, n⟩ := G; obtain ⟨p, e, R', s, m, args, below, meth, c, kc', ks'⟩ := K
  obtain ⟨hx, hZ, hown, hby, hml, hret, hlk, rfl, hnm, rfl, rfl, hw⟩ := O
  subst hp
  intro T locs real X N S A L
  exact Done.step (fun t q => XT.lsub X.here hx rfl (hb hby hd) rfl q) (k T locs real X N S A L)
theorem g_lmul {x y : Int64} (O : Ok G K own bytes maxL ret R mn kc ks) (hd : decode bytes pc = .ok (.lmul, 1))  (hp : pc + 1 = pc')
    (k : Run G K rv Hf pc' Ls (.long (x * y) :: st) H cells slots) : Run G K rv Hf pc Ls (.long y :: .long x :: st) H cells slots := by
  obtain ⟨l, Z, a0, n⟩ := G; obtain ⟨p, e, R', s, m, args, below, meth, c, kc', ks'⟩ := K
  obtain ⟨hx, hZ, hown, hby, hml, hret, hlk, rfl, hnm, rfl, rfl, hw⟩ := O
  subst hp
  intro T locs real X N S A L
  exact Done.step (fun t q => XT.lmul X.here hx rfl (hb hby hd) rfl q) (k T locs real X N S A L)
theorem g_land {x y : Int64} (O : Ok G K own bytes maxL ret R mn kc ks) (hd : decode bytes pc = .ok (.land, 1))  (hp : pc + 1 = pc')
    (k : Run G K rv Hf pc' Ls (.long (x &&& y) :: st) H cells slots) : Run G K rv Hf pc Ls (.long y :: .long x :: st) H cells slots := by
  obtain ⟨l, Z, a0, n⟩ := G; obtain ⟨p, e, R', s, m, args, below, meth, c, kc', ks'⟩ := K
  obtain ⟨hx, hZ, hown, hby, hml, hret, hlk, rfl, hnm, rfl, rfl, hw⟩ := O
  subst hp
  intro T locs real X N S A L
  exact Done.step (fun t q => XT.land X.here hx rfl (hb hby hd) rfl q) (k T locs real X N S A L)
theorem g_lor {x y : Int64} (O : Ok G K own bytes maxL ret R mn kc ks) (hd : decode bytes pc = .ok (.lor, 1))  (hp : pc + 1 = pc')
    (k : Run G K rv Hf pc' Ls (.long (x ||| y) :: st) H cells slots) : Run G K rv Hf pc Ls (.long y :: .long x :: st) H cells slots := by
  obtain ⟨l, Z, a0, n⟩ := G; obtain ⟨p, e, R', s, m, args, below, meth, c, kc', ks'⟩ := K
  obtain ⟨hx, hZ, hown, hby, hml, hret, hlk, rfl, hnm, rfl, rfl, hw⟩ := O
  subst hp
  intro T locs real X N S A L
  exact Done.step (fun t q => XT.lor X.here hx rfl (hb hby hd) rfl q) (k T locs real X N S A L)
theorem g_lxor {x y : Int64} (O : Ok G K own bytes maxL ret R mn kc ks) (hd : decode bytes pc = .ok (.lxor, 1))  (hp : pc + 1 = pc')
    (k : Run G K rv Hf pc' Ls (.long (x ^^^ y) :: st) H cells slots) : Run G K rv Hf pc Ls (.long y :: .long x :: st) H cells slots := by
  obtain ⟨l, Z, a0, n⟩ := G; obtain ⟨p, e, R', s, m, args, below, meth, c, kc', ks'⟩ := K
  obtain ⟨hx, hZ, hown, hby, hml, hret, hlk, rfl, hnm, rfl, rfl, hw⟩ := O
  subst hp
  intro T locs real X N S A L
  exact Done.step (fun t q => XT.lxor X.here hx rfl (hb hby hd) rfl q) (k T locs real X N S A L)
theorem g_lshl {x : Int64} {y : Int32} (O : Ok G K own bytes maxL ret R mn kc ks) (hd : decode bytes pc = .ok (.lshl, 1))  (hp : pc + 1 = pc')
    (k : Run G K rv Hf pc' Ls (.long (x <<< (y.toInt64 &&& 63)) :: st) H cells slots) : Run G K rv Hf pc Ls (.int y :: .long x :: st) H cells slots := by
  obtain ⟨l, Z, a0, n⟩ := G; obtain ⟨p, e, R', s, m, args, below, meth, c, kc', ks'⟩ := K
  obtain ⟨hx, hZ, hown, hby, hml, hret, hlk, rfl, hnm, rfl, rfl, hw⟩ := O
  subst hp
  intro T locs real X N S A L
  exact Done.step (fun t q => XT.lshl X.here hx rfl (hb hby hd) rfl q) (k T locs real X N S A L)
theorem g_lshr {x : Int64} {y : Int32} (O : Ok G K own bytes maxL ret R mn kc ks) (hd : decode bytes pc = .ok (.lshr, 1))  (hp : pc + 1 = pc')
    (k : Run G K rv Hf pc' Ls (.long (x >>> (y.toInt64 &&& 63)) :: st) H cells slots) : Run G K rv Hf pc Ls (.int y :: .long x :: st) H cells slots := by
  obtain ⟨l, Z, a0, n⟩ := G; obtain ⟨p, e, R', s, m, args, below, meth, c, kc', ks'⟩ := K
  obtain ⟨hx, hZ, hown, hby, hml, hret, hlk, rfl, hnm, rfl, rfl, hw⟩ := O
  subst hp
  intro T locs real X N S A L
  exact Done.step (fun t q => XT.lshr X.here hx rfl (hb hby hd) rfl q) (k T locs real X N S A L)
theorem g_lushr {x : Int64} {y : Int32} (O : Ok G K own bytes maxL ret R mn kc ks) (hd : decode bytes pc = .ok (.lushr, 1))  (hp : pc + 1 = pc')
    (k : Run G K rv Hf pc' Ls (.long (XT.ushrL x y) :: st) H cells slots) : Run G K rv Hf pc Ls (.int y :: .long x :: st) H cells slots := by
  obtain ⟨l, Z, a0, n⟩ := G; obtain ⟨p, e, R', s, m, args, below, meth, c, kc', ks'⟩ := K
  obtain ⟨hx, hZ, hown, hby, hml, hret, hlk, rfl, hnm, rfl, rfl, hw⟩ := O
  subst hp
  intro T locs real X N S A L
  exact Done.step (fun t q => XT.lushr X.here hx rfl (hb hby hd) rfl q) (k T locs real X N S A L)
theorem g_idiv {x y : Int32} (O : Ok G K own bytes maxL ret R mn kc ks) (hd : decode bytes pc = .ok (.idiv, 1)) (hy : y ≠ 0) (hp : pc + 1 = pc')
    (k : Run G K rv Hf pc' Ls (.int (x / y) :: st) H cells slots) : Run G K rv Hf pc Ls (.int y :: .int x :: st) H cells slots := by
  obtain ⟨l, Z, a0, n⟩ := G; obtain ⟨p, e, R', s, m, args, below, meth, c, kc', ks'⟩ := K
  obtain ⟨hx, hZ, hown, hby, hml, hret, hlk, rfl, hnm, rfl, rfl, hw⟩ := O
  subst hp
  intro T locs real X N S A L
  exact Done.step (fun t q => XS.idiv X.here hx rfl (hb hby hd) rfl hy q) (k T locs real X N S A L)
theorem g_irem {x y : Int32} (O : Ok G K own bytes maxL ret R mn kc ks) (hd : decode bytes pc = .ok (.irem, 1)) (hy : y ≠ 0) (hp : pc + 1 = pc')
    (k : Run G K rv Hf pc' Ls (.int (x % y) :: st) H cells slots) : Run G K rv Hf pc Ls (.int y :: .int x :: st) H cells slots := by
  obtain ⟨l, Z, a0, n⟩ := G; obtain ⟨p, e, R', s, m, args, below, meth, c, kc', ks'⟩ := K
  obtain ⟨hx, hZ, hown, hby, hml, hret, hlk, rfl, hnm, rfl, rfl, hw⟩ := O
  subst hp
  intro T locs real X N S A L
  exact Done.step (fun t q => iremM X hx rfl (hb hby hd) rfl hy q) (k T locs real X N S A L)
theorem g_ldiv {x y : Int64} (O : Ok G K own bytes maxL ret R mn kc ks) (hd : decode bytes pc = .ok (.ldiv, 1)) (hy : y ≠ 0) (hp : pc + 1 = pc')
    (k : Run G K rv Hf pc' Ls (.long (x / y) :: st) H cells slots) : Run G K rv Hf pc Ls (.long y :: .long x :: st) H cells slots := by
  obtain ⟨l, Z, a0, n⟩ := G; obtain ⟨p, e, R', s, m, args, below, meth, c, kc', ks'⟩ := K
  obtain ⟨hx, hZ, hown, hby, hml, hret, hlk, rfl, hnm, rfl, rfl, hw⟩ := O
  subst hp
  intro T locs real X N S A L
  exact Done.step (fun t q => XT.ldiv X.here hx rfl (hb hby hd) rfl hy q) (k T locs real X N S A L)
theorem g_lrem {x y : Int64} (O : Ok G K own bytes maxL ret R mn kc ks) (hd : decode bytes pc = .ok (.lrem, 1)) (hy : y ≠ 0) (hp : pc + 1 = pc')
    (k : Run G K rv Hf pc' Ls (.long (x % y) :: st) H cells slots) : Run G K rv Hf pc Ls (.long y :: .long x :: st) H cells slots := by
  obtain ⟨l, Z, a0, n⟩ := G; obtain ⟨p, e, R', s, m, args, below, meth, c, kc', ks'⟩ := K
  obtain ⟨hx, hZ, hown, hby, hml, hret, hlk, rfl, hnm, rfl, rfl, hw⟩ := O
  subst hp
  intro T locs real X N S A L
  exact Done.step (fun t q => XT.lrem X.here hx rfl (hb hby hd) rfl hy (by rw [lrem_mod]; exact q)) (k T locs real X N S A L)
theorem g_i2l {x : Int32} (O : Ok G K own bytes maxL ret R mn kc ks) (hd : decode bytes pc = .ok (.i2l, 1))  (hp : pc + 1 = pc')
    (k : Run G K rv Hf pc' Ls (.long x.toInt64 :: st) H cells slots) : Run G K rv Hf pc Ls (.int x :: st) H cells slots := by
  obtain ⟨l, Z, a0, n⟩ := G; obtain ⟨p, e, R', s, m, args, below, meth, c, kc', ks'⟩ := K
  obtain ⟨hx, hZ, hown, hby, hml, hret, hlk, rfl, hnm, rfl, rfl, hw⟩ := O
  subst hp
  intro T locs real X N S A L
  exact Done.step (fun t q => XT.i2l X.here hx rfl (hb hby hd) rfl q) (k T locs real X N S A L)
theorem g_l2i {x : Int64} (O : Ok G K own bytes maxL ret R mn kc ks) (hd : decode bytes pc = .ok (.l2i, 1))  (hp : pc + 1 = pc')
    (k : Run G K rv Hf pc' Ls (.int x.toInt32 :: st) H cells slots) : Run G K rv Hf pc Ls (.long x :: st) H cells slots := by
  obtain ⟨l, Z, a0, n⟩ := G; obtain ⟨p, e, R', s, m, args, below, meth, c, kc', ks'⟩ := K
  obtain ⟨hx, hZ, hown, hby, hml, hret, hlk, rfl, hnm, rfl, rfl, hw⟩ := O
  subst hp
  intro T locs real X N S A L
  exact Done.step (fun t q => XT.l2i X.here hx rfl (hb hby hd) rfl q) (k T locs real X N S A L)
theorem g_i2b {x : Int32} (O : Ok G K own bytes maxL ret R mn kc ks) (hd : decode bytes pc = .ok (.i2b, 1))  (hp : pc + 1 = pc')
    (k : Run G K rv Hf pc' Ls (.int x.toInt8.toInt32 :: st) H cells slots) : Run G K rv Hf pc Ls (.int x :: st) H cells slots := by
  obtain ⟨l, Z, a0, n⟩ := G; obtain ⟨p, e, R', s, m, args, below, meth, c, kc', ks'⟩ := K
  obtain ⟨hx, hZ, hown, hby, hml, hret, hlk, rfl, hnm, rfl, rfl, hw⟩ := O
  subst hp
  intro T locs real X N S A L
  exact Done.step (fun t q => XT.i2b X.here hx rfl (hb hby hd) rfl q) (k T locs real X N S A L)
theorem g_i2c {x : Int32} (O : Ok G K own bytes maxL ret R mn kc ks) (hd : decode bytes pc = .ok (.i2c, 1))  (hp : pc + 1 = pc')
    (k : Run G K rv Hf pc' Ls (.int x.toUInt32.toUInt16.toUInt32.toInt32 :: st) H cells slots) : Run G K rv Hf pc Ls (.int x :: st) H cells slots := by
  obtain ⟨l, Z, a0, n⟩ := G; obtain ⟨p, e, R', s, m, args, below, meth, c, kc', ks'⟩ := K
  obtain ⟨hx, hZ, hown, hby, hml, hret, hlk, rfl, hnm, rfl, rfl, hw⟩ := O
  subst hp
  intro T locs real X N S A L
  exact Done.step (fun t q => XT.i2c X.here hx rfl (hb hby hd) rfl q) (k T locs real X N S A L)
theorem g_dup {x : Value} (O : Ok G K own bytes maxL ret R mn kc ks) (hd : decode bytes pc = .ok (.dup, 1)) (hc : x.category = 1) (hp : pc + 1 = pc')
    (k : Run G K rv Hf pc' Ls (x :: x :: st) H cells slots) : Run G K rv Hf pc Ls (x :: st) H cells slots := by
  obtain ⟨l, Z, a0, n⟩ := G; obtain ⟨p, e, R', s, m, args, below, meth, c, kc', ks'⟩ := K
  obtain ⟨hx, hZ, hown, hby, hml, hret, hlk, rfl, hnm, rfl, rfl, hw⟩ := O
  subst hp
  intro T locs real X N S A L
  exact Done.step (fun t q => XS.dup X.here hx rfl (hb hby hd) rfl ((sh_cat n x).trans hc) q) (k T locs real X N S A L)
theorem g_dup_x1 {x y : Value} (O : Ok G K own bytes maxL ret R mn kc ks) (hd : decode bytes pc = .ok (.dup_x1, 1)) (hc : x.category = 1) (hc' : y.category = 1) (hp : pc + 1 = pc')
    (k : Run G K rv Hf pc' Ls (x :: y :: x :: st) H cells slots) : Run G K rv Hf pc Ls (x :: y :: st) H cells slots := by
  obtain ⟨l, Z, a0, n⟩ := G; obtain ⟨p, e, R', s, m, args, below, meth, c, kc', ks'⟩ := K
  obtain ⟨hx, hZ, hown, hby, hml, hret, hlk, rfl, hnm, rfl, rfl, hw⟩ := O
  subst hp
  intro T locs real X N S A L
  exact Done.step (fun t q => XT.dupX1 X.here hx rfl (hb hby hd) rfl ((sh_cat n x).trans hc) ((sh_cat n y).trans hc') q) (k T locs real X N S A L)
theorem g_pop {x : Value} (O : Ok G K own bytes maxL ret R mn kc ks) (hd : decode bytes pc = .ok (.pop, 1)) (hc : x.category = 1) (hp : pc + 1 = pc')
    (k : Run G K rv Hf pc' Ls (st) H cells slots) : Run G K rv Hf pc Ls (x :: st) H cells slots := by
  obtain ⟨l, Z, a0, n⟩ := G; obtain ⟨p, e, R', s, m, args, below, meth, c, kc', ks'⟩ := K
  obtain ⟨hx, hZ, hown, hby, hml, hret, hlk, rfl, hnm, rfl, rfl, hw⟩ := O
  subst hp
  intro T locs real X N S A L
  exact Done.step (fun t q => XT.pop X.here hx rfl (hb hby hd) rfl ((sh_cat n x).trans hc) q) (k T locs real X N S A L)
theorem g_iload {j : Nat} {v : Int32} (O : Ok G K own bytes maxL ret R mn kc ks) (hd : decode bytes pc = .ok (.iload j, 2)) (hl : Ls[j]? = some (some (.int v))) (hp : pc + 2 = pc')
    (k : Run G K rv Hf pc' Ls (.int v :: st) H cells slots) : Run G K rv Hf pc Ls st H cells slots := by
  obtain ⟨l, Z, a0, n⟩ := G; obtain ⟨p, e, R', s, m, args, below, meth, c, kc', ks'⟩ := K
  obtain ⟨hx, hZ, hown, hby, hml, hret, hlk, rfl, hnm, rfl, rfl, hw⟩ := O
  subst hp
  intro T locs real X N S A L
  exact Done.step (fun t q => XS.iload X.here hx rfl (hb hby hd) (L.2.2 _ _ hl) q) (k T locs real X N S A L)
theorem g_iload_n {j : Fin 4} {v : Int32} (O : Ok G K own bytes maxL ret R mn kc ks) (hd : decode bytes pc = .ok (.iload_n j, 1)) (hl : Ls[j.val]? = some (some (.int v))) (hp : pc + 1 = pc')
    (k : Run G K rv Hf pc' Ls (.int v :: st) H cells slots) : Run G K rv Hf pc Ls st H cells slots := by
  obtain ⟨l, Z, a0, n⟩ := G; obtain ⟨p, e, R', s, m, args, below, meth, c, kc', ks'⟩ := K
  obtain ⟨hx, hZ, hown, hby, hml, hret, hlk, rfl, hnm, rfl, rfl, hw⟩ := O
  subst hp
  intro T locs real X N S A L
  exact Done.step (fun t q => XS.iloadN X.here hx rfl (hb hby hd) (L.2.2 _ _ hl) q) (k T locs real X N S A L)
theorem g_lload {j : Nat} {v : Int64} (O : Ok G K own bytes maxL ret R mn kc ks) (hd : decode bytes pc = .ok (.lload j, 2)) (hl : Ls[j]? = some (some (.long v))) (hp : pc + 2 = pc')
    (k : Run G K rv Hf pc' Ls (.long v :: st) H cells slots) : Run G K rv Hf pc Ls st H cells slots := by
  obtain ⟨l, Z, a0, n⟩ := G; obtain ⟨p, e, R', s, m, args, below, meth, c, kc', ks'⟩ := K
  obtain ⟨hx, hZ, hown, hby, hml, hret, hlk, rfl, hnm, rfl, rfl, hw⟩ := O
  subst hp
  intro T locs real X N S A L
  exact Done.step (fun t q => XT.lload X.here hx rfl (hb hby hd) (L.2.2 _ _ hl) q) (k T locs real X N S A L)
theorem g_lload_n {j : Fin 4} {v : Int64} (O : Ok G K own bytes maxL ret R mn kc ks) (hd : decode bytes pc = .ok (.lload_n j, 1)) (hl : Ls[j.val]? = some (some (.long v))) (hp : pc + 1 = pc')
    (k : Run G K rv Hf pc' Ls (.long v :: st) H cells slots) : Run G K rv Hf pc Ls st H cells slots := by
  obtain ⟨l, Z, a0, n⟩ := G; obtain ⟨p, e, R', s, m, args, below, meth, c, kc', ks'⟩ := K
  obtain ⟨hx, hZ, hown, hby, hml, hret, hlk, rfl, hnm, rfl, rfl, hw⟩ := O
  subst hp
  intro T locs real X N S A L
  exact Done.step (fun t q => XT.lloadN X.here hx rfl (hb hby hd) (L.2.2 _ _ hl) q) (k T locs real X N S A L)
theorem g_aload {j : Nat} {v : Nat} (O : Ok G K own bytes maxL ret R mn kc ks) (hd : decode bytes pc = .ok (.aload j, 2)) (hl : Ls[j]? = some (some (.ref v))) (hp : pc + 2 = pc')
    (k : Run G K rv Hf pc' Ls (.ref v :: st) H cells slots) : Run G K rv Hf pc Ls st H cells slots := by
  obtain ⟨l, Z, a0, n⟩ := G; obtain ⟨p, e, R', s, m, args, below, meth, c, kc', ks'⟩ := K
  obtain ⟨hx, hZ, hown, hby, hml, hret, hlk, rfl, hnm, rfl, rfl, hw⟩ := O
  subst hp
  intro T locs real X N S A L
  exact Done.step (fun t q => XS.aload X.here hx rfl (hb hby hd) (L.2.2 _ _ hl) rfl q) (k T locs real X N S A L)
theorem g_aload_n {j : Fin 4} {v : Nat} (O : Ok G K own bytes maxL ret R mn kc ks) (hd : decode bytes pc = .ok (.aload_n j, 1)) (hl : Ls[j.val]? = some (some (.ref v))) (hp : pc + 1 = pc')
    (k : Run G K rv Hf pc' Ls (.ref v :: st) H cells slots) : Run G K rv Hf pc Ls st H cells slots := by
  obtain ⟨l, Z, a0, n⟩ := G; obtain ⟨p, e, R', s, m, args, below, meth, c, kc', ks'⟩ := K
  obtain ⟨hx, hZ, hown, hby, hml, hret, hlk, rfl, hnm, rfl, rfl, hw⟩ := O
  subst hp
  intro T locs real X N S A L
  exact Done.step (fun t q => XS.aloadN X.here hx rfl (hb hby hd) (L.2.2 _ _ hl) rfl q) (k T locs real X N S A L)
theorem g_istore {j : Nat} {v : Int32} (O : Ok G K own bytes maxL ret R mn kc ks) (hd : decode bytes pc = .ok (.istore j, 2)) (hl : stor Ls j (.int v) = some Ls') (hp : pc + 2 = pc')
    (k : Run G K rv Hf pc' Ls' st H cells slots) : Run G K rv Hf pc Ls (.int v :: st) H cells slots := by
  obtain ⟨l, Z, a0, n⟩ := G; obtain ⟨p, e, R', s, m, args, below, meth, c, kc', ks'⟩ := K
  obtain ⟨hx, hZ, hown, hby, hml, hret, hlk, rfl, hnm, rfl, rfl, hw⟩ := O
  subst hp
  intro T locs real X N S A L
  obtain ⟨real', e1, L'⟩ := store_1 L rfl hl
  exact Done.step (fun t q => XS.istore X.here hx rfl (hb hby hd) rfl e1 q) (k T locs real' X N S A L')
theorem g_istore_n {j : Fin 4} {v : Int32} (O : Ok G K own bytes maxL ret R mn kc ks) (hd : decode bytes pc = .ok (.istore_n j, 1)) (hl : stor Ls j.val (.int v) = some Ls') (hp : pc + 1 = pc')
    (k : Run G K rv Hf pc' Ls' st H cells slots) : Run G K rv Hf pc Ls (.int v :: st) H cells slots := by
  obtain ⟨l, Z, a0, n⟩ := G; obtain ⟨p, e, R', s, m, args, below, meth, c, kc', ks'⟩ := K
  obtain ⟨hx, hZ, hown, hby, hml, hret, hlk, rfl, hnm, rfl, rfl, hw⟩ := O
  subst hp
  intro T locs real X N S A L
  obtain ⟨real', e1, L'⟩ := store_1 L rfl hl
  exact Done.step (fun t q => XS.istoreN X.here hx rfl (hb hby hd) rfl e1 q) (k T locs real' X N S A L')
theorem g_lstore {j : Nat} {v : Int64} (O : Ok G K own bytes maxL ret R mn kc ks) (hd : decode bytes pc = .ok (.lstore j, 2)) (hl : stor Ls j (.long v) = some Ls') (hp : pc + 2 = pc')
    (k : Run G K rv Hf pc' Ls' st H cells slots) : Run G K rv Hf pc Ls (.long v :: st) H cells slots := by
  obtain ⟨l, Z, a0, n⟩ := G; obtain ⟨p, e, R', s, m, args, below, meth, c, kc', ks'⟩ := K
  obtain ⟨hx, hZ, hown, hby, hml, hret, hlk, rfl, hnm, rfl, rfl, hw⟩ := O
  subst hp
  intro T locs real X N S A L
  obtain ⟨real', e1, L'⟩ := store_2 L rfl hl
  exact Done.step (fun t q => XT.lstore X.here hx rfl (hb hby hd) rfl e1 q) (k T locs real' X N S A L')
theorem g_lstore_n {j : Fin 4} {v : Int64} (O : Ok G K own bytes maxL ret R mn kc ks) (hd : decode bytes pc = .ok (.lstore_n j, 1)) (hl : stor Ls j.val (.long v) = some Ls') (hp : pc + 1 = pc')
    (k : Run G K rv Hf pc' Ls' st H cells slots) : Run G K rv Hf pc Ls (.long v :: st) H cells slots := by
  obtain ⟨l, Z, a0, n⟩ := G; obtain ⟨p, e, R', s, m, args, below, meth, c, kc', ks'⟩ := K
  obtain ⟨hx, hZ, hown, hby, hml, hret, hlk, rfl, hnm, rfl, rfl, hw⟩ := O
  subst hp
  intro T locs real X N S A L
  obtain ⟨real', e1, L'⟩ := store_2 L rfl hl
  exact Done.step (fun t q => XT.lstoreN X.here hx rfl (hb hby hd) rfl e1 q) (k T locs real' X N S A L')
theorem g_astore {j : Nat} {v : Nat} (O : Ok G K own bytes maxL ret R mn kc ks) (hd : decode bytes pc = .ok (.astore j, 2)) (hl : stor Ls j (.ref v) = some Ls') (hp : pc + 2 = pc')
    (k : Run G K rv Hf pc' Ls' st H cells slots) : Run G K rv Hf pc Ls (.ref v :: st) H cells slots := by
  obtain ⟨l, Z, a0, n⟩ := G; obtain ⟨p, e, R', s, m, args, below, meth, c, kc', ks'⟩ := K
  obtain ⟨hx, hZ, hown, hby, hml, hret, hlk, rfl, hnm, rfl, rfl, hw⟩ := O
  subst hp
  intro T locs real X N S A L
  obtain ⟨real', e1, L'⟩ := store_1 L rfl hl
  exact Done.step (fun t q => XS.astore X.here hx rfl (hb hby hd) rfl rfl e1 q) (k T locs real' X N S A L')
theorem g_astore_n {j : Fin 4} {v : Nat} (O : Ok G K own bytes maxL ret R mn kc ks) (hd : decode bytes pc = .ok (.astore_n j, 1)) (hl : stor Ls j.val (.ref v) = some Ls') (hp : pc + 1 = pc')
    (k : Run G K rv Hf pc' Ls' st H cells slots) : Run G K rv Hf pc Ls (.ref v :: st) H cells slots := by
  obtain ⟨l, Z, a0, n⟩ := G; obtain ⟨p, e, R', s, m, args, below, meth, c, kc', ks'⟩ := K
  obtain ⟨hx, hZ, hown, hby, hml, hret, hlk, rfl, hnm, rfl, rfl, hw⟩ := O
  subst hp
  intro T locs real X N S A L
  obtain ⟨real', e1, L'⟩ := store_1 L rfl hl
  exact Done.step (fun t q => XS.astoreN X.here hx rfl (hb hby hd) rfl rfl e1 q) (k T locs real' X N S A L')
theorem g_iinc {j : Nat} {i : Int} {v w : Int32} (O : Ok G K own bytes maxL ret R mn kc ks) (hd : decode bytes pc = .ok (.iinc j i, 3)) (hv : Int32.ofInt i = w) (hg : Ls[j]? = some (some (.int v))) (hl : stor Ls j (.int (v + w)) = some Ls') (hp : pc + 3 = pc')
    (k : Run G K rv Hf pc' Ls' st H cells slots) : Run G K rv Hf pc Ls st H cells slots := by
  obtain ⟨l, Z, a0, n⟩ := G; obtain ⟨p, e, R', s, m, args, below, meth, c, kc', ks'⟩ := K
  obtain ⟨hx, hZ, hown, hby, hml, hret, hlk, rfl, hnm, rfl, rfl, hw⟩ := O
  subst hp
  intro T locs real X N S A L
  obtain ⟨real', e1, L'⟩ := store_1 L rfl hl
  exact Done.step (fun t q => XT.iincV X.here hx rfl w (hb hby hd) hv (L.2.2 _ _ hg) e1 q) (k T locs real' X N S A L')
theorem g_goto {o : Int} (O : Ok G K own bytes maxL ret R mn kc ks) (hd : decode bytes pc = .ok (.goto o, 3)) (ho : 0 ≤ (pc : Int) + o) (hp : ((pc : Int) + o).toNat = pc')
    (k : Run G K rv Hf pc' Ls st H cells slots) : Run G K rv Hf pc Ls st H cells slots := by
  obtain ⟨l, Z, a0, n⟩ := G; obtain ⟨p, e, R', s, m, args, below, meth, c, kc', ks'⟩ := K
  obtain ⟨hx, hZ, hown, hby, hml, hret, hlk, rfl, hnm, rfl, rfl, hw⟩ := O
  intro T locs real X N S A L
  exact Done.step (fun t q => XS.goto X.here hx rfl (pc0 := pc) rfl (hb hby hd) ho hp q) (k T locs real X N S A L)
theorem g_icmp_eq {x y : Int32} {o : Int} {pc1 : Nat} (O : Ok G K own bytes maxL ret R mn kc ks) (hd : decode bytes pc = .ok (.if_icmp .eq o, 3)) (hp : pc + 3 = pc') (ho : 0 ≤ (pc : Int) + o) (ht : ((pc : Int) + o).toNat = pc1)
    (kt : x = y → Run G K rv Hf pc1 Ls st H cells slots) (kf : ¬ x = y → Run G K rv Hf pc' Ls st H cells slots) : Run G K rv Hf pc Ls (.int y :: .int x :: st) H cells slots := by
  obtain ⟨l, Z, a0, n⟩ := G; obtain ⟨p, e, R', s, m, args, below, meth, c, kc', ks'⟩ := K
  obtain ⟨hx, hZ, hown, hby, hml, hret, hlk, rfl, hnm, rfl, rfl, hw⟩ := O
  subst hp
  intro T locs real X N S A L
  by_cases h : x = y
  · exact Done.step (fun t q => XS.icmpYes X.here hx rfl (pc0 := pc) rfl (hb hby hd) rfl (XT.ii_eq_t h) ho ht q) (kt h T locs real X N S A L)
  · exact Done.step (fun t q => XS.icmpNo X.here hx rfl (hb hby hd) rfl (XT.ii_eq_f h) q) (kf h T locs real X N S A L)
theorem g_if_eq {x : Int32} {o : Int} {pc1 : Nat} (O : Ok G K own bytes maxL ret R mn kc ks) (hd : decode bytes pc = .ok (.ifCond .eq o, 3)) (hp : pc + 3 = pc') (ho : 0 ≤ (pc : Int) + o) (ht : ((pc : Int) + o).toNat = pc1)
    (kt : x = 0 → Run G K rv Hf pc1 Ls st H cells slots) (kf : ¬ x = 0 → Run G K rv Hf pc' Ls st H cells slots) : Run G K rv Hf pc Ls (.int x :: st) H cells slots := by
  obtain ⟨l, Z, a0, n⟩ := G; obtain ⟨p, e, R', s, m, args, below, meth, c, kc', ks'⟩ := K
  obtain ⟨hx, hZ, hown, hby, hml, hret, hlk, rfl, hnm, rfl, rfl, hw⟩ := O
  subst hp
  intro T locs real X N S A L
  by_cases h : x = 0
  · exact Done.step (fun t q => XS.ifYes X.here hx rfl (pc0 := pc) rfl (hb hby hd) rfl (XT.i0_eq_t h) ho ht q) (kt h T locs real X N S A L)
  · exact Done.step (fun t q => XS.ifNo X.here hx rfl (hb hby hd) rfl (XT.i0_eq_f h) q) (kf h T locs real X N S A L)
theorem g_lcmp_eq {x y : Int64} {pq : Nat} {o : Int} {pc1 : Nat} (O : Ok G K own bytes maxL ret R mn kc ks) (hd0 : decode bytes pc = .ok (.lcmp, 1)) (hq : pc + 1 = pq) (hd : decode bytes pq = .ok (.ifCond .eq o, 3)) (hp : pq + 3 = pc') (ho : 0 ≤ (pq : Int) + o) (ht : ((pq : Int) + o).toNat = pc1)
    (kt : x = y → Run G K rv Hf pc1 Ls st H cells slots) (kf : ¬ x = y → Run G K rv Hf pc' Ls st H cells slots) : Run G K rv Hf pc Ls (.long y :: .long x :: st) H cells slots := by
  obtain ⟨l, Z, a0, n⟩ := G; obtain ⟨p, e, R', s, m, args, below, meth, c, kc', ks'⟩ := K
  obtain ⟨hx, hZ, hown, hby, hml, hret, hlk, rfl, hnm, rfl, rfl, hw⟩ := O
  subst hq
  subst hp
  intro T locs real X N S A L
  by_cases h : x = y
  · exact Done.step (fun t q => XT.lcmp X.here hx rfl (hb hby hd0) rfl (XS.ifYes X.here hx rfl (pc0 := pc + 1) rfl (hb hby hd) rfl (XT.ll_eq_t h) ho ht q)) (kt h T locs real X N S A L)
  · exact Done.step (fun t q => XT.lcmp X.here hx rfl (hb hby hd0) rfl (XS.ifNo X.here hx rfl (hb hby hd) rfl (XT.ll_eq_f h) q)) (kf h T locs real X N S A L)
theorem g_icmp_ne {x y : Int32} {o : Int} {pc1 : Nat} (O : Ok G K own bytes maxL ret R mn kc ks) (hd : decode bytes pc = .ok (.if_icmp .ne o, 3)) (hp : pc + 3 = pc') (ho : 0 ≤ (pc : Int) + o) (ht : ((pc : Int) + o).toNat = pc1)
    (kt : ¬ x = y → Run G K rv Hf pc1 Ls st H cells slots) (kf : x = y → Run G K rv Hf pc' Ls st H cells slots) : Run G K rv Hf pc Ls (.int y :: .int x :: st) H cells slots := by
  obtain ⟨l, Z, a0, n⟩ := G; obtain ⟨p, e, R', s, m, args, below, meth, c, kc', ks'⟩ := K
  obtain ⟨hx, hZ, hown, hby, hml, hret, hlk, rfl, hnm, rfl, rfl, hw⟩ := O
  subst hp
  intro T locs real X N S A L
  by_cases h : x = y
  · exact Done.step (fun t q => XS.icmpNo X.here hx rfl (hb hby hd) rfl (XT.ii_ne_f h) q) (kf h T locs real X N S A L)
  · exact Done.step (fun t q => XS.icmpYes X.here hx rfl (pc0 := pc) rfl (hb hby hd) rfl (XT.ii_ne_t h) ho ht q) (kt h T locs real X N S A L)
theorem g_if_ne {x : Int32} {o : Int} {pc1 : Nat} (O : Ok G K own bytes maxL ret R mn kc ks) (hd : decode bytes pc = .ok (.ifCond .ne o, 3)) (hp : pc + 3 = pc') (ho : 0 ≤ (pc : Int) + o) (ht : ((pc : Int) + o).toNat = pc1)
    (kt : ¬ x = 0 → Run G K rv Hf pc1 Ls st H cells slots) (kf : x = 0 → Run G K rv Hf pc' Ls st H cells slots) : Run G K rv Hf pc Ls (.int x :: st) H cells slots := by
  obtain ⟨l, Z, a0, n⟩ := G; obtain ⟨p, e, R', s, m, args, below, meth, c, kc', ks'⟩ := K
  obtain ⟨hx, hZ, hown, hby, hml, hret, hlk, rfl, hnm, rfl, rfl, hw⟩ := O
  subst hp
  intro T locs real X N S A L
  by_cases h : x = 0
  · exact Done.step (fun t q => XS.ifNo X.here hx rfl (hb hby hd) rfl (XT.i0_ne_f h) q) (kf h T locs real X N S A L)
  · exact Done.step (fun t q => XS.ifYes X.here hx rfl (pc0 := pc) rfl (hb hby hd) rfl (XT.i0_ne_t h) ho ht q) (kt h T locs real X N S A L)
theorem g_lcmp_ne {x y : Int64} {pq : Nat} {o : Int} {pc1 : Nat} (O : Ok G K own bytes maxL ret R mn kc ks) (hd0 : decode bytes pc = .ok (.lcmp, 1)) (hq : pc + 1 = pq) (hd : decode bytes pq = .ok (.ifCond .ne o, 3)) (hp : pq + 3 = pc') (ho : 0 ≤ (pq : Int) + o) (ht : ((pq : Int) + o).toNat = pc1)
    (kt : ¬ x = y → Run G K rv Hf pc1 Ls st H cells slots) (kf : x = y → Run G K rv Hf pc' Ls st H cells slots) : Run G K rv Hf pc Ls (.long y :: .long x :: st) H cells slots := by
  obtain ⟨l, Z, a0, n⟩ := G; obtain ⟨p, e, R', s, m, args, below, meth, c, kc', ks'⟩ := K
  obtain ⟨hx, hZ, hown, hby, hml, hret, hlk, rfl, hnm, rfl, rfl, hw⟩ := O
  subst hq
  subst hp
  intro T locs real X N S A L
  by_cases h : x = y
  · exact Done.step (fun t q => XT.lcmp X.here hx rfl (hb hby hd0) rfl (XS.ifNo X.here hx rfl (hb hby hd) rfl (XT.ll_ne_f h) q)) (kf h T locs real X N S A L)
  · exact Done.step (fun t q => XT.lcmp X.here hx rfl (hb hby hd0) rfl (XS.ifYes X.here hx rfl (pc0 := pc + 1) rfl (hb hby hd) rfl (XT.ll_ne_t h) ho ht q)) (kt h T locs real X N S A L)
theorem g_icmp_lt {x y : Int32} {o : Int} {pc1 : Nat} (O : Ok G K own bytes maxL ret R mn kc ks) (hd : decode bytes pc = .ok (.if_icmp .lt o, 3)) (hp : pc + 3 = pc') (ho : 0 ≤ (pc : Int) + o) (ht : ((pc : Int) + o).toNat = pc1)
    (kt : x < y → Run G K rv Hf pc1 Ls st H cells slots) (kf : ¬ x < y → Run G K rv Hf pc' Ls st H cells slots) : Run G K rv Hf pc Ls (.int y :: .int x :: st) H cells slots := by
  obtain ⟨l, Z, a0, n⟩ := G; obtain ⟨p, e, R', s, m, args, below, meth, c, kc', ks'⟩ := K
  obtain ⟨hx, hZ, hown, hby, hml, hret, hlk, rfl, hnm, rfl, rfl, hw⟩ := O
  subst hp
  intro T locs real X N S A L
  by_cases h : x < y
  · exact Done.step (fun t q => XS.icmpYes X.here hx rfl (pc0 := pc) rfl (hb hby hd) rfl (XT.ii_lt_t h) ho ht q) (kt h T locs real X N S A L)
  · exact Done.step (fun t q => XS.icmpNo X.here hx rfl (hb hby hd) rfl (XT.ii_lt_f h) q) (kf h T locs real X N S A L)
theorem g_if_lt {x : Int32} {o : Int} {pc1 : Nat} (O : Ok G K own bytes maxL ret R mn kc ks) (hd : decode bytes pc = .ok (.ifCond .lt o, 3)) (hp : pc + 3 = pc') (ho : 0 ≤ (pc : Int) + o) (ht : ((pc : Int) + o).toNat = pc1)
    (kt : x < 0 → Run G K rv Hf pc1 Ls st H cells slots) (kf : ¬ x < 0 → Run G K rv Hf pc' Ls st H cells slots) : Run G K rv Hf pc Ls (.int x :: st) H cells slots := by
  obtain ⟨l, Z, a0, n⟩ := G; obtain ⟨p, e, R', s, m, args, below, meth, c, kc', ks'⟩ := K
  obtain ⟨hx, hZ, hown, hby, hml, hret, hlk, rfl, hnm, rfl, rfl, hw⟩ := O
  subst hp
  intro T locs real X N S A L
  by_cases h : x < 0
  · exact Done.step (fun t q => XS.ifYes X.here hx rfl (pc0 := pc) rfl (hb hby hd) rfl (XT.i0_lt_t h) ho ht q) (kt h T locs real X N S A L)
  · exact Done.step (fun t q => XS.ifNo X.here hx rfl (hb hby hd) rfl (XT.i0_lt_f h) q) (kf h T locs real X N S A L)
theorem g_lcmp_lt {x y : Int64} {pq : Nat} {o : Int} {pc1 : Nat} (O : Ok G K own bytes maxL ret R mn kc ks) (hd0 : decode bytes pc = .ok (.lcmp, 1)) (hq : pc + 1 = pq) (hd : decode bytes pq = .ok (.ifCond .lt o, 3)) (hp : pq + 3 = pc') (ho : 0 ≤ (pq : Int) + o) (ht : ((pq : Int) + o).toNat = pc1)
    (kt : x < y → Run G K rv Hf pc1 Ls st H cells slots) (kf : ¬ x < y → Run G K rv Hf pc' Ls st H cells slots) : Run G K rv Hf pc Ls (.long y :: .long x :: st) H cells slots := by
  obtain ⟨l, Z, a0, n⟩ := G; obtain ⟨p, e, R', s, m, args, below, meth, c, kc', ks'⟩ := K
  obtain ⟨hx, hZ, hown, hby, hml, hret, hlk, rfl, hnm, rfl, rfl, hw⟩ := O
  subst hq
  subst hp
  intro T locs real X N S A L
  by_cases h : x < y
  · exact Done.step (fun t q => XT.lcmp X.here hx rfl (hb hby hd0) rfl (XS.ifYes X.here hx rfl (pc0 := pc + 1) rfl (hb hby hd) rfl (XT.ll_lt_t h) ho ht q)) (kt h T locs real X N S A L)
  · exact Done.step (fun t q => XT.lcmp X.here hx rfl (hb hby hd0) rfl (XS.ifNo X.here hx rfl (hb hby hd) rfl (XT.ll_lt_f h) q)) (kf h T locs real X N S A L)
theorem g_icmp_ge {x y : Int32} {o : Int} {pc1 : Nat} (O : Ok G K own bytes maxL ret R mn kc ks) (hd : decode bytes pc = .ok (.if_icmp .ge o, 3)) (hp : pc + 3 = pc') (ho : 0 ≤ (pc : Int) + o) (ht : ((pc : Int) + o).toNat = pc1)
    (kt : ¬ x < y → Run G K rv Hf pc1 Ls st H cells slots) (kf : x < y → Run G K rv Hf pc' Ls st H cells slots) : Run G K rv Hf pc Ls (.int y :: .int x :: st) H cells slots := by
  obtain ⟨l, Z, a0, n⟩ := G; obtain ⟨p, e, R', s, m, args, below, meth, c, kc', ks'⟩ := K
  obtain ⟨hx, hZ, hown, hby, hml, hret, hlk, rfl, hnm, rfl, rfl, hw⟩ := O
  subst hp
  intro T locs real X N S A L
  by_cases h : x < y
  · exact Done.step (fun t q => XS.icmpNo X.here hx rfl (hb hby hd) rfl (XT.ii_ge_f h) q) (kf h T locs real X N S A L)
  · exact Done.step (fun t q => XS.icmpYes X.here hx rfl (pc0 := pc) rfl (hb hby hd) rfl (XT.ii_ge_t h) ho ht q) (kt h T locs real X N S A L)
theorem g_if_ge {x : Int32} {o : Int} {pc1 : Nat} (O : Ok G K own bytes maxL ret R mn kc ks) (hd : decode bytes pc = .ok (.ifCond .ge o, 3)) (hp : pc + 3 = pc') (ho : 0 ≤ (pc : Int) + o) (ht : ((pc : Int) + o).toNat = pc1)
    (kt : ¬ x < 0 → Run G K rv Hf pc1 Ls st H cells slots) (kf : x < 0 → Run G K rv Hf pc' Ls st H cells slots) : Run G K rv Hf pc Ls (.int x :: st) H cells slots := by
  obtain ⟨l, Z, a0, n⟩ := G; obtain ⟨p, e, R', s, m, args, below, meth, c, kc', ks'⟩ := K
  obtain ⟨hx, hZ, hown, hby, hml, hret, hlk, rfl, hnm, rfl, rfl, hw⟩ := O
  subst hp
  intro T locs real X N S A L
  by_cases h : x < 0
  · exact Done.step (fun t q => XS.ifNo X.here hx rfl (hb hby hd) rfl (XT.i0_ge_f h) q) (kf h T locs real X N S A L)
  · exact Done.step (fun t q => XS.ifYes X.here hx rfl (pc0 := pc) rfl (hb hby hd) rfl (XT.i0_ge_t h) ho ht q) (kt h T locs real X N S A L)
theorem g_lcmp_ge {x y : Int64} {pq : Nat} {o : Int} {pc1 : Nat} (O : Ok G K own bytes maxL ret R mn kc ks) (hd0 : decode bytes pc = .ok (.lcmp, 1)) (hq : pc + 1 = pq) (hd : decode bytes pq = .ok (.ifCond .ge o, 3)) (hp : pq + 3 = pc') (ho : 0 ≤ (pq : Int) + o) (ht : ((pq : Int) + o).toNat = pc1)
    (kt : ¬ x < y → Run G K rv Hf pc1 Ls st H cells slots) (kf : x < y → Run G K rv Hf pc' Ls st H cells slots) : Run G K rv Hf pc Ls (.long y :: .long x :: st) H cells slots := by
  obtain ⟨l, Z, a0, n⟩ := G; obtain ⟨p, e, R', s, m, args, below, meth, c, kc', ks'⟩ := K
  obtain ⟨hx, hZ, hown, hby, hml, hret, hlk, rfl, hnm, rfl, rfl, hw⟩ := O
  subst hq
  subst hp
  intro T locs real X N S A L
  by_cases h : x < y
  · exact Done.step (fun t q => XT.lcmp X.here hx rfl (hb hby hd0) rfl (XS.ifNo X.here hx rfl (hb hby hd) rfl (XT.ll_ge_f h) q)) (kf h T locs real X N S A L)
  · exact Done.step (fun t q => XT.lcmp X.here hx rfl (hb hby hd0) rfl (XS.ifYes X.here hx rfl (pc0 := pc + 1) rfl (hb hby hd) rfl (XT.ll_ge_t h) ho ht q)) (kt h T locs real X N S A L)
theorem g_icmp_gt {x y : Int32} {o : Int} {pc1 : Nat} (O : Ok G K own bytes maxL ret R mn kc ks) (hd : decode bytes pc = .ok (.if_icmp .gt o, 3)) (hp : pc + 3 = pc') (ho : 0 ≤ (pc : Int) + o) (ht : ((pc : Int) + o).toNat = pc1)
    (kt : y < x → Run G K rv Hf pc1 Ls st H cells slots) (kf : ¬ y < x → Run G K rv Hf pc' Ls st H cells slots) : Run G K rv Hf pc Ls (.int y :: .int x :: st) H cells slots := by
  obtain ⟨l, Z, a0, n⟩ := G; obtain ⟨p, e, R', s, m, args, below, meth, c, kc', ks'⟩ := K
  obtain ⟨hx, hZ, hown, hby, hml, hret, hlk, rfl, hnm, rfl, rfl, hw⟩ := O
  subst hp
  intro T locs real X N S A L
  by_cases h : y < x
  · exact Done.step (fun t q => XS.icmpYes X.here hx rfl (pc0 := pc) rfl (hb hby hd) rfl (XT.ii_gt_t h) ho ht q) (kt h T locs real X N S A L)
  · exact Done.step (fun t q => XS.icmpNo X.here hx rfl (hb hby hd) rfl (XT.ii_gt_f h) q) (kf h T locs real X N S A L)
theorem g_if_gt {x : Int32} {o : Int} {pc1 : Nat} (O : Ok G K own bytes maxL ret R mn kc ks) (hd : decode bytes pc = .ok (.ifCond .gt o, 3)) (hp : pc + 3 = pc') (ho : 0 ≤ (pc : Int) + o) (ht : ((pc : Int) + o).toNat = pc1)
    (kt : 0 < x → Run G K rv Hf pc1 Ls st H cells slots) (kf : ¬ 0 < x → Run G K rv Hf pc' Ls st H cells slots) : Run G K rv Hf pc Ls (.int x :: st) H cells slots := by
  obtain ⟨l, Z, a0, n⟩ := G; obtain ⟨p, e, R', s, m, args, below, meth, c, kc', ks'⟩ := K
  obtain ⟨hx, hZ, hown, hby, hml, hret, hlk, rfl, hnm, rfl, rfl, hw⟩ := O
  subst hp
  intro T locs real X N S A L
  by_cases h : 0 < x
  · exact Done.step (fun t q => XS.ifYes X.here hx rfl (pc0 := pc) rfl (hb hby hd) rfl (XT.i0_gt_t h) ho ht q) (kt h T locs real X N S A L)
  · exact Done.step (fun t q => XS.ifNo X.here hx rfl (hb hby hd) rfl (XT.i0_gt_f h) q) (kf h T locs real X N S A L)
theorem g_lcmp_gt {x y : Int64} {pq : Nat} {o : Int} {pc1 : Nat} (O : Ok G K own bytes maxL ret R mn kc ks) (hd0 : decode bytes pc = .ok (.lcmp, 1)) (hq : pc + 1 = pq) (hd : decode bytes pq = .ok (.ifCond .gt o, 3)) (hp : pq + 3 = pc') (ho : 0 ≤ (pq : Int) + o) (ht : ((pq : Int) + o).toNat = pc1)
    (kt : y < x → Run G K rv Hf pc1 Ls st H cells slots) (kf : ¬ y < x → Run G K rv Hf pc' Ls st H cells slots) : Run G K rv Hf pc Ls (.long y :: .long x :: st) H cells slots := by
  obtain ⟨l, Z, a0, n⟩ := G; obtain ⟨p, e, R', s, m, args, below, meth, c, kc', ks'⟩ := K
  obtain ⟨hx, hZ, hown, hby, hml, hret, hlk, rfl, hnm, rfl, rfl, hw⟩ := O
  subst hq
  subst hp
  intro T locs real X N S A L
  by_cases h : y < x
  · exact Done.step (fun t q => XT.lcmp X.here hx rfl (hb hby hd0) rfl (XS.ifYes X.here hx rfl (pc0 := pc + 1) rfl (hb hby hd) rfl (XT.ll_gt_t h) ho ht q)) (kt h T locs real X N S A L)
  · exact Done.step (fun t q => XT.lcmp X.here hx rfl (hb hby hd0) rfl (XS.ifNo X.here hx rfl (hb hby hd) rfl (XT.ll_gt_f h) q)) (kf h T locs real X N S A L)
theorem g_icmp_le {x y : Int32} {o : Int} {pc1 : Nat} (O : Ok G K own bytes maxL ret R mn kc ks) (hd : decode bytes pc = .ok (.if_icmp .le o, 3)) (hp : pc + 3 = pc') (ho : 0 ≤ (pc : Int) + o) (ht : ((pc : Int) + o).toNat = pc1)
    (kt : ¬ y < x → Run G K rv Hf pc1 Ls st H cells slots) (kf : y < x → Run G K rv Hf pc' Ls st H cells slots) : Run G K rv Hf pc Ls (.int y :: .int x :: st) H cells slots := by
  obtain ⟨l, Z, a0, n⟩ := G; obtain ⟨p, e, R', s, m, args, below, meth, c, kc', ks'⟩ := K
  obtain ⟨hx, hZ, hown, hby, hml, hret, hlk, rfl, hnm, rfl, rfl, hw⟩ := O
  subst hp
  intro T locs real X N S A L
  by_cases h : y < x
  · exact Done.step (fun t q => XS.icmpNo X.here hx rfl (hb hby hd) rfl (XT.ii_le_f h) q) (kf h T locs real X N S A L)
  · exact Done.step (fun t q => XS.icmpYes X.here hx rfl (pc0 := pc) rfl (hb hby hd) rfl (XT.ii_le_t h) ho ht q) (kt h T locs real X N S A L)
theorem g_if_le {x : Int32} {o : Int} {pc1 : Nat} (O : Ok G K own bytes maxL ret R mn kc ks) (hd : decode bytes pc = .ok (.ifCond .le o, 3)) (hp : pc + 3 = pc') (ho : 0 ≤ (pc : Int) + o) (ht : ((pc : Int) + o).toNat = pc1)
    (kt : ¬ 0 < x → Run G K rv Hf pc1 Ls st H cells slots) (kf : 0 < x → Run G K rv Hf pc' Ls st H cells slots) : Run G K rv Hf pc Ls (.int x :: st) H cells slots := by
  obtain ⟨l, Z, a0, n⟩ := G; obtain ⟨p, e, R', s, m, args, below, meth, c, kc', ks'⟩ := K
  obtain ⟨hx, hZ, hown, hby, hml, hret, hlk, rfl, hnm, rfl, rfl, hw⟩ := O
  subst hp
  intro T locs real X N S A L
  by_cases h : 0 < x
  · exact Done.step (fun t q => XS.ifNo X.here hx rfl (hb hby hd) rfl (XT.i0_le_f h) q) (kf h T locs real X N S A L)
  · exact Done.step (fun t q => XS.ifYes X.here hx rfl (pc0 := pc) rfl (hb hby hd) rfl (XT.i0_le_t h) ho ht q) (kt h T locs real X N S A L)
theorem g_lcmp_le {x y : Int64} {pq : Nat} {o : Int} {pc1 : Nat} (O : Ok G K own bytes maxL ret R mn kc ks) (hd0 : decode bytes pc = .ok (.lcmp, 1)) (hq : pc + 1 = pq) (hd : decode bytes pq = .ok (.ifCond .le o, 3)) (hp : pq + 3 = pc') (ho : 0 ≤ (pq : Int) + o) (ht : ((pq : Int) + o).toNat = pc1)
    (kt : ¬ y < x → Run G K rv Hf pc1 Ls st H cells slots) (kf : y < x → Run G K rv Hf pc' Ls st H cells slots) : Run G K rv Hf pc Ls (.long y :: .long x :: st) H cells slots := by
  obtain ⟨l, Z, a0, n⟩ := G; obtain ⟨p, e, R', s, m, args, below, meth, c, kc', ks'⟩ := K
  obtain ⟨hx, hZ, hown, hby, hml, hret, hlk, rfl, hnm, rfl, rfl, hw⟩ := O
  subst hq
  subst hp
  intro T locs real X N S A L
  by_cases h : y < x
  · exact Done.step (fun t q => XT.lcmp X.here hx rfl (hb hby hd0) rfl (XS.ifNo X.here hx rfl (hb hby hd) rfl (XT.ll_le_f h) q)) (kf h T locs real X N S A L)
  · exact Done.step (fun t q => XT.lcmp X.here hx rfl (hb hby hd0) rfl (XS.ifYes X.here hx rfl (pc0 := pc + 1) rfl (hb hby hd) rfl (XT.ll_le_t h) ho ht q)) (kt h T locs real X N S A L)
/-! reading and writing the heap, in the model -/
def arr (ty : FieldType) (H : List Obj) (i : Nat) : Option (List Value) := match H[i]? with
  | some (.inl (t, vs)) => if t = ty then some vs else none
  | _ => none
def rd (ty : FieldType) (H : List Obj) (i : Nat) (j : Int32) : Option Value := (arr ty H i).bind fun vs => if j < 0 then none else vs[j.toNatClampNeg]?
def getI : Value → Option Int32
  | .int x => some x
  | _ => none
def getJ : Value → Option Int64
  | .long x => some x
  | _ => none
def getA : Value → Option Nat
  | .ref x => some x
  | _ => none
def rdI (ty : FieldType) (H : List Obj) (i : Nat) (j : Int32) : Option Int32 := (rd ty H i j).bind getI
def rdJ (H : List Obj) (i : Nat) (j : Int32) : Option Int64 := (rd .long H i j).bind getJ
def wr (ty : FieldType) (H : List Obj) (i : Nat) (j : Int32) (v : Value) : Option (List Obj) := (arr ty H i).bind fun vs => if j < 0 ∨ vs.length ≤ j.toNatClampNeg then none else some (H.set i (.inl (ty, vs.set j.toNatClampNeg v)))
def alen (H : List Obj) (i : Nat) : Option Int32 := match H[i]? with
  | some (.inl (_, vs)) => some vs.length.toInt32
  | _ => none
def mkArr (ty : FieldType) (cap : Nat) (H : List Obj) (j : Int32) : Option (List Obj) := if j < 0 ∨ cap < j.toNatClampNeg then none else some (H ++ [.inl (ty, List.replicate j.toNatClampNeg (defaultValue ty))])
def obj (t : Nat) (H : List Obj) (i : Nat) : Option (List Value) := match H[i]? with
  | some (.inr (t', vs)) => if t' = t then some vs else none
  | _ => none
def fld (t k : Nat) (H : List Obj) (i : Nat) : Option Value := (obj t H i).bind fun vs => vs[k]?
def fldI (t k : Nat) (H : List Obj) (i : Nat) : Option Int32 := (fld t k H i).bind getI
def fldJ (t k : Nat) (H : List Obj) (i : Nat) : Option Int64 := (fld t k H i).bind getJ
def fldA (t k : Nat) (H : List Obj) (i : Nat) : Option Nat := (fld t k H i).bind getA
def setF (t k : Nat) (H : List Obj) (i : Nat) (v : Value) : Option (List Obj) := (obj t H i).bind fun vs => if k < vs.length then some (H.set i (.inr (t, vs.set k v))) else none
theorem getI_e {v : Value} {x : Int32} (h : getI v = some x) : v = .int x := by cases v <;> simp [getI] at h; rw [h]
theorem getJ_e {v : Value} {x : Int64} (h : getJ v = some x) : v = .long x := by cases v <;> simp [getJ] at h; rw [h]
theorem getA_e {v : Value} {x : Nat} (h : getA v = some x) : v = .ref x := by cases v <;> simp [getA] at h; rw [h]
theorem rdI_e {ty : FieldType} {i : Nat} {j x : Int32} (h : rdI ty H i j = some x) : rd ty H i j = some (.int x) := by
  obtain ⟨v, h1, h2⟩ := Option.bind_eq_some_iff.mp h; rw [h1, getI_e h2]
theorem rdJ_e {i : Nat} {j : Int32} {x : Int64} (h : rdJ H i j = some x) : rd .long H i j = some (.long x) := by
  obtain ⟨v, h1, h2⟩ := Option.bind_eq_some_iff.mp h; rw [h1, getJ_e h2]
theorem fldI_e {t k i : Nat} {x : Int32} (h : fldI t k H i = some x) : fld t k H i = some (.int x) := by
  obtain ⟨v, h1, h2⟩ := Option.bind_eq_some_iff.mp h; rw [h1, getI_e h2]
theorem fldJ_e {t k i : Nat} {x : Int64} (h : fldJ t k H i = some x) : fld t k H i = some (.long x) := by
  obtain ⟨v, h1, h2⟩ := Option.bind_eq_some_iff.mp h; rw [h1, getJ_e h2]
theorem fldA_e {t k i x : Nat} (h : fldA t k H i = some x) : fld t k H i = some (.ref x) := by
  obtain ⟨v, h1, h2⟩ := Option.bind_eq_some_iff.mp h; rw [h1, getA_e h2]
theorem arr_e {ty : FieldType} {i : Nat} {vs : List Value} (h : arr ty H i = some vs) : H[i]? = some (.inl (ty, vs)) := by
  unfold arr at h; split at h
  · rename_i t us hh; split at h
    · rename_i e; cases h; rw [hh, e]
    · cases h
  · cases h
theorem obj_e {t i : Nat} {vs : List Value} (h : obj t H i = some vs) : H[i]? = some (.inr (t, vs)) := by
  unfold obj at h; split at h
  · rename_i t us hh; split at h
    · rename_i e; cases h; rw [hh, e]
    · cases h
  · cases h
theorem sim_arr {h : Heap} {ty : FieldType} {i : Nat} {vs : List Value} (S : Sim G H h) (e : arr ty H i = some vs) : ∃ c : Cell, Arr G.2.1 h (G.2.2.2 + i) c ty ∧ c.slots = (vs.map (sh G.2.2.2)).toArray := (S.2 i _ (arr_e e)).2
theorem sim_obj {h : Heap} {t i : Nat} {vs : List Value} (S : Sim G H h) (e : obj t H i = some vs) : Exa G.2.1 h (G.2.2.2 + i) (lay t).1 ∧ vs.length = (lay t).2.length ∧ ∀ (k : Nat) (nd : String × String) (v : Value), (lay t).2[k]? = some nd → vs[k]? = some v → Fld G.2.1 h (G.2.2.2 + i) (lay t).1 nd.1 nd.2 (sh G.2.2.2 v) := S.2 i _ (obj_e e)
theorem sim_ext {h h' : Heap} {o : Obj} (S : Sim G H h) (E : Ext h h') (hs : h'.size = h.size + 1) (ho : ObjOk G.2.1 G.2.2.2 h' h.size o) : Sim G (H ++ [o]) h' := by
  refine ⟨by rw [hs, S.1, List.length_append]; rfl, fun i q hq => ?_⟩
  by_cases hi : i < H.length
  · rw [List.getElem?_append_left hi] at hq
    have r := S.2 i q hq
    rcases q with ⟨ty, vs⟩ | ⟨t, vs⟩
    · obtain ⟨X, c, A, r⟩ := r; exact ⟨X.ext E, c, A.ext E, r⟩
    · obtain ⟨X, l, F⟩ := r; exact ⟨X.ext E, l, fun k nd v h1 h2 => (F k nd v h1 h2).ext E⟩
  · rw [List.getElem?_append_right (Nat.le_of_not_lt hi)] at hq
    have : i - H.length = 0 := by
      have := (List.getElem?_eq_some_iff.mp hq).1; simp at this; omega
    rw [this] at hq
    cases hq
    have : G.2.2.2 + i = h.size := by rw [S.1]; have := Nat.le_of_not_lt hi; omega
    rw [this]; exact ho
theorem sim_wr {h h' : Heap} {ty : FieldType} {i j : Nat} {vs : List Value} {v : Value} (S : Sim G H h) (e : arr ty H i = some vs) (W : Wr h h' (G.2.2.2 + i) j (sh G.2.2.2 v)) : Sim G (H.set i (.inl (ty, vs.set j v))) h' := by
  refine ⟨by rw [W.size, S.1, List.length_set], fun i' q hq => ?_⟩
  have hlt := (List.getElem?_eq_some_iff.mp (arr_e e)).1
  by_cases hi : i = i'
  · subst hi
    rw [List.getElem?_set_self hlt] at hq
    cases hq
    obtain ⟨X, c, A, r⟩ := S.2 i _ (arr_e e)
    exact ⟨X.wr W, _, A.same W, by simp [Cell.setSlot, r, List.map_set]⟩
  · rw [List.getElem?_set_ne hi] at hq
    have r := S.2 i' q hq
    have ne : G.2.2.2 + i' ≠ G.2.2.2 + i := by omega
    rcases q with ⟨ty, vs⟩ | ⟨t, vs⟩
    · obtain ⟨X, c, A, r⟩ := r; exact ⟨X.wr W, c, A.other W ne, r⟩
    · obtain ⟨X, l, F⟩ := r; exact ⟨X.wr W, l, fun k nd v h1 h2 => (F k nd v h1 h2).other W (Or.inl ne)⟩
theorem lay_slot {Z : State} {a0 : Array Value} (hw : ∀ d ∈ tables_1, d.before a0 Z = true) {t k k' : Nat} {nd nd' : String × String} (h1 : (lay t).2[k]? = some nd) (h2 : (lay t).2[k']? = some nd') (ne : k ≠ k') : Jvm.RoadKit.slotOf Z (lay t).1 nd.1 nd.2 ≠ Jvm.RoadKit.slotOf Z (lay t).1 nd'.1 nd'.2 := by
  obtain ⟨t1, p1⟩ := lay_parse t nd (List.mem_of_getElem? h1)
  obtain ⟨t2, p2⟩ := lay_parse t nd' (List.mem_of_getElem? h2)
  exact slot_ne (C := (lay t).1) (a0 := a0) ((lay_word t nd (List.mem_of_getElem? h1)).imp (hw _) (hw _)) ((lay_word t nd' (List.mem_of_getElem? h2)).imp (hw _) (hw _)) (lay_names t k k' nd nd' h1 h2 ne) p1 p2
theorem sim_put {h h' : Heap} {t i k : Nat} {nd : String × String} {vs : List Value} {v : Value} (hw : ∀ d ∈ tables_1, d.before G.2.2.1 G.2.1 = true) (S : Sim G H h) (e : obj t H i = some vs) (hk : (lay t).2[k]? = some nd) (W : Wr h h' (G.2.2.2 + i) (Jvm.RoadKit.slotOf G.2.1 (lay t).1 nd.1 nd.2) (sh G.2.2.2 v)) : Sim G (H.set i (.inr (t, vs.set k v))) h' := by
  refine ⟨by rw [W.size, S.1, List.length_set], fun i' q hq => ?_⟩
  have hlt := (List.getElem?_eq_some_iff.mp (obj_e e)).1
  by_cases hi : i = i'
  · subst hi
    rw [List.getElem?_set_self hlt] at hq
    cases hq
    obtain ⟨X, l, F⟩ := S.2 i _ (obj_e e)
    refine ⟨X.wr W, by rw [List.length_set]; exact l, fun k' nd' v' h1 h2 => ?_⟩
    have hkl : k < vs.length := by rw [l]; exact (List.getElem?_eq_some_iff.mp hk).1
    by_cases ek : k = k'
    · subst ek
      rw [List.getElem?_set_self hkl] at h2
      cases h2
      cases hk.symm.trans h1
      exact (F k nd _ hk (List.getElem?_eq_getElem hkl)).same W
    · rw [List.getElem?_set_ne ek] at h2
      exact (F k' nd' v' h1 h2).other W (Or.inr (lay_slot hw h1 hk (Ne.symm ek)))
  · rw [List.getElem?_set_ne hi] at hq
    have r := S.2 i' q hq
    have ne : G.2.2.2 + i' ≠ G.2.2.2 + i := by omega
    rcases q with ⟨ty, vs⟩ | ⟨t, vs⟩
    · obtain ⟨X, c, A, r⟩ := r; exact ⟨X.wr W, c, A.other W ne, r⟩
    · obtain ⟨X, l, F⟩ := r; exact ⟨X.wr W, l, fun k nd v h1 h2 => (F k nd v h1 h2).other W (Or.inl ne)⟩
/-! the steps that read the tables or the heap -/
theorem g_ldc {ix : Nat} {v : Int32} (O : Ok G K own bytes maxL ret R mn kc ks) (hd : decode bytes pc = .ok (.ldc ix, 2)) (w : Jvm.Cond.constant own ix v ∈ tables_1) (hp : pc + 2 = pc')
    (k : Run G K rv Hf pc' Ls (.int v :: st) H cells slots) : Run G K rv Hf pc Ls st H cells slots := by
  obtain ⟨l, Z, a0, n⟩ := G; obtain ⟨p, e, R', s, m, args, below, meth, c, kc', ks'⟩ := K
  obtain ⟨hx, hZ, hown, hby, hml, hret, hlk, rfl, hnm, rfl, rfl, hw⟩ := O
  subst hp
  intro T locs real X N S A L
  exact Done.step (fun t q => X.ldcI hx hown (mv hZ (hw _ w)) rfl (hb hby hd) q) (k T locs real X N S A L)
theorem g_ldc2 {ix : Nat} {v : Int64} (O : Ok G K own bytes maxL ret R mn kc ks) (hd : decode bytes pc = .ok (.ldc2_w ix, 3)) (w : Jvm.Cond.constantLong own ix v ∈ tables_1) (hp : pc + 3 = pc')
    (k : Run G K rv Hf pc' Ls (.long v :: st) H cells slots) : Run G K rv Hf pc Ls st H cells slots := by
  obtain ⟨l, Z, a0, n⟩ := G; obtain ⟨p, e, R', s, m, args, below, meth, c, kc', ks'⟩ := K
  obtain ⟨hx, hZ, hown, hby, hml, hret, hlk, rfl, hnm, rfl, rfl, hw⟩ := O
  subst hp
  intro T locs real X N S A L
  exact Done.step (fun t q => X.ldc2J hx hown (mv hZ (hw _ w)) rfl (hb hby hd) q) (k T locs real X N S A L)
theorem rd_e {ty : FieldType} {i : Nat} {j : Int32} {v : Value} (h : rd ty H i j = some v) : ∃ vs, arr ty H i = some vs ∧ ¬ j < 0 ∧ vs[j.toNatClampNeg]? = some v := by
  obtain ⟨vs, h1, h2⟩ := Option.bind_eq_some_iff.mp h
  split at h2
  · cases h2
  · exact ⟨vs, h1, by assumption, h2⟩
theorem inb_sl {c : Cell} {vs : List Value} {n : Nat} {j : Int32} {v : Value} (e : c.slots = (vs.map (sh n)).toArray) (h0 : ¬ j < 0) (h : vs[j.toNatClampNeg]? = some v) : ¬ (j < 0 ∨ c.slots.size ≤ j.toNatClampNeg) ∧ c.slots[j.toNatClampNeg]? = some (sh n v) := by
  have := (List.getElem?_eq_some_iff.mp h).1
  refine ⟨fun q => q.elim h0 (fun q => by rw [e] at q; simp at q; omega), by rw [e]; simp [h]⟩
theorem g_iaload {i : Nat} {j : Int32} {v : Int32} (O : Ok G K own bytes maxL ret R mn kc ks) (hd : decode bytes pc = .ok (.iaload, 1)) (hr : rdI .int H i j = some v) (hp : pc + 1 = pc')
    (k : Run G K rv Hf pc' Ls (.int v :: st) H cells slots) : Run G K rv Hf pc Ls (.int j :: .ref i :: st) H cells slots := by
  obtain ⟨l, Z, a0, n⟩ := G; obtain ⟨p, e, R', s, m, args, below, meth, c, kc', ks'⟩ := K
  obtain ⟨hx, hZ, hown, hby, hml, hret, hlk, rfl, hnm, rfl, rfl, hw⟩ := O
  subst hp
  intro T locs real X N S A L
  obtain ⟨vs, h1, h2, h3⟩ := rd_e (rdI_e hr)
  obtain ⟨cl, B, es⟩ := sim_arr S h1
  obtain ⟨q1, q2⟩ := inb_sl es h2 h3
  exact Done.step (fun t q => X.iaload hx B.1 (State.isArrayOf_alike hZ.alike B.2.1) B.2.2 q1 q2 (g := mkF m pc real ((.int j :: .ref i :: st).map (sh n))) rfl rfl (hb hby hd) t q) (k T locs real X N S A L)
theorem g_caload {i : Nat} {j : Int32} {v : Int32} (O : Ok G K own bytes maxL ret R mn kc ks) (hd : decode bytes pc = .ok (.caload, 1)) (hr : rdI .char H i j = some v) (hp : pc + 1 = pc')
    (k : Run G K rv Hf pc' Ls (.int v :: st) H cells slots) : Run G K rv Hf pc Ls (.int j :: .ref i :: st) H cells slots := by
  obtain ⟨l, Z, a0, n⟩ := G; obtain ⟨p, e, R', s, m, args, below, meth, c, kc', ks'⟩ := K
  obtain ⟨hx, hZ, hown, hby, hml, hret, hlk, rfl, hnm, rfl, rfl, hw⟩ := O
  subst hp
  intro T locs real X N S A L
  obtain ⟨vs, h1, h2, h3⟩ := rd_e (rdI_e hr)
  obtain ⟨cl, B, es⟩ := sim_arr S h1
  obtain ⟨q1, q2⟩ := inb_sl es h2 h3
  exact Done.step (fun t q => X.caload hx B.1 (State.isArrayOf_alike hZ.alike B.2.1) B.2.2 q1 q2 (g := mkF m pc real ((.int j :: .ref i :: st).map (sh n))) rfl rfl (hb hby hd) t q) (k T locs real X N S A L)
theorem g_baload {i : Nat} {j : Int32} {v : Int32} (O : Ok G K own bytes maxL ret R mn kc ks) (hd : decode bytes pc = .ok (.baload, 1)) (hr : rdI .byte H i j = some v) (hp : pc + 1 = pc')
    (k : Run G K rv Hf pc' Ls (.int v :: st) H cells slots) : Run G K rv Hf pc Ls (.int j :: .ref i :: st) H cells slots := by
  obtain ⟨l, Z, a0, n⟩ := G; obtain ⟨p, e, R', s, m, args, below, meth, c, kc', ks'⟩ := K
  obtain ⟨hx, hZ, hown, hby, hml, hret, hlk, rfl, hnm, rfl, rfl, hw⟩ := O
  subst hp
  intro T locs real X N S A L
  obtain ⟨vs, h1, h2, h3⟩ := rd_e (rdI_e hr)
  obtain ⟨cl, B, es⟩ := sim_arr S h1
  obtain ⟨q1, q2⟩ := inb_sl es h2 h3
  exact Done.step (fun t q => X.baloadBytes hx B.1 (State.isArrayOf_alike hZ.alike B.2.1) B.2.2 q1 q2 (g := mkF m pc real ((.int j :: .ref i :: st).map (sh n))) rfl rfl (hb hby hd) t q) (k T locs real X N S A L)
theorem g_laload {i : Nat} {j : Int32} {v : Int64} (O : Ok G K own bytes maxL ret R mn kc ks) (hd : decode bytes pc = .ok (.laload, 1)) (hr : rdJ H i j = some v) (hp : pc + 1 = pc')
    (k : Run G K rv Hf pc' Ls (.long v :: st) H cells slots) : Run G K rv Hf pc Ls (.int j :: .ref i :: st) H cells slots := by
  obtain ⟨l, Z, a0, n⟩ := G; obtain ⟨p, e, R', s, m, args, below, meth, c, kc', ks'⟩ := K
  obtain ⟨hx, hZ, hown, hby, hml, hret, hlk, rfl, hnm, rfl, rfl, hw⟩ := O
  subst hp
  intro T locs real X N S A L
  obtain ⟨vs, h1, h2, h3⟩ := rd_e (rdJ_e hr)
  obtain ⟨cl, B, es⟩ := sim_arr S h1
  obtain ⟨q1, q2⟩ := inb_sl es h2 h3
  exact Done.step (fun t q => X.laload hx B.1 (State.isArrayOf_alike hZ.alike B.2.1) B.2.2 q1 q2 (g := mkF m pc real ((.int j :: .ref i :: st).map (sh n))) rfl rfl (hb hby hd) t q) (k T locs real X N S A L)
theorem g_arraylength {i : Nat} {v : Int32} (O : Ok G K own bytes maxL ret R mn kc ks) (hd : decode bytes pc = .ok (.arraylength, 1)) (hr : alen H i = some v) (hp : pc + 1 = pc')
    (k : Run G K rv Hf pc' Ls (.int v :: st) H cells slots) : Run G K rv Hf pc Ls (.ref i :: st) H cells slots := by
  obtain ⟨l, Z, a0, n⟩ := G; obtain ⟨p, e, R', s, m, args, below, meth, c, kc', ks'⟩ := K
  obtain ⟨hx, hZ, hown, hby, hml, hret, hlk, rfl, hnm, rfl, rfl, hw⟩ := O
  subst hp
  intro T locs real X N S A L
  unfold alen at hr
  split at hr
  · rename_i ty vs hh
    cases hr
    obtain ⟨-, cl, B, es⟩ := S.2 i _ hh
    have q1 : cl.slots.size = vs.length := by rw [es]; simp
    exact Done.step (fun t q => X.arraylength hx B.1 (State.isArrayOf_alike hZ.alike B.2.1) (g := mkF m pc real ((.ref i :: st).map (sh n))) rfl rfl (hb hby hd) t (by rw [q1]; exact q)) (k T locs real X N S A L)
  · cases hr
theorem wr_e {ty : FieldType} {i : Nat} {j : Int32} {v : Value} {H' : List Obj} (h : wr ty H i j v = some H') : ∃ vs, arr ty H i = some vs ∧ ¬ (j < 0 ∨ vs.length ≤ j.toNatClampNeg) ∧ H' = H.set i (.inl (ty, vs.set j.toNatClampNeg v)) := by
  obtain ⟨vs, h1, h2⟩ := Option.bind_eq_some_iff.mp h
  split at h2
  · cases h2
  · cases h2; exact ⟨vs, h1, by assumption, rfl⟩
theorem wr_len {ty : FieldType} {i : Nat} {j : Int32} {v : Value} {H' : List Obj} (h : wr ty H i j v = some H') : H'.length = H.length := by
  obtain ⟨vs, -, -, rfl⟩ := wr_e h; simp
theorem sl_len {c : Cell} {vs : List Value} {n : Nat} (e : c.slots = (vs.map (sh n)).toArray) : c.slots.size = vs.length := by rw [e]; simp
theorem g_iastore {i : Nat} {j x : Int32} {H' : List Obj} (O : Ok G K own bytes maxL ret R mn kc ks) (hd : decode bytes pc = .ok (.iastore, 1)) (hr : wr .int H i j (.int x) = some H') (hp : pc + 1 = pc')
    (k : Run G K rv Hf pc' Ls st H' cells slots) : Run G K rv Hf pc Ls (.int x :: .int j :: .ref i :: st) H cells slots := by
  obtain ⟨l, Z, a0, n⟩ := G; obtain ⟨p, e, R', s, m, args, below, meth, c, kc', ks'⟩ := K
  obtain ⟨hx, hZ, hown, hby, hml, hret, hlk, rfl, hnm, rfl, rfl, hw⟩ := O
  subst hp
  intro T locs real X N S A L
  obtain ⟨vs, h1, h2, rfl⟩ := wr_e hr
  obtain ⟨cl, B, es⟩ := sim_arr S h1
  obtain ⟨T', h', X', e', W, stp⟩ := stI X hx hZ rfl B (j := j) (x := x) (by rw [sl_len es]; exact h2) (g := mkF m pc real ((.int x :: .int j :: .ref i :: st).map (sh n))) rfl rfl (hb hby hd)
  exact Done.step stp (k T' _ real X' (Fr.snoc X' N (Nat.le_add_right _ _)) (by rw [e']; exact sim_wr (v := .int x) S h1 W) (by simpa using A) L)
theorem g_lastore {i : Nat} {j : Int32} {x : Int64} {H' : List Obj} (O : Ok G K own bytes maxL ret R mn kc ks) (hd : decode bytes pc = .ok (.lastore, 1)) (hr : wr .long H i j (.long x) = some H') (hp : pc + 1 = pc')
    (k : Run G K rv Hf pc' Ls st H' cells slots) : Run G K rv Hf pc Ls (.long x :: .int j :: .ref i :: st) H cells slots := by
  obtain ⟨l, Z, a0, n⟩ := G; obtain ⟨p, e, R', s, m, args, below, meth, c, kc', ks'⟩ := K
  obtain ⟨hx, hZ, hown, hby, hml, hret, hlk, rfl, hnm, rfl, rfl, hw⟩ := O
  subst hp
  intro T locs real X N S A L
  obtain ⟨vs, h1, h2, rfl⟩ := wr_e hr
  obtain ⟨cl, B, es⟩ := sim_arr S h1
  obtain ⟨T', h', X', e', W, stp⟩ := stJ X hx hZ rfl B (j := j) (x := x) (by rw [sl_len es]; exact h2) (g := mkF m pc real ((.long x :: .int j :: .ref i :: st).map (sh n))) rfl rfl (hb hby hd)
  exact Done.step stp (k T' _ real X' (Fr.snoc X' N (Nat.le_add_right _ _)) (by rw [e']; exact sim_wr (v := .long x) S h1 W) (by simpa using A) L)
theorem g_bastore {i : Nat} {j x : Int32} {H' : List Obj} (O : Ok G K own bytes maxL ret R mn kc ks) (hd : decode bytes pc = .ok (.bastore, 1)) (hr : wr .byte H i j (.int (nar .byte x)) = some H') (hp : pc + 1 = pc')
    (k : Run G K rv Hf pc' Ls st H' cells slots) : Run G K rv Hf pc Ls (.int x :: .int j :: .ref i :: st) H cells slots := by
  obtain ⟨l, Z, a0, n⟩ := G; obtain ⟨p, e, R', s, m, args, below, meth, c, kc', ks'⟩ := K
  obtain ⟨hx, hZ, hown, hby, hml, hret, hlk, rfl, hnm, rfl, rfl, hw⟩ := O
  subst hp
  intro T locs real X N S A L
  obtain ⟨vs, h1, h2, rfl⟩ := wr_e hr
  obtain ⟨cl, B, es⟩ := sim_arr S h1
  obtain ⟨T', h', X', e', W, stp⟩ := stB X hx hZ rfl B (j := j) (x := x) (by rw [sl_len es]; exact h2) (g := mkF m pc real ((.int x :: .int j :: .ref i :: st).map (sh n))) rfl rfl (hb hby hd)
  exact Done.step stp (k T' _ real X' (Fr.snoc X' N (Nat.le_add_right _ _)) (by rw [e']; exact sim_wr (v := .int (nar .byte x)) S h1 W) (by simpa using A) L)
theorem g_castore {i : Nat} {j x : Int32} {H' : List Obj} (O : Ok G K own bytes maxL ret R mn kc ks) (hd : decode bytes pc = .ok (.castore, 1)) (hr : wr .char H i j (.int (nar .char x)) = some H') (hp : pc + 1 = pc')
    (k : Run G K rv Hf pc' Ls st H' cells slots) : Run G K rv Hf pc Ls (.int x :: .int j :: .ref i :: st) H cells slots := by
  obtain ⟨l, Z, a0, n⟩ := G; obtain ⟨p, e, R', s, m, args, below, meth, c, kc', ks'⟩ := K
  obtain ⟨hx, hZ, hown, hby, hml, hret, hlk, rfl, hnm, rfl, rfl, hw⟩ := O
  subst hp
  intro T locs real X N S A L
  obtain ⟨vs, h1, h2, rfl⟩ := wr_e hr
  obtain ⟨cl, B, es⟩ := sim_arr S h1
  obtain ⟨T', h', X', e', W, stp⟩ := stC X hx hZ rfl B (j := j) (x := x) (by rw [sl_len es]; exact h2) (g := mkF m pc real ((.int x :: .int j :: .ref i :: st).map (sh n))) rfl rfl (hb hby hd)
  exact Done.step stp (k T' _ real X' (Fr.snoc X' N (Nat.le_add_right _ _)) (by rw [e']; exact sim_wr (v := .int (nar .char x)) S h1 W) (by simpa using A) L)
theorem g_newarray {aty : ArrayType} {cap : Nat} {j : Int32} {H' : List Obj} (O : Ok G K own bytes maxL ret R mn kc ks) (hd : decode bytes pc = .ok (.newarray aty, 2)) (w : Jvm.Cond.arrayClass (newarray.typeOf aty) ∈ tables_1)
    (hr : mkArr (newarray.typeOf aty) cap H j = some H') (hb8 : cap * 8 ≤ 536870912) {c2 s2 : Nat} (hc2 : cells + 1 = c2) (hs2 : slots + cap = s2) (hc : c2 ≤ R.cells) (hs : s2 ≤ R.slots) (hp : pc + 2 = pc')
    (k : Run G K rv Hf pc' Ls (.ref H.length :: st) H' c2 s2) : Run G K rv Hf pc Ls (.int j :: st) H cells slots := by
  obtain ⟨l, Z, a0, n⟩ := G; obtain ⟨p, e, R', s, m, args, below, meth, c, kc', ks'⟩ := K
  obtain ⟨hx, hZ, hown, hby, hml, hret, hlk, rfl, hnm, rfl, rfl, hw⟩ := O
  subst hp hc2 hs2
  intro T locs real X N S A L
  unfold mkArr at hr
  split at hr
  · cases hr
  rename_i hj
  cases hr
  have hj0 : ¬ j < 0 := fun q => hj (Or.inl q)
  obtain ⟨T', h', cA, X', e', E, B, EX, stp⟩ := newPE X hx hZ (hw _ w) rfl (g := mkF m pc real ((.int j :: st).map (sh n))) rfl (hb hby hd) rfl hj0 (cap := cap) (Nat.le_of_not_lt fun q => hj (Or.inr q)) hb8 hc hs rfl
  have hsz : h'.size = T.heap.size + 1 := by
    have a1 : Array.size T.heap < Array.size h' := B.lt
    have a2 : Array.size T'.heap ≤ Array.size s.heap + (cells + 1) := X'.heapSize
    rw [e'] at a2
    have a3 : Array.size T.heap = n + H.length := S.1
    have a4 : Array.size s.heap + cells = n + H.length := A
    omega
  have ea : T.heap.size = n + H.length := S.1
  have S' : Sim (l, Z, a0, n) (H ++ [.inl (newarray.typeOf aty, List.replicate j.toNatClampNeg (defaultValue (newarray.typeOf aty)))]) T'.heap := by
    rw [e']
    refine sim_ext S E hsz ⟨EX, _, B, ?_⟩
    have : sh n (defaultValue (newarray.typeOf aty)) = defaultValue (newarray.typeOf aty) := by cases aty <;> rfl
    simp [newA, this]
  refine Done.step stp ?_
  have k' := k T' locs real X' N S' (by simp only [List.length_append, List.length_singleton] at A ⊢; omega) L
  rw [ea]
  exact k'
theorem g_new {ix t nn : Nat} {H' : List Obj} (O : Ok G K own bytes maxL ret R mn kc ks) (hd : decode bytes pc = .ok (.new ix, 3)) (w1 : Jvm.Cond.classLink own ix (lay t).1 ∈ tables_1) (w2 : Jvm.Cond.instantiable (lay t).1 nn ∈ tables_1) (w3 : Jvm.Cond.initialized (lay t).1 ∈ tables_1)
    {vs : List Value} (hvs : (lay t).2.map (fun nd => (parseFieldDescriptor nd.2).map defaultValue) = vs.map some) (hH : H' = H ++ [.inr (t, vs)]) {c2 s2 : Nat} (hc2 : cells + 1 = c2) (hs2 : slots + nn = s2) (hc : c2 ≤ R.cells) (hs : s2 ≤ R.slots) (hp : pc + 3 = pc')
    (k : Run G K rv Hf pc' Ls (.ref H.length :: st) H' c2 s2) : Run G K rv Hf pc Ls st H cells slots := by
  obtain ⟨l, Z, a0, n⟩ := G; obtain ⟨p, e, R', s, m, args, below, meth, c, kc', ks'⟩ := K
  obtain ⟨hx, hZ, hown, hby, hml, hret, hlk, rfl, hnm, rfl, rfl, hw⟩ := O
  subst hp hH hc2 hs2
  intro T locs real X N S A L
  obtain ⟨T', h', X', e', E, B, D, -, stp⟩ := newO X hx hZ hown (hw _ w1) (hw _ w2) (hw _ w3) rfl (g := mkF m pc real (st.map (sh n))) rfl (hb hby hd) hc hs
  have hsz : h'.size = T.heap.size + 1 := by
    have a1 : Array.size T.heap < Array.size h' := B.lt
    have a2 : Array.size T'.heap ≤ Array.size s.heap + (cells + 1) := X'.heapSize
    rw [e'] at a2
    have a3 : Array.size T.heap = n + H.length := S.1
    have a4 : Array.size s.heap + cells = n + H.length := A
    omega
  have ea : T.heap.size = n + H.length := S.1
  have S' : Sim (l, Z, a0, n) (H ++ [.inr (t, vs)]) T'.heap := by
    rw [e']
    refine sim_ext S E hsz ⟨B, by have := congrArg List.length hvs; simpa using this.symm, fun k nd v h1 h2 => ?_⟩
    have q : ((lay t).2.map (fun nd => (parseFieldDescriptor nd.2).map defaultValue))[k]? = some (some v) := by rw [hvs]; simp [h2]
    rw [List.getElem?_map, h1] at q
    simp only [Option.map_some, Option.some.injEq, Option.map_eq_some_iff] at q
    obtain ⟨ty, q1, q2⟩ := q
    have q3 : sh n v = defaultValue ty := by rw [← q2]; cases ty <;> rfl
    rw [q3]
    exact D ((lay_word t nd (List.mem_of_getElem? h1)).imp (hw _) (hw _)) q1
  refine Done.step stp ?_
  have k' := k T' locs real X' N S' (by simp only [List.length_append, List.length_singleton] at A ⊢; omega) L
  rw [ea]
  exact k'
theorem g_getfield {ix t kf i : Nat} {nd : String × String} {v : Value} (O : Ok G K own bytes maxL ret R mn kc ks) (hd : decode bytes pc = .ok (.getfield ix, 3)) (hk : (lay t).2[kf]? = some nd) (w : Jvm.Cond.fieldLink own ix (lay t).1 nd.1 nd.2 ∈ tables_1)
    (hr : fld t kf H i = some v) (hp : pc + 3 = pc') (k : Run G K rv Hf pc' Ls (v :: st) H cells slots) : Run G K rv Hf pc Ls (.ref i :: st) H cells slots := by
  obtain ⟨l, Z, a0, n⟩ := G; obtain ⟨p, e, R', s, m, args, below, meth, c, kc', ks'⟩ := K
  obtain ⟨hx, hZ, hown, hby, hml, hret, hlk, rfl, hnm, rfl, rfl, hw⟩ := O
  subst hp
  intro T locs real X N S A L
  obtain ⟨vs, h1, h2⟩ := Option.bind_eq_some_iff.mp hr
  obtain ⟨B, l1, F⟩ := sim_obj S h1
  obtain ⟨T', X', e', stp⟩ := getF X hx hZ hown (host := "") (Or.inl (hw _ w)) Via.refl rfl (F kf nd v hk h2) (g := mkF m pc real ((.ref i :: st).map (sh n))) rfl rfl (hb hby hd)
  exact Done.step stp (k T' locs real X' N (by rw [e']; exact S) A L)
theorem g_putfield {ix t kf i nn : Nat} {nd : String × String} {v : Value} {ty : FieldType} {H' : List Obj} (O : Ok G K own bytes maxL ret R mn kc ks) (hd : decode bytes pc = .ok (.putfield ix, 3)) (hk : (lay t).2[kf]? = some nd) (w : Jvm.Cond.fieldLink own ix (lay t).1 nd.1 nd.2 ∈ tables_1)
    (w2 : Jvm.Cond.lays (lay t).1 (lay t).1 nd.1 nd.2 ∈ tables_1 ∨ (Jvm.Cond.laysFinal (lay t).1 (lay t).1 nd.1 nd.2 ∈ tables_1 ∧ own = (lay t).1 ∧ mn = "<init>")) (w3 : Jvm.Cond.instantiable (lay t).1 nn ∈ tables_1) (hty : parseFieldDescriptor nd.2 = some ty) (hn : ∀ n, narrow ty (sh n v) = sh n v) (hf : ∀ n, fits ty (sh n v) = true)
    (hr : setF t kf H i v = some H') (hp : pc + 3 = pc') (k : Run G K rv Hf pc' Ls st H' cells slots) : Run G K rv Hf pc Ls (v :: .ref i :: st) H cells slots := by
  obtain ⟨l, Z, a0, n⟩ := G; obtain ⟨p, e, R', s, m, args, below, meth, c, kc', ks'⟩ := K
  obtain ⟨hx, hZ, hown, hby, hml, hret, hlk, rfl, hnm, rfl, rfl, hw⟩ := O
  subst hp
  intro T locs real X N S A L
  obtain ⟨vs, h1, h2⟩ := Option.bind_eq_some_iff.mp hr
  have hkv : kf < vs.length := Decidable.byContradiction fun hkv => by rw [if_neg hkv] at h2; cases h2
  rw [if_pos hkv] at h2
  cases h2
  obtain ⟨B, l1, F⟩ := sim_obj S h1
  obtain ⟨T', h', X', e', W, stp⟩ := putF X hx hZ hown (host := "") (Or.inl (hw _ w)) Via.refl rfl (F kf nd _ hk (List.getElem?_eq_getElem hkv)) B (w2.imp (hw _) fun q => ⟨hw _ q.1, q.2.1, hnm.trans q.2.2⟩) (hw _ w3) hty (hn n) (hf n) (g := mkF m pc real ((v :: .ref i :: st).map (sh n))) rfl rfl (hb hby hd)
  exact Done.step stp (k T' _ real X' (Fr.snoc X' N (Nat.le_add_right _ _)) (by rw [e']; exact sim_put hw S h1 hk W) (by simpa using A) L)
theorem g_objinit {ix i W : Nat} (O : Ok G K own bytes maxL ret R mn kc ks) (hd : decode bytes pc = .ok (.invokespecial ix, 3)) (w1 : Jvm.Cond.methodLink own ix Lib.objectInit ∈ tables_1) (w2 : Jvm.Cond.instanceMethod Lib.objectInit ∈ tables_1) (w3 : Jvm.Cond.code Lib.objectInit ⟨#[0xb1]⟩ 1 none ∈ tables_1)
    (hLs : Ls.length = maxL) (hW : (st.map fun v => v.category).sum = W) (hf : 1 ≤ R.frames) (hl : W + 12 ≤ R.locals) (hp : pc + 3 = pc') (k : Run G K rv Hf pc' Ls st H cells slots) : Run G K rv Hf pc Ls (.ref i :: st) H cells slots := by
  obtain ⟨l, Z, a0, n⟩ := G; obtain ⟨p, e, R', s, m, args, below, meth, c, kc', ks'⟩ := K
  obtain ⟨hx, hZ, hown, hby, hml, hret, hlk, rfl, hnm, rfl, rfl, hw⟩ := O
  subst hp
  intro T locs real X N S A L
  obtain ⟨T', X', e', stp⟩ := initO X hx hZ hown (hw _ w1) (hw _ w2) (hw _ w3) rfl (g := mkF m pc real ((.ref i :: st).map (sh n))) rfl (by show real.size = _; rw [L.1, hml]; exact hLs) rfl (hb hby hd) hf (W := W) (by show 2 * 0 + ((st.map (sh n)).map _).sum ≤ _; rw [List.map_map, ← hW]; simp [Function.comp_def, sh_cat]) hl
  exact Done.step stp (k T' locs real X' N (by rw [e']; exact S) A L)
def Fg : List (Option Value) → List (Option Value) → Prop
  | [], [] => True
  | _ :: a, none :: b => Fg a b
  | x :: a, some v :: b => x = some v ∧ Fg a b
  | [], _ :: _ => False
  | _ :: _, [] => False
theorem Fg.spec : ∀ {A B : List (Option Value)}, Fg A B → A.length = B.length ∧ ∀ (k : Nat) (v : Value), B[k]? = some (some v) → A[k]? = some (some v)
  | [], [], _ => ⟨rfl, fun k v h => h⟩
  | x :: a, none :: b, h => by
    obtain ⟨h1, h2⟩ := Fg.spec (A := a) (B := b) h
    refine ⟨by simp [h1], fun k v hk => ?_⟩
    cases k with
    | zero => simp at hk
    | succ k => simpa using h2 k v (by simpa using hk)
  | x :: a, some w :: b, h => by
    have h' : x = some w ∧ Fg a b := h
    obtain ⟨h1, h2⟩ := Fg.spec (A := a) (B := b) h'.2
    refine ⟨by simp [h1], fun k v hk => ?_⟩
    cases k with
    | zero => simp at hk; simp [h'.1, hk]
    | succ k => simpa using h2 k v (by simpa using hk)
theorem g_forget (h : Fg Ls Ls') (k : Run G K rv Hf pc Ls' st H cells slots) : Run G K rv Hf pc Ls st H cells slots := by
  obtain ⟨l, Z, a0, n⟩ := G; obtain ⟨p, e, R', s, m, args, below, meth, c, kc', ks'⟩ := K
  obtain ⟨h1, h2⟩ := h.spec
  intro T locs real X N S A L
  exact k T locs real X N S A ⟨L.1.trans h1, L.2.1, fun j v hj => L.2.2 j v (h2 j v hj)⟩
/-! calls and returns -/
theorem cat_sum (n : Nat) (st : List Value) : ((st.map (sh n)).map fun v => v.category).sum = (st.map fun v => v.category).sum := by rw [List.map_map]; simp [Function.comp_def, sh_cat]
theorem g_static {ix : Nat} {y : MethodName} {bytes' : ByteArray} {maxL' : Nat} {ret' : Option FieldType} {rm : Room} {as : List Value} {H' : List Obj} {v : Option Value} {ps : List FieldType} {W : Nat} {stk : List Value} (O : Ok G K own bytes maxL ret R mn kc ks) (hd : decode bytes pc = .ok (.invokestatic ix, 3))
    (w1 : Jvm.Cond.methodLink own ix y ∈ tables_1) (w2 : Jvm.Cond.static y ∈ tables_1) (w3 : Jvm.Cond.initialized y.cls ∈ tables_1) (w4 : Jvm.Cond.code y bytes' maxL' ret' ∈ tables_1) (hy : y.cls ≠ "java/lang/invoke/MethodHandle" ∧ y.cls ≠ "java/lang/invoke/VarHandle")
    (pd : parseMethodDescriptor y.desc = some ⟨ps, ret'⟩) (hl : as.length = ps.length) (hstk : stk = as.reverse ++ st) (hLs : Ls.length = maxL) (hW : (st.map fun v => v.category).sum = W) (hf : rm.frames + 1 ≤ R.frames) (hlo : W + (maxL' + 11) + rm.locals ≤ R.locals) {c2 s2 : Nat} (hc2 : cells + rm.cells = c2) (hs2 : slots + rm.slots = s2) (hc : c2 ≤ R.cells) (hs : s2 ≤ R.slots)
    (con : Con G y bytes' maxL' ret' rm as H v H') (hp : pc + 3 = pc') (k : Run G K rv Hf pc' Ls (v.toList ++ st) H' c2 s2) : Run G K rv Hf pc Ls stk H cells slots := by
  obtain ⟨l, Z, a0, n⟩ := G; obtain ⟨p, e, R', s, m, args, below, meth, c, kc', ks'⟩ := K
  obtain ⟨hx, hZ, hown, hby, hml, hret, hlk, rfl, hnm, rfl, rfl, hw⟩ := O
  subst hp hstk hc2 hs2
  intro T locs real X N S A L
  obtain ⟨v', _, ⟨T', L', k', n'⟩, -, X', ⟨Lc, ⟨hv, N', S', hlen⟩, l1, y1, z1⟩, stp⟩ := Jvm.LawKit.callS X hx (y := y) hown (mvT hZ (hw _ w1)) (mvT hZ (hw _ w2)) (mvT hZ (hw _ w3)) (mvT hZ (hw _ w4)) hy (backOf (W := W) (Q := fun u hh LL => u = Option.map (sh n) v ∧ Fr n LL ∧ Sim (l, Z, a0, n) H' hh ∧ H'.length = H.length + rm.cells) (con T.heap S) hZ (hw _ w4) (hw _ w3) hf hlo) (g := mkF m pc real ((as.reverse ++ st).map (sh n))) rfl (by show real.size = _; rw [L.1, hml]; exact hLs)
    (argsL := as.map (sh n)) (rest := st.map (sh n)) (lenOf pd (by simpa using hl)) (by simp) (by show 2 * 0 + _ ≤ _; rw [cat_sum, hW]; exact Nat.le_of_eq (Nat.zero_add _)) (hb hby hd) (fun _ _ => ⟨rfl, rfl, hc, hs⟩)
  dsimp only [Pt.U, Pt.locs, Pt.cells, Pt.slots] at X' l1 y1 z1 stp S' N'
  subst l1 y1 z1 hv
  have k2 := k T' _ real X' (Fr.app N N') S' (by omega) L
  refine Done.step stp ?_
  cases v <;> exact k2
theorem g_special {ix i : Nat} {y : MethodName} {bytes' : ByteArray} {maxL' : Nat} {rm : Room} {as : List Value} {H' : List Obj} {ps : List FieldType} {W : Nat} {stk : List Value} (O : Ok G K own bytes maxL ret R mn kc ks) (hd : decode bytes pc = .ok (.invokespecial ix, 3)) (hy1 : y.name = "<init>")
    (w1 : Jvm.Cond.methodLink own ix y ∈ tables_1) (w2 : Jvm.Cond.instanceMethod y ∈ tables_1) (w3 : Jvm.Cond.initialized y.cls ∈ tables_1) (w4 : Jvm.Cond.code y bytes' maxL' none ∈ tables_1) (hy : y.cls ≠ "java/lang/invoke/MethodHandle" ∧ y.cls ≠ "java/lang/invoke/VarHandle")
    (pd : parseMethodDescriptor y.desc = some ⟨ps, none⟩) (hl : as.length = ps.length) (hstk : stk = as.reverse ++ .ref i :: st) (hLs : Ls.length = maxL) (hW : (st.map fun v => v.category).sum = W) (hf : rm.frames + 1 ≤ R.frames) (hlo : W + (maxL' + 11) + rm.locals ≤ R.locals) {c2 s2 : Nat} (hc2 : cells + rm.cells = c2) (hs2 : slots + rm.slots = s2) (hc : c2 ≤ R.cells) (hs : s2 ≤ R.slots)
    (con : Con G y bytes' maxL' none rm (.ref i :: as) H none H') (hp : pc + 3 = pc') (k : Run G K rv Hf pc' Ls st H' c2 s2) : Run G K rv Hf pc Ls stk H cells slots := by
  obtain ⟨l, Z, a0, n⟩ := G; obtain ⟨p, e, R', s, m, args, below, meth, c, kc', ks'⟩ := K
  obtain ⟨hx, hZ, hown, hby, hml, hret, hlk, rfl, hnm, rfl, rfl, hw⟩ := O
  subst hp hstk hc2 hs2
  intro T locs real X N S A L
  obtain ⟨v', _, ⟨T', L', k', n'⟩, -, X', ⟨Lc, ⟨hv, N', S', hlen⟩, l1, y1, z1⟩, stp⟩ := X.specialBack hx (y := y) hy1 hown (mvT hZ (hw _ w1)) (mvT hZ (hw _ w2)) (mvT hZ (hw _ w4)) hy (backOf (W := W) (Q := fun u hh LL => u = Option.map (sh n) none ∧ Fr n LL ∧ Sim (l, Z, a0, n) H' hh ∧ H'.length = H.length + rm.cells) (con T.heap S) hZ (hw _ w4) (hw _ w3) hf hlo) (g := mkF m pc real ((as.reverse ++ .ref i :: st).map (sh n))) rfl (by show real.size = _; rw [L.1, hml]; exact hLs) (Steps.refl _)
    (a := n + i) (argsL := as.map (sh n)) (rest := st.map (sh n)) (lenOf pd (by simpa using hl)) (by simp [sh]) (by show 2 * 0 + _ ≤ _; rw [cat_sum, hW]; exact Nat.le_of_eq (Nat.zero_add _)) (hb hby hd) (fun _ _ => ⟨rfl, rfl, hc, hs⟩)
  dsimp only [Pt.U, Pt.locs, Pt.cells, Pt.slots] at X' l1 y1 z1 stp S' N'
  subst l1 y1 z1 hv
  exact Done.step (fun t q => stp.trans q) (k T' _ real X' (Fr.app N N') S' (by omega) L)
theorem g_virtual {ix i t : Nat} {y : MethodName} {bytes' : ByteArray} {maxL' : Nat} {ret' : Option FieldType} {rm : Room} {as vs : List Value} {H' : List Obj} {v : Option Value} {ps : List FieldType} {W : Nat} {stk : List Value} (O : Ok G K own bytes maxL ret R mn kc ks) (hd : decode bytes pc = .ok (.invokevirtual ix, 3))
    (w1 : Jvm.Cond.methodLink own ix y ∈ tables_1) (w2 : Jvm.Cond.declares y ∈ tables_1) (w5 : Jvm.Cond.selects (lay t).1 y y ∈ tables_1) (w6 : Jvm.Cond.instanceMethod y ∈ tables_1) (w3 : Jvm.Cond.initialized y.cls ∈ tables_1) (w4 : Jvm.Cond.code y bytes' maxL' ret' ∈ tables_1) (hy : y.cls ≠ "java/lang/invoke/MethodHandle" ∧ y.cls ≠ "java/lang/invoke/VarHandle")
    (ho : obj t H i = some vs) (pd : parseMethodDescriptor y.desc = some ⟨ps, ret'⟩) (hl : as.length = ps.length) (hstk : stk = as.reverse ++ .ref i :: st) (hLs : Ls.length = maxL) (hW : (st.map fun v => v.category).sum = W) (hf : rm.frames + 1 ≤ R.frames) (hlo : W + (maxL' + 11) + rm.locals ≤ R.locals) {c2 s2 : Nat} (hc2 : cells + rm.cells = c2) (hs2 : slots + rm.slots = s2) (hc : c2 ≤ R.cells) (hs : s2 ≤ R.slots)
    (con : Con G y bytes' maxL' ret' rm (.ref i :: as) H v H') (hp : pc + 3 = pc') (k : Run G K rv Hf pc' Ls (v.toList ++ st) H' c2 s2) : Run G K rv Hf pc Ls stk H cells slots := by
  obtain ⟨l, Z, a0, n⟩ := G; obtain ⟨p, e, R', s, m, args, below, meth, c, kc', ks'⟩ := K
  obtain ⟨hx, hZ, hown, hby, hml, hret, hlk, rfl, hnm, rfl, rfl, hw⟩ := O
  subst hp hstk hc2 hs2
  intro T locs real X N S A L
  obtain ⟨cq, kq, qa, qb, qc⟩ := isOf hZ (T := T) rfl (sim_obj S ho).1
  obtain ⟨v', _, ⟨T', L', k', n'⟩, -, X', ⟨Lc, ⟨hv, N', S', hlen⟩, l1, y1, z1⟩, stp⟩ := X.virtualBack hx (y := y) (z := y) hown (mvT hZ (hw _ w1)) (mvT hZ (hw _ w2)) (notFace_of_selects (args := #[]) (mvT hZ (hw _ w5))) (mvT hZ (hw _ w5)) (mvT hZ (hw _ w6)) hy (backOf (W := W) (Q := fun u hh LL => u = Option.map (sh n) v ∧ Fr n LL ∧ Sim (l, Z, a0, n) H' hh ∧ H'.length = H.length + rm.cells) (con T.heap S) hZ (hw _ w4) (hw _ w3) hf hlo) qa qc (g := mkF m pc real ((as.reverse ++ .ref i :: st).map (sh n))) rfl (by show real.size = _; rw [L.1, hml]; exact hLs) (Steps.refl _)
    (argsL := as.map (sh n)) (rest := st.map (sh n)) (lenOf pd (by simpa using hl)) (by simp [sh]) (by show 2 * 0 + _ ≤ _; rw [cat_sum, hW]; exact Nat.le_of_eq (Nat.zero_add _)) (hb hby hd) (fun _ _ => ⟨rfl, rfl, hc, hs⟩)
  dsimp only [Pt.U, Pt.locs, Pt.cells, Pt.slots] at X' l1 y1 z1 stp S' N'
  subst l1 y1 z1 hv
  have k2 := k T' _ real X' (Fr.app N N') S' (by omega) L
  refine Done.step (fun t q => stp.trans q) ?_
  cases v <;> exact k2
theorem g_ret_void (O : Ok G K own bytes maxL none R mn kc ks) (hd : decode bytes pc = .ok (.return_, 1)) (hc : cells = kc) (hs : slots ≤ ks) : Run G K none H pc Ls [] H cells slots := by
  obtain ⟨l, Z, a0, n⟩ := G; obtain ⟨p, e, R', s, m, args, below, meth, c, kc', ks'⟩ := K
  obtain ⟨hx, hZ, hown, hby, hml, hret, hlk, rfl, hnm, rfl, rfl, hw⟩ := O
  intro T locs real X N S A L
  subst hc
  obtain ⟨fs, hr, hrun, hended, hW, hsame⟩ := X.leave (v := none) (fun _ => rfl) hlk
  exact ⟨_, _, X.returnOut hx hret (hb hby hd) hr, hrun, hended, _, _, rfl, ⟨rfl, N, S, A⟩, ⟨_, rfl⟩, hW, hsame.mono (Nat.le_refl _) hs⟩
theorem g_ret_int {x : Int32} (O : Ok G K own bytes maxL (some .int) R mn kc ks) (hd : decode bytes pc = .ok (.ireturn, 1)) (hc : cells = kc) (hs : slots ≤ ks) : Run G K (some (.int x)) H pc Ls (.int x :: st) H cells slots := by
  obtain ⟨l, Z, a0, n⟩ := G; obtain ⟨p, e, R', s, m, args, below, meth, c, kc', ks'⟩ := K
  obtain ⟨hx, hZ, hown, hby, hml, hret, hlk, rfl, hnm, rfl, rfl, hw⟩ := O
  intro T locs real X N S A L
  subst hc
  obtain ⟨fs, hr, hrun, hended, hW, hsame⟩ := X.leave (v := some (.int x)) (fun h => by rw [hret] at h; cases h) hlk
  exact ⟨_, _, retOut X hx hret rfl (Or.inl ⟨rfl, Or.inl rfl, x, rfl⟩) (hb hby hd) hr, hrun, hended, _, _, rfl, ⟨rfl, N, S, A⟩, ⟨_, rfl⟩, hW, hsame.mono (Nat.le_refl _) hs⟩
theorem g_ret_nar {t : FieldType} {x y : Int32} (O : Ok G K own bytes maxL (some t) R mn kc ks) (hd : decode bytes pc = .ok (.ireturn, 1)) (ht : t = .boolean ∨ t = .byte ∨ t = .char ∨ t = .short) (hy : nar t x = y) (hc : cells = kc) (hs : slots ≤ ks) : Run G K (some (.int y)) H pc Ls (.int x :: st) H cells slots := by
  obtain ⟨l, Z, a0, n⟩ := G; obtain ⟨p, e, R', s, m, args, below, meth, c, kc', ks'⟩ := K
  obtain ⟨hx, hZ, hown, hby, hml, hret, hlk, rfl, hnm, rfl, rfl, hw⟩ := O
  intro T locs real X N S A L
  subst hc hy
  obtain ⟨fs, hr, hrun, hended, hW, hsame⟩ := X.leave (v := some (.int (nar t x))) (fun h => by rw [hret] at h; cases h) hlk
  exact ⟨_, _, retN X hx hret ht (hb hby hd) hr, hrun, hended, _, _, rfl, ⟨rfl, N, S, A⟩, ⟨_, rfl⟩, hW, hsame.mono (Nat.le_refl _) hs⟩
theorem g_ret_long {x : Int64} (O : Ok G K own bytes maxL (some .long) R mn kc ks) (hd : decode bytes pc = .ok (.lreturn, 1)) (hc : cells = kc) (hs : slots ≤ ks) : Run G K (some (.long x)) H pc Ls (.long x :: st) H cells slots := by
  obtain ⟨l, Z, a0, n⟩ := G; obtain ⟨p, e, R', s, m, args, below, meth, c, kc', ks'⟩ := K
  obtain ⟨hx, hZ, hown, hby, hml, hret, hlk, rfl, hnm, rfl, rfl, hw⟩ := O
  intro T locs real X N S A L
  subst hc
  obtain ⟨fs, hr, hrun, hended, hW, hsame⟩ := X.leave (v := some (.long x)) (fun h => by rw [hret] at h; cases h) hlk
  exact ⟨_, _, retOut X hx hret rfl (Or.inr (Or.inl ⟨rfl, rfl, x, rfl⟩)) (hb hby hd) hr, hrun, hended, _, _, rfl, ⟨rfl, N, S, A⟩, ⟨_, rfl⟩, hW, hsame.mono (Nat.le_refl _) hs⟩
theorem g_ret_ref {t : FieldType} {i : Nat} (O : Ok G K own bytes maxL (some t) R mn kc ks) (hd : decode bytes pc = .ok (.areturn, 1)) (ht : t.isReference = true) (hn : ∀ a, narrow t (.ref a) = .ref a) (hc : cells = kc) (hs : slots ≤ ks) : Run G K (some (.ref i)) H pc Ls (.ref i :: st) H cells slots := by
  obtain ⟨l, Z, a0, n⟩ := G; obtain ⟨p, e, R', s, m, args, below, meth, c, kc', ks'⟩ := K
  obtain ⟨hx, hZ, hown, hby, hml, hret, hlk, rfl, hnm, rfl, rfl, hw⟩ := O
  intro T locs real X N S A L
  subst hc
  obtain ⟨fs, hr, hrun, hended, hW, hsame⟩ := X.leave (v := some (.ref (n + i))) (fun h => by rw [hret] at h; cases h) hlk
  exact ⟨_, _, retOut X hx hret (hn _) (Or.inr (Or.inr (Or.inr (Or.inr ⟨rfl, ht, rfl⟩)))) (hb hby hd) hr, hrun, hended, _, _, rfl, ⟨rfl, N, S, A⟩, ⟨_, rfl⟩, hW, hsame.mono (Nat.le_refl _) hs⟩
theorem con_of {y : MethodName} {rm : Room} {as : List Value} (hw : ∀ d ∈ tables_1, d.before G.2.2.1 G.2.1 = true) (pn : plainFor y = true) (hL : aloc as maxL = Ls) (body : ∀ K, Ok G K y.cls bytes maxL ret rm y.name rm.cells rm.slots → Run G K rv Hf 0 Ls [] H 0 0) : Con G y bytes maxL ret rm as H rv Hf := by
  obtain ⟨l, Z, a0, n⟩ := G
  intro h0 S0
  refine MetFree.of_bodySF pn hisR ?_
  intro p e s m args below meth c s₁ Bd hml0 hP hK
  obtain ⟨rfl, hZ, rfl⟩ := hP
  have X0 : Stand p l e rm s m _ below meth c s₁ [] 0 0 := Stand.of_body Bd
  have e0 : s₁.heap = s.heap := by rw [Bd.state]; rfl
  have k := body (p, e, rm, s, m, (as.map (sh n)).toArray, below, meth, c, rm.cells, rm.slots) ⟨Bd.exec, hZ, findClass_of_methodNamed Bd.named, Bd.bytes, hml0, Bd.returns, Bd.notSynchronized, rfl, (name_of_methodNamed Bd.named Bd.method).1, rfl, rfl, hw⟩
  subst hL
  obtain ⟨t, o, h1, h2, h3, v, L, h4, ⟨h5, h6, h7, h8⟩, h9⟩ := k s₁ [] _ X0 (Fr.nil n) (by rw [e0]; exact S0) (by rw [Nat.add_zero]; exact S0.1) (entry_rel n as maxL)
  refine ⟨t, o, h1, h2, h3, v, L, h4, ⟨h5, h6, h7, ?_⟩, h9⟩
  have := S0.1
  simp only at this
  omega
/-- the law itself, over an empty own heap -/
theorem law_of {l : Launch} {s : State} {a0 : Array Value} {as : List Value} {k0 k1 : Nat} (hw : ∀ d ∈ tables_1, d.before a0 s = true) (pn : plainFor x = true) (hL : aloc as maxLocals = Ls) (hid : as.map (sh s.heap.size) = as)
    (body : ∀ K, Ok (l, s, a0, s.heap.size) K x.cls code maxLocals Jvm.Pilot.@@N@@.ret room_1 x.name k0 k1 → Run (l, s, a0, s.heap.size) K rv Hf 0 Ls [] [] 0 0) :
    MetFree l x (head1 (Jvm.Cond.code x code maxLocals Jvm.Pilot.@@N@@.ret :: tables_1) room_1) (fun a U => a = as.toArray ∧ s.Warmed39 U.vm ∧ U.heap = s.heap) (fun _ _ _ _ _ => True) (fun _ U o U' => ∃ v L, o = .returned v ∧ (v = rv.map (sh s.heap.size) ∧ Fr s.heap.size L) ∧ FrameEnd U o U' L k0 k1) := by
  refine MetFree.of_bodySF pn hisR ?_
  intro p e U m args below meth c s₁ Bd hml0 hP hK
  obtain ⟨rfl, hZ, hU⟩ := hP
  have X0 : Stand p l e room_1 U m _ below meth c s₁ [] 0 0 := Stand.of_body Bd
  have e0 : s₁.heap = U.heap := by rw [Bd.state]; rfl
  have k := body (p, e, room_1, U, m, as.toArray, below, meth, c, k0, k1) ⟨Bd.exec, hZ, findClass_of_methodNamed Bd.named, Bd.bytes, hml0, Bd.returns, Bd.notSynchronized, rfl, (name_of_methodNamed Bd.named Bd.method).1, rfl, rfl, hw⟩
  subst hL
  have S0 : Sim (l, s, a0, s.heap.size) [] s₁.heap := ⟨by rw [e0, hU]; rfl, fun i o h => by simp at h⟩
  have er := entry_rel s.heap.size as maxLocals
  rw [hid] at er
  obtain ⟨t, o, h1, h2, h3, v, L, h4, ⟨h5, h6, h7, h8⟩, h9⟩ := k s₁ [] _ X0 (Fr.nil _) S0 (by rw [hU]; rfl) er
  exact ⟨t, o, h1, h2, h3, v, L, h4, ⟨h5, h6⟩, h9⟩
theorem Ok.w (O : Ok G K own bytes maxL ret R mn kc ks) : ∀ d ∈ tables_1, d.before G.2.2.1 G.2.1 = true := by
  obtain ⟨l, Z, a0, n⟩ := G; obtain ⟨p, e, R', s, m, args, below, meth, c, kc', ks'⟩ := K
  obtain ⟨-, -, -, -, -, -, -, -, -, -, -, hw⟩ := O
  exact hw
theorem bnd {α β : Type} {o : Option α} {f : α → Option β} {b : β} (h : o.bind f = some b) : ∃ a, o = some a ∧ f a = some b := Option.bind_eq_some_iff.mp h
theorem g_static1 {ix : Nat} {y : MethodName} {bytes' : ByteArray} {maxL' : Nat} {ret' : Option FieldType} {rm : Room} {as : List Value} {H' : List Obj} {v : Value} {ps : List FieldType} {W : Nat} {stk : List Value} (O : Ok G K own bytes maxL ret R mn kc ks) (hd : decode bytes pc = .ok (.invokestatic ix, 3))
    (w1 : Jvm.Cond.methodLink own ix y ∈ tables_1) (w2 : Jvm.Cond.static y ∈ tables_1) (w3 : Jvm.Cond.initialized y.cls ∈ tables_1) (w4 : Jvm.Cond.code y bytes' maxL' ret' ∈ tables_1) (hy : y.cls ≠ "java/lang/invoke/MethodHandle" ∧ y.cls ≠ "java/lang/invoke/VarHandle")
    (pd : parseMethodDescriptor y.desc = some ⟨ps, ret'⟩) (hl : as.length = ps.length) (hstk : stk = as.reverse ++ st) (hLs : Ls.length = maxL) (hW : (st.map fun v => v.category).sum = W) (hf : rm.frames + 1 ≤ R.frames) (hlo : W + (maxL' + 11) + rm.locals ≤ R.locals) {c2 s2 : Nat} (hc2 : cells + rm.cells = c2) (hs2 : slots + rm.slots = s2) (hc : c2 ≤ R.cells) (hs : s2 ≤ R.slots)
    (con : Con G y bytes' maxL' ret' rm as H (some v) H') (hp : pc + 3 = pc') (k : Run G K rv Hf pc' Ls (v :: st) H' c2 s2) : Run G K rv Hf pc Ls stk H cells slots := g_static O hd w1 w2 w3 w4 hy pd hl hstk hLs hW hf hlo hc2 hs2 hc hs con hp k
theorem g_static0 {ix : Nat} {y : MethodName} {bytes' : ByteArray} {maxL' : Nat} {ret' : Option FieldType} {rm : Room} {as : List Value} {H' : List Obj} {ps : List FieldType} {W : Nat} {stk : List Value} (O : Ok G K own bytes maxL ret R mn kc ks) (hd : decode bytes pc = .ok (.invokestatic ix, 3))
    (w1 : Jvm.Cond.methodLink own ix y ∈ tables_1) (w2 : Jvm.Cond.static y ∈ tables_1) (w3 : Jvm.Cond.initialized y.cls ∈ tables_1) (w4 : Jvm.Cond.code y bytes' maxL' ret' ∈ tables_1) (hy : y.cls ≠ "java/lang/invoke/MethodHandle" ∧ y.cls ≠ "java/lang/invoke/VarHandle")
    (pd : parseMethodDescriptor y.desc = some ⟨ps, ret'⟩) (hl : as.length = ps.length) (hstk : stk = as.reverse ++ st) (hLs : Ls.length = maxL) (hW : (st.map fun v => v.category).sum = W) (hf : rm.frames + 1 ≤ R.frames) (hlo : W + (maxL' + 11) + rm.locals ≤ R.locals) {c2 s2 : Nat} (hc2 : cells + rm.cells = c2) (hs2 : slots + rm.slots = s2) (hc : c2 ≤ R.cells) (hs : s2 ≤ R.slots)
    (con : Con G y bytes' maxL' ret' rm as H none H') (hp : pc + 3 = pc') (k : Run G K rv Hf pc' Ls st H' c2 s2) : Run G K rv Hf pc Ls stk H cells slots := g_static O hd w1 w2 w3 w4 hy pd hl hstk hLs hW hf hlo hc2 hs2 hc hs con hp k
theorem g_virtual1 {ix i t : Nat} {y : MethodName} {bytes' : ByteArray} {maxL' : Nat} {ret' : Option FieldType} {rm : Room} {as vs : List Value} {H' : List Obj} {v : Value} {ps : List FieldType} {W : Nat} {stk : List Value} (O : Ok G K own bytes maxL ret R mn kc ks) (hd : decode bytes pc = .ok (.invokevirtual ix, 3))
    (w1 : Jvm.Cond.methodLink own ix y ∈ tables_1) (w2 : Jvm.Cond.declares y ∈ tables_1) (w5 : Jvm.Cond.selects (lay t).1 y y ∈ tables_1) (w6 : Jvm.Cond.instanceMethod y ∈ tables_1) (w3 : Jvm.Cond.initialized y.cls ∈ tables_1) (w4 : Jvm.Cond.code y bytes' maxL' ret' ∈ tables_1) (hy : y.cls ≠ "java/lang/invoke/MethodHandle" ∧ y.cls ≠ "java/lang/invoke/VarHandle")
    (ho : obj t H i = some vs) (pd : parseMethodDescriptor y.desc = some ⟨ps, ret'⟩) (hl : as.length = ps.length) (hstk : stk = as.reverse ++ .ref i :: st) (hLs : Ls.length = maxL) (hW : (st.map fun v => v.category).sum = W) (hf : rm.frames + 1 ≤ R.frames) (hlo : W + (maxL' + 11) + rm.locals ≤ R.locals) {c2 s2 : Nat} (hc2 : cells + rm.cells = c2) (hs2 : slots + rm.slots = s2) (hc : c2 ≤ R.cells) (hs : s2 ≤ R.slots)
    (con : Con G y bytes' maxL' ret' rm (.ref i :: as) H (some v) H') (hp : pc + 3 = pc') (k : Run G K rv Hf pc' Ls (v :: st) H' c2 s2) : Run G K rv Hf pc Ls stk H cells slots := g_virtual O hd w1 w2 w5 w6 w3 w4 hy ho pd hl hstk hLs hW hf hlo hc2 hs2 hc hs con hp k
theorem g_virtual0 {ix i t : Nat} {y : MethodName} {bytes' : ByteArray} {maxL' : Nat} {ret' : Option FieldType} {rm : Room} {as vs : List Value} {H' : List Obj} {ps : List FieldType} {W : Nat} {stk : List Value} (O : Ok G K own bytes maxL ret R mn kc ks) (hd : decode bytes pc = .ok (.invokevirtual ix, 3))
    (w1 : Jvm.Cond.methodLink own ix y ∈ tables_1) (w2 : Jvm.Cond.declares y ∈ tables_1) (w5 : Jvm.Cond.selects (lay t).1 y y ∈ tables_1) (w6 : Jvm.Cond.instanceMethod y ∈ tables_1) (w3 : Jvm.Cond.initialized y.cls ∈ tables_1) (w4 : Jvm.Cond.code y bytes' maxL' ret' ∈ tables_1) (hy : y.cls ≠ "java/lang/invoke/MethodHandle" ∧ y.cls ≠ "java/lang/invoke/VarHandle")
    (ho : obj t H i = some vs) (pd : parseMethodDescriptor y.desc = some ⟨ps, ret'⟩) (hl : as.length = ps.length) (hstk : stk = as.reverse ++ .ref i :: st) (hLs : Ls.length = maxL) (hW : (st.map fun v => v.category).sum = W) (hf : rm.frames + 1 ≤ R.frames) (hlo : W + (maxL' + 11) + rm.locals ≤ R.locals) {c2 s2 : Nat} (hc2 : cells + rm.cells = c2) (hs2 : slots + rm.slots = s2) (hc : c2 ≤ R.cells) (hs : s2 ≤ R.slots)
    (con : Con G y bytes' maxL' ret' rm (.ref i :: as) H none H') (hp : pc + 3 = pc') (k : Run G K rv Hf pc' Ls st H' c2 s2) : Run G K rv Hf pc Ls stk H cells slots := g_virtual O hd w1 w2 w5 w6 w3 w4 hy ho pd hl hstk hLs hW hf hlo hc2 hs2 hc hs con hp k
/-- clone() of an int[] -/
def cloneI (cap : Nat) (H : List Obj) (i : Nat) : Option (List Obj) := (arr .int H i).bind fun vs => if vs.length ≤ cap ∧ vs.all (fun v => (getI v).isSome) = true then some (H ++ [.inl (.int, vs)]) else none
theorem g_cloneI {ix i cap W : Nat} {H' : List Obj} (O : Ok G K own bytes maxL ret R mn kc ks) (hd : decode bytes pc = .ok (.invokevirtual ix, 3)) (w1 : Jvm.Cond.methodLink own ix (⟨"[I", "clone", "()Ljava/lang/Object;"⟩ : MethodName) ∈ tables_1) (w2 : Jvm.Cond.sameMethod "[I" "java/lang/Object" "clone" "()Ljava/lang/Object;" ∈ tables_1) (w3 : Jvm.Cond.native (⟨"java/lang/Object", "clone", "()Ljava/lang/Object;"⟩ : MethodName) ∈ tables_1)
    (w4 : Jvm.Cond.instanceMethod (⟨"java/lang/Object", "clone", "()Ljava/lang/Object;"⟩ : MethodName) ∈ tables_1) (w5 : Jvm.Cond.selects "[I" (⟨"[I", "clone", "()Ljava/lang/Object;"⟩ : MethodName) (⟨"java/lang/Object", "clone", "()Ljava/lang/Object;"⟩ : MethodName) ∈ tables_1) (w6 : Jvm.Cond.castable "[I" "java/lang/Cloneable" ∈ tables_1) (hr : cloneI cap H i = some H')
    (hLs : Ls.length = maxL) (hW : (st.map fun v => v.category).sum = W) (hf : 1 ≤ R.frames) (hl : W + 14 ≤ R.locals) {c2 s2 : Nat} (hc2 : cells + 1 = c2) (hs2 : slots + cap = s2) (hc : c2 ≤ R.cells) (hs : s2 ≤ R.slots) (hp : pc + 3 = pc')
    (k : Run G K rv Hf pc' Ls (.ref H.length :: st) H' c2 s2) : Run G K rv Hf pc Ls (.ref i :: st) H cells slots := by
  obtain ⟨l, Z, a0, n⟩ := G; obtain ⟨p, e, R', s, m, args, below, meth, c, kc', ks'⟩ := K
  obtain ⟨hx, hZ, hown, hby, hml, hret, hlk, rfl, hnm, rfl, rfl, hw⟩ := O
  subst hp hc2 hs2
  intro T locs real X N S A L
  obtain ⟨vs, h1, h2⟩ := bnd hr
  have hv : vs.length ≤ cap ∧ vs.all (fun v => (getI v).isSome) = true := Decidable.byContradiction fun hv => by rw [if_neg hv] at h2; cases h2
  rw [if_pos hv] at h2
  cases h2
  obtain ⟨EX, cl, B, es⟩ := S.2 i _ (arr_e h1)
  have FC : FitC Z cl := fitC_of B fun j hj v hjv => by
    rw [es] at hjv
    simp only [List.getElem?_toArray, List.getElem?_map, Option.map_eq_some_iff] at hjv
    obtain ⟨u, q1, q2⟩ := hjv
    have := List.all_eq_true.mp hv.2 u (List.mem_of_getElem? q1)
    cases u <;> simp [getI] at this
    rw [← q2]; rfl
  obtain ⟨T', h', X', e', E, B', EX', stp⟩ := cloneA X hx hZ hown (hw _ w1) (hw _ w2) (hw _ w3) (hw _ w4) (hw _ w5) (hw _ w6) rfl B EX FC (g := mkF m pc real ((.ref i :: st).map (sh n))) rfl (by show real.size = _; rw [L.1, hml]; exact hLs) rfl (hb hby hd) hf (W := W) (cap := cap) (by show 2 * 0 + _ ≤ _; rw [cat_sum, hW]; exact Nat.le_of_eq (Nat.zero_add _)) hl (by rw [sl_len es]; exact hv.1) hc hs
  have hsz : h'.size = T.heap.size + 1 := by
    have a1 : Array.size T.heap < Array.size h' := B'.lt
    have a2 : Array.size T'.heap ≤ Array.size s.heap + (cells + 1) := X'.heapSize
    rw [e'] at a2
    have a3 : Array.size T.heap = n + H.length := S.1
    have a4 : Array.size s.heap + cells = n + H.length := A
    omega
  have ea : T.heap.size = n + H.length := S.1
  have S' : Sim (l, Z, a0, n) (H ++ [.inl (.int, vs)]) T'.heap := by
    rw [e']
    exact sim_ext S E hsz ⟨EX', _, B', es⟩
  refine Done.step stp ?_
  have k' := k T' locs real X' N S' (by simp only [List.length_append, List.length_singleton] at A ⊢; omega) L
  rw [ea]
  exact k'
theorem g_checkcastI {ix i : Nat} {vs : List Value} (O : Ok G K own bytes maxL ret R mn kc ks) (hd : decode bytes pc = .ok (.checkcast ix, 3)) (w1 : Jvm.Cond.classLink own ix "[I" ∈ tables_1) (ha : arr .int H i = some vs) (hp : pc + 3 = pc')
    (k : Run G K rv Hf pc' Ls (.ref i :: st) H cells slots) : Run G K rv Hf pc Ls (.ref i :: st) H cells slots := by
  obtain ⟨l, Z, a0, n⟩ := G; obtain ⟨p, e, R', s, m, args, below, meth, c, kc', ks'⟩ := K
  obtain ⟨hx, hZ, hown, hby, hml, hret, hlk, rfl, hnm, rfl, rfl, hw⟩ := O
  subst hp
  intro T locs real X N S A L
  obtain ⟨EX, cl, B, es⟩ := S.2 i _ (arr_e ha)
  obtain ⟨T', X', e', stp⟩ := castY X hx hZ hown (hw _ w1) rfl (Ins.self EX) (g := mkF m pc real ((.ref i :: st).map (sh n))) rfl rfl (hb hby hd)
  exact Done.step stp (k T' locs real X' N (by rw [e']; exact S) A L)
end Laws
/-! small facts on numbers -/
theorem own_n0 : nar .boolean 0 = 0 := rfl
theorem own_n1 : nar .boolean 1 = 1 := rfl
theorem own_fin {r : Int32} {N : Nat} (h0 : 0 ≤ r.toInt) (h1 : r.toInt < N) (hN : N ≤ 2147483648) : ∃ j : Fin N, r = (j.1).toInt32 := by
  refine ⟨⟨r.toInt.toNat, by omega⟩, Int32.toInt_inj.mp ?_⟩
  show r.toInt = (r.toInt.toNat).toInt32.toInt
  rw [len_toInt (by show r.toInt.toNat < 2 ^ 31; omega)]
  omega
theorem own_lt {x y : Int32} : x < y ↔ x.toInt < y.toInt := Int32.lt_iff_toInt_lt
theorem own_le {x y : Int32} : x ≤ y ↔ x.toInt ≤ y.toInt := Int32.le_iff_toInt_le
theorem own_eq {x y : Int32} : x = y ↔ x.toInt = y.toInt := Int32.toInt_inj.symm
theorem own_ltL {x y : Int64} : x < y ↔ x.toInt < y.toInt := Int64.lt_iff_toInt_lt
theorem own_eqL {x y : Int64} : x = y ↔ x.toInt = y.toInt := Int64.toInt_inj.symm
/-- x & (2^31 - 1), then a remainder by a small number -/
theorem own_m31 (a : Int32) : (a &&& 2147483647).toInt = a.toInt % 2147483648 := c_mask a 2147483647 31 (by decide) (by decide)
theorem own_mod {a y : Int32} {d : Int} (hy : y.toInt = d) (h : 0 ≤ a.toInt) : (a % y).toInt = a.toInt % d := (c_irem a y d hy).1 h

/-! body 1 -/
theorem d1_0 : decode prog_23_method_4_code 0 = .ok (.lconst 0, 1) := by decide +kernel
theorem d1_1 : decode prog_23_method_4_code 1 = .ok (.lstore 7, 2) := by decide +kernel
theorem d1_3 : decode prog_23_method_4_code 3 = .ok (.iconst 0, 1) := by decide +kernel
theorem d1_4 : decode prog_23_method_4_code 4 = .ok (.istore 9, 2) := by decide +kernel
theorem d1_6 : decode prog_23_method_4_code 6 = .ok (.iload 9, 2) := by decide +kernel
theorem d1_8 : decode prog_23_method_4_code 8 = .ok (.iload 6, 2) := by decide +kernel
theorem d1_10 : decode prog_23_method_4_code 10 = .ok (.if_icmp .ge 48, 3) := by decide +kernel
theorem d1_13 : decode prog_23_method_4_code 13 = .ok (.aload_n 0, 1) := by decide +kernel
theorem d1_14 : decode prog_23_method_4_code 14 = .ok (.iload_n 1, 1) := by decide +kernel
theorem d1_15 : decode prog_23_method_4_code 15 = .ok (.iload 9, 2) := by decide +kernel
theorem d1_17 : decode prog_23_method_4_code 17 = .ok (.iadd, 1) := by decide +kernel
theorem d1_18 : decode prog_23_method_4_code 18 = .ok (.laload, 1) := by decide +kernel
theorem d1_19 : decode prog_23_method_4_code 19 = .ok (.aload_n 2, 1) := by decide +kernel
theorem d1_20 : decode prog_23_method_4_code 20 = .ok (.iload_n 3, 1) := by decide +kernel
theorem d1_21 : decode prog_23_method_4_code 21 = .ok (.iload 9, 2) := by decide +kernel
theorem d1_23 : decode prog_23_method_4_code 23 = .ok (.iadd, 1) := by decide +kernel
theorem d1_24 : decode prog_23_method_4_code 24 = .ok (.laload, 1) := by decide +kernel
theorem d1_25 : decode prog_23_method_4_code 25 = .ok (.ladd, 1) := by decide +kernel
theorem d1_26 : decode prog_23_method_4_code 26 = .ok (.lload 7, 2) := by decide +kernel
theorem d1_28 : decode prog_23_method_4_code 28 = .ok (.ladd, 1) := by decide +kernel
theorem d1_29 : decode prog_23_method_4_code 29 = .ok (.lstore 10, 2) := by decide +kernel
theorem d1_31 : decode prog_23_method_4_code 31 = .ok (.aload 4, 2) := by decide +kernel
theorem d1_33 : decode prog_23_method_4_code 33 = .ok (.iload 5, 2) := by decide +kernel
theorem d1_35 : decode prog_23_method_4_code 35 = .ok (.iload 9, 2) := by decide +kernel
theorem d1_37 : decode prog_23_method_4_code 37 = .ok (.iadd, 1) := by decide +kernel
theorem d1_38 : decode prog_23_method_4_code 38 = .ok (.lload 10, 2) := by decide +kernel
theorem d1_40 : decode prog_23_method_4_code 40 = .ok (.ldc2_w 45, 3) := by decide +kernel
theorem d1_43 : decode prog_23_method_4_code 43 = .ok (.land, 1) := by decide +kernel
theorem d1_44 : decode prog_23_method_4_code 44 = .ok (.lastore, 1) := by decide +kernel
theorem d1_45 : decode prog_23_method_4_code 45 = .ok (.lload 10, 2) := by decide +kernel
theorem d1_47 : decode prog_23_method_4_code 47 = .ok (.bipush 63, 2) := by decide +kernel
theorem d1_49 : decode prog_23_method_4_code 49 = .ok (.lushr, 1) := by decide +kernel
theorem d1_50 : decode prog_23_method_4_code 50 = .ok (.lstore 7, 2) := by decide +kernel
theorem d1_52 : decode prog_23_method_4_code 52 = .ok (.iinc 9 1, 3) := by decide +kernel
theorem d1_55 : decode prog_23_method_4_code 55 = .ok (.goto (-49), 3) := by decide +kernel
theorem d1_58 : decode prog_23_method_4_code 58 = .ok (.return_, 1) := by decide +kernel
theorem pd1 : parseMethodDescriptor "([JI[JI[JII)V" = some ⟨[.array .long, .int, .array .long, .int, .array .long, .int, .int], none⟩ := by decide +kernel
theorem pn1 : plainFor (⟨"com/example/waystation/waystation/placement/Limbs", "add", "([JI[JI[JII)V"⟩ : MethodName) = true := by first | exact plainFor_of_name (by first | (simp [plainName, overriddenIn]; done) | decide +kernel) | decide +kernel
abbrev rm1 : Room := { frames := 0, cells := 0, slots := 0, locals := 0 }
abbrev Ok1 (G : Gx) (K : Kx) : Prop := Ok G K "com/example/waystation/waystation/placement/Limbs" prog_23_method_4_code 12 (Option.none : Option FieldType) rm1 "add" 0 0
def m1_b6 : Nat → Nat → Int32 → Nat → Int32 → Nat → Int32 → Int32 → Int64 → Int32 → List Obj → Option (List Obj)
  | 0, _, _, _, _, _, _, _, _, _, _ => none
  | n + 1, v0, v1, v2, v3, v4, v5, v6, v7, v9, H =>
    if v9 < v6 then
      (rdJ H v0 (v1 + v9)).bind fun x18 =>
      (rdJ H v2 (v3 + v9)).bind fun x24 =>
      (wr .long H v4 (v5 + v9) (.long (((x18 + x24) + v7) &&& (9223372036854775807 : Int64)))).bind fun H44 =>
      m1_b6 n v0 v1 v2 v3 v4 v5 v6 (XT.ushrL ((x18 + x24) + v7) (63 : Int32)) (v9 + (1 : Int32)) H44
    else
      some H
theorem m1_t6 {G : Gx} {K : Kx} (O : Ok1 G K) : ∀ (n : Nat) (v0 : Nat) (v1 : Int32) (v2 : Nat) (v3 : Int32) (v4 : Nat) (v5 : Int32) (v6 : Int32) (v7 : Int64) (v9 : Int32) (H : List Obj) (_ : Unit) (Hf : List Obj), m1_b6 n v0 v1 v2 v3 v4 v5 v6 v7 v9 H = some Hf → Run G K none Hf 6 [some (.ref v0), some (.int v1), some (.ref v2), some (.int v3), some (.ref v4), some (.int v5), some (.int v6), some (.long v7), none, some (.int v9), none, none] [] H 0 0 := by
  intro n
  induction n with
  | zero => intro v0 v1 v2 v3 v4 v5 v6 v7 v9 H r Hf hf; cases hf
  | succ n ih =>
    intro v0 v1 v2 v3 v4 v5 v6 v7 v9 H r Hf hf
    rw [m1_b6] at hf
    refine g_iload O (pc' := 8) d1_6 (v := v9) rfl rfl ?_
    refine g_iload O (pc' := 10) d1_8 (v := v6) rfl rfl ?_
    refine g_icmp_ge O (pc' := 13) d1_10 rfl (by decide) (pc1 := 58) (by decide) (fun h10 => ?_) (fun h10 => ?_)
    · rw [if_neg h10] at hf
      cases hf
      exact g_ret_void O d1_58 rfl (by decide)
    · rw [if_pos h10] at hf
      refine g_aload_n O (pc' := 14) d1_13 (v := v0) rfl rfl ?_
      refine g_iload_n O (pc' := 15) d1_14 (v := v1) rfl rfl ?_
      refine g_iload O (pc' := 17) d1_15 (v := v9) rfl rfl ?_
      refine g_iadd O (pc' := 18) d1_17 rfl ?_
      obtain ⟨x18, h18, hf⟩ := bnd hf
      refine g_laload O (pc' := 19) d1_18 h18 rfl ?_
      refine g_aload_n O (pc' := 20) d1_19 (v := v2) rfl rfl ?_
      refine g_iload_n O (pc' := 21) d1_20 (v := v3) rfl rfl ?_
      refine g_iload O (pc' := 23) d1_21 (v := v9) rfl rfl ?_
      refine g_iadd O (pc' := 24) d1_23 rfl ?_
      obtain ⟨x24, h24, hf⟩ := bnd hf
      refine g_laload O (pc' := 25) d1_24 h24 rfl ?_
      refine g_ladd O (pc' := 26) d1_25 rfl ?_
      refine g_lload O (pc' := 28) d1_26 (v := v7) rfl rfl ?_
      refine g_ladd O (pc' := 29) d1_28 rfl ?_
      refine g_lstore O (pc' := 31) d1_29 (Ls' := [some (.ref v0), some (.int v1), some (.ref v2), some (.int v3), some (.ref v4), some (.int v5), some (.int v6), some (.long v7), none, some (.int v9), some (.long ((x18 + x24) + v7)), none]) rfl rfl ?_
      refine g_aload O (pc' := 33) d1_31 (v := v4) rfl rfl ?_
      refine g_iload O (pc' := 35) d1_33 (v := v5) rfl rfl ?_
      refine g_iload O (pc' := 37) d1_35 (v := v9) rfl rfl ?_
      refine g_iadd O (pc' := 38) d1_37 rfl ?_
      refine g_lload O (pc' := 40) d1_38 (v := ((x18 + x24) + v7)) rfl rfl ?_
      refine g_ldc2 O (pc' := 43) d1_40 tw19 rfl ?_
      refine g_land O (pc' := 44) d1_43 rfl ?_
      obtain ⟨H44, h44, hf⟩ := bnd hf
      refine g_lastore O (pc' := 45) d1_44 h44 rfl ?_
      refine g_lload O (pc' := 47) d1_45 (v := ((x18 + x24) + v7)) rfl rfl ?_
      refine g_bipush O (pc' := 49) d1_47 (v := 63) (by decide) rfl ?_
      refine g_lushr O (pc' := 50) d1_49 rfl ?_
      refine g_lstore O (pc' := 52) d1_50 (Ls' := [some (.ref v0), some (.int v1), some (.ref v2), some (.int v3), some (.ref v4), some (.int v5), some (.int v6), some (.long (XT.ushrL ((x18 + x24) + v7) (63 : Int32))), none, some (.int v9), some (.long ((x18 + x24) + v7)), none]) rfl rfl ?_
      refine g_iinc O (pc' := 55) d1_52 (w := 1) (v := v9) (by decide) rfl (Ls' := [some (.ref v0), some (.int v1), some (.ref v2), some (.int v3), some (.ref v4), some (.int v5), some (.int v6), some (.long (XT.ushrL ((x18 + x24) + v7) (63 : Int32))), none, some (.int (v9 + (1 : Int32))), some (.long ((x18 + x24) + v7)), none]) rfl rfl ?_
      refine g_goto O d1_55 (by decide) (pc' := 6) (by decide) ?_
      refine g_forget (Ls' := [some (.ref v0), some (.int v1), some (.ref v2), some (.int v3), some (.ref v4), some (.int v5), some (.int v6), some (.long (XT.ushrL ((x18 + x24) + v7) (63 : Int32))), none, some (.int (v9 + (1 : Int32))), none, none]) (And.intro rfl (And.intro rfl (And.intro rfl (And.intro rfl (And.intro rfl (And.intro rfl (And.intro rfl (And.intro rfl (And.intro rfl trivial))))))))) ?_
      exact ih v0 v1 v2 v3 v4 v5 v6 (XT.ushrL ((x18 + x24) + v7) (63 : Int32)) (v9 + (1 : Int32)) H44 () _ hf
def m1_b0 (v0 : Nat) (v1 : Int32) (v2 : Nat) (v3 : Int32) (v4 : Nat) (v5 : Int32) (v6 : Int32) (H : List Obj) : Option (List Obj) :=
  m1_b6 8 v0 v1 v2 v3 v4 v5 v6 (0 : Int64) (0 : Int32) H
theorem m1_t0 {G : Gx} {K : Kx} (O : Ok1 G K) (v0 : Nat) (v1 : Int32) (v2 : Nat) (v3 : Int32) (v4 : Nat) (v5 : Int32) (v6 : Int32) (H : List Obj) (_ : Unit) (Hf : List Obj) (hf : m1_b0 v0 v1 v2 v3 v4 v5 v6 H = some Hf) : Run G K none Hf 0 [some (.ref v0), some (.int v1), some (.ref v2), some (.int v3), some (.ref v4), some (.int v5), some (.int v6), none, none, none, none, none] [] H 0 0 := by
  unfold m1_b0 at hf
  refine g_lconst O (pc' := 1) d1_0 (v := 0) (by decide) rfl ?_
  refine g_lstore O (pc' := 3) d1_1 (Ls' := [some (.ref v0), some (.int v1), some (.ref v2), some (.int v3), some (.ref v4), some (.int v5), some (.int v6), some (.long (0 : Int64)), none, none, none, none]) rfl rfl ?_
  refine g_iconst O (pc' := 4) d1_3 (v := 0) (by decide) rfl ?_
  refine g_istore O (pc' := 6) d1_4 (Ls' := [some (.ref v0), some (.int v1), some (.ref v2), some (.int v3), some (.ref v4), some (.int v5), some (.int v6), some (.long (0 : Int64)), none, some (.int (0 : Int32)), none, none]) rfl rfl ?_
  exact m1_t6 O 8 v0 v1 v2 v3 v4 v5 v6 (0 : Int64) (0 : Int32) H () _ hf
abbrev m1 (v0 : Nat) (v1 : Int32) (v2 : Nat) (v3 : Int32) (v4 : Nat) (v5 : Int32) (v6 : Int32) (H : List Obj) : Option (List Obj) := m1_b0 v0 v1 v2 v3 v4 v5 v6 H
theorem con1 {G : Gx} (hw : ∀ d ∈ tables_1, d.before G.2.2.1 G.2.1 = true) (v0 : Nat) (v1 : Int32) (v2 : Nat) (v3 : Int32) (v4 : Nat) (v5 : Int32) (v6 : Int32) (H : List Obj) {Hf : List Obj} (hf : m1 v0 v1 v2 v3 v4 v5 v6 H = some Hf) : Con G (⟨"com/example/waystation/waystation/placement/Limbs", "add", "([JI[JI[JII)V"⟩ : MethodName) prog_23_method_4_code 12 (Option.none : Option FieldType) rm1 [(.ref v0), (.int v1), (.ref v2), (.int v3), (.ref v4), (.int v5), (.int v6)] H none Hf :=
  con_of hw pn1 rfl fun K O => m1_t0 O v0 v1 v2 v3 v4 v5 v6 H () Hf hf

/-! body 2 -/
theorem d2_0 : decode method_2_code 0 = .ok (.aload_n 0, 1) := by decide +kernel
theorem d2_1 : decode method_2_code 1 = .ok (.iconst 0, 1) := by decide +kernel
theorem d2_2 : decode method_2_code 2 = .ok (.laload, 1) := by decide +kernel
theorem d2_3 : decode method_2_code 3 = .ok (.aload_n 1, 1) := by decide +kernel
theorem d2_4 : decode method_2_code 4 = .ok (.iconst 0, 1) := by decide +kernel
theorem d2_5 : decode method_2_code 5 = .ok (.laload, 1) := by decide +kernel
theorem d2_6 : decode method_2_code 6 = .ok (.lcmp, 1) := by decide +kernel
theorem d2_7 : decode method_2_code 7 = .ok (.ifCond .ne 37, 3) := by decide +kernel
theorem d2_10 : decode method_2_code 10 = .ok (.aload_n 0, 1) := by decide +kernel
theorem d2_11 : decode method_2_code 11 = .ok (.iconst 1, 1) := by decide +kernel
theorem d2_12 : decode method_2_code 12 = .ok (.laload, 1) := by decide +kernel
theorem d2_13 : decode method_2_code 13 = .ok (.aload_n 1, 1) := by decide +kernel
theorem d2_14 : decode method_2_code 14 = .ok (.iconst 1, 1) := by decide +kernel
theorem d2_15 : decode method_2_code 15 = .ok (.laload, 1) := by decide +kernel
theorem d2_16 : decode method_2_code 16 = .ok (.lcmp, 1) := by decide +kernel
theorem d2_17 : decode method_2_code 17 = .ok (.ifCond .ne 27, 3) := by decide +kernel
theorem d2_20 : decode method_2_code 20 = .ok (.aload_n 0, 1) := by decide +kernel
theorem d2_21 : decode method_2_code 21 = .ok (.iconst 2, 1) := by decide +kernel
theorem d2_22 : decode method_2_code 22 = .ok (.laload, 1) := by decide +kernel
theorem d2_23 : decode method_2_code 23 = .ok (.aload_n 1, 1) := by decide +kernel
theorem d2_24 : decode method_2_code 24 = .ok (.iconst 2, 1) := by decide +kernel
theorem d2_25 : decode method_2_code 25 = .ok (.laload, 1) := by decide +kernel
theorem d2_26 : decode method_2_code 26 = .ok (.lcmp, 1) := by decide +kernel
theorem d2_27 : decode method_2_code 27 = .ok (.ifCond .ne 17, 3) := by decide +kernel
theorem d2_30 : decode method_2_code 30 = .ok (.aload_n 0, 1) := by decide +kernel
theorem d2_31 : decode method_2_code 31 = .ok (.iconst 3, 1) := by decide +kernel
theorem d2_32 : decode method_2_code 32 = .ok (.laload, 1) := by decide +kernel
theorem d2_33 : decode method_2_code 33 = .ok (.aload_n 1, 1) := by decide +kernel
theorem d2_34 : decode method_2_code 34 = .ok (.iconst 3, 1) := by decide +kernel
theorem d2_35 : decode method_2_code 35 = .ok (.laload, 1) := by decide +kernel
theorem d2_36 : decode method_2_code 36 = .ok (.lcmp, 1) := by decide +kernel
theorem d2_37 : decode method_2_code 37 = .ok (.ifCond .ne 7, 3) := by decide +kernel
theorem d2_40 : decode method_2_code 40 = .ok (.iconst 1, 1) := by decide +kernel
theorem d2_41 : decode method_2_code 41 = .ok (.goto 4, 3) := by decide +kernel
theorem d2_44 : decode method_2_code 44 = .ok (.iconst 0, 1) := by decide +kernel
theorem d2_45 : decode method_2_code 45 = .ok (.ireturn, 1) := by decide +kernel
theorem pd2 : parseMethodDescriptor "([J[J)Z" = some ⟨[.array .long, .array .long], some .boolean⟩ := by decide +kernel
theorem pn2 : plainFor (⟨"com/example/waystation/waystation/placement/LimbsAddPinLaw", "same", "([J[J)Z"⟩ : MethodName) = true := by first | exact plainFor_of_name (by first | (simp [plainName, overriddenIn]; done) | decide +kernel) | decide +kernel
abbrev rm2 : Room := { frames := 0, cells := 0, slots := 0, locals := 0 }
abbrev Ok2 (G : Gx) (K : Kx) : Prop := Ok G K "com/example/waystation/waystation/placement/LimbsAddPinLaw" method_2_code 2 (Option.some FieldType.boolean) rm2 "same" 0 0
def m2_b45 (t0 : Int32) (H : List Obj) : Option (Int32 × List Obj) :=
  some ((nar .boolean t0), H)
theorem m2_t45 {G : Gx} {K : Kx} (O : Ok2 G K) (t0 : Int32) (H : List Obj) (r : Int32) (Hf : List Obj) (hf : m2_b45 t0 H = some (r, Hf)) : Run G K (some (.int r)) Hf 45 [none, none] [(.int t0)] H 0 0 := by
  unfold m2_b45 at hf
  cases hf
  exact g_ret_nar O d2_45 (by simp) rfl rfl (by decide)
def m2_b44 (H : List Obj) : Option (Int32 × List Obj) :=
  m2_b45 (0 : Int32) H
theorem m2_t44 {G : Gx} {K : Kx} (O : Ok2 G K) (H : List Obj) (r : Int32) (Hf : List Obj) (hf : m2_b44 H = some (r, Hf)) : Run G K (some (.int r)) Hf 44 [none, none] [] H 0 0 := by
  unfold m2_b44 at hf
  refine g_iconst O (pc' := 45) d2_44 (v := 0) (by decide) rfl ?_
  exact m2_t45 O (0 : Int32) H _ _ hf
def m2_b0 (v0 : Nat) (v1 : Nat) (H : List Obj) : Option (Int32 × List Obj) :=
  (rdJ H v0 (0 : Int32)).bind fun x2 =>
  (rdJ H v1 (0 : Int32)).bind fun x5 =>
  if x2 = x5 then
    (rdJ H v0 (1 : Int32)).bind fun x12 =>
    (rdJ H v1 (1 : Int32)).bind fun x15 =>
    if x12 = x15 then
      (rdJ H v0 (2 : Int32)).bind fun x22 =>
      (rdJ H v1 (2 : Int32)).bind fun x25 =>
      if x22 = x25 then
        (rdJ H v0 (3 : Int32)).bind fun x32 =>
        (rdJ H v1 (3 : Int32)).bind fun x35 =>
        if x32 = x35 then
          m2_b45 (1 : Int32) H
        else
          m2_b44 H
      else
        m2_b44 H
    else
      m2_b44 H
  else
    m2_b44 H
theorem m2_t0 {G : Gx} {K : Kx} (O : Ok2 G K) (v0 : Nat) (v1 : Nat) (H : List Obj) (r : Int32) (Hf : List Obj) (hf : m2_b0 v0 v1 H = some (r, Hf)) : Run G K (some (.int r)) Hf 0 [some (.ref v0), some (.ref v1)] [] H 0 0 := by
  unfold m2_b0 at hf
  refine g_aload_n O (pc' := 1) d2_0 (v := v0) rfl rfl ?_
  refine g_iconst O (pc' := 2) d2_1 (v := 0) (by decide) rfl ?_
  obtain ⟨x2, h2, hf⟩ := bnd hf
  refine g_laload O (pc' := 3) d2_2 h2 rfl ?_
  refine g_aload_n O (pc' := 4) d2_3 (v := v1) rfl rfl ?_
  refine g_iconst O (pc' := 5) d2_4 (v := 0) (by decide) rfl ?_
  obtain ⟨x5, h5, hf⟩ := bnd hf
  refine g_laload O (pc' := 6) d2_5 h5 rfl ?_
  refine g_lcmp_ne O (pc' := 10) d2_6 rfl d2_7 rfl (by decide) (pc1 := 44) (by decide) (fun h7 => ?_) (fun h7 => ?_)
  · rw [if_neg h7] at hf
    refine g_forget (Ls' := [none, none]) trivial ?_
    exact m2_t44 O H _ _ hf
  · rw [if_pos h7] at hf
    refine g_aload_n O (pc' := 11) d2_10 (v := v0) rfl rfl ?_
    refine g_iconst O (pc' := 12) d2_11 (v := 1) (by decide) rfl ?_
    obtain ⟨x12, h12, hf⟩ := bnd hf
    refine g_laload O (pc' := 13) d2_12 h12 rfl ?_
    refine g_aload_n O (pc' := 14) d2_13 (v := v1) rfl rfl ?_
    refine g_iconst O (pc' := 15) d2_14 (v := 1) (by decide) rfl ?_
    obtain ⟨x15, h15, hf⟩ := bnd hf
    refine g_laload O (pc' := 16) d2_15 h15 rfl ?_
    refine g_lcmp_ne O (pc' := 20) d2_16 rfl d2_17 rfl (by decide) (pc1 := 44) (by decide) (fun h17 => ?_) (fun h17 => ?_)
    · rw [if_neg h17] at hf
      refine g_forget (Ls' := [none, none]) trivial ?_
      exact m2_t44 O H _ _ hf
    · rw [if_pos h17] at hf
      refine g_aload_n O (pc' := 21) d2_20 (v := v0) rfl rfl ?_
      refine g_iconst O (pc' := 22) d2_21 (v := 2) (by decide) rfl ?_
      obtain ⟨x22, h22, hf⟩ := bnd hf
      refine g_laload O (pc' := 23) d2_22 h22 rfl ?_
      refine g_aload_n O (pc' := 24) d2_23 (v := v1) rfl rfl ?_
      refine g_iconst O (pc' := 25) d2_24 (v := 2) (by decide) rfl ?_
      obtain ⟨x25, h25, hf⟩ := bnd hf
      refine g_laload O (pc' := 26) d2_25 h25 rfl ?_
      refine g_lcmp_ne O (pc' := 30) d2_26 rfl d2_27 rfl (by decide) (pc1 := 44) (by decide) (fun h27 => ?_) (fun h27 => ?_)
      · rw [if_neg h27] at hf
        refine g_forget (Ls' := [none, none]) trivial ?_
        exact m2_t44 O H _ _ hf
      · rw [if_pos h27] at hf
        refine g_aload_n O (pc' := 31) d2_30 (v := v0) rfl rfl ?_
        refine g_iconst O (pc' := 32) d2_31 (v := 3) (by decide) rfl ?_
        obtain ⟨x32, h32, hf⟩ := bnd hf
        refine g_laload O (pc' := 33) d2_32 h32 rfl ?_
        refine g_aload_n O (pc' := 34) d2_33 (v := v1) rfl rfl ?_
        refine g_iconst O (pc' := 35) d2_34 (v := 3) (by decide) rfl ?_
        obtain ⟨x35, h35, hf⟩ := bnd hf
        refine g_laload O (pc' := 36) d2_35 h35 rfl ?_
        refine g_lcmp_ne O (pc' := 40) d2_36 rfl d2_37 rfl (by decide) (pc1 := 44) (by decide) (fun h37 => ?_) (fun h37 => ?_)
        · rw [if_neg h37] at hf
          refine g_forget (Ls' := [none, none]) trivial ?_
          exact m2_t44 O H _ _ hf
        · rw [if_pos h37] at hf
          refine g_iconst O (pc' := 41) d2_40 (v := 1) (by decide) rfl ?_
          refine g_goto O d2_41 (by decide) (pc' := 45) (by decide) ?_
          refine g_forget (Ls' := [none, none]) trivial ?_
          exact m2_t45 O (1 : Int32) H _ _ hf
abbrev m2 (v0 : Nat) (v1 : Nat) (H : List Obj) : Option (Int32 × List Obj) := m2_b0 v0 v1 H
theorem con2 {G : Gx} (hw : ∀ d ∈ tables_1, d.before G.2.2.1 G.2.1 = true) (v0 : Nat) (v1 : Nat) (H : List Obj) {r : Int32} {Hf : List Obj} (hf : m2 v0 v1 H = some (r, Hf)) : Con G (⟨"com/example/waystation/waystation/placement/LimbsAddPinLaw", "same", "([J[J)Z"⟩ : MethodName) method_2_code 2 (Option.some FieldType.boolean) rm2 [(.ref v0), (.ref v1)] H (some (.int r)) Hf :=
  con_of hw pn2 rfl fun K O => m2_t0 O v0 v1 H r Hf hf

/-! body 0 -/
theorem pn0 : plainFor x = true := by first | exact plainFor_of_name (by first | (simp [plainName, overriddenIn]; done) | decide +kernel) | decide +kernel
abbrev Ok0 (G : Gx) (K : Kx) : Prop := Ok G K x.cls code maxLocals ret room_1 x.name 6 24
def m0_b491 (t0 : Int32) (H : List Obj) : Option (Int32 × List Obj) :=
  some ((nar .boolean t0), H)
theorem m0_t491 {G : Gx} {K : Kx} (O : Ok0 G K) (t0 : Int32) (H : List Obj) (r : Int32) (Hf : List Obj) (hf : m0_b491 t0 H = some (r, Hf)) : Run G K (some (.int r)) Hf 491 [none, none, none, none, none, none, none, none, none, none, none, none, none, none, none, none, none, none, none, none, none, none, none, none, none, none, none, none, none, none, none, none, none, none, none, none, none] [(.int t0)] H 6 24 := by
  unfold m0_b491 at hf
  cases hf
  exact g_ret_nar O at_491 (by simp) rfl rfl (by decide)
def m0_b490 (H : List Obj) : Option (Int32 × List Obj) :=
  m0_b491 (0 : Int32) H
theorem m0_t490 {G : Gx} {K : Kx} (O : Ok0 G K) (H : List Obj) (r : Int32) (Hf : List Obj) (hf : m0_b490 H = some (r, Hf)) : Run G K (some (.int r)) Hf 490 [none, none, none, none, none, none, none, none, none, none, none, none, none, none, none, none, none, none, none, none, none, none, none, none, none, none, none, none, none, none, none, none, none, none, none, none, none] [] H 6 24 := by
  unfold m0_b490 at hf
  refine g_iconst O (pc' := 491) at_490 (v := 0) (by decide) rfl ?_
  exact m0_t491 O (0 : Int32) H _ _ hf
def m0_b456 (v25 : Nat) (v26 : Nat) (v27 : Nat) (v34 : Nat) (v35 : Nat) (v36 : Nat) (H : List Obj) : Option (Int32 × List Obj) :=
  (m2 v25 v34 H).bind fun q460 =>
  if q460.1 = 0 then
    m0_b490 q460.2
  else
    (m2 v26 v35 q460.2).bind fun q470 =>
    if q470.1 = 0 then
      m0_b490 q470.2
    else
      (m2 v27 v36 q470.2).bind fun q480 =>
      if q480.1 = 0 then
        m0_b490 q480.2
      else
        m0_b491 (1 : Int32) q480.2
theorem m0_t456 {G : Gx} {K : Kx} (O : Ok0 G K) (v25 : Nat) (v26 : Nat) (v27 : Nat) (v34 : Nat) (v35 : Nat) (v36 : Nat) (H : List Obj) (r : Int32) (Hf : List Obj) (hf : m0_b456 v25 v26 v27 v34 v35 v36 H = some (r, Hf)) : Run G K (some (.int r)) Hf 456 [none, none, none, none, none, none, none, none, none, none, none, none, none, none, none, none, none, none, none, none, none, none, none, none, none, some (.ref v25), some (.ref v26), some (.ref v27), none, none, none, none, none, none, some (.ref v34), some (.ref v35), some (.ref v36)] [] H 6 24 := by
  unfold m0_b456 at hf
  refine g_aload O (pc' := 458) at_456 (v := v25) rfl rfl ?_
  refine g_aload O (pc' := 460) at_458 (v := v34) rfl rfl ?_
  obtain ⟨⟨x460, H460⟩, h460, hf⟩ := bnd hf
  dsimp only at hf
  refine g_static1 O (pc' := 463) at_460 tw20 tw21 tw22 tw23 (by decide) pd2 (as := [(.ref v25), (.ref v34)]) rfl (st := []) rfl rfl (W := 0) rfl (rm := rm2) (by decide) (by decide) (c2 := 6) (s2 := 24) rfl rfl (by decide) (by decide) (con2 (Ok.w O) v25 v34 H h460) rfl ?_
  refine g_if_eq O (pc' := 466) at_463 rfl (by decide) (pc1 := 490) (by decide) (fun h463 => ?_) (fun h463 => ?_)
  · rw [if_pos h463] at hf
    refine g_forget (Ls' := [none, none, none, none, none, none, none, none, none, none, none, none, none, none, none, none, none, none, none, none, none, none, none, none, none, none, none, none, none, none, none, none, none, none, none, none, none]) trivial ?_
    exact m0_t490 O H460 _ _ hf
  · rw [if_neg h463] at hf
    refine g_aload O (pc' := 468) at_466 (v := v26) rfl rfl ?_
    refine g_aload O (pc' := 470) at_468 (v := v35) rfl rfl ?_
    obtain ⟨⟨x470, H470⟩, h470, hf⟩ := bnd hf
    dsimp only at hf
    refine g_static1 O (pc' := 473) at_470 tw20 tw21 tw22 tw23 (by decide) pd2 (as := [(.ref v26), (.ref v35)]) rfl (st := []) rfl rfl (W := 0) rfl (rm := rm2) (by decide) (by decide) (c2 := 6) (s2 := 24) rfl rfl (by decide) (by decide) (con2 (Ok.w O) v26 v35 H460 h470) rfl ?_
    refine g_if_eq O (pc' := 476) at_473 rfl (by decide) (pc1 := 490) (by decide) (fun h473 => ?_) (fun h473 => ?_)
    · rw [if_pos h473] at hf
      refine g_forget (Ls' := [none, none, none, none, none, none, none, none, none, none, none, none, none, none, none, none, none, none, none, none, none, none, none, none, none, none, none, none, none, none, none, none, none, none, none, none, none]) trivial ?_
      exact m0_t490 O H470 _ _ hf
    · rw [if_neg h473] at hf
      refine g_aload O (pc' := 478) at_476 (v := v27) rfl rfl ?_
      refine g_aload O (pc' := 480) at_478 (v := v36) rfl rfl ?_
      obtain ⟨⟨x480, H480⟩, h480, hf⟩ := bnd hf
      dsimp only at hf
      refine g_static1 O (pc' := 483) at_480 tw20 tw21 tw22 tw23 (by decide) pd2 (as := [(.ref v27), (.ref v36)]) rfl (st := []) rfl rfl (W := 0) rfl (rm := rm2) (by decide) (by decide) (c2 := 6) (s2 := 24) rfl rfl (by decide) (by decide) (con2 (Ok.w O) v27 v36 H470 h480) rfl ?_
      refine g_if_eq O (pc' := 486) at_483 rfl (by decide) (pc1 := 490) (by decide) (fun h483 => ?_) (fun h483 => ?_)
      · rw [if_pos h483] at hf
        refine g_forget (Ls' := [none, none, none, none, none, none, none, none, none, none, none, none, none, none, none, none, none, none, none, none, none, none, none, none, none, none, none, none, none, none, none, none, none, none, none, none, none]) trivial ?_
        exact m0_t490 O H480 _ _ hf
      · rw [if_neg h483] at hf
        refine g_iconst O (pc' := 487) at_486 (v := 1) (by decide) rfl ?_
        refine g_goto O at_487 (by decide) (pc' := 491) (by decide) ?_
        refine g_forget (Ls' := [none, none, none, none, none, none, none, none, none, none, none, none, none, none, none, none, none, none, none, none, none, none, none, none, none, none, none, none, none, none, none, none, none, none, none, none, none]) trivial ?_
        exact m0_t491 O (1 : Int32) H480 _ _ hf
def m0_b343 (v21 : Int32) (v22 : Int32) (v23 : Int32) (v24 : Int32) (v25 : Nat) (v26 : Nat) (v27 : Nat) (v30 : Int64) (v32 : Int64) (v34 : Nat) (v35 : Nat) (v36 : Nat) (H : List Obj) : Option (Int32 × List Obj) :=
  if v24 = 0 then
    (wr .long H v36 v23 (.long v30)).bind fun H354 =>
    (wr .long H354 v36 (v23 + (1 : Int32)) (.long v32)).bind fun H363 =>
    (m1 v25 v21 v26 v22 v27 v23 (2 : Int32) H363).bind fun H377 =>
    m0_b456 v25 v26 v27 v34 v35 v36 H377
  else
    if v24 = (1 : Int32) then
      (wr .long H v34 v21 (.long v30)).bind fun H395 =>
      (wr .long H395 v34 (v21 + (1 : Int32)) (.long v32)).bind fun H404 =>
      (m1 v25 v21 v26 v22 v25 v21 (2 : Int32) H404).bind fun H418 =>
      m0_b456 v25 v26 v27 v34 v35 v36 H418
    else
      (wr .long H v35 v22 (.long v30)).bind fun H430 =>
      (wr .long H430 v35 (v22 + (1 : Int32)) (.long v32)).bind fun H439 =>
      (m1 v25 v21 v26 v22 v26 v22 (2 : Int32) H439).bind fun H453 =>
      m0_b456 v25 v26 v27 v34 v35 v36 H453
theorem m0_t343 {G : Gx} {K : Kx} (O : Ok0 G K) (v21 : Int32) (v22 : Int32) (v23 : Int32) (v24 : Int32) (v25 : Nat) (v26 : Nat) (v27 : Nat) (v30 : Int64) (v32 : Int64) (v34 : Nat) (v35 : Nat) (v36 : Nat) (H : List Obj) (r : Int32) (Hf : List Obj) (hf : m0_b343 v21 v22 v23 v24 v25 v26 v27 v30 v32 v34 v35 v36 H = some (r, Hf)) : Run G K (some (.int r)) Hf 343 [none, none, none, none, none, none, none, none, none, none, none, none, none, none, none, none, none, none, none, none, none, some (.int v21), some (.int v22), some (.int v23), some (.int v24), some (.ref v25), some (.ref v26), some (.ref v27), none, none, some (.long v30), none, some (.long v32), none, some (.ref v34), some (.ref v35), some (.ref v36)] [] H 6 24 := by
  unfold m0_b343 at hf
  refine g_iload O (pc' := 345) at_343 (v := v24) rfl rfl ?_
  refine g_if_ne O (pc' := 348) at_345 rfl (by decide) (pc1 := 383) (by decide) (fun h345 => ?_) (fun h345 => ?_)
  · rw [if_neg h345] at hf
    refine g_iload O (pc' := 385) at_383 (v := v24) rfl rfl ?_
    refine g_iconst O (pc' := 386) at_385 (v := 1) (by decide) rfl ?_
    refine g_icmp_ne O (pc' := 389) at_386 rfl (by decide) (pc1 := 424) (by decide) (fun h386 => ?_) (fun h386 => ?_)
    · rw [if_neg h386] at hf
      refine g_aload O (pc' := 426) at_424 (v := v35) rfl rfl ?_
      refine g_iload O (pc' := 428) at_426 (v := v22) rfl rfl ?_
      refine g_lload O (pc' := 430) at_428 (v := v30) rfl rfl ?_
      obtain ⟨H430, h430, hf⟩ := bnd hf
      refine g_lastore O (pc' := 431) at_430 h430 rfl ?_
      refine g_aload O (pc' := 433) at_431 (v := v35) rfl rfl ?_
      refine g_iload O (pc' := 435) at_433 (v := v22) rfl rfl ?_
      refine g_iconst O (pc' := 436) at_435 (v := 1) (by decide) rfl ?_
      refine g_iadd O (pc' := 437) at_436 rfl ?_
      refine g_lload O (pc' := 439) at_437 (v := v32) rfl rfl ?_
      obtain ⟨H439, h439, hf⟩ := bnd hf
      refine g_lastore O (pc' := 440) at_439 h439 rfl ?_
      refine g_aload O (pc' := 442) at_440 (v := v25) rfl rfl ?_
      refine g_iload O (pc' := 444) at_442 (v := v21) rfl rfl ?_
      refine g_aload O (pc' := 446) at_444 (v := v26) rfl rfl ?_
      refine g_iload O (pc' := 448) at_446 (v := v22) rfl rfl ?_
      refine g_aload O (pc' := 450) at_448 (v := v26) rfl rfl ?_
      refine g_iload O (pc' := 452) at_450 (v := v22) rfl rfl ?_
      refine g_iconst O (pc' := 453) at_452 (v := 2) (by decide) rfl ?_
      obtain ⟨H453, h453, hf⟩ := bnd hf
      refine g_static0 O (pc' := 456) at_453 tw15 tw16 tw17 tw18 (by decide) pd1 (as := [(.ref v25), (.int v21), (.ref v26), (.int v22), (.ref v26), (.int v22), (.int (2 : Int32))]) rfl (st := []) rfl rfl (W := 0) rfl (rm := rm1) (by decide) (by decide) (c2 := 6) (s2 := 24) rfl rfl (by decide) (by decide) (con1 (Ok.w O) v25 v21 v26 v22 v26 v22 (2 : Int32) H439 h453) rfl ?_
      refine g_forget (Ls' := [none, none, none, none, none, none, none, none, none, none, none, none, none, none, none, none, none, none, none, none, none, none, none, none, none, some (.ref v25), some (.ref v26), some (.ref v27), none, none, none, none, none, none, some (.ref v34), some (.ref v35), some (.ref v36)]) (And.intro rfl (And.intro rfl (And.intro rfl (And.intro rfl (And.intro rfl (And.intro rfl trivial)))))) ?_
      exact m0_t456 O v25 v26 v27 v34 v35 v36 H453 _ _ hf
    · rw [if_pos h386] at hf
      refine g_aload O (pc' := 391) at_389 (v := v34) rfl rfl ?_
      refine g_iload O (pc' := 393) at_391 (v := v21) rfl rfl ?_
      refine g_lload O (pc' := 395) at_393 (v := v30) rfl rfl ?_
      obtain ⟨H395, h395, hf⟩ := bnd hf
      refine g_lastore O (pc' := 396) at_395 h395 rfl ?_
      refine g_aload O (pc' := 398) at_396 (v := v34) rfl rfl ?_
      refine g_iload O (pc' := 400) at_398 (v := v21) rfl rfl ?_
      refine g_iconst O (pc' := 401) at_400 (v := 1) (by decide) rfl ?_
      refine g_iadd O (pc' := 402) at_401 rfl ?_
      refine g_lload O (pc' := 404) at_402 (v := v32) rfl rfl ?_
      obtain ⟨H404, h404, hf⟩ := bnd hf
      refine g_lastore O (pc' := 405) at_404 h404 rfl ?_
      refine g_aload O (pc' := 407) at_405 (v := v25) rfl rfl ?_
      refine g_iload O (pc' := 409) at_407 (v := v21) rfl rfl ?_
      refine g_aload O (pc' := 411) at_409 (v := v26) rfl rfl ?_
      refine g_iload O (pc' := 413) at_411 (v := v22) rfl rfl ?_
      refine g_aload O (pc' := 415) at_413 (v := v25) rfl rfl ?_
      refine g_iload O (pc' := 417) at_415 (v := v21) rfl rfl ?_
      refine g_iconst O (pc' := 418) at_417 (v := 2) (by decide) rfl ?_
      obtain ⟨H418, h418, hf⟩ := bnd hf
      refine g_static0 O (pc' := 421) at_418 tw15 tw16 tw17 tw18 (by decide) pd1 (as := [(.ref v25), (.int v21), (.ref v26), (.int v22), (.ref v25), (.int v21), (.int (2 : Int32))]) rfl (st := []) rfl rfl (W := 0) rfl (rm := rm1) (by decide) (by decide) (c2 := 6) (s2 := 24) rfl rfl (by decide) (by decide) (con1 (Ok.w O) v25 v21 v26 v22 v25 v21 (2 : Int32) H404 h418) rfl ?_
      refine g_goto O at_421 (by decide) (pc' := 456) (by decide) ?_
      refine g_forget (Ls' := [none, none, none, none, none, none, none, none, none, none, none, none, none, none, none, none, none, none, none, none, none, none, none, none, none, some (.ref v25), some (.ref v26), some (.ref v27), none, none, none, none, none, none, some (.ref v34), some (.ref v35), some (.ref v36)]) (And.intro rfl (And.intro rfl (And.intro rfl (And.intro rfl (And.intro rfl (And.intro rfl trivial)))))) ?_
      exact m0_t456 O v25 v26 v27 v34 v35 v36 H418 _ _ hf
  · rw [if_pos h345] at hf
    refine g_aload O (pc' := 350) at_348 (v := v36) rfl rfl ?_
    refine g_iload O (pc' := 352) at_350 (v := v23) rfl rfl ?_
    refine g_lload O (pc' := 354) at_352 (v := v30) rfl rfl ?_
    obtain ⟨H354, h354, hf⟩ := bnd hf
    refine g_lastore O (pc' := 355) at_354 h354 rfl ?_
    refine g_aload O (pc' := 357) at_355 (v := v36) rfl rfl ?_
    refine g_iload O (pc' := 359) at_357 (v := v23) rfl rfl ?_
    refine g_iconst O (pc' := 360) at_359 (v := 1) (by decide) rfl ?_
    refine g_iadd O (pc' := 361) at_360 rfl ?_
    refine g_lload O (pc' := 363) at_361 (v := v32) rfl rfl ?_
    obtain ⟨H363, h363, hf⟩ := bnd hf
    refine g_lastore O (pc' := 364) at_363 h363 rfl ?_
    refine g_aload O (pc' := 366) at_364 (v := v25) rfl rfl ?_
    refine g_iload O (pc' := 368) at_366 (v := v21) rfl rfl ?_
    refine g_aload O (pc' := 370) at_368 (v := v26) rfl rfl ?_
    refine g_iload O (pc' := 372) at_370 (v := v22) rfl rfl ?_
    refine g_aload O (pc' := 374) at_372 (v := v27) rfl rfl ?_
    refine g_iload O (pc' := 376) at_374 (v := v23) rfl rfl ?_
    refine g_iconst O (pc' := 377) at_376 (v := 2) (by decide) rfl ?_
    obtain ⟨H377, h377, hf⟩ := bnd hf
    refine g_static0 O (pc' := 380) at_377 tw15 tw16 tw17 tw18 (by decide) pd1 (as := [(.ref v25), (.int v21), (.ref v26), (.int v22), (.ref v27), (.int v23), (.int (2 : Int32))]) rfl (st := []) rfl rfl (W := 0) rfl (rm := rm1) (by decide) (by decide) (c2 := 6) (s2 := 24) rfl rfl (by decide) (by decide) (con1 (Ok.w O) v25 v21 v26 v22 v27 v23 (2 : Int32) H363 h377) rfl ?_
    refine g_goto O at_380 (by decide) (pc' := 456) (by decide) ?_
    refine g_forget (Ls' := [none, none, none, none, none, none, none, none, none, none, none, none, none, none, none, none, none, none, none, none, none, none, none, none, none, some (.ref v25), some (.ref v26), some (.ref v27), none, none, none, none, none, none, some (.ref v34), some (.ref v35), some (.ref v36)]) (And.intro rfl (And.intro rfl (And.intro rfl (And.intro rfl (And.intro rfl (And.intro rfl trivial)))))) ?_
    exact m0_t456 O v25 v26 v27 v34 v35 v36 H377 _ _ hf
def m0_b314 (v21 : Int32) (v22 : Int32) (v23 : Int32) (v24 : Int32) (v25 : Nat) (v26 : Nat) (v27 : Nat) (v30 : Int64) (v32 : Int64) (v34 : Nat) (v35 : Nat) (H : List Obj) : Option (Int32 × List Obj) :=
  (mkArr .long 4 H (4 : Int32)).bind fun H315 =>
  (wr .long H315 (H.length) (0 : Int32) (.long (31 : Int64))).bind fun H322 =>
  (wr .long H322 (H.length) (1 : Int32) (.long (32 : Int64))).bind fun H328 =>
  (wr .long H328 (H.length) (2 : Int32) (.long (33 : Int64))).bind fun H334 =>
  (wr .long H334 (H.length) (3 : Int32) (.long (34 : Int64))).bind fun H340 =>
  m0_b343 v21 v22 v23 v24 v25 v26 v27 v30 v32 v34 v35 (H.length) H340
theorem m0_t314 {G : Gx} {K : Kx} (O : Ok0 G K) (v21 : Int32) (v22 : Int32) (v23 : Int32) (v24 : Int32) (v25 : Nat) (v26 : Nat) (v27 : Nat) (v30 : Int64) (v32 : Int64) (v34 : Nat) (v35 : Nat) (H : List Obj) (r : Int32) (Hf : List Obj) (hf : m0_b314 v21 v22 v23 v24 v25 v26 v27 v30 v32 v34 v35 H = some (r, Hf)) : Run G K (some (.int r)) Hf 314 [none, none, none, none, none, none, none, none, none, none, none, none, none, none, none, none, none, none, none, none, none, some (.int v21), some (.int v22), some (.int v23), some (.int v24), some (.ref v25), some (.ref v26), some (.ref v27), none, none, some (.long v30), none, some (.long v32), none, some (.ref v34), some (.ref v35), none] [] H 5 20 := by
  unfold m0_b314 at hf
  refine g_iconst O (pc' := 315) at_314 (v := 4) (by decide) rfl ?_
  obtain ⟨H315, h315, hf⟩ := bnd hf
  refine g_newarray O (pc' := 317) at_315 (cap := 4) tw2 h315 (by decide) (c2 := 6) (s2 := 24) rfl rfl (by decide) (by decide) rfl ?_
  refine g_dup O (pc' := 318) at_317 rfl rfl ?_
  refine g_iconst O (pc' := 319) at_318 (v := 0) (by decide) rfl ?_
  refine g_ldc2 O (pc' := 322) at_319 tw11 rfl ?_
  obtain ⟨H322, h322, hf⟩ := bnd hf
  refine g_lastore O (pc' := 323) at_322 h322 rfl ?_
  refine g_dup O (pc' := 324) at_323 rfl rfl ?_
  refine g_iconst O (pc' := 325) at_324 (v := 1) (by decide) rfl ?_
  refine g_ldc2 O (pc' := 328) at_325 tw12 rfl ?_
  obtain ⟨H328, h328, hf⟩ := bnd hf
  refine g_lastore O (pc' := 329) at_328 h328 rfl ?_
  refine g_dup O (pc' := 330) at_329 rfl rfl ?_
  refine g_iconst O (pc' := 331) at_330 (v := 2) (by decide) rfl ?_
  refine g_ldc2 O (pc' := 334) at_331 tw13 rfl ?_
  obtain ⟨H334, h334, hf⟩ := bnd hf
  refine g_lastore O (pc' := 335) at_334 h334 rfl ?_
  refine g_dup O (pc' := 336) at_335 rfl rfl ?_
  refine g_iconst O (pc' := 337) at_336 (v := 3) (by decide) rfl ?_
  refine g_ldc2 O (pc' := 340) at_337 tw14 rfl ?_
  obtain ⟨H340, h340, hf⟩ := bnd hf
  refine g_lastore O (pc' := 341) at_340 h340 rfl ?_
  refine g_astore O (pc' := 343) at_341 (Ls' := [none, none, none, none, none, none, none, none, none, none, none, none, none, none, none, none, none, none, none, none, none, some (.int v21), some (.int v22), some (.int v23), some (.int v24), some (.ref v25), some (.ref v26), some (.ref v27), none, none, some (.long v30), none, some (.long v32), none, some (.ref v34), some (.ref v35), some (.ref (H.length))]) rfl rfl ?_
  exact m0_t343 O v21 v22 v23 v24 v25 v26 v27 v30 v32 v34 v35 (H.length) H340 _ _ hf
def m0_b281 (v21 : Int32) (v22 : Int32) (v23 : Int32) (v24 : Int32) (v25 : Nat) (v26 : Nat) (v27 : Nat) (v30 : Int64) (v32 : Int64) (v34 : Nat) (H : List Obj) : Option (Int32 × List Obj) :=
  (mkArr .long 4 H (4 : Int32)).bind fun H282 =>
  (rdJ H282 v26 (0 : Int32)).bind fun x289 =>
  (wr .long H282 (H.length) (0 : Int32) (.long x289)).bind fun H290 =>
  (rdJ H290 v26 (1 : Int32)).bind fun x296 =>
  (wr .long H290 (H.length) (1 : Int32) (.long x296)).bind fun H297 =>
  (rdJ H297 v26 (2 : Int32)).bind fun x303 =>
  (wr .long H297 (H.length) (2 : Int32) (.long x303)).bind fun H304 =>
  (rdJ H304 v26 (3 : Int32)).bind fun x310 =>
  (wr .long H304 (H.length) (3 : Int32) (.long x310)).bind fun H311 =>
  m0_b314 v21 v22 v23 v24 v25 v26 v27 v30 v32 v34 (H.length) H311
theorem m0_t281 {G : Gx} {K : Kx} (O : Ok0 G K) (v21 : Int32) (v22 : Int32) (v23 : Int32) (v24 : Int32) (v25 : Nat) (v26 : Nat) (v27 : Nat) (v30 : Int64) (v32 : Int64) (v34 : Nat) (H : List Obj) (r : Int32) (Hf : List Obj) (hf : m0_b281 v21 v22 v23 v24 v25 v26 v27 v30 v32 v34 H = some (r, Hf)) : Run G K (some (.int r)) Hf 281 [none, none, none, none, none, none, none, none, none, none, none, none, none, none, none, none, none, none, none, none, none, some (.int v21), some (.int v22), some (.int v23), some (.int v24), some (.ref v25), some (.ref v26), some (.ref v27), none, none, some (.long v30), none, some (.long v32), none, some (.ref v34), none, none] [] H 4 16 := by
  unfold m0_b281 at hf
  refine g_iconst O (pc' := 282) at_281 (v := 4) (by decide) rfl ?_
  obtain ⟨H282, h282, hf⟩ := bnd hf
  refine g_newarray O (pc' := 284) at_282 (cap := 4) tw2 h282 (by decide) (c2 := 5) (s2 := 20) rfl rfl (by decide) (by decide) rfl ?_
  refine g_dup O (pc' := 285) at_284 rfl rfl ?_
  refine g_iconst O (pc' := 286) at_285 (v := 0) (by decide) rfl ?_
  refine g_aload O (pc' := 288) at_286 (v := v26) rfl rfl ?_
  refine g_iconst O (pc' := 289) at_288 (v := 0) (by decide) rfl ?_
  obtain ⟨x289, h289, hf⟩ := bnd hf
  refine g_laload O (pc' := 290) at_289 h289 rfl ?_
  obtain ⟨H290, h290, hf⟩ := bnd hf
  refine g_lastore O (pc' := 291) at_290 h290 rfl ?_
  refine g_dup O (pc' := 292) at_291 rfl rfl ?_
  refine g_iconst O (pc' := 293) at_292 (v := 1) (by decide) rfl ?_
  refine g_aload O (pc' := 295) at_293 (v := v26) rfl rfl ?_
  refine g_iconst O (pc' := 296) at_295 (v := 1) (by decide) rfl ?_
  obtain ⟨x296, h296, hf⟩ := bnd hf
  refine g_laload O (pc' := 297) at_296 h296 rfl ?_
  obtain ⟨H297, h297, hf⟩ := bnd hf
  refine g_lastore O (pc' := 298) at_297 h297 rfl ?_
  refine g_dup O (pc' := 299) at_298 rfl rfl ?_
  refine g_iconst O (pc' := 300) at_299 (v := 2) (by decide) rfl ?_
  refine g_aload O (pc' := 302) at_300 (v := v26) rfl rfl ?_
  refine g_iconst O (pc' := 303) at_302 (v := 2) (by decide) rfl ?_
  obtain ⟨x303, h303, hf⟩ := bnd hf
  refine g_laload O (pc' := 304) at_303 h303 rfl ?_
  obtain ⟨H304, h304, hf⟩ := bnd hf
  refine g_lastore O (pc' := 305) at_304 h304 rfl ?_
  refine g_dup O (pc' := 306) at_305 rfl rfl ?_
  refine g_iconst O (pc' := 307) at_306 (v := 3) (by decide) rfl ?_
  refine g_aload O (pc' := 309) at_307 (v := v26) rfl rfl ?_
  refine g_iconst O (pc' := 310) at_309 (v := 3) (by decide) rfl ?_
  obtain ⟨x310, h310, hf⟩ := bnd hf
  refine g_laload O (pc' := 311) at_310 h310 rfl ?_
  obtain ⟨H311, h311, hf⟩ := bnd hf
  refine g_lastore O (pc' := 312) at_311 h311 rfl ?_
  refine g_astore O (pc' := 314) at_312 (Ls' := [none, none, none, none, none, none, none, none, none, none, none, none, none, none, none, none, none, none, none, none, none, some (.int v21), some (.int v22), some (.int v23), some (.int v24), some (.ref v25), some (.ref v26), some (.ref v27), none, none, some (.long v30), none, some (.long v32), none, some (.ref v34), some (.ref (H.length)), none]) rfl rfl ?_
  exact m0_t314 O v21 v22 v23 v24 v25 v26 v27 v30 v32 v34 (H.length) H311 _ _ hf
def m0_b236 (v14 : Int64) (v18 : Int64) (v21 : Int32) (v22 : Int32) (v23 : Int32) (v24 : Int32) (v25 : Nat) (v26 : Nat) (v27 : Nat) (v28 : Int64) (t0 : Int64) (H : List Obj) : Option (Int32 × List Obj) :=
  (mkArr .long 4 H (4 : Int32)).bind fun H249 =>
  (rdJ H249 v25 (0 : Int32)).bind fun x256 =>
  (wr .long H249 (H.length) (0 : Int32) (.long x256)).bind fun H257 =>
  (rdJ H257 v25 (1 : Int32)).bind fun x263 =>
  (wr .long H257 (H.length) (1 : Int32) (.long x263)).bind fun H264 =>
  (rdJ H264 v25 (2 : Int32)).bind fun x270 =>
  (wr .long H264 (H.length) (2 : Int32) (.long x270)).bind fun H271 =>
  (rdJ H271 v25 (3 : Int32)).bind fun x277 =>
  (wr .long H271 (H.length) (3 : Int32) (.long x277)).bind fun H278 =>
  m0_b281 v21 v22 v23 v24 v25 v26 v27 t0 ((v14 + v18) + v28) (H.length) H278
theorem m0_t236 {G : Gx} {K : Kx} (O : Ok0 G K) (v14 : Int64) (v18 : Int64) (v21 : Int32) (v22 : Int32) (v23 : Int32) (v24 : Int32) (v25 : Nat) (v26 : Nat) (v27 : Nat) (v28 : Int64) (t0 : Int64) (H : List Obj) (r : Int32) (Hf : List Obj) (hf : m0_b236 v14 v18 v21 v22 v23 v24 v25 v26 v27 v28 t0 H = some (r, Hf)) : Run G K (some (.int r)) Hf 236 [none, none, none, none, none, none, none, none, none, none, none, none, none, none, some (.long v14), none, none, none, some (.long v18), none, none, some (.int v21), some (.int v22), some (.int v23), some (.int v24), some (.ref v25), some (.ref v26), some (.ref v27), some (.long v28), none, none, none, none, none, none, none, none] [(.long t0)] H 3 12 := by
  unfold m0_b236 at hf
  refine g_lstore O (pc' := 238) at_236 (Ls' := [none, none, none, none, none, none, none, none, none, none, none, none, none, none, some (.long v14), none, none, none, some (.long v18), none, none, some (.int v21), some (.int v22), some (.int v23), some (.int v24), some (.ref v25), some (.ref v26), some (.ref v27), some (.long v28), none, some (.long t0), none, none, none, none, none, none]) rfl rfl ?_
  refine g_lload O (pc' := 240) at_238 (v := v14) rfl rfl ?_
  refine g_lload O (pc' := 242) at_240 (v := v18) rfl rfl ?_
  refine g_ladd O (pc' := 243) at_242 rfl ?_
  refine g_lload O (pc' := 245) at_243 (v := v28) rfl rfl ?_
  refine g_ladd O (pc' := 246) at_245 rfl ?_
  refine g_lstore O (pc' := 248) at_246 (Ls' := [none, none, none, none, none, none, none, none, none, none, none, none, none, none, some (.long v14), none, none, none, some (.long v18), none, none, some (.int v21), some (.int v22), some (.int v23), some (.int v24), some (.ref v25), some (.ref v26), some (.ref v27), some (.long v28), none, some (.long t0), none, some (.long ((v14 + v18) + v28)), none, none, none, none]) rfl rfl ?_
  refine g_iconst O (pc' := 249) at_248 (v := 4) (by decide) rfl ?_
  obtain ⟨H249, h249, hf⟩ := bnd hf
  refine g_newarray O (pc' := 251) at_249 (cap := 4) tw2 h249 (by decide) (c2 := 4) (s2 := 16) rfl rfl (by decide) (by decide) rfl ?_
  refine g_dup O (pc' := 252) at_251 rfl rfl ?_
  refine g_iconst O (pc' := 253) at_252 (v := 0) (by decide) rfl ?_
  refine g_aload O (pc' := 255) at_253 (v := v25) rfl rfl ?_
  refine g_iconst O (pc' := 256) at_255 (v := 0) (by decide) rfl ?_
  obtain ⟨x256, h256, hf⟩ := bnd hf
  refine g_laload O (pc' := 257) at_256 h256 rfl ?_
  obtain ⟨H257, h257, hf⟩ := bnd hf
  refine g_lastore O (pc' := 258) at_257 h257 rfl ?_
  refine g_dup O (pc' := 259) at_258 rfl rfl ?_
  refine g_iconst O (pc' := 260) at_259 (v := 1) (by decide) rfl ?_
  refine g_aload O (pc' := 262) at_260 (v := v25) rfl rfl ?_
  refine g_iconst O (pc' := 263) at_262 (v := 1) (by decide) rfl ?_
  obtain ⟨x263, h263, hf⟩ := bnd hf
  refine g_laload O (pc' := 264) at_263 h263 rfl ?_
  obtain ⟨H264, h264, hf⟩ := bnd hf
  refine g_lastore O (pc' := 265) at_264 h264 rfl ?_
  refine g_dup O (pc' := 266) at_265 rfl rfl ?_
  refine g_iconst O (pc' := 267) at_266 (v := 2) (by decide) rfl ?_
  refine g_aload O (pc' := 269) at_267 (v := v25) rfl rfl ?_
  refine g_iconst O (pc' := 270) at_269 (v := 2) (by decide) rfl ?_
  obtain ⟨x270, h270, hf⟩ := bnd hf
  refine g_laload O (pc' := 271) at_270 h270 rfl ?_
  obtain ⟨H271, h271, hf⟩ := bnd hf
  refine g_lastore O (pc' := 272) at_271 h271 rfl ?_
  refine g_dup O (pc' := 273) at_272 rfl rfl ?_
  refine g_iconst O (pc' := 274) at_273 (v := 3) (by decide) rfl ?_
  refine g_aload O (pc' := 276) at_274 (v := v25) rfl rfl ?_
  refine g_iconst O (pc' := 277) at_276 (v := 3) (by decide) rfl ?_
  obtain ⟨x277, h277, hf⟩ := bnd hf
  refine g_laload O (pc' := 278) at_277 h277 rfl ?_
  obtain ⟨H278, h278, hf⟩ := bnd hf
  refine g_lastore O (pc' := 279) at_278 h278 rfl ?_
  refine g_astore O (pc' := 281) at_279 (Ls' := [none, none, none, none, none, none, none, none, none, none, none, none, none, none, some (.long v14), none, none, none, some (.long v18), none, none, some (.int v21), some (.int v22), some (.int v23), some (.int v24), some (.ref v25), some (.ref v26), some (.ref v27), some (.long v28), none, some (.long t0), none, some (.long ((v14 + v18) + v28)), none, some (.ref (H.length)), none, none]) rfl rfl ?_
  refine g_forget (Ls' := [none, none, none, none, none, none, none, none, none, none, none, none, none, none, none, none, none, none, none, none, none, some (.int v21), some (.int v22), some (.int v23), some (.int v24), some (.ref v25), some (.ref v26), some (.ref v27), none, none, some (.long t0), none, some (.long ((v14 + v18) + v28)), none, some (.ref (H.length)), none, none]) (And.intro rfl (And.intro rfl (And.intro rfl (And.intro rfl (And.intro rfl (And.intro rfl (And.intro rfl (And.intro rfl (And.intro rfl (And.intro rfl trivial)))))))))) ?_
  exact m0_t281 O v21 v22 v23 v24 v25 v26 v27 t0 ((v14 + v18) + v28) (H.length) H278 _ _ hf
def m0_b209 (v10 : Int64) (v12 : Int64) (v14 : Int64) (v16 : Int64) (v18 : Int64) (v21 : Int32) (v22 : Int32) (v23 : Int32) (v24 : Int32) (v25 : Nat) (v26 : Nat) (v27 : Nat) (t0 : Int64) (H : List Obj) : Option (Int32 × List Obj) :=
  if t0 = (1 : Int64) then
    m0_b236 v14 v18 v21 v22 v23 v24 v25 v26 v27 t0 ((v12 - (v10 - v16)) - (1 : Int64)) H
  else
    m0_b236 v14 v18 v21 v22 v23 v24 v25 v26 v27 t0 (v12 + v16) H
theorem m0_t209 {G : Gx} {K : Kx} (O : Ok0 G K) (v10 : Int64) (v12 : Int64) (v14 : Int64) (v16 : Int64) (v18 : Int64) (v21 : Int32) (v22 : Int32) (v23 : Int32) (v24 : Int32) (v25 : Nat) (v26 : Nat) (v27 : Nat) (t0 : Int64) (H : List Obj) (r : Int32) (Hf : List Obj) (hf : m0_b209 v10 v12 v14 v16 v18 v21 v22 v23 v24 v25 v26 v27 t0 H = some (r, Hf)) : Run G K (some (.int r)) Hf 209 [none, none, none, none, none, none, none, none, none, none, some (.long v10), none, some (.long v12), none, some (.long v14), none, some (.long v16), none, some (.long v18), none, none, some (.int v21), some (.int v22), some (.int v23), some (.int v24), some (.ref v25), some (.ref v26), some (.ref v27), none, none, none, none, none, none, none, none, none] [(.long t0)] H 3 12 := by
  unfold m0_b209 at hf
  refine g_lstore O (pc' := 211) at_209 (Ls' := [none, none, none, none, none, none, none, none, none, none, some (.long v10), none, some (.long v12), none, some (.long v14), none, some (.long v16), none, some (.long v18), none, none, some (.int v21), some (.int v22), some (.int v23), some (.int v24), some (.ref v25), some (.ref v26), some (.ref v27), some (.long t0), none, none, none, none, none, none, none, none]) rfl rfl ?_
  refine g_lload O (pc' := 213) at_211 (v := t0) rfl rfl ?_
  refine g_lconst O (pc' := 214) at_213 (v := 1) (by decide) rfl ?_
  refine g_lcmp_ne O (pc' := 218) at_214 rfl at_215 rfl (by decide) (pc1 := 231) (by decide) (fun h215 => ?_) (fun h215 => ?_)
  · rw [if_neg h215] at hf
    refine g_lload O (pc' := 233) at_231 (v := v12) rfl rfl ?_
    refine g_lload O (pc' := 235) at_233 (v := v16) rfl rfl ?_
    refine g_ladd O (pc' := 236) at_235 rfl ?_
    refine g_forget (Ls' := [none, none, none, none, none, none, none, none, none, none, none, none, none, none, some (.long v14), none, none, none, some (.long v18), none, none, some (.int v21), some (.int v22), some (.int v23), some (.int v24), some (.ref v25), some (.ref v26), some (.ref v27), some (.long t0), none, none, none, none, none, none, none, none]) (And.intro rfl (And.intro rfl (And.intro rfl (And.intro rfl (And.intro rfl (And.intro rfl (And.intro rfl (And.intro rfl (And.intro rfl (And.intro rfl trivial)))))))))) ?_
    exact m0_t236 O v14 v18 v21 v22 v23 v24 v25 v26 v27 t0 (v12 + v16) H _ _ hf
  · rw [if_pos h215] at hf
    refine g_lload O (pc' := 220) at_218 (v := v12) rfl rfl ?_
    refine g_lload O (pc' := 222) at_220 (v := v10) rfl rfl ?_
    refine g_lload O (pc' := 224) at_222 (v := v16) rfl rfl ?_
    refine g_lsub O (pc' := 225) at_224 rfl ?_
    refine g_lsub O (pc' := 226) at_225 rfl ?_
    refine g_lconst O (pc' := 227) at_226 (v := 1) (by decide) rfl ?_
    refine g_lsub O (pc' := 228) at_227 rfl ?_
    refine g_goto O at_228 (by decide) (pc' := 236) (by decide) ?_
    refine g_forget (Ls' := [none, none, none, none, none, none, none, none, none, none, none, none, none, none, some (.long v14), none, none, none, some (.long v18), none, none, some (.int v21), some (.int v22), some (.int v23), some (.int v24), some (.ref v25), some (.ref v26), some (.ref v27), some (.long t0), none, none, none, none, none, none, none, none]) (And.intro rfl (And.intro rfl (And.intro rfl (And.intro rfl (And.intro rfl (And.intro rfl (And.intro rfl (And.intro rfl (And.intro rfl (And.intro rfl trivial)))))))))) ?_
    exact m0_t236 O v14 v18 v21 v22 v23 v24 v25 v26 v27 t0 ((v12 - (v10 - v16)) - (1 : Int64)) H _ _ hf
def m0_b193 (v10 : Int64) (v12 : Int64) (v14 : Int64) (v16 : Int64) (v18 : Int64) (v21 : Int32) (v22 : Int32) (v23 : Int32) (v24 : Int32) (v25 : Nat) (v26 : Nat) (v27 : Nat) (H : List Obj) : Option (Int32 × List Obj) :=
  if (v10 - v16) < v12 then
    m0_b209 v10 v12 v14 v16 v18 v21 v22 v23 v24 v25 v26 v27 (1 : Int64) H
  else
    m0_b209 v10 v12 v14 v16 v18 v21 v22 v23 v24 v25 v26 v27 (0 : Int64) H
theorem m0_t193 {G : Gx} {K : Kx} (O : Ok0 G K) (v10 : Int64) (v12 : Int64) (v14 : Int64) (v16 : Int64) (v18 : Int64) (v21 : Int32) (v22 : Int32) (v23 : Int32) (v24 : Int32) (v25 : Nat) (v26 : Nat) (v27 : Nat) (H : List Obj) (r : Int32) (Hf : List Obj) (hf : m0_b193 v10 v12 v14 v16 v18 v21 v22 v23 v24 v25 v26 v27 H = some (r, Hf)) : Run G K (some (.int r)) Hf 193 [none, none, none, none, none, none, none, none, none, none, some (.long v10), none, some (.long v12), none, some (.long v14), none, some (.long v16), none, some (.long v18), none, none, some (.int v21), some (.int v22), some (.int v23), some (.int v24), some (.ref v25), some (.ref v26), some (.ref v27), none, none, none, none, none, none, none, none, none] [] H 3 12 := by
  unfold m0_b193 at hf
  refine g_lload O (pc' := 195) at_193 (v := v12) rfl rfl ?_
  refine g_lload O (pc' := 197) at_195 (v := v10) rfl rfl ?_
  refine g_lload O (pc' := 199) at_197 (v := v16) rfl rfl ?_
  refine g_lsub O (pc' := 200) at_199 rfl ?_
  refine g_lcmp_le O (pc' := 204) at_200 rfl at_201 rfl (by decide) (pc1 := 208) (by decide) (fun h201 => ?_) (fun h201 => ?_)
  · rw [if_neg h201] at hf
    refine g_lconst O (pc' := 209) at_208 (v := 0) (by decide) rfl ?_
    exact m0_t209 O v10 v12 v14 v16 v18 v21 v22 v23 v24 v25 v26 v27 (0 : Int64) H _ _ hf
  · rw [if_pos h201] at hf
    refine g_lconst O (pc' := 205) at_204 (v := 1) (by decide) rfl ?_
    refine g_goto O at_205 (by decide) (pc' := 209) (by decide) ?_
    exact m0_t209 O v10 v12 v14 v16 v18 v21 v22 v23 v24 v25 v26 v27 (1 : Int64) H _ _ hf
def m0_b161 (v10 : Int64) (v12 : Int64) (v14 : Int64) (v16 : Int64) (v18 : Int64) (v21 : Int32) (v22 : Int32) (v23 : Int32) (v24 : Int32) (v25 : Nat) (v26 : Nat) (v27 : Nat) (H : List Obj) : Option (Int32 × List Obj) :=
  (wr .long H v25 v21 (.long v12)).bind fun H167 =>
  (wr .long H167 v25 (v21 + (1 : Int32)) (.long v14)).bind fun H176 =>
  (wr .long H176 v26 v22 (.long v16)).bind fun H183 =>
  (wr .long H183 v26 (v22 + (1 : Int32)) (.long v18)).bind fun H192 =>
  m0_b193 v10 v12 v14 v16 v18 v21 v22 v23 v24 v25 v26 v27 H192
theorem m0_t161 {G : Gx} {K : Kx} (O : Ok0 G K) (v10 : Int64) (v12 : Int64) (v14 : Int64) (v16 : Int64) (v18 : Int64) (v21 : Int32) (v22 : Int32) (v23 : Int32) (v24 : Int32) (v25 : Nat) (v26 : Nat) (v27 : Nat) (H : List Obj) (r : Int32) (Hf : List Obj) (hf : m0_b161 v10 v12 v14 v16 v18 v21 v22 v23 v24 v25 v26 v27 H = some (r, Hf)) : Run G K (some (.int r)) Hf 161 [none, none, none, none, none, none, none, none, none, none, some (.long v10), none, some (.long v12), none, some (.long v14), none, some (.long v16), none, some (.long v18), none, none, some (.int v21), some (.int v22), some (.int v23), some (.int v24), some (.ref v25), some (.ref v26), some (.ref v27), none, none, none, none, none, none, none, none, none] [] H 3 12 := by
  unfold m0_b161 at hf
  refine g_aload O (pc' := 163) at_161 (v := v25) rfl rfl ?_
  refine g_iload O (pc' := 165) at_163 (v := v21) rfl rfl ?_
  refine g_lload O (pc' := 167) at_165 (v := v12) rfl rfl ?_
  obtain ⟨H167, h167, hf⟩ := bnd hf
  refine g_lastore O (pc' := 168) at_167 h167 rfl ?_
  refine g_aload O (pc' := 170) at_168 (v := v25) rfl rfl ?_
  refine g_iload O (pc' := 172) at_170 (v := v21) rfl rfl ?_
  refine g_iconst O (pc' := 173) at_172 (v := 1) (by decide) rfl ?_
  refine g_iadd O (pc' := 174) at_173 rfl ?_
  refine g_lload O (pc' := 176) at_174 (v := v14) rfl rfl ?_
  obtain ⟨H176, h176, hf⟩ := bnd hf
  refine g_lastore O (pc' := 177) at_176 h176 rfl ?_
  refine g_aload O (pc' := 179) at_177 (v := v26) rfl rfl ?_
  refine g_iload O (pc' := 181) at_179 (v := v22) rfl rfl ?_
  refine g_lload O (pc' := 183) at_181 (v := v16) rfl rfl ?_
  obtain ⟨H183, h183, hf⟩ := bnd hf
  refine g_lastore O (pc' := 184) at_183 h183 rfl ?_
  refine g_aload O (pc' := 186) at_184 (v := v26) rfl rfl ?_
  refine g_iload O (pc' := 188) at_186 (v := v22) rfl rfl ?_
  refine g_iconst O (pc' := 189) at_188 (v := 1) (by decide) rfl ?_
  refine g_iadd O (pc' := 190) at_189 rfl ?_
  refine g_lload O (pc' := 192) at_190 (v := v18) rfl rfl ?_
  obtain ⟨H192, h192, hf⟩ := bnd hf
  refine g_lastore O (pc' := 193) at_192 h192 rfl ?_
  exact m0_t193 O v10 v12 v14 v16 v18 v21 v22 v23 v24 v25 v26 v27 H192 _ _ hf
def m0_b74 (v10 : Int64) (v12 : Int64) (v14 : Int64) (v16 : Int64) (v18 : Int64) (v21 : Int32) (v22 : Int32) (v23 : Int32) (v24 : Int32) (H : List Obj) : Option (Int32 × List Obj) :=
  (mkArr .long 4 H (4 : Int32)).bind fun H75 =>
  (wr .long H75 (H.length) (0 : Int32) (.long (11 : Int64))).bind fun H82 =>
  (wr .long H82 (H.length) (1 : Int32) (.long (12 : Int64))).bind fun H88 =>
  (wr .long H88 (H.length) (2 : Int32) (.long (13 : Int64))).bind fun H94 =>
  (wr .long H94 (H.length) (3 : Int32) (.long (14 : Int64))).bind fun H100 =>
  (mkArr .long 4 H100 (4 : Int32)).bind fun H104 =>
  (wr .long H104 (H100.length) (0 : Int32) (.long (21 : Int64))).bind fun H111 =>
  (wr .long H111 (H100.length) (1 : Int32) (.long (22 : Int64))).bind fun H117 =>
  (wr .long H117 (H100.length) (2 : Int32) (.long (23 : Int64))).bind fun H123 =>
  (wr .long H123 (H100.length) (3 : Int32) (.long (24 : Int64))).bind fun H129 =>
  (mkArr .long 4 H129 (4 : Int32)).bind fun H133 =>
  (wr .long H133 (H129.length) (0 : Int32) (.long (31 : Int64))).bind fun H140 =>
  (wr .long H140 (H129.length) (1 : Int32) (.long (32 : Int64))).bind fun H146 =>
  (wr .long H146 (H129.length) (2 : Int32) (.long (33 : Int64))).bind fun H152 =>
  (wr .long H152 (H129.length) (3 : Int32) (.long (34 : Int64))).bind fun H158 =>
  m0_b161 v10 v12 v14 v16 v18 v21 v22 v23 v24 (H.length) (H100.length) (H129.length) H158
theorem m0_t74 {G : Gx} {K : Kx} (O : Ok0 G K) (v10 : Int64) (v12 : Int64) (v14 : Int64) (v16 : Int64) (v18 : Int64) (v21 : Int32) (v22 : Int32) (v23 : Int32) (v24 : Int32) (H : List Obj) (r : Int32) (Hf : List Obj) (hf : m0_b74 v10 v12 v14 v16 v18 v21 v22 v23 v24 H = some (r, Hf)) : Run G K (some (.int r)) Hf 74 [none, none, none, none, none, none, none, none, none, none, some (.long v10), none, some (.long v12), none, some (.long v14), none, some (.long v16), none, some (.long v18), none, none, some (.int v21), some (.int v22), some (.int v23), some (.int v24), none, none, none, none, none, none, none, none, none, none, none, none] [] H 0 0 := by
  unfold m0_b74 at hf
  refine g_iconst O (pc' := 75) at_74 (v := 4) (by decide) rfl ?_
  obtain ⟨H75, h75, hf⟩ := bnd hf
  refine g_newarray O (pc' := 77) at_75 (cap := 4) tw2 h75 (by decide) (c2 := 1) (s2 := 4) rfl rfl (by decide) (by decide) rfl ?_
  refine g_dup O (pc' := 78) at_77 rfl rfl ?_
  refine g_iconst O (pc' := 79) at_78 (v := 0) (by decide) rfl ?_
  refine g_ldc2 O (pc' := 82) at_79 tw3 rfl ?_
  obtain ⟨H82, h82, hf⟩ := bnd hf
  refine g_lastore O (pc' := 83) at_82 h82 rfl ?_
  refine g_dup O (pc' := 84) at_83 rfl rfl ?_
  refine g_iconst O (pc' := 85) at_84 (v := 1) (by decide) rfl ?_
  refine g_ldc2 O (pc' := 88) at_85 tw4 rfl ?_
  obtain ⟨H88, h88, hf⟩ := bnd hf
  refine g_lastore O (pc' := 89) at_88 h88 rfl ?_
  refine g_dup O (pc' := 90) at_89 rfl rfl ?_
  refine g_iconst O (pc' := 91) at_90 (v := 2) (by decide) rfl ?_
  refine g_ldc2 O (pc' := 94) at_91 tw5 rfl ?_
  obtain ⟨H94, h94, hf⟩ := bnd hf
  refine g_lastore O (pc' := 95) at_94 h94 rfl ?_
  refine g_dup O (pc' := 96) at_95 rfl rfl ?_
  refine g_iconst O (pc' := 97) at_96 (v := 3) (by decide) rfl ?_
  refine g_ldc2 O (pc' := 100) at_97 tw6 rfl ?_
  obtain ⟨H100, h100, hf⟩ := bnd hf
  refine g_lastore O (pc' := 101) at_100 h100 rfl ?_
  refine g_astore O (pc' := 103) at_101 (Ls' := [none, none, none, none, none, none, none, none, none, none, some (.long v10), none, some (.long v12), none, some (.long v14), none, some (.long v16), none, some (.long v18), none, none, some (.int v21), some (.int v22), some (.int v23), some (.int v24), some (.ref (H.length)), none, none, none, none, none, none, none, none, none, none, none]) rfl rfl ?_
  refine g_iconst O (pc' := 104) at_103 (v := 4) (by decide) rfl ?_
  obtain ⟨H104, h104, hf⟩ := bnd hf
  refine g_newarray O (pc' := 106) at_104 (cap := 4) tw2 h104 (by decide) (c2 := 2) (s2 := 8) rfl rfl (by decide) (by decide) rfl ?_
  refine g_dup O (pc' := 107) at_106 rfl rfl ?_
  refine g_iconst O (pc' := 108) at_107 (v := 0) (by decide) rfl ?_
  refine g_ldc2 O (pc' := 111) at_108 tw7 rfl ?_
  obtain ⟨H111, h111, hf⟩ := bnd hf
  refine g_lastore O (pc' := 112) at_111 h111 rfl ?_
  refine g_dup O (pc' := 113) at_112 rfl rfl ?_
  refine g_iconst O (pc' := 114) at_113 (v := 1) (by decide) rfl ?_
  refine g_ldc2 O (pc' := 117) at_114 tw8 rfl ?_
  obtain ⟨H117, h117, hf⟩ := bnd hf
  refine g_lastore O (pc' := 118) at_117 h117 rfl ?_
  refine g_dup O (pc' := 119) at_118 rfl rfl ?_
  refine g_iconst O (pc' := 120) at_119 (v := 2) (by decide) rfl ?_
  refine g_ldc2 O (pc' := 123) at_120 tw9 rfl ?_
  obtain ⟨H123, h123, hf⟩ := bnd hf
  refine g_lastore O (pc' := 124) at_123 h123 rfl ?_
  refine g_dup O (pc' := 125) at_124 rfl rfl ?_
  refine g_iconst O (pc' := 126) at_125 (v := 3) (by decide) rfl ?_
  refine g_ldc2 O (pc' := 129) at_126 tw10 rfl ?_
  obtain ⟨H129, h129, hf⟩ := bnd hf
  refine g_lastore O (pc' := 130) at_129 h129 rfl ?_
  refine g_astore O (pc' := 132) at_130 (Ls' := [none, none, none, none, none, none, none, none, none, none, some (.long v10), none, some (.long v12), none, some (.long v14), none, some (.long v16), none, some (.long v18), none, none, some (.int v21), some (.int v22), some (.int v23), some (.int v24), some (.ref (H.length)), some (.ref (H100.length)), none, none, none, none, none, none, none, none, none, none]) rfl rfl ?_
  refine g_iconst O (pc' := 133) at_132 (v := 4) (by decide) rfl ?_
  obtain ⟨H133, h133, hf⟩ := bnd hf
  refine g_newarray O (pc' := 135) at_133 (cap := 4) tw2 h133 (by decide) (c2 := 3) (s2 := 12) rfl rfl (by decide) (by decide) rfl ?_
  refine g_dup O (pc' := 136) at_135 rfl rfl ?_
  refine g_iconst O (pc' := 137) at_136 (v := 0) (by decide) rfl ?_
  refine g_ldc2 O (pc' := 140) at_137 tw11 rfl ?_
  obtain ⟨H140, h140, hf⟩ := bnd hf
  refine g_lastore O (pc' := 141) at_140 h140 rfl ?_
  refine g_dup O (pc' := 142) at_141 rfl rfl ?_
  refine g_iconst O (pc' := 143) at_142 (v := 1) (by decide) rfl ?_
  refine g_ldc2 O (pc' := 146) at_143 tw12 rfl ?_
  obtain ⟨H146, h146, hf⟩ := bnd hf
  refine g_lastore O (pc' := 147) at_146 h146 rfl ?_
  refine g_dup O (pc' := 148) at_147 rfl rfl ?_
  refine g_iconst O (pc' := 149) at_148 (v := 2) (by decide) rfl ?_
  refine g_ldc2 O (pc' := 152) at_149 tw13 rfl ?_
  obtain ⟨H152, h152, hf⟩ := bnd hf
  refine g_lastore O (pc' := 153) at_152 h152 rfl ?_
  refine g_dup O (pc' := 154) at_153 rfl rfl ?_
  refine g_iconst O (pc' := 155) at_154 (v := 3) (by decide) rfl ?_
  refine g_ldc2 O (pc' := 158) at_155 tw14 rfl ?_
  obtain ⟨H158, h158, hf⟩ := bnd hf
  refine g_lastore O (pc' := 159) at_158 h158 rfl ?_
  refine g_astore O (pc' := 161) at_159 (Ls' := [none, none, none, none, none, none, none, none, none, none, some (.long v10), none, some (.long v12), none, some (.long v14), none, some (.long v16), none, some (.long v18), none, none, some (.int v21), some (.int v22), some (.int v23), some (.int v24), some (.ref (H.length)), some (.ref (H100.length)), some (.ref (H129.length)), none, none, none, none, none, none, none, none, none]) rfl rfl ?_
  exact m0_t161 O v10 v12 v14 v16 v18 v21 v22 v23 v24 (H.length) (H100.length) (H129.length) H158 _ _ hf
def m0_b65 (v9 : Int32) (v10 : Int64) (v12 : Int64) (v14 : Int64) (v16 : Int64) (v18 : Int64) (v21 : Int32) (v22 : Int32) (v23 : Int32) (H : List Obj) : Option (Int32 × List Obj) :=
  m0_b74 v10 v12 v14 v16 v18 v21 v22 v23 ((v9 &&& (2147483647 : Int32)) % (3 : Int32)) H
theorem m0_t65 {G : Gx} {K : Kx} (O : Ok0 G K) (v9 : Int32) (v10 : Int64) (v12 : Int64) (v14 : Int64) (v16 : Int64) (v18 : Int64) (v21 : Int32) (v22 : Int32) (v23 : Int32) (H : List Obj) (r : Int32) (Hf : List Obj) (hf : m0_b65 v9 v10 v12 v14 v16 v18 v21 v22 v23 H = some (r, Hf)) : Run G K (some (.int r)) Hf 65 [none, none, none, none, none, none, none, none, none, some (.int v9), some (.long v10), none, some (.long v12), none, some (.long v14), none, some (.long v16), none, some (.long v18), none, none, some (.int v21), some (.int v22), some (.int v23), none, none, none, none, none, none, none, none, none, none, none, none, none] [] H 0 0 := by
  unfold m0_b65 at hf
  refine g_iload O (pc' := 67) at_65 (v := v9) rfl rfl ?_
  refine g_ldc O (pc' := 69) at_67 tw1 rfl ?_
  refine g_iand O (pc' := 70) at_69 rfl ?_
  refine g_iconst O (pc' := 71) at_70 (v := 3) (by decide) rfl ?_
  refine g_irem O (pc' := 72) at_71 (by decide) rfl ?_
  refine g_istore O (pc' := 74) at_72 (Ls' := [none, none, none, none, none, none, none, none, none, some (.int v9), some (.long v10), none, some (.long v12), none, some (.long v14), none, some (.long v16), none, some (.long v18), none, none, some (.int v21), some (.int v22), some (.int v23), some (.int ((v9 &&& (2147483647 : Int32)) % (3 : Int32))), none, none, none, none, none, none, none, none, none, none, none, none]) rfl rfl ?_
  refine g_forget (Ls' := [none, none, none, none, none, none, none, none, none, none, some (.long v10), none, some (.long v12), none, some (.long v14), none, some (.long v16), none, some (.long v18), none, none, some (.int v21), some (.int v22), some (.int v23), some (.int ((v9 &&& (2147483647 : Int32)) % (3 : Int32))), none, none, none, none, none, none, none, none, none, none, none, none]) (And.intro rfl (And.intro rfl (And.intro rfl (And.intro rfl (And.intro rfl (And.intro rfl (And.intro rfl (And.intro rfl (And.intro rfl trivial))))))))) ?_
  exact m0_t74 O v10 v12 v14 v16 v18 v21 v22 v23 ((v9 &&& (2147483647 : Int32)) % (3 : Int32)) H _ _ hf
def m0_b56 (v9 : Int32) (v10 : Int64) (v12 : Int64) (v14 : Int64) (v16 : Int64) (v18 : Int64) (v20 : Int32) (v21 : Int32) (v22 : Int32) (H : List Obj) : Option (Int32 × List Obj) :=
  m0_b65 v9 v10 v12 v14 v16 v18 v21 v22 ((v20 / (9 : Int32)) % (3 : Int32)) H
theorem m0_t56 {G : Gx} {K : Kx} (O : Ok0 G K) (v9 : Int32) (v10 : Int64) (v12 : Int64) (v14 : Int64) (v16 : Int64) (v18 : Int64) (v20 : Int32) (v21 : Int32) (v22 : Int32) (H : List Obj) (r : Int32) (Hf : List Obj) (hf : m0_b56 v9 v10 v12 v14 v16 v18 v20 v21 v22 H = some (r, Hf)) : Run G K (some (.int r)) Hf 56 [none, none, none, none, none, none, none, none, none, some (.int v9), some (.long v10), none, some (.long v12), none, some (.long v14), none, some (.long v16), none, some (.long v18), none, some (.int v20), some (.int v21), some (.int v22), none, none, none, none, none, none, none, none, none, none, none, none, none, none] [] H 0 0 := by
  unfold m0_b56 at hf
  refine g_iload O (pc' := 58) at_56 (v := v20) rfl rfl ?_
  refine g_bipush O (pc' := 60) at_58 (v := 9) (by decide) rfl ?_
  refine g_idiv O (pc' := 61) at_60 (by decide) rfl ?_
  refine g_iconst O (pc' := 62) at_61 (v := 3) (by decide) rfl ?_
  refine g_irem O (pc' := 63) at_62 (by decide) rfl ?_
  refine g_istore O (pc' := 65) at_63 (Ls' := [none, none, none, none, none, none, none, none, none, some (.int v9), some (.long v10), none, some (.long v12), none, some (.long v14), none, some (.long v16), none, some (.long v18), none, some (.int v20), some (.int v21), some (.int v22), some (.int ((v20 / (9 : Int32)) % (3 : Int32))), none, none, none, none, none, none, none, none, none, none, none, none, none]) rfl rfl ?_
  refine g_forget (Ls' := [none, none, none, none, none, none, none, none, none, some (.int v9), some (.long v10), none, some (.long v12), none, some (.long v14), none, some (.long v16), none, some (.long v18), none, none, some (.int v21), some (.int v22), some (.int ((v20 / (9 : Int32)) % (3 : Int32))), none, none, none, none, none, none, none, none, none, none, none, none, none]) (And.intro rfl (And.intro rfl (And.intro rfl (And.intro rfl (And.intro rfl (And.intro rfl (And.intro rfl (And.intro rfl (And.intro rfl trivial))))))))) ?_
  exact m0_t65 O v9 v10 v12 v14 v16 v18 v21 v22 ((v20 / (9 : Int32)) % (3 : Int32)) H _ _ hf
def m0_b35 (v8 : Int32) (v9 : Int32) (v10 : Int64) (v12 : Int64) (v14 : Int64) (v16 : Int64) (v18 : Int64) (H : List Obj) : Option (Int32 × List Obj) :=
  m0_b56 v9 v10 v12 v14 v16 v18 (v8 &&& (2147483647 : Int32)) ((v8 &&& (2147483647 : Int32)) % (3 : Int32)) (((v8 &&& (2147483647 : Int32)) / (3 : Int32)) % (3 : Int32)) H
theorem m0_t35 {G : Gx} {K : Kx} (O : Ok0 G K) (v8 : Int32) (v9 : Int32) (v10 : Int64) (v12 : Int64) (v14 : Int64) (v16 : Int64) (v18 : Int64) (H : List Obj) (r : Int32) (Hf : List Obj) (hf : m0_b35 v8 v9 v10 v12 v14 v16 v18 H = some (r, Hf)) : Run G K (some (.int r)) Hf 35 [none, none, none, none, none, none, none, none, some (.int v8), some (.int v9), some (.long v10), none, some (.long v12), none, some (.long v14), none, some (.long v16), none, some (.long v18), none, none, none, none, none, none, none, none, none, none, none, none, none, none, none, none, none, none] [] H 0 0 := by
  unfold m0_b35 at hf
  refine g_iload O (pc' := 37) at_35 (v := v8) rfl rfl ?_
  refine g_ldc O (pc' := 39) at_37 tw1 rfl ?_
  refine g_iand O (pc' := 40) at_39 rfl ?_
  refine g_istore O (pc' := 42) at_40 (Ls' := [none, none, none, none, none, none, none, none, some (.int v8), some (.int v9), some (.long v10), none, some (.long v12), none, some (.long v14), none, some (.long v16), none, some (.long v18), none, some (.int (v8 &&& (2147483647 : Int32))), none, none, none, none, none, none, none, none, none, none, none, none, none, none, none, none]) rfl rfl ?_
  refine g_iload O (pc' := 44) at_42 (v := (v8 &&& (2147483647 : Int32))) rfl rfl ?_
  refine g_iconst O (pc' := 45) at_44 (v := 3) (by decide) rfl ?_
  refine g_irem O (pc' := 46) at_45 (by decide) rfl ?_
  refine g_istore O (pc' := 48) at_46 (Ls' := [none, none, none, none, none, none, none, none, some (.int v8), some (.int v9), some (.long v10), none, some (.long v12), none, some (.long v14), none, some (.long v16), none, some (.long v18), none, some (.int (v8 &&& (2147483647 : Int32))), some (.int ((v8 &&& (2147483647 : Int32)) % (3 : Int32))), none, none, none, none, none, none, none, none, none, none, none, none, none, none, none]) rfl rfl ?_
  refine g_iload O (pc' := 50) at_48 (v := (v8 &&& (2147483647 : Int32))) rfl rfl ?_
  refine g_iconst O (pc' := 51) at_50 (v := 3) (by decide) rfl ?_
  refine g_idiv O (pc' := 52) at_51 (by decide) rfl ?_
  refine g_iconst O (pc' := 53) at_52 (v := 3) (by decide) rfl ?_
  refine g_irem O (pc' := 54) at_53 (by decide) rfl ?_
  refine g_istore O (pc' := 56) at_54 (Ls' := [none, none, none, none, none, none, none, none, some (.int v8), some (.int v9), some (.long v10), none, some (.long v12), none, some (.long v14), none, some (.long v16), none, some (.long v18), none, some (.int (v8 &&& (2147483647 : Int32))), some (.int ((v8 &&& (2147483647 : Int32)) % (3 : Int32))), some (.int (((v8 &&& (2147483647 : Int32)) / (3 : Int32)) % (3 : Int32))), none, none, none, none, none, none, none, none, none, none, none, none, none, none]) rfl rfl ?_
  refine g_forget (Ls' := [none, none, none, none, none, none, none, none, none, some (.int v9), some (.long v10), none, some (.long v12), none, some (.long v14), none, some (.long v16), none, some (.long v18), none, some (.int (v8 &&& (2147483647 : Int32))), some (.int ((v8 &&& (2147483647 : Int32)) % (3 : Int32))), some (.int (((v8 &&& (2147483647 : Int32)) / (3 : Int32)) % (3 : Int32))), none, none, none, none, none, none, none, none, none, none, none, none, none, none]) (And.intro rfl (And.intro rfl (And.intro rfl (And.intro rfl (And.intro rfl (And.intro rfl (And.intro rfl (And.intro rfl (And.intro rfl trivial))))))))) ?_
  exact m0_t56 O v9 v10 v12 v14 v16 v18 (v8 &&& (2147483647 : Int32)) ((v8 &&& (2147483647 : Int32)) % (3 : Int32)) (((v8 &&& (2147483647 : Int32)) / (3 : Int32)) % (3 : Int32)) H _ _ hf
def m0_b19 (v4 : Int64) (v6 : Int64) (v8 : Int32) (v9 : Int32) (v10 : Int64) (v12 : Int64) (v14 : Int64) (H : List Obj) : Option (Int32 × List Obj) :=
  m0_b35 v8 v9 v10 v12 v14 (v4 &&& v10) (v6 &&& (XT.ushrL v10 (1 : Int32))) H
theorem m0_t19 {G : Gx} {K : Kx} (O : Ok0 G K) (v4 : Int64) (v6 : Int64) (v8 : Int32) (v9 : Int32) (v10 : Int64) (v12 : Int64) (v14 : Int64) (H : List Obj) (r : Int32) (Hf : List Obj) (hf : m0_b19 v4 v6 v8 v9 v10 v12 v14 H = some (r, Hf)) : Run G K (some (.int r)) Hf 19 [none, none, none, none, some (.long v4), none, some (.long v6), none, some (.int v8), some (.int v9), some (.long v10), none, some (.long v12), none, some (.long v14), none, none, none, none, none, none, none, none, none, none, none, none, none, none, none, none, none, none, none, none, none, none] [] H 0 0 := by
  unfold m0_b19 at hf
  refine g_lload O (pc' := 21) at_19 (v := v4) rfl rfl ?_
  refine g_lload O (pc' := 23) at_21 (v := v10) rfl rfl ?_
  refine g_land O (pc' := 24) at_23 rfl ?_
  refine g_lstore O (pc' := 26) at_24 (Ls' := [none, none, none, none, some (.long v4), none, some (.long v6), none, some (.int v8), some (.int v9), some (.long v10), none, some (.long v12), none, some (.long v14), none, some (.long (v4 &&& v10)), none, none, none, none, none, none, none, none, none, none, none, none, none, none, none, none, none, none, none, none]) rfl rfl ?_
  refine g_lload O (pc' := 28) at_26 (v := v6) rfl rfl ?_
  refine g_lload O (pc' := 30) at_28 (v := v10) rfl rfl ?_
  refine g_iconst O (pc' := 31) at_30 (v := 1) (by decide) rfl ?_
  refine g_lushr O (pc' := 32) at_31 rfl ?_
  refine g_land O (pc' := 33) at_32 rfl ?_
  refine g_lstore O (pc' := 35) at_33 (Ls' := [none, none, none, none, some (.long v4), none, some (.long v6), none, some (.int v8), some (.int v9), some (.long v10), none, some (.long v12), none, some (.long v14), none, some (.long (v4 &&& v10)), none, some (.long (v6 &&& (XT.ushrL v10 (1 : Int32)))), none, none, none, none, none, none, none, none, none, none, none, none, none, none, none, none, none, none]) rfl rfl ?_
  refine g_forget (Ls' := [none, none, none, none, none, none, none, none, some (.int v8), some (.int v9), some (.long v10), none, some (.long v12), none, some (.long v14), none, some (.long (v4 &&& v10)), none, some (.long (v6 &&& (XT.ushrL v10 (1 : Int32)))), none, none, none, none, none, none, none, none, none, none, none, none, none, none, none, none, none, none]) (And.intro rfl (And.intro rfl (And.intro rfl (And.intro rfl (And.intro rfl (And.intro rfl (And.intro rfl trivial))))))) ?_
  exact m0_t35 O v8 v9 v10 v12 v14 (v4 &&& v10) (v6 &&& (XT.ushrL v10 (1 : Int32))) H _ _ hf
def m0_b0 (v0 : Int64) (v2 : Int64) (v4 : Int64) (v6 : Int64) (v8 : Int32) (v9 : Int32) (H : List Obj) : Option (Int32 × List Obj) :=
  m0_b19 v4 v6 v8 v9 (9223372036854775807 : Int64) (v0 &&& (9223372036854775807 : Int64)) (v2 &&& (XT.ushrL (9223372036854775807 : Int64) (1 : Int32))) H
theorem m0_t0 {G : Gx} {K : Kx} (O : Ok0 G K) (v0 : Int64) (v2 : Int64) (v4 : Int64) (v6 : Int64) (v8 : Int32) (v9 : Int32) (H : List Obj) (r : Int32) (Hf : List Obj) (hf : m0_b0 v0 v2 v4 v6 v8 v9 H = some (r, Hf)) : Run G K (some (.int r)) Hf 0 [some (.long v0), none, some (.long v2), none, some (.long v4), none, some (.long v6), none, some (.int v8), some (.int v9), none, none, none, none, none, none, none, none, none, none, none, none, none, none, none, none, none, none, none, none, none, none, none, none, none, none, none] [] H 0 0 := by
  unfold m0_b0 at hf
  refine g_ldc2 O (pc' := 3) at_0 tw0 rfl ?_
  refine g_lstore O (pc' := 5) at_3 (Ls' := [some (.long v0), none, some (.long v2), none, some (.long v4), none, some (.long v6), none, some (.int v8), some (.int v9), some (.long (9223372036854775807 : Int64)), none, none, none, none, none, none, none, none, none, none, none, none, none, none, none, none, none, none, none, none, none, none, none, none, none, none]) rfl rfl ?_
  refine g_lload_n O (pc' := 6) at_5 (v := v0) rfl rfl ?_
  refine g_lload O (pc' := 8) at_6 (v := (9223372036854775807 : Int64)) rfl rfl ?_
  refine g_land O (pc' := 9) at_8 rfl ?_
  refine g_lstore O (pc' := 11) at_9 (Ls' := [some (.long v0), none, some (.long v2), none, some (.long v4), none, some (.long v6), none, some (.int v8), some (.int v9), some (.long (9223372036854775807 : Int64)), none, some (.long (v0 &&& (9223372036854775807 : Int64))), none, none, none, none, none, none, none, none, none, none, none, none, none, none, none, none, none, none, none, none, none, none, none, none]) rfl rfl ?_
  refine g_lload_n O (pc' := 12) at_11 (v := v2) rfl rfl ?_
  refine g_lload O (pc' := 14) at_12 (v := (9223372036854775807 : Int64)) rfl rfl ?_
  refine g_iconst O (pc' := 15) at_14 (v := 1) (by decide) rfl ?_
  refine g_lushr O (pc' := 16) at_15 rfl ?_
  refine g_land O (pc' := 17) at_16 rfl ?_
  refine g_lstore O (pc' := 19) at_17 (Ls' := [some (.long v0), none, some (.long v2), none, some (.long v4), none, some (.long v6), none, some (.int v8), some (.int v9), some (.long (9223372036854775807 : Int64)), none, some (.long (v0 &&& (9223372036854775807 : Int64))), none, some (.long (v2 &&& (XT.ushrL (9223372036854775807 : Int64) (1 : Int32)))), none, none, none, none, none, none, none, none, none, none, none, none, none, none, none, none, none, none, none, none, none, none]) rfl rfl ?_
  refine g_forget (Ls' := [none, none, none, none, some (.long v4), none, some (.long v6), none, some (.int v8), some (.int v9), some (.long (9223372036854775807 : Int64)), none, some (.long (v0 &&& (9223372036854775807 : Int64))), none, some (.long (v2 &&& (XT.ushrL (9223372036854775807 : Int64) (1 : Int32)))), none, none, none, none, none, none, none, none, none, none, none, none, none, none, none, none, none, none, none, none, none, none]) (And.intro rfl (And.intro rfl (And.intro rfl (And.intro rfl (And.intro rfl (And.intro rfl (And.intro rfl trivial))))))) ?_
  exact m0_t19 O v4 v6 v8 v9 (9223372036854775807 : Int64) (v0 &&& (9223372036854775807 : Int64)) (v2 &&& (XT.ushrL (9223372036854775807 : Int64) (1 : Int32))) H _ _ hf
abbrev m0 (v0 : Int64) (v2 : Int64) (v4 : Int64) (v6 : Int64) (v8 : Int32) (v9 : Int32) (H : List Obj) : Option (Int32 × List Obj) := m0_b0 v0 v2 v4 v6 v8 v9 H

abbrev A4 (a b c d : Int64) : Obj := .inl (.long, [.long a, .long b, .long c, .long d])
theorem own_rd {H : List Obj} {i : Nat} {a b c d : Int64} (h : arr .long H i = some [.long a, .long b, .long c, .long d]) : rdJ H i 0 = some a ∧ rdJ H i 1 = some b ∧ rdJ H i 2 = some c ∧ rdJ H i 3 = some d := by
  unfold rdJ rd
  rw [h]
  exact ⟨rfl, rfl, rfl, rfl⟩
theorem own_same {H : List Obj} {i j : Nat} {a b c d : Int64} (h : arr .long H i = some [.long a, .long b, .long c, .long d]) (h' : arr .long H j = some [.long a, .long b, .long c, .long d]) : m2 i j H = some (1, H) := by
  obtain ⟨r0, r1, r2, r3⟩ := own_rd h
  obtain ⟨s0, s1, s2, s3⟩ := own_rd h'
  show m2_b0 i j H = _
  unfold m2_b0
  rw [r0, Option.bind_some, s0, Option.bind_some, if_pos rfl, r1, Option.bind_some, s1, Option.bind_some, if_pos rfl, r2, Option.bind_some, s2, Option.bind_some, if_pos rfl, r3, Option.bind_some, s3, Option.bind_some, if_pos rfl]; rfl
theorem own_456 (a0 a1 a2 a3 b0 b1 b2 b3 s0 s1 s2 s3 : Int64) : ∃ Hf, m0_b456 0 1 2 3 4 5 [A4 a0 a1 a2 a3, A4 b0 b1 b2 b3, A4 s0 s1 s2 s3, A4 a0 a1 a2 a3, A4 b0 b1 b2 b3, A4 s0 s1 s2 s3] = some (1, Hf) := by
  have z : ¬ (1 : Int32) = 0 := by decide
  unfold m0_b456
  rw [own_same (i := 0) (j := 3) rfl rfl, Option.bind_some]; dsimp only
  rw [if_neg z, own_same (i := 1) (j := 4) rfl rfl, Option.bind_some]; dsimp only
  rw [if_neg z, own_same (i := 2) (j := 5) rfl rfl, Option.bind_some]; dsimp only
  rw [if_neg z]; exact ⟨_, rfl⟩
theorem own_u63 (x : Int64) : (XT.ushrL x 63).toInt = (x.toInt % 18446744073709551616) / 9223372036854775808 := by
  have e : XT.ushrL x 63 = (x.toUInt64 >>> ((63 : Int32) &&& 0x3f).toInt64.toUInt64).toInt64 := congrArg (fun z => (x.toUInt64 >>> z).toInt64) (by decide : (63 : Int32).toInt64.toUInt64 &&& Int64.toUInt64 63 = ((63 : Int32) &&& 0x3f).toInt64.toUInt64)
  rw [e]
  exact c_lushr x 63 63 (by decide) (by decide)
theorem own_addL {x y : Int64} {a b : Int} (hx : x.toInt = a) (hy : y.toInt = b) (h : -9223372036854775808 ≤ a + b ∧ a + b < 9223372036854775808) : (x + y).toInt = a + b := by
  have e := c_ladd x y; have r := rng64 (x + y); omega
theorem own_addW {x y : Int64} {a b : Int} (hx : x.toInt = a) (hy : y.toInt = b) (h : 9223372036854775808 ≤ a + b ∧ a + b < 18446744073709551616) : (x + y).toInt = a + b - 18446744073709551616 := by
  have e := c_ladd x y; have r := rng64 (x + y); omega
theorem own_subL {x y : Int64} {a b : Int} (hx : x.toInt = a) (hy : y.toInt = b) (h : -9223372036854775808 ≤ a - b ∧ a - b < 9223372036854775808) : (x - y).toInt = a - b := by
  have e := c_lsub x y; have r := rng64 (x - y); omega
theorem k_m {X Y : Int} (a : 0 ≤ X ∧ X < 9223372036854775808) (b : 0 ≤ Y ∧ Y < 9223372036854775808) : -9223372036854775808 ≤ 9223372036854775807 - Y ∧ 9223372036854775807 - Y < 9223372036854775808 := by omega
theorem k_w {X Y : Int} (a : 0 ≤ X ∧ X < 9223372036854775808) (b : 0 ≤ Y ∧ Y < 9223372036854775808) (g : 9223372036854775807 - Y < X) : 9223372036854775808 ≤ X + Y ∧ X + Y < 18446744073709551616 := by omega
theorem k_u1 {X Y : Int} (a : 0 ≤ X ∧ X < 9223372036854775808) (b : 0 ≤ Y ∧ Y < 9223372036854775808) (g : 9223372036854775807 - Y < X) : (X + Y - 18446744073709551616) % 18446744073709551616 / 9223372036854775808 = 1 := by omega
theorem k_l1 {X Y : Int} (a : 0 ≤ X ∧ X < 9223372036854775808) (b : 0 ≤ Y ∧ Y < 9223372036854775808) (g : 9223372036854775807 - Y < X) : (X + Y - 18446744073709551616) % 9223372036854775808 = X - (9223372036854775807 - Y) - 1 := by omega
theorem k_s1 {X Y : Int} (a : 0 ≤ X ∧ X < 9223372036854775808) (b : 0 ≤ Y ∧ Y < 9223372036854775808) : -9223372036854775808 ≤ X - (9223372036854775807 - Y) ∧ X - (9223372036854775807 - Y) < 9223372036854775808 := by omega
theorem k_s2 {X Y : Int} (a : 0 ≤ X ∧ X < 9223372036854775808) (b : 0 ≤ Y ∧ Y < 9223372036854775808) (g : 9223372036854775807 - Y < X) : -9223372036854775808 ≤ X - (9223372036854775807 - Y) - 1 ∧ X - (9223372036854775807 - Y) - 1 < 9223372036854775808 := by omega
theorem k_n {X Y : Int} (a : 0 ≤ X ∧ X < 9223372036854775808) (b : 0 ≤ Y ∧ Y < 9223372036854775808) (g : ¬ 9223372036854775807 - Y < X) : -9223372036854775808 ≤ X + Y ∧ X + Y < 9223372036854775808 := by omega
theorem k_u0 {X Y : Int} (a : 0 ≤ X ∧ X < 9223372036854775808) (b : 0 ≤ Y ∧ Y < 9223372036854775808) (g : ¬ 9223372036854775807 - Y < X) : (X + Y) % 18446744073709551616 / 9223372036854775808 = 0 := by omega
theorem k_l0 {X Y : Int} (a : 0 ≤ X ∧ X < 9223372036854775808) (b : 0 ≤ Y ∧ Y < 9223372036854775808) (g : ¬ 9223372036854775807 - Y < X) : (X + Y) % 9223372036854775808 = X + Y := by omega
theorem k_h {U V : Int} (a : 0 ≤ U) (b : U < 4611686018427387904) (c : 0 ≤ V) (d : V < 4611686018427387904) : -9223372036854775808 ≤ U + V ∧ U + V < 9223372036854775808 := by omega
theorem k_h1 {U V : Int} (k : Int) (e : k = 0 ∨ k = 1) (a : 0 ≤ U) (b : U < 4611686018427387904) (c : 0 ≤ V) (d : V < 4611686018427387904) : (-9223372036854775808 ≤ U + V + k ∧ U + V + k < 9223372036854775808) ∧ (U + V + k) % 9223372036854775808 = U + V + k := by omega
/-- what the two limbs come to -/
theorem own_sum {x0 x1 y0 y1 c l : Int64} (h0 : 0 ≤ x0.toInt) (h1 : 0 ≤ x1.toInt) (h2 : 0 ≤ y0.toInt) (h3 : 0 ≤ y1.toInt) (h4 : x1.toInt < 4611686018427387904) (h5 : y1.toInt < 4611686018427387904)
    (hc : (9223372036854775807 - y0 < x0 ∧ c = 1 ∧ l = x0 - (9223372036854775807 - y0) - 1) ∨ (¬ 9223372036854775807 - y0 < x0 ∧ c = 0 ∧ l = x0 + y0)) :
    ((x0 + y0) + 0) &&& 9223372036854775807 = l ∧ ((x1 + y1) + XT.ushrL ((x0 + y0) + 0) 63) &&& 9223372036854775807 = (x1 + y1) + c := by
  have zM : (9223372036854775807 : Int64).toInt = 9223372036854775807 := by decide
  have z1 : (1 : Int64).toInt = 1 := by decide
  have z0 : (0 : Int64).toInt = 0 := by decide
  rw [Int64.add_zero]
  have A : 0 ≤ x0.toInt ∧ x0.toInt < 9223372036854775808 := ⟨h0, (rng64 x0).2⟩
  have B : 0 ≤ y0.toInt ∧ y0.toInt < 9223372036854775808 := ⟨h2, (rng64 y0).2⟩
  have hb : (9223372036854775807 - y0).toInt = 9223372036854775807 - y0.toInt := own_subL zM rfl (k_m A B)
  have m1 : ((x0 + y0) &&& 9223372036854775807).toInt = (x0 + y0).toInt % 9223372036854775808 := c_maskL (x0 + y0) 9223372036854775807 63 (by decide) (by decide)
  have m2 : ((x1 + y1 + XT.ushrL (x0 + y0) 63) &&& 9223372036854775807).toInt = (x1 + y1 + XT.ushrL (x0 + y0) 63).toInt % 9223372036854775808 := c_maskL (x1 + y1 + XT.ushrL (x0 + y0) 63) 9223372036854775807 63 (by decide) (by decide)
  have u := own_u63 (x0 + y0)
  have hs : (x1 + y1).toInt = x1.toInt + y1.toInt := own_addL rfl rfl (k_h h1 h4 h3 h5)
  rcases hc with ⟨hc, rfl, rfl⟩ | ⟨hc, rfl, rfl⟩
  · rw [own_ltL, hb] at hc
    have S := own_addW rfl rfl (k_w A B hc)
    rw [S, k_l1 A B hc] at m1
    rw [S, k_u1 A B hc] at u
    obtain ⟨q1, q2⟩ := k_h1 1 (Or.inr rfl) h1 h4 h3 h5
    have T := own_addL hs u q1
    rw [T, q2] at m2
    refine ⟨own_eqL.mpr ?_, own_eqL.mpr ?_⟩
    · exact m1.trans (own_subL (own_subL rfl hb (k_s1 A B)) z1 (k_s2 A B hc)).symm
    · exact m2.trans (own_addL hs z1 q1).symm
  · rw [own_ltL, hb] at hc
    have S := own_addL rfl rfl (k_n A B hc)
    rw [S, k_l0 A B hc] at m1
    rw [S, k_u0 A B hc] at u
    obtain ⟨q1, q2⟩ := k_h1 0 (Or.inl rfl) h1 h4 h3 h5
    have T := own_addL hs u q1
    rw [T, q2] at m2
    refine ⟨own_eqL.mpr ?_, own_eqL.mpr ?_⟩
    · exact m1.trans S.symm
    · exact m2.trans (own_addL hs z0 q1).symm
theorem bs {α β : Type} {a : Option α} {x : α} {f : α → Option β} {r : Option β} (h : a = some x) (g : f x = r) : a.bind f = r := by
  rw [h]; exact g
theorem own_add2 {v0 v2 v4 : Nat} {v1 v3 v5 : Int32} {H H1 H2 : List Obj} {x0 x1 y0 y1 l h : Int64} (hl : ((x0 + y0) + 0) &&& 9223372036854775807 = l) (hh : ((x1 + y1) + XT.ushrL ((x0 + y0) + 0) 63) &&& 9223372036854775807 = h)
    (a1 : rdJ H v0 (v1 + 0) = some x0) (a2 : rdJ H v2 (v3 + 0) = some y0) (a3 : wr .long H v4 (v5 + 0) (.long l) = some H1)
    (a4 : rdJ H1 v0 (v1 + (0 + 1)) = some x1) (a5 : rdJ H1 v2 (v3 + (0 + 1)) = some y1) (a6 : wr .long H1 v4 (v5 + (0 + 1)) (.long h) = some H2) : m1 v0 v1 v2 v3 v4 v5 2 H = some H2 := by
  subst hl; subst hh
  show m1_b6 8 v0 v1 v2 v3 v4 v5 2 0 0 H = some H2
  rw [m1_b6, if_pos (by decide : (0 : Int32) < 2)]
  refine bs a1 (bs a2 (bs a3 ?_))
  rw [m1_b6, if_pos (by decide : (0 + 1 : Int32) < 2)]
  refine bs a4 (bs a5 (bs a6 ?_))
  rw [m1_b6, if_neg (by decide : ¬ (0 + 1 + 1 : Int32) < 2)]
theorem own_74 (v10 v12 v14 v16 v18 : Int64) (v21 v22 v23 v24 : Int32) : m0_b74 v10 v12 v14 v16 v18 v21 v22 v23 v24 [] = m0_b161 v10 v12 v14 v16 v18 v21 v22 v23 v24 0 1 2 [A4 11 12 13 14, A4 21 22 23 24, A4 31 32 33 34] := by
  unfold m0_b74
  refine bs (x := [A4 0 0 0 0]) rfl ?_
  refine bs (x := [A4 11 0 0 0]) rfl ?_
  refine bs (x := [A4 11 12 0 0]) rfl ?_
  refine bs (x := [A4 11 12 13 0]) rfl ?_
  refine bs (x := [A4 11 12 13 14]) rfl ?_
  refine bs (x := [A4 11 12 13 14, A4 0 0 0 0]) rfl ?_
  refine bs (x := [A4 11 12 13 14, A4 21 0 0 0]) rfl ?_
  refine bs (x := [A4 11 12 13 14, A4 21 22 0 0]) rfl ?_
  refine bs (x := [A4 11 12 13 14, A4 21 22 23 0]) rfl ?_
  refine bs (x := [A4 11 12 13 14, A4 21 22 23 24]) rfl ?_
  refine bs (x := [A4 11 12 13 14, A4 21 22 23 24, A4 0 0 0 0]) rfl ?_
  refine bs (x := [A4 11 12 13 14, A4 21 22 23 24, A4 31 0 0 0]) rfl ?_
  refine bs (x := [A4 11 12 13 14, A4 21 22 23 24, A4 31 32 0 0]) rfl ?_
  refine bs (x := [A4 11 12 13 14, A4 21 22 23 24, A4 31 32 33 0]) rfl ?_
  refine bs (x := [A4 11 12 13 14, A4 21 22 23 24, A4 31 32 33 34]) rfl ?_
  rfl
theorem own_236 (a0 a1 a2 a3 b0 b1 b2 b3 s0 s1 s2 s3 : Int64) (x1 y1 c l : Int64) (v21 v22 v23 v24 : Int32) : m0_b236 x1 y1 v21 v22 v23 v24 0 1 2 c l [A4 a0 a1 a2 a3, A4 b0 b1 b2 b3, A4 s0 s1 s2 s3] = m0_b281 v21 v22 v23 v24 0 1 2 l (x1 + y1 + c) 3 [A4 a0 a1 a2 a3, A4 b0 b1 b2 b3, A4 s0 s1 s2 s3, A4 a0 a1 a2 a3] := by
  unfold m0_b236
  refine bs (x := [A4 a0 a1 a2 a3, A4 b0 b1 b2 b3, A4 s0 s1 s2 s3, A4 0 0 0 0]) rfl ?_
  refine bs (x := a0) rfl ?_
  refine bs (x := [A4 a0 a1 a2 a3, A4 b0 b1 b2 b3, A4 s0 s1 s2 s3, A4 a0 0 0 0]) rfl ?_
  refine bs (x := a1) rfl ?_
  refine bs (x := [A4 a0 a1 a2 a3, A4 b0 b1 b2 b3, A4 s0 s1 s2 s3, A4 a0 a1 0 0]) rfl ?_
  refine bs (x := a2) rfl ?_
  refine bs (x := [A4 a0 a1 a2 a3, A4 b0 b1 b2 b3, A4 s0 s1 s2 s3, A4 a0 a1 a2 0]) rfl ?_
  refine bs (x := a3) rfl ?_
  refine bs (x := [A4 a0 a1 a2 a3, A4 b0 b1 b2 b3, A4 s0 s1 s2 s3, A4 a0 a1 a2 a3]) rfl ?_
  rfl
theorem own_281 (a0 a1 a2 a3 b0 b1 b2 b3 s0 s1 s2 s3 : Int64) (l u : Int64) (v21 v22 v23 v24 : Int32) : m0_b281 v21 v22 v23 v24 0 1 2 l u 3 [A4 a0 a1 a2 a3, A4 b0 b1 b2 b3, A4 s0 s1 s2 s3, A4 a0 a1 a2 a3] = m0_b314 v21 v22 v23 v24 0 1 2 l u 3 4 [A4 a0 a1 a2 a3, A4 b0 b1 b2 b3, A4 s0 s1 s2 s3, A4 a0 a1 a2 a3, A4 b0 b1 b2 b3] := by
  unfold m0_b281
  refine bs (x := [A4 a0 a1 a2 a3, A4 b0 b1 b2 b3, A4 s0 s1 s2 s3, A4 a0 a1 a2 a3, A4 0 0 0 0]) rfl ?_
  refine bs (x := b0) rfl ?_
  refine bs (x := [A4 a0 a1 a2 a3, A4 b0 b1 b2 b3, A4 s0 s1 s2 s3, A4 a0 a1 a2 a3, A4 b0 0 0 0]) rfl ?_
  refine bs (x := b1) rfl ?_
  refine bs (x := [A4 a0 a1 a2 a3, A4 b0 b1 b2 b3, A4 s0 s1 s2 s3, A4 a0 a1 a2 a3, A4 b0 b1 0 0]) rfl ?_
  refine bs (x := b2) rfl ?_
  refine bs (x := [A4 a0 a1 a2 a3, A4 b0 b1 b2 b3, A4 s0 s1 s2 s3, A4 a0 a1 a2 a3, A4 b0 b1 b2 0]) rfl ?_
  refine bs (x := b3) rfl ?_
  refine bs (x := [A4 a0 a1 a2 a3, A4 b0 b1 b2 b3, A4 s0 s1 s2 s3, A4 a0 a1 a2 a3, A4 b0 b1 b2 b3]) rfl ?_
  rfl
theorem own_314 (a0 a1 a2 a3 b0 b1 b2 b3 s0 s1 s2 s3 : Int64) (l u : Int64) (v21 v22 v23 v24 : Int32) : m0_b314 v21 v22 v23 v24 0 1 2 l u 3 4 [A4 a0 a1 a2 a3, A4 b0 b1 b2 b3, A4 s0 s1 s2 s3, A4 a0 a1 a2 a3, A4 b0 b1 b2 b3] = m0_b343 v21 v22 v23 v24 0 1 2 l u 3 4 5 [A4 a0 a1 a2 a3, A4 b0 b1 b2 b3, A4 s0 s1 s2 s3, A4 a0 a1 a2 a3, A4 b0 b1 b2 b3, A4 31 32 33 34] := by
  unfold m0_b314
  refine bs (x := [A4 a0 a1 a2 a3, A4 b0 b1 b2 b3, A4 s0 s1 s2 s3, A4 a0 a1 a2 a3, A4 b0 b1 b2 b3, A4 0 0 0 0]) rfl ?_
  refine bs (x := [A4 a0 a1 a2 a3, A4 b0 b1 b2 b3, A4 s0 s1 s2 s3, A4 a0 a1 a2 a3, A4 b0 b1 b2 b3, A4 31 0 0 0]) rfl ?_
  refine bs (x := [A4 a0 a1 a2 a3, A4 b0 b1 b2 b3, A4 s0 s1 s2 s3, A4 a0 a1 a2 a3, A4 b0 b1 b2 b3, A4 31 32 0 0]) rfl ?_
  refine bs (x := [A4 a0 a1 a2 a3, A4 b0 b1 b2 b3, A4 s0 s1 s2 s3, A4 a0 a1 a2 a3, A4 b0 b1 b2 b3, A4 31 32 33 0]) rfl ?_
  refine bs (x := [A4 a0 a1 a2 a3, A4 b0 b1 b2 b3, A4 s0 s1 s2 s3, A4 a0 a1 a2 a3, A4 b0 b1 b2 b3, A4 31 32 33 34]) rfl ?_
  rfl
theorem own_w00 (x0 x1 y0 y1 : Int64) (v23 v24 : Int32) : m0_b161 9223372036854775807 x0 x1 y0 y1 0 0 v23 v24 0 1 2 [A4 11 12 13 14, A4 21 22 23 24, A4 31 32 33 34] = m0_b193 9223372036854775807 x0 x1 y0 y1 0 0 v23 v24 0 1 2 [A4 x0 x1 13 14, A4 y0 y1 23 24, A4 31 32 33 34] := by
  unfold m0_b161
  refine bs (x := [A4 x0 12 13 14, A4 21 22 23 24, A4 31 32 33 34]) rfl ?_
  refine bs (x := [A4 x0 x1 13 14, A4 21 22 23 24, A4 31 32 33 34]) rfl ?_
  refine bs (x := [A4 x0 x1 13 14, A4 y0 22 23 24, A4 31 32 33 34]) rfl ?_
  refine bs (x := [A4 x0 x1 13 14, A4 y0 y1 23 24, A4 31 32 33 34]) rfl ?_
  rfl
theorem own_w01 (x0 x1 y0 y1 : Int64) (v23 v24 : Int32) : m0_b161 9223372036854775807 x0 x1 y0 y1 0 1 v23 v24 0 1 2 [A4 11 12 13 14, A4 21 22 23 24, A4 31 32 33 34] = m0_b193 9223372036854775807 x0 x1 y0 y1 0 1 v23 v24 0 1 2 [A4 x0 x1 13 14, A4 21 y0 y1 24, A4 31 32 33 34] := by
  unfold m0_b161
  refine bs (x := [A4 x0 12 13 14, A4 21 22 23 24, A4 31 32 33 34]) rfl ?_
  refine bs (x := [A4 x0 x1 13 14, A4 21 22 23 24, A4 31 32 33 34]) rfl ?_
  refine bs (x := [A4 x0 x1 13 14, A4 21 y0 23 24, A4 31 32 33 34]) rfl ?_
  refine bs (x := [A4 x0 x1 13 14, A4 21 y0 y1 24, A4 31 32 33 34]) rfl ?_
  rfl
theorem own_w02 (x0 x1 y0 y1 : Int64) (v23 v24 : Int32) : m0_b161 9223372036854775807 x0 x1 y0 y1 0 2 v23 v24 0 1 2 [A4 11 12 13 14, A4 21 22 23 24, A4 31 32 33 34] = m0_b193 9223372036854775807 x0 x1 y0 y1 0 2 v23 v24 0 1 2 [A4 x0 x1 13 14, A4 21 22 y0 y1, A4 31 32 33 34] := by
  unfold m0_b161
  refine bs (x := [A4 x0 12 13 14, A4 21 22 23 24, A4 31 32 33 34]) rfl ?_
  refine bs (x := [A4 x0 x1 13 14, A4 21 22 23 24, A4 31 32 33 34]) rfl ?_
  refine bs (x := [A4 x0 x1 13 14, A4 21 22 y0 24, A4 31 32 33 34]) rfl ?_
  refine bs (x := [A4 x0 x1 13 14, A4 21 22 y0 y1, A4 31 32 33 34]) rfl ?_
  rfl
theorem own_w10 (x0 x1 y0 y1 : Int64) (v23 v24 : Int32) : m0_b161 9223372036854775807 x0 x1 y0 y1 1 0 v23 v24 0 1 2 [A4 11 12 13 14, A4 21 22 23 24, A4 31 32 33 34] = m0_b193 9223372036854775807 x0 x1 y0 y1 1 0 v23 v24 0 1 2 [A4 11 x0 x1 14, A4 y0 y1 23 24, A4 31 32 33 34] := by
  unfold m0_b161
  refine bs (x := [A4 11 x0 13 14, A4 21 22 23 24, A4 31 32 33 34]) rfl ?_
  refine bs (x := [A4 11 x0 x1 14, A4 21 22 23 24, A4 31 32 33 34]) rfl ?_
  refine bs (x := [A4 11 x0 x1 14, A4 y0 22 23 24, A4 31 32 33 34]) rfl ?_
  refine bs (x := [A4 11 x0 x1 14, A4 y0 y1 23 24, A4 31 32 33 34]) rfl ?_
  rfl
theorem own_w11 (x0 x1 y0 y1 : Int64) (v23 v24 : Int32) : m0_b161 9223372036854775807 x0 x1 y0 y1 1 1 v23 v24 0 1 2 [A4 11 12 13 14, A4 21 22 23 24, A4 31 32 33 34] = m0_b193 9223372036854775807 x0 x1 y0 y1 1 1 v23 v24 0 1 2 [A4 11 x0 x1 14, A4 21 y0 y1 24, A4 31 32 33 34] := by
  unfold m0_b161
  refine bs (x := [A4 11 x0 13 14, A4 21 22 23 24, A4 31 32 33 34]) rfl ?_
  refine bs (x := [A4 11 x0 x1 14, A4 21 22 23 24, A4 31 32 33 34]) rfl ?_
  refine bs (x := [A4 11 x0 x1 14, A4 21 y0 23 24, A4 31 32 33 34]) rfl ?_
  refine bs (x := [A4 11 x0 x1 14, A4 21 y0 y1 24, A4 31 32 33 34]) rfl ?_
  rfl
theorem own_w12 (x0 x1 y0 y1 : Int64) (v23 v24 : Int32) : m0_b161 9223372036854775807 x0 x1 y0 y1 1 2 v23 v24 0 1 2 [A4 11 12 13 14, A4 21 22 23 24, A4 31 32 33 34] = m0_b193 9223372036854775807 x0 x1 y0 y1 1 2 v23 v24 0 1 2 [A4 11 x0 x1 14, A4 21 22 y0 y1, A4 31 32 33 34] := by
  unfold m0_b161
  refine bs (x := [A4 11 x0 13 14, A4 21 22 23 24, A4 31 32 33 34]) rfl ?_
  refine bs (x := [A4 11 x0 x1 14, A4 21 22 23 24, A4 31 32 33 34]) rfl ?_
  refine bs (x := [A4 11 x0 x1 14, A4 21 22 y0 24, A4 31 32 33 34]) rfl ?_
  refine bs (x := [A4 11 x0 x1 14, A4 21 22 y0 y1, A4 31 32 33 34]) rfl ?_
  rfl
theorem own_w20 (x0 x1 y0 y1 : Int64) (v23 v24 : Int32) : m0_b161 9223372036854775807 x0 x1 y0 y1 2 0 v23 v24 0 1 2 [A4 11 12 13 14, A4 21 22 23 24, A4 31 32 33 34] = m0_b193 9223372036854775807 x0 x1 y0 y1 2 0 v23 v24 0 1 2 [A4 11 12 x0 x1, A4 y0 y1 23 24, A4 31 32 33 34] := by
  unfold m0_b161
  refine bs (x := [A4 11 12 x0 14, A4 21 22 23 24, A4 31 32 33 34]) rfl ?_
  refine bs (x := [A4 11 12 x0 x1, A4 21 22 23 24, A4 31 32 33 34]) rfl ?_
  refine bs (x := [A4 11 12 x0 x1, A4 y0 22 23 24, A4 31 32 33 34]) rfl ?_
  refine bs (x := [A4 11 12 x0 x1, A4 y0 y1 23 24, A4 31 32 33 34]) rfl ?_
  rfl
theorem own_w21 (x0 x1 y0 y1 : Int64) (v23 v24 : Int32) : m0_b161 9223372036854775807 x0 x1 y0 y1 2 1 v23 v24 0 1 2 [A4 11 12 13 14, A4 21 22 23 24, A4 31 32 33 34] = m0_b193 9223372036854775807 x0 x1 y0 y1 2 1 v23 v24 0 1 2 [A4 11 12 x0 x1, A4 21 y0 y1 24, A4 31 32 33 34] := by
  unfold m0_b161
  refine bs (x := [A4 11 12 x0 14, A4 21 22 23 24, A4 31 32 33 34]) rfl ?_
  refine bs (x := [A4 11 12 x0 x1, A4 21 22 23 24, A4 31 32 33 34]) rfl ?_
  refine bs (x := [A4 11 12 x0 x1, A4 21 y0 23 24, A4 31 32 33 34]) rfl ?_
  refine bs (x := [A4 11 12 x0 x1, A4 21 y0 y1 24, A4 31 32 33 34]) rfl ?_
  rfl
theorem own_w22 (x0 x1 y0 y1 : Int64) (v23 v24 : Int32) : m0_b161 9223372036854775807 x0 x1 y0 y1 2 2 v23 v24 0 1 2 [A4 11 12 13 14, A4 21 22 23 24, A4 31 32 33 34] = m0_b193 9223372036854775807 x0 x1 y0 y1 2 2 v23 v24 0 1 2 [A4 11 12 x0 x1, A4 21 22 y0 y1, A4 31 32 33 34] := by
  unfold m0_b161
  refine bs (x := [A4 11 12 x0 14, A4 21 22 23 24, A4 31 32 33 34]) rfl ?_
  refine bs (x := [A4 11 12 x0 x1, A4 21 22 23 24, A4 31 32 33 34]) rfl ?_
  refine bs (x := [A4 11 12 x0 x1, A4 21 22 y0 24, A4 31 32 33 34]) rfl ?_
  refine bs (x := [A4 11 12 x0 x1, A4 21 22 y0 y1, A4 31 32 33 34]) rfl ?_
  rfl
theorem own_c0000 (x0 x1 y0 y1 c l : Int64) (h : ((x0 + y0) + 0) &&& 9223372036854775807 = l ∧ ((x1 + y1) + XT.ushrL ((x0 + y0) + 0) 63) &&& 9223372036854775807 = (x1 + y1) + c) : ∃ Hf, m0_b236 x1 y1 0 0 0 0 0 1 2 c l [A4 x0 x1 13 14, A4 y0 y1 23 24, A4 31 32 33 34] = some (1, Hf) := by
  obtain ⟨Hf, hf⟩ := own_456 x0 x1 13 14 y0 y1 23 24 l (x1 + y1 + c) 33 34
  refine ⟨Hf, ?_⟩
  rw [own_236, own_281, own_314]; unfold m0_b343
  rw [if_pos (rfl : (0 : Int32) = 0)]
  refine bs (x := [A4 x0 x1 13 14, A4 y0 y1 23 24, A4 31 32 33 34, A4 x0 x1 13 14, A4 y0 y1 23 24, A4 l 32 33 34]) rfl ?_
  refine bs (x := [A4 x0 x1 13 14, A4 y0 y1 23 24, A4 31 32 33 34, A4 x0 x1 13 14, A4 y0 y1 23 24, A4 l (x1 + y1 + c) 33 34]) rfl ?_
  refine bs (x := [A4 x0 x1 13 14, A4 y0 y1 23 24, A4 l (x1 + y1 + c) 33 34, A4 x0 x1 13 14, A4 y0 y1 23 24, A4 l (x1 + y1 + c) 33 34]) (own_add2 (x0 := x0) (x1 := x1) (y0 := y0) (y1 := y1) (H1 := [A4 x0 x1 13 14, A4 y0 y1 23 24, A4 l 32 33 34, A4 x0 x1 13 14, A4 y0 y1 23 24, A4 l (x1 + y1 + c) 33 34]) h.1 h.2 rfl rfl rfl rfl rfl rfl) ?_
  exact hf
theorem own_c0000' (x0 x1 y0 y1 : Int64) (h0 : 0 ≤ x0.toInt) (h1 : 0 ≤ x1.toInt) (h2 : 0 ≤ y0.toInt) (h3 : 0 ≤ y1.toInt) (h4 : x1.toInt < 4611686018427387904) (h5 : y1.toInt < 4611686018427387904) : ∃ Hf, m0_b74 9223372036854775807 x0 x1 y0 y1 0 0 0 0 [] = some (1, Hf) := by
  rw [own_74, own_w00]; unfold m0_b193
  by_cases g : 9223372036854775807 - y0 < x0
  · rw [if_pos g]; unfold m0_b209; rw [if_pos (rfl : (1 : Int64) = 1)]; exact own_c0000 x0 x1 y0 y1 _ _ (own_sum h0 h1 h2 h3 h4 h5 (Or.inl ⟨g, rfl, rfl⟩))
  · rw [if_neg g]; unfold m0_b209; rw [if_neg (by decide : ¬ (0 : Int64) = 1)]; exact own_c0000 x0 x1 y0 y1 _ _ (own_sum h0 h1 h2 h3 h4 h5 (Or.inr ⟨g, rfl, rfl⟩))
theorem own_c0001 (x0 x1 y0 y1 c l : Int64) (h : ((x0 + y0) + 0) &&& 9223372036854775807 = l ∧ ((x1 + y1) + XT.ushrL ((x0 + y0) + 0) 63) &&& 9223372036854775807 = (x1 + y1) + c) : ∃ Hf, m0_b236 x1 y1 0 0 1 0 0 1 2 c l [A4 x0 x1 13 14, A4 y0 y1 23 24, A4 31 32 33 34] = some (1, Hf) := by
  obtain ⟨Hf, hf⟩ := own_456 x0 x1 13 14 y0 y1 23 24 31 l (x1 + y1 + c) 34
  refine ⟨Hf, ?_⟩
  rw [own_236, own_281, own_314]; unfold m0_b343
  rw [if_pos (rfl : (0 : Int32) = 0)]
  refine bs (x := [A4 x0 x1 13 14, A4 y0 y1 23 24, A4 31 32 33 34, A4 x0 x1 13 14, A4 y0 y1 23 24, A4 31 l 33 34]) rfl ?_
  refine bs (x := [A4 x0 x1 13 14, A4 y0 y1 23 24, A4 31 32 33 34, A4 x0 x1 13 14, A4 y0 y1 23 24, A4 31 l (x1 + y1 + c) 34]) rfl ?_
  refine bs (x := [A4 x0 x1 13 14, A4 y0 y1 23 24, A4 31 l (x1 + y1 + c) 34, A4 x0 x1 13 14, A4 y0 y1 23 24, A4 31 l (x1 + y1 + c) 34]) (own_add2 (x0 := x0) (x1 := x1) (y0 := y0) (y1 := y1) (H1 := [A4 x0 x1 13 14, A4 y0 y1 23 24, A4 31 l 33 34, A4 x0 x1 13 14, A4 y0 y1 23 24, A4 31 l (x1 + y1 + c) 34]) h.1 h.2 rfl rfl rfl rfl rfl rfl) ?_
  exact hf
theorem own_c0001' (x0 x1 y0 y1 : Int64) (h0 : 0 ≤ x0.toInt) (h1 : 0 ≤ x1.toInt) (h2 : 0 ≤ y0.toInt) (h3 : 0 ≤ y1.toInt) (h4 : x1.toInt < 4611686018427387904) (h5 : y1.toInt < 4611686018427387904) : ∃ Hf, m0_b74 9223372036854775807 x0 x1 y0 y1 0 0 1 0 [] = some (1, Hf) := by
  rw [own_74, own_w00]; unfold m0_b193
  by_cases g : 9223372036854775807 - y0 < x0
  · rw [if_pos g]; unfold m0_b209; rw [if_pos (rfl : (1 : Int64) = 1)]; exact own_c0001 x0 x1 y0 y1 _ _ (own_sum h0 h1 h2 h3 h4 h5 (Or.inl ⟨g, rfl, rfl⟩))
  · rw [if_neg g]; unfold m0_b209; rw [if_neg (by decide : ¬ (0 : Int64) = 1)]; exact own_c0001 x0 x1 y0 y1 _ _ (own_sum h0 h1 h2 h3 h4 h5 (Or.inr ⟨g, rfl, rfl⟩))
theorem own_c0002 (x0 x1 y0 y1 c l : Int64) (h : ((x0 + y0) + 0) &&& 9223372036854775807 = l ∧ ((x1 + y1) + XT.ushrL ((x0 + y0) + 0) 63) &&& 9223372036854775807 = (x1 + y1) + c) : ∃ Hf, m0_b236 x1 y1 0 0 2 0 0 1 2 c l [A4 x0 x1 13 14, A4 y0 y1 23 24, A4 31 32 33 34] = some (1, Hf) := by
  obtain ⟨Hf, hf⟩ := own_456 x0 x1 13 14 y0 y1 23 24 31 32 l (x1 + y1 + c)
  refine ⟨Hf, ?_⟩
  rw [own_236, own_281, own_314]; unfold m0_b343
  rw [if_pos (rfl : (0 : Int32) = 0)]
  refine bs (x := [A4 x0 x1 13 14, A4 y0 y1 23 24, A4 31 32 33 34, A4 x0 x1 13 14, A4 y0 y1 23 24, A4 31 32 l 34]) rfl ?_
  refine bs (x := [A4 x0 x1 13 14, A4 y0 y1 23 24, A4 31 32 33 34, A4 x0 x1 13 14, A4 y0 y1 23 24, A4 31 32 l (x1 + y1 + c)]) rfl ?_
  refine bs (x := [A4 x0 x1 13 14, A4 y0 y1 23 24, A4 31 32 l (x1 + y1 + c), A4 x0 x1 13 14, A4 y0 y1 23 24, A4 31 32 l (x1 + y1 + c)]) (own_add2 (x0 := x0) (x1 := x1) (y0 := y0) (y1 := y1) (H1 := [A4 x0 x1 13 14, A4 y0 y1 23 24, A4 31 32 l 34, A4 x0 x1 13 14, A4 y0 y1 23 24, A4 31 32 l (x1 + y1 + c)]) h.1 h.2 rfl rfl rfl rfl rfl rfl) ?_
  exact hf
theorem own_c0002' (x0 x1 y0 y1 : Int64) (h0 : 0 ≤ x0.toInt) (h1 : 0 ≤ x1.toInt) (h2 : 0 ≤ y0.toInt) (h3 : 0 ≤ y1.toInt) (h4 : x1.toInt < 4611686018427387904) (h5 : y1.toInt < 4611686018427387904) : ∃ Hf, m0_b74 9223372036854775807 x0 x1 y0 y1 0 0 2 0 [] = some (1, Hf) := by
  rw [own_74, own_w00]; unfold m0_b193
  by_cases g : 9223372036854775807 - y0 < x0
  · rw [if_pos g]; unfold m0_b209; rw [if_pos (rfl : (1 : Int64) = 1)]; exact own_c0002 x0 x1 y0 y1 _ _ (own_sum h0 h1 h2 h3 h4 h5 (Or.inl ⟨g, rfl, rfl⟩))
  · rw [if_neg g]; unfold m0_b209; rw [if_neg (by decide : ¬ (0 : Int64) = 1)]; exact own_c0002 x0 x1 y0 y1 _ _ (own_sum h0 h1 h2 h3 h4 h5 (Or.inr ⟨g, rfl, rfl⟩))
theorem own_c0010 (x0 x1 y0 y1 c l : Int64) (h : ((x0 + y0) + 0) &&& 9223372036854775807 = l ∧ ((x1 + y1) + XT.ushrL ((x0 + y0) + 0) 63) &&& 9223372036854775807 = (x1 + y1) + c) : ∃ Hf, m0_b236 x1 y1 0 1 0 0 0 1 2 c l [A4 x0 x1 13 14, A4 21 y0 y1 24, A4 31 32 33 34] = some (1, Hf) := by
  obtain ⟨Hf, hf⟩ := own_456 x0 x1 13 14 21 y0 y1 24 l (x1 + y1 + c) 33 34
  refine ⟨Hf, ?_⟩
  rw [own_236, own_281, own_314]; unfold m0_b343
  rw [if_pos (rfl : (0 : Int32) = 0)]
  refine bs (x := [A4 x0 x1 13 14, A4 21 y0 y1 24, A4 31 32 33 34, A4 x0 x1 13 14, A4 21 y0 y1 24, A4 l 32 33 34]) rfl ?_
  refine bs (x := [A4 x0 x1 13 14, A4 21 y0 y1 24, A4 31 32 33 34, A4 x0 x1 13 14, A4 21 y0 y1 24, A4 l (x1 + y1 + c) 33 34]) rfl ?_
  refine bs (x := [A4 x0 x1 13 14, A4 21 y0 y1 24, A4 l (x1 + y1 + c) 33 34, A4 x0 x1 13 14, A4 21 y0 y1 24, A4 l (x1 + y1 + c) 33 34]) (own_add2 (x0 := x0) (x1 := x1) (y0 := y0) (y1 := y1) (H1 := [A4 x0 x1 13 14, A4 21 y0 y1 24, A4 l 32 33 34, A4 x0 x1 13 14, A4 21 y0 y1 24, A4 l (x1 + y1 + c) 33 34]) h.1 h.2 rfl rfl rfl rfl rfl rfl) ?_
  exact hf
theorem own_c0010' (x0 x1 y0 y1 : Int64) (h0 : 0 ≤ x0.toInt) (h1 : 0 ≤ x1.toInt) (h2 : 0 ≤ y0.toInt) (h3 : 0 ≤ y1.toInt) (h4 : x1.toInt < 4611686018427387904) (h5 : y1.toInt < 4611686018427387904) : ∃ Hf, m0_b74 9223372036854775807 x0 x1 y0 y1 0 1 0 0 [] = some (1, Hf) := by
  rw [own_74, own_w01]; unfold m0_b193
  by_cases g : 9223372036854775807 - y0 < x0
  · rw [if_pos g]; unfold m0_b209; rw [if_pos (rfl : (1 : Int64) = 1)]; exact own_c0010 x0 x1 y0 y1 _ _ (own_sum h0 h1 h2 h3 h4 h5 (Or.inl ⟨g, rfl, rfl⟩))
  · rw [if_neg g]; unfold m0_b209; rw [if_neg (by decide : ¬ (0 : Int64) = 1)]; exact own_c0010 x0 x1 y0 y1 _ _ (own_sum h0 h1 h2 h3 h4 h5 (Or.inr ⟨g, rfl, rfl⟩))
theorem own_c0011 (x0 x1 y0 y1 c l : Int64) (h : ((x0 + y0) + 0) &&& 9223372036854775807 = l ∧ ((x1 + y1) + XT.ushrL ((x0 + y0) + 0) 63) &&& 9223372036854775807 = (x1 + y1) + c) : ∃ Hf, m0_b236 x1 y1 0 1 1 0 0 1 2 c l [A4 x0 x1 13 14, A4 21 y0 y1 24, A4 31 32 33 34] = some (1, Hf) := by
  obtain ⟨Hf, hf⟩ := own_456 x0 x1 13 14 21 y0 y1 24 31 l (x1 + y1 + c) 34
  refine ⟨Hf, ?_⟩
  rw [own_236, own_281, own_314]; unfold m0_b343
  rw [if_pos (rfl : (0 : Int32) = 0)]
  refine bs (x := [A4 x0 x1 13 14, A4 21 y0 y1 24, A4 31 32 33 34, A4 x0 x1 13 14, A4 21 y0 y1 24, A4 31 l 33 34]) rfl ?_
  refine bs (x := [A4 x0 x1 13 14, A4 21 y0 y1 24, A4 31 32 33 34, A4 x0 x1 13 14, A4 21 y0 y1 24, A4 31 l (x1 + y1 + c) 34]) rfl ?_
  refine bs (x := [A4 x0 x1 13 14, A4 21 y0 y1 24, A4 31 l (x1 + y1 + c) 34, A4 x0 x1 13 14, A4 21 y0 y1 24, A4 31 l (x1 + y1 + c) 34]) (own_add2 (x0 := x0) (x1 := x1) (y0 := y0) (y1 := y1) (H1 := [A4 x0 x1 13 14, A4 21 y0 y1 24, A4 31 l 33 34, A4 x0 x1 13 14, A4 21 y0 y1 24, A4 31 l (x1 + y1 + c) 34]) h.1 h.2 rfl rfl rfl rfl rfl rfl) ?_
  exact hf
theorem own_c0011' (x0 x1 y0 y1 : Int64) (h0 : 0 ≤ x0.toInt) (h1 : 0 ≤ x1.toInt) (h2 : 0 ≤ y0.toInt) (h3 : 0 ≤ y1.toInt) (h4 : x1.toInt < 4611686018427387904) (h5 : y1.toInt < 4611686018427387904) : ∃ Hf, m0_b74 9223372036854775807 x0 x1 y0 y1 0 1 1 0 [] = some (1, Hf) := by
  rw [own_74, own_w01]; unfold m0_b193
  by_cases g : 9223372036854775807 - y0 < x0
  · rw [if_pos g]; unfold m0_b209; rw [if_pos (rfl : (1 : Int64) = 1)]; exact own_c0011 x0 x1 y0 y1 _ _ (own_sum h0 h1 h2 h3 h4 h5 (Or.inl ⟨g, rfl, rfl⟩))
  · rw [if_neg g]; unfold m0_b209; rw [if_neg (by decide : ¬ (0 : Int64) = 1)]; exact own_c0011 x0 x1 y0 y1 _ _ (own_sum h0 h1 h2 h3 h4 h5 (Or.inr ⟨g, rfl, rfl⟩))
theorem own_c0012 (x0 x1 y0 y1 c l : Int64) (h : ((x0 + y0) + 0) &&& 9223372036854775807 = l ∧ ((x1 + y1) + XT.ushrL ((x0 + y0) + 0) 63) &&& 9223372036854775807 = (x1 + y1) + c) : ∃ Hf, m0_b236 x1 y1 0 1 2 0 0 1 2 c l [A4 x0 x1 13 14, A4 21 y0 y1 24, A4 31 32 33 34] = some (1, Hf) := by
  obtain ⟨Hf, hf⟩ := own_456 x0 x1 13 14 21 y0 y1 24 31 32 l (x1 + y1 + c)
  refine ⟨Hf, ?_⟩
  rw [own_236, own_281, own_314]; unfold m0_b343
  rw [if_pos (rfl : (0 : Int32) = 0)]
  refine bs (x := [A4 x0 x1 13 14, A4 21 y0 y1 24, A4 31 32 33 34, A4 x0 x1 13 14, A4 21 y0 y1 24, A4 31 32 l 34]) rfl ?_
  refine bs (x := [A4 x0 x1 13 14, A4 21 y0 y1 24, A4 31 32 33 34, A4 x0 x1 13 14, A4 21 y0 y1 24, A4 31 32 l (x1 + y1 + c)]) rfl ?_
  refine bs (x := [A4 x0 x1 13 14, A4 21 y0 y1 24, A4 31 32 l (x1 + y1 + c), A4 x0 x1 13 14, A4 21 y0 y1 24, A4 31 32 l (x1 + y1 + c)]) (own_add2 (x0 := x0) (x1 := x1) (y0 := y0) (y1 := y1) (H1 := [A4 x0 x1 13 14, A4 21 y0 y1 24, A4 31 32 l 34, A4 x0 x1 13 14, A4 21 y0 y1 24, A4 31 32 l (x1 + y1 + c)]) h.1 h.2 rfl rfl rfl rfl rfl rfl) ?_
  exact hf
theorem own_c0012' (x0 x1 y0 y1 : Int64) (h0 : 0 ≤ x0.toInt) (h1 : 0 ≤ x1.toInt) (h2 : 0 ≤ y0.toInt) (h3 : 0 ≤ y1.toInt) (h4 : x1.toInt < 4611686018427387904) (h5 : y1.toInt < 4611686018427387904) : ∃ Hf, m0_b74 9223372036854775807 x0 x1 y0 y1 0 1 2 0 [] = some (1, Hf) := by
  rw [own_74, own_w01]; unfold m0_b193
  by_cases g : 9223372036854775807 - y0 < x0
  · rw [if_pos g]; unfold m0_b209; rw [if_pos (rfl : (1 : Int64) = 1)]; exact own_c0012 x0 x1 y0 y1 _ _ (own_sum h0 h1 h2 h3 h4 h5 (Or.inl ⟨g, rfl, rfl⟩))
  · rw [if_neg g]; unfold m0_b209; rw [if_neg (by decide : ¬ (0 : Int64) = 1)]; exact own_c0012 x0 x1 y0 y1 _ _ (own_sum h0 h1 h2 h3 h4 h5 (Or.inr ⟨g, rfl, rfl⟩))
theorem own_c0020 (x0 x1 y0 y1 c l : Int64) (h : ((x0 + y0) + 0) &&& 9223372036854775807 = l ∧ ((x1 + y1) + XT.ushrL ((x0 + y0) + 0) 63) &&& 9223372036854775807 = (x1 + y1) + c) : ∃ Hf, m0_b236 x1 y1 0 2 0 0 0 1 2 c l [A4 x0 x1 13 14, A4 21 22 y0 y1, A4 31 32 33 34] = some (1, Hf) := by
  obtain ⟨Hf, hf⟩ := own_456 x0 x1 13 14 21 22 y0 y1 l (x1 + y1 + c) 33 34
  refine ⟨Hf, ?_⟩
  rw [own_236, own_281, own_314]; unfold m0_b343
  rw [if_pos (rfl : (0 : Int32) = 0)]
  refine bs (x := [A4 x0 x1 13 14, A4 21 22 y0 y1, A4 31 32 33 34, A4 x0 x1 13 14, A4 21 22 y0 y1, A4 l 32 33 34]) rfl ?_
  refine bs (x := [A4 x0 x1 13 14, A4 21 22 y0 y1, A4 31 32 33 34, A4 x0 x1 13 14, A4 21 22 y0 y1, A4 l (x1 + y1 + c) 33 34]) rfl ?_
  refine bs (x := [A4 x0 x1 13 14, A4 21 22 y0 y1, A4 l (x1 + y1 + c) 33 34, A4 x0 x1 13 14, A4 21 22 y0 y1, A4 l (x1 + y1 + c) 33 34]) (own_add2 (x0 := x0) (x1 := x1) (y0 := y0) (y1 := y1) (H1 := [A4 x0 x1 13 14, A4 21 22 y0 y1, A4 l 32 33 34, A4 x0 x1 13 14, A4 21 22 y0 y1, A4 l (x1 + y1 + c) 33 34]) h.1 h.2 rfl rfl rfl rfl rfl rfl) ?_
  exact hf
theorem own_c0020' (x0 x1 y0 y1 : Int64) (h0 : 0 ≤ x0.toInt) (h1 : 0 ≤ x1.toInt) (h2 : 0 ≤ y0.toInt) (h3 : 0 ≤ y1.toInt) (h4 : x1.toInt < 4611686018427387904) (h5 : y1.toInt < 4611686018427387904) : ∃ Hf, m0_b74 9223372036854775807 x0 x1 y0 y1 0 2 0 0 [] = some (1, Hf) := by
  rw [own_74, own_w02]; unfold m0_b193
  by_cases g : 9223372036854775807 - y0 < x0
  · rw [if_pos g]; unfold m0_b209; rw [if_pos (rfl : (1 : Int64) = 1)]; exact own_c0020 x0 x1 y0 y1 _ _ (own_sum h0 h1 h2 h3 h4 h5 (Or.inl ⟨g, rfl, rfl⟩))
  · rw [if_neg g]; unfold m0_b209; rw [if_neg (by decide : ¬ (0 : Int64) = 1)]; exact own_c0020 x0 x1 y0 y1 _ _ (own_sum h0 h1 h2 h3 h4 h5 (Or.inr ⟨g, rfl, rfl⟩))
theorem own_c0021 (x0 x1 y0 y1 c l : Int64) (h : ((x0 + y0) + 0) &&& 9223372036854775807 = l ∧ ((x1 + y1) + XT.ushrL ((x0 + y0) + 0) 63) &&& 9223372036854775807 = (x1 + y1) + c) : ∃ Hf, m0_b236 x1 y1 0 2 1 0 0 1 2 c l [A4 x0 x1 13 14, A4 21 22 y0 y1, A4 31 32 33 34] = some (1, Hf) := by
  obtain ⟨Hf, hf⟩ := own_456 x0 x1 13 14 21 22 y0 y1 31 l (x1 + y1 + c) 34
  refine ⟨Hf, ?_⟩
  rw [own_236, own_281, own_314]; unfold m0_b343
  rw [if_pos (rfl : (0 : Int32) = 0)]
  refine bs (x := [A4 x0 x1 13 14, A4 21 22 y0 y1, A4 31 32 33 34, A4 x0 x1 13 14, A4 21 22 y0 y1, A4 31 l 33 34]) rfl ?_
  refine bs (x := [A4 x0 x1 13 14, A4 21 22 y0 y1, A4 31 32 33 34, A4 x0 x1 13 14, A4 21 22 y0 y1, A4 31 l (x1 + y1 + c) 34]) rfl ?_
  refine bs (x := [A4 x0 x1 13 14, A4 21 22 y0 y1, A4 31 l (x1 + y1 + c) 34, A4 x0 x1 13 14, A4 21 22 y0 y1, A4 31 l (x1 + y1 + c) 34]) (own_add2 (x0 := x0) (x1 := x1) (y0 := y0) (y1 := y1) (H1 := [A4 x0 x1 13 14, A4 21 22 y0 y1, A4 31 l 33 34, A4 x0 x1 13 14, A4 21 22 y0 y1, A4 31 l (x1 + y1 + c) 34]) h.1 h.2 rfl rfl rfl rfl rfl rfl) ?_
  exact hf
theorem own_c0021' (x0 x1 y0 y1 : Int64) (h0 : 0 ≤ x0.toInt) (h1 : 0 ≤ x1.toInt) (h2 : 0 ≤ y0.toInt) (h3 : 0 ≤ y1.toInt) (h4 : x1.toInt < 4611686018427387904) (h5 : y1.toInt < 4611686018427387904) : ∃ Hf, m0_b74 9223372036854775807 x0 x1 y0 y1 0 2 1 0 [] = some (1, Hf) := by
  rw [own_74, own_w02]; unfold m0_b193
  by_cases g : 9223372036854775807 - y0 < x0
  · rw [if_pos g]; unfold m0_b209; rw [if_pos (rfl : (1 : Int64) = 1)]; exact own_c0021 x0 x1 y0 y1 _ _ (own_sum h0 h1 h2 h3 h4 h5 (Or.inl ⟨g, rfl, rfl⟩))
  · rw [if_neg g]; unfold m0_b209; rw [if_neg (by decide : ¬ (0 : Int64) = 1)]; exact own_c0021 x0 x1 y0 y1 _ _ (own_sum h0 h1 h2 h3 h4 h5 (Or.inr ⟨g, rfl, rfl⟩))
theorem own_c0022 (x0 x1 y0 y1 c l : Int64) (h : ((x0 + y0) + 0) &&& 9223372036854775807 = l ∧ ((x1 + y1) + XT.ushrL ((x0 + y0) + 0) 63) &&& 9223372036854775807 = (x1 + y1) + c) : ∃ Hf, m0_b236 x1 y1 0 2 2 0 0 1 2 c l [A4 x0 x1 13 14, A4 21 22 y0 y1, A4 31 32 33 34] = some (1, Hf) := by
  obtain ⟨Hf, hf⟩ := own_456 x0 x1 13 14 21 22 y0 y1 31 32 l (x1 + y1 + c)
  refine ⟨Hf, ?_⟩
  rw [own_236, own_281, own_314]; unfold m0_b343
  rw [if_pos (rfl : (0 : Int32) = 0)]
  refine bs (x := [A4 x0 x1 13 14, A4 21 22 y0 y1, A4 31 32 33 34, A4 x0 x1 13 14, A4 21 22 y0 y1, A4 31 32 l 34]) rfl ?_
  refine bs (x := [A4 x0 x1 13 14, A4 21 22 y0 y1, A4 31 32 33 34, A4 x0 x1 13 14, A4 21 22 y0 y1, A4 31 32 l (x1 + y1 + c)]) rfl ?_
  refine bs (x := [A4 x0 x1 13 14, A4 21 22 y0 y1, A4 31 32 l (x1 + y1 + c), A4 x0 x1 13 14, A4 21 22 y0 y1, A4 31 32 l (x1 + y1 + c)]) (own_add2 (x0 := x0) (x1 := x1) (y0 := y0) (y1 := y1) (H1 := [A4 x0 x1 13 14, A4 21 22 y0 y1, A4 31 32 l 34, A4 x0 x1 13 14, A4 21 22 y0 y1, A4 31 32 l (x1 + y1 + c)]) h.1 h.2 rfl rfl rfl rfl rfl rfl) ?_
  exact hf
theorem own_c0022' (x0 x1 y0 y1 : Int64) (h0 : 0 ≤ x0.toInt) (h1 : 0 ≤ x1.toInt) (h2 : 0 ≤ y0.toInt) (h3 : 0 ≤ y1.toInt) (h4 : x1.toInt < 4611686018427387904) (h5 : y1.toInt < 4611686018427387904) : ∃ Hf, m0_b74 9223372036854775807 x0 x1 y0 y1 0 2 2 0 [] = some (1, Hf) := by
  rw [own_74, own_w02]; unfold m0_b193
  by_cases g : 9223372036854775807 - y0 < x0
  · rw [if_pos g]; unfold m0_b209; rw [if_pos (rfl : (1 : Int64) = 1)]; exact own_c0022 x0 x1 y0 y1 _ _ (own_sum h0 h1 h2 h3 h4 h5 (Or.inl ⟨g, rfl, rfl⟩))
  · rw [if_neg g]; unfold m0_b209; rw [if_neg (by decide : ¬ (0 : Int64) = 1)]; exact own_c0022 x0 x1 y0 y1 _ _ (own_sum h0 h1 h2 h3 h4 h5 (Or.inr ⟨g, rfl, rfl⟩))
theorem own_c0100 (x0 x1 y0 y1 c l : Int64) (h : ((x0 + y0) + 0) &&& 9223372036854775807 = l ∧ ((x1 + y1) + XT.ushrL ((x0 + y0) + 0) 63) &&& 9223372036854775807 = (x1 + y1) + c) : ∃ Hf, m0_b236 x1 y1 1 0 0 0 0 1 2 c l [A4 11 x0 x1 14, A4 y0 y1 23 24, A4 31 32 33 34] = some (1, Hf) := by
  obtain ⟨Hf, hf⟩ := own_456 11 x0 x1 14 y0 y1 23 24 l (x1 + y1 + c) 33 34
  refine ⟨Hf, ?_⟩
  rw [own_236, own_281, own_314]; unfold m0_b343
  rw [if_pos (rfl : (0 : Int32) = 0)]
  refine bs (x := [A4 11 x0 x1 14, A4 y0 y1 23 24, A4 31 32 33 34, A4 11 x0 x1 14, A4 y0 y1 23 24, A4 l 32 33 34]) rfl ?_
  refine bs (x := [A4 11 x0 x1 14, A4 y0 y1 23 24, A4 31 32 33 34, A4 11 x0 x1 14, A4 y0 y1 23 24, A4 l (x1 + y1 + c) 33 34]) rfl ?_
  refine bs (x := [A4 11 x0 x1 14, A4 y0 y1 23 24, A4 l (x1 + y1 + c) 33 34, A4 11 x0 x1 14, A4 y0 y1 23 24, A4 l (x1 + y1 + c) 33 34]) (own_add2 (x0 := x0) (x1 := x1) (y0 := y0) (y1 := y1) (H1 := [A4 11 x0 x1 14, A4 y0 y1 23 24, A4 l 32 33 34, A4 11 x0 x1 14, A4 y0 y1 23 24, A4 l (x1 + y1 + c) 33 34]) h.1 h.2 rfl rfl rfl rfl rfl rfl) ?_
  exact hf
theorem own_c0100' (x0 x1 y0 y1 : Int64) (h0 : 0 ≤ x0.toInt) (h1 : 0 ≤ x1.toInt) (h2 : 0 ≤ y0.toInt) (h3 : 0 ≤ y1.toInt) (h4 : x1.toInt < 4611686018427387904) (h5 : y1.toInt < 4611686018427387904) : ∃ Hf, m0_b74 9223372036854775807 x0 x1 y0 y1 1 0 0 0 [] = some (1, Hf) := by
  rw [own_74, own_w10]; unfold m0_b193
  by_cases g : 9223372036854775807 - y0 < x0
  · rw [if_pos g]; unfold m0_b209; rw [if_pos (rfl : (1 : Int64) = 1)]; exact own_c0100 x0 x1 y0 y1 _ _ (own_sum h0 h1 h2 h3 h4 h5 (Or.inl ⟨g, rfl, rfl⟩))
  · rw [if_neg g]; unfold m0_b209; rw [if_neg (by decide : ¬ (0 : Int64) = 1)]; exact own_c0100 x0 x1 y0 y1 _ _ (own_sum h0 h1 h2 h3 h4 h5 (Or.inr ⟨g, rfl, rfl⟩))
theorem own_c0101 (x0 x1 y0 y1 c l : Int64) (h : ((x0 + y0) + 0) &&& 9223372036854775807 = l ∧ ((x1 + y1) + XT.ushrL ((x0 + y0) + 0) 63) &&& 9223372036854775807 = (x1 + y1) + c) : ∃ Hf, m0_b236 x1 y1 1 0 1 0 0 1 2 c l [A4 11 x0 x1 14, A4 y0 y1 23 24, A4 31 32 33 34] = some (1, Hf) := by
  obtain ⟨Hf, hf⟩ := own_456 11 x0 x1 14 y0 y1 23 24 31 l (x1 + y1 + c) 34
  refine ⟨Hf, ?_⟩
  rw [own_236, own_281, own_314]; unfold m0_b343
  rw [if_pos (rfl : (0 : Int32) = 0)]
  refine bs (x := [A4 11 x0 x1 14, A4 y0 y1 23 24, A4 31 32 33 34, A4 11 x0 x1 14, A4 y0 y1 23 24, A4 31 l 33 34]) rfl ?_
  refine bs (x := [A4 11 x0 x1 14, A4 y0 y1 23 24, A4 31 32 33 34, A4 11 x0 x1 14, A4 y0 y1 23 24, A4 31 l (x1 + y1 + c) 34]) rfl ?_
  refine bs (x := [A4 11 x0 x1 14, A4 y0 y1 23 24, A4 31 l (x1 + y1 + c) 34, A4 11 x0 x1 14, A4 y0 y1 23 24, A4 31 l (x1 + y1 + c) 34]) (own_add2 (x0 := x0) (x1 := x1) (y0 := y0) (y1 := y1) (H1 := [A4 11 x0 x1 14, A4 y0 y1 23 24, A4 31 l 33 34, A4 11 x0 x1 14, A4 y0 y1 23 24, A4 31 l (x1 + y1 + c) 34]) h.1 h.2 rfl rfl rfl rfl rfl rfl) ?_
  exact hf
theorem own_c0101' (x0 x1 y0 y1 : Int64) (h0 : 0 ≤ x0.toInt) (h1 : 0 ≤ x1.toInt) (h2 : 0 ≤ y0.toInt) (h3 : 0 ≤ y1.toInt) (h4 : x1.toInt < 4611686018427387904) (h5 : y1.toInt < 4611686018427387904) : ∃ Hf, m0_b74 9223372036854775807 x0 x1 y0 y1 1 0 1 0 [] = some (1, Hf) := by
  rw [own_74, own_w10]; unfold m0_b193
  by_cases g : 9223372036854775807 - y0 < x0
  · rw [if_pos g]; unfold m0_b209; rw [if_pos (rfl : (1 : Int64) = 1)]; exact own_c0101 x0 x1 y0 y1 _ _ (own_sum h0 h1 h2 h3 h4 h5 (Or.inl ⟨g, rfl, rfl⟩))
  · rw [if_neg g]; unfold m0_b209; rw [if_neg (by decide : ¬ (0 : Int64) = 1)]; exact own_c0101 x0 x1 y0 y1 _ _ (own_sum h0 h1 h2 h3 h4 h5 (Or.inr ⟨g, rfl, rfl⟩))
theorem own_c0102 (x0 x1 y0 y1 c l : Int64) (h : ((x0 + y0) + 0) &&& 9223372036854775807 = l ∧ ((x1 + y1) + XT.ushrL ((x0 + y0) + 0) 63) &&& 9223372036854775807 = (x1 + y1) + c) : ∃ Hf, m0_b236 x1 y1 1 0 2 0 0 1 2 c l [A4 11 x0 x1 14, A4 y0 y1 23 24, A4 31 32 33 34] = some (1, Hf) := by
  obtain ⟨Hf, hf⟩ := own_456 11 x0 x1 14 y0 y1 23 24 31 32 l (x1 + y1 + c)
  refine ⟨Hf, ?_⟩
  rw [own_236, own_281, own_314]; unfold m0_b343
  rw [if_pos (rfl : (0 : Int32) = 0)]
  refine bs (x := [A4 11 x0 x1 14, A4 y0 y1 23 24, A4 31 32 33 34, A4 11 x0 x1 14, A4 y0 y1 23 24, A4 31 32 l 34]) rfl ?_
  refine bs (x := [A4 11 x0 x1 14, A4 y0 y1 23 24, A4 31 32 33 34, A4 11 x0 x1 14, A4 y0 y1 23 24, A4 31 32 l (x1 + y1 + c)]) rfl ?_
  refine bs (x := [A4 11 x0 x1 14, A4 y0 y1 23 24, A4 31 32 l (x1 + y1 + c), A4 11 x0 x1 14, A4 y0 y1 23 24, A4 31 32 l (x1 + y1 + c)]) (own_add2 (x0 := x0) (x1 := x1) (y0 := y0) (y1 := y1) (H1 := [A4 11 x0 x1 14, A4 y0 y1 23 24, A4 31 32 l 34, A4 11 x0 x1 14, A4 y0 y1 23 24, A4 31 32 l (x1 + y1 + c)]) h.1 h.2 rfl rfl rfl rfl rfl rfl) ?_
  exact hf
theorem own_c0102' (x0 x1 y0 y1 : Int64) (h0 : 0 ≤ x0.toInt) (h1 : 0 ≤ x1.toInt) (h2 : 0 ≤ y0.toInt) (h3 : 0 ≤ y1.toInt) (h4 : x1.toInt < 4611686018427387904) (h5 : y1.toInt < 4611686018427387904) : ∃ Hf, m0_b74 9223372036854775807 x0 x1 y0 y1 1 0 2 0 [] = some (1, Hf) := by
  rw [own_74, own_w10]; unfold m0_b193
  by_cases g : 9223372036854775807 - y0 < x0
  · rw [if_pos g]; unfold m0_b209; rw [if_pos (rfl : (1 : Int64) = 1)]; exact own_c0102 x0 x1 y0 y1 _ _ (own_sum h0 h1 h2 h3 h4 h5 (Or.inl ⟨g, rfl, rfl⟩))
  · rw [if_neg g]; unfold m0_b209; rw [if_neg (by decide : ¬ (0 : Int64) = 1)]; exact own_c0102 x0 x1 y0 y1 _ _ (own_sum h0 h1 h2 h3 h4 h5 (Or.inr ⟨g, rfl, rfl⟩))
theorem own_c0110 (x0 x1 y0 y1 c l : Int64) (h : ((x0 + y0) + 0) &&& 9223372036854775807 = l ∧ ((x1 + y1) + XT.ushrL ((x0 + y0) + 0) 63) &&& 9223372036854775807 = (x1 + y1) + c) : ∃ Hf, m0_b236 x1 y1 1 1 0 0 0 1 2 c l [A4 11 x0 x1 14, A4 21 y0 y1 24, A4 31 32 33 34] = some (1, Hf) := by
  obtain ⟨Hf, hf⟩ := own_456 11 x0 x1 14 21 y0 y1 24 l (x1 + y1 + c) 33 34
  refine ⟨Hf, ?_⟩
  rw [own_236, own_281, own_314]; unfold m0_b343
  rw [if_pos (rfl : (0 : Int32) = 0)]
  refine bs (x := [A4 11 x0 x1 14, A4 21 y0 y1 24, A4 31 32 33 34, A4 11 x0 x1 14, A4 21 y0 y1 24, A4 l 32 33 34]) rfl ?_
  refine bs (x := [A4 11 x0 x1 14, A4 21 y0 y1 24, A4 31 32 33 34, A4 11 x0 x1 14, A4 21 y0 y1 24, A4 l (x1 + y1 + c) 33 34]) rfl ?_
  refine bs (x := [A4 11 x0 x1 14, A4 21 y0 y1 24, A4 l (x1 + y1 + c) 33 34, A4 11 x0 x1 14, A4 21 y0 y1 24, A4 l (x1 + y1 + c) 33 34]) (own_add2 (x0 := x0) (x1 := x1) (y0 := y0) (y1 := y1) (H1 := [A4 11 x0 x1 14, A4 21 y0 y1 24, A4 l 32 33 34, A4 11 x0 x1 14, A4 21 y0 y1 24, A4 l (x1 + y1 + c) 33 34]) h.1 h.2 rfl rfl rfl rfl rfl rfl) ?_
  exact hf
theorem own_c0110' (x0 x1 y0 y1 : Int64) (h0 : 0 ≤ x0.toInt) (h1 : 0 ≤ x1.toInt) (h2 : 0 ≤ y0.toInt) (h3 : 0 ≤ y1.toInt) (h4 : x1.toInt < 4611686018427387904) (h5 : y1.toInt < 4611686018427387904) : ∃ Hf, m0_b74 9223372036854775807 x0 x1 y0 y1 1 1 0 0 [] = some (1, Hf) := by
  rw [own_74, own_w11]; unfold m0_b193
  by_cases g : 9223372036854775807 - y0 < x0
  · rw [if_pos g]; unfold m0_b209; rw [if_pos (rfl : (1 : Int64) = 1)]; exact own_c0110 x0 x1 y0 y1 _ _ (own_sum h0 h1 h2 h3 h4 h5 (Or.inl ⟨g, rfl, rfl⟩))
  · rw [if_neg g]; unfold m0_b209; rw [if_neg (by decide : ¬ (0 : Int64) = 1)]; exact own_c0110 x0 x1 y0 y1 _ _ (own_sum h0 h1 h2 h3 h4 h5 (Or.inr ⟨g, rfl, rfl⟩))
theorem own_c0111 (x0 x1 y0 y1 c l : Int64) (h : ((x0 + y0) + 0) &&& 9223372036854775807 = l ∧ ((x1 + y1) + XT.ushrL ((x0 + y0) + 0) 63) &&& 9223372036854775807 = (x1 + y1) + c) : ∃ Hf, m0_b236 x1 y1 1 1 1 0 0 1 2 c l [A4 11 x0 x1 14, A4 21 y0 y1 24, A4 31 32 33 34] = some (1, Hf) := by
  obtain ⟨Hf, hf⟩ := own_456 11 x0 x1 14 21 y0 y1 24 31 l (x1 + y1 + c) 34
  refine ⟨Hf, ?_⟩
  rw [own_236, own_281, own_314]; unfold m0_b343
  rw [if_pos (rfl : (0 : Int32) = 0)]
  refine bs (x := [A4 11 x0 x1 14, A4 21 y0 y1 24, A4 31 32 33 34, A4 11 x0 x1 14, A4 21 y0 y1 24, A4 31 l 33 34]) rfl ?_
  refine bs (x := [A4 11 x0 x1 14, A4 21 y0 y1 24, A4 31 32 33 34, A4 11 x0 x1 14, A4 21 y0 y1 24, A4 31 l (x1 + y1 + c) 34]) rfl ?_
  refine bs (x := [A4 11 x0 x1 14, A4 21 y0 y1 24, A4 31 l (x1 + y1 + c) 34, A4 11 x0 x1 14, A4 21 y0 y1 24, A4 31 l (x1 + y1 + c) 34]) (own_add2 (x0 := x0) (x1 := x1) (y0 := y0) (y1 := y1) (H1 := [A4 11 x0 x1 14, A4 21 y0 y1 24, A4 31 l 33 34, A4 11 x0 x1 14, A4 21 y0 y1 24, A4 31 l (x1 + y1 + c) 34]) h.1 h.2 rfl rfl rfl rfl rfl rfl) ?_
  exact hf
theorem own_c0111' (x0 x1 y0 y1 : Int64) (h0 : 0 ≤ x0.toInt) (h1 : 0 ≤ x1.toInt) (h2 : 0 ≤ y0.toInt) (h3 : 0 ≤ y1.toInt) (h4 : x1.toInt < 4611686018427387904) (h5 : y1.toInt < 4611686018427387904) : ∃ Hf, m0_b74 9223372036854775807 x0 x1 y0 y1 1 1 1 0 [] = some (1, Hf) := by
  rw [own_74, own_w11]; unfold m0_b193
  by_cases g : 9223372036854775807 - y0 < x0
  · rw [if_pos g]; unfold m0_b209; rw [if_pos (rfl : (1 : Int64) = 1)]; exact own_c0111 x0 x1 y0 y1 _ _ (own_sum h0 h1 h2 h3 h4 h5 (Or.inl ⟨g, rfl, rfl⟩))
  · rw [if_neg g]; unfold m0_b209; rw [if_neg (by decide : ¬ (0 : Int64) = 1)]; exact own_c0111 x0 x1 y0 y1 _ _ (own_sum h0 h1 h2 h3 h4 h5 (Or.inr ⟨g, rfl, rfl⟩))
theorem own_c0112 (x0 x1 y0 y1 c l : Int64) (h : ((x0 + y0) + 0) &&& 9223372036854775807 = l ∧ ((x1 + y1) + XT.ushrL ((x0 + y0) + 0) 63) &&& 9223372036854775807 = (x1 + y1) + c) : ∃ Hf, m0_b236 x1 y1 1 1 2 0 0 1 2 c l [A4 11 x0 x1 14, A4 21 y0 y1 24, A4 31 32 33 34] = some (1, Hf) := by
  obtain ⟨Hf, hf⟩ := own_456 11 x0 x1 14 21 y0 y1 24 31 32 l (x1 + y1 + c)
  refine ⟨Hf, ?_⟩
  rw [own_236, own_281, own_314]; unfold m0_b343
  rw [if_pos (rfl : (0 : Int32) = 0)]
  refine bs (x := [A4 11 x0 x1 14, A4 21 y0 y1 24, A4 31 32 33 34, A4 11 x0 x1 14, A4 21 y0 y1 24, A4 31 32 l 34]) rfl ?_
  refine bs (x := [A4 11 x0 x1 14, A4 21 y0 y1 24, A4 31 32 33 34, A4 11 x0 x1 14, A4 21 y0 y1 24, A4 31 32 l (x1 + y1 + c)]) rfl ?_
  refine bs (x := [A4 11 x0 x1 14, A4 21 y0 y1 24, A4 31 32 l (x1 + y1 + c), A4 11 x0 x1 14, A4 21 y0 y1 24, A4 31 32 l (x1 + y1 + c)]) (own_add2 (x0 := x0) (x1 := x1) (y0 := y0) (y1 := y1) (H1 := [A4 11 x0 x1 14, A4 21 y0 y1 24, A4 31 32 l 34, A4 11 x0 x1 14, A4 21 y0 y1 24, A4 31 32 l (x1 + y1 + c)]) h.1 h.2 rfl rfl rfl rfl rfl rfl) ?_
  exact hf
theorem own_c0112' (x0 x1 y0 y1 : Int64) (h0 : 0 ≤ x0.toInt) (h1 : 0 ≤ x1.toInt) (h2 : 0 ≤ y0.toInt) (h3 : 0 ≤ y1.toInt) (h4 : x1.toInt < 4611686018427387904) (h5 : y1.toInt < 4611686018427387904) : ∃ Hf, m0_b74 9223372036854775807 x0 x1 y0 y1 1 1 2 0 [] = some (1, Hf) := by
  rw [own_74, own_w11]; unfold m0_b193
  by_cases g : 9223372036854775807 - y0 < x0
  · rw [if_pos g]; unfold m0_b209; rw [if_pos (rfl : (1 : Int64) = 1)]; exact own_c0112 x0 x1 y0 y1 _ _ (own_sum h0 h1 h2 h3 h4 h5 (Or.inl ⟨g, rfl, rfl⟩))
  · rw [if_neg g]; unfold m0_b209; rw [if_neg (by decide : ¬ (0 : Int64) = 1)]; exact own_c0112 x0 x1 y0 y1 _ _ (own_sum h0 h1 h2 h3 h4 h5 (Or.inr ⟨g, rfl, rfl⟩))
theorem own_c0120 (x0 x1 y0 y1 c l : Int64) (h : ((x0 + y0) + 0) &&& 9223372036854775807 = l ∧ ((x1 + y1) + XT.ushrL ((x0 + y0) + 0) 63) &&& 9223372036854775807 = (x1 + y1) + c) : ∃ Hf, m0_b236 x1 y1 1 2 0 0 0 1 2 c l [A4 11 x0 x1 14, A4 21 22 y0 y1, A4 31 32 33 34] = some (1, Hf) := by
  obtain ⟨Hf, hf⟩ := own_456 11 x0 x1 14 21 22 y0 y1 l (x1 + y1 + c) 33 34
  refine ⟨Hf, ?_⟩
  rw [own_236, own_281, own_314]; unfold m0_b343
  rw [if_pos (rfl : (0 : Int32) = 0)]
  refine bs (x := [A4 11 x0 x1 14, A4 21 22 y0 y1, A4 31 32 33 34, A4 11 x0 x1 14, A4 21 22 y0 y1, A4 l 32 33 34]) rfl ?_
  refine bs (x := [A4 11 x0 x1 14, A4 21 22 y0 y1, A4 31 32 33 34, A4 11 x0 x1 14, A4 21 22 y0 y1, A4 l (x1 + y1 + c) 33 34]) rfl ?_
  refine bs (x := [A4 11 x0 x1 14, A4 21 22 y0 y1, A4 l (x1 + y1 + c) 33 34, A4 11 x0 x1 14, A4 21 22 y0 y1, A4 l (x1 + y1 + c) 33 34]) (own_add2 (x0 := x0) (x1 := x1) (y0 := y0) (y1 := y1) (H1 := [A4 11 x0 x1 14, A4 21 22 y0 y1, A4 l 32 33 34, A4 11 x0 x1 14, A4 21 22 y0 y1, A4 l (x1 + y1 + c) 33 34]) h.1 h.2 rfl rfl rfl rfl rfl rfl) ?_
  exact hf
theorem own_c0120' (x0 x1 y0 y1 : Int64) (h0 : 0 ≤ x0.toInt) (h1 : 0 ≤ x1.toInt) (h2 : 0 ≤ y0.toInt) (h3 : 0 ≤ y1.toInt) (h4 : x1.toInt < 4611686018427387904) (h5 : y1.toInt < 4611686018427387904) : ∃ Hf, m0_b74 9223372036854775807 x0 x1 y0 y1 1 2 0 0 [] = some (1, Hf) := by
  rw [own_74, own_w12]; unfold m0_b193
  by_cases g : 9223372036854775807 - y0 < x0
  · rw [if_pos g]; unfold m0_b209; rw [if_pos (rfl : (1 : Int64) = 1)]; exact own_c0120 x0 x1 y0 y1 _ _ (own_sum h0 h1 h2 h3 h4 h5 (Or.inl ⟨g, rfl, rfl⟩))
  · rw [if_neg g]; unfold m0_b209; rw [if_neg (by decide : ¬ (0 : Int64) = 1)]; exact own_c0120 x0 x1 y0 y1 _ _ (own_sum h0 h1 h2 h3 h4 h5 (Or.inr ⟨g, rfl, rfl⟩))
theorem own_c0121 (x0 x1 y0 y1 c l : Int64) (h : ((x0 + y0) + 0) &&& 9223372036854775807 = l ∧ ((x1 + y1) + XT.ushrL ((x0 + y0) + 0) 63) &&& 9223372036854775807 = (x1 + y1) + c) : ∃ Hf, m0_b236 x1 y1 1 2 1 0 0 1 2 c l [A4 11 x0 x1 14, A4 21 22 y0 y1, A4 31 32 33 34] = some (1, Hf) := by
  obtain ⟨Hf, hf⟩ := own_456 11 x0 x1 14 21 22 y0 y1 31 l (x1 + y1 + c) 34
  refine ⟨Hf, ?_⟩
  rw [own_236, own_281, own_314]; unfold m0_b343
  rw [if_pos (rfl : (0 : Int32) = 0)]
  refine bs (x := [A4 11 x0 x1 14, A4 21 22 y0 y1, A4 31 32 33 34, A4 11 x0 x1 14, A4 21 22 y0 y1, A4 31 l 33 34]) rfl ?_
  refine bs (x := [A4 11 x0 x1 14, A4 21 22 y0 y1, A4 31 32 33 34, A4 11 x0 x1 14, A4 21 22 y0 y1, A4 31 l (x1 + y1 + c) 34]) rfl ?_
  refine bs (x := [A4 11 x0 x1 14, A4 21 22 y0 y1, A4 31 l (x1 + y1 + c) 34, A4 11 x0 x1 14, A4 21 22 y0 y1, A4 31 l (x1 + y1 + c) 34]) (own_add2 (x0 := x0) (x1 := x1) (y0 := y0) (y1 := y1) (H1 := [A4 11 x0 x1 14, A4 21 22 y0 y1, A4 31 l 33 34, A4 11 x0 x1 14, A4 21 22 y0 y1, A4 31 l (x1 + y1 + c) 34]) h.1 h.2 rfl rfl rfl rfl rfl rfl) ?_
  exact hf
theorem own_c0121' (x0 x1 y0 y1 : Int64) (h0 : 0 ≤ x0.toInt) (h1 : 0 ≤ x1.toInt) (h2 : 0 ≤ y0.toInt) (h3 : 0 ≤ y1.toInt) (h4 : x1.toInt < 4611686018427387904) (h5 : y1.toInt < 4611686018427387904) : ∃ Hf, m0_b74 9223372036854775807 x0 x1 y0 y1 1 2 1 0 [] = some (1, Hf) := by
  rw [own_74, own_w12]; unfold m0_b193
  by_cases g : 9223372036854775807 - y0 < x0
  · rw [if_pos g]; unfold m0_b209; rw [if_pos (rfl : (1 : Int64) = 1)]; exact own_c0121 x0 x1 y0 y1 _ _ (own_sum h0 h1 h2 h3 h4 h5 (Or.inl ⟨g, rfl, rfl⟩))
  · rw [if_neg g]; unfold m0_b209; rw [if_neg (by decide : ¬ (0 : Int64) = 1)]; exact own_c0121 x0 x1 y0 y1 _ _ (own_sum h0 h1 h2 h3 h4 h5 (Or.inr ⟨g, rfl, rfl⟩))
theorem own_c0122 (x0 x1 y0 y1 c l : Int64) (h : ((x0 + y0) + 0) &&& 9223372036854775807 = l ∧ ((x1 + y1) + XT.ushrL ((x0 + y0) + 0) 63) &&& 9223372036854775807 = (x1 + y1) + c) : ∃ Hf, m0_b236 x1 y1 1 2 2 0 0 1 2 c l [A4 11 x0 x1 14, A4 21 22 y0 y1, A4 31 32 33 34] = some (1, Hf) := by
  obtain ⟨Hf, hf⟩ := own_456 11 x0 x1 14 21 22 y0 y1 31 32 l (x1 + y1 + c)
  refine ⟨Hf, ?_⟩
  rw [own_236, own_281, own_314]; unfold m0_b343
  rw [if_pos (rfl : (0 : Int32) = 0)]
  refine bs (x := [A4 11 x0 x1 14, A4 21 22 y0 y1, A4 31 32 33 34, A4 11 x0 x1 14, A4 21 22 y0 y1, A4 31 32 l 34]) rfl ?_
  refine bs (x := [A4 11 x0 x1 14, A4 21 22 y0 y1, A4 31 32 33 34, A4 11 x0 x1 14, A4 21 22 y0 y1, A4 31 32 l (x1 + y1 + c)]) rfl ?_
  refine bs (x := [A4 11 x0 x1 14, A4 21 22 y0 y1, A4 31 32 l (x1 + y1 + c), A4 11 x0 x1 14, A4 21 22 y0 y1, A4 31 32 l (x1 + y1 + c)]) (own_add2 (x0 := x0) (x1 := x1) (y0 := y0) (y1 := y1) (H1 := [A4 11 x0 x1 14, A4 21 22 y0 y1, A4 31 32 l 34, A4 11 x0 x1 14, A4 21 22 y0 y1, A4 31 32 l (x1 + y1 + c)]) h.1 h.2 rfl rfl rfl rfl rfl rfl) ?_
  exact hf
theorem own_c0122' (x0 x1 y0 y1 : Int64) (h0 : 0 ≤ x0.toInt) (h1 : 0 ≤ x1.toInt) (h2 : 0 ≤ y0.toInt) (h3 : 0 ≤ y1.toInt) (h4 : x1.toInt < 4611686018427387904) (h5 : y1.toInt < 4611686018427387904) : ∃ Hf, m0_b74 9223372036854775807 x0 x1 y0 y1 1 2 2 0 [] = some (1, Hf) := by
  rw [own_74, own_w12]; unfold m0_b193
  by_cases g : 9223372036854775807 - y0 < x0
  · rw [if_pos g]; unfold m0_b209; rw [if_pos (rfl : (1 : Int64) = 1)]; exact own_c0122 x0 x1 y0 y1 _ _ (own_sum h0 h1 h2 h3 h4 h5 (Or.inl ⟨g, rfl, rfl⟩))
  · rw [if_neg g]; unfold m0_b209; rw [if_neg (by decide : ¬ (0 : Int64) = 1)]; exact own_c0122 x0 x1 y0 y1 _ _ (own_sum h0 h1 h2 h3 h4 h5 (Or.inr ⟨g, rfl, rfl⟩))
theorem own_c0200 (x0 x1 y0 y1 c l : Int64) (h : ((x0 + y0) + 0) &&& 9223372036854775807 = l ∧ ((x1 + y1) + XT.ushrL ((x0 + y0) + 0) 63) &&& 9223372036854775807 = (x1 + y1) + c) : ∃ Hf, m0_b236 x1 y1 2 0 0 0 0 1 2 c l [A4 11 12 x0 x1, A4 y0 y1 23 24, A4 31 32 33 34] = some (1, Hf) := by
  obtain ⟨Hf, hf⟩ := own_456 11 12 x0 x1 y0 y1 23 24 l (x1 + y1 + c) 33 34
  refine ⟨Hf, ?_⟩
  rw [own_236, own_281, own_314]; unfold m0_b343
  rw [if_pos (rfl : (0 : Int32) = 0)]
  refine bs (x := [A4 11 12 x0 x1, A4 y0 y1 23 24, A4 31 32 33 34, A4 11 12 x0 x1, A4 y0 y1 23 24, A4 l 32 33 34]) rfl ?_
  refine bs (x := [A4 11 12 x0 x1, A4 y0 y1 23 24, A4 31 32 33 34, A4 11 12 x0 x1, A4 y0 y1 23 24, A4 l (x1 + y1 + c) 33 34]) rfl ?_
  refine bs (x := [A4 11 12 x0 x1, A4 y0 y1 23 24, A4 l (x1 + y1 + c) 33 34, A4 11 12 x0 x1, A4 y0 y1 23 24, A4 l (x1 + y1 + c) 33 34]) (own_add2 (x0 := x0) (x1 := x1) (y0 := y0) (y1 := y1) (H1 := [A4 11 12 x0 x1, A4 y0 y1 23 24, A4 l 32 33 34, A4 11 12 x0 x1, A4 y0 y1 23 24, A4 l (x1 + y1 + c) 33 34]) h.1 h.2 rfl rfl rfl rfl rfl rfl) ?_
  exact hf
theorem own_c0200' (x0 x1 y0 y1 : Int64) (h0 : 0 ≤ x0.toInt) (h1 : 0 ≤ x1.toInt) (h2 : 0 ≤ y0.toInt) (h3 : 0 ≤ y1.toInt) (h4 : x1.toInt < 4611686018427387904) (h5 : y1.toInt < 4611686018427387904) : ∃ Hf, m0_b74 9223372036854775807 x0 x1 y0 y1 2 0 0 0 [] = some (1, Hf) := by
  rw [own_74, own_w20]; unfold m0_b193
  by_cases g : 9223372036854775807 - y0 < x0
  · rw [if_pos g]; unfold m0_b209; rw [if_pos (rfl : (1 : Int64) = 1)]; exact own_c0200 x0 x1 y0 y1 _ _ (own_sum h0 h1 h2 h3 h4 h5 (Or.inl ⟨g, rfl, rfl⟩))
  · rw [if_neg g]; unfold m0_b209; rw [if_neg (by decide : ¬ (0 : Int64) = 1)]; exact own_c0200 x0 x1 y0 y1 _ _ (own_sum h0 h1 h2 h3 h4 h5 (Or.inr ⟨g, rfl, rfl⟩))
theorem own_c0201 (x0 x1 y0 y1 c l : Int64) (h : ((x0 + y0) + 0) &&& 9223372036854775807 = l ∧ ((x1 + y1) + XT.ushrL ((x0 + y0) + 0) 63) &&& 9223372036854775807 = (x1 + y1) + c) : ∃ Hf, m0_b236 x1 y1 2 0 1 0 0 1 2 c l [A4 11 12 x0 x1, A4 y0 y1 23 24, A4 31 32 33 34] = some (1, Hf) := by
  obtain ⟨Hf, hf⟩ := own_456 11 12 x0 x1 y0 y1 23 24 31 l (x1 + y1 + c) 34
  refine ⟨Hf, ?_⟩
  rw [own_236, own_281, own_314]; unfold m0_b343
  rw [if_pos (rfl : (0 : Int32) = 0)]
  refine bs (x := [A4 11 12 x0 x1, A4 y0 y1 23 24, A4 31 32 33 34, A4 11 12 x0 x1, A4 y0 y1 23 24, A4 31 l 33 34]) rfl ?_
  refine bs (x := [A4 11 12 x0 x1, A4 y0 y1 23 24, A4 31 32 33 34, A4 11 12 x0 x1, A4 y0 y1 23 24, A4 31 l (x1 + y1 + c) 34]) rfl ?_
  refine bs (x := [A4 11 12 x0 x1, A4 y0 y1 23 24, A4 31 l (x1 + y1 + c) 34, A4 11 12 x0 x1, A4 y0 y1 23 24, A4 31 l (x1 + y1 + c) 34]) (own_add2 (x0 := x0) (x1 := x1) (y0 := y0) (y1 := y1) (H1 := [A4 11 12 x0 x1, A4 y0 y1 23 24, A4 31 l 33 34, A4 11 12 x0 x1, A4 y0 y1 23 24, A4 31 l (x1 + y1 + c) 34]) h.1 h.2 rfl rfl rfl rfl rfl rfl) ?_
  exact hf
theorem own_c0201' (x0 x1 y0 y1 : Int64) (h0 : 0 ≤ x0.toInt) (h1 : 0 ≤ x1.toInt) (h2 : 0 ≤ y0.toInt) (h3 : 0 ≤ y1.toInt) (h4 : x1.toInt < 4611686018427387904) (h5 : y1.toInt < 4611686018427387904) : ∃ Hf, m0_b74 9223372036854775807 x0 x1 y0 y1 2 0 1 0 [] = some (1, Hf) := by
  rw [own_74, own_w20]; unfold m0_b193
  by_cases g : 9223372036854775807 - y0 < x0
  · rw [if_pos g]; unfold m0_b209; rw [if_pos (rfl : (1 : Int64) = 1)]; exact own_c0201 x0 x1 y0 y1 _ _ (own_sum h0 h1 h2 h3 h4 h5 (Or.inl ⟨g, rfl, rfl⟩))
  · rw [if_neg g]; unfold m0_b209; rw [if_neg (by decide : ¬ (0 : Int64) = 1)]; exact own_c0201 x0 x1 y0 y1 _ _ (own_sum h0 h1 h2 h3 h4 h5 (Or.inr ⟨g, rfl, rfl⟩))
theorem own_c0202 (x0 x1 y0 y1 c l : Int64) (h : ((x0 + y0) + 0) &&& 9223372036854775807 = l ∧ ((x1 + y1) + XT.ushrL ((x0 + y0) + 0) 63) &&& 9223372036854775807 = (x1 + y1) + c) : ∃ Hf, m0_b236 x1 y1 2 0 2 0 0 1 2 c l [A4 11 12 x0 x1, A4 y0 y1 23 24, A4 31 32 33 34] = some (1, Hf) := by
  obtain ⟨Hf, hf⟩ := own_456 11 12 x0 x1 y0 y1 23 24 31 32 l (x1 + y1 + c)
  refine ⟨Hf, ?_⟩
  rw [own_236, own_281, own_314]; unfold m0_b343
  rw [if_pos (rfl : (0 : Int32) = 0)]
  refine bs (x := [A4 11 12 x0 x1, A4 y0 y1 23 24, A4 31 32 33 34, A4 11 12 x0 x1, A4 y0 y1 23 24, A4 31 32 l 34]) rfl ?_
  refine bs (x := [A4 11 12 x0 x1, A4 y0 y1 23 24, A4 31 32 33 34, A4 11 12 x0 x1, A4 y0 y1 23 24, A4 31 32 l (x1 + y1 + c)]) rfl ?_
  refine bs (x := [A4 11 12 x0 x1, A4 y0 y1 23 24, A4 31 32 l (x1 + y1 + c), A4 11 12 x0 x1, A4 y0 y1 23 24, A4 31 32 l (x1 + y1 + c)]) (own_add2 (x0 := x0) (x1 := x1) (y0 := y0) (y1 := y1) (H1 := [A4 11 12 x0 x1, A4 y0 y1 23 24, A4 31 32 l 34, A4 11 12 x0 x1, A4 y0 y1 23 24, A4 31 32 l (x1 + y1 + c)]) h.1 h.2 rfl rfl rfl rfl rfl rfl) ?_
  exact hf
theorem own_c0202' (x0 x1 y0 y1 : Int64) (h0 : 0 ≤ x0.toInt) (h1 : 0 ≤ x1.toInt) (h2 : 0 ≤ y0.toInt) (h3 : 0 ≤ y1.toInt) (h4 : x1.toInt < 4611686018427387904) (h5 : y1.toInt < 4611686018427387904) : ∃ Hf, m0_b74 9223372036854775807 x0 x1 y0 y1 2 0 2 0 [] = some (1, Hf) := by
  rw [own_74, own_w20]; unfold m0_b193
  by_cases g : 9223372036854775807 - y0 < x0
  · rw [if_pos g]; unfold m0_b209; rw [if_pos (rfl : (1 : Int64) = 1)]; exact own_c0202 x0 x1 y0 y1 _ _ (own_sum h0 h1 h2 h3 h4 h5 (Or.inl ⟨g, rfl, rfl⟩))
  · rw [if_neg g]; unfold m0_b209; rw [if_neg (by decide : ¬ (0 : Int64) = 1)]; exact own_c0202 x0 x1 y0 y1 _ _ (own_sum h0 h1 h2 h3 h4 h5 (Or.inr ⟨g, rfl, rfl⟩))
theorem own_c0210 (x0 x1 y0 y1 c l : Int64) (h : ((x0 + y0) + 0) &&& 9223372036854775807 = l ∧ ((x1 + y1) + XT.ushrL ((x0 + y0) + 0) 63) &&& 9223372036854775807 = (x1 + y1) + c) : ∃ Hf, m0_b236 x1 y1 2 1 0 0 0 1 2 c l [A4 11 12 x0 x1, A4 21 y0 y1 24, A4 31 32 33 34] = some (1, Hf) := by
  obtain ⟨Hf, hf⟩ := own_456 11 12 x0 x1 21 y0 y1 24 l (x1 + y1 + c) 33 34
  refine ⟨Hf, ?_⟩
  rw [own_236, own_281, own_314]; unfold m0_b343
  rw [if_pos (rfl : (0 : Int32) = 0)]
  refine bs (x := [A4 11 12 x0 x1, A4 21 y0 y1 24, A4 31 32 33 34, A4 11 12 x0 x1, A4 21 y0 y1 24, A4 l 32 33 34]) rfl ?_
  refine bs (x := [A4 11 12 x0 x1, A4 21 y0 y1 24, A4 31 32 33 34, A4 11 12 x0 x1, A4 21 y0 y1 24, A4 l (x1 + y1 + c) 33 34]) rfl ?_
  refine bs (x := [A4 11 12 x0 x1, A4 21 y0 y1 24, A4 l (x1 + y1 + c) 33 34, A4 11 12 x0 x1, A4 21 y0 y1 24, A4 l (x1 + y1 + c) 33 34]) (own_add2 (x0 := x0) (x1 := x1) (y0 := y0) (y1 := y1) (H1 := [A4 11 12 x0 x1, A4 21 y0 y1 24, A4 l 32 33 34, A4 11 12 x0 x1, A4 21 y0 y1 24, A4 l (x1 + y1 + c) 33 34]) h.1 h.2 rfl rfl rfl rfl rfl rfl) ?_
  exact hf
theorem own_c0210' (x0 x1 y0 y1 : Int64) (h0 : 0 ≤ x0.toInt) (h1 : 0 ≤ x1.toInt) (h2 : 0 ≤ y0.toInt) (h3 : 0 ≤ y1.toInt) (h4 : x1.toInt < 4611686018427387904) (h5 : y1.toInt < 4611686018427387904) : ∃ Hf, m0_b74 9223372036854775807 x0 x1 y0 y1 2 1 0 0 [] = some (1, Hf) := by
  rw [own_74, own_w21]; unfold m0_b193
  by_cases g : 9223372036854775807 - y0 < x0
  · rw [if_pos g]; unfold m0_b209; rw [if_pos (rfl : (1 : Int64) = 1)]; exact own_c0210 x0 x1 y0 y1 _ _ (own_sum h0 h1 h2 h3 h4 h5 (Or.inl ⟨g, rfl, rfl⟩))
  · rw [if_neg g]; unfold m0_b209; rw [if_neg (by decide : ¬ (0 : Int64) = 1)]; exact own_c0210 x0 x1 y0 y1 _ _ (own_sum h0 h1 h2 h3 h4 h5 (Or.inr ⟨g, rfl, rfl⟩))
theorem own_c0211 (x0 x1 y0 y1 c l : Int64) (h : ((x0 + y0) + 0) &&& 9223372036854775807 = l ∧ ((x1 + y1) + XT.ushrL ((x0 + y0) + 0) 63) &&& 9223372036854775807 = (x1 + y1) + c) : ∃ Hf, m0_b236 x1 y1 2 1 1 0 0 1 2 c l [A4 11 12 x0 x1, A4 21 y0 y1 24, A4 31 32 33 34] = some (1, Hf) := by
  obtain ⟨Hf, hf⟩ := own_456 11 12 x0 x1 21 y0 y1 24 31 l (x1 + y1 + c) 34
  refine ⟨Hf, ?_⟩
  rw [own_236, own_281, own_314]; unfold m0_b343
  rw [if_pos (rfl : (0 : Int32) = 0)]
  refine bs (x := [A4 11 12 x0 x1, A4 21 y0 y1 24, A4 31 32 33 34, A4 11 12 x0 x1, A4 21 y0 y1 24, A4 31 l 33 34]) rfl ?_
  refine bs (x := [A4 11 12 x0 x1, A4 21 y0 y1 24, A4 31 32 33 34, A4 11 12 x0 x1, A4 21 y0 y1 24, A4 31 l (x1 + y1 + c) 34]) rfl ?_
  refine bs (x := [A4 11 12 x0 x1, A4 21 y0 y1 24, A4 31 l (x1 + y1 + c) 34, A4 11 12 x0 x1, A4 21 y0 y1 24, A4 31 l (x1 + y1 + c) 34]) (own_add2 (x0 := x0) (x1 := x1) (y0 := y0) (y1 := y1) (H1 := [A4 11 12 x0 x1, A4 21 y0 y1 24, A4 31 l 33 34, A4 11 12 x0 x1, A4 21 y0 y1 24, A4 31 l (x1 + y1 + c) 34]) h.1 h.2 rfl rfl rfl rfl rfl rfl) ?_
  exact hf
theorem own_c0211' (x0 x1 y0 y1 : Int64) (h0 : 0 ≤ x0.toInt) (h1 : 0 ≤ x1.toInt) (h2 : 0 ≤ y0.toInt) (h3 : 0 ≤ y1.toInt) (h4 : x1.toInt < 4611686018427387904) (h5 : y1.toInt < 4611686018427387904) : ∃ Hf, m0_b74 9223372036854775807 x0 x1 y0 y1 2 1 1 0 [] = some (1, Hf) := by
  rw [own_74, own_w21]; unfold m0_b193
  by_cases g : 9223372036854775807 - y0 < x0
  · rw [if_pos g]; unfold m0_b209; rw [if_pos (rfl : (1 : Int64) = 1)]; exact own_c0211 x0 x1 y0 y1 _ _ (own_sum h0 h1 h2 h3 h4 h5 (Or.inl ⟨g, rfl, rfl⟩))
  · rw [if_neg g]; unfold m0_b209; rw [if_neg (by decide : ¬ (0 : Int64) = 1)]; exact own_c0211 x0 x1 y0 y1 _ _ (own_sum h0 h1 h2 h3 h4 h5 (Or.inr ⟨g, rfl, rfl⟩))
theorem own_c0212 (x0 x1 y0 y1 c l : Int64) (h : ((x0 + y0) + 0) &&& 9223372036854775807 = l ∧ ((x1 + y1) + XT.ushrL ((x0 + y0) + 0) 63) &&& 9223372036854775807 = (x1 + y1) + c) : ∃ Hf, m0_b236 x1 y1 2 1 2 0 0 1 2 c l [A4 11 12 x0 x1, A4 21 y0 y1 24, A4 31 32 33 34] = some (1, Hf) := by
  obtain ⟨Hf, hf⟩ := own_456 11 12 x0 x1 21 y0 y1 24 31 32 l (x1 + y1 + c)
  refine ⟨Hf, ?_⟩
  rw [own_236, own_281, own_314]; unfold m0_b343
  rw [if_pos (rfl : (0 : Int32) = 0)]
  refine bs (x := [A4 11 12 x0 x1, A4 21 y0 y1 24, A4 31 32 33 34, A4 11 12 x0 x1, A4 21 y0 y1 24, A4 31 32 l 34]) rfl ?_
  refine bs (x := [A4 11 12 x0 x1, A4 21 y0 y1 24, A4 31 32 33 34, A4 11 12 x0 x1, A4 21 y0 y1 24, A4 31 32 l (x1 + y1 + c)]) rfl ?_
  refine bs (x := [A4 11 12 x0 x1, A4 21 y0 y1 24, A4 31 32 l (x1 + y1 + c), A4 11 12 x0 x1, A4 21 y0 y1 24, A4 31 32 l (x1 + y1 + c)]) (own_add2 (x0 := x0) (x1 := x1) (y0 := y0) (y1 := y1) (H1 := [A4 11 12 x0 x1, A4 21 y0 y1 24, A4 31 32 l 34, A4 11 12 x0 x1, A4 21 y0 y1 24, A4 31 32 l (x1 + y1 + c)]) h.1 h.2 rfl rfl rfl rfl rfl rfl) ?_
  exact hf
theorem own_c0212' (x0 x1 y0 y1 : Int64) (h0 : 0 ≤ x0.toInt) (h1 : 0 ≤ x1.toInt) (h2 : 0 ≤ y0.toInt) (h3 : 0 ≤ y1.toInt) (h4 : x1.toInt < 4611686018427387904) (h5 : y1.toInt < 4611686018427387904) : ∃ Hf, m0_b74 9223372036854775807 x0 x1 y0 y1 2 1 2 0 [] = some (1, Hf) := by
  rw [own_74, own_w21]; unfold m0_b193
  by_cases g : 9223372036854775807 - y0 < x0
  · rw [if_pos g]; unfold m0_b209; rw [if_pos (rfl : (1 : Int64) = 1)]; exact own_c0212 x0 x1 y0 y1 _ _ (own_sum h0 h1 h2 h3 h4 h5 (Or.inl ⟨g, rfl, rfl⟩))
  · rw [if_neg g]; unfold m0_b209; rw [if_neg (by decide : ¬ (0 : Int64) = 1)]; exact own_c0212 x0 x1 y0 y1 _ _ (own_sum h0 h1 h2 h3 h4 h5 (Or.inr ⟨g, rfl, rfl⟩))
theorem own_c0220 (x0 x1 y0 y1 c l : Int64) (h : ((x0 + y0) + 0) &&& 9223372036854775807 = l ∧ ((x1 + y1) + XT.ushrL ((x0 + y0) + 0) 63) &&& 9223372036854775807 = (x1 + y1) + c) : ∃ Hf, m0_b236 x1 y1 2 2 0 0 0 1 2 c l [A4 11 12 x0 x1, A4 21 22 y0 y1, A4 31 32 33 34] = some (1, Hf) := by
  obtain ⟨Hf, hf⟩ := own_456 11 12 x0 x1 21 22 y0 y1 l (x1 + y1 + c) 33 34
  refine ⟨Hf, ?_⟩
  rw [own_236, own_281, own_314]; unfold m0_b343
  rw [if_pos (rfl : (0 : Int32) = 0)]
  refine bs (x := [A4 11 12 x0 x1, A4 21 22 y0 y1, A4 31 32 33 34, A4 11 12 x0 x1, A4 21 22 y0 y1, A4 l 32 33 34]) rfl ?_
  refine bs (x := [A4 11 12 x0 x1, A4 21 22 y0 y1, A4 31 32 33 34, A4 11 12 x0 x1, A4 21 22 y0 y1, A4 l (x1 + y1 + c) 33 34]) rfl ?_
  refine bs (x := [A4 11 12 x0 x1, A4 21 22 y0 y1, A4 l (x1 + y1 + c) 33 34, A4 11 12 x0 x1, A4 21 22 y0 y1, A4 l (x1 + y1 + c) 33 34]) (own_add2 (x0 := x0) (x1 := x1) (y0 := y0) (y1 := y1) (H1 := [A4 11 12 x0 x1, A4 21 22 y0 y1, A4 l 32 33 34, A4 11 12 x0 x1, A4 21 22 y0 y1, A4 l (x1 + y1 + c) 33 34]) h.1 h.2 rfl rfl rfl rfl rfl rfl) ?_
  exact hf
theorem own_c0220' (x0 x1 y0 y1 : Int64) (h0 : 0 ≤ x0.toInt) (h1 : 0 ≤ x1.toInt) (h2 : 0 ≤ y0.toInt) (h3 : 0 ≤ y1.toInt) (h4 : x1.toInt < 4611686018427387904) (h5 : y1.toInt < 4611686018427387904) : ∃ Hf, m0_b74 9223372036854775807 x0 x1 y0 y1 2 2 0 0 [] = some (1, Hf) := by
  rw [own_74, own_w22]; unfold m0_b193
  by_cases g : 9223372036854775807 - y0 < x0
  · rw [if_pos g]; unfold m0_b209; rw [if_pos (rfl : (1 : Int64) = 1)]; exact own_c0220 x0 x1 y0 y1 _ _ (own_sum h0 h1 h2 h3 h4 h5 (Or.inl ⟨g, rfl, rfl⟩))
  · rw [if_neg g]; unfold m0_b209; rw [if_neg (by decide : ¬ (0 : Int64) = 1)]; exact own_c0220 x0 x1 y0 y1 _ _ (own_sum h0 h1 h2 h3 h4 h5 (Or.inr ⟨g, rfl, rfl⟩))
theorem own_c0221 (x0 x1 y0 y1 c l : Int64) (h : ((x0 + y0) + 0) &&& 9223372036854775807 = l ∧ ((x1 + y1) + XT.ushrL ((x0 + y0) + 0) 63) &&& 9223372036854775807 = (x1 + y1) + c) : ∃ Hf, m0_b236 x1 y1 2 2 1 0 0 1 2 c l [A4 11 12 x0 x1, A4 21 22 y0 y1, A4 31 32 33 34] = some (1, Hf) := by
  obtain ⟨Hf, hf⟩ := own_456 11 12 x0 x1 21 22 y0 y1 31 l (x1 + y1 + c) 34
  refine ⟨Hf, ?_⟩
  rw [own_236, own_281, own_314]; unfold m0_b343
  rw [if_pos (rfl : (0 : Int32) = 0)]
  refine bs (x := [A4 11 12 x0 x1, A4 21 22 y0 y1, A4 31 32 33 34, A4 11 12 x0 x1, A4 21 22 y0 y1, A4 31 l 33 34]) rfl ?_
  refine bs (x := [A4 11 12 x0 x1, A4 21 22 y0 y1, A4 31 32 33 34, A4 11 12 x0 x1, A4 21 22 y0 y1, A4 31 l (x1 + y1 + c) 34]) rfl ?_
  refine bs (x := [A4 11 12 x0 x1, A4 21 22 y0 y1, A4 31 l (x1 + y1 + c) 34, A4 11 12 x0 x1, A4 21 22 y0 y1, A4 31 l (x1 + y1 + c) 34]) (own_add2 (x0 := x0) (x1 := x1) (y0 := y0) (y1 := y1) (H1 := [A4 11 12 x0 x1, A4 21 22 y0 y1, A4 31 l 33 34, A4 11 12 x0 x1, A4 21 22 y0 y1, A4 31 l (x1 + y1 + c) 34]) h.1 h.2 rfl rfl rfl rfl rfl rfl) ?_
  exact hf
theorem own_c0221' (x0 x1 y0 y1 : Int64) (h0 : 0 ≤ x0.toInt) (h1 : 0 ≤ x1.toInt) (h2 : 0 ≤ y0.toInt) (h3 : 0 ≤ y1.toInt) (h4 : x1.toInt < 4611686018427387904) (h5 : y1.toInt < 4611686018427387904) : ∃ Hf, m0_b74 9223372036854775807 x0 x1 y0 y1 2 2 1 0 [] = some (1, Hf) := by
  rw [own_74, own_w22]; unfold m0_b193
  by_cases g : 9223372036854775807 - y0 < x0
  · rw [if_pos g]; unfold m0_b209; rw [if_pos (rfl : (1 : Int64) = 1)]; exact own_c0221 x0 x1 y0 y1 _ _ (own_sum h0 h1 h2 h3 h4 h5 (Or.inl ⟨g, rfl, rfl⟩))
  · rw [if_neg g]; unfold m0_b209; rw [if_neg (by decide : ¬ (0 : Int64) = 1)]; exact own_c0221 x0 x1 y0 y1 _ _ (own_sum h0 h1 h2 h3 h4 h5 (Or.inr ⟨g, rfl, rfl⟩))
theorem own_c0222 (x0 x1 y0 y1 c l : Int64) (h : ((x0 + y0) + 0) &&& 9223372036854775807 = l ∧ ((x1 + y1) + XT.ushrL ((x0 + y0) + 0) 63) &&& 9223372036854775807 = (x1 + y1) + c) : ∃ Hf, m0_b236 x1 y1 2 2 2 0 0 1 2 c l [A4 11 12 x0 x1, A4 21 22 y0 y1, A4 31 32 33 34] = some (1, Hf) := by
  obtain ⟨Hf, hf⟩ := own_456 11 12 x0 x1 21 22 y0 y1 31 32 l (x1 + y1 + c)
  refine ⟨Hf, ?_⟩
  rw [own_236, own_281, own_314]; unfold m0_b343
  rw [if_pos (rfl : (0 : Int32) = 0)]
  refine bs (x := [A4 11 12 x0 x1, A4 21 22 y0 y1, A4 31 32 33 34, A4 11 12 x0 x1, A4 21 22 y0 y1, A4 31 32 l 34]) rfl ?_
  refine bs (x := [A4 11 12 x0 x1, A4 21 22 y0 y1, A4 31 32 33 34, A4 11 12 x0 x1, A4 21 22 y0 y1, A4 31 32 l (x1 + y1 + c)]) rfl ?_
  refine bs (x := [A4 11 12 x0 x1, A4 21 22 y0 y1, A4 31 32 l (x1 + y1 + c), A4 11 12 x0 x1, A4 21 22 y0 y1, A4 31 32 l (x1 + y1 + c)]) (own_add2 (x0 := x0) (x1 := x1) (y0 := y0) (y1 := y1) (H1 := [A4 11 12 x0 x1, A4 21 22 y0 y1, A4 31 32 l 34, A4 11 12 x0 x1, A4 21 22 y0 y1, A4 31 32 l (x1 + y1 + c)]) h.1 h.2 rfl rfl rfl rfl rfl rfl) ?_
  exact hf
theorem own_c0222' (x0 x1 y0 y1 : Int64) (h0 : 0 ≤ x0.toInt) (h1 : 0 ≤ x1.toInt) (h2 : 0 ≤ y0.toInt) (h3 : 0 ≤ y1.toInt) (h4 : x1.toInt < 4611686018427387904) (h5 : y1.toInt < 4611686018427387904) : ∃ Hf, m0_b74 9223372036854775807 x0 x1 y0 y1 2 2 2 0 [] = some (1, Hf) := by
  rw [own_74, own_w22]; unfold m0_b193
  by_cases g : 9223372036854775807 - y0 < x0
  · rw [if_pos g]; unfold m0_b209; rw [if_pos (rfl : (1 : Int64) = 1)]; exact own_c0222 x0 x1 y0 y1 _ _ (own_sum h0 h1 h2 h3 h4 h5 (Or.inl ⟨g, rfl, rfl⟩))
  · rw [if_neg g]; unfold m0_b209; rw [if_neg (by decide : ¬ (0 : Int64) = 1)]; exact own_c0222 x0 x1 y0 y1 _ _ (own_sum h0 h1 h2 h3 h4 h5 (Or.inr ⟨g, rfl, rfl⟩))
theorem own_c100 (x0 x1 y0 y1 c l : Int64) (s : Int32) (h : ((x0 + y0) + 0) &&& 9223372036854775807 = l ∧ ((x1 + y1) + XT.ushrL ((x0 + y0) + 0) 63) &&& 9223372036854775807 = (x1 + y1) + c) : ∃ Hf, m0_b236 x1 y1 0 0 s 1 0 1 2 c l [A4 x0 x1 13 14, A4 y0 y1 23 24, A4 31 32 33 34] = some (1, Hf) := by
  obtain ⟨Hf, hf⟩ := own_456 l (x1 + y1 + c) 13 14 y0 y1 23 24 31 32 33 34
  refine ⟨Hf, ?_⟩
  rw [own_236, own_281, own_314]; unfold m0_b343
  rw [if_neg (by decide : ¬ (1 : Int32) = 0), if_pos (rfl : (1 : Int32) = 1)]
  refine bs (x := [A4 x0 x1 13 14, A4 y0 y1 23 24, A4 31 32 33 34, A4 l x1 13 14, A4 y0 y1 23 24, A4 31 32 33 34]) rfl ?_
  refine bs (x := [A4 x0 x1 13 14, A4 y0 y1 23 24, A4 31 32 33 34, A4 l (x1 + y1 + c) 13 14, A4 y0 y1 23 24, A4 31 32 33 34]) rfl ?_
  refine bs (x := [A4 l (x1 + y1 + c) 13 14, A4 y0 y1 23 24, A4 31 32 33 34, A4 l (x1 + y1 + c) 13 14, A4 y0 y1 23 24, A4 31 32 33 34]) (own_add2 (x0 := x0) (x1 := x1) (y0 := y0) (y1 := y1) (H1 := [A4 l x1 13 14, A4 y0 y1 23 24, A4 31 32 33 34, A4 l (x1 + y1 + c) 13 14, A4 y0 y1 23 24, A4 31 32 33 34]) h.1 h.2 rfl rfl rfl rfl rfl rfl) ?_
  exact hf
theorem own_c100' (x0 x1 y0 y1 : Int64) (s : Int32) (h0 : 0 ≤ x0.toInt) (h1 : 0 ≤ x1.toInt) (h2 : 0 ≤ y0.toInt) (h3 : 0 ≤ y1.toInt) (h4 : x1.toInt < 4611686018427387904) (h5 : y1.toInt < 4611686018427387904) : ∃ Hf, m0_b74 9223372036854775807 x0 x1 y0 y1 0 0 s 1 [] = some (1, Hf) := by
  rw [own_74, own_w00]; unfold m0_b193
  by_cases g : 9223372036854775807 - y0 < x0
  · rw [if_pos g]; unfold m0_b209; rw [if_pos (rfl : (1 : Int64) = 1)]; exact own_c100 x0 x1 y0 y1 _ _ s (own_sum h0 h1 h2 h3 h4 h5 (Or.inl ⟨g, rfl, rfl⟩))
  · rw [if_neg g]; unfold m0_b209; rw [if_neg (by decide : ¬ (0 : Int64) = 1)]; exact own_c100 x0 x1 y0 y1 _ _ s (own_sum h0 h1 h2 h3 h4 h5 (Or.inr ⟨g, rfl, rfl⟩))
theorem own_c101 (x0 x1 y0 y1 c l : Int64) (s : Int32) (h : ((x0 + y0) + 0) &&& 9223372036854775807 = l ∧ ((x1 + y1) + XT.ushrL ((x0 + y0) + 0) 63) &&& 9223372036854775807 = (x1 + y1) + c) : ∃ Hf, m0_b236 x1 y1 0 1 s 1 0 1 2 c l [A4 x0 x1 13 14, A4 21 y0 y1 24, A4 31 32 33 34] = some (1, Hf) := by
  obtain ⟨Hf, hf⟩ := own_456 l (x1 + y1 + c) 13 14 21 y0 y1 24 31 32 33 34
  refine ⟨Hf, ?_⟩
  rw [own_236, own_281, own_314]; unfold m0_b343
  rw [if_neg (by decide : ¬ (1 : Int32) = 0), if_pos (rfl : (1 : Int32) = 1)]
  refine bs (x := [A4 x0 x1 13 14, A4 21 y0 y1 24, A4 31 32 33 34, A4 l x1 13 14, A4 21 y0 y1 24, A4 31 32 33 34]) rfl ?_
  refine bs (x := [A4 x0 x1 13 14, A4 21 y0 y1 24, A4 31 32 33 34, A4 l (x1 + y1 + c) 13 14, A4 21 y0 y1 24, A4 31 32 33 34]) rfl ?_
  refine bs (x := [A4 l (x1 + y1 + c) 13 14, A4 21 y0 y1 24, A4 31 32 33 34, A4 l (x1 + y1 + c) 13 14, A4 21 y0 y1 24, A4 31 32 33 34]) (own_add2 (x0 := x0) (x1 := x1) (y0 := y0) (y1 := y1) (H1 := [A4 l x1 13 14, A4 21 y0 y1 24, A4 31 32 33 34, A4 l (x1 + y1 + c) 13 14, A4 21 y0 y1 24, A4 31 32 33 34]) h.1 h.2 rfl rfl rfl rfl rfl rfl) ?_
  exact hf
theorem own_c101' (x0 x1 y0 y1 : Int64) (s : Int32) (h0 : 0 ≤ x0.toInt) (h1 : 0 ≤ x1.toInt) (h2 : 0 ≤ y0.toInt) (h3 : 0 ≤ y1.toInt) (h4 : x1.toInt < 4611686018427387904) (h5 : y1.toInt < 4611686018427387904) : ∃ Hf, m0_b74 9223372036854775807 x0 x1 y0 y1 0 1 s 1 [] = some (1, Hf) := by
  rw [own_74, own_w01]; unfold m0_b193
  by_cases g : 9223372036854775807 - y0 < x0
  · rw [if_pos g]; unfold m0_b209; rw [if_pos (rfl : (1 : Int64) = 1)]; exact own_c101 x0 x1 y0 y1 _ _ s (own_sum h0 h1 h2 h3 h4 h5 (Or.inl ⟨g, rfl, rfl⟩))
  · rw [if_neg g]; unfold m0_b209; rw [if_neg (by decide : ¬ (0 : Int64) = 1)]; exact own_c101 x0 x1 y0 y1 _ _ s (own_sum h0 h1 h2 h3 h4 h5 (Or.inr ⟨g, rfl, rfl⟩))
theorem own_c102 (x0 x1 y0 y1 c l : Int64) (s : Int32) (h : ((x0 + y0) + 0) &&& 9223372036854775807 = l ∧ ((x1 + y1) + XT.ushrL ((x0 + y0) + 0) 63) &&& 9223372036854775807 = (x1 + y1) + c) : ∃ Hf, m0_b236 x1 y1 0 2 s 1 0 1 2 c l [A4 x0 x1 13 14, A4 21 22 y0 y1, A4 31 32 33 34] = some (1, Hf) := by
  obtain ⟨Hf, hf⟩ := own_456 l (x1 + y1 + c) 13 14 21 22 y0 y1 31 32 33 34
  refine ⟨Hf, ?_⟩
  rw [own_236, own_281, own_314]; unfold m0_b343
  rw [if_neg (by decide : ¬ (1 : Int32) = 0), if_pos (rfl : (1 : Int32) = 1)]
  refine bs (x := [A4 x0 x1 13 14, A4 21 22 y0 y1, A4 31 32 33 34, A4 l x1 13 14, A4 21 22 y0 y1, A4 31 32 33 34]) rfl ?_
  refine bs (x := [A4 x0 x1 13 14, A4 21 22 y0 y1, A4 31 32 33 34, A4 l (x1 + y1 + c) 13 14, A4 21 22 y0 y1, A4 31 32 33 34]) rfl ?_
  refine bs (x := [A4 l (x1 + y1 + c) 13 14, A4 21 22 y0 y1, A4 31 32 33 34, A4 l (x1 + y1 + c) 13 14, A4 21 22 y0 y1, A4 31 32 33 34]) (own_add2 (x0 := x0) (x1 := x1) (y0 := y0) (y1 := y1) (H1 := [A4 l x1 13 14, A4 21 22 y0 y1, A4 31 32 33 34, A4 l (x1 + y1 + c) 13 14, A4 21 22 y0 y1, A4 31 32 33 34]) h.1 h.2 rfl rfl rfl rfl rfl rfl) ?_
  exact hf
theorem own_c102' (x0 x1 y0 y1 : Int64) (s : Int32) (h0 : 0 ≤ x0.toInt) (h1 : 0 ≤ x1.toInt) (h2 : 0 ≤ y0.toInt) (h3 : 0 ≤ y1.toInt) (h4 : x1.toInt < 4611686018427387904) (h5 : y1.toInt < 4611686018427387904) : ∃ Hf, m0_b74 9223372036854775807 x0 x1 y0 y1 0 2 s 1 [] = some (1, Hf) := by
  rw [own_74, own_w02]; unfold m0_b193
  by_cases g : 9223372036854775807 - y0 < x0
  · rw [if_pos g]; unfold m0_b209; rw [if_pos (rfl : (1 : Int64) = 1)]; exact own_c102 x0 x1 y0 y1 _ _ s (own_sum h0 h1 h2 h3 h4 h5 (Or.inl ⟨g, rfl, rfl⟩))
  · rw [if_neg g]; unfold m0_b209; rw [if_neg (by decide : ¬ (0 : Int64) = 1)]; exact own_c102 x0 x1 y0 y1 _ _ s (own_sum h0 h1 h2 h3 h4 h5 (Or.inr ⟨g, rfl, rfl⟩))
theorem own_c110 (x0 x1 y0 y1 c l : Int64) (s : Int32) (h : ((x0 + y0) + 0) &&& 9223372036854775807 = l ∧ ((x1 + y1) + XT.ushrL ((x0 + y0) + 0) 63) &&& 9223372036854775807 = (x1 + y1) + c) : ∃ Hf, m0_b236 x1 y1 1 0 s 1 0 1 2 c l [A4 11 x0 x1 14, A4 y0 y1 23 24, A4 31 32 33 34] = some (1, Hf) := by
  obtain ⟨Hf, hf⟩ := own_456 11 l (x1 + y1 + c) 14 y0 y1 23 24 31 32 33 34
  refine ⟨Hf, ?_⟩
  rw [own_236, own_281, own_314]; unfold m0_b343
  rw [if_neg (by decide : ¬ (1 : Int32) = 0), if_pos (rfl : (1 : Int32) = 1)]
  refine bs (x := [A4 11 x0 x1 14, A4 y0 y1 23 24, A4 31 32 33 34, A4 11 l x1 14, A4 y0 y1 23 24, A4 31 32 33 34]) rfl ?_
  refine bs (x := [A4 11 x0 x1 14, A4 y0 y1 23 24, A4 31 32 33 34, A4 11 l (x1 + y1 + c) 14, A4 y0 y1 23 24, A4 31 32 33 34]) rfl ?_
  refine bs (x := [A4 11 l (x1 + y1 + c) 14, A4 y0 y1 23 24, A4 31 32 33 34, A4 11 l (x1 + y1 + c) 14, A4 y0 y1 23 24, A4 31 32 33 34]) (own_add2 (x0 := x0) (x1 := x1) (y0 := y0) (y1 := y1) (H1 := [A4 11 l x1 14, A4 y0 y1 23 24, A4 31 32 33 34, A4 11 l (x1 + y1 + c) 14, A4 y0 y1 23 24, A4 31 32 33 34]) h.1 h.2 rfl rfl rfl rfl rfl rfl) ?_
  exact hf
theorem own_c110' (x0 x1 y0 y1 : Int64) (s : Int32) (h0 : 0 ≤ x0.toInt) (h1 : 0 ≤ x1.toInt) (h2 : 0 ≤ y0.toInt) (h3 : 0 ≤ y1.toInt) (h4 : x1.toInt < 4611686018427387904) (h5 : y1.toInt < 4611686018427387904) : ∃ Hf, m0_b74 9223372036854775807 x0 x1 y0 y1 1 0 s 1 [] = some (1, Hf) := by
  rw [own_74, own_w10]; unfold m0_b193
  by_cases g : 9223372036854775807 - y0 < x0
  · rw [if_pos g]; unfold m0_b209; rw [if_pos (rfl : (1 : Int64) = 1)]; exact own_c110 x0 x1 y0 y1 _ _ s (own_sum h0 h1 h2 h3 h4 h5 (Or.inl ⟨g, rfl, rfl⟩))
  · rw [if_neg g]; unfold m0_b209; rw [if_neg (by decide : ¬ (0 : Int64) = 1)]; exact own_c110 x0 x1 y0 y1 _ _ s (own_sum h0 h1 h2 h3 h4 h5 (Or.inr ⟨g, rfl, rfl⟩))
theorem own_c111 (x0 x1 y0 y1 c l : Int64) (s : Int32) (h : ((x0 + y0) + 0) &&& 9223372036854775807 = l ∧ ((x1 + y1) + XT.ushrL ((x0 + y0) + 0) 63) &&& 9223372036854775807 = (x1 + y1) + c) : ∃ Hf, m0_b236 x1 y1 1 1 s 1 0 1 2 c l [A4 11 x0 x1 14, A4 21 y0 y1 24, A4 31 32 33 34] = some (1, Hf) := by
  obtain ⟨Hf, hf⟩ := own_456 11 l (x1 + y1 + c) 14 21 y0 y1 24 31 32 33 34
  refine ⟨Hf, ?_⟩
  rw [own_236, own_281, own_314]; unfold m0_b343
  rw [if_neg (by decide : ¬ (1 : Int32) = 0), if_pos (rfl : (1 : Int32) = 1)]
  refine bs (x := [A4 11 x0 x1 14, A4 21 y0 y1 24, A4 31 32 33 34, A4 11 l x1 14, A4 21 y0 y1 24, A4 31 32 33 34]) rfl ?_
  refine bs (x := [A4 11 x0 x1 14, A4 21 y0 y1 24, A4 31 32 33 34, A4 11 l (x1 + y1 + c) 14, A4 21 y0 y1 24, A4 31 32 33 34]) rfl ?_
  refine bs (x := [A4 11 l (x1 + y1 + c) 14, A4 21 y0 y1 24, A4 31 32 33 34, A4 11 l (x1 + y1 + c) 14, A4 21 y0 y1 24, A4 31 32 33 34]) (own_add2 (x0 := x0) (x1 := x1) (y0 := y0) (y1 := y1) (H1 := [A4 11 l x1 14, A4 21 y0 y1 24, A4 31 32 33 34, A4 11 l (x1 + y1 + c) 14, A4 21 y0 y1 24, A4 31 32 33 34]) h.1 h.2 rfl rfl rfl rfl rfl rfl) ?_
  exact hf
theorem own_c111' (x0 x1 y0 y1 : Int64) (s : Int32) (h0 : 0 ≤ x0.toInt) (h1 : 0 ≤ x1.toInt) (h2 : 0 ≤ y0.toInt) (h3 : 0 ≤ y1.toInt) (h4 : x1.toInt < 4611686018427387904) (h5 : y1.toInt < 4611686018427387904) : ∃ Hf, m0_b74 9223372036854775807 x0 x1 y0 y1 1 1 s 1 [] = some (1, Hf) := by
  rw [own_74, own_w11]; unfold m0_b193
  by_cases g : 9223372036854775807 - y0 < x0
  · rw [if_pos g]; unfold m0_b209; rw [if_pos (rfl : (1 : Int64) = 1)]; exact own_c111 x0 x1 y0 y1 _ _ s (own_sum h0 h1 h2 h3 h4 h5 (Or.inl ⟨g, rfl, rfl⟩))
  · rw [if_neg g]; unfold m0_b209; rw [if_neg (by decide : ¬ (0 : Int64) = 1)]; exact own_c111 x0 x1 y0 y1 _ _ s (own_sum h0 h1 h2 h3 h4 h5 (Or.inr ⟨g, rfl, rfl⟩))
theorem own_c112 (x0 x1 y0 y1 c l : Int64) (s : Int32) (h : ((x0 + y0) + 0) &&& 9223372036854775807 = l ∧ ((x1 + y1) + XT.ushrL ((x0 + y0) + 0) 63) &&& 9223372036854775807 = (x1 + y1) + c) : ∃ Hf, m0_b236 x1 y1 1 2 s 1 0 1 2 c l [A4 11 x0 x1 14, A4 21 22 y0 y1, A4 31 32 33 34] = some (1, Hf) := by
  obtain ⟨Hf, hf⟩ := own_456 11 l (x1 + y1 + c) 14 21 22 y0 y1 31 32 33 34
  refine ⟨Hf, ?_⟩
  rw [own_236, own_281, own_314]; unfold m0_b343
  rw [if_neg (by decide : ¬ (1 : Int32) = 0), if_pos (rfl : (1 : Int32) = 1)]
  refine bs (x := [A4 11 x0 x1 14, A4 21 22 y0 y1, A4 31 32 33 34, A4 11 l x1 14, A4 21 22 y0 y1, A4 31 32 33 34]) rfl ?_
  refine bs (x := [A4 11 x0 x1 14, A4 21 22 y0 y1, A4 31 32 33 34, A4 11 l (x1 + y1 + c) 14, A4 21 22 y0 y1, A4 31 32 33 34]) rfl ?_
  refine bs (x := [A4 11 l (x1 + y1 + c) 14, A4 21 22 y0 y1, A4 31 32 33 34, A4 11 l (x1 + y1 + c) 14, A4 21 22 y0 y1, A4 31 32 33 34]) (own_add2 (x0 := x0) (x1 := x1) (y0 := y0) (y1 := y1) (H1 := [A4 11 l x1 14, A4 21 22 y0 y1, A4 31 32 33 34, A4 11 l (x1 + y1 + c) 14, A4 21 22 y0 y1, A4 31 32 33 34]) h.1 h.2 rfl rfl rfl rfl rfl rfl) ?_
  exact hf
theorem own_c112' (x0 x1 y0 y1 : Int64) (s : Int32) (h0 : 0 ≤ x0.toInt) (h1 : 0 ≤ x1.toInt) (h2 : 0 ≤ y0.toInt) (h3 : 0 ≤ y1.toInt) (h4 : x1.toInt < 4611686018427387904) (h5 : y1.toInt < 4611686018427387904) : ∃ Hf, m0_b74 9223372036854775807 x0 x1 y0 y1 1 2 s 1 [] = some (1, Hf) := by
  rw [own_74, own_w12]; unfold m0_b193
  by_cases g : 9223372036854775807 - y0 < x0
  · rw [if_pos g]; unfold m0_b209; rw [if_pos (rfl : (1 : Int64) = 1)]; exact own_c112 x0 x1 y0 y1 _ _ s (own_sum h0 h1 h2 h3 h4 h5 (Or.inl ⟨g, rfl, rfl⟩))
  · rw [if_neg g]; unfold m0_b209; rw [if_neg (by decide : ¬ (0 : Int64) = 1)]; exact own_c112 x0 x1 y0 y1 _ _ s (own_sum h0 h1 h2 h3 h4 h5 (Or.inr ⟨g, rfl, rfl⟩))
theorem own_c120 (x0 x1 y0 y1 c l : Int64) (s : Int32) (h : ((x0 + y0) + 0) &&& 9223372036854775807 = l ∧ ((x1 + y1) + XT.ushrL ((x0 + y0) + 0) 63) &&& 9223372036854775807 = (x1 + y1) + c) : ∃ Hf, m0_b236 x1 y1 2 0 s 1 0 1 2 c l [A4 11 12 x0 x1, A4 y0 y1 23 24, A4 31 32 33 34] = some (1, Hf) := by
  obtain ⟨Hf, hf⟩ := own_456 11 12 l (x1 + y1 + c) y0 y1 23 24 31 32 33 34
  refine ⟨Hf, ?_⟩
  rw [own_236, own_281, own_314]; unfold m0_b343
  rw [if_neg (by decide : ¬ (1 : Int32) = 0), if_pos (rfl : (1 : Int32) = 1)]
  refine bs (x := [A4 11 12 x0 x1, A4 y0 y1 23 24, A4 31 32 33 34, A4 11 12 l x1, A4 y0 y1 23 24, A4 31 32 33 34]) rfl ?_
  refine bs (x := [A4 11 12 x0 x1, A4 y0 y1 23 24, A4 31 32 33 34, A4 11 12 l (x1 + y1 + c), A4 y0 y1 23 24, A4 31 32 33 34]) rfl ?_
  refine bs (x := [A4 11 12 l (x1 + y1 + c), A4 y0 y1 23 24, A4 31 32 33 34, A4 11 12 l (x1 + y1 + c), A4 y0 y1 23 24, A4 31 32 33 34]) (own_add2 (x0 := x0) (x1 := x1) (y0 := y0) (y1 := y1) (H1 := [A4 11 12 l x1, A4 y0 y1 23 24, A4 31 32 33 34, A4 11 12 l (x1 + y1 + c), A4 y0 y1 23 24, A4 31 32 33 34]) h.1 h.2 rfl rfl rfl rfl rfl rfl) ?_
  exact hf
theorem own_c120' (x0 x1 y0 y1 : Int64) (s : Int32) (h0 : 0 ≤ x0.toInt) (h1 : 0 ≤ x1.toInt) (h2 : 0 ≤ y0.toInt) (h3 : 0 ≤ y1.toInt) (h4 : x1.toInt < 4611686018427387904) (h5 : y1.toInt < 4611686018427387904) : ∃ Hf, m0_b74 9223372036854775807 x0 x1 y0 y1 2 0 s 1 [] = some (1, Hf) := by
  rw [own_74, own_w20]; unfold m0_b193
  by_cases g : 9223372036854775807 - y0 < x0
  · rw [if_pos g]; unfold m0_b209; rw [if_pos (rfl : (1 : Int64) = 1)]; exact own_c120 x0 x1 y0 y1 _ _ s (own_sum h0 h1 h2 h3 h4 h5 (Or.inl ⟨g, rfl, rfl⟩))
  · rw [if_neg g]; unfold m0_b209; rw [if_neg (by decide : ¬ (0 : Int64) = 1)]; exact own_c120 x0 x1 y0 y1 _ _ s (own_sum h0 h1 h2 h3 h4 h5 (Or.inr ⟨g, rfl, rfl⟩))
theorem own_c121 (x0 x1 y0 y1 c l : Int64) (s : Int32) (h : ((x0 + y0) + 0) &&& 9223372036854775807 = l ∧ ((x1 + y1) + XT.ushrL ((x0 + y0) + 0) 63) &&& 9223372036854775807 = (x1 + y1) + c) : ∃ Hf, m0_b236 x1 y1 2 1 s 1 0 1 2 c l [A4 11 12 x0 x1, A4 21 y0 y1 24, A4 31 32 33 34] = some (1, Hf) := by
  obtain ⟨Hf, hf⟩ := own_456 11 12 l (x1 + y1 + c) 21 y0 y1 24 31 32 33 34
  refine ⟨Hf, ?_⟩
  rw [own_236, own_281, own_314]; unfold m0_b343
  rw [if_neg (by decide : ¬ (1 : Int32) = 0), if_pos (rfl : (1 : Int32) = 1)]
  refine bs (x := [A4 11 12 x0 x1, A4 21 y0 y1 24, A4 31 32 33 34, A4 11 12 l x1, A4 21 y0 y1 24, A4 31 32 33 34]) rfl ?_
  refine bs (x := [A4 11 12 x0 x1, A4 21 y0 y1 24, A4 31 32 33 34, A4 11 12 l (x1 + y1 + c), A4 21 y0 y1 24, A4 31 32 33 34]) rfl ?_
  refine bs (x := [A4 11 12 l (x1 + y1 + c), A4 21 y0 y1 24, A4 31 32 33 34, A4 11 12 l (x1 + y1 + c), A4 21 y0 y1 24, A4 31 32 33 34]) (own_add2 (x0 := x0) (x1 := x1) (y0 := y0) (y1 := y1) (H1 := [A4 11 12 l x1, A4 21 y0 y1 24, A4 31 32 33 34, A4 11 12 l (x1 + y1 + c), A4 21 y0 y1 24, A4 31 32 33 34]) h.1 h.2 rfl rfl rfl rfl rfl rfl) ?_
  exact hf
theorem own_c121' (x0 x1 y0 y1 : Int64) (s : Int32) (h0 : 0 ≤ x0.toInt) (h1 : 0 ≤ x1.toInt) (h2 : 0 ≤ y0.toInt) (h3 : 0 ≤ y1.toInt) (h4 : x1.toInt < 4611686018427387904) (h5 : y1.toInt < 4611686018427387904) : ∃ Hf, m0_b74 9223372036854775807 x0 x1 y0 y1 2 1 s 1 [] = some (1, Hf) := by
  rw [own_74, own_w21]; unfold m0_b193
  by_cases g : 9223372036854775807 - y0 < x0
  · rw [if_pos g]; unfold m0_b209; rw [if_pos (rfl : (1 : Int64) = 1)]; exact own_c121 x0 x1 y0 y1 _ _ s (own_sum h0 h1 h2 h3 h4 h5 (Or.inl ⟨g, rfl, rfl⟩))
  · rw [if_neg g]; unfold m0_b209; rw [if_neg (by decide : ¬ (0 : Int64) = 1)]; exact own_c121 x0 x1 y0 y1 _ _ s (own_sum h0 h1 h2 h3 h4 h5 (Or.inr ⟨g, rfl, rfl⟩))
theorem own_c122 (x0 x1 y0 y1 c l : Int64) (s : Int32) (h : ((x0 + y0) + 0) &&& 9223372036854775807 = l ∧ ((x1 + y1) + XT.ushrL ((x0 + y0) + 0) 63) &&& 9223372036854775807 = (x1 + y1) + c) : ∃ Hf, m0_b236 x1 y1 2 2 s 1 0 1 2 c l [A4 11 12 x0 x1, A4 21 22 y0 y1, A4 31 32 33 34] = some (1, Hf) := by
  obtain ⟨Hf, hf⟩ := own_456 11 12 l (x1 + y1 + c) 21 22 y0 y1 31 32 33 34
  refine ⟨Hf, ?_⟩
  rw [own_236, own_281, own_314]; unfold m0_b343
  rw [if_neg (by decide : ¬ (1 : Int32) = 0), if_pos (rfl : (1 : Int32) = 1)]
  refine bs (x := [A4 11 12 x0 x1, A4 21 22 y0 y1, A4 31 32 33 34, A4 11 12 l x1, A4 21 22 y0 y1, A4 31 32 33 34]) rfl ?_
  refine bs (x := [A4 11 12 x0 x1, A4 21 22 y0 y1, A4 31 32 33 34, A4 11 12 l (x1 + y1 + c), A4 21 22 y0 y1, A4 31 32 33 34]) rfl ?_
  refine bs (x := [A4 11 12 l (x1 + y1 + c), A4 21 22 y0 y1, A4 31 32 33 34, A4 11 12 l (x1 + y1 + c), A4 21 22 y0 y1, A4 31 32 33 34]) (own_add2 (x0 := x0) (x1 := x1) (y0 := y0) (y1 := y1) (H1 := [A4 11 12 l x1, A4 21 22 y0 y1, A4 31 32 33 34, A4 11 12 l (x1 + y1 + c), A4 21 22 y0 y1, A4 31 32 33 34]) h.1 h.2 rfl rfl rfl rfl rfl rfl) ?_
  exact hf
theorem own_c122' (x0 x1 y0 y1 : Int64) (s : Int32) (h0 : 0 ≤ x0.toInt) (h1 : 0 ≤ x1.toInt) (h2 : 0 ≤ y0.toInt) (h3 : 0 ≤ y1.toInt) (h4 : x1.toInt < 4611686018427387904) (h5 : y1.toInt < 4611686018427387904) : ∃ Hf, m0_b74 9223372036854775807 x0 x1 y0 y1 2 2 s 1 [] = some (1, Hf) := by
  rw [own_74, own_w22]; unfold m0_b193
  by_cases g : 9223372036854775807 - y0 < x0
  · rw [if_pos g]; unfold m0_b209; rw [if_pos (rfl : (1 : Int64) = 1)]; exact own_c122 x0 x1 y0 y1 _ _ s (own_sum h0 h1 h2 h3 h4 h5 (Or.inl ⟨g, rfl, rfl⟩))
  · rw [if_neg g]; unfold m0_b209; rw [if_neg (by decide : ¬ (0 : Int64) = 1)]; exact own_c122 x0 x1 y0 y1 _ _ s (own_sum h0 h1 h2 h3 h4 h5 (Or.inr ⟨g, rfl, rfl⟩))
theorem own_c200 (x0 x1 y0 y1 c l : Int64) (s : Int32) (h : ((x0 + y0) + 0) &&& 9223372036854775807 = l ∧ ((x1 + y1) + XT.ushrL ((x0 + y0) + 0) 63) &&& 9223372036854775807 = (x1 + y1) + c) : ∃ Hf, m0_b236 x1 y1 0 0 s 2 0 1 2 c l [A4 x0 x1 13 14, A4 y0 y1 23 24, A4 31 32 33 34] = some (1, Hf) := by
  obtain ⟨Hf, hf⟩ := own_456 x0 x1 13 14 l (x1 + y1 + c) 23 24 31 32 33 34
  refine ⟨Hf, ?_⟩
  rw [own_236, own_281, own_314]; unfold m0_b343
  rw [if_neg (by decide : ¬ (2 : Int32) = 0), if_neg (by decide : ¬ (2 : Int32) = 1)]
  refine bs (x := [A4 x0 x1 13 14, A4 y0 y1 23 24, A4 31 32 33 34, A4 x0 x1 13 14, A4 l y1 23 24, A4 31 32 33 34]) rfl ?_
  refine bs (x := [A4 x0 x1 13 14, A4 y0 y1 23 24, A4 31 32 33 34, A4 x0 x1 13 14, A4 l (x1 + y1 + c) 23 24, A4 31 32 33 34]) rfl ?_
  refine bs (x := [A4 x0 x1 13 14, A4 l (x1 + y1 + c) 23 24, A4 31 32 33 34, A4 x0 x1 13 14, A4 l (x1 + y1 + c) 23 24, A4 31 32 33 34]) (own_add2 (x0 := x0) (x1 := x1) (y0 := y0) (y1 := y1) (H1 := [A4 x0 x1 13 14, A4 l y1 23 24, A4 31 32 33 34, A4 x0 x1 13 14, A4 l (x1 + y1 + c) 23 24, A4 31 32 33 34]) h.1 h.2 rfl rfl rfl rfl rfl rfl) ?_
  exact hf
theorem own_c200' (x0 x1 y0 y1 : Int64) (s : Int32) (h0 : 0 ≤ x0.toInt) (h1 : 0 ≤ x1.toInt) (h2 : 0 ≤ y0.toInt) (h3 : 0 ≤ y1.toInt) (h4 : x1.toInt < 4611686018427387904) (h5 : y1.toInt < 4611686018427387904) : ∃ Hf, m0_b74 9223372036854775807 x0 x1 y0 y1 0 0 s 2 [] = some (1, Hf) := by
  rw [own_74, own_w00]; unfold m0_b193
  by_cases g : 9223372036854775807 - y0 < x0
  · rw [if_pos g]; unfold m0_b209; rw [if_pos (rfl : (1 : Int64) = 1)]; exact own_c200 x0 x1 y0 y1 _ _ s (own_sum h0 h1 h2 h3 h4 h5 (Or.inl ⟨g, rfl, rfl⟩))
  · rw [if_neg g]; unfold m0_b209; rw [if_neg (by decide : ¬ (0 : Int64) = 1)]; exact own_c200 x0 x1 y0 y1 _ _ s (own_sum h0 h1 h2 h3 h4 h5 (Or.inr ⟨g, rfl, rfl⟩))
theorem own_c201 (x0 x1 y0 y1 c l : Int64) (s : Int32) (h : ((x0 + y0) + 0) &&& 9223372036854775807 = l ∧ ((x1 + y1) + XT.ushrL ((x0 + y0) + 0) 63) &&& 9223372036854775807 = (x1 + y1) + c) : ∃ Hf, m0_b236 x1 y1 0 1 s 2 0 1 2 c l [A4 x0 x1 13 14, A4 21 y0 y1 24, A4 31 32 33 34] = some (1, Hf) := by
  obtain ⟨Hf, hf⟩ := own_456 x0 x1 13 14 21 l (x1 + y1 + c) 24 31 32 33 34
  refine ⟨Hf, ?_⟩
  rw [own_236, own_281, own_314]; unfold m0_b343
  rw [if_neg (by decide : ¬ (2 : Int32) = 0), if_neg (by decide : ¬ (2 : Int32) = 1)]
  refine bs (x := [A4 x0 x1 13 14, A4 21 y0 y1 24, A4 31 32 33 34, A4 x0 x1 13 14, A4 21 l y1 24, A4 31 32 33 34]) rfl ?_
  refine bs (x := [A4 x0 x1 13 14, A4 21 y0 y1 24, A4 31 32 33 34, A4 x0 x1 13 14, A4 21 l (x1 + y1 + c) 24, A4 31 32 33 34]) rfl ?_
  refine bs (x := [A4 x0 x1 13 14, A4 21 l (x1 + y1 + c) 24, A4 31 32 33 34, A4 x0 x1 13 14, A4 21 l (x1 + y1 + c) 24, A4 31 32 33 34]) (own_add2 (x0 := x0) (x1 := x1) (y0 := y0) (y1 := y1) (H1 := [A4 x0 x1 13 14, A4 21 l y1 24, A4 31 32 33 34, A4 x0 x1 13 14, A4 21 l (x1 + y1 + c) 24, A4 31 32 33 34]) h.1 h.2 rfl rfl rfl rfl rfl rfl) ?_
  exact hf
theorem own_c201' (x0 x1 y0 y1 : Int64) (s : Int32) (h0 : 0 ≤ x0.toInt) (h1 : 0 ≤ x1.toInt) (h2 : 0 ≤ y0.toInt) (h3 : 0 ≤ y1.toInt) (h4 : x1.toInt < 4611686018427387904) (h5 : y1.toInt < 4611686018427387904) : ∃ Hf, m0_b74 9223372036854775807 x0 x1 y0 y1 0 1 s 2 [] = some (1, Hf) := by
  rw [own_74, own_w01]; unfold m0_b193
  by_cases g : 9223372036854775807 - y0 < x0
  · rw [if_pos g]; unfold m0_b209; rw [if_pos (rfl : (1 : Int64) = 1)]; exact own_c201 x0 x1 y0 y1 _ _ s (own_sum h0 h1 h2 h3 h4 h5 (Or.inl ⟨g, rfl, rfl⟩))
  · rw [if_neg g]; unfold m0_b209; rw [if_neg (by decide : ¬ (0 : Int64) = 1)]; exact own_c201 x0 x1 y0 y1 _ _ s (own_sum h0 h1 h2 h3 h4 h5 (Or.inr ⟨g, rfl, rfl⟩))
theorem own_c202 (x0 x1 y0 y1 c l : Int64) (s : Int32) (h : ((x0 + y0) + 0) &&& 9223372036854775807 = l ∧ ((x1 + y1) + XT.ushrL ((x0 + y0) + 0) 63) &&& 9223372036854775807 = (x1 + y1) + c) : ∃ Hf, m0_b236 x1 y1 0 2 s 2 0 1 2 c l [A4 x0 x1 13 14, A4 21 22 y0 y1, A4 31 32 33 34] = some (1, Hf) := by
  obtain ⟨Hf, hf⟩ := own_456 x0 x1 13 14 21 22 l (x1 + y1 + c) 31 32 33 34
  refine ⟨Hf, ?_⟩
  rw [own_236, own_281, own_314]; unfold m0_b343
  rw [if_neg (by decide : ¬ (2 : Int32) = 0), if_neg (by decide : ¬ (2 : Int32) = 1)]
  refine bs (x := [A4 x0 x1 13 14, A4 21 22 y0 y1, A4 31 32 33 34, A4 x0 x1 13 14, A4 21 22 l y1, A4 31 32 33 34]) rfl ?_
  refine bs (x := [A4 x0 x1 13 14, A4 21 22 y0 y1, A4 31 32 33 34, A4 x0 x1 13 14, A4 21 22 l (x1 + y1 + c), A4 31 32 33 34]) rfl ?_
  refine bs (x := [A4 x0 x1 13 14, A4 21 22 l (x1 + y1 + c), A4 31 32 33 34, A4 x0 x1 13 14, A4 21 22 l (x1 + y1 + c), A4 31 32 33 34]) (own_add2 (x0 := x0) (x1 := x1) (y0 := y0) (y1 := y1) (H1 := [A4 x0 x1 13 14, A4 21 22 l y1, A4 31 32 33 34, A4 x0 x1 13 14, A4 21 22 l (x1 + y1 + c), A4 31 32 33 34]) h.1 h.2 rfl rfl rfl rfl rfl rfl) ?_
  exact hf
theorem own_c202' (x0 x1 y0 y1 : Int64) (s : Int32) (h0 : 0 ≤ x0.toInt) (h1 : 0 ≤ x1.toInt) (h2 : 0 ≤ y0.toInt) (h3 : 0 ≤ y1.toInt) (h4 : x1.toInt < 4611686018427387904) (h5 : y1.toInt < 4611686018427387904) : ∃ Hf, m0_b74 9223372036854775807 x0 x1 y0 y1 0 2 s 2 [] = some (1, Hf) := by
  rw [own_74, own_w02]; unfold m0_b193
  by_cases g : 9223372036854775807 - y0 < x0
  · rw [if_pos g]; unfold m0_b209; rw [if_pos (rfl : (1 : Int64) = 1)]; exact own_c202 x0 x1 y0 y1 _ _ s (own_sum h0 h1 h2 h3 h4 h5 (Or.inl ⟨g, rfl, rfl⟩))
  · rw [if_neg g]; unfold m0_b209; rw [if_neg (by decide : ¬ (0 : Int64) = 1)]; exact own_c202 x0 x1 y0 y1 _ _ s (own_sum h0 h1 h2 h3 h4 h5 (Or.inr ⟨g, rfl, rfl⟩))
theorem own_c210 (x0 x1 y0 y1 c l : Int64) (s : Int32) (h : ((x0 + y0) + 0) &&& 9223372036854775807 = l ∧ ((x1 + y1) + XT.ushrL ((x0 + y0) + 0) 63) &&& 9223372036854775807 = (x1 + y1) + c) : ∃ Hf, m0_b236 x1 y1 1 0 s 2 0 1 2 c l [A4 11 x0 x1 14, A4 y0 y1 23 24, A4 31 32 33 34] = some (1, Hf) := by
  obtain ⟨Hf, hf⟩ := own_456 11 x0 x1 14 l (x1 + y1 + c) 23 24 31 32 33 34
  refine ⟨Hf, ?_⟩
  rw [own_236, own_281, own_314]; unfold m0_b343
  rw [if_neg (by decide : ¬ (2 : Int32) = 0), if_neg (by decide : ¬ (2 : Int32) = 1)]
  refine bs (x := [A4 11 x0 x1 14, A4 y0 y1 23 24, A4 31 32 33 34, A4 11 x0 x1 14, A4 l y1 23 24, A4 31 32 33 34]) rfl ?_
  refine bs (x := [A4 11 x0 x1 14, A4 y0 y1 23 24, A4 31 32 33 34, A4 11 x0 x1 14, A4 l (x1 + y1 + c) 23 24, A4 31 32 33 34]) rfl ?_
  refine bs (x := [A4 11 x0 x1 14, A4 l (x1 + y1 + c) 23 24, A4 31 32 33 34, A4 11 x0 x1 14, A4 l (x1 + y1 + c) 23 24, A4 31 32 33 34]) (own_add2 (x0 := x0) (x1 := x1) (y0 := y0) (y1 := y1) (H1 := [A4 11 x0 x1 14, A4 l y1 23 24, A4 31 32 33 34, A4 11 x0 x1 14, A4 l (x1 + y1 + c) 23 24, A4 31 32 33 34]) h.1 h.2 rfl rfl rfl rfl rfl rfl) ?_
  exact hf
theorem own_c210' (x0 x1 y0 y1 : Int64) (s : Int32) (h0 : 0 ≤ x0.toInt) (h1 : 0 ≤ x1.toInt) (h2 : 0 ≤ y0.toInt) (h3 : 0 ≤ y1.toInt) (h4 : x1.toInt < 4611686018427387904) (h5 : y1.toInt < 4611686018427387904) : ∃ Hf, m0_b74 9223372036854775807 x0 x1 y0 y1 1 0 s 2 [] = some (1, Hf) := by
  rw [own_74, own_w10]; unfold m0_b193
  by_cases g : 9223372036854775807 - y0 < x0
  · rw [if_pos g]; unfold m0_b209; rw [if_pos (rfl : (1 : Int64) = 1)]; exact own_c210 x0 x1 y0 y1 _ _ s (own_sum h0 h1 h2 h3 h4 h5 (Or.inl ⟨g, rfl, rfl⟩))
  · rw [if_neg g]; unfold m0_b209; rw [if_neg (by decide : ¬ (0 : Int64) = 1)]; exact own_c210 x0 x1 y0 y1 _ _ s (own_sum h0 h1 h2 h3 h4 h5 (Or.inr ⟨g, rfl, rfl⟩))
theorem own_c211 (x0 x1 y0 y1 c l : Int64) (s : Int32) (h : ((x0 + y0) + 0) &&& 9223372036854775807 = l ∧ ((x1 + y1) + XT.ushrL ((x0 + y0) + 0) 63) &&& 9223372036854775807 = (x1 + y1) + c) : ∃ Hf, m0_b236 x1 y1 1 1 s 2 0 1 2 c l [A4 11 x0 x1 14, A4 21 y0 y1 24, A4 31 32 33 34] = some (1, Hf) := by
  obtain ⟨Hf, hf⟩ := own_456 11 x0 x1 14 21 l (x1 + y1 + c) 24 31 32 33 34
  refine ⟨Hf, ?_⟩
  rw [own_236, own_281, own_314]; unfold m0_b343
  rw [if_neg (by decide : ¬ (2 : Int32) = 0), if_neg (by decide : ¬ (2 : Int32) = 1)]
  refine bs (x := [A4 11 x0 x1 14, A4 21 y0 y1 24, A4 31 32 33 34, A4 11 x0 x1 14, A4 21 l y1 24, A4 31 32 33 34]) rfl ?_
  refine bs (x := [A4 11 x0 x1 14, A4 21 y0 y1 24, A4 31 32 33 34, A4 11 x0 x1 14, A4 21 l (x1 + y1 + c) 24, A4 31 32 33 34]) rfl ?_
  refine bs (x := [A4 11 x0 x1 14, A4 21 l (x1 + y1 + c) 24, A4 31 32 33 34, A4 11 x0 x1 14, A4 21 l (x1 + y1 + c) 24, A4 31 32 33 34]) (own_add2 (x0 := x0) (x1 := x1) (y0 := y0) (y1 := y1) (H1 := [A4 11 x0 x1 14, A4 21 l y1 24, A4 31 32 33 34, A4 11 x0 x1 14, A4 21 l (x1 + y1 + c) 24, A4 31 32 33 34]) h.1 h.2 rfl rfl rfl rfl rfl rfl) ?_
  exact hf
theorem own_c211' (x0 x1 y0 y1 : Int64) (s : Int32) (h0 : 0 ≤ x0.toInt) (h1 : 0 ≤ x1.toInt) (h2 : 0 ≤ y0.toInt) (h3 : 0 ≤ y1.toInt) (h4 : x1.toInt < 4611686018427387904) (h5 : y1.toInt < 4611686018427387904) : ∃ Hf, m0_b74 9223372036854775807 x0 x1 y0 y1 1 1 s 2 [] = some (1, Hf) := by
  rw [own_74, own_w11]; unfold m0_b193
  by_cases g : 9223372036854775807 - y0 < x0
  · rw [if_pos g]; unfold m0_b209; rw [if_pos (rfl : (1 : Int64) = 1)]; exact own_c211 x0 x1 y0 y1 _ _ s (own_sum h0 h1 h2 h3 h4 h5 (Or.inl ⟨g, rfl, rfl⟩))
  · rw [if_neg g]; unfold m0_b209; rw [if_neg (by decide : ¬ (0 : Int64) = 1)]; exact own_c211 x0 x1 y0 y1 _ _ s (own_sum h0 h1 h2 h3 h4 h5 (Or.inr ⟨g, rfl, rfl⟩))
theorem own_c212 (x0 x1 y0 y1 c l : Int64) (s : Int32) (h : ((x0 + y0) + 0) &&& 9223372036854775807 = l ∧ ((x1 + y1) + XT.ushrL ((x0 + y0) + 0) 63) &&& 9223372036854775807 = (x1 + y1) + c) : ∃ Hf, m0_b236 x1 y1 1 2 s 2 0 1 2 c l [A4 11 x0 x1 14, A4 21 22 y0 y1, A4 31 32 33 34] = some (1, Hf) := by
  obtain ⟨Hf, hf⟩ := own_456 11 x0 x1 14 21 22 l (x1 + y1 + c) 31 32 33 34
  refine ⟨Hf, ?_⟩
  rw [own_236, own_281, own_314]; unfold m0_b343
  rw [if_neg (by decide : ¬ (2 : Int32) = 0), if_neg (by decide : ¬ (2 : Int32) = 1)]
  refine bs (x := [A4 11 x0 x1 14, A4 21 22 y0 y1, A4 31 32 33 34, A4 11 x0 x1 14, A4 21 22 l y1, A4 31 32 33 34]) rfl ?_
  refine bs (x := [A4 11 x0 x1 14, A4 21 22 y0 y1, A4 31 32 33 34, A4 11 x0 x1 14, A4 21 22 l (x1 + y1 + c), A4 31 32 33 34]) rfl ?_
  refine bs (x := [A4 11 x0 x1 14, A4 21 22 l (x1 + y1 + c), A4 31 32 33 34, A4 11 x0 x1 14, A4 21 22 l (x1 + y1 + c), A4 31 32 33 34]) (own_add2 (x0 := x0) (x1 := x1) (y0 := y0) (y1 := y1) (H1 := [A4 11 x0 x1 14, A4 21 22 l y1, A4 31 32 33 34, A4 11 x0 x1 14, A4 21 22 l (x1 + y1 + c), A4 31 32 33 34]) h.1 h.2 rfl rfl rfl rfl rfl rfl) ?_
  exact hf
theorem own_c212' (x0 x1 y0 y1 : Int64) (s : Int32) (h0 : 0 ≤ x0.toInt) (h1 : 0 ≤ x1.toInt) (h2 : 0 ≤ y0.toInt) (h3 : 0 ≤ y1.toInt) (h4 : x1.toInt < 4611686018427387904) (h5 : y1.toInt < 4611686018427387904) : ∃ Hf, m0_b74 9223372036854775807 x0 x1 y0 y1 1 2 s 2 [] = some (1, Hf) := by
  rw [own_74, own_w12]; unfold m0_b193
  by_cases g : 9223372036854775807 - y0 < x0
  · rw [if_pos g]; unfold m0_b209; rw [if_pos (rfl : (1 : Int64) = 1)]; exact own_c212 x0 x1 y0 y1 _ _ s (own_sum h0 h1 h2 h3 h4 h5 (Or.inl ⟨g, rfl, rfl⟩))
  · rw [if_neg g]; unfold m0_b209; rw [if_neg (by decide : ¬ (0 : Int64) = 1)]; exact own_c212 x0 x1 y0 y1 _ _ s (own_sum h0 h1 h2 h3 h4 h5 (Or.inr ⟨g, rfl, rfl⟩))
theorem own_c220 (x0 x1 y0 y1 c l : Int64) (s : Int32) (h : ((x0 + y0) + 0) &&& 9223372036854775807 = l ∧ ((x1 + y1) + XT.ushrL ((x0 + y0) + 0) 63) &&& 9223372036854775807 = (x1 + y1) + c) : ∃ Hf, m0_b236 x1 y1 2 0 s 2 0 1 2 c l [A4 11 12 x0 x1, A4 y0 y1 23 24, A4 31 32 33 34] = some (1, Hf) := by
  obtain ⟨Hf, hf⟩ := own_456 11 12 x0 x1 l (x1 + y1 + c) 23 24 31 32 33 34
  refine ⟨Hf, ?_⟩
  rw [own_236, own_281, own_314]; unfold m0_b343
  rw [if_neg (by decide : ¬ (2 : Int32) = 0), if_neg (by decide : ¬ (2 : Int32) = 1)]
  refine bs (x := [A4 11 12 x0 x1, A4 y0 y1 23 24, A4 31 32 33 34, A4 11 12 x0 x1, A4 l y1 23 24, A4 31 32 33 34]) rfl ?_
  refine bs (x := [A4 11 12 x0 x1, A4 y0 y1 23 24, A4 31 32 33 34, A4 11 12 x0 x1, A4 l (x1 + y1 + c) 23 24, A4 31 32 33 34]) rfl ?_
  refine bs (x := [A4 11 12 x0 x1, A4 l (x1 + y1 + c) 23 24, A4 31 32 33 34, A4 11 12 x0 x1, A4 l (x1 + y1 + c) 23 24, A4 31 32 33 34]) (own_add2 (x0 := x0) (x1 := x1) (y0 := y0) (y1 := y1) (H1 := [A4 11 12 x0 x1, A4 l y1 23 24, A4 31 32 33 34, A4 11 12 x0 x1, A4 l (x1 + y1 + c) 23 24, A4 31 32 33 34]) h.1 h.2 rfl rfl rfl rfl rfl rfl) ?_
  exact hf
theorem own_c220' (x0 x1 y0 y1 : Int64) (s : Int32) (h0 : 0 ≤ x0.toInt) (h1 : 0 ≤ x1.toInt) (h2 : 0 ≤ y0.toInt) (h3 : 0 ≤ y1.toInt) (h4 : x1.toInt < 4611686018427387904) (h5 : y1.toInt < 4611686018427387904) : ∃ Hf, m0_b74 9223372036854775807 x0 x1 y0 y1 2 0 s 2 [] = some (1, Hf) := by
  rw [own_74, own_w20]; unfold m0_b193
  by_cases g : 9223372036854775807 - y0 < x0
  · rw [if_pos g]; unfold m0_b209; rw [if_pos (rfl : (1 : Int64) = 1)]; exact own_c220 x0 x1 y0 y1 _ _ s (own_sum h0 h1 h2 h3 h4 h5 (Or.inl ⟨g, rfl, rfl⟩))
  · rw [if_neg g]; unfold m0_b209; rw [if_neg (by decide : ¬ (0 : Int64) = 1)]; exact own_c220 x0 x1 y0 y1 _ _ s (own_sum h0 h1 h2 h3 h4 h5 (Or.inr ⟨g, rfl, rfl⟩))
theorem own_c221 (x0 x1 y0 y1 c l : Int64) (s : Int32) (h : ((x0 + y0) + 0) &&& 9223372036854775807 = l ∧ ((x1 + y1) + XT.ushrL ((x0 + y0) + 0) 63) &&& 9223372036854775807 = (x1 + y1) + c) : ∃ Hf, m0_b236 x1 y1 2 1 s 2 0 1 2 c l [A4 11 12 x0 x1, A4 21 y0 y1 24, A4 31 32 33 34] = some (1, Hf) := by
  obtain ⟨Hf, hf⟩ := own_456 11 12 x0 x1 21 l (x1 + y1 + c) 24 31 32 33 34
  refine ⟨Hf, ?_⟩
  rw [own_236, own_281, own_314]; unfold m0_b343
  rw [if_neg (by decide : ¬ (2 : Int32) = 0), if_neg (by decide : ¬ (2 : Int32) = 1)]
  refine bs (x := [A4 11 12 x0 x1, A4 21 y0 y1 24, A4 31 32 33 34, A4 11 12 x0 x1, A4 21 l y1 24, A4 31 32 33 34]) rfl ?_
  refine bs (x := [A4 11 12 x0 x1, A4 21 y0 y1 24, A4 31 32 33 34, A4 11 12 x0 x1, A4 21 l (x1 + y1 + c) 24, A4 31 32 33 34]) rfl ?_
  refine bs (x := [A4 11 12 x0 x1, A4 21 l (x1 + y1 + c) 24, A4 31 32 33 34, A4 11 12 x0 x1, A4 21 l (x1 + y1 + c) 24, A4 31 32 33 34]) (own_add2 (x0 := x0) (x1 := x1) (y0 := y0) (y1 := y1) (H1 := [A4 11 12 x0 x1, A4 21 l y1 24, A4 31 32 33 34, A4 11 12 x0 x1, A4 21 l (x1 + y1 + c) 24, A4 31 32 33 34]) h.1 h.2 rfl rfl rfl rfl rfl rfl) ?_
  exact hf
theorem own_c221' (x0 x1 y0 y1 : Int64) (s : Int32) (h0 : 0 ≤ x0.toInt) (h1 : 0 ≤ x1.toInt) (h2 : 0 ≤ y0.toInt) (h3 : 0 ≤ y1.toInt) (h4 : x1.toInt < 4611686018427387904) (h5 : y1.toInt < 4611686018427387904) : ∃ Hf, m0_b74 9223372036854775807 x0 x1 y0 y1 2 1 s 2 [] = some (1, Hf) := by
  rw [own_74, own_w21]; unfold m0_b193
  by_cases g : 9223372036854775807 - y0 < x0
  · rw [if_pos g]; unfold m0_b209; rw [if_pos (rfl : (1 : Int64) = 1)]; exact own_c221 x0 x1 y0 y1 _ _ s (own_sum h0 h1 h2 h3 h4 h5 (Or.inl ⟨g, rfl, rfl⟩))
  · rw [if_neg g]; unfold m0_b209; rw [if_neg (by decide : ¬ (0 : Int64) = 1)]; exact own_c221 x0 x1 y0 y1 _ _ s (own_sum h0 h1 h2 h3 h4 h5 (Or.inr ⟨g, rfl, rfl⟩))
theorem own_c222 (x0 x1 y0 y1 c l : Int64) (s : Int32) (h : ((x0 + y0) + 0) &&& 9223372036854775807 = l ∧ ((x1 + y1) + XT.ushrL ((x0 + y0) + 0) 63) &&& 9223372036854775807 = (x1 + y1) + c) : ∃ Hf, m0_b236 x1 y1 2 2 s 2 0 1 2 c l [A4 11 12 x0 x1, A4 21 22 y0 y1, A4 31 32 33 34] = some (1, Hf) := by
  obtain ⟨Hf, hf⟩ := own_456 11 12 x0 x1 21 22 l (x1 + y1 + c) 31 32 33 34
  refine ⟨Hf, ?_⟩
  rw [own_236, own_281, own_314]; unfold m0_b343
  rw [if_neg (by decide : ¬ (2 : Int32) = 0), if_neg (by decide : ¬ (2 : Int32) = 1)]
  refine bs (x := [A4 11 12 x0 x1, A4 21 22 y0 y1, A4 31 32 33 34, A4 11 12 x0 x1, A4 21 22 l y1, A4 31 32 33 34]) rfl ?_
  refine bs (x := [A4 11 12 x0 x1, A4 21 22 y0 y1, A4 31 32 33 34, A4 11 12 x0 x1, A4 21 22 l (x1 + y1 + c), A4 31 32 33 34]) rfl ?_
  refine bs (x := [A4 11 12 x0 x1, A4 21 22 l (x1 + y1 + c), A4 31 32 33 34, A4 11 12 x0 x1, A4 21 22 l (x1 + y1 + c), A4 31 32 33 34]) (own_add2 (x0 := x0) (x1 := x1) (y0 := y0) (y1 := y1) (H1 := [A4 11 12 x0 x1, A4 21 22 l y1, A4 31 32 33 34, A4 11 12 x0 x1, A4 21 22 l (x1 + y1 + c), A4 31 32 33 34]) h.1 h.2 rfl rfl rfl rfl rfl rfl) ?_
  exact hf
theorem own_c222' (x0 x1 y0 y1 : Int64) (s : Int32) (h0 : 0 ≤ x0.toInt) (h1 : 0 ≤ x1.toInt) (h2 : 0 ≤ y0.toInt) (h3 : 0 ≤ y1.toInt) (h4 : x1.toInt < 4611686018427387904) (h5 : y1.toInt < 4611686018427387904) : ∃ Hf, m0_b74 9223372036854775807 x0 x1 y0 y1 2 2 s 2 [] = some (1, Hf) := by
  rw [own_74, own_w22]; unfold m0_b193
  by_cases g : 9223372036854775807 - y0 < x0
  · rw [if_pos g]; unfold m0_b209; rw [if_pos (rfl : (1 : Int64) = 1)]; exact own_c222 x0 x1 y0 y1 _ _ s (own_sum h0 h1 h2 h3 h4 h5 (Or.inl ⟨g, rfl, rfl⟩))
  · rw [if_neg g]; unfold m0_b209; rw [if_neg (by decide : ¬ (0 : Int64) = 1)]; exact own_c222 x0 x1 y0 y1 _ _ s (own_sum h0 h1 h2 h3 h4 h5 (Or.inr ⟨g, rfl, rfl⟩))
theorem own_3 {a : Int32} (h : 0 ≤ a.toInt) : a % 3 = 0 ∨ a % 3 = 1 ∨ a % 3 = 2 := by
  have h2 := own_mod (a := a) (y := 3) (d := 3) (by decide) h
  obtain ⟨j, hj⟩ := own_fin (r := a % 3) (N := 3) (by omega) (by omega) (by decide)
  rw [hj]
  have : ∀ j : Fin 3, (j.1).toInt32 = 0 ∨ (j.1).toInt32 = 1 ∨ (j.1).toInt32 = 2 := by decide +kernel
  exact this j
theorem plain (i0 : Int64) (i1 : Int64) (i2 : Int64) (i3 : Int64) (i4 : Int32) (i5 : Int32) : ∃ Hf, m0 i0 i1 i2 i3 i4 i5 [] = some (1, Hf) := by
  show ∃ Hf, m0_b0 i0 i1 i2 i3 i4 i5 [] = some (1, Hf)
  unfold m0_b0 m0_b19 m0_b35 m0_b56 m0_b65
  have hM : XT.ushrL (9223372036854775807 : Int64) 1 = 4611686018427387903 := by decide +kernel
  rw [hM]
  have a0 : (i0 &&& 9223372036854775807).toInt = i0.toInt % 9223372036854775808 := c_maskL i0 9223372036854775807 63 (by decide) (by decide)
  have a1 : (i1 &&& 4611686018427387903).toInt = i1.toInt % 4611686018427387904 := c_maskL i1 4611686018427387903 62 (by decide) (by decide)
  have a2 : (i2 &&& 9223372036854775807).toInt = i2.toInt % 9223372036854775808 := c_maskL i2 9223372036854775807 63 (by decide) (by decide)
  have a3 : (i3 &&& 4611686018427387903).toInt = i3.toInt % 4611686018427387904 := c_maskL i3 4611686018427387903 62 (by decide) (by decide)
  have g0 : 0 ≤ (i0 &&& 9223372036854775807).toInt := by omega
  have g1 : 0 ≤ (i1 &&& 4611686018427387903).toInt := by omega
  have g2 : 0 ≤ (i2 &&& 9223372036854775807).toInt := by omega
  have g3 : 0 ≤ (i3 &&& 4611686018427387903).toInt := by omega
  have g4 : (i1 &&& 4611686018427387903).toInt < 4611686018427387904 := by omega
  have g5 : (i3 &&& 4611686018427387903).toInt < 4611686018427387904 := by omega
  have o := own_m31 i4
  have o' := own_m31 i5
  have q3 := (c_idiv (i4 &&& 2147483647) 3 3 (by decide) (by decide)).1 (by omega)
  have q9 := (c_idiv (i4 &&& 2147483647) 9 9 (by decide) (by decide)).1 (by omega)
  have ha := own_3 (a := i4 &&& 2147483647) (by omega)
  have hb := own_3 (a := (i4 &&& 2147483647) / 3) (by omega)
  have hs := own_3 (a := (i4 &&& 2147483647) / 9) (by omega)
  have hk := own_3 (a := i5 &&& 2147483647) (by omega)
  generalize i0 &&& 9223372036854775807 = x0 at *
  generalize i1 &&& 4611686018427387903 = x1 at *
  generalize i2 &&& 9223372036854775807 = y0 at *
  generalize i3 &&& 4611686018427387903 = y1 at *
  generalize (i4 &&& 2147483647) % 3 = pa at *
  generalize ((i4 &&& 2147483647) / 3) % 3 = pb at *
  generalize ((i4 &&& 2147483647) / 9) % 3 = ps at *
  generalize (i5 &&& 2147483647) % 3 = k at *
  rcases hk with rfl | rfl | rfl
  · rcases ha with rfl | rfl | rfl <;> rcases hb with rfl | rfl | rfl <;> rcases hs with rfl | rfl | rfl
    · exact own_c0000' x0 x1 y0 y1 g0 g1 g2 g3 g4 g5
    · exact own_c0001' x0 x1 y0 y1 g0 g1 g2 g3 g4 g5
    · exact own_c0002' x0 x1 y0 y1 g0 g1 g2 g3 g4 g5
    · exact own_c0010' x0 x1 y0 y1 g0 g1 g2 g3 g4 g5
    · exact own_c0011' x0 x1 y0 y1 g0 g1 g2 g3 g4 g5
    · exact own_c0012' x0 x1 y0 y1 g0 g1 g2 g3 g4 g5
    · exact own_c0020' x0 x1 y0 y1 g0 g1 g2 g3 g4 g5
    · exact own_c0021' x0 x1 y0 y1 g0 g1 g2 g3 g4 g5
    · exact own_c0022' x0 x1 y0 y1 g0 g1 g2 g3 g4 g5
    · exact own_c0100' x0 x1 y0 y1 g0 g1 g2 g3 g4 g5
    · exact own_c0101' x0 x1 y0 y1 g0 g1 g2 g3 g4 g5
    · exact own_c0102' x0 x1 y0 y1 g0 g1 g2 g3 g4 g5
    · exact own_c0110' x0 x1 y0 y1 g0 g1 g2 g3 g4 g5
    · exact own_c0111' x0 x1 y0 y1 g0 g1 g2 g3 g4 g5
    · exact own_c0112' x0 x1 y0 y1 g0 g1 g2 g3 g4 g5
    · exact own_c0120' x0 x1 y0 y1 g0 g1 g2 g3 g4 g5
    · exact own_c0121' x0 x1 y0 y1 g0 g1 g2 g3 g4 g5
    · exact own_c0122' x0 x1 y0 y1 g0 g1 g2 g3 g4 g5
    · exact own_c0200' x0 x1 y0 y1 g0 g1 g2 g3 g4 g5
    · exact own_c0201' x0 x1 y0 y1 g0 g1 g2 g3 g4 g5
    · exact own_c0202' x0 x1 y0 y1 g0 g1 g2 g3 g4 g5
    · exact own_c0210' x0 x1 y0 y1 g0 g1 g2 g3 g4 g5
    · exact own_c0211' x0 x1 y0 y1 g0 g1 g2 g3 g4 g5
    · exact own_c0212' x0 x1 y0 y1 g0 g1 g2 g3 g4 g5
    · exact own_c0220' x0 x1 y0 y1 g0 g1 g2 g3 g4 g5
    · exact own_c0221' x0 x1 y0 y1 g0 g1 g2 g3 g4 g5
    · exact own_c0222' x0 x1 y0 y1 g0 g1 g2 g3 g4 g5
  · rcases ha with rfl | rfl | rfl <;> rcases hb with rfl | rfl | rfl
    · exact own_c100' x0 x1 y0 y1 ps g0 g1 g2 g3 g4 g5
    · exact own_c101' x0 x1 y0 y1 ps g0 g1 g2 g3 g4 g5
    · exact own_c102' x0 x1 y0 y1 ps g0 g1 g2 g3 g4 g5
    · exact own_c110' x0 x1 y0 y1 ps g0 g1 g2 g3 g4 g5
    · exact own_c111' x0 x1 y0 y1 ps g0 g1 g2 g3 g4 g5
    · exact own_c112' x0 x1 y0 y1 ps g0 g1 g2 g3 g4 g5
    · exact own_c120' x0 x1 y0 y1 ps g0 g1 g2 g3 g4 g5
    · exact own_c121' x0 x1 y0 y1 ps g0 g1 g2 g3 g4 g5
    · exact own_c122' x0 x1 y0 y1 ps g0 g1 g2 g3 g4 g5
  · rcases ha with rfl | rfl | rfl <;> rcases hb with rfl | rfl | rfl
    · exact own_c200' x0 x1 y0 y1 ps g0 g1 g2 g3 g4 g5
    · exact own_c201' x0 x1 y0 y1 ps g0 g1 g2 g3 g4 g5
    · exact own_c202' x0 x1 y0 y1 ps g0 g1 g2 g3 g4 g5
    · exact own_c210' x0 x1 y0 y1 ps g0 g1 g2 g3 g4 g5
    · exact own_c211' x0 x1 y0 y1 ps g0 g1 g2 g3 g4 g5
    · exact own_c212' x0 x1 y0 y1 ps g0 g1 g2 g3 g4 g5
    · exact own_c220' x0 x1 y0 y1 ps g0 g1 g2 g3 g4 g5
    · exact own_c221' x0 x1 y0 y1 ps g0 g1 g2 g3 g4 g5
    · exact own_c222' x0 x1 y0 y1 ps g0 g1 g2 g3 g4 g5

theorem comes_1 {Post : Tables → Env → Array Value → State → Outcome → State → Prop} (hpost : ∀ tb e args s v u, (limb_1_1.after args s (.returned v) u = true ∧ limb_1_2.after args s (.returned v) u = true ∧ True) → FrameEnd s (.returned v) u (Jvm.fieldLocs frame_1_writes args s ++ Jvm.arrayLocs frame_1_arrays args s ++ Jvm.staticLocs frame_1_statics s) 24 128 → Post tb e args s (.returned v) u) :
    ArmFor flags0 classFile x code maxLocals ret World_1 tables_1 room_1 Calls_1 rest_1 Pre_1 Post := by
  intro l hfl _ _ p e ha hc hk s m args below hf hA hF happ hP
  obtain ⟨hcalls, hrest, hpre⟩ := hP
  obtain ⟨-, -, -, hnamed, -, -, -, hat⟩ := (Spec.applies_iff hf).mp happ
  obtain ⟨hg, hn⟩ := and_e (Cond.before_iff.mp (show (Jvm.Cond.and given_1 narrow_1).before args s = true from hpre))
  obtain ⟨h1, g0⟩ := and_e hg
  obtain ⟨w0, w1, w2, w3, w4, w5, rfl⟩ : ∃ w0 w1 w2 w3 w4 w5 : Value, args = #[w0, w1, w2, w3, w4, w5] := by
    have hs : args.size = 6 := by simpa [Cond.value, given_1] using h1
    obtain ⟨L⟩ := args
    match L, hs with
    | [w0, w1, w2, w3, w4, w5], _ => exact ⟨w0, w1, w2, w3, w4, w5, rfl⟩
  have hw := fun d (hd : d ∈ tables_1) => atoms_spec (ws := Jvm.Cond.code x code maxLocals ret :: tables_1) hat d (List.mem_cons_of_mem _ hd)
  obtain ⟨a0, g1⟩ := and_e g0
  obtain ⟨i0, e0⟩ := isL_v a0
  obtain rfl : w0 = (.long i0) := Option.some.inj e0
  obtain ⟨a1, g2⟩ := and_e g1
  obtain ⟨i1, e1⟩ := isL_v a1
  obtain rfl : w1 = (.long i1) := Option.some.inj e1
  obtain ⟨a2, g3⟩ := and_e g2
  obtain ⟨i2, e2⟩ := isL_v a2
  obtain rfl : w2 = (.long i2) := Option.some.inj e2
  obtain ⟨a3, g4⟩ := and_e g3
  obtain ⟨i3, e3⟩ := isL_v a3
  obtain rfl : w3 = (.long i3) := Option.some.inj e3
  obtain ⟨a4, g5⟩ := and_e g4
  obtain ⟨i4, e4⟩ := is_v a4
  obtain rfl : w4 = (.int i4) := Option.some.inj e4
  obtain ⟨i5, e5⟩ := is_v g5
  obtain rfl : w5 = (.int i5) := Option.some.inj e5
  obtain ⟨Hf, hlaw⟩ := plain i0 i1 i2 i3 i4 i5
  obtain ⟨n, o, h1, h2, h3, _, L, rfl, ⟨rfl, N⟩, hq⟩ := law_of (l := l) (s := s) (as := [(.long i0), (.long i1), (.long i2), (.long i3), (.int i4), (.int i5)]) (k0 := 6) (k1 := 24) hw pn0 rfl rfl (fun K O => m0_t0 O i0 i1 i2 i3 i4 i5 [] 1 Hf hlaw) p e ha hc hk s m _ below hf ((Spec.applies_iff_loose hf).mp happ).1 ⟨rfl, State.Warmed39.refl s, rfl⟩ trivial
  refine ⟨n, _, h1, h2, h3, hpost _ _ _ _ _ _ ⟨Cond.after_iff.mpr rfl, Cond.after_iff.mpr (eq_i res_at (Term.int_eval (1)) rfl), trivial⟩ ⟨hq.1, hq.2.1, (hq.2.2.sift fun y hy => Or.inr (N y hy)).mono (by decide) (by decide)⟩⟩
theorem main_1_1 : Claimed_1_1 := comes_1 fun _ _ _ _ _ _ h hF => ⟨h.1, hF⟩
theorem main_1_2 : Claimed_1_2 := comes_1 fun _ _ _ _ _ _ h hF => ⟨h.2.1, hF⟩
end Jvm.Pilot.@@N@@
namespace Jvm.Pilot.@@N@@
open Jvm Jvm.ClassFile Sem Op Lib Jvm.Free Jvm.Stand Jvm.Pilot.@@N@@.Jvm.D
/-! MADE BY PROGRAM (witnessworld.py) out of the Statement's table words and the real class files: 11 classes; the members and pool entries that the words name. The judged class is class 1, her method 2. -/
namespace start1
open Jvm.ClassFile
def u (s : String) : CpInfo := .utf8 (stringToUtf16 s)
/-- a pool by its gaps: so many unusable entries, then the entry; so many at the end -/
def gap : Nat → List CpInfo → List CpInfo
  | 0, r => r
  | n + 1, r => .unusable :: gap n r
def poolList (es : List (Nat × CpInfo)) (last : Nat) : List CpInfo := es.foldr (fun e r => gap e.1 (e.2 :: r)) (gap last [])
def pool (es : List (Nat × CpInfo)) (last : Nat) : Array CpInfo := ⟨poolList es last⟩
def fileOf (pool : Array CpInfo) (this : Nat) (attrs : Array Attribute := #[]) (ms : Array MethodInfo := #[]) (fl : Nat := 33) (sup : Nat := 0) (ifs : Array Nat := #[]) (fds : Array FieldInfo := #[]) : ClassFile where
  minorVersion := 0
  majorVersion := 65
  constantPool := pool
  accessFlags := fl
  thisClass := this
  superClass := sup
  interfaces := ifs
  fields := fds
  methods := ms
  attributes := attrs
def plain (name : String) (sup : Option ClassId) : Class where
  name := name
  kind := .ordinary
  loader := none
  accessFlags := 33
  super := sup
  interfaces := #[]
  cf := none
  fields := #[]
  methods := #[]
  instanceTypes := #[]
  staticTypes := #[]
  resolved := #[]
  callSites := []
  init := .initialized
  statics := none
  mirror := none

def pool0 : Array CpInfo := pool [(5, u "<init>"), (0, u "()V"), (1, .class_ 10), (1, u "java/lang/Object")] 113

def k0m0 : Method := { name := "<init>", desc := "()V", sig := { parameters := [], returnType := none }, accessFlags := 1, code := none }
/-- java/lang/Object -/
def k0 : Class := { plain "java/lang/Object" none with
  accessFlags := 33
  interfaces := #[]
  cf := some (fileOf pool0 8 #[] #[{ accessFlags := 1, nameIndex := 5, descriptorIndex := 6, attributes := #[] }] 33 0 #[] #[])
  fields := #[]
  methods := #[k0m0]
  instanceTypes := #[]
  staticTypes := #[]
  resolved := Array.replicate 124 none
  statics := none }

def pool1 : Array CpInfo := pool [(2, .class_ 4), (1, u "java/lang/Object"), (0, u "<init>"), (0, u "()V"), (2, .long 9223372036854775807), (1, .integer 2147483647), (0, .long 11), (1, .long 12), (1, .long 13), (1, .long 14), (1, .long 21), (1, .long 22), (1, .long 23), (1, .long 24), (1, .long 31), (1, .long 32), (1, .long 33), (1, .long 34), (1, .methodref 37 38), (0, .class_ 39), (0, .nameAndType 40 41), (0, u "com/example/waystation/waystation/placement/Limbs"), (0, u "add"), (0, u "([JI[JI[JII)V"), (0, .methodref 43 44), (0, .class_ 45), (0, .nameAndType 46 47), (0, u "com/example/waystation/waystation/placement/LimbsAddPinLaw"), (0, u "same"), (0, u "([J[J)Z"), (3, u "law"), (0, u "(JJJJII)Z")] 4

def k1m0 : Method := { name := "<init>", desc := "()V", sig := { parameters := [], returnType := none }, accessFlags := 1, code := none }
def k1c1 : Code := { maxStack := 4, maxLocals := 2, code := method_2_code, exceptionTable := #[], attributes := #[] }
def k1m1 : Method := { name := "same", desc := "([J[J)Z", sig := { parameters := [(.array .long), (.array .long)], returnType := some .boolean }, accessFlags := 10, code := some k1c1 }
def k1c2 : Code := { maxStack := 7, maxLocals := 37, code := code, exceptionTable := #[], attributes := #[] }
def k1m2 : Method := { name := "law", desc := "(JJJJII)Z", sig := { parameters := [.long, .long, .long, .long, .int, .int], returnType := some .boolean }, accessFlags := 9, code := some k1c2 }
/-- com/example/waystation/waystation/placement/LimbsAddPinLaw -/
def k1 : Class := { plain "com/example/waystation/waystation/placement/LimbsAddPinLaw" (some 0) with
  accessFlags := 49
  interfaces := #[]
  cf := some (fileOf pool1 43 #[] #[{ accessFlags := 1, nameIndex := 5, descriptorIndex := 6, attributes := #[] }, { accessFlags := 10, nameIndex := 46, descriptorIndex := 47, attributes := #[] }, { accessFlags := 9, nameIndex := 51, descriptorIndex := 52, attributes := #[] }] 49 2 #[] #[])
  fields := #[]
  methods := #[k1m0, k1m1, k1m2]
  instanceTypes := #[]
  staticTypes := #[]
  resolved := Array.replicate 57 none
  statics := none }

def pool2 : Array CpInfo := pool [(4, .class_ 6), (1, u "java/lang/Object"), (0, u "<init>"), (0, u "()V"), (6, .class_ 16), (0, u "com/example/waystation/waystation/placement/Limbs"), (28, .long 9223372036854775807), (13, u "BITS"), (0, u "I"), (2, u "MASK"), (0, u "J"), (7, u "add"), (0, u "([JI[JI[JII)V")] 23

def k2m0 : Method := { name := "<init>", desc := "()V", sig := { parameters := [], returnType := none }, accessFlags := 2, code := none }
def k2c1 : Code := { maxStack := 6, maxLocals := 12, code := prog_23_method_4_code, exceptionTable := #[], attributes := #[] }
def k2m1 : Method := { name := "add", desc := "([JI[JI[JII)V", sig := { parameters := [(.array .long), .int, (.array .long), .int, (.array .long), .int, .int], returnType := none }, accessFlags := 8, code := some k2c1 }
/-- com/example/waystation/waystation/placement/Limbs -/
def k2 : Class := { plain "com/example/waystation/waystation/placement/Limbs" (some 0) with
  accessFlags := 48
  interfaces := #[]
  cf := some (fileOf pool2 15 #[] #[{ accessFlags := 2, nameIndex := 7, descriptorIndex := 8, attributes := #[] }, { accessFlags := 8, nameIndex := 72, descriptorIndex := 73, attributes := #[] }] 48 4 #[] #[{ accessFlags := 26, nameIndex := 59, descriptorIndex := 60, attributes := #[] }, { accessFlags := 26, nameIndex := 63, descriptorIndex := 64, attributes := #[] }])
  fields := #[{ name := "BITS", type := .int, accessFlags := 26, slot := 0, constantValue := 0 }, { name := "MASK", type := .long, accessFlags := 26, slot := 1, constantValue := 0 }]
  methods := #[k2m0, k2m1]
  instanceTypes := #[]
  staticTypes := #[.int, .long]
  resolved := Array.replicate 97 none
  statics := none }

def pool3 : Array CpInfo := pool [(1, u "java/lang/Cloneable"), (0, .class_ 1), (0, u "java/lang/Object"), (0, .class_ 3)] 3

/-- java/lang/Cloneable -/
def k3 : Class := { plain "java/lang/Cloneable" (some 0) with
  accessFlags := 1537
  interfaces := #[]
  cf := some (fileOf pool3 2 #[] #[] 1537 4 #[] #[])
  fields := #[]
  methods := #[]
  instanceTypes := #[]
  staticTypes := #[]
  resolved := Array.replicate 8 none
  statics := none }

def pool4 : Array CpInfo := pool [(1, u "java/io/Serializable"), (0, .class_ 1), (0, u "java/lang/Object"), (0, .class_ 3)] 3

/-- java/io/Serializable -/
def k4 : Class := { plain "java/io/Serializable" (some 0) with
  accessFlags := 1537
  interfaces := #[]
  cf := some (fileOf pool4 2 #[] #[] 1537 4 #[] #[])
  fields := #[]
  methods := #[]
  instanceTypes := #[]
  staticTypes := #[]
  resolved := Array.replicate 8 none
  statics := none }

/-- the primitive byte -/
def k5 : Class := { plain "byte" none with kind := .primitive 'B', accessFlags := 0x411 }
/-- [B -/
def k6 : Class := { plain "[B" (some 0) with kind := .array 5 .byte, interfaces := #[3, 4], accessFlags := 1041 }

/-- the primitive int -/
def k7 : Class := { plain "int" none with kind := .primitive 'I', accessFlags := 0x411 }
/-- [I -/
def k8 : Class := { plain "[I" (some 0) with kind := .array 7 .int, interfaces := #[3, 4], accessFlags := 1041 }

/-- the primitive long -/
def k9 : Class := { plain "long" none with kind := .primitive 'J', accessFlags := 0x411 }
/-- [J -/
def k10 : Class := { plain "[J" (some 0) with kind := .array 9 .long, interfaces := #[3, 4], accessFlags := 1041 }

def heap : Heap := #[]
def classes : Array Class := #[k0, k1, k2, k3, k4, k5, k6, k7, k8, k9, k10]
def interned : List (Array UInt16 × Addr) := []
def slotsUsed : Nat := 0
def theMethod : MethodId := ⟨1, 2⟩
def args0 : Array Value := #[.long 5, .long 5, .long 5, .long 5, .int 5, .int 5]
def aboutOver (below : List Frame) : State where
  vm := { classes := classes, interned := interned.toArray }
  heap := heap
  slotsUsed := slotsUsed
  threads := #[{ frames := .invoking theMethod args0 :: below }]
def below0 : List Frame := [.native { method := ⟨0, 0⟩, args := #[] }]
def about1 : State := aboutOver below0
def p0 : Program := .bare "" "" ""
def e0 : Env := launch0.env 0 0 0
theorem w_frames : about1.frames = Frame.invoking theMethod args0 :: below0 := rfl
set_option maxRecDepth 65536 in
theorem w_args : argsFit about1.vm theMethod args0 = true := by decide +kernel
set_option maxRecDepth 65536 in
theorem w_heap : heapFits about1 = true := by decide +kernel
set_option maxRecDepth 65536 in
theorem w_runnable : about1.curStatus? = some .runnable := by decide +kernel
set_option maxRecDepth 65536 in
theorem w_alone : about1.alone = true := by decide +kernel
set_option maxRecDepth 65536 in
theorem w_named : about1.methodNamed? x = some theMethod := by decide +kernel
set_option maxRecDepth 65536 in
theorem w_hears : about1.hears theMethod below0 = true := by decide +kernel
set_option maxRecDepth 65536 in
theorem w_ripe : about1.ripe theMethod args0 below0 = true := by decide +kernel
theorem w_running : about1.status = .running := rfl
set_option maxRecDepth 65536 in
theorem w_room : about1.hasRoom e0.platform room_1 = true :=
  launch0.hasRoom_least _ room_1 (by decide +kernel) (by decide +kernel) (by decide +kernel) (by decide +kernel) (by decide +kernel) (by decide +kernel)
theorem allAtoms_all (ts : List Jvm.Cond) (a : Array Jvm.Value) (st : Jvm.State) : (allAtoms ts).before a st = ts.all (fun c => c.before a st) := by
  induction ts with
  | nil => rfl
  | cons c t ih =>
    show (Jvm.Cond.and c (allAtoms t)).before a st = _
    rw [Jvm.Cond.before_and, ih, List.all_cons]
def words1 : List Jvm.Cond := Jvm.Cond.code x code maxLocals ret :: tables_1
/-- a 'code' word, met by the world's own term for the bytes: nothing is compared byte by byte -/
theorem code_word {y : MethodName} {bytes : ByteArray} {mx : Nat} {rt : Option FieldType} {a : Array Value} {s : State} {m : MethodId} {meth : Method} {c : Code} (h1 : s.methodNamed? y = some m) (h2 : s.vm.method? m = some meth) (h3 : meth.code = some c) (h4 : c.code = bytes)
    (h5 : (c.maxLocals == mx && c.exceptionTable.isEmpty && decide (c.maxStack ≤ mostOperands) && decide (meth.sig.returnType = rt) && !meth.locks && decide (parseMethodDescriptor y.desc = some meth.sig)) = true) : (Jvm.Cond.code y bytes mx rt).before a s = true := by
  simp only [Bool.and_eq_true, beq_iff_eq, Bool.not_eq_true', decide_eq_true_eq] at h5
  obtain ⟨⟨⟨⟨⟨g1, g2⟩, g3⟩, g4⟩, g5⟩, g6⟩ := h5
  simp [Cond.before, Cond.holds, Cond.value, h1, h2, h3, h4, g1, g2, g3, g4, g5, g6]
def isCode : Jvm.Cond → Bool
  | .code _ _ _ _ => true
  | _ => false
theorem all_split {L : List Jvm.Cond} {P : Jvm.Cond → Bool} (h1 : L.all (fun c => isCode c || P c) = true) (h2 : ∀ c ∈ L.filter isCode, P c = true) : L.all P = true := by
  refine List.all_eq_true.mpr fun c hc => ?_
  have h := List.all_eq_true.mp h1 c hc
  rcases Bool.eq_false_or_eq_true (isCode c) with hi | hi
  · exact h2 c (List.mem_filter.mpr ⟨hc, hi⟩)
  · simpa [hi] using h
set_option maxRecDepth 65536 in
theorem w_c0 : (Jvm.Cond.code x code maxLocals ret).before args0 about1 = true := code_word (m := ⟨1, 2⟩) (meth := k1m2) (c := k1c2) (by decide +kernel) rfl rfl rfl (by decide +kernel)
set_option maxRecDepth 65536 in
theorem w_c1 : (Jvm.Cond.code ({ cls := "com/example/waystation/waystation/placement/Limbs", name := "add", desc := "([JI[JI[JII)V" } : Jvm.MethodName) prog_23_method_4_code (12 : Nat) (Option.none : Option Jvm.ClassFile.FieldType)).before args0 about1 = true := code_word (m := ⟨2, 1⟩) (meth := k2m1) (c := k2c1) (by decide +kernel) rfl rfl rfl (by decide +kernel)
set_option maxRecDepth 65536 in
theorem w_c2 : (Jvm.Cond.code ({ cls := "com/example/waystation/waystation/placement/LimbsAddPinLaw", name := "same", desc := "([J[J)Z" } : Jvm.MethodName) method_2_code (2 : Nat) (Option.some Jvm.ClassFile.FieldType.boolean)).before args0 about1 = true := code_word (m := ⟨1, 1⟩) (meth := k1m1) (c := k1c1) (by decide +kernel) rfl rfl rfl (by decide +kernel)
def codes1 : List Jvm.Cond := [Jvm.Cond.code x code maxLocals ret, Jvm.Cond.code ({ cls := "com/example/waystation/waystation/placement/Limbs", name := "add", desc := "([JI[JI[JII)V" } : Jvm.MethodName) prog_23_method_4_code (12 : Nat) (Option.none : Option Jvm.ClassFile.FieldType), Jvm.Cond.code ({ cls := "com/example/waystation/waystation/placement/LimbsAddPinLaw", name := "same", desc := "([J[J)Z" } : Jvm.MethodName) method_2_code (2 : Nat) (Option.some Jvm.ClassFile.FieldType.boolean)]
set_option maxRecDepth 65536 in
theorem codes_eq : words1.filter isCode = codes1 := rfl
theorem w_codes : ∀ c ∈ words1.filter isCode, c.before args0 about1 = true := by
  rw [codes_eq]
  intro c hc
  simp only [codes1, List.mem_cons, List.not_mem_nil, or_false] at hc
  rcases hc with rfl | rfl | rfl
  · exact w_c0
  · exact w_c1
  · exact w_c2
set_option maxRecDepth 65536 in
theorem w_t1 : (words1.take 24).all (fun c => isCode c || c.before args0 about1) = true := by decide +kernel
set_option maxRecDepth 65536 in
theorem w_t2 : (words1.drop 24).all (fun c => isCode c || c.before args0 about1) = true := by decide +kernel
theorem w_tables : (allAtoms (Jvm.Cond.code x code maxLocals ret :: tables_1)).before args0 about1 = true := by
  rw [allAtoms_all]
  show words1.all (fun c => c.before args0 about1) = true
  refine all_split ?_ w_codes
  rw [← List.take_append_drop 24 words1, List.all_append, w_t1, w_t2]
  rfl
set_option maxRecDepth 65536 in
theorem w_case : (Jvm.Cond.and given_1 narrow_1).before args0 about1 = true := by decide +kernel
theorem w_applies : (headSpec (Jvm.Cond.code x code maxLocals ret :: tables_1) room_1).applies x e0.platform about1 = true :=
  (Spec.applies_iff w_frames).mpr ⟨w_running, w_runnable, w_alone, w_named, w_hears, w_ripe, w_room, w_tables⟩
theorem atStart : AtStart classFile x code maxLocals ret World_1 tables_1 room_1 Calls_1 rest_1 Pre_1 launch0 p0 e0 about1 theMethod args0 below0 :=
  ⟨lists_1, trivial, launch0.admits_env _ _ _, launch0.least_env, fairChoices_fair.cas, fairChoices_fair.clock, w_frames, w_args, w_heap, w_applies, trivial, trivial, w_case⟩
end start1
theorem witness_1 : WitnessClaimed_1 := ⟨start1.p0, start1.e0, start1.about1, start1.theMethod, start1.args0, start1.below0, start1.atStart⟩
end Jvm.Pilot.@@N@@
