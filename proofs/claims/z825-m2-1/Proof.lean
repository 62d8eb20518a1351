import JvmDerived
import JvmDerived.Pilot.@@N@@Statement
import JvmDerived.Pilot.@@N@@Code
set_option linter.unusedVariables false
set_option linter.unusedSimpArgs false
set_option maxRecDepth 65536
set_option maxHeartbeats 4000000
namespace Jvm.Pilot.@@N@@
open Jvm Jvm.ClassFile Sem Op Lib Jvm.Free Jvm.Stand Jvm.LawKit Jvm.RoadKit Bundle Jvm.Pilot.@@N@@.Jvm.D
theorem tw0 : Jvm.Cond.constant "com/example/lexweave/lexweave/IntListReverseFromPinLaw" (19 : Nat) (2147483647 : Int32) ∈ tables_1 := List.mem_of_getElem? (i := 0) rfl
theorem tw1 : Jvm.Cond.arrayClass FieldType.int ∈ tables_1 := List.mem_of_getElem? (i := 1) rfl
theorem tw2 : Jvm.Cond.classLink "com/example/lexweave/lexweave/IntListReverseFromPinLaw" 8 "com/example/lexweave/lexweave/IntList" ∈ tables_1 := List.mem_of_getElem? (i := 2) rfl
theorem tw3 : Jvm.Cond.instantiable "com/example/lexweave/lexweave/IntList" 2 ∈ tables_1 := List.mem_of_getElem? (i := 3) rfl
theorem tw4 : Jvm.Cond.initialized "com/example/lexweave/lexweave/IntList" ∈ tables_1 := List.mem_of_getElem? (i := 4) rfl
theorem tw5 : Jvm.Cond.methodLink "com/example/lexweave/lexweave/IntListReverseFromPinLaw" (20 : Nat) (⟨"com/example/lexweave/lexweave/IntList", "<init>", "()V"⟩ : MethodName) ∈ tables_1 := List.mem_of_getElem? (i := 5) rfl
theorem tw6 : Jvm.Cond.instanceMethod (⟨"com/example/lexweave/lexweave/IntList", "<init>", "()V"⟩ : MethodName) ∈ tables_1 := List.mem_of_getElem? (i := 6) rfl
theorem tw7 : Jvm.Cond.code (⟨"com/example/lexweave/lexweave/IntList", "<init>", "()V"⟩ : MethodName) prog_28_method_1_code (1 : Nat) (Option.none : Option FieldType) ∈ tables_1 := List.mem_of_getElem? (i := 7) rfl
theorem tw8 : Jvm.Cond.methodLink "com/example/lexweave/lexweave/IntList" (1 : Nat) (⟨"java/lang/Object", "<init>", "()V"⟩ : MethodName) ∈ tables_1 := List.mem_of_getElem? (i := 8) rfl
theorem tw9 : Jvm.Cond.instanceMethod (⟨"java/lang/Object", "<init>", "()V"⟩ : MethodName) ∈ tables_1 := List.mem_of_getElem? (i := 9) rfl
theorem tw10 : Jvm.Cond.code (⟨"java/lang/Object", "<init>", "()V"⟩ : MethodName) object_method_1_code (1 : Nat) (Option.none : Option FieldType) ∈ tables_1 := List.mem_of_getElem? (i := 10) rfl
theorem tw11 : Jvm.Cond.fieldLink "com/example/lexweave/lexweave/IntList" 7 "com/example/lexweave/lexweave/IntList" "values" "[I" ∈ tables_1 := List.mem_of_getElem? (i := 11) rfl
theorem tw12 : Jvm.Cond.lays "com/example/lexweave/lexweave/IntList" "com/example/lexweave/lexweave/IntList" "values" "[I" ∈ tables_1 := List.mem_of_getElem? (i := 12) rfl
theorem tw13 : Jvm.Cond.methodLink "com/example/lexweave/lexweave/IntListReverseFromPinLaw" (25 : Nat) (⟨"com/example/lexweave/lexweave/IntList", "reverseFrom", "(I)V"⟩ : MethodName) ∈ tables_1 := List.mem_of_getElem? (i := 13) rfl
theorem tw14 : Jvm.Cond.declares (⟨"com/example/lexweave/lexweave/IntList", "reverseFrom", "(I)V"⟩ : MethodName) ∈ tables_1 := List.mem_of_getElem? (i := 14) rfl
theorem tw15 : Jvm.Cond.instanceMethod (⟨"com/example/lexweave/lexweave/IntList", "reverseFrom", "(I)V"⟩ : MethodName) ∈ tables_1 := List.mem_of_getElem? (i := 15) rfl
theorem tw16 : Jvm.Cond.selects "com/example/lexweave/lexweave/IntList" (⟨"com/example/lexweave/lexweave/IntList", "reverseFrom", "(I)V"⟩ : MethodName) (⟨"com/example/lexweave/lexweave/IntList", "reverseFrom", "(I)V"⟩ : MethodName) ∈ tables_1 := List.mem_of_getElem? (i := 16) rfl
theorem tw17 : Jvm.Cond.code (⟨"com/example/lexweave/lexweave/IntList", "reverseFrom", "(I)V"⟩ : MethodName) prog_28_method_5_code (5 : Nat) (Option.none : Option FieldType) ∈ tables_1 := List.mem_of_getElem? (i := 17) rfl
theorem tw18 : Jvm.Cond.fieldLink "com/example/lexweave/lexweave/IntList" 13 "com/example/lexweave/lexweave/IntList" "size" "I" ∈ tables_1 := List.mem_of_getElem? (i := 18) rfl
theorem tw19 : Jvm.Cond.lays "com/example/lexweave/lexweave/IntList" "com/example/lexweave/lexweave/IntList" "size" "I" ∈ tables_1 := List.mem_of_getElem? (i := 19) rfl
theorem tw20 : Jvm.Cond.methodLink "com/example/lexweave/lexweave/IntListReverseFromPinLaw" (28 : Nat) (⟨"com/example/lexweave/lexweave/IntList", "size", "()I"⟩ : MethodName) ∈ tables_1 := List.mem_of_getElem? (i := 20) rfl
theorem tw21 : Jvm.Cond.declares (⟨"com/example/lexweave/lexweave/IntList", "size", "()I"⟩ : MethodName) ∈ tables_1 := List.mem_of_getElem? (i := 21) rfl
theorem tw22 : Jvm.Cond.instanceMethod (⟨"com/example/lexweave/lexweave/IntList", "size", "()I"⟩ : MethodName) ∈ tables_1 := List.mem_of_getElem? (i := 22) rfl
theorem tw23 : Jvm.Cond.selects "com/example/lexweave/lexweave/IntList" (⟨"com/example/lexweave/lexweave/IntList", "size", "()I"⟩ : MethodName) (⟨"com/example/lexweave/lexweave/IntList", "size", "()I"⟩ : MethodName) ∈ tables_1 := List.mem_of_getElem? (i := 23) rfl
theorem tw24 : Jvm.Cond.code (⟨"com/example/lexweave/lexweave/IntList", "size", "()I"⟩ : MethodName) prog_28_method_8_code (1 : Nat) (Option.some FieldType.int) ∈ tables_1 := List.mem_of_getElem? (i := 24) rfl
theorem tw25 : Jvm.Cond.methodLink "com/example/lexweave/lexweave/IntListReverseFromPinLaw" (32 : Nat) (⟨"com/example/lexweave/lexweave/IntListReverseFromPinLaw", "check", "(Lcom/example/lexweave/lexweave/IntList;[IIII)Z"⟩ : MethodName) ∈ tables_1 := List.mem_of_getElem? (i := 25) rfl
theorem tw26 : Jvm.Cond.static (⟨"com/example/lexweave/lexweave/IntListReverseFromPinLaw", "check", "(Lcom/example/lexweave/lexweave/IntList;[IIII)Z"⟩ : MethodName) ∈ tables_1 := List.mem_of_getElem? (i := 26) rfl
theorem tw27 : Jvm.Cond.initialized "com/example/lexweave/lexweave/IntListReverseFromPinLaw" ∈ tables_1 := List.mem_of_getElem? (i := 27) rfl
theorem tw28 : Jvm.Cond.code (⟨"com/example/lexweave/lexweave/IntListReverseFromPinLaw", "check", "(Lcom/example/lexweave/lexweave/IntList;[IIII)Z"⟩ : MethodName) method_3_code (5 : Nat) (Option.some FieldType.boolean) ∈ tables_1 := List.mem_of_getElem? (i := 28) rfl
theorem tw29 : Jvm.Cond.methodLink "com/example/lexweave/lexweave/IntListReverseFromPinLaw" (21 : Nat) (⟨"com/example/lexweave/lexweave/IntList", "add", "(I)V"⟩ : MethodName) ∈ tables_1 := List.mem_of_getElem? (i := 29) rfl
theorem tw30 : Jvm.Cond.declares (⟨"com/example/lexweave/lexweave/IntList", "add", "(I)V"⟩ : MethodName) ∈ tables_1 := List.mem_of_getElem? (i := 30) rfl
theorem tw31 : Jvm.Cond.instanceMethod (⟨"com/example/lexweave/lexweave/IntList", "add", "(I)V"⟩ : MethodName) ∈ tables_1 := List.mem_of_getElem? (i := 31) rfl
theorem tw32 : Jvm.Cond.selects "com/example/lexweave/lexweave/IntList" (⟨"com/example/lexweave/lexweave/IntList", "add", "(I)V"⟩ : MethodName) (⟨"com/example/lexweave/lexweave/IntList", "add", "(I)V"⟩ : MethodName) ∈ tables_1 := List.mem_of_getElem? (i := 32) rfl
theorem tw33 : Jvm.Cond.code (⟨"com/example/lexweave/lexweave/IntList", "add", "(I)V"⟩ : MethodName) prog_28_method_2_code (2 : Nat) (Option.none : Option FieldType) ∈ tables_1 := List.mem_of_getElem? (i := 33) rfl
theorem tw34 : Jvm.Cond.methodLink "com/example/lexweave/lexweave/IntListReverseFromPinLaw" (7 : Nat) (⟨"com/example/lexweave/lexweave/IntList", "get", "(I)I"⟩ : MethodName) ∈ tables_1 := List.mem_of_getElem? (i := 34) rfl
theorem tw35 : Jvm.Cond.declares (⟨"com/example/lexweave/lexweave/IntList", "get", "(I)I"⟩ : MethodName) ∈ tables_1 := List.mem_of_getElem? (i := 35) rfl
theorem tw36 : Jvm.Cond.instanceMethod (⟨"com/example/lexweave/lexweave/IntList", "get", "(I)I"⟩ : MethodName) ∈ tables_1 := List.mem_of_getElem? (i := 36) rfl
theorem tw37 : Jvm.Cond.selects "com/example/lexweave/lexweave/IntList" (⟨"com/example/lexweave/lexweave/IntList", "get", "(I)I"⟩ : MethodName) (⟨"com/example/lexweave/lexweave/IntList", "get", "(I)I"⟩ : MethodName) ∈ tables_1 := List.mem_of_getElem? (i := 37) rfl
theorem tw38 : Jvm.Cond.code (⟨"com/example/lexweave/lexweave/IntList", "get", "(I)I"⟩ : MethodName) prog_28_method_6_code (2 : Nat) (Option.some FieldType.int) ∈ tables_1 := List.mem_of_getElem? (i := 38) rfl
theorem tw39 : Jvm.Cond.methodLink "com/example/lexweave/lexweave/IntListReverseFromPinLaw" (13 : Nat) (⟨"com/example/lexweave/lexweave/IntListReverseFromPinLaw", "expected", "([IIII)I"⟩ : MethodName) ∈ tables_1 := List.mem_of_getElem? (i := 39) rfl
theorem tw40 : Jvm.Cond.static (⟨"com/example/lexweave/lexweave/IntListReverseFromPinLaw", "expected", "([IIII)I"⟩ : MethodName) ∈ tables_1 := List.mem_of_getElem? (i := 40) rfl
theorem tw41 : Jvm.Cond.code (⟨"com/example/lexweave/lexweave/IntListReverseFromPinLaw", "expected", "([IIII)I"⟩ : MethodName) method_2_code (4 : Nat) (Option.some FieldType.int) ∈ tables_1 := List.mem_of_getElem? (i := 41) rfl
def lay : Nat → String × List (String × String)
  | 0 => ("com/example/lexweave/lexweave/IntList", [("values", "[I"), ("size", "I")])
  | _ => ("", [])
theorem lay_word (t : Nat) (nd : String × String) (h : nd ∈ (lay t).2) : Jvm.Cond.lays (lay t).1 (lay t).1 nd.1 nd.2 ∈ tables_1 ∨ Jvm.Cond.laysFinal (lay t).1 (lay t).1 nd.1 nd.2 ∈ tables_1 := by
  match t, h with
  | 0, h =>
    simp only [lay, List.mem_cons, List.not_mem_nil, or_false] at h
    rcases h with rfl | rfl
    · exact Or.inl (List.mem_of_getElem? (i := 12) rfl)
    · exact Or.inl (List.mem_of_getElem? (i := 19) rfl)
  | t + 1, h => simp [lay] at h
theorem lay_parse (t : Nat) (nd : String × String) (h : nd ∈ (lay t).2) : ∃ ty, parseFieldDescriptor nd.2 = some ty := by
  match t, h with
  | 0, h =>
    simp only [lay, List.mem_cons, List.not_mem_nil, or_false] at h
    rcases h with rfl | rfl
    · exact ⟨(.array .int), by decide +kernel⟩
    · exact ⟨.int, by decide +kernel⟩
  | t + 1, h => simp [lay] at h
theorem lay_names (t k k' : Nat) (nd nd' : String × String) (h1 : (lay t).2[k]? = some nd) (h2 : (lay t).2[k']? = some nd') (ne : k ≠ k') : nd.1 ≠ nd'.1 := by
  match t, h1, h2 with
  | 0, h1, h2 =>
    have hd : ∀ i j : Fin 2, i.1 ≠ j.1 → (["values", "size"] : List String)[i.1]? ≠ (["values", "size"] : List String)[j.1]? := by decide +kernel
    have e : ∀ i, (["values", "size"] : List String)[i]? = ((lay 0).2[i]?).map (fun z : String × String => z.1) := fun i => by rw [← List.getElem?_map]; rfl
    have l1 : k < 2 := (List.getElem?_eq_some_iff.mp h1).1
    have l2 : k' < 2 := (List.getElem?_eq_some_iff.mp h2).1
    have q := hd ⟨k, l1⟩ ⟨k', l2⟩ ne
    rw [e, e, h1, h2] at q
    exact fun r => q (by simp [r])
  | t + 1, h1, h2 => simp [lay] at h1
/-! the abstract machine over the library's laws -/
abbrev Obj := Sum (FieldType × List Value) (Nat × List Value)
abbrev Gx := Launch × State × Array Value × Nat
abbrev Kx := Program × Env × Room × State × MethodId × Array Value × List Frame × Method × Code × Nat × Nat
/-- a reference of the model is the number of an own object; the object of number 0 lies at n -/
def sh (n : Nat) : Value → Value
  | .ref i => .ref (n + i)
  | v => v
theorem sh_cat (n : Nat) (v : Value) : (sh n v).category = v.category := by cases v <;> rfl
/-! local variables -/
def Wf (f : Nat → Option Slot) : Prop :=
  (∀ (k : Nat) (v : Value), f k = some (Slot.val v) → v.category = 2 → f (k + 1) = some .second) ∧ (∀ k, f k = some .second → ∃ v : Value, 1 ≤ k ∧ f (k - 1) = some (Slot.val v) ∧ v.category = 2)
def Lrel (n : Nat) (Ls : List (Option Value)) (L : Array Slot) : Prop :=
  L.size = Ls.length ∧ Wf (fun k => L[k]?) ∧ ∀ (k : Nat) (v : Value), Ls[k]? = some (some v) → L[k]? = some (Slot.val (sh n v))
def clr (Ls : List (Option Value)) : Nat → List (Option Value)
  | 0 => Ls
  | j + 1 => match Ls[j]? with
    | some (some w) => if w.category = 2 then Ls.set j none else Ls
    | _ => Ls
def stor (Ls : List (Option Value)) (i : Nat) (v : Value) : Option (List (Option Value)) :=
  if v.category = 2 then (if i + 1 < Ls.length then some (((clr Ls i).set i (some v)).set (i + 1) none) else none) else (if i < Ls.length then some ((clr Ls i).set i (some v)) else none)
theorem wf_gen {f f' : Nat → Option Slot} (hf : Wf f) {i last : Nat} {v : Value} (hl : (v.category = 2 ∧ last = i + 1 ∧ f' (i + 1) = some .second) ∨ (v.category ≠ 2 ∧ last = i)) (h0 : f' i = some (Slot.val v))
    (h1 : ∀ k, k + 1 = i → ∀ w : Value, f k = some (Slot.val w) → w.category = 2 → f' k = some .unset) (h2 : f (last + 1) = some .second → f' (last + 1) = some .unset)
    (h3 : ∀ k, k < i ∨ last < k → f' k = f k ∨ (f' k = some .unset ∧ ((k + 1 = i ∧ ∃ w : Value, f k = some (Slot.val w) ∧ w.category = 2) ∨ (k = last + 1 ∧ f k = some .second)))) : Wf f' := by
  have hc : ∀ k, k = i ∨ (k = i + 1 ∧ last = i + 1 ∧ f' (i + 1) = some .second) ∨ (k < i ∨ last < k) := fun k => by
    rcases hl with ⟨-, a, b⟩ | ⟨-, a⟩
    · by_cases h : k = i; · exact Or.inl h
      by_cases h' : k = i + 1; · exact Or.inr (Or.inl ⟨h', a, b⟩)
      exact Or.inr (Or.inr (by omega))
    · by_cases h : k = i; · exact Or.inl h
      exact Or.inr (Or.inr (by omega))
  have hli : i ≤ last := by omega
  constructor
  · intro k w hk hw
    rcases hc k with rfl | ⟨rfl, -, b⟩ | h
    · rcases hl with ⟨-, -, b⟩ | ⟨a, -⟩
      · exact b
      · rw [h0] at hk; cases hk; exact absurd hw a
    · rw [b] at hk; cases hk
    · rcases h3 k h with q | ⟨q, -⟩
      · rw [q] at hk
        have hs := hf.1 k w hk hw
        by_cases e1 : k + 1 = i
        · have := h1 k e1 w hk hw; rw [q, hk] at this; cases this
        · have h' : k + 1 < i ∨ last < k + 1 := by omega
          rcases h3 (k + 1) h' with q' | ⟨-, ⟨-, w', a, -⟩ | ⟨a, -⟩⟩
          · rw [q']; exact hs
          · rw [hs] at a; cases a
          · omega
      · rw [q] at hk; cases hk
  · intro k hk
    rcases hc k with rfl | ⟨rfl, a, b⟩ | h
    · rw [h0] at hk; cases hk
    · rcases hl with ⟨c, -, -⟩ | ⟨-, c⟩
      · exact ⟨v, by omega, by simpa using h0, c⟩
      · omega
    · rcases h3 k h with q | ⟨q, -⟩
      · rw [q] at hk
        obtain ⟨w, k1, hw, hw2⟩ := hf.2 k hk
        by_cases e1 : k = last + 1
        · subst e1; have := h2 hk; rw [q, hk] at this; cases this
        · have h' : k - 1 < i ∨ last < k - 1 := by
            rcases h with h | h
            · exact Or.inl (by omega)
            · exact Or.inr (by omega)
          rcases h3 (k - 1) h' with q' | ⟨-, ⟨a, -⟩ | ⟨a, b⟩⟩
          · exact ⟨w, k1, by rw [q']; exact hw, hw2⟩
          · have : k = i := by omega
            omega
          · rw [hw] at b; cases b
      · rw [q] at hk; cases hk
theorem clr_get {Ls : List (Option Value)} {i k : Nat} {w : Value} (h : (clr Ls i)[k]? = some (some w)) : Ls[k]? = some (some w) ∧ (k + 1 = i → w.category ≠ 2) := by
  cases i with
  | zero => exact ⟨h, fun q => by omega⟩
  | succ j =>
    simp only [clr] at h
    split at h
    · rename_i w' hw'
      split at h
      · rename_i h2
        by_cases e : j = k
        · subst e; rw [List.getElem?_set] at h; simp at h
        · rw [List.getElem?_set_ne e] at h; exact ⟨h, fun q => by omega⟩
      · rename_i h2
        refine ⟨h, fun q => ?_⟩
        have : j = k := by omega
        subst this; rw [hw'] at h; cases h; exact h2
    · rename_i hn
      refine ⟨h, fun q => ?_⟩
      have : j = k := by omega
      subst this; exact absurd h (hn w)
theorem clr_len (Ls : List (Option Value)) (i : Nat) : (clr Ls i).length = Ls.length := by
  cases i with
  | zero => rfl
  | succ j => simp only [clr]; split <;> (try split) <;> simp
theorem lrel_gen {n : Nat} {Ls Ls' : List (Option Value)} {L L' : Array Slot} {i last : Nat} {v : Value} (h : Lrel n Ls L) (hsz : L'.size = L.size) (hlen : Ls'.length = Ls.length)
    (hl : (v.category = 2 ∧ last = i + 1 ∧ L'[i + 1]? = some .second) ∨ (v.category ≠ 2 ∧ last = i)) (h0 : L'[i]? = some (Slot.val (sh n v)))
    (h1 : ∀ k, k + 1 = i → ∀ w : Value, L[k]? = some (Slot.val w) → w.category = 2 → L'[k]? = some .unset) (h2 : L[last + 1]? = some .second → L'[last + 1]? = some .unset)
    (h3 : ∀ k, k < i ∨ last < k → L'[k]? = L[k]? ∨ (L'[k]? = some .unset ∧ ((k + 1 = i ∧ ∃ w : Value, L[k]? = some (Slot.val w) ∧ w.category = 2) ∨ (k = last + 1 ∧ L[k]? = some .second))))
    (hs : ∀ k w, Ls'[k]? = some (some w) → (k = i ∧ w = v) ∨ ((k < i ∨ last < k) ∧ Ls[k]? = some (some w) ∧ (k + 1 = i → w.category ≠ 2))) : Lrel n Ls' L' := by
  refine ⟨by rw [hsz, hlen]; exact h.1, wf_gen (f := fun k => L[k]?) (f' := fun k => L'[k]?) (v := sh n v) h.2.1 (by rw [sh_cat]; exact hl) h0 h1 h2 h3, fun k w hk => ?_⟩
  rcases hs k w hk with ⟨rfl, rfl⟩ | ⟨a, b, c⟩
  · exact h0
  · have hb := h.2.2 k w b
    rcases h3 k a with q | ⟨-, ⟨q, w', r1, r2⟩ | ⟨-, r⟩⟩
    · rw [q]; exact hb
    · rw [hb] at r1; cases r1; exact absurd (by rw [← sh_cat n w]; exact r2) (c q)
    · rw [hb] at r; cases r
theorem get_set (L : Array Slot) (i j : Nat) (x : Slot) (hi : i < L.size) : (L.setIfInBounds i x)[j]? = if i = j then some x else L[j]? := by
  rw [Array.getElem?_setIfInBounds]; simp [hi]
theorem store_1 {n : Nat} {Ls Ls' : List (Option Value)} {L : Array Slot} {i : Nat} {v : Value} (h : Lrel n Ls L) (hc : v.category = 1) (hl : stor Ls i v = some Ls') : ∃ L', storeLocals L i (sh n v) = some L' ∧ Lrel n Ls' L' := by
  have hc2 : ¬ v.category = 2 := by omega
  simp only [stor, hc2, if_false] at hl
  have hi : i < Ls.length := Decidable.byContradiction fun hi => by rw [if_neg hi] at hl; cases hl
  rw [if_pos hi] at hl
  cases hl
  have hiL : i < L.size := by rw [h.1]; exact hi
  have hcs : (sh n v).category = 1 := (sh_cat n v).trans hc
  have hs : ∀ k w, ((clr Ls i).set i (some v))[k]? = some (some w) → (k = i ∧ w = v) ∨ ((k < i ∨ i < k) ∧ Ls[k]? = some (some w) ∧ (k + 1 = i → w.category ≠ 2)) := fun k w hk => by
    by_cases e : i = k
    · subst e
      rw [List.getElem?_set_self (by rw [clr_len]; exact hi)] at hk
      cases hk; exact Or.inl ⟨rfl, rfl⟩
    · rw [List.getElem?_set_ne e] at hk
      exact Or.inr ⟨by omega, clr_get hk⟩
  have hlen : ((clr Ls i).set i (some v)).length = Ls.length := by simp [clr_len]
  have hgo : L[i]? = some L[i] := Array.getElem?_eq_getElem hiL
  cases hq : L[i] with
  | unset =>
    rw [hq] at hgo
    refine ⟨L.setIfInBounds i (.val (sh n v)), by simp [storeLocals, storeSelf, setAt, hgo, hcs, hiL, hq], lrel_gen (i := i) (last := i) (v := v) h (by simp) hlen (Or.inr ⟨hc2, rfl⟩) ?_ ?_ ?_ ?_ hs⟩
    · rw [get_set _ _ _ _ hiL]; simp
    · intro k hk w hw hw2; have := h.2.1.1 k w hw hw2; simp only [hk] at this; rw [hgo] at this; cases this
    · intro hk; obtain ⟨w, -, a, -⟩ := h.2.1.2 _ hk; simp only [Nat.add_sub_cancel] at a; rw [hgo] at a; cases a
    · intro k hk; left; rw [get_set _ _ _ _ hiL, if_neg (by omega)]
  | second =>
    rw [hq] at hgo
    obtain ⟨w0, i1, hw0, hw2⟩ := h.2.1.2 _ hgo
    simp only at hw0
    have hi1 : i - 1 < L.size := by omega
    refine ⟨(L.setIfInBounds (i - 1) .unset).setIfInBounds i (.val (sh n v)), by simp [storeLocals, storeSelf, setAt, hgo, hcs, hiL, hi1, hq], lrel_gen (i := i) (last := i) (v := v) h (by simp) hlen (Or.inr ⟨hc2, rfl⟩) ?_ ?_ ?_ ?_ hs⟩
    · rw [get_set _ _ _ _ (by simpa using hiL)]; simp
    · intro k hk w hw hw2'; rw [get_set _ _ _ _ (by simpa using hiL), get_set _ _ _ _ hi1, if_neg (by omega), if_pos (by omega)]
    · intro hk; obtain ⟨w, -, a, -⟩ := h.2.1.2 _ hk; simp only [Nat.add_sub_cancel] at a; rw [hgo] at a; cases a
    · intro k hk; rw [get_set _ _ _ _ (by simpa using hiL), get_set _ _ _ _ hi1, if_neg (by omega)]
      by_cases e : i - 1 = k
      · subst e; rw [if_pos rfl]; exact Or.inr ⟨rfl, Or.inl ⟨by omega, w0, hw0, hw2⟩⟩
      · rw [if_neg e]; exact Or.inl rfl
  | val old =>
    rw [hq] at hgo
    have hnl : ∀ k, k + 1 = i → ∀ w : Value, L[k]? = some (Slot.val w) → w.category = 2 → False := fun k hk w hw hw2 => by
      have := h.2.1.1 k w hw hw2; simp only [hk] at this; rw [hgo] at this; cases this
    by_cases ho : old.category = 2
    · have hn : L[i + 1]? = some .second := h.2.1.1 i old hgo ho
      have hi1 : i + 1 < L.size := (Array.getElem?_eq_some_iff.mp hn).1
      refine ⟨(L.setIfInBounds (i + 1) .unset).setIfInBounds i (.val (sh n v)), by simp [storeLocals, storeSelf, setAt, hgo, hcs, hiL, hi1, ho, hq], lrel_gen (i := i) (last := i) (v := v) h (by simp) hlen (Or.inr ⟨hc2, rfl⟩) ?_ ?_ ?_ ?_ hs⟩
      · rw [get_set _ _ _ _ (by simpa using hiL)]; simp
      · intro k hk w hw hw2; exact (hnl k hk w hw hw2).elim
      · intro _; rw [get_set _ _ _ _ (by simpa using hiL), get_set _ _ _ _ hi1, if_neg (by omega), if_pos rfl]
      · intro k hk; rw [get_set _ _ _ _ (by simpa using hiL), get_set _ _ _ _ hi1, if_neg (by omega)]
        by_cases e : i + 1 = k
        · subst e; rw [if_pos rfl]; exact Or.inr ⟨rfl, Or.inr ⟨rfl, hn⟩⟩
        · rw [if_neg e]; exact Or.inl rfl
    · refine ⟨L.setIfInBounds i (.val (sh n v)), by simp [storeLocals, storeSelf, setAt, hgo, hcs, hiL, ho, hq], lrel_gen (i := i) (last := i) (v := v) h (by simp) hlen (Or.inr ⟨hc2, rfl⟩) ?_ ?_ ?_ ?_ hs⟩
      · rw [get_set _ _ _ _ hiL]; simp
      · intro k hk w hw hw2; exact (hnl k hk w hw hw2).elim
      · intro hk; obtain ⟨w, -, a, b⟩ := h.2.1.2 _ hk; simp only [Nat.add_sub_cancel] at a; rw [hgo] at a; cases a; exact absurd b ho
      · intro k hk; left; rw [get_set _ _ _ _ hiL, if_neg (by omega)]
/-- the second half of a long's store -/
theorem self_2 {l : Array Slot} {i : Nat} {v : Value} (hc : v.category = 2) (h1 : i + 1 < l.size) (hw : ∀ w : Value, l[i + 1]? = some (Slot.val w) → w.category = 2 → i + 2 < l.size) :
    ∃ l', storeSelf l i v = some l' ∧ l'.size = l.size ∧ l'[i]? = some (Slot.val v) ∧ l'[i + 1]? = some .second ∧ (∀ k, k < i ∨ i + 2 < k → l'[k]? = l[k]?) ∧
      ((∃ w : Value, l[i + 1]? = some (Slot.val w) ∧ w.category = 2) ∧ l'[i + 2]? = some .unset ∨ (¬ ∃ w : Value, l[i + 1]? = some (Slot.val w) ∧ w.category = 2) ∧ l'[i + 2]? = l[i + 2]?) := by
  have hi : i < l.size := by omega
  have hgo : l[i + 1]? = some l[i + 1] := Array.getElem?_eq_getElem h1
  have hgo' : (l.setIfInBounds i (.val v))[i + 1]? = some l[i + 1] := by rw [get_set _ _ _ _ hi, if_neg (by omega)]; exact hgo
  by_cases hx : ∃ w : Value, l[i + 1]? = some (Slot.val w) ∧ w.category = 2
  · obtain ⟨w, a, b⟩ := hx
    have h2 := hw w a b
    have e : l[i + 1] = .val w := Option.some.inj (hgo.symm.trans a)
    refine ⟨((l.setIfInBounds i (.val v)).setIfInBounds (i + 2) .unset).setIfInBounds (i + 1) .second, ?_, by simp, ?_, ?_, ?_, Or.inl ⟨⟨w, a, b⟩, ?_⟩⟩
    · rw [e] at hgo'
      simp [storeSelf, setAt, hi, hc, hgo', b, h1, h2, e]
    · rw [get_set _ _ _ _ (by simpa using h1), if_neg (by omega), get_set _ _ _ _ (by simpa using h2), if_neg (by omega), get_set _ _ _ _ hi, if_pos rfl]
    · rw [get_set _ _ _ _ (by simpa using h1), if_pos rfl]
    · intro k hk; rw [get_set _ _ _ _ (by simpa using h1), if_neg (by omega), get_set _ _ _ _ (by simpa using h2), if_neg (by omega), get_set _ _ _ _ hi, if_neg (by omega)]
    · rw [get_set _ _ _ _ (by simpa using h1), if_neg (by omega), get_set _ _ _ _ (by simpa using h2), if_pos rfl]
  · refine ⟨(l.setIfInBounds i (.val v)).setIfInBounds (i + 1) .second, ?_, by simp, ?_, ?_, ?_, Or.inr ⟨hx, ?_⟩⟩
    · cases e : l[i + 1] with
      | unset => rw [e] at hgo'; simp [storeSelf, setAt, hi, hc, hgo', h1, e]
      | second => rw [e] at hgo'; simp [storeSelf, setAt, hi, hc, hgo', h1, e]
      | val w =>
        rw [e] at hgo' hgo
        have hn : ¬ w.category = 2 := fun q => hx ⟨w, hgo, q⟩
        simp [storeSelf, setAt, hi, hc, hgo', h1, hn, e]
    · rw [get_set _ _ _ _ (by simpa using h1), if_neg (by omega), get_set _ _ _ _ hi, if_pos rfl]
    · rw [get_set _ _ _ _ (by simpa using h1), if_pos rfl]
    · intro k hk; rw [get_set _ _ _ _ (by simpa using h1), if_neg (by omega), get_set _ _ _ _ hi, if_neg (by omega)]
    · rw [get_set _ _ _ _ (by simpa using h1), if_neg (by omega), get_set _ _ _ _ hi, if_neg (by omega)]
theorem store_2 {n : Nat} {Ls Ls' : List (Option Value)} {L : Array Slot} {i : Nat} {v : Value} (h : Lrel n Ls L) (hc : v.category = 2) (hl : stor Ls i v = some Ls') : ∃ L', storeLocals L i (sh n v) = some L' ∧ Lrel n Ls' L' := by
  simp only [stor, hc, if_true] at hl
  have hi : i + 1 < Ls.length := Decidable.byContradiction fun hi => by rw [if_neg hi] at hl; cases hl
  rw [if_pos hi] at hl
  cases hl
  have hiL : i + 1 < L.size := by rw [h.1]; exact hi
  have hi0 : i < L.size := by omega
  have hcs : (sh n v).category = 2 := (sh_cat n v).trans hc
  have hs : ∀ k w, (((clr Ls i).set i (some v)).set (i + 1) none)[k]? = some (some w) → (k = i ∧ w = v) ∨ ((k < i ∨ i + 1 < k) ∧ Ls[k]? = some (some w) ∧ (k + 1 = i → w.category ≠ 2)) := fun k w hk => by
    by_cases e' : i + 1 = k
    · subst e'
      rw [List.getElem?_set_self (by simp [clr_len]; exact hi)] at hk
      cases hk
    · rw [List.getElem?_set_ne e'] at hk
      by_cases e : i = k
      · subst e
        rw [List.getElem?_set_self (by rw [clr_len]; omega)] at hk
        cases hk; exact Or.inl ⟨rfl, rfl⟩
      · rw [List.getElem?_set_ne e] at hk
        exact Or.inr ⟨by omega, clr_get hk⟩
  have hlen : (((clr Ls i).set i (some v)).set (i + 1) none).length = Ls.length := by simp [clr_len]
  have hgo : L[i]? = some L[i] := Array.getElem?_eq_getElem hi0
  have hW := h.2.1
  -- the first half: l1
  have key : ∃ l1, storeLocals L i (sh n v) = storeSelf l1 i (sh n v) ∧ l1.size = L.size ∧ (∀ k, k + 1 = i → ∀ w : Value, L[k]? = some (Slot.val w) → w.category = 2 → l1[k]? = some .unset) ∧
      (∀ k, k < i ∨ i + 1 < k → l1[k]? = L[k]? ∨ (l1[k]? = some .unset ∧ k + 1 = i ∧ ∃ w : Value, L[k]? = some (Slot.val w) ∧ w.category = 2)) ∧
      ((∃ w : Value, l1[i + 1]? = some (Slot.val w) ∧ w.category = 2) → L[i + 1]? = l1[i + 1]?) ∧ (L[i + 1]? = l1[i + 1]? ∨ L[i + 1]? = some .second) := by
    cases hq : L[i] with
    | unset =>
      rw [hq] at hgo
      refine ⟨L, by simp [storeLocals, hgo, hq], rfl, ?_, fun k _ => Or.inl rfl, fun _ => rfl, Or.inl rfl⟩
      intro k hk w hw hw2; have := hW.1 k w hw hw2; simp only [hk] at this; rw [hgo] at this; cases this
    | second =>
      rw [hq] at hgo
      obtain ⟨w0, i1, hw0, hw2⟩ := hW.2 _ hgo
      simp only at hw0
      have hi1 : i - 1 < L.size := by omega
      refine ⟨L.setIfInBounds (i - 1) .unset, by simp [storeLocals, setAt, hgo, hi1, hq], by simp, ?_, ?_, fun _ => by rw [get_set _ _ _ _ hi1, if_neg (by omega)], Or.inl (by rw [get_set _ _ _ _ hi1, if_neg (by omega)])⟩
      · intro k hk w hw hw2'; rw [get_set _ _ _ _ hi1, if_pos (by omega)]
      · intro k hk; rw [get_set _ _ _ _ hi1]
        by_cases e : i - 1 = k
        · subst e; rw [if_pos rfl]; exact Or.inr ⟨rfl, by omega, w0, hw0, hw2⟩
        · rw [if_neg e]; exact Or.inl rfl
    | val old =>
      rw [hq] at hgo
      have hnl : ∀ k, k + 1 = i → ∀ w : Value, L[k]? = some (Slot.val w) → w.category = 2 → False := fun k hk w hw hw2 => by
        have := hW.1 k w hw hw2; simp only [hk] at this; rw [hgo] at this; cases this
      by_cases ho : old.category = 2
      · have hn : L[i + 1]? = some .second := hW.1 i old hgo ho
        refine ⟨L.setIfInBounds (i + 1) .unset, by simp [storeLocals, setAt, hgo, hiL, ho, hq], by simp, fun k hk w hw hw2 => (hnl k hk w hw hw2).elim, ?_, ?_, Or.inr hn⟩
        · intro k hk; left; rw [get_set _ _ _ _ hiL, if_neg (by omega)]
        · rintro ⟨w, a, -⟩; rw [get_set _ _ _ _ hiL, if_pos rfl] at a; cases a
      · exact ⟨L, by simp [storeLocals, hgo, ho, hq], rfl, fun k hk w hw hw2 => (hnl k hk w hw hw2).elim, fun k _ => Or.inl rfl, fun _ => rfl, Or.inl rfl⟩
  obtain ⟨l1, k1, k2, k3, k4, k5, k6⟩ := key
  have hw2 : ∀ w : Value, l1[i + 1]? = some (Slot.val w) → w.category = 2 → i + 2 < l1.size := fun w a b => by
    have e := k5 ⟨w, a, b⟩
    rw [a] at e
    have := hW.1 (i + 1) w e b
    rw [k2]; exact (Array.getElem?_eq_some_iff.mp this).1
  obtain ⟨l', s1, s2, s3, s4, s5, s6⟩ := self_2 (v := sh n v) hcs (by rw [k2]; exact hiL) hw2
  refine ⟨l', by rw [k1]; exact s1, lrel_gen (i := i) (last := i + 1) (v := v) h (by rw [s2, k2]) hlen (Or.inl ⟨hc, rfl, s4⟩) s3 ?_ ?_ ?_ hs⟩
  · intro k hk w hw hw2'; rw [s5 k (by omega)]; exact k3 k hk w hw hw2'
  · intro hk
    obtain ⟨w, -, a, b⟩ := hW.2 _ hk
    simp only [Nat.add_sub_cancel] at a
    rcases s6 with ⟨-, q⟩ | ⟨q, -⟩
    · exact q
    · rcases k6 with k6 | k6
      · exact absurd ⟨w, by rw [← k6]; exact a, b⟩ q
      · rw [a] at k6; cases k6
  · intro k hk
    by_cases e : k = i + 2
    · subst e
      rcases s6 with ⟨⟨w, a, b⟩, q⟩ | ⟨-, q⟩
      · have e := k5 ⟨w, a, b⟩
        rw [a] at e
        exact Or.inr ⟨q, Or.inr ⟨rfl, hW.1 (i + 1) w e b⟩⟩
      · rcases k4 (i + 2) (by omega) with r | ⟨-, r, -⟩
        · left; rw [q, r]
        · omega
    · rw [s5 k (by omega)]
      rcases k4 k hk with r | ⟨r1, r2, r3⟩
      · exact Or.inl r
      · exact Or.inr ⟨r1, Or.inl ⟨r2, r3⟩⟩
/-! the entry -/
def aloc1 : List Value → List (Option Value)
  | [] => []
  | v :: r => if v.category = 2 then some v :: none :: aloc1 r else some v :: aloc1 r
def aloc (as : List Value) (maxL : Nat) : List (Option Value) := aloc1 as ++ List.replicate (maxL - (aloc1 as).length) none
def aslot : List Value → List Slot
  | [] => []
  | v :: r => if v.category = 2 then .val v :: .second :: aslot r else .val v :: aslot r
theorem aslot_eq (as : List Value) : ∀ acc : Array Slot, as.foldl (fun acc v => if v.category = 2 then (acc.push (Slot.val v)).push Slot.second else acc.push (Slot.val v)) acc = acc ++ (aslot as).toArray := by
  induction as with
  | nil => intro acc; simp [aslot]
  | cons v r ih =>
    intro acc
    rw [List.foldl_cons, ih]
    simp only [aslot]
    split <;> (apply Array.ext'; simp)
theorem aslot_len (n : Nat) (as : List Value) : (aslot (as.map (sh n))).length = (aloc1 as).length := by
  induction as with
  | nil => rfl
  | cons v r ih => simp only [List.map_cons, aslot, aloc1, sh_cat]; split <;> simp [ih]
theorem aslot_wf (as : List Value) : (∀ (k : Nat) (v : Value), (aslot as)[k]? = some (Slot.val v) → v.category = 2 → (aslot as)[k + 1]? = some .second) ∧ (∀ k, (aslot as)[k]? = some .second → ∃ v : Value, 1 ≤ k ∧ (aslot as)[k - 1]? = some (Slot.val v) ∧ v.category = 2) := by
  induction as with
  | nil => constructor <;> intro k <;> simp [aslot]
  | cons v r ih =>
    simp only [aslot]
    by_cases h : v.category = 2
    · rw [if_pos h]
      constructor
      · intro k w hk hw
        match k, hk with
        | 0, hk => rfl
        | 1, hk => simp at hk
        | k + 2, hk => simpa using ih.1 k w (by simpa using hk) hw
      · intro k hk
        match k, hk with
        | 0, hk => simp at hk
        | 1, hk => exact ⟨v, by omega, by simp, h⟩
        | k + 2, hk =>
          obtain ⟨w, a, b, c⟩ := ih.2 k (by simpa using hk)
          match k, a, b with
          | k + 1, a, b => exact ⟨w, by omega, by simpa using b, c⟩
    · rw [if_neg h]
      constructor
      · intro k w hk hw
        match k, hk with
        | 0, hk => simp at hk; subst hk; exact absurd hw h
        | k + 1, hk => simpa using ih.1 k w (by simpa using hk) hw
      · intro k hk
        match k, hk with
        | 0, hk => simp at hk
        | k + 1, hk =>
          obtain ⟨w, a, b, c⟩ := ih.2 k (by simpa using hk)
          match k, a, b with
          | k + 1, a, b => exact ⟨w, by omega, by simpa using b, c⟩
theorem aslot_val (n : Nat) (as : List Value) : ∀ (k : Nat) (v : Value), (aloc1 as)[k]? = some (some v) → (aslot (as.map (sh n)))[k]? = some (Slot.val (sh n v)) := by
  induction as with
  | nil => intro k v; simp [aloc1]
  | cons v r ih =>
    intro k w
    simp only [aloc1, List.map_cons, aslot, sh_cat]
    split
    · match k with
      | 0 => simp; intro h; rw [h]
      | 1 => simp
      | k + 2 => simpa using ih k w
    · match k with
      | 0 => simp; intro h; rw [h]
      | k + 1 => simpa using ih k w
theorem entry_rel (n : Nat) (as : List Value) (maxL : Nat) : Lrel n (aloc as maxL) (argsToLocals (as.map (sh n)).toArray maxL) := by
  have e : argsToLocals (as.map (sh n)).toArray maxL = (aslot (as.map (sh n)) ++ List.replicate (maxL - (aloc1 as).length) Slot.unset).toArray := by
    unfold argsToLocals
    simp only [List.foldl_toArray']
    rw [aslot_eq]
    apply Array.ext'
    simp [aslot_len]
  rw [e]
  have hl := aslot_len n as
  refine ⟨by simp [aloc, hl], ?_, ?_⟩
  · have hw := aslot_wf (as.map (sh n))
    constructor
    · intro k v hk hv
      simp only [List.getElem?_toArray] at hk ⊢
      by_cases h : k < (aslot (as.map (sh n))).length
      · rw [List.getElem?_append_left h] at hk
        have q := hw.1 k v hk hv
        rw [List.getElem?_append_left (List.getElem?_eq_some_iff.mp q).1]; exact q
      · rw [List.getElem?_append_right (by omega), List.getElem?_replicate] at hk
        split at hk <;> cases hk
    · intro k hk
      simp only [List.getElem?_toArray] at hk ⊢
      by_cases h : k < (aslot (as.map (sh n))).length
      · rw [List.getElem?_append_left h] at hk
        obtain ⟨v, a, b, c⟩ := hw.2 k hk
        exact ⟨v, a, by rw [List.getElem?_append_left (List.getElem?_eq_some_iff.mp b).1]; exact b, c⟩
      · rw [List.getElem?_append_right (by omega), List.getElem?_replicate] at hk
        split at hk <;> cases hk
  · intro k v hk
    simp only [List.getElem?_toArray]
    simp only [aloc] at hk
    by_cases h : k < (aloc1 as).length
    · rw [List.getElem?_append_left h] at hk
      rw [List.getElem?_append_left (by rw [hl]; exact h)]; exact aslot_val n as k v hk
    · rw [List.getElem?_append_right (by omega), List.getElem?_replicate] at hk
      split at hk <;> cases hk
/-! the heap -/
def ObjOk (Z : State) (n : Nat) (h : Heap) (a : Addr) : Obj → Prop
  | .inl (ty, vs) => Exa Z h a ("[" ++ ty.toString) ∧ ∃ c : Cell, Arr Z h a c ty ∧ c.slots = (vs.map (sh n)).toArray
  | .inr (t, vs) => Exa Z h a (lay t).1 ∧ vs.length = (lay t).2.length ∧ ∀ (k : Nat) (nd : String × String) (v : Value), (lay t).2[k]? = some nd → vs[k]? = some v → Fld Z h a (lay t).1 nd.1 nd.2 (sh n v)
def Sim (G : Gx) (H : List Obj) (h : Heap) : Prop := h.size = G.2.2.2 + H.length ∧ ∀ (i : Nat) (o : Obj), H[i]? = some o → ObjOk G.2.1 G.2.2.2 h (G.2.2.2 + i) o
def Done (G : Gx) (K : Kx) (rv : Option Value) (Hf : List Obj) (S0 : State) : Prop := match G, K with
  | (l, Z, a0, n), (p, e, R, s, m, args, below, meth, c, kc, ks) =>
    ∃ t o, Steps p.tables e below S0 t ∧ t.status = .running ∧ Ended t below o ∧ ∃ v L, o = .returned v ∧ (v = rv.map (sh n) ∧ Fr n L ∧ Sim (l, Z, a0, n) Hf t.heap ∧ s.heap.size + kc = n + Hf.length) ∧ FrameEnd s o t L kc ks
def Run (G : Gx) (K : Kx) (rv : Option Value) (Hf : List Obj) (pc : Nat) (Ls : List (Option Value)) (st : List Value) (H : List Obj) (cells slots : Nat) : Prop := match G, K with
  | (l, Z, a0, n), (p, e, R, s, m, args, below, meth, c, kc, ks) => ∀ T locs real, Stand p l e R s m args below meth c T locs cells slots → Fr n locs → Sim (l, Z, a0, n) H T.heap → s.heap.size + cells = n + H.length → Lrel n Ls real →
    Done (l, Z, a0, n) (p, e, R, s, m, args, below, meth, c, kc, ks) rv Hf (T.setTop (mkF m pc real (st.map (sh n))))
def Ok (G : Gx) (K : Kx) (own : String) (bytes : ByteArray) (maxL : Nat) (ret : Option FieldType) (R : Room) (mn : String) (kc ks : Nat) : Prop := match G, K with
  | (l, Z, a0, n), (p, e, R', s, m, args, below, meth, c, kc', ks') => p.tables.exec = Jvm.exec ∧ Z.Warmed39 s.vm ∧ s.vm.findClass own = some m.cls ∧ c.code = bytes ∧ c.maxLocals = maxL ∧ meth.sig.returnType = ret ∧ meth.locks = false ∧ R' = R ∧ meth.name = mn ∧ kc' = kc ∧ ks' = ks ∧ ∀ d ∈ tables_1, d.before a0 Z = true
def Con (G : Gx) (y : MethodName) (bytes : ByteArray) (maxL : Nat) (ret : Option FieldType) (rm : Room) (as : List Value) (H : List Obj) (rv : Option Value) (Hf : List Obj) : Prop := match G with
  | (l, Z, a0, n) => ∀ h0, Sim (l, Z, a0, n) H h0 → MetFree l y (head1 [Cond.code y bytes maxL ret] rm) (fun a U => a = (as.map (sh n)).toArray ∧ Z.Warmed39 U.vm ∧ U.heap = h0) (fun _ _ _ _ _ => True)
      (fun _ U o U' => ∃ v L, o = .returned v ∧ (v = rv.map (sh n) ∧ Fr n L ∧ Sim (l, Z, a0, n) Hf U'.heap ∧ Hf.length = H.length + rm.cells) ∧ FrameEnd U o U' L rm.cells rm.slots)
section Laws
variable {G : Gx} {K : Kx} {rv : Option Value} {Hf : List Obj} {pc pc' : Nat} {Ls Ls' : List (Option Value)} {st : List Value} {H : List Obj} {cells slots : Nat} {own : String} {bytes : ByteArray} {maxL : Nat} {ret : Option FieldType} {R : Room} {mn : String} {kc ks : Nat}
theorem Done.step {l : Launch} {Z : State} {a0 : Array Value} {n : Nat} {p : Program} {e : Env} {R : Room} {s : State} {m : MethodId} {args : Array Value} {below : List Frame} {meth : Method} {c : Code} {kc ks : Nat} {S0 S1 : State}
    (h : ∀ t, Steps p.tables e below S1 t → Steps p.tables e below S0 t) (k : Done (l, Z, a0, n) (p, e, R, s, m, args, below, meth, c, kc, ks) rv Hf S1) : Done (l, Z, a0, n) (p, e, R, s, m, args, below, meth, c, kc, ks) rv Hf S0 := by
  obtain ⟨t, o, h1, r⟩ := k
  exact ⟨t, o, h t h1, r⟩
theorem g_iconst {i : Int} {v : Int32} (O : Ok G K own bytes maxL ret R mn kc ks) (hd : decode bytes pc = .ok (.iconst i, 1)) (hv : Int32.ofInt i = v) (hp : pc + 1 = pc')
    (k : Run G K rv Hf pc' Ls (.int v :: st) H cells slots) : Run G K rv Hf pc Ls (st) H cells slots := by
  obtain ⟨l, Z, a0, n⟩ := G; obtain ⟨p, e, R', s, m, args, below, meth, c, kc', ks'⟩ := K
  obtain ⟨hx, hZ, hown, hby, hml, hret, hlk, rfl, hnm, rfl, rfl, hw⟩ := O
  subst hp
  intro T locs real X N S A L
  exact Done.step (fun t q => XT.iconstV X.here hx rfl v (hb hby hd) hv q) (k T locs real X N S A L)
theorem g_bipush {i : Int} {v : Int32} (O : Ok G K own bytes maxL ret R mn kc ks) (hd : decode bytes pc = .ok (.bipush i, 2)) (hv : (Int8.ofInt i).toInt32 = v) (hp : pc + 2 = pc')
    (k : Run G K rv Hf pc' Ls (.int v :: st) H cells slots) : Run G K rv Hf pc Ls (st) H cells slots := by
  obtain ⟨l, Z, a0, n⟩ := G; obtain ⟨p, e, R', s, m, args, below, meth, c, kc', ks'⟩ := K
  obtain ⟨hx, hZ, hown, hby, hml, hret, hlk, rfl, hnm, rfl, rfl, hw⟩ := O
  subst hp
  intro T locs real X N S A L
  exact Done.step (fun t q => XT.bipushV X.here hx rfl v (hb hby hd) hv q) (k T locs real X N S A L)
theorem g_sipush {i : Int} {v : Int32} (O : Ok G K own bytes maxL ret R mn kc ks) (hd : decode bytes pc = .ok (.sipush i, 3)) (hv : (Int16.ofInt i).toInt32 = v) (hp : pc + 3 = pc')
    (k : Run G K rv Hf pc' Ls (.int v :: st) H cells slots) : Run G K rv Hf pc Ls (st) H cells slots := by
  obtain ⟨l, Z, a0, n⟩ := G; obtain ⟨p, e, R', s, m, args, below, meth, c, kc', ks'⟩ := K
  obtain ⟨hx, hZ, hown, hby, hml, hret, hlk, rfl, hnm, rfl, rfl, hw⟩ := O
  subst hp
  intro T locs real X N S A L
  exact Done.step (fun t q => XT.sipushV X.here hx rfl v (hb hby hd) hv q) (k T locs real X N S A L)
theorem g_lconst {i : Fin 2} {v : Int64} (O : Ok G K own bytes maxL ret R mn kc ks) (hd : decode bytes pc = .ok (.lconst i, 1)) (hv : Int64.ofNat i = v) (hp : pc + 1 = pc')
    (k : Run G K rv Hf pc' Ls (.long v :: st) H cells slots) : Run G K rv Hf pc Ls (st) H cells slots := by
  obtain ⟨l, Z, a0, n⟩ := G; obtain ⟨p, e, R', s, m, args, below, meth, c, kc', ks'⟩ := K
  obtain ⟨hx, hZ, hown, hby, hml, hret, hlk, rfl, hnm, rfl, rfl, hw⟩ := O
  subst hp
  intro T locs real X N S A L
  exact Done.step (fun t q => XT.lconstV X.here hx rfl v (hb hby hd) hv q) (k T locs real X N S A L)
theorem g_iadd {x y : Int32} (O : Ok G K own bytes maxL ret R mn kc ks) (hd : decode bytes pc = .ok (.iadd, 1))  (hp : pc + 1 = pc')
    (k : Run G K rv Hf pc' Ls (.int (x + y) :: st) H cells slots) : Run G K rv Hf pc Ls (.int y :: .int x :: st) H cells slots := by
  obtain ⟨l, Z, a0, n⟩ := G; obtain ⟨p, e, R', s, m, args, below, meth, c, kc', ks'⟩ := K
  obtain ⟨hx, hZ, hown, hby, hml, hret, hlk, rfl, hnm, rfl, rfl, hw⟩ := O
  subst hp
  intro T locs real X N S A L
  exact Done.step (fun t q => XS.iadd X.here hx rfl (hb hby hd) rfl q) (k T locs real X N S A L)
theorem g_isub {x y : Int32} (O : Ok G K own bytes maxL ret R mn kc ks) (hd : decode bytes pc = .ok (.isub, 1))  (hp : pc + 1 = pc')
    (k : Run G K rv Hf pc' Ls (.int (x - y) :: st) H cells slots) : Run G K rv Hf pc Ls (.int y :: .int x :: st) H cells slots := by
  obtain ⟨l, Z, a0, n⟩ := G; obtain ⟨p, e, R', s, m, args, below, meth, c, kc', ks'⟩ := K
  obtain ⟨hx, hZ, hown, hby, hml, hret, hlk, rfl, hnm, rfl, rfl, hw⟩ := O
  subst hp
  intro T locs real X N S A L
  exact Done.step (fun t q => XS.isub X.here hx rfl (hb hby hd) rfl q) (k T locs real X N S A L)
theorem g_imul {x y : Int32} (O : Ok G K own bytes maxL ret R mn kc ks) (hd : decode bytes pc = .ok (.imul, 1))  (hp : pc + 1 = pc')
    (k : Run G K rv Hf pc' Ls (.int (x * y) :: st) H cells slots) : Run G K rv Hf pc Ls (.int y :: .int x :: st) H cells slots := by
  obtain ⟨l, Z, a0, n⟩ := G; obtain ⟨p, e, R', s, m, args, below, meth, c, kc', ks'⟩ := K
  obtain ⟨hx, hZ, hown, hby, hml, hret, hlk, rfl, hnm, rfl, rfl, hw⟩ := O
  subst hp
  intro T locs real X N S A L
  exact Done.step (fun t q => XS.imul X.here hx rfl (hb hby hd) rfl q) (k T locs real X N S A L)
theorem g_iand {x y : Int32} (O : Ok G K own bytes maxL ret R mn kc ks) (hd : decode bytes pc = .ok (.iand, 1))  (hp : pc + 1 = pc')
    (k : Run G K rv Hf pc' Ls (.int (x &&& y) :: st) H cells slots) : Run G K rv Hf pc Ls (.int y :: .int x :: st) H cells slots := by
  obtain ⟨l, Z, a0, n⟩ := G; obtain ⟨p, e, R', s, m, args, below, meth, c, kc', ks'⟩ := K
  obtain ⟨hx, hZ, hown, hby, hml, hret, hlk, rfl, hnm, rfl, rfl, hw⟩ := O
  subst hp
  intro T locs real X N S A L
  exact Done.step (fun t q => XS.iand X.here hx rfl (hb hby hd) rfl q) (k T locs real X N S A L)
theorem g_ior {x y : Int32} (O : Ok G K own bytes maxL ret R mn kc ks) (hd : decode bytes pc = .ok (.ior, 1))  (hp : pc + 1 = pc')
    (k : Run G K rv Hf pc' Ls (.int (x ||| y) :: st) H cells slots) : Run G K rv Hf pc Ls (.int y :: .int x :: st) H cells slots := by
  obtain ⟨l, Z, a0, n⟩ := G; obtain ⟨p, e, R', s, m, args, below, meth, c, kc', ks'⟩ := K
  obtain ⟨hx, hZ, hown, hby, hml, hret, hlk, rfl, hnm, rfl, rfl, hw⟩ := O
  subst hp
  intro T locs real X N S A L
  exact Done.step (fun t q => XT.ior X.here hx rfl (hb hby hd) rfl q) (k T locs real X N S A L)
theorem g_ixor {x y : Int32} (O : Ok G K own bytes maxL ret R mn kc ks) (hd : decode bytes pc = .ok (.ixor, 1))  (hp : pc + 1 = pc')
    (k : Run G K rv Hf pc' Ls (.int (x ^^^ y) :: st) H cells slots) : Run G K rv Hf pc Ls (.int y :: .int x :: st) H cells slots := by
  obtain ⟨l, Z, a0, n⟩ := G; obtain ⟨p, e, R', s, m, args, below, meth, c, kc', ks'⟩ := K
  obtain ⟨hx, hZ, hown, hby, hml, hret, hlk, rfl, hnm, rfl, rfl, hw⟩ := O
  subst hp
  intro T locs real X N S A L
  exact Done.step (fun t q => XT.ixor X.here hx rfl (hb hby hd) rfl q) (k T locs real X N S A L)
theorem g_ishl {x y : Int32} (O : Ok G K own bytes maxL ret R mn kc ks) (hd : decode bytes pc = .ok (.ishl, 1))  (hp : pc + 1 = pc')
    (k : Run G K rv Hf pc' Ls (.int (x <<< (y &&& 31)) :: st) H cells slots) : Run G K rv Hf pc Ls (.int y :: .int x :: st) H cells slots := by
  obtain ⟨l, Z, a0, n⟩ := G; obtain ⟨p, e, R', s, m, args, below, meth, c, kc', ks'⟩ := K
  obtain ⟨hx, hZ, hown, hby, hml, hret, hlk, rfl, hnm, rfl, rfl, hw⟩ := O
  subst hp
  intro T locs real X N S A L
  exact Done.step (fun t q => XT.ishl X.here hx rfl (hb hby hd) rfl q) (k T locs real X N S A L)
theorem g_ishr {x y : Int32} (O : Ok G K own bytes maxL ret R mn kc ks) (hd : decode bytes pc = .ok (.ishr, 1))  (hp : pc + 1 = pc')
    (k : Run G K rv Hf pc' Ls (.int (x >>> (y &&& 31)) :: st) H cells slots) : Run G K rv Hf pc Ls (.int y :: .int x :: st) H cells slots := by
  obtain ⟨l, Z, a0, n⟩ := G; obtain ⟨p, e, R', s, m, args, below, meth, c, kc', ks'⟩ := K
  obtain ⟨hx, hZ, hown, hby, hml, hret, hlk, rfl, hnm, rfl, rfl, hw⟩ := O
  subst hp
  intro T locs real X N S A L
  exact Done.step (fun t q => XT.ishr X.here hx rfl (hb hby hd) rfl q) (k T locs real X N S A L)
theorem g_iushr {x y : Int32} (O : Ok G K own bytes maxL ret R mn kc ks) (hd : decode bytes pc = .ok (.iushr, 1))  (hp : pc + 1 = pc')
    (k : Run G K rv Hf pc' Ls (.int (XT.ushr x y) :: st) H cells slots) : Run G K rv Hf pc Ls (.int y :: .int x :: st) H cells slots := by
  obtain ⟨l, Z, a0, n⟩ := G; obtain ⟨p, e, R', s, m, args, below, meth, c, kc', ks'⟩ := K
  obtain ⟨hx, hZ, hown, hby, hml, hret, hlk, rfl, hnm, rfl, rfl, hw⟩ := O
  subst hp
  intro T locs real X N S A L
  exact Done.step (fun t q => XT.iushr X.here hx rfl (hb hby hd) rfl q) (k T locs real X N S A L)
theorem g_ladd {x y : Int64} (O : Ok G K own bytes maxL ret R mn kc ks) (hd : decode bytes pc = .ok (.ladd, 1))  (hp : pc + 1 = pc')
    (k : Run G K rv Hf pc' Ls (.long (x + y) :: st) H cells slots) : Run G K rv Hf pc Ls (.long y :: .long x :: st) H cells slots := by
  obtain ⟨l, Z, a0, n⟩ := G; obtain ⟨p, e, R', s, m, args, below, meth, c, kc', ks'⟩ := K
  obtain ⟨hx, hZ, hown, hby, hml, hret, hlk, rfl, hnm, rfl, rfl, hw⟩ := O
  subst hp
  intro T locs real X N S A L
  exact Done.step (fun t q => XT.ladd X.here hx rfl (hb hby hd) rfl q) (k T locs real X N S A L)
theorem g_lsub {x y : Int64} (O : Ok G K own bytes maxL ret R mn kc ks) (hd : decode bytes pc = .ok (.lsub, 1))  (hp : pc + 1 = pc')
    (k : Run G K rv Hf pc' Ls (.long (x - y) :: st) H cells slots) : Run G K rv Hf pc Ls (.long y :: .long x :: st) H cells slots := by
  obtain ⟨l, Z, a0, n⟩ := G; obtain ⟨p, e, R', s, m, args, below, meth, c, kc', ks'⟩ := K
  obtain ⟨hx, hZ, hown, hby, hml, hret, hlk, rfl, hnm, rfl, rfl, hw⟩ := O
  subst hp
  intro T locs real X N S A L
  exact Done.step (fun t q => XT.lsub X.here hx rfl (hb hby hd) rfl q) (k T locs real X N S A L)
theorem g_lmul {x y : Int64} (O : Ok G K own bytes maxL ret R mn kc ks) (hd : decode bytes pc = .ok (.lmul, 1))  (hp : pc + 1 = pc')
    (k : Run G K rv Hf pc' Ls (.long (x * y) :: st) H cells slots) : Run G K rv Hf pc Ls (.long y :: .long x :: st) H cells slots := by
  obtain ⟨l, Z, a0, n⟩ := G; obtain ⟨p, e, R', s, m, args, below, meth, c, kc', ks'⟩ := K
  obtain ⟨hx, hZ, hown, hby, hml, hret, hlk, rfl, hnm, rfl, rfl, hw⟩ := O
  subst hp
  intro T locs real X N S A L
  exact Done.step (fun t q => XT.lmul X.here hx rfl (hb hby hd) rfl q) (k T locs real X N S A L)
theorem g_land {x y : Int64} (O : Ok G K own bytes maxL ret R mn kc ks) (hd : decode bytes pc = .ok (.land, 1))  (hp : pc + 1 = pc')
    (k : Run G K rv Hf pc' Ls (.long (x &&& y) :: st) H cells slots) : Run G K rv Hf pc Ls (.long y :: .long x :: st) H cells slots := by
  obtain ⟨l, Z, a0, n⟩ := G; obtain ⟨p, e, R', s, m, args, below, meth, c, kc', ks'⟩ := K
  obtain ⟨hx, hZ, hown, hby, hml, hret, hlk, rfl, hnm, rfl, rfl, hw⟩ := O
  subst hp
  intro T locs real X N S A L
  exact Done.step (fun t q => XT.land X.here hx rfl (hb hby hd) rfl q) (k T locs real X N S A L)
theorem g_lor {x y : Int64} (O : Ok G K own bytes maxL ret R mn kc ks) (hd : decode bytes pc = .ok (.lor, 1))  (hp : pc + 1 = pc')
    (k : Run G K rv Hf pc' Ls (.long (x ||| y) :: st) H cells slots) : Run G K rv Hf pc Ls (.long y :: .long x :: st) H cells slots := by
  obtain ⟨l, Z, a0, n⟩ := G; obtain ⟨p, e, R', s, m, args, below, meth, c, kc', ks'⟩ := K
  obtain ⟨hx, hZ, hown, hby, hml, hret, hlk, rfl, hnm, rfl, rfl, hw⟩ := O
  subst hp
  intro T locs real X N S A L
  exact Done.step (fun t q => XT.lor X.here hx rfl (hb hby hd) rfl q) (k T locs real X N S A L)
theorem g_lxor {x y : Int64} (O : Ok G K own bytes maxL ret R mn kc ks) (hd : decode bytes pc = .ok (.lxor, 1))  (hp : pc + 1 = pc')
    (k : Run G K rv Hf pc' Ls (.long (x ^^^ y) :: st) H cells slots) : Run G K rv Hf pc Ls (.long y :: .long x :: st) H cells slots := by
  obtain ⟨l, Z, a0, n⟩ := G; obtain ⟨p, e, R', s, m, args, below, meth, c, kc', ks'⟩ := K
  obtain ⟨hx, hZ, hown, hby, hml, hret, hlk, rfl, hnm, rfl, rfl, hw⟩ := O
  subst hp
  intro T locs real X N S A L
  exact Done.step (fun t q => XT.lxor X.here hx rfl (hb hby hd) rfl q) (k T locs real X N S A L)
theorem g_lshl {x : Int64} {y : Int32} (O : Ok G K own bytes maxL ret R mn kc ks) (hd : decode bytes pc = .ok (.lshl, 1))  (hp : pc + 1 = pc')
    (k : Run G K rv Hf pc' Ls (.long (x <<< (y.toInt64 &&& 63)) :: st) H cells slots) : Run G K rv Hf pc Ls (.int y :: .long x :: st) H cells slots := by
  obtain ⟨l, Z, a0, n⟩ := G; obtain ⟨p, e, R', s, m, args, below, meth, c, kc', ks'⟩ := K
  obtain ⟨hx, hZ, hown, hby, hml, hret, hlk, rfl, hnm, rfl, rfl, hw⟩ := O
  subst hp
  intro T locs real X N S A L
  exact Done.step (fun t q => XT.lshl X.here hx rfl (hb hby hd) rfl q) (k T locs real X N S A L)
theorem g_lshr {x : Int64} {y : Int32} (O : Ok G K own bytes maxL ret R mn kc ks) (hd : decode bytes pc = .ok (.lshr, 1))  (hp : pc + 1 = pc')
    (k : Run G K rv Hf pc' Ls (.long (x >>> (y.toInt64 &&& 63)) :: st) H cells slots) : Run G K rv Hf pc Ls (.int y :: .long x :: st) H cells slots := by
  obtain ⟨l, Z, a0, n⟩ := G; obtain ⟨p, e, R', s, m, args, below, meth, c, kc', ks'⟩ := K
  obtain ⟨hx, hZ, hown, hby, hml, hret, hlk, rfl, hnm, rfl, rfl, hw⟩ := O
  subst hp
  intro T locs real X N S A L
  exact Done.step (fun t q => XT.lshr X.here hx rfl (hb hby hd) rfl q) (k T locs real X N S A L)
theorem g_lushr {x : Int64} {y : Int32} (O : Ok G K own bytes maxL ret R mn kc ks) (hd : decode bytes pc = .ok (.lushr, 1))  (hp : pc + 1 = pc')
    (k : Run G K rv Hf pc' Ls (.long (XT.ushrL x y) :: st) H cells slots) : Run G K rv Hf pc Ls (.int y :: .long x :: st) H cells slots := by
  obtain ⟨l, Z, a0, n⟩ := G; obtain ⟨p, e, R', s, m, args, below, meth, c, kc', ks'⟩ := K
  obtain ⟨hx, hZ, hown, hby, hml, hret, hlk, rfl, hnm, rfl, rfl, hw⟩ := O
  subst hp
  intro T locs real X N S A L
  exact Done.step (fun t q => XT.lushr X.here hx rfl (hb hby hd) rfl q) (k T locs real X N S A L)
theorem g_idiv {x y : Int32} (O : Ok G K own bytes maxL ret R mn kc ks) (hd : decode bytes pc = .ok (.idiv, 1)) (hy : y ≠ 0) (hp : pc + 1 = pc')
    (k : Run G K rv Hf pc' Ls (.int (x / y) :: st) H cells slots) : Run G K rv Hf pc Ls (.int y :: .int x :: st) H cells slots := by
  obtain ⟨l, Z, a0, n⟩ := G; obtain ⟨p, e, R', s, m, args, below, meth, c, kc', ks'⟩ := K
  obtain ⟨hx, hZ, hown, hby, hml, hret, hlk, rfl, hnm, rfl, rfl, hw⟩ := O
  subst hp
  intro T locs real X N S A L
  exact Done.step (fun t q => XS.idiv X.here hx rfl (hb hby hd) rfl hy q) (k T locs real X N S A L)
theorem g_irem {x y : Int32} (O : Ok G K own bytes maxL ret R mn kc ks) (hd : decode bytes pc = .ok (.irem, 1)) (hy : y ≠ 0) (hp : pc + 1 = pc')
    (k : Run G K rv Hf pc' Ls (.int (x % y) :: st) H cells slots) : Run G K rv Hf pc Ls (.int y :: .int x :: st) H cells slots := by
  obtain ⟨l, Z, a0, n⟩ := G; obtain ⟨p, e, R', s, m, args, below, meth, c, kc', ks'⟩ := K
  obtain ⟨hx, hZ, hown, hby, hml, hret, hlk, rfl, hnm, rfl, rfl, hw⟩ := O
  subst hp
  intro T locs real X N S A L
  exact Done.step (fun t q => iremM X hx rfl (hb hby hd) rfl hy q) (k T locs real X N S A L)
theorem g_ldiv {x y : Int64} (O : Ok G K own bytes maxL ret R mn kc ks) (hd : decode bytes pc = .ok (.ldiv, 1)) (hy : y ≠ 0) (hp : pc + 1 = pc')
    (k : Run G K rv Hf pc' Ls (.long (x / y) :: st) H cells slots) : Run G K rv Hf pc Ls (.long y :: .long x :: st) H cells slots := by
  obtain ⟨l, Z, a0, n⟩ := G; obtain ⟨p, e, R', s, m, args, below, meth, c, kc', ks'⟩ := K
  obtain ⟨hx, hZ, hown, hby, hml, hret, hlk, rfl, hnm, rfl, rfl, hw⟩ := O
  subst hp
  intro T locs real X N S A L
  exact Done.step (fun t q => XT.ldiv X.here hx rfl (hb hby hd) rfl hy q) (k T locs real X N S A L)
theorem g_lrem {x y : Int64} (O : Ok G K own bytes maxL ret R mn kc ks) (hd : decode bytes pc = .ok (.lrem, 1)) (hy : y ≠ 0) (hp : pc + 1 = pc')
    (k : Run G K rv Hf pc' Ls (.long (x % y) :: st) H cells slots) : Run G K rv Hf pc Ls (.long y :: .long x :: st) H cells slots := by
  obtain ⟨l, Z, a0, n⟩ := G; obtain ⟨p, e, R', s, m, args, below, meth, c, kc', ks'⟩ := K
  obtain ⟨hx, hZ, hown, hby, hml, hret, hlk, rfl, hnm, rfl, rfl, hw⟩ := O
  subst hp
  intro T locs real X N S A L
  exact Done.step (fun t q => XT.lrem X.here hx rfl (hb hby hd) rfl hy (by rw [lrem_mod]; exact q)) (k T locs real X N S A L)
theorem g_i2l {x : Int32} (O : Ok G K own bytes maxL ret R mn kc ks) (hd : decode bytes pc = .ok (.i2l, 1))  (hp : pc + 1 = pc')
    (k : Run G K rv Hf pc' Ls (.long x.toInt64 :: st) H cells slots) : Run G K rv Hf pc Ls (.int x :: st) H cells slots := by
  obtain ⟨l, Z, a0, n⟩ := G; obtain ⟨p, e, R', s, m, args, below, meth, c, kc', ks'⟩ := K
  obtain ⟨hx, hZ, hown, hby, hml, hret, hlk, rfl, hnm, rfl, rfl, hw⟩ := O
  subst hp
  intro T locs real X N S A L
  exact Done.step (fun t q => XT.i2l X.here hx rfl (hb hby hd) rfl q) (k T locs real X N S A L)
theorem g_l2i {x : Int64} (O : Ok G K own bytes maxL ret R mn kc ks) (hd : decode bytes pc = .ok (.l2i, 1))  (hp : pc + 1 = pc')
    (k : Run G K rv Hf pc' Ls (.int x.toInt32 :: st) H cells slots) : Run G K rv Hf pc Ls (.long x :: st) H cells slots := by
  obtain ⟨l, Z, a0, n⟩ := G; obtain ⟨p, e, R', s, m, args, below, meth, c, kc', ks'⟩ := K
  obtain ⟨hx, hZ, hown, hby, hml, hret, hlk, rfl, hnm, rfl, rfl, hw⟩ := O
  subst hp
  intro T locs real X N S A L
  exact Done.step (fun t q => XT.l2i X.here hx rfl (hb hby hd) rfl q) (k T locs real X N S A L)
theorem g_i2b {x : Int32} (O : Ok G K own bytes maxL ret R mn kc ks) (hd : decode bytes pc = .ok (.i2b, 1))  (hp : pc + 1 = pc')
    (k : Run G K rv Hf pc' Ls (.int x.toInt8.toInt32 :: st) H cells slots) : Run G K rv Hf pc Ls (.int x :: st) H cells slots := by
  obtain ⟨l, Z, a0, n⟩ := G; obtain ⟨p, e, R', s, m, args, below, meth, c, kc', ks'⟩ := K
  obtain ⟨hx, hZ, hown, hby, hml, hret, hlk, rfl, hnm, rfl, rfl, hw⟩ := O
  subst hp
  intro T locs real X N S A L
  exact Done.step (fun t q => XT.i2b X.here hx rfl (hb hby hd) rfl q) (k T locs real X N S A L)
theorem g_i2c {x : Int32} (O : Ok G K own bytes maxL ret R mn kc ks) (hd : decode bytes pc = .ok (.i2c, 1))  (hp : pc + 1 = pc')
    (k : Run G K rv Hf pc' Ls (.int x.toUInt32.toUInt16.toUInt32.toInt32 :: st) H cells slots) : Run G K rv Hf pc Ls (.int x :: st) H cells slots := by
  obtain ⟨l, Z, a0, n⟩ := G; obtain ⟨p, e, R', s, m, args, below, meth, c, kc', ks'⟩ := K
  obtain ⟨hx, hZ, hown, hby, hml, hret, hlk, rfl, hnm, rfl, rfl, hw⟩ := O
  subst hp
  intro T locs real X N S A L
  exact Done.step (fun t q => XT.i2c X.here hx rfl (hb hby hd) rfl q) (k T locs real X N S A L)
theorem g_dup {x : Value} (O : Ok G K own bytes maxL ret R mn kc ks) (hd : decode bytes pc = .ok (.dup, 1)) (hc : x.category = 1) (hp : pc + 1 = pc')
    (k : Run G K rv Hf pc' Ls (x :: x :: st) H cells slots) : Run G K rv Hf pc Ls (x :: st) H cells slots := by
  obtain ⟨l, Z, a0, n⟩ := G; obtain ⟨p, e, R', s, m, args, below, meth, c, kc', ks'⟩ := K
  obtain ⟨hx, hZ, hown, hby, hml, hret, hlk, rfl, hnm, rfl, rfl, hw⟩ := O
  subst hp
  intro T locs real X N S A L
  exact Done.step (fun t q => XS.dup X.here hx rfl (hb hby hd) rfl ((sh_cat n x).trans hc) q) (k T locs real X N S A L)
theorem g_dup_x1 {x y : Value} (O : Ok G K own bytes maxL ret R mn kc ks) (hd : decode bytes pc = .ok (.dup_x1, 1)) (hc : x.category = 1) (hc' : y.category = 1) (hp : pc + 1 = pc')
    (k : Run G K rv Hf pc' Ls (x :: y :: x :: st) H cells slots) : Run G K rv Hf pc Ls (x :: y :: st) H cells slots := by
  obtain ⟨l, Z, a0, n⟩ := G; obtain ⟨p, e, R', s, m, args, below, meth, c, kc', ks'⟩ := K
  obtain ⟨hx, hZ, hown, hby, hml, hret, hlk, rfl, hnm, rfl, rfl, hw⟩ := O
  subst hp
  intro T locs real X N S A L
  exact Done.step (fun t q => XT.dupX1 X.here hx rfl (hb hby hd) rfl ((sh_cat n x).trans hc) ((sh_cat n y).trans hc') q) (k T locs real X N S A L)
theorem g_pop {x : Value} (O : Ok G K own bytes maxL ret R mn kc ks) (hd : decode bytes pc = .ok (.pop, 1)) (hc : x.category = 1) (hp : pc + 1 = pc')
    (k : Run G K rv Hf pc' Ls (st) H cells slots) : Run G K rv Hf pc Ls (x :: st) H cells slots := by
  obtain ⟨l, Z, a0, n⟩ := G; obtain ⟨p, e, R', s, m, args, below, meth, c, kc', ks'⟩ := K
  obtain ⟨hx, hZ, hown, hby, hml, hret, hlk, rfl, hnm, rfl, rfl, hw⟩ := O
  subst hp
  intro T locs real X N S A L
  exact Done.step (fun t q => XT.pop X.here hx rfl (hb hby hd) rfl ((sh_cat n x).trans hc) q) (k T locs real X N S A L)
theorem g_iload {j : Nat} {v : Int32} (O : Ok G K own bytes maxL ret R mn kc ks) (hd : decode bytes pc = .ok (.iload j, 2)) (hl : Ls[j]? = some (some (.int v))) (hp : pc + 2 = pc')
    (k : Run G K rv Hf pc' Ls (.int v :: st) H cells slots) : Run G K rv Hf pc Ls st H cells slots := by
  obtain ⟨l, Z, a0, n⟩ := G; obtain ⟨p, e, R', s, m, args, below, meth, c, kc', ks'⟩ := K
  obtain ⟨hx, hZ, hown, hby, hml, hret, hlk, rfl, hnm, rfl, rfl, hw⟩ := O
  subst hp
  intro T locs real X N S A L
  exact Done.step (fun t q => XS.iload X.here hx rfl (hb hby hd) (L.2.2 _ _ hl) q) (k T locs real X N S A L)
theorem g_iload_n {j : Fin 4} {v : Int32} (O : Ok G K own bytes maxL ret R mn kc ks) (hd : decode bytes pc = .ok (.iload_n j, 1)) (hl : Ls[j.val]? = some (some (.int v))) (hp : pc + 1 = pc')
    (k : Run G K rv Hf pc' Ls (.int v :: st) H cells slots) : Run G K rv Hf pc Ls st H cells slots := by
  obtain ⟨l, Z, a0, n⟩ := G; obtain ⟨p, e, R', s, m, args, below, meth, c, kc', ks'⟩ := K
  obtain ⟨hx, hZ, hown, hby, hml, hret, hlk, rfl, hnm, rfl, rfl, hw⟩ := O
  subst hp
  intro T locs real X N S A L
  exact Done.step (fun t q => XS.iloadN X.here hx rfl (hb hby hd) (L.2.2 _ _ hl) q) (k T locs real X N S A L)
theorem g_lload {j : Nat} {v : Int64} (O : Ok G K own bytes maxL ret R mn kc ks) (hd : decode bytes pc = .ok (.lload j, 2)) (hl : Ls[j]? = some (some (.long v))) (hp : pc + 2 = pc')
    (k : Run G K rv Hf pc' Ls (.long v :: st) H cells slots) : Run G K rv Hf pc Ls st H cells slots := by
  obtain ⟨l, Z, a0, n⟩ := G; obtain ⟨p, e, R', s, m, args, below, meth, c, kc', ks'⟩ := K
  obtain ⟨hx, hZ, hown, hby, hml, hret, hlk, rfl, hnm, rfl, rfl, hw⟩ := O
  subst hp
  intro T locs real X N S A L
  exact Done.step (fun t q => XT.lload X.here hx rfl (hb hby hd) (L.2.2 _ _ hl) q) (k T locs real X N S A L)
theorem g_lload_n {j : Fin 4} {v : Int64} (O : Ok G K own bytes maxL ret R mn kc ks) (hd : decode bytes pc = .ok (.lload_n j, 1)) (hl : Ls[j.val]? = some (some (.long v))) (hp : pc + 1 = pc')
    (k : Run G K rv Hf pc' Ls (.long v :: st) H cells slots) : Run G K rv Hf pc Ls st H cells slots := by
  obtain ⟨l, Z, a0, n⟩ := G; obtain ⟨p, e, R', s, m, args, below, meth, c, kc', ks'⟩ := K
  obtain ⟨hx, hZ, hown, hby, hml, hret, hlk, rfl, hnm, rfl, rfl, hw⟩ := O
  subst hp
  intro T locs real X N S A L
  exact Done.step (fun t q => XT.lloadN X.here hx rfl (hb hby hd) (L.2.2 _ _ hl) q) (k T locs real X N S A L)
theorem g_aload {j : Nat} {v : Nat} (O : Ok G K own bytes maxL ret R mn kc ks) (hd : decode bytes pc = .ok (.aload j, 2)) (hl : Ls[j]? = some (some (.ref v))) (hp : pc + 2 = pc')
    (k : Run G K rv Hf pc' Ls (.ref v :: st) H cells slots) : Run G K rv Hf pc Ls st H cells slots := by
  obtain ⟨l, Z, a0, n⟩ := G; obtain ⟨p, e, R', s, m, args, below, meth, c, kc', ks'⟩ := K
  obtain ⟨hx, hZ, hown, hby, hml, hret, hlk, rfl, hnm, rfl, rfl, hw⟩ := O
  subst hp
  intro T locs real X N S A L
  exact Done.step (fun t q => XS.aload X.here hx rfl (hb hby hd) (L.2.2 _ _ hl) rfl q) (k T locs real X N S A L)
theorem g_aload_n {j : Fin 4} {v : Nat} (O : Ok G K own bytes maxL ret R mn kc ks) (hd : decode bytes pc = .ok (.aload_n j, 1)) (hl : Ls[j.val]? = some (some (.ref v))) (hp : pc + 1 = pc')
    (k : Run G K rv Hf pc' Ls (.ref v :: st) H cells slots) : Run G K rv Hf pc Ls st H cells slots := by
  obtain ⟨l, Z, a0, n⟩ := G; obtain ⟨p, e, R', s, m, args, below, meth, c, kc', ks'⟩ := K
  obtain ⟨hx, hZ, hown, hby, hml, hret, hlk, rfl, hnm, rfl, rfl, hw⟩ := O
  subst hp
  intro T locs real X N S A L
  exact Done.step (fun t q => XS.aloadN X.here hx rfl (hb hby hd) (L.2.2 _ _ hl) rfl q) (k T locs real X N S A L)
theorem g_istore {j : Nat} {v : Int32} (O : Ok G K own bytes maxL ret R mn kc ks) (hd : decode bytes pc = .ok (.istore j, 2)) (hl : stor Ls j (.int v) = some Ls') (hp : pc + 2 = pc')
    (k : Run G K rv Hf pc' Ls' st H cells slots) : Run G K rv Hf pc Ls (.int v :: st) H cells slots := by
  obtain ⟨l, Z, a0, n⟩ := G; obtain ⟨p, e, R', s, m, args, below, meth, c, kc', ks'⟩ := K
  obtain ⟨hx, hZ, hown, hby, hml, hret, hlk, rfl, hnm, rfl, rfl, hw⟩ := O
  subst hp
  intro T locs real X N S A L
  obtain ⟨real', e1, L'⟩ := store_1 L rfl hl
  exact Done.step (fun t q => XS.istore X.here hx rfl (hb hby hd) rfl e1 q) (k T locs real' X N S A L')
theorem g_istore_n {j : Fin 4} {v : Int32} (O : Ok G K own bytes maxL ret R mn kc ks) (hd : decode bytes pc = .ok (.istore_n j, 1)) (hl : stor Ls j.val (.int v) = some Ls') (hp : pc + 1 = pc')
    (k : Run G K rv Hf pc' Ls' st H cells slots) : Run G K rv Hf pc Ls (.int v :: st) H cells slots := by
  obtain ⟨l, Z, a0, n⟩ := G; obtain ⟨p, e, R', s, m, args, below, meth, c, kc', ks'⟩ := K
  obtain ⟨hx, hZ, hown, hby, hml, hret, hlk, rfl, hnm, rfl, rfl, hw⟩ := O
  subst hp
  intro T locs real X N S A L
  obtain ⟨real', e1, L'⟩ := store_1 L rfl hl
  exact Done.step (fun t q => XS.istoreN X.here hx rfl (hb hby hd) rfl e1 q) (k T locs real' X N S A L')
theorem g_lstore {j : Nat} {v : Int64} (O : Ok G K own bytes maxL ret R mn kc ks) (hd : decode bytes pc = .ok (.lstore j, 2)) (hl : stor Ls j (.long v) = some Ls') (hp : pc + 2 = pc')
    (k : Run G K rv Hf pc' Ls' st H cells slots) : Run G K rv Hf pc Ls (.long v :: st) H cells slots := by
  obtain ⟨l, Z, a0, n⟩ := G; obtain ⟨p, e, R', s, m, args, below, meth, c, kc', ks'⟩ := K
  obtain ⟨hx, hZ, hown, hby, hml, hret, hlk, rfl, hnm, rfl, rfl, hw⟩ := O
  subst hp
  intro T locs real X N S A L
  obtain ⟨real', e1, L'⟩ := store_2 L rfl hl
  exact Done.step (fun t q => XT.lstore X.here hx rfl (hb hby hd) rfl e1 q) (k T locs real' X N S A L')
theorem g_lstore_n {j : Fin 4} {v : Int64} (O : Ok G K own bytes maxL ret R mn kc ks) (hd : decode bytes pc = .ok (.lstore_n j, 1)) (hl : stor Ls j.val (.long v) = some Ls') (hp : pc + 1 = pc')
    (k : Run G K rv Hf pc' Ls' st H cells slots) : Run G K rv Hf pc Ls (.long v :: st) H cells slots := by
  obtain ⟨l, Z, a0, n⟩ := G; obtain ⟨p, e, R', s, m, args, below, meth, c, kc', ks'⟩ := K
  obtain ⟨hx, hZ, hown, hby, hml, hret, hlk, rfl, hnm, rfl, rfl, hw⟩ := O
  subst hp
  intro T locs real X N S A L
  obtain ⟨real', e1, L'⟩ := store_2 L rfl hl
  exact Done.step (fun t q => XT.lstoreN X.here hx rfl (hb hby hd) rfl e1 q) (k T locs real' X N S A L')
theorem g_astore {j : Nat} {v : Nat} (O : Ok G K own bytes maxL ret R mn kc ks) (hd : decode bytes pc = .ok (.astore j, 2)) (hl : stor Ls j (.ref v) = some Ls') (hp : pc + 2 = pc')
    (k : Run G K rv Hf pc' Ls' st H cells slots) : Run G K rv Hf pc Ls (.ref v :: st) H cells slots := by
  obtain ⟨l, Z, a0, n⟩ := G; obtain ⟨p, e, R', s, m, args, below, meth, c, kc', ks'⟩ := K
  obtain ⟨hx, hZ, hown, hby, hml, hret, hlk, rfl, hnm, rfl, rfl, hw⟩ := O
  subst hp
  intro T locs real X N S A L
  obtain ⟨real', e1, L'⟩ := store_1 L rfl hl
  exact Done.step (fun t q => XS.astore X.here hx rfl (hb hby hd) rfl rfl e1 q) (k T locs real' X N S A L')
theorem g_astore_n {j : Fin 4} {v : Nat} (O : Ok G K own bytes maxL ret R mn kc ks) (hd : decode bytes pc = .ok (.astore_n j, 1)) (hl : stor Ls j.val (.ref v) = some Ls') (hp : pc + 1 = pc')
    (k : Run G K rv Hf pc' Ls' st H cells slots) : Run G K rv Hf pc Ls (.ref v :: st) H cells slots := by
  obtain ⟨l, Z, a0, n⟩ := G; obtain ⟨p, e, R', s, m, args, below, meth, c, kc', ks'⟩ := K
  obtain ⟨hx, hZ, hown, hby, hml, hret, hlk, rfl, hnm, rfl, rfl, hw⟩ := O
  subst hp
  intro T locs real X N S A L
  obtain ⟨real', e1, L'⟩ := store_1 L rfl hl
  exact Done.step (fun t q => XS.astoreN X.here hx rfl (hb hby hd) rfl rfl e1 q) (k T locs real' X N S A L')
theorem g_iinc {j : Nat} {i : Int} {v w : Int32} (O : Ok G K own bytes maxL ret R mn kc ks) (hd : decode bytes pc = .ok (.iinc j i, 3)) (hv : Int32.ofInt i = w) (hg : Ls[j]? = some (some (.int v))) (hl : stor Ls j (.int (v + w)) = some Ls') (hp : pc + 3 = pc')
    (k : Run G K rv Hf pc' Ls' st H cells slots) : Run G K rv Hf pc Ls st H cells slots := by
  obtain ⟨l, Z, a0, n⟩ := G; obtain ⟨p, e, R', s, m, args, below, meth, c, kc', ks'⟩ := K
  obtain ⟨hx, hZ, hown, hby, hml, hret, hlk, rfl, hnm, rfl, rfl, hw⟩ := O
  subst hp
  intro T locs real X N S A L
  obtain ⟨real', e1, L'⟩ := store_1 L rfl hl
  exact Done.step (fun t q => XT.iincV X.here hx rfl w (hb hby hd) hv (L.2.2 _ _ hg) e1 q) (k T locs real' X N S A L')
theorem g_goto {o : Int} (O : Ok G K own bytes maxL ret R mn kc ks) (hd : decode bytes pc = .ok (.goto o, 3)) (ho : 0 ≤ (pc : Int) + o) (hp : ((pc : Int) + o).toNat = pc')
    (k : Run G K rv Hf pc' Ls st H cells slots) : Run G K rv Hf pc Ls st H cells slots := by
  obtain ⟨l, Z, a0, n⟩ := G; obtain ⟨p, e, R', s, m, args, below, meth, c, kc', ks'⟩ := K
  obtain ⟨hx, hZ, hown, hby, hml, hret, hlk, rfl, hnm, rfl, rfl, hw⟩ := O
  intro T locs real X N S A L
  exact Done.step (fun t q => XS.goto X.here hx rfl (pc0 := pc) rfl (hb hby hd) ho hp q) (k T locs real X N S A L)
theorem g_icmp_eq {x y : Int32} {o : Int} {pc1 : Nat} (O : Ok G K own bytes maxL ret R mn kc ks) (hd : decode bytes pc = .ok (.if_icmp .eq o, 3)) (hp : pc + 3 = pc') (ho : 0 ≤ (pc : Int) + o) (ht : ((pc : Int) + o).toNat = pc1)
    (kt : x = y → Run G K rv Hf pc1 Ls st H cells slots) (kf : ¬ x = y → Run G K rv Hf pc' Ls st H cells slots) : Run G K rv Hf pc Ls (.int y :: .int x :: st) H cells slots := by
  obtain ⟨l, Z, a0, n⟩ := G; obtain ⟨p, e, R', s, m, args, below, meth, c, kc', ks'⟩ := K
  obtain ⟨hx, hZ, hown, hby, hml, hret, hlk, rfl, hnm, rfl, rfl, hw⟩ := O
  subst hp
  intro T locs real X N S A L
  by_cases h : x = y
  · exact Done.step (fun t q => XS.icmpYes X.here hx rfl (pc0 := pc) rfl (hb hby hd) rfl (XT.ii_eq_t h) ho ht q) (kt h T locs real X N S A L)
  · exact Done.step (fun t q => XS.icmpNo X.here hx rfl (hb hby hd) rfl (XT.ii_eq_f h) q) (kf h T locs real X N S A L)
theorem g_if_eq {x : Int32} {o : Int} {pc1 : Nat} (O : Ok G K own bytes maxL ret R mn kc ks) (hd : decode bytes pc = .ok (.ifCond .eq o, 3)) (hp : pc + 3 = pc') (ho : 0 ≤ (pc : Int) + o) (ht : ((pc : Int) + o).toNat = pc1)
    (kt : x = 0 → Run G K rv Hf pc1 Ls st H cells slots) (kf : ¬ x = 0 → Run G K rv Hf pc' Ls st H cells slots) : Run G K rv Hf pc Ls (.int x :: st) H cells slots := by
  obtain ⟨l, Z, a0, n⟩ := G; obtain ⟨p, e, R', s, m, args, below, meth, c, kc', ks'⟩ := K
  obtain ⟨hx, hZ, hown, hby, hml, hret, hlk, rfl, hnm, rfl, rfl, hw⟩ := O
  subst hp
  intro T locs real X N S A L
  by_cases h : x = 0
  · exact Done.step (fun t q => XS.ifYes X.here hx rfl (pc0 := pc) rfl (hb hby hd) rfl (XT.i0_eq_t h) ho ht q) (kt h T locs real X N S A L)
  · exact Done.step (fun t q => XS.ifNo X.here hx rfl (hb hby hd) rfl (XT.i0_eq_f h) q) (kf h T locs real X N S A L)
theorem g_lcmp_eq {x y : Int64} {pq : Nat} {o : Int} {pc1 : Nat} (O : Ok G K own bytes maxL ret R mn kc ks) (hd0 : decode bytes pc = .ok (.lcmp, 1)) (hq : pc + 1 = pq) (hd : decode bytes pq = .ok (.ifCond .eq o, 3)) (hp : pq + 3 = pc') (ho : 0 ≤ (pq : Int) + o) (ht : ((pq : Int) + o).toNat = pc1)
    (kt : x = y → Run G K rv Hf pc1 Ls st H cells slots) (kf : ¬ x = y → Run G K rv Hf pc' Ls st H cells slots) : Run G K rv Hf pc Ls (.long y :: .long x :: st) H cells slots := by
  obtain ⟨l, Z, a0, n⟩ := G; obtain ⟨p, e, R', s, m, args, below, meth, c, kc', ks'⟩ := K
  obtain ⟨hx, hZ, hown, hby, hml, hret, hlk, rfl, hnm, rfl, rfl, hw⟩ := O
  subst hq
  subst hp
  intro T locs real X N S A L
  by_cases h : x = y
  · exact Done.step (fun t q => XT.lcmp X.here hx rfl (hb hby hd0) rfl (XS.ifYes X.here hx rfl (pc0 := pc + 1) rfl (hb hby hd) rfl (XT.ll_eq_t h) ho ht q)) (kt h T locs real X N S A L)
  · exact Done.step (fun t q => XT.lcmp X.here hx rfl (hb hby hd0) rfl (XS.ifNo X.here hx rfl (hb hby hd) rfl (XT.ll_eq_f h) q)) (kf h T locs real X N S A L)
theorem g_icmp_ne {x y : Int32} {o : Int} {pc1 : Nat} (O : Ok G K own bytes maxL ret R mn kc ks) (hd : decode bytes pc = .ok (.if_icmp .ne o, 3)) (hp : pc + 3 = pc') (ho : 0 ≤ (pc : Int) + o) (ht : ((pc : Int) + o).toNat = pc1)
    (kt : ¬ x = y → Run G K rv Hf pc1 Ls st H cells slots) (kf : x = y → Run G K rv Hf pc' Ls st H cells slots) : Run G K rv Hf pc Ls (.int y :: .int x :: st) H cells slots := by
  obtain ⟨l, Z, a0, n⟩ := G; obtain ⟨p, e, R', s, m, args, below, meth, c, kc', ks'⟩ := K
  obtain ⟨hx, hZ, hown, hby, hml, hret, hlk, rfl, hnm, rfl, rfl, hw⟩ := O
  subst hp
  intro T locs real X N S A L
  by_cases h : x = y
  · exact Done.step (fun t q => XS.icmpNo X.here hx rfl (hb hby hd) rfl (XT.ii_ne_f h) q) (kf h T locs real X N S A L)
  · exact Done.step (fun t q => XS.icmpYes X.here hx rfl (pc0 := pc) rfl (hb hby hd) rfl (XT.ii_ne_t h) ho ht q) (kt h T locs real X N S A L)
theorem g_if_ne {x : Int32} {o : Int} {pc1 : Nat} (O : Ok G K own bytes maxL ret R mn kc ks) (hd : decode bytes pc = .ok (.ifCond .ne o, 3)) (hp : pc + 3 = pc') (ho : 0 ≤ (pc : Int) + o) (ht : ((pc : Int) + o).toNat = pc1)
    (kt : ¬ x = 0 → Run G K rv Hf pc1 Ls st H cells slots) (kf : x = 0 → Run G K rv Hf pc' Ls st H cells slots) : Run G K rv Hf pc Ls (.int x :: st) H cells slots := by
  obtain ⟨l, Z, a0, n⟩ := G; obtain ⟨p, e, R', s, m, args, below, meth, c, kc', ks'⟩ := K
  obtain ⟨hx, hZ, hown, hby, hml, hret, hlk, rfl, hnm, rfl, rfl, hw⟩ := O
  subst hp
  intro T locs real X N S A L
  by_cases h : x = 0
  · exact Done.step (fun t q => XS.ifNo X.here hx rfl (hb hby hd) rfl (XT.i0_ne_f h) q) (kf h T locs real X N S A L)
  · exact Done.step (fun t q => XS.ifYes X.here hx rfl (pc0 := pc) rfl (hb hby hd) rfl (XT.i0_ne_t h) ho ht q) (kt h T locs real X N S A L)
theorem g_lcmp_ne {x y : Int64} {pq : Nat} {o : Int} {pc1 : Nat} (O : Ok G K own bytes maxL ret R mn kc ks) (hd0 : decode bytes pc = .ok (.lcmp, 1)) (hq : pc + 1 = pq) (hd : decode bytes pq = .ok (.ifCond .ne o, 3)) (hp : pq + 3 = pc') (ho : 0 ≤ (pq : Int) + o) (ht : ((pq : Int) + o).toNat = pc1)
    (kt : ¬ x = y → Run G K rv Hf pc1 Ls st H cells slots) (kf : x = y → Run G K rv Hf pc' Ls st H cells slots) : Run G K rv Hf pc Ls (.long y :: .long x :: st) H cells slots := by
  obtain ⟨l, Z, a0, n⟩ := G; obtain ⟨p, e, R', s, m, args, below, meth, c, kc', ks'⟩ := K
  obtain ⟨hx, hZ, hown, hby, hml, hret, hlk, rfl, hnm, rfl, rfl, hw⟩ := O
  subst hq
  subst hp
  intro T locs real X N S A L
  by_cases h : x = y
  · exact Done.step (fun t q => XT.lcmp X.here hx rfl (hb hby hd0) rfl (XS.ifNo X.here hx rfl (hb hby hd) rfl (XT.ll_ne_f h) q)) (kf h T locs real X N S A L)
  · exact Done.step (fun t q => XT.lcmp X.here hx rfl (hb hby hd0) rfl (XS.ifYes X.here hx rfl (pc0 := pc + 1) rfl (hb hby hd) rfl (XT.ll_ne_t h) ho ht q)) (kt h T locs real X N S A L)
theorem g_icmp_lt {x y : Int32} {o : Int} {pc1 : Nat} (O : Ok G K own bytes maxL ret R mn kc ks) (hd : decode bytes pc = .ok (.if_icmp .lt o, 3)) (hp : pc + 3 = pc') (ho : 0 ≤ (pc : Int) + o) (ht : ((pc : Int) + o).toNat = pc1)
    (kt : x < y → Run G K rv Hf pc1 Ls st H cells slots) (kf : ¬ x < y → Run G K rv Hf pc' Ls st H cells slots) : Run G K rv Hf pc Ls (.int y :: .int x :: st) H cells slots := by
  obtain ⟨l, Z, a0, n⟩ := G; obtain ⟨p, e, R', s, m, args, below, meth, c, kc', ks'⟩ := K
  obtain ⟨hx, hZ, hown, hby, hml, hret, hlk, rfl, hnm, rfl, rfl, hw⟩ := O
  subst hp
  intro T locs real X N S A L
  by_cases h : x < y
  · exact Done.step (fun t q => XS.icmpYes X.here hx rfl (pc0 := pc) rfl (hb hby hd) rfl (XT.ii_lt_t h) ho ht q) (kt h T locs real X N S A L)
  · exact Done.step (fun t q => XS.icmpNo X.here hx rfl (hb hby hd) rfl (XT.ii_lt_f h) q) (kf h T locs real X N S A L)
theorem g_if_lt {x : Int32} {o : Int} {pc1 : Nat} (O : Ok G K own bytes maxL ret R mn kc ks) (hd : decode bytes pc = .ok (.ifCond .lt o, 3)) (hp : pc + 3 = pc') (ho : 0 ≤ (pc : Int) + o) (ht : ((pc : Int) + o).toNat = pc1)
    (kt : x < 0 → Run G K rv Hf pc1 Ls st H cells slots) (kf : ¬ x < 0 → Run G K rv Hf pc' Ls st H cells slots) : Run G K rv Hf pc Ls (.int x :: st) H cells slots := by
  obtain ⟨l, Z, a0, n⟩ := G; obtain ⟨p, e, R', s, m, args, below, meth, c, kc', ks'⟩ := K
  obtain ⟨hx, hZ, hown, hby, hml, hret, hlk, rfl, hnm, rfl, rfl, hw⟩ := O
  subst hp
  intro T locs real X N S A L
  by_cases h : x < 0
  · exact Done.step (fun t q => XS.ifYes X.here hx rfl (pc0 := pc) rfl (hb hby hd) rfl (XT.i0_lt_t h) ho ht q) (kt h T locs real X N S A L)
  · exact Done.step (fun t q => XS.ifNo X.here hx rfl (hb hby hd) rfl (XT.i0_lt_f h) q) (kf h T locs real X N S A L)
theorem g_lcmp_lt {x y : Int64} {pq : Nat} {o : Int} {pc1 : Nat} (O : Ok G K own bytes maxL ret R mn kc ks) (hd0 : decode bytes pc = .ok (.lcmp, 1)) (hq : pc + 1 = pq) (hd : decode bytes pq = .ok (.ifCond .lt o, 3)) (hp : pq + 3 = pc') (ho : 0 ≤ (pq : Int) + o) (ht : ((pq : Int) + o).toNat = pc1)
    (kt : x < y → Run G K rv Hf pc1 Ls st H cells slots) (kf : ¬ x < y → Run G K rv Hf pc' Ls st H cells slots) : Run G K rv Hf pc Ls (.long y :: .long x :: st) H cells slots := by
  obtain ⟨l, Z, a0, n⟩ := G; obtain ⟨p, e, R', s, m, args, below, meth, c, kc', ks'⟩ := K
  obtain ⟨hx, hZ, hown, hby, hml, hret, hlk, rfl, hnm, rfl, rfl, hw⟩ := O
  subst hq
  subst hp
  intro T locs real X N S A L
  by_cases h : x < y
  · exact Done.step (fun t q => XT.lcmp X.here hx rfl (hb hby hd0) rfl (XS.ifYes X.here hx rfl (pc0 := pc + 1) rfl (hb hby hd) rfl (XT.ll_lt_t h) ho ht q)) (kt h T locs real X N S A L)
  · exact Done.step (fun t q => XT.lcmp X.here hx rfl (hb hby hd0) rfl (XS.ifNo X.here hx rfl (hb hby hd) rfl (XT.ll_lt_f h) q)) (kf h T locs real X N S A L)
theorem g_icmp_ge {x y : Int32} {o : Int} {pc1 : Nat} (O : Ok G K own bytes maxL ret R mn kc ks) (hd : decode bytes pc = .ok (.if_icmp .ge o, 3)) (hp : pc + 3 = pc') (ho : 0 ≤ (pc : Int) + o) (ht : ((pc : Int) + o).toNat = pc1)
    (kt : ¬ x < y → Run G K rv Hf pc1 Ls st H cells slots) (kf : x < y → Run G K rv Hf pc' Ls st H cells slots) : Run G K rv Hf pc Ls (.int y :: .int x :: st) H cells slots := by
  obtain ⟨l, Z, a0, n⟩ := G; obtain ⟨p, e, R', s, m, args, below, meth, c, kc', ks'⟩ := K
  obtain ⟨hx, hZ, hown, hby, hml, hret, hlk, rfl, hnm, rfl, rfl, hw⟩ := O
  subst hp
  intro T locs real X N S A L
  by_cases h : x < y
  · exact Done.step (fun t q => XS.icmpNo X.here hx rfl (hb hby hd) rfl (XT.ii_ge_f h) q) (kf h T locs real X N S A L)
  · exact Done.step (fun t q => XS.icmpYes X.here hx rfl (pc0 := pc) rfl (hb hby hd) rfl (XT.ii_ge_t h) ho ht q) (kt h T locs real X N S A L)
theorem g_if_ge {x : Int32} {o : Int} {pc1 : Nat} (O : Ok G K own bytes maxL ret R mn kc ks) (hd : decode bytes pc = .ok (.ifCond .ge o, 3)) (hp : pc + 3 = pc') (ho : 0 ≤ (pc : Int) + o) (ht : ((pc : Int) + o).toNat = pc1)
    (kt : ¬ x < 0 → Run G K rv Hf pc1 Ls st H cells slots) (kf : x < 0 → Run G K rv Hf pc' Ls st H cells slots) : Run G K rv Hf pc Ls (.int x :: st) H cells slots := by
  obtain ⟨l, Z, a0, n⟩ := G; obtain ⟨p, e, R', s, m, args, below, meth, c, kc', ks'⟩ := K
  obtain ⟨hx, hZ, hown, hby, hml, hret, hlk, rfl, hnm, rfl, rfl, hw⟩ := O
  subst hp
  intro T locs real X N S A L
  by_cases h : x < 0
  · exact Done.step (fun t q => XS.ifNo X.here hx rfl (hb hby hd) rfl (XT.i0_ge_f h) q) (kf h T locs real X N S A L)
  · exact Done.step (fun t q => XS.ifYes X.here hx rfl (pc0 := pc) rfl (hb hby hd) rfl (XT.i0_ge_t h) ho ht q) (kt h T locs real X N S A L)
theorem g_lcmp_ge {x y : Int64} {pq : Nat} {o : Int} {pc1 : Nat} (O : Ok G K own bytes maxL ret R mn kc ks) (hd0 : decode bytes pc = .ok (.lcmp, 1)) (hq : pc + 1 = pq) (hd : decode bytes pq = .ok (.ifCond .ge o, 3)) (hp : pq + 3 = pc') (ho : 0 ≤ (pq : Int) + o) (ht : ((pq : Int) + o).toNat = pc1)
    (kt : ¬ x < y → Run G K rv Hf pc1 Ls st H cells slots) (kf : x < y → Run G K rv Hf pc' Ls st H cells slots) : Run G K rv Hf pc Ls (.long y :: .long x :: st) H cells slots := by
  obtain ⟨l, Z, a0, n⟩ := G; obtain ⟨p, e, R', s, m, args, below, meth, c, kc', ks'⟩ := K
  obtain ⟨hx, hZ, hown, hby, hml, hret, hlk, rfl, hnm, rfl, rfl, hw⟩ := O
  subst hq
  subst hp
  intro T locs real X N S A L
  by_cases h : x < y
  · exact Done.step (fun t q => XT.lcmp X.here hx rfl (hb hby hd0) rfl (XS.ifNo X.here hx rfl (hb hby hd) rfl (XT.ll_ge_f h) q)) (kf h T locs real X N S A L)
  · exact Done.step (fun t q => XT.lcmp X.here hx rfl (hb hby hd0) rfl (XS.ifYes X.here hx rfl (pc0 := pc + 1) rfl (hb hby hd) rfl (XT.ll_ge_t h) ho ht q)) (kt h T locs real X N S A L)
theorem g_icmp_gt {x y : Int32} {o : Int} {pc1 : Nat} (O : Ok G K own bytes maxL ret R mn kc ks) (hd : decode bytes pc = .ok (.if_icmp .gt o, 3)) (hp : pc + 3 = pc') (ho : 0 ≤ (pc : Int) + o) (ht : ((pc : Int) + o).toNat = pc1)
    (kt : y < x → Run G K rv Hf pc1 Ls st H cells slots) (kf : ¬ y < x → Run G K rv Hf pc' Ls st H cells slots) : Run G K rv Hf pc Ls (.int y :: .int x :: st) H cells slots := by
  obtain ⟨l, Z, a0, n⟩ := G; obtain ⟨p, e, R', s, m, args, below, meth, c, kc', ks'⟩ := K
  obtain ⟨hx, hZ, hown, hby, hml, hret, hlk, rfl, hnm, rfl, rfl, hw⟩ := O
  subst hp
  intro T locs real X N S A L
  by_cases h : y < x
  · exact Done.step (fun t q => XS.icmpYes X.here hx rfl (pc0 := pc) rfl (hb hby hd) rfl (XT.ii_gt_t h) ho ht q) (kt h T locs real X N S A L)
  · exact Done.step (fun t q => XS.icmpNo X.here hx rfl (hb hby hd) rfl (XT.ii_gt_f h) q) (kf h T locs real X N S A L)
theorem g_if_gt {x : Int32} {o : Int} {pc1 : Nat} (O : Ok G K own bytes maxL ret R mn kc ks) (hd : decode bytes pc = .ok (.ifCond .gt o, 3)) (hp : pc + 3 = pc') (ho : 0 ≤ (pc : Int) + o) (ht : ((pc : Int) + o).toNat = pc1)
    (kt : 0 < x → Run G K rv Hf pc1 Ls st H cells slots) (kf : ¬ 0 < x → Run G K rv Hf pc' Ls st H cells slots) : Run G K rv Hf pc Ls (.int x :: st) H cells slots := by
  obtain ⟨l, Z, a0, n⟩ := G; obtain ⟨p, e, R', s, m, args, below, meth, c, kc', ks'⟩ := K
  obtain ⟨hx, hZ, hown, hby, hml, hret, hlk, rfl, hnm, rfl, rfl, hw⟩ := O
  subst hp
  intro T locs real X N S A L
  by_cases h : 0 < x
  · exact Done.step (fun t q => XS.ifYes X.here hx rfl (pc0 := pc) rfl (hb hby hd) rfl (XT.i0_gt_t h) ho ht q) (kt h T locs real X N S A L)
  · exact Done.step (fun t q => XS.ifNo X.here hx rfl (hb hby hd) rfl (XT.i0_gt_f h) q) (kf h T locs real X N S A L)
theorem g_lcmp_gt {x y : Int64} {pq : Nat} {o : Int} {pc1 : Nat} (O : Ok G K own bytes maxL ret R mn kc ks) (hd0 : decode bytes pc = .ok (.lcmp, 1)) (hq : pc + 1 = pq) (hd : decode bytes pq = .ok (.ifCond .gt o, 3)) (hp : pq + 3 = pc') (ho : 0 ≤ (pq : Int) + o) (ht : ((pq : Int) + o).toNat = pc1)
    (kt : y < x → Run G K rv Hf pc1 Ls st H cells slots) (kf : ¬ y < x → Run G K rv Hf pc' Ls st H cells slots) : Run G K rv Hf pc Ls (.long y :: .long x :: st) H cells slots := by
  obtain ⟨l, Z, a0, n⟩ := G; obtain ⟨p, e, R', s, m, args, below, meth, c, kc', ks'⟩ := K
  obtain ⟨hx, hZ, hown, hby, hml, hret, hlk, rfl, hnm, rfl, rfl, hw⟩ := O
  subst hq
  subst hp
  intro T locs real X N S A L
  by_cases h : y < x
  · exact Done.step (fun t q => XT.lcmp X.here hx rfl (hb hby hd0) rfl (XS.ifYes X.here hx rfl (pc0 := pc + 1) rfl (hb hby hd) rfl (XT.ll_gt_t h) ho ht q)) (kt h T locs real X N S A L)
  · exact Done.step (fun t q => XT.lcmp X.here hx rfl (hb hby hd0) rfl (XS.ifNo X.here hx rfl (hb hby hd) rfl (XT.ll_gt_f h) q)) (kf h T locs real X N S A L)
theorem g_icmp_le {x y : Int32} {o : Int} {pc1 : Nat} (O : Ok G K own bytes maxL ret R mn kc ks) (hd : decode bytes pc = .ok (.if_icmp .le o, 3)) (hp : pc + 3 = pc') (ho : 0 ≤ (pc : Int) + o) (ht : ((pc : Int) + o).toNat = pc1)
    (kt : ¬ y < x → Run G K rv Hf pc1 Ls st H cells slots) (kf : y < x → Run G K rv Hf pc' Ls st H cells slots) : Run G K rv Hf pc Ls (.int y :: .int x :: st) H cells slots := by
  obtain ⟨l, Z, a0, n⟩ := G; obtain ⟨p, e, R', s, m, args, below, meth, c, kc', ks'⟩ := K
  obtain ⟨hx, hZ, hown, hby, hml, hret, hlk, rfl, hnm, rfl, rfl, hw⟩ := O
  subst hp
  intro T locs real X N S A L
  by_cases h : y < x
  · exact Done.step (fun t q => XS.icmpNo X.here hx rfl (hb hby hd) rfl (XT.ii_le_f h) q) (kf h T locs real X N S A L)
  · exact Done.step (fun t q => XS.icmpYes X.here hx rfl (pc0 := pc) rfl (hb hby hd) rfl (XT.ii_le_t h) ho ht q) (kt h T locs real X N S A L)
theorem g_if_le {x : Int32} {o : Int} {pc1 : Nat} (O : Ok G K own bytes maxL ret R mn kc ks) (hd : decode bytes pc = .ok (.ifCond .le o, 3)) (hp : pc + 3 = pc') (ho : 0 ≤ (pc : Int) + o) (ht : ((pc : Int) + o).toNat = pc1)
    (kt : ¬ 0 < x → Run G K rv Hf pc1 Ls st H cells slots) (kf : 0 < x → Run G K rv Hf pc' Ls st H cells slots) : Run G K rv Hf pc Ls (.int x :: st) H cells slots := by
  obtain ⟨l, Z, a0, n⟩ := G; obtain ⟨p, e, R', s, m, args, below, meth, c, kc', ks'⟩ := K
  obtain ⟨hx, hZ, hown, hby, hml, hret, hlk, rfl, hnm, rfl, rfl, hw⟩ := O
  subst hp
  intro T locs real X N S A L
  by_cases h : 0 < x
  · exact Done.step (fun t q => XS.ifNo X.here hx rfl (hb hby hd) rfl (XT.i0_le_f h) q) (kf h T locs real X N S A L)
  · exact Done.step (fun t q => XS.ifYes X.here hx rfl (pc0 := pc) rfl (hb hby hd) rfl (XT.i0_le_t h) ho ht q) (kt h T locs real X N S A L)
theorem g_lcmp_le {x y : Int64} {pq : Nat} {o : Int} {pc1 : Nat} (O : Ok G K own bytes maxL ret R mn kc ks) (hd0 : decode bytes pc = .ok (.lcmp, 1)) (hq : pc + 1 = pq) (hd : decode bytes pq = .ok (.ifCond .le o, 3)) (hp : pq + 3 = pc') (ho : 0 ≤ (pq : Int) + o) (ht : ((pq : Int) + o).toNat = pc1)
    (kt : ¬ y < x → Run G K rv Hf pc1 Ls st H cells slots) (kf : y < x → Run G K rv Hf pc' Ls st H cells slots) : Run G K rv Hf pc Ls (.long y :: .long x :: st) H cells slots := by
  obtain ⟨l, Z, a0, n⟩ := G; obtain ⟨p, e, R', s, m, args, below, meth, c, kc', ks'⟩ := K
  obtain ⟨hx, hZ, hown, hby, hml, hret, hlk, rfl, hnm, rfl, rfl, hw⟩ := O
  subst hq
  subst hp
  intro T locs real X N S A L
  by_cases h : y < x
  · exact Done.step (fun t q => XT.lcmp X.here hx rfl (hb hby hd0) rfl (XS.ifNo X.here hx rfl (hb hby hd) rfl (XT.ll_le_f h) q)) (kf h T locs real X N S A L)
  · exact Done.step (fun t q => XT.lcmp X.here hx rfl (hb hby hd0) rfl (XS.ifYes X.here hx rfl (pc0 := pc + 1) rfl (hb hby hd) rfl (XT.ll_le_t h) ho ht q)) (kt h T locs real X N S A L)
/-! reading and writing the heap, in the model -/
def arr (ty : FieldType) (H : List Obj) (i : Nat) : Option (List Value) := match H[i]? with
  | some (.inl (t, vs)) => if t = ty then some vs else none
  | _ => none
def rd (ty : FieldType) (H : List Obj) (i : Nat) (j : Int32) : Option Value := (arr ty H i).bind fun vs => if j < 0 then none else vs[j.toNatClampNeg]?
def getI : Value → Option Int32
  | .int x => some x
  | _ => none
def getJ : Value → Option Int64
  | .long x => some x
  | _ => none
def getA : Value → Option Nat
  | .ref x => some x
  | _ => none
def rdI (ty : FieldType) (H : List Obj) (i : Nat) (j : Int32) : Option Int32 := (rd ty H i j).bind getI
def rdJ (H : List Obj) (i : Nat) (j : Int32) : Option Int64 := (rd .long H i j).bind getJ
def wr (ty : FieldType) (H : List Obj) (i : Nat) (j : Int32) (v : Value) : Option (List Obj) := (arr ty H i).bind fun vs => if j < 0 ∨ vs.length ≤ j.toNatClampNeg then none else some (H.set i (.inl (ty, vs.set j.toNatClampNeg v)))
def alen (H : List Obj) (i : Nat) : Option Int32 := match H[i]? with
  | some (.inl (_, vs)) => some vs.length.toInt32
  | _ => none
def mkArr (ty : FieldType) (cap : Nat) (H : List Obj) (j : Int32) : Option (List Obj) := if j < 0 ∨ cap < j.toNatClampNeg then none else some (H ++ [.inl (ty, List.replicate j.toNatClampNeg (defaultValue ty))])
def obj (t : Nat) (H : List Obj) (i : Nat) : Option (List Value) := match H[i]? with
  | some (.inr (t', vs)) => if t' = t then some vs else none
  | _ => none
def fld (t k : Nat) (H : List Obj) (i : Nat) : Option Value := (obj t H i).bind fun vs => vs[k]?
def fldI (t k : Nat) (H : List Obj) (i : Nat) : Option Int32 := (fld t k H i).bind getI
def fldJ (t k : Nat) (H : List Obj) (i : Nat) : Option Int64 := (fld t k H i).bind getJ
def fldA (t k : Nat) (H : List Obj) (i : Nat) : Option Nat := (fld t k H i).bind getA
def setF (t k : Nat) (H : List Obj) (i : Nat) (v : Value) : Option (List Obj) := (obj t H i).bind fun vs => if k < vs.length then some (H.set i (.inr (t, vs.set k v))) else none
theorem getI_e {v : Value} {x : Int32} (h : getI v = some x) : v = .int x := by cases v <;> simp [getI] at h; rw [h]
theorem getJ_e {v : Value} {x : Int64} (h : getJ v = some x) : v = .long x := by cases v <;> simp [getJ] at h; rw [h]
theorem getA_e {v : Value} {x : Nat} (h : getA v = some x) : v = .ref x := by cases v <;> simp [getA] at h; rw [h]
theorem rdI_e {ty : FieldType} {i : Nat} {j x : Int32} (h : rdI ty H i j = some x) : rd ty H i j = some (.int x) := by
  obtain ⟨v, h1, h2⟩ := Option.bind_eq_some_iff.mp h; rw [h1, getI_e h2]
theorem rdJ_e {i : Nat} {j : Int32} {x : Int64} (h : rdJ H i j = some x) : rd .long H i j = some (.long x) := by
  obtain ⟨v, h1, h2⟩ := Option.bind_eq_some_iff.mp h; rw [h1, getJ_e h2]
theorem fldI_e {t k i : Nat} {x : Int32} (h : fldI t k H i = some x) : fld t k H i = some (.int x) := by
  obtain ⟨v, h1, h2⟩ := Option.bind_eq_some_iff.mp h; rw [h1, getI_e h2]
theorem fldJ_e {t k i : Nat} {x : Int64} (h : fldJ t k H i = some x) : fld t k H i = some (.long x) := by
  obtain ⟨v, h1, h2⟩ := Option.bind_eq_some_iff.mp h; rw [h1, getJ_e h2]
theorem fldA_e {t k i x : Nat} (h : fldA t k H i = some x) : fld t k H i = some (.ref x) := by
  obtain ⟨v, h1, h2⟩ := Option.bind_eq_some_iff.mp h; rw [h1, getA_e h2]
theorem arr_e {ty : FieldType} {i : Nat} {vs : List Value} (h : arr ty H i = some vs) : H[i]? = some (.inl (ty, vs)) := by
  unfold arr at h; split at h
  · rename_i t us hh; split at h
    · rename_i e; cases h; rw [hh, e]
    · cases h
  · cases h
theorem obj_e {t i : Nat} {vs : List Value} (h : obj t H i = some vs) : H[i]? = some (.inr (t, vs)) := by
  unfold obj at h; split at h
  · rename_i t us hh; split at h
    · rename_i e; cases h; rw [hh, e]
    · cases h
  · cases h
theorem sim_arr {h : Heap} {ty : FieldType} {i : Nat} {vs : List Value} (S : Sim G H h) (e : arr ty H i = some vs) : ∃ c : Cell, Arr G.2.1 h (G.2.2.2 + i) c ty ∧ c.slots = (vs.map (sh G.2.2.2)).toArray := (S.2 i _ (arr_e e)).2
theorem sim_obj {h : Heap} {t i : Nat} {vs : List Value} (S : Sim G H h) (e : obj t H i = some vs) : Exa G.2.1 h (G.2.2.2 + i) (lay t).1 ∧ vs.length = (lay t).2.length ∧ ∀ (k : Nat) (nd : String × String) (v : Value), (lay t).2[k]? = some nd → vs[k]? = some v → Fld G.2.1 h (G.2.2.2 + i) (lay t).1 nd.1 nd.2 (sh G.2.2.2 v) := S.2 i _ (obj_e e)
theorem sim_ext {h h' : Heap} {o : Obj} (S : Sim G H h) (E : Ext h h') (hs : h'.size = h.size + 1) (ho : ObjOk G.2.1 G.2.2.2 h' h.size o) : Sim G (H ++ [o]) h' := by
  refine ⟨by rw [hs, S.1, List.length_append]; rfl, fun i q hq => ?_⟩
  by_cases hi : i < H.length
  · rw [List.getElem?_append_left hi] at hq
    have r := S.2 i q hq
    rcases q with ⟨ty, vs⟩ | ⟨t, vs⟩
    · obtain ⟨X, c, A, r⟩ := r; exact ⟨X.ext E, c, A.ext E, r⟩
    · obtain ⟨X, l, F⟩ := r; exact ⟨X.ext E, l, fun k nd v h1 h2 => (F k nd v h1 h2).ext E⟩
  · rw [List.getElem?_append_right (Nat.le_of_not_lt hi)] at hq
    have : i - H.length = 0 := by
      have := (List.getElem?_eq_some_iff.mp hq).1; simp at this; omega
    rw [this] at hq
    cases hq
    have : G.2.2.2 + i = h.size := by rw [S.1]; have := Nat.le_of_not_lt hi; omega
    rw [this]; exact ho
theorem sim_wr {h h' : Heap} {ty : FieldType} {i j : Nat} {vs : List Value} {v : Value} (S : Sim G H h) (e : arr ty H i = some vs) (W : Wr h h' (G.2.2.2 + i) j (sh G.2.2.2 v)) : Sim G (H.set i (.inl (ty, vs.set j v))) h' := by
  refine ⟨by rw [W.size, S.1, List.length_set], fun i' q hq => ?_⟩
  have hlt := (List.getElem?_eq_some_iff.mp (arr_e e)).1
  by_cases hi : i = i'
  · subst hi
    rw [List.getElem?_set_self hlt] at hq
    cases hq
    obtain ⟨X, c, A, r⟩ := S.2 i _ (arr_e e)
    exact ⟨X.wr W, _, A.same W, by simp [Cell.setSlot, r, List.map_set]⟩
  · rw [List.getElem?_set_ne hi] at hq
    have r := S.2 i' q hq
    have ne : G.2.2.2 + i' ≠ G.2.2.2 + i := by omega
    rcases q with ⟨ty, vs⟩ | ⟨t, vs⟩
    · obtain ⟨X, c, A, r⟩ := r; exact ⟨X.wr W, c, A.other W ne, r⟩
    · obtain ⟨X, l, F⟩ := r; exact ⟨X.wr W, l, fun k nd v h1 h2 => (F k nd v h1 h2).other W (Or.inl ne)⟩
theorem lay_slot {Z : State} {a0 : Array Value} (hw : ∀ d ∈ tables_1, d.before a0 Z = true) {t k k' : Nat} {nd nd' : String × String} (h1 : (lay t).2[k]? = some nd) (h2 : (lay t).2[k']? = some nd') (ne : k ≠ k') : Jvm.RoadKit.slotOf Z (lay t).1 nd.1 nd.2 ≠ Jvm.RoadKit.slotOf Z (lay t).1 nd'.1 nd'.2 := by
  obtain ⟨t1, p1⟩ := lay_parse t nd (List.mem_of_getElem? h1)
  obtain ⟨t2, p2⟩ := lay_parse t nd' (List.mem_of_getElem? h2)
  exact slot_ne (C := (lay t).1) (a0 := a0) ((lay_word t nd (List.mem_of_getElem? h1)).imp (hw _) (hw _)) ((lay_word t nd' (List.mem_of_getElem? h2)).imp (hw _) (hw _)) (lay_names t k k' nd nd' h1 h2 ne) p1 p2
theorem sim_put {h h' : Heap} {t i k : Nat} {nd : String × String} {vs : List Value} {v : Value} (hw : ∀ d ∈ tables_1, d.before G.2.2.1 G.2.1 = true) (S : Sim G H h) (e : obj t H i = some vs) (hk : (lay t).2[k]? = some nd) (W : Wr h h' (G.2.2.2 + i) (Jvm.RoadKit.slotOf G.2.1 (lay t).1 nd.1 nd.2) (sh G.2.2.2 v)) : Sim G (H.set i (.inr (t, vs.set k v))) h' := by
  refine ⟨by rw [W.size, S.1, List.length_set], fun i' q hq => ?_⟩
  have hlt := (List.getElem?_eq_some_iff.mp (obj_e e)).1
  by_cases hi : i = i'
  · subst hi
    rw [List.getElem?_set_self hlt] at hq
    cases hq
    obtain ⟨X, l, F⟩ := S.2 i _ (obj_e e)
    refine ⟨X.wr W, by rw [List.length_set]; exact l, fun k' nd' v' h1 h2 => ?_⟩
    have hkl : k < vs.length := by rw [l]; exact (List.getElem?_eq_some_iff.mp hk).1
    by_cases ek : k = k'
    · subst ek
      rw [List.getElem?_set_self hkl] at h2
      cases h2
      cases hk.symm.trans h1
      exact (F k nd _ hk (List.getElem?_eq_getElem hkl)).same W
    · rw [List.getElem?_set_ne ek] at h2
      exact (F k' nd' v' h1 h2).other W (Or.inr (lay_slot hw h1 hk (Ne.symm ek)))
  · rw [List.getElem?_set_ne hi] at hq
    have r := S.2 i' q hq
    have ne : G.2.2.2 + i' ≠ G.2.2.2 + i := by omega
    rcases q with ⟨ty, vs⟩ | ⟨t, vs⟩
    · obtain ⟨X, c, A, r⟩ := r; exact ⟨X.wr W, c, A.other W ne, r⟩
    · obtain ⟨X, l, F⟩ := r; exact ⟨X.wr W, l, fun k nd v h1 h2 => (F k nd v h1 h2).other W (Or.inl ne)⟩
/-! the steps that read the tables or the heap -/
theorem g_ldc {ix : Nat} {v : Int32} (O : Ok G K own bytes maxL ret R mn kc ks) (hd : decode bytes pc = .ok (.ldc ix, 2)) (w : Jvm.Cond.constant own ix v ∈ tables_1) (hp : pc + 2 = pc')
    (k : Run G K rv Hf pc' Ls (.int v :: st) H cells slots) : Run G K rv Hf pc Ls st H cells slots := by
  obtain ⟨l, Z, a0, n⟩ := G; obtain ⟨p, e, R', s, m, args, below, meth, c, kc', ks'⟩ := K
  obtain ⟨hx, hZ, hown, hby, hml, hret, hlk, rfl, hnm, rfl, rfl, hw⟩ := O
  subst hp
  intro T locs real X N S A L
  exact Done.step (fun t q => X.ldcI hx hown (mv hZ (hw _ w)) rfl (hb hby hd) q) (k T locs real X N S A L)
theorem g_ldc2 {ix : Nat} {v : Int64} (O : Ok G K own bytes maxL ret R mn kc ks) (hd : decode bytes pc = .ok (.ldc2_w ix, 3)) (w : Jvm.Cond.constantLong own ix v ∈ tables_1) (hp : pc + 3 = pc')
    (k : Run G K rv Hf pc' Ls (.long v :: st) H cells slots) : Run G K rv Hf pc Ls st H cells slots := by
  obtain ⟨l, Z, a0, n⟩ := G; obtain ⟨p, e, R', s, m, args, below, meth, c, kc', ks'⟩ := K
  obtain ⟨hx, hZ, hown, hby, hml, hret, hlk, rfl, hnm, rfl, rfl, hw⟩ := O
  subst hp
  intro T locs real X N S A L
  exact Done.step (fun t q => X.ldc2J hx hown (mv hZ (hw _ w)) rfl (hb hby hd) q) (k T locs real X N S A L)
theorem rd_e {ty : FieldType} {i : Nat} {j : Int32} {v : Value} (h : rd ty H i j = some v) : ∃ vs, arr ty H i = some vs ∧ ¬ j < 0 ∧ vs[j.toNatClampNeg]? = some v := by
  obtain ⟨vs, h1, h2⟩ := Option.bind_eq_some_iff.mp h
  split at h2
  · cases h2
  · exact ⟨vs, h1, by assumption, h2⟩
theorem inb_sl {c : Cell} {vs : List Value} {n : Nat} {j : Int32} {v : Value} (e : c.slots = (vs.map (sh n)).toArray) (h0 : ¬ j < 0) (h : vs[j.toNatClampNeg]? = some v) : ¬ (j < 0 ∨ c.slots.size ≤ j.toNatClampNeg) ∧ c.slots[j.toNatClampNeg]? = some (sh n v) := by
  have := (List.getElem?_eq_some_iff.mp h).1
  refine ⟨fun q => q.elim h0 (fun q => by rw [e] at q; simp at q; omega), by rw [e]; simp [h]⟩
theorem g_iaload {i : Nat} {j : Int32} {v : Int32} (O : Ok G K own bytes maxL ret R mn kc ks) (hd : decode bytes pc = .ok (.iaload, 1)) (hr : rdI .int H i j = some v) (hp : pc + 1 = pc')
    (k : Run G K rv Hf pc' Ls (.int v :: st) H cells slots) : Run G K rv Hf pc Ls (.int j :: .ref i :: st) H cells slots := by
  obtain ⟨l, Z, a0, n⟩ := G; obtain ⟨p, e, R', s, m, args, below, meth, c, kc', ks'⟩ := K
  obtain ⟨hx, hZ, hown, hby, hml, hret, hlk, rfl, hnm, rfl, rfl, hw⟩ := O
  subst hp
  intro T locs real X N S A L
  obtain ⟨vs, h1, h2, h3⟩ := rd_e (rdI_e hr)
  obtain ⟨cl, B, es⟩ := sim_arr S h1
  obtain ⟨q1, q2⟩ := inb_sl es h2 h3
  exact Done.step (fun t q => X.iaload hx B.1 (State.isArrayOf_alike hZ.alike B.2.1) B.2.2 q1 q2 (g := mkF m pc real ((.int j :: .ref i :: st).map (sh n))) rfl rfl (hb hby hd) t q) (k T locs real X N S A L)
theorem g_caload {i : Nat} {j : Int32} {v : Int32} (O : Ok G K own bytes maxL ret R mn kc ks) (hd : decode bytes pc = .ok (.caload, 1)) (hr : rdI .char H i j = some v) (hp : pc + 1 = pc')
    (k : Run G K rv Hf pc' Ls (.int v :: st) H cells slots) : Run G K rv Hf pc Ls (.int j :: .ref i :: st) H cells slots := by
  obtain ⟨l, Z, a0, n⟩ := G; obtain ⟨p, e, R', s, m, args, below, meth, c, kc', ks'⟩ := K
  obtain ⟨hx, hZ, hown, hby, hml, hret, hlk, rfl, hnm, rfl, rfl, hw⟩ := O
  subst hp
  intro T locs real X N S A L
  obtain ⟨vs, h1, h2, h3⟩ := rd_e (rdI_e hr)
  obtain ⟨cl, B, es⟩ := sim_arr S h1
  obtain ⟨q1, q2⟩ := inb_sl es h2 h3
  exact Done.step (fun t q => X.caload hx B.1 (State.isArrayOf_alike hZ.alike B.2.1) B.2.2 q1 q2 (g := mkF m pc real ((.int j :: .ref i :: st).map (sh n))) rfl rfl (hb hby hd) t q) (k T locs real X N S A L)
theorem g_baload {i : Nat} {j : Int32} {v : Int32} (O : Ok G K own bytes maxL ret R mn kc ks) (hd : decode bytes pc = .ok (.baload, 1)) (hr : rdI .byte H i j = some v) (hp : pc + 1 = pc')
    (k : Run G K rv Hf pc' Ls (.int v :: st) H cells slots) : Run G K rv Hf pc Ls (.int j :: .ref i :: st) H cells slots := by
  obtain ⟨l, Z, a0, n⟩ := G; obtain ⟨p, e, R', s, m, args, below, meth, c, kc', ks'⟩ := K
  obtain ⟨hx, hZ, hown, hby, hml, hret, hlk, rfl, hnm, rfl, rfl, hw⟩ := O
  subst hp
  intro T locs real X N S A L
  obtain ⟨vs, h1, h2, h3⟩ := rd_e (rdI_e hr)
  obtain ⟨cl, B, es⟩ := sim_arr S h1
  obtain ⟨q1, q2⟩ := inb_sl es h2 h3
  exact Done.step (fun t q => X.baloadBytes hx B.1 (State.isArrayOf_alike hZ.alike B.2.1) B.2.2 q1 q2 (g := mkF m pc real ((.int j :: .ref i :: st).map (sh n))) rfl rfl (hb hby hd) t q) (k T locs real X N S A L)
theorem g_laload {i : Nat} {j : Int32} {v : Int64} (O : Ok G K own bytes maxL ret R mn kc ks) (hd : decode bytes pc = .ok (.laload, 1)) (hr : rdJ H i j = some v) (hp : pc + 1 = pc')
    (k : Run G K rv Hf pc' Ls (.long v :: st) H cells slots) : Run G K rv Hf pc Ls (.int j :: .ref i :: st) H cells slots := by
  obtain ⟨l, Z, a0, n⟩ := G; obtain ⟨p, e, R', s, m, args, below, meth, c, kc', ks'⟩ := K
  obtain ⟨hx, hZ, hown, hby, hml, hret, hlk, rfl, hnm, rfl, rfl, hw⟩ := O
  subst hp
  intro T locs real X N S A L
  obtain ⟨vs, h1, h2, h3⟩ := rd_e (rdJ_e hr)
  obtain ⟨cl, B, es⟩ := sim_arr S h1
  obtain ⟨q1, q2⟩ := inb_sl es h2 h3
  exact Done.step (fun t q => X.laload hx B.1 (State.isArrayOf_alike hZ.alike B.2.1) B.2.2 q1 q2 (g := mkF m pc real ((.int j :: .ref i :: st).map (sh n))) rfl rfl (hb hby hd) t q) (k T locs real X N S A L)
theorem g_arraylength {i : Nat} {v : Int32} (O : Ok G K own bytes maxL ret R mn kc ks) (hd : decode bytes pc = .ok (.arraylength, 1)) (hr : alen H i = some v) (hp : pc + 1 = pc')
    (k : Run G K rv Hf pc' Ls (.int v :: st) H cells slots) : Run G K rv Hf pc Ls (.ref i :: st) H cells slots := by
  obtain ⟨l, Z, a0, n⟩ := G; obtain ⟨p, e, R', s, m, args, below, meth, c, kc', ks'⟩ := K
  obtain ⟨hx, hZ, hown, hby, hml, hret, hlk, rfl, hnm, rfl, rfl, hw⟩ := O
  subst hp
  intro T locs real X N S A L
  unfold alen at hr
  split at hr
  · rename_i ty vs hh
    cases hr
    obtain ⟨-, cl, B, es⟩ := S.2 i _ hh
    have q1 : cl.slots.size = vs.length := by rw [es]; simp
    exact Done.step (fun t q => X.arraylength hx B.1 (State.isArrayOf_alike hZ.alike B.2.1) (g := mkF m pc real ((.ref i :: st).map (sh n))) rfl rfl (hb hby hd) t (by rw [q1]; exact q)) (k T locs real X N S A L)
  · cases hr
theorem wr_e {ty : FieldType} {i : Nat} {j : Int32} {v : Value} {H' : List Obj} (h : wr ty H i j v = some H') : ∃ vs, arr ty H i = some vs ∧ ¬ (j < 0 ∨ vs.length ≤ j.toNatClampNeg) ∧ H' = H.set i (.inl (ty, vs.set j.toNatClampNeg v)) := by
  obtain ⟨vs, h1, h2⟩ := Option.bind_eq_some_iff.mp h
  split at h2
  · cases h2
  · cases h2; exact ⟨vs, h1, by assumption, rfl⟩
theorem wr_len {ty : FieldType} {i : Nat} {j : Int32} {v : Value} {H' : List Obj} (h : wr ty H i j v = some H') : H'.length = H.length := by
  obtain ⟨vs, -, -, rfl⟩ := wr_e h; simp
theorem sl_len {c : Cell} {vs : List Value} {n : Nat} (e : c.slots = (vs.map (sh n)).toArray) : c.slots.size = vs.length := by rw [e]; simp
theorem g_iastore {i : Nat} {j x : Int32} {H' : List Obj} (O : Ok G K own bytes maxL ret R mn kc ks) (hd : decode bytes pc = .ok (.iastore, 1)) (hr : wr .int H i j (.int x) = some H') (hp : pc + 1 = pc')
    (k : Run G K rv Hf pc' Ls st H' cells slots) : Run G K rv Hf pc Ls (.int x :: .int j :: .ref i :: st) H cells slots := by
  obtain ⟨l, Z, a0, n⟩ := G; obtain ⟨p, e, R', s, m, args, below, meth, c, kc', ks'⟩ := K
  obtain ⟨hx, hZ, hown, hby, hml, hret, hlk, rfl, hnm, rfl, rfl, hw⟩ := O
  subst hp
  intro T locs real X N S A L
  obtain ⟨vs, h1, h2, rfl⟩ := wr_e hr
  obtain ⟨cl, B, es⟩ := sim_arr S h1
  obtain ⟨T', h', X', e', W, stp⟩ := stI X hx hZ rfl B (j := j) (x := x) (by rw [sl_len es]; exact h2) (g := mkF m pc real ((.int x :: .int j :: .ref i :: st).map (sh n))) rfl rfl (hb hby hd)
  exact Done.step stp (k T' _ real X' (Fr.snoc X' N (Nat.le_add_right _ _)) (by rw [e']; exact sim_wr (v := .int x) S h1 W) (by simpa using A) L)
theorem g_lastore {i : Nat} {j : Int32} {x : Int64} {H' : List Obj} (O : Ok G K own bytes maxL ret R mn kc ks) (hd : decode bytes pc = .ok (.lastore, 1)) (hr : wr .long H i j (.long x) = some H') (hp : pc + 1 = pc')
    (k : Run G K rv Hf pc' Ls st H' cells slots) : Run G K rv Hf pc Ls (.long x :: .int j :: .ref i :: st) H cells slots := by
  obtain ⟨l, Z, a0, n⟩ := G; obtain ⟨p, e, R', s, m, args, below, meth, c, kc', ks'⟩ := K
  obtain ⟨hx, hZ, hown, hby, hml, hret, hlk, rfl, hnm, rfl, rfl, hw⟩ := O
  subst hp
  intro T locs real X N S A L
  obtain ⟨vs, h1, h2, rfl⟩ := wr_e hr
  obtain ⟨cl, B, es⟩ := sim_arr S h1
  obtain ⟨T', h', X', e', W, stp⟩ := stJ X hx hZ rfl B (j := j) (x := x) (by rw [sl_len es]; exact h2) (g := mkF m pc real ((.long x :: .int j :: .ref i :: st).map (sh n))) rfl rfl (hb hby hd)
  exact Done.step stp (k T' _ real X' (Fr.snoc X' N (Nat.le_add_right _ _)) (by rw [e']; exact sim_wr (v := .long x) S h1 W) (by simpa using A) L)
theorem g_bastore {i : Nat} {j x : Int32} {H' : List Obj} (O : Ok G K own bytes maxL ret R mn kc ks) (hd : decode bytes pc = .ok (.bastore, 1)) (hr : wr .byte H i j (.int (nar .byte x)) = some H') (hp : pc + 1 = pc')
    (k : Run G K rv Hf pc' Ls st H' cells slots) : Run G K rv Hf pc Ls (.int x :: .int j :: .ref i :: st) H cells slots := by
  obtain ⟨l, Z, a0, n⟩ := G; obtain ⟨p, e, R', s, m, args, below, meth, c, kc', ks'⟩ := K
  obtain ⟨hx, hZ, hown, hby, hml, hret, hlk, rfl, hnm, rfl, rfl, hw⟩ := O
  subst hp
  intro T locs real X N S A L
  obtain ⟨vs, h1, h2, rfl⟩ := wr_e hr
  obtain ⟨cl, B, es⟩ := sim_arr S h1
  obtain ⟨T', h', X', e', W, stp⟩ := stB X hx hZ rfl B (j := j) (x := x) (by rw [sl_len es]; exact h2) (g := mkF m pc real ((.int x :: .int j :: .ref i :: st).map (sh n))) rfl rfl (hb hby hd)
  exact Done.step stp (k T' _ real X' (Fr.snoc X' N (Nat.le_add_right _ _)) (by rw [e']; exact sim_wr (v := .int (nar .byte x)) S h1 W) (by simpa using A) L)
theorem g_castore {i : Nat} {j x : Int32} {H' : List Obj} (O : Ok G K own bytes maxL ret R mn kc ks) (hd : decode bytes pc = .ok (.castore, 1)) (hr : wr .char H i j (.int (nar .char x)) = some H') (hp : pc + 1 = pc')
    (k : Run G K rv Hf pc' Ls st H' cells slots) : Run G K rv Hf pc Ls (.int x :: .int j :: .ref i :: st) H cells slots := by
  obtain ⟨l, Z, a0, n⟩ := G; obtain ⟨p, e, R', s, m, args, below, meth, c, kc', ks'⟩ := K
  obtain ⟨hx, hZ, hown, hby, hml, hret, hlk, rfl, hnm, rfl, rfl, hw⟩ := O
  subst hp
  intro T locs real X N S A L
  obtain ⟨vs, h1, h2, rfl⟩ := wr_e hr
  obtain ⟨cl, B, es⟩ := sim_arr S h1
  obtain ⟨T', h', X', e', W, stp⟩ := stC X hx hZ rfl B (j := j) (x := x) (by rw [sl_len es]; exact h2) (g := mkF m pc real ((.int x :: .int j :: .ref i :: st).map (sh n))) rfl rfl (hb hby hd)
  exact Done.step stp (k T' _ real X' (Fr.snoc X' N (Nat.le_add_right _ _)) (by rw [e']; exact sim_wr (v := .int (nar .char x)) S h1 W) (by simpa using A) L)
theorem g_newarray {aty : ArrayType} {cap : Nat} {j : Int32} {H' : List Obj} (O : Ok G K own bytes maxL ret R mn kc ks) (hd : decode bytes pc = .ok (.newarray aty, 2)) (w : Jvm.Cond.arrayClass (newarray.typeOf aty) ∈ tables_1)
    (hr : mkArr (newarray.typeOf aty) cap H j = some H') (hb8 : cap * 8 ≤ 536870912) {c2 s2 : Nat} (hc2 : cells + 1 = c2) (hs2 : slots + cap = s2) (hc : c2 ≤ R.cells) (hs : s2 ≤ R.slots) (hp : pc + 2 = pc')
    (k : Run G K rv Hf pc' Ls (.ref H.length :: st) H' c2 s2) : Run G K rv Hf pc Ls (.int j :: st) H cells slots := by
  obtain ⟨l, Z, a0, n⟩ := G; obtain ⟨p, e, R', s, m, args, below, meth, c, kc', ks'⟩ := K
  obtain ⟨hx, hZ, hown, hby, hml, hret, hlk, rfl, hnm, rfl, rfl, hw⟩ := O
  subst hp hc2 hs2
  intro T locs real X N S A L
  unfold mkArr at hr
  split at hr
  · cases hr
  rename_i hj
  cases hr
  have hj0 : ¬ j < 0 := fun q => hj (Or.inl q)
  obtain ⟨T', h', cA, X', e', E, B, EX, stp⟩ := newPE X hx hZ (hw _ w) rfl (g := mkF m pc real ((.int j :: st).map (sh n))) rfl (hb hby hd) rfl hj0 (cap := cap) (Nat.le_of_not_lt fun q => hj (Or.inr q)) hb8 hc hs rfl
  have hsz : h'.size = T.heap.size + 1 := by
    have a1 : Array.size T.heap < Array.size h' := B.lt
    have a2 : Array.size T'.heap ≤ Array.size s.heap + (cells + 1) := X'.heapSize
    rw [e'] at a2
    have a3 : Array.size T.heap = n + H.length := S.1
    have a4 : Array.size s.heap + cells = n + H.length := A
    omega
  have ea : T.heap.size = n + H.length := S.1
  have S' : Sim (l, Z, a0, n) (H ++ [.inl (newarray.typeOf aty, List.replicate j.toNatClampNeg (defaultValue (newarray.typeOf aty)))]) T'.heap := by
    rw [e']
    refine sim_ext S E hsz ⟨EX, _, B, ?_⟩
    have : sh n (defaultValue (newarray.typeOf aty)) = defaultValue (newarray.typeOf aty) := by cases aty <;> rfl
    simp [newA, this]
  refine Done.step stp ?_
  have k' := k T' locs real X' N S' (by simp only [List.length_append, List.length_singleton] at A ⊢; omega) L
  rw [ea]
  exact k'
theorem g_new {ix t nn : Nat} {H' : List Obj} (O : Ok G K own bytes maxL ret R mn kc ks) (hd : decode bytes pc = .ok (.new ix, 3)) (w1 : Jvm.Cond.classLink own ix (lay t).1 ∈ tables_1) (w2 : Jvm.Cond.instantiable (lay t).1 nn ∈ tables_1) (w3 : Jvm.Cond.initialized (lay t).1 ∈ tables_1)
    {vs : List Value} (hvs : (lay t).2.map (fun nd => (parseFieldDescriptor nd.2).map defaultValue) = vs.map some) (hH : H' = H ++ [.inr (t, vs)]) {c2 s2 : Nat} (hc2 : cells + 1 = c2) (hs2 : slots + nn = s2) (hc : c2 ≤ R.cells) (hs : s2 ≤ R.slots) (hp : pc + 3 = pc')
    (k : Run G K rv Hf pc' Ls (.ref H.length :: st) H' c2 s2) : Run G K rv Hf pc Ls st H cells slots := by
  obtain ⟨l, Z, a0, n⟩ := G; obtain ⟨p, e, R', s, m, args, below, meth, c, kc', ks'⟩ := K
  obtain ⟨hx, hZ, hown, hby, hml, hret, hlk, rfl, hnm, rfl, rfl, hw⟩ := O
  subst hp hH hc2 hs2
  intro T locs real X N S A L
  obtain ⟨T', h', X', e', E, B, D, -, stp⟩ := newO X hx hZ hown (hw _ w1) (hw _ w2) (hw _ w3) rfl (g := mkF m pc real (st.map (sh n))) rfl (hb hby hd) hc hs
  have hsz : h'.size = T.heap.size + 1 := by
    have a1 : Array.size T.heap < Array.size h' := B.lt
    have a2 : Array.size T'.heap ≤ Array.size s.heap + (cells + 1) := X'.heapSize
    rw [e'] at a2
    have a3 : Array.size T.heap = n + H.length := S.1
    have a4 : Array.size s.heap + cells = n + H.length := A
    omega
  have ea : T.heap.size = n + H.length := S.1
  have S' : Sim (l, Z, a0, n) (H ++ [.inr (t, vs)]) T'.heap := by
    rw [e']
    refine sim_ext S E hsz ⟨B, by have := congrArg List.length hvs; simpa using this.symm, fun k nd v h1 h2 => ?_⟩
    have q : ((lay t).2.map (fun nd => (parseFieldDescriptor nd.2).map defaultValue))[k]? = some (some v) := by rw [hvs]; simp [h2]
    rw [List.getElem?_map, h1] at q
    simp only [Option.map_some, Option.some.injEq, Option.map_eq_some_iff] at q
    obtain ⟨ty, q1, q2⟩ := q
    have q3 : sh n v = defaultValue ty := by rw [← q2]; cases ty <;> rfl
    rw [q3]
    exact D ((lay_word t nd (List.mem_of_getElem? h1)).imp (hw _) (hw _)) q1
  refine Done.step stp ?_
  have k' := k T' locs real X' N S' (by simp only [List.length_append, List.length_singleton] at A ⊢; omega) L
  rw [ea]
  exact k'
theorem g_getfield {ix t kf i : Nat} {nd : String × String} {v : Value} (O : Ok G K own bytes maxL ret R mn kc ks) (hd : decode bytes pc = .ok (.getfield ix, 3)) (hk : (lay t).2[kf]? = some nd) (w : Jvm.Cond.fieldLink own ix (lay t).1 nd.1 nd.2 ∈ tables_1)
    (hr : fld t kf H i = some v) (hp : pc + 3 = pc') (k : Run G K rv Hf pc' Ls (v :: st) H cells slots) : Run G K rv Hf pc Ls (.ref i :: st) H cells slots := by
  obtain ⟨l, Z, a0, n⟩ := G; obtain ⟨p, e, R', s, m, args, below, meth, c, kc', ks'⟩ := K
  obtain ⟨hx, hZ, hown, hby, hml, hret, hlk, rfl, hnm, rfl, rfl, hw⟩ := O
  subst hp
  intro T locs real X N S A L
  obtain ⟨vs, h1, h2⟩ := Option.bind_eq_some_iff.mp hr
  obtain ⟨B, l1, F⟩ := sim_obj S h1
  obtain ⟨T', X', e', stp⟩ := getF X hx hZ hown (host := "") (Or.inl (hw _ w)) Via.refl rfl (F kf nd v hk h2) (g := mkF m pc real ((.ref i :: st).map (sh n))) rfl rfl (hb hby hd)
  exact Done.step stp (k T' locs real X' N (by rw [e']; exact S) A L)
theorem g_putfield {ix t kf i nn : Nat} {nd : String × String} {v : Value} {ty : FieldType} {H' : List Obj} (O : Ok G K own bytes maxL ret R mn kc ks) (hd : decode bytes pc = .ok (.putfield ix, 3)) (hk : (lay t).2[kf]? = some nd) (w : Jvm.Cond.fieldLink own ix (lay t).1 nd.1 nd.2 ∈ tables_1)
    (w2 : Jvm.Cond.lays (lay t).1 (lay t).1 nd.1 nd.2 ∈ tables_1 ∨ (Jvm.Cond.laysFinal (lay t).1 (lay t).1 nd.1 nd.2 ∈ tables_1 ∧ own = (lay t).1 ∧ mn = "<init>")) (w3 : Jvm.Cond.instantiable (lay t).1 nn ∈ tables_1) (hty : parseFieldDescriptor nd.2 = some ty) (hn : ∀ n, narrow ty (sh n v) = sh n v) (hf : ∀ n, fits ty (sh n v) = true)
    (hr : setF t kf H i v = some H') (hp : pc + 3 = pc') (k : Run G K rv Hf pc' Ls st H' cells slots) : Run G K rv Hf pc Ls (v :: .ref i :: st) H cells slots := by
  obtain ⟨l, Z, a0, n⟩ := G; obtain ⟨p, e, R', s, m, args, below, meth, c, kc', ks'⟩ := K
  obtain ⟨hx, hZ, hown, hby, hml, hret, hlk, rfl, hnm, rfl, rfl, hw⟩ := O
  subst hp
  intro T locs real X N S A L
  obtain ⟨vs, h1, h2⟩ := Option.bind_eq_some_iff.mp hr
  have hkv : kf < vs.length := Decidable.byContradiction fun hkv => by rw [if_neg hkv] at h2; cases h2
  rw [if_pos hkv] at h2
  cases h2
  obtain ⟨B, l1, F⟩ := sim_obj S h1
  obtain ⟨T', h', X', e', W, stp⟩ := putF X hx hZ hown (host := "") (Or.inl (hw _ w)) Via.refl rfl (F kf nd _ hk (List.getElem?_eq_getElem hkv)) B (w2.imp (hw _) fun q => ⟨hw _ q.1, q.2.1, hnm.trans q.2.2⟩) (hw _ w3) hty (hn n) (hf n) (g := mkF m pc real ((v :: .ref i :: st).map (sh n))) rfl rfl (hb hby hd)
  exact Done.step stp (k T' _ real X' (Fr.snoc X' N (Nat.le_add_right _ _)) (by rw [e']; exact sim_put hw S h1 hk W) (by simpa using A) L)
theorem g_objinit {ix i W : Nat} (O : Ok G K own bytes maxL ret R mn kc ks) (hd : decode bytes pc = .ok (.invokespecial ix, 3)) (w1 : Jvm.Cond.methodLink own ix Lib.objectInit ∈ tables_1) (w2 : Jvm.Cond.instanceMethod Lib.objectInit ∈ tables_1) (w3 : Jvm.Cond.code Lib.objectInit ⟨#[0xb1]⟩ 1 none ∈ tables_1)
    (hLs : Ls.length = maxL) (hW : (st.map fun v => v.category).sum = W) (hf : 1 ≤ R.frames) (hl : W + 12 ≤ R.locals) (hp : pc + 3 = pc') (k : Run G K rv Hf pc' Ls st H cells slots) : Run G K rv Hf pc Ls (.ref i :: st) H cells slots := by
  obtain ⟨l, Z, a0, n⟩ := G; obtain ⟨p, e, R', s, m, args, below, meth, c, kc', ks'⟩ := K
  obtain ⟨hx, hZ, hown, hby, hml, hret, hlk, rfl, hnm, rfl, rfl, hw⟩ := O
  subst hp
  intro T locs real X N S A L
  obtain ⟨T', X', e', stp⟩ := initO X hx hZ hown (hw _ w1) (hw _ w2) (hw _ w3) rfl (g := mkF m pc real ((.ref i :: st).map (sh n))) rfl (by show real.size = _; rw [L.1, hml]; exact hLs) rfl (hb hby hd) hf (W := W) (by show 2 * 0 + ((st.map (sh n)).map _).sum ≤ _; rw [List.map_map, ← hW]; simp [Function.comp_def, sh_cat]) hl
  exact Done.step stp (k T' locs real X' N (by rw [e']; exact S) A L)
def Fg : List (Option Value) → List (Option Value) → Prop
  | [], [] => True
  | _ :: a, none :: b => Fg a b
  | x :: a, some v :: b => x = some v ∧ Fg a b
  | [], _ :: _ => False
  | _ :: _, [] => False
theorem Fg.spec : ∀ {A B : List (Option Value)}, Fg A B → A.length = B.length ∧ ∀ (k : Nat) (v : Value), B[k]? = some (some v) → A[k]? = some (some v)
  | [], [], _ => ⟨rfl, fun k v h => h⟩
  | x :: a, none :: b, h => by
    obtain ⟨h1, h2⟩ := Fg.spec (A := a) (B := b) h
    refine ⟨by simp [h1], fun k v hk => ?_⟩
    cases k with
    | zero => simp at hk
    | succ k => simpa using h2 k v (by simpa using hk)
  | x :: a, some w :: b, h => by
    have h' : x = some w ∧ Fg a b := h
    obtain ⟨h1, h2⟩ := Fg.spec (A := a) (B := b) h'.2
    refine ⟨by simp [h1], fun k v hk => ?_⟩
    cases k with
    | zero => simp at hk; simp [h'.1, hk]
    | succ k => simpa using h2 k v (by simpa using hk)
theorem g_forget (h : Fg Ls Ls') (k : Run G K rv Hf pc Ls' st H cells slots) : Run G K rv Hf pc Ls st H cells slots := by
  obtain ⟨l, Z, a0, n⟩ := G; obtain ⟨p, e, R', s, m, args, below, meth, c, kc', ks'⟩ := K
  obtain ⟨h1, h2⟩ := h.spec
  intro T locs real X N S A L
  exact k T locs real X N S A ⟨L.1.trans h1, L.2.1, fun j v hj => L.2.2 j v (h2 j v hj)⟩
/-! calls and returns -/
theorem cat_sum (n : Nat) (st : List Value) : ((st.map (sh n)).map fun v => v.category).sum = (st.map fun v => v.category).sum := by rw [List.map_map]; simp [Function.comp_def, sh_cat]
theorem g_static {ix : Nat} {y : MethodName} {bytes' : ByteArray} {maxL' : Nat} {ret' : Option FieldType} {rm : Room} {as : List Value} {H' : List Obj} {v : Option Value} {ps : List FieldType} {W : Nat} {stk : List Value} (O : Ok G K own bytes maxL ret R mn kc ks) (hd : decode bytes pc = .ok (.invokestatic ix, 3))
    (w1 : Jvm.Cond.methodLink own ix y ∈ tables_1) (w2 : Jvm.Cond.static y ∈ tables_1) (w3 : Jvm.Cond.initialized y.cls ∈ tables_1) (w4 : Jvm.Cond.code y bytes' maxL' ret' ∈ tables_1) (hy : y.cls ≠ "java/lang/invoke/MethodHandle" ∧ y.cls ≠ "java/lang/invoke/VarHandle")
    (pd : parseMethodDescriptor y.desc = some ⟨ps, ret'⟩) (hl : as.length = ps.length) (hstk : stk = as.reverse ++ st) (hLs : Ls.length = maxL) (hW : (st.map fun v => v.category).sum = W) (hf : rm.frames + 1 ≤ R.frames) (hlo : W + (maxL' + 11) + rm.locals ≤ R.locals) {c2 s2 : Nat} (hc2 : cells + rm.cells = c2) (hs2 : slots + rm.slots = s2) (hc : c2 ≤ R.cells) (hs : s2 ≤ R.slots)
    (con : Con G y bytes' maxL' ret' rm as H v H') (hp : pc + 3 = pc') (k : Run G K rv Hf pc' Ls (v.toList ++ st) H' c2 s2) : Run G K rv Hf pc Ls stk H cells slots := by
  obtain ⟨l, Z, a0, n⟩ := G; obtain ⟨p, e, R', s, m, args, below, meth, c, kc', ks'⟩ := K
  obtain ⟨hx, hZ, hown, hby, hml, hret, hlk, rfl, hnm, rfl, rfl, hw⟩ := O
  subst hp hstk hc2 hs2
  intro T locs real X N S A L
  obtain ⟨v', _, ⟨T', L', k', n'⟩, -, X', ⟨Lc, ⟨hv, N', S', hlen⟩, l1, y1, z1⟩, stp⟩ := Jvm.LawKit.callS X hx (y := y) hown (mvT hZ (hw _ w1)) (mvT hZ (hw _ w2)) (mvT hZ (hw _ w3)) (mvT hZ (hw _ w4)) hy (backOf (W := W) (Q := fun u hh LL => u = Option.map (sh n) v ∧ Fr n LL ∧ Sim (l, Z, a0, n) H' hh ∧ H'.length = H.length + rm.cells) (con T.heap S) hZ (hw _ w4) (hw _ w3) hf hlo) (g := mkF m pc real ((as.reverse ++ st).map (sh n))) rfl (by show real.size = _; rw [L.1, hml]; exact hLs)
    (argsL := as.map (sh n)) (rest := st.map (sh n)) (lenOf pd (by simpa using hl)) (by simp) (by show 2 * 0 + _ ≤ _; rw [cat_sum, hW]; exact Nat.le_of_eq (Nat.zero_add _)) (hb hby hd) (fun _ _ => ⟨rfl, rfl, hc, hs⟩)
  dsimp only [Pt.U, Pt.locs, Pt.cells, Pt.slots] at X' l1 y1 z1 stp S' N'
  subst l1 y1 z1 hv
  have k2 := k T' _ real X' (Fr.app N N') S' (by omega) L
  refine Done.step stp ?_
  cases v <;> exact k2
theorem g_special {ix i : Nat} {y : MethodName} {bytes' : ByteArray} {maxL' : Nat} {rm : Room} {as : List Value} {H' : List Obj} {ps : List FieldType} {W : Nat} {stk : List Value} (O : Ok G K own bytes maxL ret R mn kc ks) (hd : decode bytes pc = .ok (.invokespecial ix, 3)) (hy1 : y.name = "<init>")
    (w1 : Jvm.Cond.methodLink own ix y ∈ tables_1) (w2 : Jvm.Cond.instanceMethod y ∈ tables_1) (w3 : Jvm.Cond.initialized y.cls ∈ tables_1) (w4 : Jvm.Cond.code y bytes' maxL' none ∈ tables_1) (hy : y.cls ≠ "java/lang/invoke/MethodHandle" ∧ y.cls ≠ "java/lang/invoke/VarHandle")
    (pd : parseMethodDescriptor y.desc = some ⟨ps, none⟩) (hl : as.length = ps.length) (hstk : stk = as.reverse ++ .ref i :: st) (hLs : Ls.length = maxL) (hW : (st.map fun v => v.category).sum = W) (hf : rm.frames + 1 ≤ R.frames) (hlo : W + (maxL' + 11) + rm.locals ≤ R.locals) {c2 s2 : Nat} (hc2 : cells + rm.cells = c2) (hs2 : slots + rm.slots = s2) (hc : c2 ≤ R.cells) (hs : s2 ≤ R.slots)
    (con : Con G y bytes' maxL' none rm (.ref i :: as) H none H') (hp : pc + 3 = pc') (k : Run G K rv Hf pc' Ls st H' c2 s2) : Run G K rv Hf pc Ls stk H cells slots := by
  obtain ⟨l, Z, a0, n⟩ := G; obtain ⟨p, e, R', s, m, args, below, meth, c, kc', ks'⟩ := K
  obtain ⟨hx, hZ, hown, hby, hml, hret, hlk, rfl, hnm, rfl, rfl, hw⟩ := O
  subst hp hstk hc2 hs2
  intro T locs real X N S A L
  obtain ⟨v', _, ⟨T', L', k', n'⟩, -, X', ⟨Lc, ⟨hv, N', S', hlen⟩, l1, y1, z1⟩, stp⟩ := X.specialBack hx (y := y) hy1 hown (mvT hZ (hw _ w1)) (mvT hZ (hw _ w2)) (mvT hZ (hw _ w4)) hy (backOf (W := W) (Q := fun u hh LL => u = Option.map (sh n) none ∧ Fr n LL ∧ Sim (l, Z, a0, n) H' hh ∧ H'.length = H.length + rm.cells) (con T.heap S) hZ (hw _ w4) (hw _ w3) hf hlo) (g := mkF m pc real ((as.reverse ++ .ref i :: st).map (sh n))) rfl (by show real.size = _; rw [L.1, hml]; exact hLs) (Steps.refl _)
    (a := n + i) (argsL := as.map (sh n)) (rest := st.map (sh n)) (lenOf pd (by simpa using hl)) (by simp [sh]) (by show 2 * 0 + _ ≤ _; rw [cat_sum, hW]; exact Nat.le_of_eq (Nat.zero_add _)) (hb hby hd) (fun _ _ => ⟨rfl, rfl, hc, hs⟩)
  dsimp only [Pt.U, Pt.locs, Pt.cells, Pt.slots] at X' l1 y1 z1 stp S' N'
  subst l1 y1 z1 hv
  exact Done.step (fun t q => stp.trans q) (k T' _ real X' (Fr.app N N') S' (by omega) L)
theorem g_virtual {ix i t : Nat} {y : MethodName} {bytes' : ByteArray} {maxL' : Nat} {ret' : Option FieldType} {rm : Room} {as vs : List Value} {H' : List Obj} {v : Option Value} {ps : List FieldType} {W : Nat} {stk : List Value} (O : Ok G K own bytes maxL ret R mn kc ks) (hd : decode bytes pc = .ok (.invokevirtual ix, 3))
    (w1 : Jvm.Cond.methodLink own ix y ∈ tables_1) (w2 : Jvm.Cond.declares y ∈ tables_1) (w5 : Jvm.Cond.selects (lay t).1 y y ∈ tables_1) (w6 : Jvm.Cond.instanceMethod y ∈ tables_1) (w3 : Jvm.Cond.initialized y.cls ∈ tables_1) (w4 : Jvm.Cond.code y bytes' maxL' ret' ∈ tables_1) (hy : y.cls ≠ "java/lang/invoke/MethodHandle" ∧ y.cls ≠ "java/lang/invoke/VarHandle")
    (ho : obj t H i = some vs) (pd : parseMethodDescriptor y.desc = some ⟨ps, ret'⟩) (hl : as.length = ps.length) (hstk : stk = as.reverse ++ .ref i :: st) (hLs : Ls.length = maxL) (hW : (st.map fun v => v.category).sum = W) (hf : rm.frames + 1 ≤ R.frames) (hlo : W + (maxL' + 11) + rm.locals ≤ R.locals) {c2 s2 : Nat} (hc2 : cells + rm.cells = c2) (hs2 : slots + rm.slots = s2) (hc : c2 ≤ R.cells) (hs : s2 ≤ R.slots)
    (con : Con G y bytes' maxL' ret' rm (.ref i :: as) H v H') (hp : pc + 3 = pc') (k : Run G K rv Hf pc' Ls (v.toList ++ st) H' c2 s2) : Run G K rv Hf pc Ls stk H cells slots := by
  obtain ⟨l, Z, a0, n⟩ := G; obtain ⟨p, e, R', s, m, args, below, meth, c, kc', ks'⟩ := K
  obtain ⟨hx, hZ, hown, hby, hml, hret, hlk, rfl, hnm, rfl, rfl, hw⟩ := O
  subst hp hstk hc2 hs2
  intro T locs real X N S A L
  obtain ⟨cq, kq, qa, qb, qc⟩ := isOf hZ (T := T) rfl (sim_obj S ho).1
  obtain ⟨v', _, ⟨T', L', k', n'⟩, -, X', ⟨Lc, ⟨hv, N', S', hlen⟩, l1, y1, z1⟩, stp⟩ := X.virtualBack hx (y := y) (z := y) hown (mvT hZ (hw _ w1)) (mvT hZ (hw _ w2)) (notFace_of_selects (args := #[]) (mvT hZ (hw _ w5))) (mvT hZ (hw _ w5)) (mvT hZ (hw _ w6)) hy (backOf (W := W) (Q := fun u hh LL => u = Option.map (sh n) v ∧ Fr n LL ∧ Sim (l, Z, a0, n) H' hh ∧ H'.length = H.length + rm.cells) (con T.heap S) hZ (hw _ w4) (hw _ w3) hf hlo) qa qc (g := mkF m pc real ((as.reverse ++ .ref i :: st).map (sh n))) rfl (by show real.size = _; rw [L.1, hml]; exact hLs) (Steps.refl _)
    (argsL := as.map (sh n)) (rest := st.map (sh n)) (lenOf pd (by simpa using hl)) (by simp [sh]) (by show 2 * 0 + _ ≤ _; rw [cat_sum, hW]; exact Nat.le_of_eq (Nat.zero_add _)) (hb hby hd) (fun _ _ => ⟨rfl, rfl, hc, hs⟩)
  dsimp only [Pt.U, Pt.locs, Pt.cells, Pt.slots] at X' l1 y1 z1 stp S' N'
  subst l1 y1 z1 hv
  have k2 := k T' _ real X' (Fr.app N N') S' (by omega) L
  refine Done.step (fun t q => stp.trans q) ?_
  cases v <;> exact k2
theorem g_ret_void (O : Ok G K own bytes maxL none R mn kc ks) (hd : decode bytes pc = .ok (.return_, 1)) (hc : cells = kc) (hs : slots ≤ ks) : Run G K none H pc Ls [] H cells slots := by
  obtain ⟨l, Z, a0, n⟩ := G; obtain ⟨p, e, R', s, m, args, below, meth, c, kc', ks'⟩ := K
  obtain ⟨hx, hZ, hown, hby, hml, hret, hlk, rfl, hnm, rfl, rfl, hw⟩ := O
  intro T locs real X N S A L
  subst hc
  obtain ⟨fs, hr, hrun, hended, hW, hsame⟩ := X.leave (v := none) (fun _ => rfl) hlk
  exact ⟨_, _, X.returnOut hx hret (hb hby hd) hr, hrun, hended, _, _, rfl, ⟨rfl, N, S, A⟩, ⟨_, rfl⟩, hW, hsame.mono (Nat.le_refl _) hs⟩
theorem g_ret_int {x : Int32} (O : Ok G K own bytes maxL (some .int) R mn kc ks) (hd : decode bytes pc = .ok (.ireturn, 1)) (hc : cells = kc) (hs : slots ≤ ks) : Run G K (some (.int x)) H pc Ls (.int x :: st) H cells slots := by
  obtain ⟨l, Z, a0, n⟩ := G; obtain ⟨p, e, R', s, m, args, below, meth, c, kc', ks'⟩ := K
  obtain ⟨hx, hZ, hown, hby, hml, hret, hlk, rfl, hnm, rfl, rfl, hw⟩ := O
  intro T locs real X N S A L
  subst hc
  obtain ⟨fs, hr, hrun, hended, hW, hsame⟩ := X.leave (v := some (.int x)) (fun h => by rw [hret] at h; cases h) hlk
  exact ⟨_, _, retOut X hx hret rfl (Or.inl ⟨rfl, Or.inl rfl, x, rfl⟩) (hb hby hd) hr, hrun, hended, _, _, rfl, ⟨rfl, N, S, A⟩, ⟨_, rfl⟩, hW, hsame.mono (Nat.le_refl _) hs⟩
theorem g_ret_nar {t : FieldType} {x y : Int32} (O : Ok G K own bytes maxL (some t) R mn kc ks) (hd : decode bytes pc = .ok (.ireturn, 1)) (ht : t = .boolean ∨ t = .byte ∨ t = .char ∨ t = .short) (hy : nar t x = y) (hc : cells = kc) (hs : slots ≤ ks) : Run G K (some (.int y)) H pc Ls (.int x :: st) H cells slots := by
  obtain ⟨l, Z, a0, n⟩ := G; obtain ⟨p, e, R', s, m, args, below, meth, c, kc', ks'⟩ := K
  obtain ⟨hx, hZ, hown, hby, hml, hret, hlk, rfl, hnm, rfl, rfl, hw⟩ := O
  intro T locs real X N S A L
  subst hc hy
  obtain ⟨fs, hr, hrun, hended, hW, hsame⟩ := X.leave (v := some (.int (nar t x))) (fun h => by rw [hret] at h; cases h) hlk
  exact ⟨_, _, retN X hx hret ht (hb hby hd) hr, hrun, hended, _, _, rfl, ⟨rfl, N, S, A⟩, ⟨_, rfl⟩, hW, hsame.mono (Nat.le_refl _) hs⟩
theorem g_ret_long {x : Int64} (O : Ok G K own bytes maxL (some .long) R mn kc ks) (hd : decode bytes pc = .ok (.lreturn, 1)) (hc : cells = kc) (hs : slots ≤ ks) : Run G K (some (.long x)) H pc Ls (.long x :: st) H cells slots := by
  obtain ⟨l, Z, a0, n⟩ := G; obtain ⟨p, e, R', s, m, args, below, meth, c, kc', ks'⟩ := K
  obtain ⟨hx, hZ, hown, hby, hml, hret, hlk, rfl, hnm, rfl, rfl, hw⟩ := O
  intro T locs real X N S A L
  subst hc
  obtain ⟨fs, hr, hrun, hended, hW, hsame⟩ := X.leave (v := some (.long x)) (fun h => by rw [hret] at h; cases h) hlk
  exact ⟨_, _, retOut X hx hret rfl (Or.inr (Or.inl ⟨rfl, rfl, x, rfl⟩)) (hb hby hd) hr, hrun, hended, _, _, rfl, ⟨rfl, N, S, A⟩, ⟨_, rfl⟩, hW, hsame.mono (Nat.le_refl _) hs⟩
theorem g_ret_ref {t : FieldType} {i : Nat} (O : Ok G K own bytes maxL (some t) R mn kc ks) (hd : decode bytes pc = .ok (.areturn, 1)) (ht : t.isReference = true) (hn : ∀ a, narrow t (.ref a) = .ref a) (hc : cells = kc) (hs : slots ≤ ks) : Run G K (some (.ref i)) H pc Ls (.ref i :: st) H cells slots := by
  obtain ⟨l, Z, a0, n⟩ := G; obtain ⟨p, e, R', s, m, args, below, meth, c, kc', ks'⟩ := K
  obtain ⟨hx, hZ, hown, hby, hml, hret, hlk, rfl, hnm, rfl, rfl, hw⟩ := O
  intro T locs real X N S A L
  subst hc
  obtain ⟨fs, hr, hrun, hended, hW, hsame⟩ := X.leave (v := some (.ref (n + i))) (fun h => by rw [hret] at h; cases h) hlk
  exact ⟨_, _, retOut X hx hret (hn _) (Or.inr (Or.inr (Or.inr (Or.inr ⟨rfl, ht, rfl⟩)))) (hb hby hd) hr, hrun, hended, _, _, rfl, ⟨rfl, N, S, A⟩, ⟨_, rfl⟩, hW, hsame.mono (Nat.le_refl _) hs⟩
theorem con_of {y : MethodName} {rm : Room} {as : List Value} (hw : ∀ d ∈ tables_1, d.before G.2.2.1 G.2.1 = true) (pn : plainFor y = true) (hL : aloc as maxL = Ls) (body : ∀ K, Ok G K y.cls bytes maxL ret rm y.name rm.cells rm.slots → Run G K rv Hf 0 Ls [] H 0 0) : Con G y bytes maxL ret rm as H rv Hf := by
  obtain ⟨l, Z, a0, n⟩ := G
  intro h0 S0
  refine MetFree.of_bodySF pn hisR ?_
  intro p e s m args below meth c s₁ Bd hml0 hP hK
  obtain ⟨rfl, hZ, rfl⟩ := hP
  have X0 : Stand p l e rm s m _ below meth c s₁ [] 0 0 := Stand.of_body Bd
  have e0 : s₁.heap = s.heap := by rw [Bd.state]; rfl
  have k := body (p, e, rm, s, m, (as.map (sh n)).toArray, below, meth, c, rm.cells, rm.slots) ⟨Bd.exec, hZ, findClass_of_methodNamed Bd.named, Bd.bytes, hml0, Bd.returns, Bd.notSynchronized, rfl, (name_of_methodNamed Bd.named Bd.method).1, rfl, rfl, hw⟩
  subst hL
  obtain ⟨t, o, h1, h2, h3, v, L, h4, ⟨h5, h6, h7, h8⟩, h9⟩ := k s₁ [] _ X0 (Fr.nil n) (by rw [e0]; exact S0) (by rw [Nat.add_zero]; exact S0.1) (entry_rel n as maxL)
  refine ⟨t, o, h1, h2, h3, v, L, h4, ⟨h5, h6, h7, ?_⟩, h9⟩
  have := S0.1
  simp only at this
  omega
/-- the law itself, over an empty own heap -/
theorem law_of {l : Launch} {s : State} {a0 : Array Value} {as : List Value} {k0 k1 : Nat} (hw : ∀ d ∈ tables_1, d.before a0 s = true) (pn : plainFor x = true) (hL : aloc as maxLocals = Ls) (hid : as.map (sh s.heap.size) = as)
    (body : ∀ K, Ok (l, s, a0, s.heap.size) K x.cls code maxLocals Jvm.Pilot.@@N@@.ret room_1 x.name k0 k1 → Run (l, s, a0, s.heap.size) K rv Hf 0 Ls [] [] 0 0) :
    MetFree l x (head1 (Jvm.Cond.code x code maxLocals Jvm.Pilot.@@N@@.ret :: tables_1) room_1) (fun a U => a = as.toArray ∧ s.Warmed39 U.vm ∧ U.heap = s.heap) (fun _ _ _ _ _ => True) (fun _ U o U' => ∃ v L, o = .returned v ∧ (v = rv.map (sh s.heap.size) ∧ Fr s.heap.size L) ∧ FrameEnd U o U' L k0 k1) := by
  refine MetFree.of_bodySF pn hisR ?_
  intro p e U m args below meth c s₁ Bd hml0 hP hK
  obtain ⟨rfl, hZ, hU⟩ := hP
  have X0 : Stand p l e room_1 U m _ below meth c s₁ [] 0 0 := Stand.of_body Bd
  have e0 : s₁.heap = U.heap := by rw [Bd.state]; rfl
  have k := body (p, e, room_1, U, m, as.toArray, below, meth, c, k0, k1) ⟨Bd.exec, hZ, findClass_of_methodNamed Bd.named, Bd.bytes, hml0, Bd.returns, Bd.notSynchronized, rfl, (name_of_methodNamed Bd.named Bd.method).1, rfl, rfl, hw⟩
  subst hL
  have S0 : Sim (l, s, a0, s.heap.size) [] s₁.heap := ⟨by rw [e0, hU]; rfl, fun i o h => by simp at h⟩
  have er := entry_rel s.heap.size as maxLocals
  rw [hid] at er
  obtain ⟨t, o, h1, h2, h3, v, L, h4, ⟨h5, h6, h7, h8⟩, h9⟩ := k s₁ [] _ X0 (Fr.nil _) S0 (by rw [hU]; rfl) er
  exact ⟨t, o, h1, h2, h3, v, L, h4, ⟨h5, h6⟩, h9⟩
theorem Ok.w (O : Ok G K own bytes maxL ret R mn kc ks) : ∀ d ∈ tables_1, d.before G.2.2.1 G.2.1 = true := by
  obtain ⟨l, Z, a0, n⟩ := G; obtain ⟨p, e, R', s, m, args, below, meth, c, kc', ks'⟩ := K
  obtain ⟨-, -, -, -, -, -, -, -, -, -, -, hw⟩ := O
  exact hw
theorem bnd {α β : Type} {o : Option α} {f : α → Option β} {b : β} (h : o.bind f = some b) : ∃ a, o = some a ∧ f a = some b := Option.bind_eq_some_iff.mp h
theorem g_static1 {ix : Nat} {y : MethodName} {bytes' : ByteArray} {maxL' : Nat} {ret' : Option FieldType} {rm : Room} {as : List Value} {H' : List Obj} {v : Value} {ps : List FieldType} {W : Nat} {stk : List Value} (O : Ok G K own bytes maxL ret R mn kc ks) (hd : decode bytes pc = .ok (.invokestatic ix, 3))
    (w1 : Jvm.Cond.methodLink own ix y ∈ tables_1) (w2 : Jvm.Cond.static y ∈ tables_1) (w3 : Jvm.Cond.initialized y.cls ∈ tables_1) (w4 : Jvm.Cond.code y bytes' maxL' ret' ∈ tables_1) (hy : y.cls ≠ "java/lang/invoke/MethodHandle" ∧ y.cls ≠ "java/lang/invoke/VarHandle")
    (pd : parseMethodDescriptor y.desc = some ⟨ps, ret'⟩) (hl : as.length = ps.length) (hstk : stk = as.reverse ++ st) (hLs : Ls.length = maxL) (hW : (st.map fun v => v.category).sum = W) (hf : rm.frames + 1 ≤ R.frames) (hlo : W + (maxL' + 11) + rm.locals ≤ R.locals) {c2 s2 : Nat} (hc2 : cells + rm.cells = c2) (hs2 : slots + rm.slots = s2) (hc : c2 ≤ R.cells) (hs : s2 ≤ R.slots)
    (con : Con G y bytes' maxL' ret' rm as H (some v) H') (hp : pc + 3 = pc') (k : Run G K rv Hf pc' Ls (v :: st) H' c2 s2) : Run G K rv Hf pc Ls stk H cells slots := g_static O hd w1 w2 w3 w4 hy pd hl hstk hLs hW hf hlo hc2 hs2 hc hs con hp k
theorem g_static0 {ix : Nat} {y : MethodName} {bytes' : ByteArray} {maxL' : Nat} {ret' : Option FieldType} {rm : Room} {as : List Value} {H' : List Obj} {ps : List FieldType} {W : Nat} {stk : List Value} (O : Ok G K own bytes maxL ret R mn kc ks) (hd : decode bytes pc = .ok (.invokestatic ix, 3))
    (w1 : Jvm.Cond.methodLink own ix y ∈ tables_1) (w2 : Jvm.Cond.static y ∈ tables_1) (w3 : Jvm.Cond.initialized y.cls ∈ tables_1) (w4 : Jvm.Cond.code y bytes' maxL' ret' ∈ tables_1) (hy : y.cls ≠ "java/lang/invoke/MethodHandle" ∧ y.cls ≠ "java/lang/invoke/VarHandle")
    (pd : parseMethodDescriptor y.desc = some ⟨ps, ret'⟩) (hl : as.length = ps.length) (hstk : stk = as.reverse ++ st) (hLs : Ls.length = maxL) (hW : (st.map fun v => v.category).sum = W) (hf : rm.frames + 1 ≤ R.frames) (hlo : W + (maxL' + 11) + rm.locals ≤ R.locals) {c2 s2 : Nat} (hc2 : cells + rm.cells = c2) (hs2 : slots + rm.slots = s2) (hc : c2 ≤ R.cells) (hs : s2 ≤ R.slots)
    (con : Con G y bytes' maxL' ret' rm as H none H') (hp : pc + 3 = pc') (k : Run G K rv Hf pc' Ls st H' c2 s2) : Run G K rv Hf pc Ls stk H cells slots := g_static O hd w1 w2 w3 w4 hy pd hl hstk hLs hW hf hlo hc2 hs2 hc hs con hp k
theorem g_virtual1 {ix i t : Nat} {y : MethodName} {bytes' : ByteArray} {maxL' : Nat} {ret' : Option FieldType} {rm : Room} {as vs : List Value} {H' : List Obj} {v : Value} {ps : List FieldType} {W : Nat} {stk : List Value} (O : Ok G K own bytes maxL ret R mn kc ks) (hd : decode bytes pc = .ok (.invokevirtual ix, 3))
    (w1 : Jvm.Cond.methodLink own ix y ∈ tables_1) (w2 : Jvm.Cond.declares y ∈ tables_1) (w5 : Jvm.Cond.selects (lay t).1 y y ∈ tables_1) (w6 : Jvm.Cond.instanceMethod y ∈ tables_1) (w3 : Jvm.Cond.initialized y.cls ∈ tables_1) (w4 : Jvm.Cond.code y bytes' maxL' ret' ∈ tables_1) (hy : y.cls ≠ "java/lang/invoke/MethodHandle" ∧ y.cls ≠ "java/lang/invoke/VarHandle")
    (ho : obj t H i = some vs) (pd : parseMethodDescriptor y.desc = some ⟨ps, ret'⟩) (hl : as.length = ps.length) (hstk : stk = as.reverse ++ .ref i :: st) (hLs : Ls.length = maxL) (hW : (st.map fun v => v.category).sum = W) (hf : rm.frames + 1 ≤ R.frames) (hlo : W + (maxL' + 11) + rm.locals ≤ R.locals) {c2 s2 : Nat} (hc2 : cells + rm.cells = c2) (hs2 : slots + rm.slots = s2) (hc : c2 ≤ R.cells) (hs : s2 ≤ R.slots)
    (con : Con G y bytes' maxL' ret' rm (.ref i :: as) H (some v) H') (hp : pc + 3 = pc') (k : Run G K rv Hf pc' Ls (v :: st) H' c2 s2) : Run G K rv Hf pc Ls stk H cells slots := g_virtual O hd w1 w2 w5 w6 w3 w4 hy ho pd hl hstk hLs hW hf hlo hc2 hs2 hc hs con hp k
theorem g_virtual0 {ix i t : Nat} {y : MethodName} {bytes' : ByteArray} {maxL' : Nat} {ret' : Option FieldType} {rm : Room} {as vs : List Value} {H' : List Obj} {ps : List FieldType} {W : Nat} {stk : List Value} (O : Ok G K own bytes maxL ret R mn kc ks) (hd : decode bytes pc = .ok (.invokevirtual ix, 3))
    (w1 : Jvm.Cond.methodLink own ix y ∈ tables_1) (w2 : Jvm.Cond.declares y ∈ tables_1) (w5 : Jvm.Cond.selects (lay t).1 y y ∈ tables_1) (w6 : Jvm.Cond.instanceMethod y ∈ tables_1) (w3 : Jvm.Cond.initialized y.cls ∈ tables_1) (w4 : Jvm.Cond.code y bytes' maxL' ret' ∈ tables_1) (hy : y.cls ≠ "java/lang/invoke/MethodHandle" ∧ y.cls ≠ "java/lang/invoke/VarHandle")
    (ho : obj t H i = some vs) (pd : parseMethodDescriptor y.desc = some ⟨ps, ret'⟩) (hl : as.length = ps.length) (hstk : stk = as.reverse ++ .ref i :: st) (hLs : Ls.length = maxL) (hW : (st.map fun v => v.category).sum = W) (hf : rm.frames + 1 ≤ R.frames) (hlo : W + (maxL' + 11) + rm.locals ≤ R.locals) {c2 s2 : Nat} (hc2 : cells + rm.cells = c2) (hs2 : slots + rm.slots = s2) (hc : c2 ≤ R.cells) (hs : s2 ≤ R.slots)
    (con : Con G y bytes' maxL' ret' rm (.ref i :: as) H none H') (hp : pc + 3 = pc') (k : Run G K rv Hf pc' Ls st H' c2 s2) : Run G K rv Hf pc Ls stk H cells slots := g_virtual O hd w1 w2 w5 w6 w3 w4 hy ho pd hl hstk hLs hW hf hlo hc2 hs2 hc hs con hp k
/-- clone() of an int[] -/
def cloneI (cap : Nat) (H : List Obj) (i : Nat) : Option (List Obj) := (arr .int H i).bind fun vs => if vs.length ≤ cap ∧ vs.all (fun v => (getI v).isSome) = true then some (H ++ [.inl (.int, vs)]) else none
theorem g_cloneI {ix i cap W : Nat} {H' : List Obj} (O : Ok G K own bytes maxL ret R mn kc ks) (hd : decode bytes pc = .ok (.invokevirtual ix, 3)) (w1 : Jvm.Cond.methodLink own ix (⟨"[I", "clone", "()Ljava/lang/Object;"⟩ : MethodName) ∈ tables_1) (w2 : Jvm.Cond.sameMethod "[I" "java/lang/Object" "clone" "()Ljava/lang/Object;" ∈ tables_1) (w3 : Jvm.Cond.native (⟨"java/lang/Object", "clone", "()Ljava/lang/Object;"⟩ : MethodName) ∈ tables_1)
    (w4 : Jvm.Cond.instanceMethod (⟨"java/lang/Object", "clone", "()Ljava/lang/Object;"⟩ : MethodName) ∈ tables_1) (w5 : Jvm.Cond.selects "[I" (⟨"[I", "clone", "()Ljava/lang/Object;"⟩ : MethodName) (⟨"java/lang/Object", "clone", "()Ljava/lang/Object;"⟩ : MethodName) ∈ tables_1) (w6 : Jvm.Cond.castable "[I" "java/lang/Cloneable" ∈ tables_1) (hr : cloneI cap H i = some H')
    (hLs : Ls.length = maxL) (hW : (st.map fun v => v.category).sum = W) (hf : 1 ≤ R.frames) (hl : W + 14 ≤ R.locals) {c2 s2 : Nat} (hc2 : cells + 1 = c2) (hs2 : slots + cap = s2) (hc : c2 ≤ R.cells) (hs : s2 ≤ R.slots) (hp : pc + 3 = pc')
    (k : Run G K rv Hf pc' Ls (.ref H.length :: st) H' c2 s2) : Run G K rv Hf pc Ls (.ref i :: st) H cells slots := by
  obtain ⟨l, Z, a0, n⟩ := G; obtain ⟨p, e, R', s, m, args, below, meth, c, kc', ks'⟩ := K
  obtain ⟨hx, hZ, hown, hby, hml, hret, hlk, rfl, hnm, rfl, rfl, hw⟩ := O
  subst hp hc2 hs2
  intro T locs real X N S A L
  obtain ⟨vs, h1, h2⟩ := bnd hr
  have hv : vs.length ≤ cap ∧ vs.all (fun v => (getI v).isSome) = true := Decidable.byContradiction fun hv => by rw [if_neg hv] at h2; cases h2
  rw [if_pos hv] at h2
  cases h2
  obtain ⟨EX, cl, B, es⟩ := S.2 i _ (arr_e h1)
  have FC : FitC Z cl := fitC_of B fun j hj v hjv => by
    rw [es] at hjv
    simp only [List.getElem?_toArray, List.getElem?_map, Option.map_eq_some_iff] at hjv
    obtain ⟨u, q1, q2⟩ := hjv
    have := List.all_eq_true.mp hv.2 u (List.mem_of_getElem? q1)
    cases u <;> simp [getI] at this
    rw [← q2]; rfl
  obtain ⟨T', h', X', e', E, B', EX', stp⟩ := cloneA X hx hZ hown (hw _ w1) (hw _ w2) (hw _ w3) (hw _ w4) (hw _ w5) (hw _ w6) rfl B EX FC (g := mkF m pc real ((.ref i :: st).map (sh n))) rfl (by show real.size = _; rw [L.1, hml]; exact hLs) rfl (hb hby hd) hf (W := W) (cap := cap) (by show 2 * 0 + _ ≤ _; rw [cat_sum, hW]; exact Nat.le_of_eq (Nat.zero_add _)) hl (by rw [sl_len es]; exact hv.1) hc hs
  have hsz : h'.size = T.heap.size + 1 := by
    have a1 : Array.size T.heap < Array.size h' := B'.lt
    have a2 : Array.size T'.heap ≤ Array.size s.heap + (cells + 1) := X'.heapSize
    rw [e'] at a2
    have a3 : Array.size T.heap = n + H.length := S.1
    have a4 : Array.size s.heap + cells = n + H.length := A
    omega
  have ea : T.heap.size = n + H.length := S.1
  have S' : Sim (l, Z, a0, n) (H ++ [.inl (.int, vs)]) T'.heap := by
    rw [e']
    exact sim_ext S E hsz ⟨EX', _, B', es⟩
  refine Done.step stp ?_
  have k' := k T' locs real X' N S' (by simp only [List.length_append, List.length_singleton] at A ⊢; omega) L
  rw [ea]
  exact k'
theorem g_checkcastI {ix i : Nat} {vs : List Value} (O : Ok G K own bytes maxL ret R mn kc ks) (hd : decode bytes pc = .ok (.checkcast ix, 3)) (w1 : Jvm.Cond.classLink own ix "[I" ∈ tables_1) (ha : arr .int H i = some vs) (hp : pc + 3 = pc')
    (k : Run G K rv Hf pc' Ls (.ref i :: st) H cells slots) : Run G K rv Hf pc Ls (.ref i :: st) H cells slots := by
  obtain ⟨l, Z, a0, n⟩ := G; obtain ⟨p, e, R', s, m, args, below, meth, c, kc', ks'⟩ := K
  obtain ⟨hx, hZ, hown, hby, hml, hret, hlk, rfl, hnm, rfl, rfl, hw⟩ := O
  subst hp
  intro T locs real X N S A L
  obtain ⟨EX, cl, B, es⟩ := S.2 i _ (arr_e ha)
  obtain ⟨T', X', e', stp⟩ := castY X hx hZ hown (hw _ w1) rfl (Ins.self EX) (g := mkF m pc real ((.ref i :: st).map (sh n))) rfl rfl (hb hby hd)
  exact Done.step stp (k T' locs real X' N (by rw [e']; exact S) A L)
end Laws
/-! small facts on numbers -/
theorem own_n0 : nar .boolean 0 = 0 := rfl
theorem own_n1 : nar .boolean 1 = 1 := rfl
theorem own_fin {r : Int32} {N : Nat} (h0 : 0 ≤ r.toInt) (h1 : r.toInt < N) (hN : N ≤ 2147483648) : ∃ j : Fin N, r = (j.1).toInt32 := by
  refine ⟨⟨r.toInt.toNat, by omega⟩, Int32.toInt_inj.mp ?_⟩
  show r.toInt = (r.toInt.toNat).toInt32.toInt
  rw [len_toInt (by show r.toInt.toNat < 2 ^ 31; omega)]
  omega
theorem own_lt {x y : Int32} : x < y ↔ x.toInt < y.toInt := Int32.lt_iff_toInt_lt
theorem own_le {x y : Int32} : x ≤ y ↔ x.toInt ≤ y.toInt := Int32.le_iff_toInt_le
theorem own_eq {x y : Int32} : x = y ↔ x.toInt = y.toInt := Int32.toInt_inj.symm
theorem own_ltL {x y : Int64} : x < y ↔ x.toInt < y.toInt := Int64.lt_iff_toInt_lt
theorem own_eqL {x y : Int64} : x = y ↔ x.toInt = y.toInt := Int64.toInt_inj.symm
/-- x & (2^31 - 1), then a remainder by a small number -/
theorem own_m31 (a : Int32) : (a &&& 2147483647).toInt = a.toInt % 2147483648 := c_mask a 2147483647 31 (by decide) (by decide)
theorem own_mod {a y : Int32} {d : Int} (hy : y.toInt = d) (h : 0 ≤ a.toInt) : (a % y).toInt = a.toInt % d := (c_irem a y d hy).1 h

/-! body 1 -/
theorem d1_0 : decode prog_28_method_1_code 0 = .ok (.aload_n 0, 1) := by decide +kernel
theorem d1_1 : decode prog_28_method_1_code 1 = .ok (.invokespecial 1, 3) := by decide +kernel
theorem d1_4 : decode prog_28_method_1_code 4 = .ok (.aload_n 0, 1) := by decide +kernel
theorem d1_5 : decode prog_28_method_1_code 5 = .ok (.bipush 8, 2) := by decide +kernel
theorem d1_7 : decode prog_28_method_1_code 7 = .ok (.newarray .int, 2) := by decide +kernel
theorem d1_9 : decode prog_28_method_1_code 9 = .ok (.putfield 7, 3) := by decide +kernel
theorem d1_12 : decode prog_28_method_1_code 12 = .ok (.return_, 1) := by decide +kernel
theorem pd1 : parseMethodDescriptor "()V" = some ⟨[], none⟩ := by decide +kernel
theorem pn1 : plainFor (⟨"com/example/lexweave/lexweave/IntList", "<init>", "()V"⟩ : MethodName) = true := by first | exact plainFor_of_name (by first | (simp [plainName, overriddenIn]; done) | decide +kernel) | decide +kernel
abbrev rm1 : Room := { frames := 1, cells := 1, slots := 8, locals := 12 }
abbrev Ok1 (G : Gx) (K : Kx) : Prop := Ok G K "com/example/lexweave/lexweave/IntList" prog_28_method_1_code 1 (Option.none : Option FieldType) rm1 "<init>" 1 8
def m1_b0 (v0 : Nat) (H : List Obj) : Option (List Obj) :=
  (mkArr .int 8 H (8 : Int32)).bind fun H7 =>
  (setF 0 0 H7 v0 (.ref (H.length))).bind fun H9 =>
  some H9
theorem m1_t0 {G : Gx} {K : Kx} (O : Ok1 G K) (v0 : Nat) (H : List Obj) (_ : Unit) (Hf : List Obj) (hf : m1_b0 v0 H = some Hf) : Run G K none Hf 0 [some (.ref v0)] [] H 0 0 := by
  unfold m1_b0 at hf
  refine g_aload_n O (pc' := 1) d1_0 (v := v0) rfl rfl ?_
  refine g_objinit O (pc' := 4) d1_1 tw8 tw9 tw10 rfl (W := 0) rfl (by decide) (by decide) rfl ?_
  refine g_aload_n O (pc' := 5) d1_4 (v := v0) rfl rfl ?_
  refine g_bipush O (pc' := 7) d1_5 (v := 8) (by decide) rfl ?_
  obtain ⟨H7, h7, hf⟩ := bnd hf
  refine g_newarray O (pc' := 9) d1_7 (cap := 8) tw1 h7 (by decide) (c2 := 1) (s2 := 8) rfl rfl (by decide) (by decide) rfl ?_
  obtain ⟨H9, h9, hf⟩ := bnd hf
  refine g_putfield O (pc' := 12) d1_9 (t := 0) (kf := 0) rfl tw11 (Or.inl tw12) tw3 (ty := (.array .int)) (by decide) (fun _ => rfl) (fun _ => rfl) h9 rfl ?_
  cases hf
  exact g_ret_void O d1_12 rfl (by decide)
abbrev m1 (v0 : Nat) (H : List Obj) : Option (List Obj) := m1_b0 v0 H
theorem con1 {G : Gx} (hw : ∀ d ∈ tables_1, d.before G.2.2.1 G.2.1 = true) (v0 : Nat) (H : List Obj) {Hf : List Obj} (hf : m1 v0 H = some Hf) : Con G (⟨"com/example/lexweave/lexweave/IntList", "<init>", "()V"⟩ : MethodName) prog_28_method_1_code 1 (Option.none : Option FieldType) rm1 [(.ref v0)] H none Hf :=
  con_of hw pn1 rfl fun K O => m1_t0 O v0 H () Hf hf

/-! body 2 -/
theorem d2_0 : decode prog_28_method_5_code 0 = .ok (.iload_n 1, 1) := by decide +kernel
theorem d2_1 : decode prog_28_method_5_code 1 = .ok (.istore_n 2, 1) := by decide +kernel
theorem d2_2 : decode prog_28_method_5_code 2 = .ok (.aload_n 0, 1) := by decide +kernel
theorem d2_3 : decode prog_28_method_5_code 3 = .ok (.getfield 13, 3) := by decide +kernel
theorem d2_6 : decode prog_28_method_5_code 6 = .ok (.iconst 1, 1) := by decide +kernel
theorem d2_7 : decode prog_28_method_5_code 7 = .ok (.isub, 1) := by decide +kernel
theorem d2_8 : decode prog_28_method_5_code 8 = .ok (.istore_n 3, 1) := by decide +kernel
theorem d2_9 : decode prog_28_method_5_code 9 = .ok (.iload_n 2, 1) := by decide +kernel
theorem d2_10 : decode prog_28_method_5_code 10 = .ok (.iload_n 3, 1) := by decide +kernel
theorem d2_11 : decode prog_28_method_5_code 11 = .ok (.if_icmp .ge 40, 3) := by decide +kernel
theorem d2_14 : decode prog_28_method_5_code 14 = .ok (.aload_n 0, 1) := by decide +kernel
theorem d2_15 : decode prog_28_method_5_code 15 = .ok (.getfield 7, 3) := by decide +kernel
theorem d2_18 : decode prog_28_method_5_code 18 = .ok (.iload_n 2, 1) := by decide +kernel
theorem d2_19 : decode prog_28_method_5_code 19 = .ok (.iaload, 1) := by decide +kernel
theorem d2_20 : decode prog_28_method_5_code 20 = .ok (.istore 4, 2) := by decide +kernel
theorem d2_22 : decode prog_28_method_5_code 22 = .ok (.aload_n 0, 1) := by decide +kernel
theorem d2_23 : decode prog_28_method_5_code 23 = .ok (.getfield 7, 3) := by decide +kernel
theorem d2_26 : decode prog_28_method_5_code 26 = .ok (.iload_n 2, 1) := by decide +kernel
theorem d2_27 : decode prog_28_method_5_code 27 = .ok (.aload_n 0, 1) := by decide +kernel
theorem d2_28 : decode prog_28_method_5_code 28 = .ok (.getfield 7, 3) := by decide +kernel
theorem d2_31 : decode prog_28_method_5_code 31 = .ok (.iload_n 3, 1) := by decide +kernel
theorem d2_32 : decode prog_28_method_5_code 32 = .ok (.iaload, 1) := by decide +kernel
theorem d2_33 : decode prog_28_method_5_code 33 = .ok (.iastore, 1) := by decide +kernel
theorem d2_34 : decode prog_28_method_5_code 34 = .ok (.aload_n 0, 1) := by decide +kernel
theorem d2_35 : decode prog_28_method_5_code 35 = .ok (.getfield 7, 3) := by decide +kernel
theorem d2_38 : decode prog_28_method_5_code 38 = .ok (.iload_n 3, 1) := by decide +kernel
theorem d2_39 : decode prog_28_method_5_code 39 = .ok (.iload 4, 2) := by decide +kernel
theorem d2_41 : decode prog_28_method_5_code 41 = .ok (.iastore, 1) := by decide +kernel
theorem d2_42 : decode prog_28_method_5_code 42 = .ok (.iinc 2 1, 3) := by decide +kernel
theorem d2_45 : decode prog_28_method_5_code 45 = .ok (.iinc 3 (-1), 3) := by decide +kernel
theorem d2_48 : decode prog_28_method_5_code 48 = .ok (.goto (-39), 3) := by decide +kernel
theorem d2_51 : decode prog_28_method_5_code 51 = .ok (.return_, 1) := by decide +kernel
theorem pd2 : parseMethodDescriptor "(I)V" = some ⟨[.int], none⟩ := by decide +kernel
theorem pn2 : plainFor (⟨"com/example/lexweave/lexweave/IntList", "reverseFrom", "(I)V"⟩ : MethodName) = true := by first | exact plainFor_of_name (by first | (simp [plainName, overriddenIn]; done) | decide +kernel) | decide +kernel
abbrev rm2 : Room := { frames := 0, cells := 0, slots := 0, locals := 0 }
abbrev Ok2 (G : Gx) (K : Kx) : Prop := Ok G K "com/example/lexweave/lexweave/IntList" prog_28_method_5_code 5 (Option.none : Option FieldType) rm2 "reverseFrom" 0 0
def m2_b9 : Nat → Nat → Int32 → Int32 → List Obj → Option (List Obj)
  | 0, _, _, _, _ => none
  | n + 1, v0, v2, v3, H =>
    if v2 < v3 then
      (fldA 0 0 H v0).bind fun x15 =>
      (rdI .int H x15 v2).bind fun x19 =>
      (fldA 0 0 H v0).bind fun x23 =>
      (fldA 0 0 H v0).bind fun x28 =>
      (rdI .int H x28 v3).bind fun x32 =>
      (wr .int H x23 v2 (.int x32)).bind fun H33 =>
      (fldA 0 0 H33 v0).bind fun x35 =>
      (wr .int H33 x35 v3 (.int x19)).bind fun H41 =>
      m2_b9 n v0 (v2 + (1 : Int32)) (v3 + (-1 : Int32)) H41
    else
      some H
theorem m2_t9 {G : Gx} {K : Kx} (O : Ok2 G K) : ∀ (n : Nat) (v0 : Nat) (v2 : Int32) (v3 : Int32) (H : List Obj) (_ : Unit) (Hf : List Obj), m2_b9 n v0 v2 v3 H = some Hf → Run G K none Hf 9 [some (.ref v0), none, some (.int v2), some (.int v3), none] [] H 0 0 := by
  intro n
  induction n with
  | zero => intro v0 v2 v3 H r Hf hf; cases hf
  | succ n ih =>
    intro v0 v2 v3 H r Hf hf
    rw [m2_b9] at hf
    refine g_iload_n O (pc' := 10) d2_9 (v := v2) rfl rfl ?_
    refine g_iload_n O (pc' := 11) d2_10 (v := v3) rfl rfl ?_
    refine g_icmp_ge O (pc' := 14) d2_11 rfl (by decide) (pc1 := 51) (by decide) (fun h11 => ?_) (fun h11 => ?_)
    · rw [if_neg h11] at hf
      cases hf
      exact g_ret_void O d2_51 rfl (by decide)
    · rw [if_pos h11] at hf
      refine g_aload_n O (pc' := 15) d2_14 (v := v0) rfl rfl ?_
      obtain ⟨x15, h15, hf⟩ := bnd hf
      refine g_getfield O (pc' := 18) d2_15 (t := 0) (kf := 0) rfl tw11 (fldA_e h15) rfl ?_
      refine g_iload_n O (pc' := 19) d2_18 (v := v2) rfl rfl ?_
      obtain ⟨x19, h19, hf⟩ := bnd hf
      refine g_iaload O (pc' := 20) d2_19 h19 rfl ?_
      refine g_istore O (pc' := 22) d2_20 (Ls' := [some (.ref v0), none, some (.int v2), some (.int v3), some (.int x19)]) rfl rfl ?_
      refine g_aload_n O (pc' := 23) d2_22 (v := v0) rfl rfl ?_
      obtain ⟨x23, h23, hf⟩ := bnd hf
      refine g_getfield O (pc' := 26) d2_23 (t := 0) (kf := 0) rfl tw11 (fldA_e h23) rfl ?_
      refine g_iload_n O (pc' := 27) d2_26 (v := v2) rfl rfl ?_
      refine g_aload_n O (pc' := 28) d2_27 (v := v0) rfl rfl ?_
      obtain ⟨x28, h28, hf⟩ := bnd hf
      refine g_getfield O (pc' := 31) d2_28 (t := 0) (kf := 0) rfl tw11 (fldA_e h28) rfl ?_
      refine g_iload_n O (pc' := 32) d2_31 (v := v3) rfl rfl ?_
      obtain ⟨x32, h32, hf⟩ := bnd hf
      refine g_iaload O (pc' := 33) d2_32 h32 rfl ?_
      obtain ⟨H33, h33, hf⟩ := bnd hf
      refine g_iastore O (pc' := 34) d2_33 h33 rfl ?_
      refine g_aload_n O (pc' := 35) d2_34 (v := v0) rfl rfl ?_
      obtain ⟨x35, h35, hf⟩ := bnd hf
      refine g_getfield O (pc' := 38) d2_35 (t := 0) (kf := 0) rfl tw11 (fldA_e h35) rfl ?_
      refine g_iload_n O (pc' := 39) d2_38 (v := v3) rfl rfl ?_
      refine g_iload O (pc' := 41) d2_39 (v := x19) rfl rfl ?_
      obtain ⟨H41, h41, hf⟩ := bnd hf
      refine g_iastore O (pc' := 42) d2_41 h41 rfl ?_
      refine g_iinc O (pc' := 45) d2_42 (w := 1) (v := v2) (by decide) rfl (Ls' := [some (.ref v0), none, some (.int (v2 + (1 : Int32))), some (.int v3), some (.int x19)]) rfl rfl ?_
      refine g_iinc O (pc' := 48) d2_45 (w := -1) (v := v3) (by decide) rfl (Ls' := [some (.ref v0), none, some (.int (v2 + (1 : Int32))), some (.int (v3 + (-1 : Int32))), some (.int x19)]) rfl rfl ?_
      refine g_goto O d2_48 (by decide) (pc' := 9) (by decide) ?_
      refine g_forget (Ls' := [some (.ref v0), none, some (.int (v2 + (1 : Int32))), some (.int (v3 + (-1 : Int32))), none]) (And.intro rfl (And.intro rfl (And.intro rfl trivial))) ?_
      exact ih v0 (v2 + (1 : Int32)) (v3 + (-1 : Int32)) H41 () _ hf
def m2_b0 (v0 : Nat) (v1 : Int32) (H : List Obj) : Option (List Obj) :=
  (fldI 0 1 H v0).bind fun x3 =>
  m2_b9 8 v0 v1 (x3 - (1 : Int32)) H
theorem m2_t0 {G : Gx} {K : Kx} (O : Ok2 G K) (v0 : Nat) (v1 : Int32) (H : List Obj) (_ : Unit) (Hf : List Obj) (hf : m2_b0 v0 v1 H = some Hf) : Run G K none Hf 0 [some (.ref v0), some (.int v1), none, none, none] [] H 0 0 := by
  unfold m2_b0 at hf
  refine g_iload_n O (pc' := 1) d2_0 (v := v1) rfl rfl ?_
  refine g_istore_n O (pc' := 2) d2_1 (Ls' := [some (.ref v0), some (.int v1), some (.int v1), none, none]) rfl rfl ?_
  refine g_aload_n O (pc' := 3) d2_2 (v := v0) rfl rfl ?_
  obtain ⟨x3, h3, hf⟩ := bnd hf
  refine g_getfield O (pc' := 6) d2_3 (t := 0) (kf := 1) rfl tw18 (fldI_e h3) rfl ?_
  refine g_iconst O (pc' := 7) d2_6 (v := 1) (by decide) rfl ?_
  refine g_isub O (pc' := 8) d2_7 rfl ?_
  refine g_istore_n O (pc' := 9) d2_8 (Ls' := [some (.ref v0), some (.int v1), some (.int v1), some (.int (x3 - (1 : Int32))), none]) rfl rfl ?_
  refine g_forget (Ls' := [some (.ref v0), none, some (.int v1), some (.int (x3 - (1 : Int32))), none]) (And.intro rfl (And.intro rfl (And.intro rfl trivial))) ?_
  exact m2_t9 O 8 v0 v1 (x3 - (1 : Int32)) H () _ hf
abbrev m2 (v0 : Nat) (v1 : Int32) (H : List Obj) : Option (List Obj) := m2_b0 v0 v1 H
theorem con2 {G : Gx} (hw : ∀ d ∈ tables_1, d.before G.2.2.1 G.2.1 = true) (v0 : Nat) (v1 : Int32) (H : List Obj) {Hf : List Obj} (hf : m2 v0 v1 H = some Hf) : Con G (⟨"com/example/lexweave/lexweave/IntList", "reverseFrom", "(I)V"⟩ : MethodName) prog_28_method_5_code 5 (Option.none : Option FieldType) rm2 [(.ref v0), (.int v1)] H none Hf :=
  con_of hw pn2 rfl fun K O => m2_t0 O v0 v1 H () Hf hf

/-! body 3 -/
theorem d3_0 : decode prog_28_method_8_code 0 = .ok (.aload_n 0, 1) := by decide +kernel
theorem d3_1 : decode prog_28_method_8_code 1 = .ok (.getfield 13, 3) := by decide +kernel
theorem d3_4 : decode prog_28_method_8_code 4 = .ok (.ireturn, 1) := by decide +kernel
theorem pd3 : parseMethodDescriptor "()I" = some ⟨[], some .int⟩ := by decide +kernel
theorem pn3 : plainFor (⟨"com/example/lexweave/lexweave/IntList", "size", "()I"⟩ : MethodName) = true := by first | exact plainFor_of_name (by first | (simp [plainName, overriddenIn]; done) | decide +kernel) | decide +kernel
abbrev rm3 : Room := { frames := 0, cells := 0, slots := 0, locals := 0 }
abbrev Ok3 (G : Gx) (K : Kx) : Prop := Ok G K "com/example/lexweave/lexweave/IntList" prog_28_method_8_code 1 (Option.some FieldType.int) rm3 "size" 0 0
def m3_b0 (v0 : Nat) (H : List Obj) : Option (Int32 × List Obj) :=
  (fldI 0 1 H v0).bind fun x1 =>
  some (x1, H)
theorem m3_t0 {G : Gx} {K : Kx} (O : Ok3 G K) (v0 : Nat) (H : List Obj) (r : Int32) (Hf : List Obj) (hf : m3_b0 v0 H = some (r, Hf)) : Run G K (some (.int r)) Hf 0 [some (.ref v0)] [] H 0 0 := by
  unfold m3_b0 at hf
  refine g_aload_n O (pc' := 1) d3_0 (v := v0) rfl rfl ?_
  obtain ⟨x1, h1, hf⟩ := bnd hf
  refine g_getfield O (pc' := 4) d3_1 (t := 0) (kf := 1) rfl tw18 (fldI_e h1) rfl ?_
  cases hf
  exact g_ret_int O d3_4 rfl (by decide)
abbrev m3 (v0 : Nat) (H : List Obj) : Option (Int32 × List Obj) := m3_b0 v0 H
theorem con3 {G : Gx} (hw : ∀ d ∈ tables_1, d.before G.2.2.1 G.2.1 = true) (v0 : Nat) (H : List Obj) {r : Int32} {Hf : List Obj} (hf : m3 v0 H = some (r, Hf)) : Con G (⟨"com/example/lexweave/lexweave/IntList", "size", "()I"⟩ : MethodName) prog_28_method_8_code 1 (Option.some FieldType.int) rm3 [(.ref v0)] H (some (.int r)) Hf :=
  con_of hw pn3 rfl fun K O => m3_t0 O v0 H r Hf hf

/-! body 6 -/
theorem d6_0 : decode prog_28_method_6_code 0 = .ok (.aload_n 0, 1) := by decide +kernel
theorem d6_1 : decode prog_28_method_6_code 1 = .ok (.getfield 7, 3) := by decide +kernel
theorem d6_4 : decode prog_28_method_6_code 4 = .ok (.iload_n 1, 1) := by decide +kernel
theorem d6_5 : decode prog_28_method_6_code 5 = .ok (.iaload, 1) := by decide +kernel
theorem d6_6 : decode prog_28_method_6_code 6 = .ok (.ireturn, 1) := by decide +kernel
theorem pd6 : parseMethodDescriptor "(I)I" = some ⟨[.int], some .int⟩ := by decide +kernel
theorem pn6 : plainFor (⟨"com/example/lexweave/lexweave/IntList", "get", "(I)I"⟩ : MethodName) = true := by first | exact plainFor_of_name (by first | (simp [plainName, overriddenIn]; done) | decide +kernel) | decide +kernel
abbrev rm6 : Room := { frames := 0, cells := 0, slots := 0, locals := 0 }
abbrev Ok6 (G : Gx) (K : Kx) : Prop := Ok G K "com/example/lexweave/lexweave/IntList" prog_28_method_6_code 2 (Option.some FieldType.int) rm6 "get" 0 0
def m6_b0 (v0 : Nat) (v1 : Int32) (H : List Obj) : Option (Int32 × List Obj) :=
  (fldA 0 0 H v0).bind fun x1 =>
  (rdI .int H x1 v1).bind fun x5 =>
  some (x5, H)
theorem m6_t0 {G : Gx} {K : Kx} (O : Ok6 G K) (v0 : Nat) (v1 : Int32) (H : List Obj) (r : Int32) (Hf : List Obj) (hf : m6_b0 v0 v1 H = some (r, Hf)) : Run G K (some (.int r)) Hf 0 [some (.ref v0), some (.int v1)] [] H 0 0 := by
  unfold m6_b0 at hf
  refine g_aload_n O (pc' := 1) d6_0 (v := v0) rfl rfl ?_
  obtain ⟨x1, h1, hf⟩ := bnd hf
  refine g_getfield O (pc' := 4) d6_1 (t := 0) (kf := 0) rfl tw11 (fldA_e h1) rfl ?_
  refine g_iload_n O (pc' := 5) d6_4 (v := v1) rfl rfl ?_
  obtain ⟨x5, h5, hf⟩ := bnd hf
  refine g_iaload O (pc' := 6) d6_5 h5 rfl ?_
  cases hf
  exact g_ret_int O d6_6 rfl (by decide)
abbrev m6 (v0 : Nat) (v1 : Int32) (H : List Obj) : Option (Int32 × List Obj) := m6_b0 v0 v1 H
theorem con6 {G : Gx} (hw : ∀ d ∈ tables_1, d.before G.2.2.1 G.2.1 = true) (v0 : Nat) (v1 : Int32) (H : List Obj) {r : Int32} {Hf : List Obj} (hf : m6 v0 v1 H = some (r, Hf)) : Con G (⟨"com/example/lexweave/lexweave/IntList", "get", "(I)I"⟩ : MethodName) prog_28_method_6_code 2 (Option.some FieldType.int) rm6 [(.ref v0), (.int v1)] H (some (.int r)) Hf :=
  con_of hw pn6 rfl fun K O => m6_t0 O v0 v1 H r Hf hf

/-! body 7 -/
theorem d7_0 : decode method_2_code 0 = .ok (.iload_n 3, 1) := by decide +kernel
theorem d7_1 : decode method_2_code 1 = .ok (.iload_n 2, 1) := by decide +kernel
theorem d7_2 : decode method_2_code 2 = .ok (.if_icmp .ge 7, 3) := by decide +kernel
theorem d7_5 : decode method_2_code 5 = .ok (.aload_n 0, 1) := by decide +kernel
theorem d7_6 : decode method_2_code 6 = .ok (.iload_n 3, 1) := by decide +kernel
theorem d7_7 : decode method_2_code 7 = .ok (.iaload, 1) := by decide +kernel
theorem d7_8 : decode method_2_code 8 = .ok (.ireturn, 1) := by decide +kernel
theorem d7_9 : decode method_2_code 9 = .ok (.aload_n 0, 1) := by decide +kernel
theorem d7_10 : decode method_2_code 10 = .ok (.iload_n 2, 1) := by decide +kernel
theorem d7_11 : decode method_2_code 11 = .ok (.iload_n 1, 1) := by decide +kernel
theorem d7_12 : decode method_2_code 12 = .ok (.iconst 1, 1) := by decide +kernel
theorem d7_13 : decode method_2_code 13 = .ok (.isub, 1) := by decide +kernel
theorem d7_14 : decode method_2_code 14 = .ok (.iadd, 1) := by decide +kernel
theorem d7_15 : decode method_2_code 15 = .ok (.iload_n 3, 1) := by decide +kernel
theorem d7_16 : decode method_2_code 16 = .ok (.isub, 1) := by decide +kernel
theorem d7_17 : decode method_2_code 17 = .ok (.iaload, 1) := by decide +kernel
theorem d7_18 : decode method_2_code 18 = .ok (.ireturn, 1) := by decide +kernel
theorem pd7 : parseMethodDescriptor "([IIII)I" = some ⟨[.array .int, .int, .int, .int], some .int⟩ := by decide +kernel
theorem pn7 : plainFor (⟨"com/example/lexweave/lexweave/IntListReverseFromPinLaw", "expected", "([IIII)I"⟩ : MethodName) = true := by first | exact plainFor_of_name (by first | (simp [plainName, overriddenIn]; done) | decide +kernel) | decide +kernel
abbrev rm7 : Room := { frames := 0, cells := 0, slots := 0, locals := 0 }
abbrev Ok7 (G : Gx) (K : Kx) : Prop := Ok G K "com/example/lexweave/lexweave/IntListReverseFromPinLaw" method_2_code 4 (Option.some FieldType.int) rm7 "expected" 0 0
def m7_b0 (v0 : Nat) (v1 : Int32) (v2 : Int32) (v3 : Int32) (H : List Obj) : Option (Int32 × List Obj) :=
  if v3 < v2 then
    (rdI .int H v0 v3).bind fun x7 =>
    some (x7, H)
  else
    (rdI .int H v0 ((v2 + (v1 - (1 : Int32))) - v3)).bind fun x17 =>
    some (x17, H)
theorem m7_t0 {G : Gx} {K : Kx} (O : Ok7 G K) (v0 : Nat) (v1 : Int32) (v2 : Int32) (v3 : Int32) (H : List Obj) (r : Int32) (Hf : List Obj) (hf : m7_b0 v0 v1 v2 v3 H = some (r, Hf)) : Run G K (some (.int r)) Hf 0 [some (.ref v0), some (.int v1), some (.int v2), some (.int v3)] [] H 0 0 := by
  unfold m7_b0 at hf
  refine g_iload_n O (pc' := 1) d7_0 (v := v3) rfl rfl ?_
  refine g_iload_n O (pc' := 2) d7_1 (v := v2) rfl rfl ?_
  refine g_icmp_ge O (pc' := 5) d7_2 rfl (by decide) (pc1 := 9) (by decide) (fun h2 => ?_) (fun h2 => ?_)
  · rw [if_neg h2] at hf
    refine g_aload_n O (pc' := 10) d7_9 (v := v0) rfl rfl ?_
    refine g_iload_n O (pc' := 11) d7_10 (v := v2) rfl rfl ?_
    refine g_iload_n O (pc' := 12) d7_11 (v := v1) rfl rfl ?_
    refine g_iconst O (pc' := 13) d7_12 (v := 1) (by decide) rfl ?_
    refine g_isub O (pc' := 14) d7_13 rfl ?_
    refine g_iadd O (pc' := 15) d7_14 rfl ?_
    refine g_iload_n O (pc' := 16) d7_15 (v := v3) rfl rfl ?_
    refine g_isub O (pc' := 17) d7_16 rfl ?_
    obtain ⟨x17, h17, hf⟩ := bnd hf
    refine g_iaload O (pc' := 18) d7_17 h17 rfl ?_
    cases hf
    exact g_ret_int O d7_18 rfl (by decide)
  · rw [if_pos h2] at hf
    refine g_aload_n O (pc' := 6) d7_5 (v := v0) rfl rfl ?_
    refine g_iload_n O (pc' := 7) d7_6 (v := v3) rfl rfl ?_
    obtain ⟨x7, h7, hf⟩ := bnd hf
    refine g_iaload O (pc' := 8) d7_7 h7 rfl ?_
    cases hf
    exact g_ret_int O d7_8 rfl (by decide)
abbrev m7 (v0 : Nat) (v1 : Int32) (v2 : Int32) (v3 : Int32) (H : List Obj) : Option (Int32 × List Obj) := m7_b0 v0 v1 v2 v3 H
theorem con7 {G : Gx} (hw : ∀ d ∈ tables_1, d.before G.2.2.1 G.2.1 = true) (v0 : Nat) (v1 : Int32) (v2 : Int32) (v3 : Int32) (H : List Obj) {r : Int32} {Hf : List Obj} (hf : m7 v0 v1 v2 v3 H = some (r, Hf)) : Con G (⟨"com/example/lexweave/lexweave/IntListReverseFromPinLaw", "expected", "([IIII)I"⟩ : MethodName) method_2_code 4 (Option.some FieldType.int) rm7 [(.ref v0), (.int v1), (.int v2), (.int v3)] H (some (.int r)) Hf :=
  con_of hw pn7 rfl fun K O => m7_t0 O v0 v1 v2 v3 H r Hf hf

/-! body 4 -/
theorem d4_0 : decode method_3_code 0 = .ok (.iload 4, 2) := by decide +kernel
theorem d4_2 : decode method_3_code 2 = .ok (.iload_n 2, 1) := by decide +kernel
theorem d4_3 : decode method_3_code 3 = .ok (.if_icmp .lt 5, 3) := by decide +kernel
theorem d4_6 : decode method_3_code 6 = .ok (.iconst 1, 1) := by decide +kernel
theorem d4_7 : decode method_3_code 7 = .ok (.ireturn, 1) := by decide +kernel
theorem d4_8 : decode method_3_code 8 = .ok (.aload_n 0, 1) := by decide +kernel
theorem d4_9 : decode method_3_code 9 = .ok (.iload 4, 2) := by decide +kernel
theorem d4_11 : decode method_3_code 11 = .ok (.invokevirtual 7, 3) := by decide +kernel
theorem d4_14 : decode method_3_code 14 = .ok (.aload_n 1, 1) := by decide +kernel
theorem d4_15 : decode method_3_code 15 = .ok (.iload_n 2, 1) := by decide +kernel
theorem d4_16 : decode method_3_code 16 = .ok (.iload_n 3, 1) := by decide +kernel
theorem d4_17 : decode method_3_code 17 = .ok (.iload 4, 2) := by decide +kernel
theorem d4_19 : decode method_3_code 19 = .ok (.invokestatic 13, 3) := by decide +kernel
theorem d4_22 : decode method_3_code 22 = .ok (.if_icmp .ne 7, 3) := by decide +kernel
theorem d4_25 : decode method_3_code 25 = .ok (.iconst 1, 1) := by decide +kernel
theorem d4_26 : decode method_3_code 26 = .ok (.goto 4, 3) := by decide +kernel
theorem d4_29 : decode method_3_code 29 = .ok (.iconst 0, 1) := by decide +kernel
theorem d4_30 : decode method_3_code 30 = .ok (.ireturn, 1) := by decide +kernel
theorem pd4 : parseMethodDescriptor "(Lcom/example/lexweave/lexweave/IntList;[IIII)Z" = some ⟨[.object "com/example/lexweave/lexweave/IntList", .array .int, .int, .int, .int], some .boolean⟩ := by decide +kernel
theorem pn4 : plainFor (⟨"com/example/lexweave/lexweave/IntListReverseFromPinLaw", "check", "(Lcom/example/lexweave/lexweave/IntList;[IIII)Z"⟩ : MethodName) = true := by first | exact plainFor_of_name (by first | (simp [plainName, overriddenIn]; done) | decide +kernel) | decide +kernel
abbrev rm4 : Room := { frames := 1, cells := 0, slots := 0, locals := 16 }
abbrev Ok4 (G : Gx) (K : Kx) : Prop := Ok G K "com/example/lexweave/lexweave/IntListReverseFromPinLaw" method_3_code 5 (Option.some FieldType.boolean) rm4 "check" 0 0
def m4_b30 (t0 : Int32) (H : List Obj) : Option (Int32 × List Obj) :=
  some ((nar .boolean t0), H)
theorem m4_t30 {G : Gx} {K : Kx} (O : Ok4 G K) (t0 : Int32) (H : List Obj) (r : Int32) (Hf : List Obj) (hf : m4_b30 t0 H = some (r, Hf)) : Run G K (some (.int r)) Hf 30 [none, none, none, none, none] [(.int t0)] H 0 0 := by
  unfold m4_b30 at hf
  cases hf
  exact g_ret_nar O d4_30 (by simp) rfl rfl (by decide)
def m4_b0 (v0 : Nat) (v1 : Nat) (v2 : Int32) (v3 : Int32) (v4 : Int32) (H : List Obj) : Option (Int32 × List Obj) :=
  if v4 < v2 then
    (obj 0 H v0).bind fun _ =>
    (m6 v0 v4 H).bind fun q11 =>
    (m7 v1 v2 v3 v4 q11.2).bind fun q19 =>
    if q11.1 = q19.1 then
      m4_b30 (1 : Int32) q19.2
    else
      m4_b30 (0 : Int32) q19.2
  else
    some ((1 : Int32), H)
theorem m4_t0 {G : Gx} {K : Kx} (O : Ok4 G K) (v0 : Nat) (v1 : Nat) (v2 : Int32) (v3 : Int32) (v4 : Int32) (H : List Obj) (r : Int32) (Hf : List Obj) (hf : m4_b0 v0 v1 v2 v3 v4 H = some (r, Hf)) : Run G K (some (.int r)) Hf 0 [some (.ref v0), some (.ref v1), some (.int v2), some (.int v3), some (.int v4)] [] H 0 0 := by
  unfold m4_b0 at hf
  refine g_iload O (pc' := 2) d4_0 (v := v4) rfl rfl ?_
  refine g_iload_n O (pc' := 3) d4_2 (v := v2) rfl rfl ?_
  refine g_icmp_lt O (pc' := 6) d4_3 rfl (by decide) (pc1 := 8) (by decide) (fun h3 => ?_) (fun h3 => ?_)
  · rw [if_pos h3] at hf
    refine g_aload_n O (pc' := 9) d4_8 (v := v0) rfl rfl ?_
    refine g_iload O (pc' := 11) d4_9 (v := v4) rfl rfl ?_
    obtain ⟨_, ho11, hf⟩ := bnd hf
    obtain ⟨⟨x11, H11⟩, h11, hf⟩ := bnd hf
    dsimp only at hf
    refine g_virtual1 O (pc' := 14) d4_11 (t := 0) tw34 tw35 tw37 tw36 tw4 tw38 (by decide) (ho11) pd6 (as := [(.int v4)]) rfl (st := []) rfl rfl (W := 0) rfl (rm := rm6) (by decide) (by decide) (c2 := 0) (s2 := 0) rfl rfl (by decide) (by decide) (con6 (Ok.w O) v0 v4 H h11) rfl ?_
    refine g_aload_n O (pc' := 15) d4_14 (v := v1) rfl rfl ?_
    refine g_iload_n O (pc' := 16) d4_15 (v := v2) rfl rfl ?_
    refine g_iload_n O (pc' := 17) d4_16 (v := v3) rfl rfl ?_
    refine g_iload O (pc' := 19) d4_17 (v := v4) rfl rfl ?_
    obtain ⟨⟨x19, H19⟩, h19, hf⟩ := bnd hf
    dsimp only at hf
    refine g_static1 O (pc' := 22) d4_19 tw39 tw40 tw27 tw41 (by decide) pd7 (as := [(.ref v1), (.int v2), (.int v3), (.int v4)]) rfl (st := [(.int x11)]) rfl rfl (W := 1) rfl (rm := rm7) (by decide) (by decide) (c2 := 0) (s2 := 0) rfl rfl (by decide) (by decide) (con7 (Ok.w O) v1 v2 v3 v4 H11 h19) rfl ?_
    refine g_icmp_ne O (pc' := 25) d4_22 rfl (by decide) (pc1 := 29) (by decide) (fun h22 => ?_) (fun h22 => ?_)
    · rw [if_neg h22] at hf
      refine g_iconst O (pc' := 30) d4_29 (v := 0) (by decide) rfl ?_
      refine g_forget (Ls' := [none, none, none, none, none]) trivial ?_
      exact m4_t30 O (0 : Int32) H19 _ _ hf
    · rw [if_pos h22] at hf
      refine g_iconst O (pc' := 26) d4_25 (v := 1) (by decide) rfl ?_
      refine g_goto O d4_26 (by decide) (pc' := 30) (by decide) ?_
      refine g_forget (Ls' := [none, none, none, none, none]) trivial ?_
      exact m4_t30 O (1 : Int32) H19 _ _ hf
  · rw [if_neg h3] at hf
    refine g_iconst O (pc' := 7) d4_6 (v := 1) (by decide) rfl ?_
    cases hf
    exact g_ret_nar O d4_7 (by simp) (by decide) rfl (by decide)
abbrev m4 (v0 : Nat) (v1 : Nat) (v2 : Int32) (v3 : Int32) (v4 : Int32) (H : List Obj) : Option (Int32 × List Obj) := m4_b0 v0 v1 v2 v3 v4 H
theorem con4 {G : Gx} (hw : ∀ d ∈ tables_1, d.before G.2.2.1 G.2.1 = true) (v0 : Nat) (v1 : Nat) (v2 : Int32) (v3 : Int32) (v4 : Int32) (H : List Obj) {r : Int32} {Hf : List Obj} (hf : m4 v0 v1 v2 v3 v4 H = some (r, Hf)) : Con G (⟨"com/example/lexweave/lexweave/IntListReverseFromPinLaw", "check", "(Lcom/example/lexweave/lexweave/IntList;[IIII)Z"⟩ : MethodName) method_3_code 5 (Option.some FieldType.boolean) rm4 [(.ref v0), (.ref v1), (.int v2), (.int v3), (.int v4)] H (some (.int r)) Hf :=
  con_of hw pn4 rfl fun K O => m4_t0 O v0 v1 v2 v3 v4 H r Hf hf

/-! body 5 -/
theorem d5_0 : decode prog_28_method_2_code 0 = .ok (.aload_n 0, 1) := by decide +kernel
theorem d5_1 : decode prog_28_method_2_code 1 = .ok (.getfield 13, 3) := by decide +kernel
theorem d5_4 : decode prog_28_method_2_code 4 = .ok (.aload_n 0, 1) := by decide +kernel
theorem d5_5 : decode prog_28_method_2_code 5 = .ok (.getfield 7, 3) := by decide +kernel
theorem d5_8 : decode prog_28_method_2_code 8 = .ok (.arraylength, 1) := by decide +kernel
theorem d5_9 : decode prog_28_method_2_code 9 = .ok (.if_icmp .ne 20, 3) := by decide +kernel
theorem d5_12 : decode prog_28_method_2_code 12 = .ok (.aload_n 0, 1) := by decide +kernel
theorem d5_13 : decode prog_28_method_2_code 13 = .ok (.aload_n 0, 1) := by decide +kernel
theorem d5_14 : decode prog_28_method_2_code 14 = .ok (.getfield 7, 3) := by decide +kernel
theorem d5_17 : decode prog_28_method_2_code 17 = .ok (.iconst 2, 1) := by decide +kernel
theorem d5_18 : decode prog_28_method_2_code 18 = .ok (.aload_n 0, 1) := by decide +kernel
theorem d5_19 : decode prog_28_method_2_code 19 = .ok (.getfield 13, 3) := by decide +kernel
theorem d5_22 : decode prog_28_method_2_code 22 = .ok (.imul, 1) := by decide +kernel
theorem d5_29 : decode prog_28_method_2_code 29 = .ok (.aload_n 0, 1) := by decide +kernel
theorem d5_30 : decode prog_28_method_2_code 30 = .ok (.getfield 7, 3) := by decide +kernel
theorem d5_33 : decode prog_28_method_2_code 33 = .ok (.aload_n 0, 1) := by decide +kernel
theorem d5_34 : decode prog_28_method_2_code 34 = .ok (.getfield 13, 3) := by decide +kernel
theorem d5_37 : decode prog_28_method_2_code 37 = .ok (.iload_n 1, 1) := by decide +kernel
theorem d5_38 : decode prog_28_method_2_code 38 = .ok (.iastore, 1) := by decide +kernel
theorem d5_39 : decode prog_28_method_2_code 39 = .ok (.aload_n 0, 1) := by decide +kernel
theorem d5_40 : decode prog_28_method_2_code 40 = .ok (.dup, 1) := by decide +kernel
theorem d5_41 : decode prog_28_method_2_code 41 = .ok (.getfield 13, 3) := by decide +kernel
theorem d5_44 : decode prog_28_method_2_code 44 = .ok (.iconst 1, 1) := by decide +kernel
theorem d5_45 : decode prog_28_method_2_code 45 = .ok (.iadd, 1) := by decide +kernel
theorem d5_46 : decode prog_28_method_2_code 46 = .ok (.putfield 13, 3) := by decide +kernel
theorem d5_49 : decode prog_28_method_2_code 49 = .ok (.return_, 1) := by decide +kernel
theorem pd5 : parseMethodDescriptor "(I)V" = some ⟨[.int], none⟩ := by decide +kernel
theorem pn5 : plainFor (⟨"com/example/lexweave/lexweave/IntList", "add", "(I)V"⟩ : MethodName) = true := by first | exact plainFor_of_name (by first | (simp [plainName, overriddenIn]; done) | decide +kernel) | decide +kernel
abbrev rm5 : Room := { frames := 0, cells := 0, slots := 0, locals := 0 }
abbrev Ok5 (G : Gx) (K : Kx) : Prop := Ok G K "com/example/lexweave/lexweave/IntList" prog_28_method_2_code 2 (Option.none : Option FieldType) rm5 "add" 0 0
def m5_b0 (v0 : Nat) (v1 : Int32) (H : List Obj) : Option (List Obj) :=
  (fldI 0 1 H v0).bind fun x1 =>
  (fldA 0 0 H v0).bind fun x5 =>
  (alen H x5).bind fun x8 =>
  if x1 = x8 then
    (fldA 0 0 H v0).bind fun x14 =>
    (fldI 0 1 H v0).bind fun x19 =>
    none
  else
    (fldA 0 0 H v0).bind fun x30 =>
    (fldI 0 1 H v0).bind fun x34 =>
    (wr .int H x30 x34 (.int v1)).bind fun H38 =>
    (fldI 0 1 H38 v0).bind fun x41 =>
    (setF 0 1 H38 v0 (.int (x41 + (1 : Int32)))).bind fun H46 =>
    some H46
theorem m5_t0 {G : Gx} {K : Kx} (O : Ok5 G K) (v0 : Nat) (v1 : Int32) (H : List Obj) (_ : Unit) (Hf : List Obj) (hf : m5_b0 v0 v1 H = some Hf) : Run G K none Hf 0 [some (.ref v0), some (.int v1)] [] H 0 0 := by
  unfold m5_b0 at hf
  refine g_aload_n O (pc' := 1) d5_0 (v := v0) rfl rfl ?_
  obtain ⟨x1, h1, hf⟩ := bnd hf
  refine g_getfield O (pc' := 4) d5_1 (t := 0) (kf := 1) rfl tw18 (fldI_e h1) rfl ?_
  refine g_aload_n O (pc' := 5) d5_4 (v := v0) rfl rfl ?_
  obtain ⟨x5, h5, hf⟩ := bnd hf
  refine g_getfield O (pc' := 8) d5_5 (t := 0) (kf := 0) rfl tw11 (fldA_e h5) rfl ?_
  obtain ⟨x8, h8, hf⟩ := bnd hf
  refine g_arraylength O (pc' := 9) d5_8 h8 rfl ?_
  refine g_icmp_ne O (pc' := 12) d5_9 rfl (by decide) (pc1 := 29) (by decide) (fun h9 => ?_) (fun h9 => ?_)
  · rw [if_neg h9] at hf
    refine g_aload_n O (pc' := 30) d5_29 (v := v0) rfl rfl ?_
    obtain ⟨x30, h30, hf⟩ := bnd hf
    refine g_getfield O (pc' := 33) d5_30 (t := 0) (kf := 0) rfl tw11 (fldA_e h30) rfl ?_
    refine g_aload_n O (pc' := 34) d5_33 (v := v0) rfl rfl ?_
    obtain ⟨x34, h34, hf⟩ := bnd hf
    refine g_getfield O (pc' := 37) d5_34 (t := 0) (kf := 1) rfl tw18 (fldI_e h34) rfl ?_
    refine g_iload_n O (pc' := 38) d5_37 (v := v1) rfl rfl ?_
    obtain ⟨H38, h38, hf⟩ := bnd hf
    refine g_iastore O (pc' := 39) d5_38 h38 rfl ?_
    refine g_aload_n O (pc' := 40) d5_39 (v := v0) rfl rfl ?_
    refine g_dup O (pc' := 41) d5_40 rfl rfl ?_
    obtain ⟨x41, h41, hf⟩ := bnd hf
    refine g_getfield O (pc' := 44) d5_41 (t := 0) (kf := 1) rfl tw18 (fldI_e h41) rfl ?_
    refine g_iconst O (pc' := 45) d5_44 (v := 1) (by decide) rfl ?_
    refine g_iadd O (pc' := 46) d5_45 rfl ?_
    obtain ⟨H46, h46, hf⟩ := bnd hf
    refine g_putfield O (pc' := 49) d5_46 (t := 0) (kf := 1) rfl tw18 (Or.inl tw19) tw3 (ty := .int) (by decide) (fun _ => rfl) (fun _ => rfl) h46 rfl ?_
    cases hf
    exact g_ret_void O d5_49 rfl (by decide)
  · rw [if_pos h9] at hf
    refine g_aload_n O (pc' := 13) d5_12 (v := v0) rfl rfl ?_
    refine g_aload_n O (pc' := 14) d5_13 (v := v0) rfl rfl ?_
    obtain ⟨x14, h14, hf⟩ := bnd hf
    refine g_getfield O (pc' := 17) d5_14 (t := 0) (kf := 0) rfl tw11 (fldA_e h14) rfl ?_
    refine g_iconst O (pc' := 18) d5_17 (v := 2) (by decide) rfl ?_
    refine g_aload_n O (pc' := 19) d5_18 (v := v0) rfl rfl ?_
    obtain ⟨x19, h19, hf⟩ := bnd hf
    refine g_getfield O (pc' := 22) d5_19 (t := 0) (kf := 1) rfl tw18 (fldI_e h19) rfl ?_
    refine g_imul O (pc' := 23) d5_22 rfl ?_
    cases hf
abbrev m5 (v0 : Nat) (v1 : Int32) (H : List Obj) : Option (List Obj) := m5_b0 v0 v1 H
theorem con5 {G : Gx} (hw : ∀ d ∈ tables_1, d.before G.2.2.1 G.2.1 = true) (v0 : Nat) (v1 : Int32) (H : List Obj) {Hf : List Obj} (hf : m5 v0 v1 H = some Hf) : Con G (⟨"com/example/lexweave/lexweave/IntList", "add", "(I)V"⟩ : MethodName) prog_28_method_2_code 2 (Option.none : Option FieldType) rm5 [(.ref v0), (.int v1)] H none Hf :=
  con_of hw pn5 rfl fun K O => m5_t0 O v0 v1 H () Hf hf

/-! body 0 -/
theorem pn0 : plainFor x = true := by first | exact plainFor_of_name (by first | (simp [plainName, overriddenIn]; done) | decide +kernel) | decide +kernel
abbrev Ok0 (G : Gx) (K : Kx) : Prop := Ok G K x.cls code maxLocals ret room_1 x.name 3 15
def m0_b216 (t0 : Int32) (H : List Obj) : Option (Int32 × List Obj) :=
  some ((nar .boolean t0), H)
theorem m0_t216 {G : Gx} {K : Kx} (O : Ok0 G K) (t0 : Int32) (H : List Obj) (r : Int32) (Hf : List Obj) (hf : m0_b216 t0 H = some (r, Hf)) : Run G K (some (.int r)) Hf 216 [none, none, none, none, none, none, none, none, none, none] [(.int t0)] H 3 15 := by
  unfold m0_b216 at hf
  cases hf
  exact g_ret_nar O at_216 (by simp) rfl rfl (by decide)
def m0_b215 (H : List Obj) : Option (Int32 × List Obj) :=
  m0_b216 (0 : Int32) H
theorem m0_t215 {G : Gx} {K : Kx} (O : Ok0 G K) (H : List Obj) (r : Int32) (Hf : List Obj) (hf : m0_b215 H = some (r, Hf)) : Run G K (some (.int r)) Hf 215 [none, none, none, none, none, none, none, none, none, none] [] H 3 15 := by
  unfold m0_b215 at hf
  refine g_iconst O (pc' := 216) at_215 (v := 0) (by decide) rfl ?_
  exact m0_t216 O (0 : Int32) H _ _ hf
def m0_b117 (v6 : Int32) (v7 : Int32) (v8 : Nat) (v9 : Nat) (H : List Obj) : Option (Int32 × List Obj) :=
  (obj 0 H v9).bind fun _ =>
  (m2 v9 v7 H).bind fun H121 =>
  (obj 0 H121 v9).bind fun _ =>
  (m3 v9 H121).bind fun q126 =>
  if q126.1 = v6 then
    (m4 v9 v8 v6 v7 (0 : Int32) q126.2).bind fun q145 =>
    if q145.1 = 0 then
      m0_b215 q145.2
    else
      (m4 v9 v8 v6 v7 (1 : Int32) q145.2).bind fun q160 =>
      if q160.1 = 0 then
        m0_b215 q160.2
      else
        (m4 v9 v8 v6 v7 (2 : Int32) q160.2).bind fun q175 =>
        if q175.1 = 0 then
          m0_b215 q175.2
        else
          (m4 v9 v8 v6 v7 (3 : Int32) q175.2).bind fun q190 =>
          if q190.1 = 0 then
            m0_b215 q190.2
          else
            (m4 v9 v8 v6 v7 (4 : Int32) q190.2).bind fun q205 =>
            if q205.1 = 0 then
              m0_b215 q205.2
            else
              m0_b216 (1 : Int32) q205.2
  else
    some ((0 : Int32), q126.2)
theorem m0_t117 {G : Gx} {K : Kx} (O : Ok0 G K) (v6 : Int32) (v7 : Int32) (v8 : Nat) (v9 : Nat) (H : List Obj) (r : Int32) (Hf : List Obj) (hf : m0_b117 v6 v7 v8 v9 H = some (r, Hf)) : Run G K (some (.int r)) Hf 117 [none, none, none, none, none, none, some (.int v6), some (.int v7), some (.ref v8), some (.ref v9)] [] H 3 15 := by
  unfold m0_b117 at hf
  refine g_aload O (pc' := 119) at_117 (v := v9) rfl rfl ?_
  refine g_iload O (pc' := 121) at_119 (v := v7) rfl rfl ?_
  obtain ⟨_, ho121, hf⟩ := bnd hf
  obtain ⟨H121, h121, hf⟩ := bnd hf
  refine g_virtual0 O (pc' := 124) at_121 (t := 0) tw13 tw14 tw16 tw15 tw4 tw17 (by decide) (ho121) pd2 (as := [(.int v7)]) rfl (st := []) rfl rfl (W := 0) rfl (rm := rm2) (by decide) (by decide) (c2 := 3) (s2 := 15) rfl rfl (by decide) (by decide) (con2 (Ok.w O) v9 v7 H h121) rfl ?_
  refine g_aload O (pc' := 126) at_124 (v := v9) rfl rfl ?_
  obtain ⟨_, ho126, hf⟩ := bnd hf
  obtain ⟨⟨x126, H126⟩, h126, hf⟩ := bnd hf
  dsimp only at hf
  refine g_virtual1 O (pc' := 129) at_126 (t := 0) tw20 tw21 tw23 tw22 tw4 tw24 (by decide) (ho126) pd3 (as := []) rfl (st := []) rfl rfl (W := 0) rfl (rm := rm3) (by decide) (by decide) (c2 := 3) (s2 := 15) rfl rfl (by decide) (by decide) (con3 (Ok.w O) v9 H121 h126) rfl ?_
  refine g_iload O (pc' := 131) at_129 (v := v6) rfl rfl ?_
  refine g_icmp_eq O (pc' := 134) at_131 rfl (by decide) (pc1 := 136) (by decide) (fun h131 => ?_) (fun h131 => ?_)
  · rw [if_pos h131] at hf
    refine g_aload O (pc' := 138) at_136 (v := v9) rfl rfl ?_
    refine g_aload O (pc' := 140) at_138 (v := v8) rfl rfl ?_
    refine g_iload O (pc' := 142) at_140 (v := v6) rfl rfl ?_
    refine g_iload O (pc' := 144) at_142 (v := v7) rfl rfl ?_
    refine g_iconst O (pc' := 145) at_144 (v := 0) (by decide) rfl ?_
    obtain ⟨⟨x145, H145⟩, h145, hf⟩ := bnd hf
    dsimp only at hf
    refine g_static1 O (pc' := 148) at_145 tw25 tw26 tw27 tw28 (by decide) pd4 (as := [(.ref v9), (.ref v8), (.int v6), (.int v7), (.int (0 : Int32))]) rfl (st := []) rfl rfl (W := 0) rfl (rm := rm4) (by decide) (by decide) (c2 := 3) (s2 := 15) rfl rfl (by decide) (by decide) (con4 (Ok.w O) v9 v8 v6 v7 (0 : Int32) H126 h145) rfl ?_
    refine g_if_eq O (pc' := 151) at_148 rfl (by decide) (pc1 := 215) (by decide) (fun h148 => ?_) (fun h148 => ?_)
    · rw [if_pos h148] at hf
      refine g_forget (Ls' := [none, none, none, none, none, none, none, none, none, none]) trivial ?_
      exact m0_t215 O H145 _ _ hf
    · rw [if_neg h148] at hf
      refine g_aload O (pc' := 153) at_151 (v := v9) rfl rfl ?_
      refine g_aload O (pc' := 155) at_153 (v := v8) rfl rfl ?_
      refine g_iload O (pc' := 157) at_155 (v := v6) rfl rfl ?_
      refine g_iload O (pc' := 159) at_157 (v := v7) rfl rfl ?_
      refine g_iconst O (pc' := 160) at_159 (v := 1) (by decide) rfl ?_
      obtain ⟨⟨x160, H160⟩, h160, hf⟩ := bnd hf
      dsimp only at hf
      refine g_static1 O (pc' := 163) at_160 tw25 tw26 tw27 tw28 (by decide) pd4 (as := [(.ref v9), (.ref v8), (.int v6), (.int v7), (.int (1 : Int32))]) rfl (st := []) rfl rfl (W := 0) rfl (rm := rm4) (by decide) (by decide) (c2 := 3) (s2 := 15) rfl rfl (by decide) (by decide) (con4 (Ok.w O) v9 v8 v6 v7 (1 : Int32) H145 h160) rfl ?_
      refine g_if_eq O (pc' := 166) at_163 rfl (by decide) (pc1 := 215) (by decide) (fun h163 => ?_) (fun h163 => ?_)
      · rw [if_pos h163] at hf
        refine g_forget (Ls' := [none, none, none, none, none, none, none, none, none, none]) trivial ?_
        exact m0_t215 O H160 _ _ hf
      · rw [if_neg h163] at hf
        refine g_aload O (pc' := 168) at_166 (v := v9) rfl rfl ?_
        refine g_aload O (pc' := 170) at_168 (v := v8) rfl rfl ?_
        refine g_iload O (pc' := 172) at_170 (v := v6) rfl rfl ?_
        refine g_iload O (pc' := 174) at_172 (v := v7) rfl rfl ?_
        refine g_iconst O (pc' := 175) at_174 (v := 2) (by decide) rfl ?_
        obtain ⟨⟨x175, H175⟩, h175, hf⟩ := bnd hf
        dsimp only at hf
        refine g_static1 O (pc' := 178) at_175 tw25 tw26 tw27 tw28 (by decide) pd4 (as := [(.ref v9), (.ref v8), (.int v6), (.int v7), (.int (2 : Int32))]) rfl (st := []) rfl rfl (W := 0) rfl (rm := rm4) (by decide) (by decide) (c2 := 3) (s2 := 15) rfl rfl (by decide) (by decide) (con4 (Ok.w O) v9 v8 v6 v7 (2 : Int32) H160 h175) rfl ?_
        refine g_if_eq O (pc' := 181) at_178 rfl (by decide) (pc1 := 215) (by decide) (fun h178 => ?_) (fun h178 => ?_)
        · rw [if_pos h178] at hf
          refine g_forget (Ls' := [none, none, none, none, none, none, none, none, none, none]) trivial ?_
          exact m0_t215 O H175 _ _ hf
        · rw [if_neg h178] at hf
          refine g_aload O (pc' := 183) at_181 (v := v9) rfl rfl ?_
          refine g_aload O (pc' := 185) at_183 (v := v8) rfl rfl ?_
          refine g_iload O (pc' := 187) at_185 (v := v6) rfl rfl ?_
          refine g_iload O (pc' := 189) at_187 (v := v7) rfl rfl ?_
          refine g_iconst O (pc' := 190) at_189 (v := 3) (by decide) rfl ?_
          obtain ⟨⟨x190, H190⟩, h190, hf⟩ := bnd hf
          dsimp only at hf
          refine g_static1 O (pc' := 193) at_190 tw25 tw26 tw27 tw28 (by decide) pd4 (as := [(.ref v9), (.ref v8), (.int v6), (.int v7), (.int (3 : Int32))]) rfl (st := []) rfl rfl (W := 0) rfl (rm := rm4) (by decide) (by decide) (c2 := 3) (s2 := 15) rfl rfl (by decide) (by decide) (con4 (Ok.w O) v9 v8 v6 v7 (3 : Int32) H175 h190) rfl ?_
          refine g_if_eq O (pc' := 196) at_193 rfl (by decide) (pc1 := 215) (by decide) (fun h193 => ?_) (fun h193 => ?_)
          · rw [if_pos h193] at hf
            refine g_forget (Ls' := [none, none, none, none, none, none, none, none, none, none]) trivial ?_
            exact m0_t215 O H190 _ _ hf
          · rw [if_neg h193] at hf
            refine g_aload O (pc' := 198) at_196 (v := v9) rfl rfl ?_
            refine g_aload O (pc' := 200) at_198 (v := v8) rfl rfl ?_
            refine g_iload O (pc' := 202) at_200 (v := v6) rfl rfl ?_
            refine g_iload O (pc' := 204) at_202 (v := v7) rfl rfl ?_
            refine g_iconst O (pc' := 205) at_204 (v := 4) (by decide) rfl ?_
            obtain ⟨⟨x205, H205⟩, h205, hf⟩ := bnd hf
            dsimp only at hf
            refine g_static1 O (pc' := 208) at_205 tw25 tw26 tw27 tw28 (by decide) pd4 (as := [(.ref v9), (.ref v8), (.int v6), (.int v7), (.int (4 : Int32))]) rfl (st := []) rfl rfl (W := 0) rfl (rm := rm4) (by decide) (by decide) (c2 := 3) (s2 := 15) rfl rfl (by decide) (by decide) (con4 (Ok.w O) v9 v8 v6 v7 (4 : Int32) H190 h205) rfl ?_
            refine g_if_eq O (pc' := 211) at_208 rfl (by decide) (pc1 := 215) (by decide) (fun h208 => ?_) (fun h208 => ?_)
            · rw [if_pos h208] at hf
              refine g_forget (Ls' := [none, none, none, none, none, none, none, none, none, none]) trivial ?_
              exact m0_t215 O H205 _ _ hf
            · rw [if_neg h208] at hf
              refine g_iconst O (pc' := 212) at_211 (v := 1) (by decide) rfl ?_
              refine g_goto O at_212 (by decide) (pc' := 216) (by decide) ?_
              refine g_forget (Ls' := [none, none, none, none, none, none, none, none, none, none]) trivial ?_
              exact m0_t216 O (1 : Int32) H205 _ _ hf
  · rw [if_neg h131] at hf
    refine g_iconst O (pc' := 135) at_134 (v := 0) (by decide) rfl ?_
    cases hf
    exact g_ret_nar O at_135 (by simp) (by decide) rfl (by decide)
def m0_b104 (v5 : Int32) (v6 : Int32) (v7 : Int32) (v8 : Nat) (v9 : Nat) (H : List Obj) : Option (Int32 × List Obj) :=
  if (4 : Int32) < v6 then
    (obj 0 H v9).bind fun _ =>
    (m5 v9 v5 H).bind fun H114 =>
    m0_b117 v6 v7 v8 v9 H114
  else
    m0_b117 v6 v7 v8 v9 H
theorem m0_t104 {G : Gx} {K : Kx} (O : Ok0 G K) (v5 : Int32) (v6 : Int32) (v7 : Int32) (v8 : Nat) (v9 : Nat) (H : List Obj) (r : Int32) (Hf : List Obj) (hf : m0_b104 v5 v6 v7 v8 v9 H = some (r, Hf)) : Run G K (some (.int r)) Hf 104 [none, none, none, none, none, some (.int v5), some (.int v6), some (.int v7), some (.ref v8), some (.ref v9)] [] H 3 15 := by
  unfold m0_b104 at hf
  refine g_iload O (pc' := 106) at_104 (v := v6) rfl rfl ?_
  refine g_iconst O (pc' := 107) at_106 (v := 4) (by decide) rfl ?_
  refine g_icmp_le O (pc' := 110) at_107 rfl (by decide) (pc1 := 117) (by decide) (fun h107 => ?_) (fun h107 => ?_)
  · rw [if_neg h107] at hf
    refine g_forget (Ls' := [none, none, none, none, none, none, some (.int v6), some (.int v7), some (.ref v8), some (.ref v9)]) (And.intro rfl (And.intro rfl (And.intro rfl (And.intro rfl trivial)))) ?_
    exact m0_t117 O v6 v7 v8 v9 H _ _ hf
  · rw [if_pos h107] at hf
    refine g_aload O (pc' := 112) at_110 (v := v9) rfl rfl ?_
    refine g_iload O (pc' := 114) at_112 (v := v5) rfl rfl ?_
    obtain ⟨_, ho114, hf⟩ := bnd hf
    obtain ⟨H114, h114, hf⟩ := bnd hf
    refine g_virtual0 O (pc' := 117) at_114 (t := 0) tw29 tw30 tw32 tw31 tw4 tw33 (by decide) (ho114) pd5 (as := [(.int v5)]) rfl (st := []) rfl rfl (W := 0) rfl (rm := rm5) (by decide) (by decide) (c2 := 3) (s2 := 15) rfl rfl (by decide) (by decide) (con5 (Ok.w O) v9 v5 H h114) rfl ?_
    refine g_forget (Ls' := [none, none, none, none, none, none, some (.int v6), some (.int v7), some (.ref v8), some (.ref v9)]) (And.intro rfl (And.intro rfl (And.intro rfl (And.intro rfl trivial)))) ?_
    exact m0_t117 O v6 v7 v8 v9 H114 _ _ hf
def m0_b91 (v4 : Int32) (v5 : Int32) (v6 : Int32) (v7 : Int32) (v8 : Nat) (v9 : Nat) (H : List Obj) : Option (Int32 × List Obj) :=
  if (3 : Int32) < v6 then
    (obj 0 H v9).bind fun _ =>
    (m5 v9 v4 H).bind fun H101 =>
    m0_b104 v5 v6 v7 v8 v9 H101
  else
    m0_b104 v5 v6 v7 v8 v9 H
theorem m0_t91 {G : Gx} {K : Kx} (O : Ok0 G K) (v4 : Int32) (v5 : Int32) (v6 : Int32) (v7 : Int32) (v8 : Nat) (v9 : Nat) (H : List Obj) (r : Int32) (Hf : List Obj) (hf : m0_b91 v4 v5 v6 v7 v8 v9 H = some (r, Hf)) : Run G K (some (.int r)) Hf 91 [none, none, none, none, some (.int v4), some (.int v5), some (.int v6), some (.int v7), some (.ref v8), some (.ref v9)] [] H 3 15 := by
  unfold m0_b91 at hf
  refine g_iload O (pc' := 93) at_91 (v := v6) rfl rfl ?_
  refine g_iconst O (pc' := 94) at_93 (v := 3) (by decide) rfl ?_
  refine g_icmp_le O (pc' := 97) at_94 rfl (by decide) (pc1 := 104) (by decide) (fun h94 => ?_) (fun h94 => ?_)
  · rw [if_neg h94] at hf
    refine g_forget (Ls' := [none, none, none, none, none, some (.int v5), some (.int v6), some (.int v7), some (.ref v8), some (.ref v9)]) (And.intro rfl (And.intro rfl (And.intro rfl (And.intro rfl (And.intro rfl trivial))))) ?_
    exact m0_t104 O v5 v6 v7 v8 v9 H _ _ hf
  · rw [if_pos h94] at hf
    refine g_aload O (pc' := 99) at_97 (v := v9) rfl rfl ?_
    refine g_iload O (pc' := 101) at_99 (v := v4) rfl rfl ?_
    obtain ⟨_, ho101, hf⟩ := bnd hf
    obtain ⟨H101, h101, hf⟩ := bnd hf
    refine g_virtual0 O (pc' := 104) at_101 (t := 0) tw29 tw30 tw32 tw31 tw4 tw33 (by decide) (ho101) pd5 (as := [(.int v4)]) rfl (st := []) rfl rfl (W := 0) rfl (rm := rm5) (by decide) (by decide) (c2 := 3) (s2 := 15) rfl rfl (by decide) (by decide) (con5 (Ok.w O) v9 v4 H h101) rfl ?_
    refine g_forget (Ls' := [none, none, none, none, none, some (.int v5), some (.int v6), some (.int v7), some (.ref v8), some (.ref v9)]) (And.intro rfl (And.intro rfl (And.intro rfl (And.intro rfl (And.intro rfl trivial))))) ?_
    exact m0_t104 O v5 v6 v7 v8 v9 H101 _ _ hf
def m0_b79 (v3 : Int32) (v4 : Int32) (v5 : Int32) (v6 : Int32) (v7 : Int32) (v8 : Nat) (v9 : Nat) (H : List Obj) : Option (Int32 × List Obj) :=
  if (2 : Int32) < v6 then
    (obj 0 H v9).bind fun _ =>
    (m5 v9 v3 H).bind fun H88 =>
    m0_b91 v4 v5 v6 v7 v8 v9 H88
  else
    m0_b91 v4 v5 v6 v7 v8 v9 H
theorem m0_t79 {G : Gx} {K : Kx} (O : Ok0 G K) (v3 : Int32) (v4 : Int32) (v5 : Int32) (v6 : Int32) (v7 : Int32) (v8 : Nat) (v9 : Nat) (H : List Obj) (r : Int32) (Hf : List Obj) (hf : m0_b79 v3 v4 v5 v6 v7 v8 v9 H = some (r, Hf)) : Run G K (some (.int r)) Hf 79 [none, none, none, some (.int v3), some (.int v4), some (.int v5), some (.int v6), some (.int v7), some (.ref v8), some (.ref v9)] [] H 3 15 := by
  unfold m0_b79 at hf
  refine g_iload O (pc' := 81) at_79 (v := v6) rfl rfl ?_
  refine g_iconst O (pc' := 82) at_81 (v := 2) (by decide) rfl ?_
  refine g_icmp_le O (pc' := 85) at_82 rfl (by decide) (pc1 := 91) (by decide) (fun h82 => ?_) (fun h82 => ?_)
  · rw [if_neg h82] at hf
    refine g_forget (Ls' := [none, none, none, none, some (.int v4), some (.int v5), some (.int v6), some (.int v7), some (.ref v8), some (.ref v9)]) (And.intro rfl (And.intro rfl (And.intro rfl (And.intro rfl (And.intro rfl (And.intro rfl trivial)))))) ?_
    exact m0_t91 O v4 v5 v6 v7 v8 v9 H _ _ hf
  · rw [if_pos h82] at hf
    refine g_aload O (pc' := 87) at_85 (v := v9) rfl rfl ?_
    refine g_iload_n O (pc' := 88) at_87 (v := v3) rfl rfl ?_
    obtain ⟨_, ho88, hf⟩ := bnd hf
    obtain ⟨H88, h88, hf⟩ := bnd hf
    refine g_virtual0 O (pc' := 91) at_88 (t := 0) tw29 tw30 tw32 tw31 tw4 tw33 (by decide) (ho88) pd5 (as := [(.int v3)]) rfl (st := []) rfl rfl (W := 0) rfl (rm := rm5) (by decide) (by decide) (c2 := 3) (s2 := 15) rfl rfl (by decide) (by decide) (con5 (Ok.w O) v9 v3 H h88) rfl ?_
    refine g_forget (Ls' := [none, none, none, none, some (.int v4), some (.int v5), some (.int v6), some (.int v7), some (.ref v8), some (.ref v9)]) (And.intro rfl (And.intro rfl (And.intro rfl (And.intro rfl (And.intro rfl (And.intro rfl trivial)))))) ?_
    exact m0_t91 O v4 v5 v6 v7 v8 v9 H88 _ _ hf
def m0_b67 (v2 : Int32) (v3 : Int32) (v4 : Int32) (v5 : Int32) (v6 : Int32) (v7 : Int32) (v8 : Nat) (v9 : Nat) (H : List Obj) : Option (Int32 × List Obj) :=
  if (1 : Int32) < v6 then
    (obj 0 H v9).bind fun _ =>
    (m5 v9 v2 H).bind fun H76 =>
    m0_b79 v3 v4 v5 v6 v7 v8 v9 H76
  else
    m0_b79 v3 v4 v5 v6 v7 v8 v9 H
theorem m0_t67 {G : Gx} {K : Kx} (O : Ok0 G K) (v2 : Int32) (v3 : Int32) (v4 : Int32) (v5 : Int32) (v6 : Int32) (v7 : Int32) (v8 : Nat) (v9 : Nat) (H : List Obj) (r : Int32) (Hf : List Obj) (hf : m0_b67 v2 v3 v4 v5 v6 v7 v8 v9 H = some (r, Hf)) : Run G K (some (.int r)) Hf 67 [none, none, some (.int v2), some (.int v3), some (.int v4), some (.int v5), some (.int v6), some (.int v7), some (.ref v8), some (.ref v9)] [] H 3 15 := by
  unfold m0_b67 at hf
  refine g_iload O (pc' := 69) at_67 (v := v6) rfl rfl ?_
  refine g_iconst O (pc' := 70) at_69 (v := 1) (by decide) rfl ?_
  refine g_icmp_le O (pc' := 73) at_70 rfl (by decide) (pc1 := 79) (by decide) (fun h70 => ?_) (fun h70 => ?_)
  · rw [if_neg h70] at hf
    refine g_forget (Ls' := [none, none, none, some (.int v3), some (.int v4), some (.int v5), some (.int v6), some (.int v7), some (.ref v8), some (.ref v9)]) (And.intro rfl (And.intro rfl (And.intro rfl (And.intro rfl (And.intro rfl (And.intro rfl (And.intro rfl trivial))))))) ?_
    exact m0_t79 O v3 v4 v5 v6 v7 v8 v9 H _ _ hf
  · rw [if_pos h70] at hf
    refine g_aload O (pc' := 75) at_73 (v := v9) rfl rfl ?_
    refine g_iload_n O (pc' := 76) at_75 (v := v2) rfl rfl ?_
    obtain ⟨_, ho76, hf⟩ := bnd hf
    obtain ⟨H76, h76, hf⟩ := bnd hf
    refine g_virtual0 O (pc' := 79) at_76 (t := 0) tw29 tw30 tw32 tw31 tw4 tw33 (by decide) (ho76) pd5 (as := [(.int v2)]) rfl (st := []) rfl rfl (W := 0) rfl (rm := rm5) (by decide) (by decide) (c2 := 3) (s2 := 15) rfl rfl (by decide) (by decide) (con5 (Ok.w O) v9 v2 H h76) rfl ?_
    refine g_forget (Ls' := [none, none, none, some (.int v3), some (.int v4), some (.int v5), some (.int v6), some (.int v7), some (.ref v8), some (.ref v9)]) (And.intro rfl (And.intro rfl (And.intro rfl (And.intro rfl (And.intro rfl (And.intro rfl (And.intro rfl trivial))))))) ?_
    exact m0_t79 O v3 v4 v5 v6 v7 v8 v9 H76 _ _ hf
def m0_b20 (v1 : Int32) (v2 : Int32) (v3 : Int32) (v4 : Int32) (v5 : Int32) (v6 : Int32) (v7 : Int32) (H : List Obj) : Option (Int32 × List Obj) :=
  (mkArr .int 5 H (5 : Int32)).bind fun H21 =>
  (wr .int H21 (H.length) (0 : Int32) (.int v1)).bind fun H26 =>
  (wr .int H26 (H.length) (1 : Int32) (.int v2)).bind fun H30 =>
  (wr .int H30 (H.length) (2 : Int32) (.int v3)).bind fun H34 =>
  (wr .int H34 (H.length) (3 : Int32) (.int v4)).bind fun H39 =>
  (wr .int H39 (H.length) (4 : Int32) (.int v5)).bind fun H44 =>
  (m1 (H44.length) (H44 ++ [(.inr (0, [.null, .int 0]) : Obj)])).bind fun H51 =>
  if 0 < v6 then
    (obj 0 H51 (H44.length)).bind fun _ =>
    (m5 (H44.length) v1 H51).bind fun H64 =>
    m0_b67 v2 v3 v4 v5 v6 v7 (H.length) (H44.length) H64
  else
    m0_b67 v2 v3 v4 v5 v6 v7 (H.length) (H44.length) H51
theorem m0_t20 {G : Gx} {K : Kx} (O : Ok0 G K) (v1 : Int32) (v2 : Int32) (v3 : Int32) (v4 : Int32) (v5 : Int32) (v6 : Int32) (v7 : Int32) (H : List Obj) (r : Int32) (Hf : List Obj) (hf : m0_b20 v1 v2 v3 v4 v5 v6 v7 H = some (r, Hf)) : Run G K (some (.int r)) Hf 20 [none, some (.int v1), some (.int v2), some (.int v3), some (.int v4), some (.int v5), some (.int v6), some (.int v7), none, none] [] H 0 0 := by
  unfold m0_b20 at hf
  refine g_iconst O (pc' := 21) at_20 (v := 5) (by decide) rfl ?_
  obtain ⟨H21, h21, hf⟩ := bnd hf
  refine g_newarray O (pc' := 23) at_21 (cap := 5) tw1 h21 (by decide) (c2 := 1) (s2 := 5) rfl rfl (by decide) (by decide) rfl ?_
  refine g_dup O (pc' := 24) at_23 rfl rfl ?_
  refine g_iconst O (pc' := 25) at_24 (v := 0) (by decide) rfl ?_
  refine g_iload_n O (pc' := 26) at_25 (v := v1) rfl rfl ?_
  obtain ⟨H26, h26, hf⟩ := bnd hf
  refine g_iastore O (pc' := 27) at_26 h26 rfl ?_
  refine g_dup O (pc' := 28) at_27 rfl rfl ?_
  refine g_iconst O (pc' := 29) at_28 (v := 1) (by decide) rfl ?_
  refine g_iload_n O (pc' := 30) at_29 (v := v2) rfl rfl ?_
  obtain ⟨H30, h30, hf⟩ := bnd hf
  refine g_iastore O (pc' := 31) at_30 h30 rfl ?_
  refine g_dup O (pc' := 32) at_31 rfl rfl ?_
  refine g_iconst O (pc' := 33) at_32 (v := 2) (by decide) rfl ?_
  refine g_iload_n O (pc' := 34) at_33 (v := v3) rfl rfl ?_
  obtain ⟨H34, h34, hf⟩ := bnd hf
  refine g_iastore O (pc' := 35) at_34 h34 rfl ?_
  refine g_dup O (pc' := 36) at_35 rfl rfl ?_
  refine g_iconst O (pc' := 37) at_36 (v := 3) (by decide) rfl ?_
  refine g_iload O (pc' := 39) at_37 (v := v4) rfl rfl ?_
  obtain ⟨H39, h39, hf⟩ := bnd hf
  refine g_iastore O (pc' := 40) at_39 h39 rfl ?_
  refine g_dup O (pc' := 41) at_40 rfl rfl ?_
  refine g_iconst O (pc' := 42) at_41 (v := 4) (by decide) rfl ?_
  refine g_iload O (pc' := 44) at_42 (v := v5) rfl rfl ?_
  obtain ⟨H44, h44, hf⟩ := bnd hf
  refine g_iastore O (pc' := 45) at_44 h44 rfl ?_
  refine g_astore O (pc' := 47) at_45 (Ls' := [none, some (.int v1), some (.int v2), some (.int v3), some (.int v4), some (.int v5), some (.int v6), some (.int v7), some (.ref (H.length)), none]) rfl rfl ?_
  refine g_new O (pc' := 50) at_47 (t := 0) tw2 tw3 tw4 (vs := [.null, .int 0]) rfl rfl (c2 := 2) (s2 := 7) rfl rfl (by decide) (by decide) rfl ?_
  refine g_dup O (pc' := 51) at_50 rfl rfl ?_
  obtain ⟨H51, h51, hf⟩ := bnd hf
  refine g_special O (pc' := 54) at_51 rfl tw5 tw6 tw4 tw7 (by decide) pd1 (as := []) rfl (st := [(.ref (H44.length))]) rfl rfl (W := 1) rfl (rm := rm1) (by decide) (by decide) (c2 := 3) (s2 := 15) rfl rfl (by decide) (by decide) (con1 (Ok.w O) (H44.length) (H44 ++ [(.inr (0, [.null, .int 0]) : Obj)]) h51) rfl ?_
  refine g_astore O (pc' := 56) at_54 (Ls' := [none, some (.int v1), some (.int v2), some (.int v3), some (.int v4), some (.int v5), some (.int v6), some (.int v7), some (.ref (H.length)), some (.ref (H44.length))]) rfl rfl ?_
  refine g_iload O (pc' := 58) at_56 (v := v6) rfl rfl ?_
  refine g_if_le O (pc' := 61) at_58 rfl (by decide) (pc1 := 67) (by decide) (fun h58 => ?_) (fun h58 => ?_)
  · rw [if_neg h58] at hf
    refine g_forget (Ls' := [none, none, some (.int v2), some (.int v3), some (.int v4), some (.int v5), some (.int v6), some (.int v7), some (.ref (H.length)), some (.ref (H44.length))]) (And.intro rfl (And.intro rfl (And.intro rfl (And.intro rfl (And.intro rfl (And.intro rfl (And.intro rfl (And.intro rfl trivial)))))))) ?_
    exact m0_t67 O v2 v3 v4 v5 v6 v7 (H.length) (H44.length) H51 _ _ hf
  · rw [if_pos h58] at hf
    refine g_aload O (pc' := 63) at_61 (v := (H44.length)) rfl rfl ?_
    refine g_iload_n O (pc' := 64) at_63 (v := v1) rfl rfl ?_
    obtain ⟨_, ho64, hf⟩ := bnd hf
    obtain ⟨H64, h64, hf⟩ := bnd hf
    refine g_virtual0 O (pc' := 67) at_64 (t := 0) tw29 tw30 tw32 tw31 tw4 tw33 (by decide) (ho64) pd5 (as := [(.int v1)]) rfl (st := []) rfl rfl (W := 0) rfl (rm := rm5) (by decide) (by decide) (c2 := 3) (s2 := 15) rfl rfl (by decide) (by decide) (con5 (Ok.w O) (H44.length) v1 H51 h64) rfl ?_
    refine g_forget (Ls' := [none, none, some (.int v2), some (.int v3), some (.int v4), some (.int v5), some (.int v6), some (.int v7), some (.ref (H.length)), some (.ref (H44.length))]) (And.intro rfl (And.intro rfl (And.intro rfl (And.intro rfl (And.intro rfl (And.intro rfl (And.intro rfl (And.intro rfl trivial)))))))) ?_
    exact m0_t67 O v2 v3 v4 v5 v6 v7 (H.length) (H44.length) H64 _ _ hf
def m0_b0 (v0 : Int32) (v1 : Int32) (v2 : Int32) (v3 : Int32) (v4 : Int32) (v5 : Int32) (H : List Obj) : Option (Int32 × List Obj) :=
  m0_b20 v1 v2 v3 v4 v5 ((v0 &&& (2147483647 : Int32)) % (6 : Int32)) (((XT.ushr v0 (3 : Int32)) &&& (2147483647 : Int32)) % (7 : Int32)) H
theorem m0_t0 {G : Gx} {K : Kx} (O : Ok0 G K) (v0 : Int32) (v1 : Int32) (v2 : Int32) (v3 : Int32) (v4 : Int32) (v5 : Int32) (H : List Obj) (r : Int32) (Hf : List Obj) (hf : m0_b0 v0 v1 v2 v3 v4 v5 H = some (r, Hf)) : Run G K (some (.int r)) Hf 0 [some (.int v0), some (.int v1), some (.int v2), some (.int v3), some (.int v4), some (.int v5), none, none, none, none] [] H 0 0 := by
  unfold m0_b0 at hf
  refine g_iload_n O (pc' := 1) at_0 (v := v0) rfl rfl ?_
  refine g_ldc O (pc' := 3) at_1 tw0 rfl ?_
  refine g_iand O (pc' := 4) at_3 rfl ?_
  refine g_bipush O (pc' := 6) at_4 (v := 6) (by decide) rfl ?_
  refine g_irem O (pc' := 7) at_6 (by decide) rfl ?_
  refine g_istore O (pc' := 9) at_7 (Ls' := [some (.int v0), some (.int v1), some (.int v2), some (.int v3), some (.int v4), some (.int v5), some (.int ((v0 &&& (2147483647 : Int32)) % (6 : Int32))), none, none, none]) rfl rfl ?_
  refine g_iload_n O (pc' := 10) at_9 (v := v0) rfl rfl ?_
  refine g_iconst O (pc' := 11) at_10 (v := 3) (by decide) rfl ?_
  refine g_iushr O (pc' := 12) at_11 rfl ?_
  refine g_ldc O (pc' := 14) at_12 tw0 rfl ?_
  refine g_iand O (pc' := 15) at_14 rfl ?_
  refine g_bipush O (pc' := 17) at_15 (v := 7) (by decide) rfl ?_
  refine g_irem O (pc' := 18) at_17 (by decide) rfl ?_
  refine g_istore O (pc' := 20) at_18 (Ls' := [some (.int v0), some (.int v1), some (.int v2), some (.int v3), some (.int v4), some (.int v5), some (.int ((v0 &&& (2147483647 : Int32)) % (6 : Int32))), some (.int (((XT.ushr v0 (3 : Int32)) &&& (2147483647 : Int32)) % (7 : Int32))), none, none]) rfl rfl ?_
  refine g_forget (Ls' := [none, some (.int v1), some (.int v2), some (.int v3), some (.int v4), some (.int v5), some (.int ((v0 &&& (2147483647 : Int32)) % (6 : Int32))), some (.int (((XT.ushr v0 (3 : Int32)) &&& (2147483647 : Int32)) % (7 : Int32))), none, none]) (And.intro rfl (And.intro rfl (And.intro rfl (And.intro rfl (And.intro rfl (And.intro rfl (And.intro rfl trivial))))))) ?_
  exact m0_t20 O v1 v2 v3 v4 v5 ((v0 &&& (2147483647 : Int32)) % (6 : Int32)) (((XT.ushr v0 (3 : Int32)) &&& (2147483647 : Int32)) % (7 : Int32)) H _ _ hf
abbrev m0 (v0 : Int32) (v1 : Int32) (v2 : Int32) (v3 : Int32) (v4 : Int32) (v5 : Int32) (H : List Obj) : Option (Int32 × List Obj) := m0_b0 v0 v1 v2 v3 v4 v5 H

abbrev V (a b c d e : Int32) : Obj := .inl (.int, [.int a, .int b, .int c, .int d, .int e])
abbrev B (x0 x1 x2 x3 x4 : Int32) : Obj := .inl (.int, [.int x0, .int x1, .int x2, .int x3, .int x4, .int 0, .int 0, .int 0])
abbrev L (n : Int32) : Obj := .inr (0, [.ref 2, .int n])
theorem own_dv : defaultValue .int = .int 0 := rfl
theorem own_t8 : Nat.toInt32 8 = 8 := by decide
theorem own_in {n f i x : Int32} {H : List Obj} {vs : List Value} (hi : i < n) (ho : obj 0 H 1 = some vs) (h6 : m6 1 i H = some (x, H)) (h7 : m7 0 n f i H = some (x, H)) : m4 1 0 n f i H = some (1, H) := by
  show m4_b0 1 0 n f i H = _
  unfold m4_b0
  rw [if_pos hi, ho, Option.bind_some, h6, Option.bind_some]; dsimp only; rw [h7, Option.bind_some]; dsimp only; rw [if_pos rfl]; rfl
theorem own_ge {n f i : Int32} {H : List Obj} (hi : ¬ i < n) : m4 1 0 n f i H = some (1, H) := by
  show m4_b0 1 0 n f i H = _
  unfold m4_b0
  rw [if_neg hi]
theorem own_117 {n f : Int32} {H H' : List Obj} {vs vs' : List Value} (ho : obj 0 H 1 = some vs) (h2 : m2 1 f H = some H') (ho' : obj 0 H' 1 = some vs') (h3 : m3 1 H' = some (n, H')) (c0 : m4 1 0 n f 0 H' = some (1, H')) (c1 : m4 1 0 n f 1 H' = some (1, H')) (c2 : m4 1 0 n f 2 H' = some (1, H')) (c3 : m4 1 0 n f 3 H' = some (1, H')) (c4 : m4 1 0 n f 4 H' = some (1, H')) : m0_b117 n f 0 1 H = some (1, H') := by
  have z : ¬ (1 : Int32) = 0 := by decide
  unfold m0_b117
  rw [ho, Option.bind_some, h2, Option.bind_some, ho', Option.bind_some, h3, Option.bind_some]; dsimp only
  rw [if_pos rfl, c0, Option.bind_some]; dsimp only
  rw [if_neg z, c1, Option.bind_some]; dsimp only
  rw [if_neg z, c2, Option.bind_some]; dsimp only
  rw [if_neg z, c3, Option.bind_some]; dsimp only
  rw [if_neg z, c4, Option.bind_some]; dsimp only
  rw [if_neg z]; rfl
theorem own_c00 (a b c d e : Int32) : ∃ Hf, m0_b20 a b c d e 0 0 [] = some (1, Hf) := by
  have he : m0_b20 a b c d e 0 0 [] = m0_b117 0 0 0 1 [V a b c d e, L 0, B 0 0 0 0 0] := by simp [m0_b20, m0_b67, m0_b79, m0_b91, m0_b104, mkArr, wr, arr, m1, m1_b0, m5, m5_b0, setF, obj, fldI, fldA, fld, getI, getA, alen, own_dv, own_t8]
  exact ⟨_, he.trans (own_117 (H' := [V a b c d e, L 0, B 0 0 0 0 0]) (vs := [.ref 2, .int 0]) (vs' := [.ref 2, .int 0]) rfl rfl rfl rfl (own_ge (by decide)) (own_ge (by decide)) (own_ge (by decide)) (own_ge (by decide)) (own_ge (by decide)))⟩
theorem own_c01 (a b c d e : Int32) : ∃ Hf, m0_b20 a b c d e 0 1 [] = some (1, Hf) := by
  have he : m0_b20 a b c d e 0 1 [] = m0_b117 0 1 0 1 [V a b c d e, L 0, B 0 0 0 0 0] := by simp [m0_b20, m0_b67, m0_b79, m0_b91, m0_b104, mkArr, wr, arr, m1, m1_b0, m5, m5_b0, setF, obj, fldI, fldA, fld, getI, getA, alen, own_dv, own_t8]
  exact ⟨_, he.trans (own_117 (H' := [V a b c d e, L 0, B 0 0 0 0 0]) (vs := [.ref 2, .int 0]) (vs' := [.ref 2, .int 0]) rfl rfl rfl rfl (own_ge (by decide)) (own_ge (by decide)) (own_ge (by decide)) (own_ge (by decide)) (own_ge (by decide)))⟩
theorem own_c02 (a b c d e : Int32) : ∃ Hf, m0_b20 a b c d e 0 2 [] = some (1, Hf) := by
  have he : m0_b20 a b c d e 0 2 [] = m0_b117 0 2 0 1 [V a b c d e, L 0, B 0 0 0 0 0] := by simp [m0_b20, m0_b67, m0_b79, m0_b91, m0_b104, mkArr, wr, arr, m1, m1_b0, m5, m5_b0, setF, obj, fldI, fldA, fld, getI, getA, alen, own_dv, own_t8]
  exact ⟨_, he.trans (own_117 (H' := [V a b c d e, L 0, B 0 0 0 0 0]) (vs := [.ref 2, .int 0]) (vs' := [.ref 2, .int 0]) rfl rfl rfl rfl (own_ge (by decide)) (own_ge (by decide)) (own_ge (by decide)) (own_ge (by decide)) (own_ge (by decide)))⟩
theorem own_c03 (a b c d e : Int32) : ∃ Hf, m0_b20 a b c d e 0 3 [] = some (1, Hf) := by
  have he : m0_b20 a b c d e 0 3 [] = m0_b117 0 3 0 1 [V a b c d e, L 0, B 0 0 0 0 0] := by simp [m0_b20, m0_b67, m0_b79, m0_b91, m0_b104, mkArr, wr, arr, m1, m1_b0, m5, m5_b0, setF, obj, fldI, fldA, fld, getI, getA, alen, own_dv, own_t8]
  exact ⟨_, he.trans (own_117 (H' := [V a b c d e, L 0, B 0 0 0 0 0]) (vs := [.ref 2, .int 0]) (vs' := [.ref 2, .int 0]) rfl rfl rfl rfl (own_ge (by decide)) (own_ge (by decide)) (own_ge (by decide)) (own_ge (by decide)) (own_ge (by decide)))⟩
theorem own_c04 (a b c d e : Int32) : ∃ Hf, m0_b20 a b c d e 0 4 [] = some (1, Hf) := by
  have he : m0_b20 a b c d e 0 4 [] = m0_b117 0 4 0 1 [V a b c d e, L 0, B 0 0 0 0 0] := by simp [m0_b20, m0_b67, m0_b79, m0_b91, m0_b104, mkArr, wr, arr, m1, m1_b0, m5, m5_b0, setF, obj, fldI, fldA, fld, getI, getA, alen, own_dv, own_t8]
  exact ⟨_, he.trans (own_117 (H' := [V a b c d e, L 0, B 0 0 0 0 0]) (vs := [.ref 2, .int 0]) (vs' := [.ref 2, .int 0]) rfl rfl rfl rfl (own_ge (by decide)) (own_ge (by decide)) (own_ge (by decide)) (own_ge (by decide)) (own_ge (by decide)))⟩
theorem own_c05 (a b c d e : Int32) : ∃ Hf, m0_b20 a b c d e 0 5 [] = some (1, Hf) := by
  have he : m0_b20 a b c d e 0 5 [] = m0_b117 0 5 0 1 [V a b c d e, L 0, B 0 0 0 0 0] := by simp [m0_b20, m0_b67, m0_b79, m0_b91, m0_b104, mkArr, wr, arr, m1, m1_b0, m5, m5_b0, setF, obj, fldI, fldA, fld, getI, getA, alen, own_dv, own_t8]
  exact ⟨_, he.trans (own_117 (H' := [V a b c d e, L 0, B 0 0 0 0 0]) (vs := [.ref 2, .int 0]) (vs' := [.ref 2, .int 0]) rfl rfl rfl rfl (own_ge (by decide)) (own_ge (by decide)) (own_ge (by decide)) (own_ge (by decide)) (own_ge (by decide)))⟩
theorem own_c06 (a b c d e : Int32) : ∃ Hf, m0_b20 a b c d e 0 6 [] = some (1, Hf) := by
  have he : m0_b20 a b c d e 0 6 [] = m0_b117 0 6 0 1 [V a b c d e, L 0, B 0 0 0 0 0] := by simp [m0_b20, m0_b67, m0_b79, m0_b91, m0_b104, mkArr, wr, arr, m1, m1_b0, m5, m5_b0, setF, obj, fldI, fldA, fld, getI, getA, alen, own_dv, own_t8]
  exact ⟨_, he.trans (own_117 (H' := [V a b c d e, L 0, B 0 0 0 0 0]) (vs := [.ref 2, .int 0]) (vs' := [.ref 2, .int 0]) rfl rfl rfl rfl (own_ge (by decide)) (own_ge (by decide)) (own_ge (by decide)) (own_ge (by decide)) (own_ge (by decide)))⟩
theorem own_c10 (a b c d e : Int32) : ∃ Hf, m0_b20 a b c d e 1 0 [] = some (1, Hf) := by
  have he : m0_b20 a b c d e 1 0 [] = m0_b117 1 0 0 1 [V a b c d e, L 1, B a 0 0 0 0] := by simp [m0_b20, m0_b67, m0_b79, m0_b91, m0_b104, mkArr, wr, arr, m1, m1_b0, m5, m5_b0, setF, obj, fldI, fldA, fld, getI, getA, alen, own_dv, own_t8]
  exact ⟨_, he.trans (own_117 (H' := [V a b c d e, L 1, B a 0 0 0 0]) (vs := [.ref 2, .int 1]) (vs' := [.ref 2, .int 1]) rfl rfl rfl rfl (own_in (x := a) (vs := [.ref 2, .int 1]) (by decide) rfl rfl rfl) (own_ge (by decide)) (own_ge (by decide)) (own_ge (by decide)) (own_ge (by decide)))⟩
theorem own_c11 (a b c d e : Int32) : ∃ Hf, m0_b20 a b c d e 1 1 [] = some (1, Hf) := by
  have he : m0_b20 a b c d e 1 1 [] = m0_b117 1 1 0 1 [V a b c d e, L 1, B a 0 0 0 0] := by simp [m0_b20, m0_b67, m0_b79, m0_b91, m0_b104, mkArr, wr, arr, m1, m1_b0, m5, m5_b0, setF, obj, fldI, fldA, fld, getI, getA, alen, own_dv, own_t8]
  exact ⟨_, he.trans (own_117 (H' := [V a b c d e, L 1, B a 0 0 0 0]) (vs := [.ref 2, .int 1]) (vs' := [.ref 2, .int 1]) rfl rfl rfl rfl (own_in (x := a) (vs := [.ref 2, .int 1]) (by decide) rfl rfl rfl) (own_ge (by decide)) (own_ge (by decide)) (own_ge (by decide)) (own_ge (by decide)))⟩
theorem own_c12 (a b c d e : Int32) : ∃ Hf, m0_b20 a b c d e 1 2 [] = some (1, Hf) := by
  have he : m0_b20 a b c d e 1 2 [] = m0_b117 1 2 0 1 [V a b c d e, L 1, B a 0 0 0 0] := by simp [m0_b20, m0_b67, m0_b79, m0_b91, m0_b104, mkArr, wr, arr, m1, m1_b0, m5, m5_b0, setF, obj, fldI, fldA, fld, getI, getA, alen, own_dv, own_t8]
  exact ⟨_, he.trans (own_117 (H' := [V a b c d e, L 1, B a 0 0 0 0]) (vs := [.ref 2, .int 1]) (vs' := [.ref 2, .int 1]) rfl rfl rfl rfl (own_in (x := a) (vs := [.ref 2, .int 1]) (by decide) rfl rfl rfl) (own_ge (by decide)) (own_ge (by decide)) (own_ge (by decide)) (own_ge (by decide)))⟩
theorem own_c13 (a b c d e : Int32) : ∃ Hf, m0_b20 a b c d e 1 3 [] = some (1, Hf) := by
  have he : m0_b20 a b c d e 1 3 [] = m0_b117 1 3 0 1 [V a b c d e, L 1, B a 0 0 0 0] := by simp [m0_b20, m0_b67, m0_b79, m0_b91, m0_b104, mkArr, wr, arr, m1, m1_b0, m5, m5_b0, setF, obj, fldI, fldA, fld, getI, getA, alen, own_dv, own_t8]
  exact ⟨_, he.trans (own_117 (H' := [V a b c d e, L 1, B a 0 0 0 0]) (vs := [.ref 2, .int 1]) (vs' := [.ref 2, .int 1]) rfl rfl rfl rfl (own_in (x := a) (vs := [.ref 2, .int 1]) (by decide) rfl rfl rfl) (own_ge (by decide)) (own_ge (by decide)) (own_ge (by decide)) (own_ge (by decide)))⟩
theorem own_c14 (a b c d e : Int32) : ∃ Hf, m0_b20 a b c d e 1 4 [] = some (1, Hf) := by
  have he : m0_b20 a b c d e 1 4 [] = m0_b117 1 4 0 1 [V a b c d e, L 1, B a 0 0 0 0] := by simp [m0_b20, m0_b67, m0_b79, m0_b91, m0_b104, mkArr, wr, arr, m1, m1_b0, m5, m5_b0, setF, obj, fldI, fldA, fld, getI, getA, alen, own_dv, own_t8]
  exact ⟨_, he.trans (own_117 (H' := [V a b c d e, L 1, B a 0 0 0 0]) (vs := [.ref 2, .int 1]) (vs' := [.ref 2, .int 1]) rfl rfl rfl rfl (own_in (x := a) (vs := [.ref 2, .int 1]) (by decide) rfl rfl rfl) (own_ge (by decide)) (own_ge (by decide)) (own_ge (by decide)) (own_ge (by decide)))⟩
theorem own_c15 (a b c d e : Int32) : ∃ Hf, m0_b20 a b c d e 1 5 [] = some (1, Hf) := by
  have he : m0_b20 a b c d e 1 5 [] = m0_b117 1 5 0 1 [V a b c d e, L 1, B a 0 0 0 0] := by simp [m0_b20, m0_b67, m0_b79, m0_b91, m0_b104, mkArr, wr, arr, m1, m1_b0, m5, m5_b0, setF, obj, fldI, fldA, fld, getI, getA, alen, own_dv, own_t8]
  exact ⟨_, he.trans (own_117 (H' := [V a b c d e, L 1, B a 0 0 0 0]) (vs := [.ref 2, .int 1]) (vs' := [.ref 2, .int 1]) rfl rfl rfl rfl (own_in (x := a) (vs := [.ref 2, .int 1]) (by decide) rfl rfl rfl) (own_ge (by decide)) (own_ge (by decide)) (own_ge (by decide)) (own_ge (by decide)))⟩
theorem own_c16 (a b c d e : Int32) : ∃ Hf, m0_b20 a b c d e 1 6 [] = some (1, Hf) := by
  have he : m0_b20 a b c d e 1 6 [] = m0_b117 1 6 0 1 [V a b c d e, L 1, B a 0 0 0 0] := by simp [m0_b20, m0_b67, m0_b79, m0_b91, m0_b104, mkArr, wr, arr, m1, m1_b0, m5, m5_b0, setF, obj, fldI, fldA, fld, getI, getA, alen, own_dv, own_t8]
  exact ⟨_, he.trans (own_117 (H' := [V a b c d e, L 1, B a 0 0 0 0]) (vs := [.ref 2, .int 1]) (vs' := [.ref 2, .int 1]) rfl rfl rfl rfl (own_in (x := a) (vs := [.ref 2, .int 1]) (by decide) rfl rfl rfl) (own_ge (by decide)) (own_ge (by decide)) (own_ge (by decide)) (own_ge (by decide)))⟩
theorem own_c20 (a b c d e : Int32) : ∃ Hf, m0_b20 a b c d e 2 0 [] = some (1, Hf) := by
  have he : m0_b20 a b c d e 2 0 [] = m0_b117 2 0 0 1 [V a b c d e, L 2, B a b 0 0 0] := by simp [m0_b20, m0_b67, m0_b79, m0_b91, m0_b104, mkArr, wr, arr, m1, m1_b0, m5, m5_b0, setF, obj, fldI, fldA, fld, getI, getA, alen, own_dv, own_t8]
  exact ⟨_, he.trans (own_117 (H' := [V a b c d e, L 2, B b a 0 0 0]) (vs := [.ref 2, .int 2]) (vs' := [.ref 2, .int 2]) rfl rfl rfl rfl (own_in (x := b) (vs := [.ref 2, .int 2]) (by decide) rfl rfl rfl) (own_in (x := a) (vs := [.ref 2, .int 2]) (by decide) rfl rfl rfl) (own_ge (by decide)) (own_ge (by decide)) (own_ge (by decide)))⟩
theorem own_c21 (a b c d e : Int32) : ∃ Hf, m0_b20 a b c d e 2 1 [] = some (1, Hf) := by
  have he : m0_b20 a b c d e 2 1 [] = m0_b117 2 1 0 1 [V a b c d e, L 2, B a b 0 0 0] := by simp [m0_b20, m0_b67, m0_b79, m0_b91, m0_b104, mkArr, wr, arr, m1, m1_b0, m5, m5_b0, setF, obj, fldI, fldA, fld, getI, getA, alen, own_dv, own_t8]
  exact ⟨_, he.trans (own_117 (H' := [V a b c d e, L 2, B a b 0 0 0]) (vs := [.ref 2, .int 2]) (vs' := [.ref 2, .int 2]) rfl rfl rfl rfl (own_in (x := a) (vs := [.ref 2, .int 2]) (by decide) rfl rfl rfl) (own_in (x := b) (vs := [.ref 2, .int 2]) (by decide) rfl rfl rfl) (own_ge (by decide)) (own_ge (by decide)) (own_ge (by decide)))⟩
theorem own_c22 (a b c d e : Int32) : ∃ Hf, m0_b20 a b c d e 2 2 [] = some (1, Hf) := by
  have he : m0_b20 a b c d e 2 2 [] = m0_b117 2 2 0 1 [V a b c d e, L 2, B a b 0 0 0] := by simp [m0_b20, m0_b67, m0_b79, m0_b91, m0_b104, mkArr, wr, arr, m1, m1_b0, m5, m5_b0, setF, obj, fldI, fldA, fld, getI, getA, alen, own_dv, own_t8]
  exact ⟨_, he.trans (own_117 (H' := [V a b c d e, L 2, B a b 0 0 0]) (vs := [.ref 2, .int 2]) (vs' := [.ref 2, .int 2]) rfl rfl rfl rfl (own_in (x := a) (vs := [.ref 2, .int 2]) (by decide) rfl rfl rfl) (own_in (x := b) (vs := [.ref 2, .int 2]) (by decide) rfl rfl rfl) (own_ge (by decide)) (own_ge (by decide)) (own_ge (by decide)))⟩
theorem own_c23 (a b c d e : Int32) : ∃ Hf, m0_b20 a b c d e 2 3 [] = some (1, Hf) := by
  have he : m0_b20 a b c d e 2 3 [] = m0_b117 2 3 0 1 [V a b c d e, L 2, B a b 0 0 0] := by simp [m0_b20, m0_b67, m0_b79, m0_b91, m0_b104, mkArr, wr, arr, m1, m1_b0, m5, m5_b0, setF, obj, fldI, fldA, fld, getI, getA, alen, own_dv, own_t8]
  exact ⟨_, he.trans (own_117 (H' := [V a b c d e, L 2, B a b 0 0 0]) (vs := [.ref 2, .int 2]) (vs' := [.ref 2, .int 2]) rfl rfl rfl rfl (own_in (x := a) (vs := [.ref 2, .int 2]) (by decide) rfl rfl rfl) (own_in (x := b) (vs := [.ref 2, .int 2]) (by decide) rfl rfl rfl) (own_ge (by decide)) (own_ge (by decide)) (own_ge (by decide)))⟩
theorem own_c24 (a b c d e : Int32) : ∃ Hf, m0_b20 a b c d e 2 4 [] = some (1, Hf) := by
  have he : m0_b20 a b c d e 2 4 [] = m0_b117 2 4 0 1 [V a b c d e, L 2, B a b 0 0 0] := by simp [m0_b20, m0_b67, m0_b79, m0_b91, m0_b104, mkArr, wr, arr, m1, m1_b0, m5, m5_b0, setF, obj, fldI, fldA, fld, getI, getA, alen, own_dv, own_t8]
  exact ⟨_, he.trans (own_117 (H' := [V a b c d e, L 2, B a b 0 0 0]) (vs := [.ref 2, .int 2]) (vs' := [.ref 2, .int 2]) rfl rfl rfl rfl (own_in (x := a) (vs := [.ref 2, .int 2]) (by decide) rfl rfl rfl) (own_in (x := b) (vs := [.ref 2, .int 2]) (by decide) rfl rfl rfl) (own_ge (by decide)) (own_ge (by decide)) (own_ge (by decide)))⟩
theorem own_c25 (a b c d e : Int32) : ∃ Hf, m0_b20 a b c d e 2 5 [] = some (1, Hf) := by
  have he : m0_b20 a b c d e 2 5 [] = m0_b117 2 5 0 1 [V a b c d e, L 2, B a b 0 0 0] := by simp [m0_b20, m0_b67, m0_b79, m0_b91, m0_b104, mkArr, wr, arr, m1, m1_b0, m5, m5_b0, setF, obj, fldI, fldA, fld, getI, getA, alen, own_dv, own_t8]
  exact ⟨_, he.trans (own_117 (H' := [V a b c d e, L 2, B a b 0 0 0]) (vs := [.ref 2, .int 2]) (vs' := [.ref 2, .int 2]) rfl rfl rfl rfl (own_in (x := a) (vs := [.ref 2, .int 2]) (by decide) rfl rfl rfl) (own_in (x := b) (vs := [.ref 2, .int 2]) (by decide) rfl rfl rfl) (own_ge (by decide)) (own_ge (by decide)) (own_ge (by decide)))⟩
theorem own_c26 (a b c d e : Int32) : ∃ Hf, m0_b20 a b c d e 2 6 [] = some (1, Hf) := by
  have he : m0_b20 a b c d e 2 6 [] = m0_b117 2 6 0 1 [V a b c d e, L 2, B a b 0 0 0] := by simp [m0_b20, m0_b67, m0_b79, m0_b91, m0_b104, mkArr, wr, arr, m1, m1_b0, m5, m5_b0, setF, obj, fldI, fldA, fld, getI, getA, alen, own_dv, own_t8]
  exact ⟨_, he.trans (own_117 (H' := [V a b c d e, L 2, B a b 0 0 0]) (vs := [.ref 2, .int 2]) (vs' := [.ref 2, .int 2]) rfl rfl rfl rfl (own_in (x := a) (vs := [.ref 2, .int 2]) (by decide) rfl rfl rfl) (own_in (x := b) (vs := [.ref 2, .int 2]) (by decide) rfl rfl rfl) (own_ge (by decide)) (own_ge (by decide)) (own_ge (by decide)))⟩
theorem own_c30 (a b c d e : Int32) : ∃ Hf, m0_b20 a b c d e 3 0 [] = some (1, Hf) := by
  have he : m0_b20 a b c d e 3 0 [] = m0_b117 3 0 0 1 [V a b c d e, L 3, B a b c 0 0] := by simp [m0_b20, m0_b67, m0_b79, m0_b91, m0_b104, mkArr, wr, arr, m1, m1_b0, m5, m5_b0, setF, obj, fldI, fldA, fld, getI, getA, alen, own_dv, own_t8]
  exact ⟨_, he.trans (own_117 (H' := [V a b c d e, L 3, B c b a 0 0]) (vs := [.ref 2, .int 3]) (vs' := [.ref 2, .int 3]) rfl rfl rfl rfl (own_in (x := c) (vs := [.ref 2, .int 3]) (by decide) rfl rfl rfl) (own_in (x := b) (vs := [.ref 2, .int 3]) (by decide) rfl rfl rfl) (own_in (x := a) (vs := [.ref 2, .int 3]) (by decide) rfl rfl rfl) (own_ge (by decide)) (own_ge (by decide)))⟩
theorem own_c31 (a b c d e : Int32) : ∃ Hf, m0_b20 a b c d e 3 1 [] = some (1, Hf) := by
  have he : m0_b20 a b c d e 3 1 [] = m0_b117 3 1 0 1 [V a b c d e, L 3, B a b c 0 0] := by simp [m0_b20, m0_b67, m0_b79, m0_b91, m0_b104, mkArr, wr, arr, m1, m1_b0, m5, m5_b0, setF, obj, fldI, fldA, fld, getI, getA, alen, own_dv, own_t8]
  exact ⟨_, he.trans (own_117 (H' := [V a b c d e, L 3, B a c b 0 0]) (vs := [.ref 2, .int 3]) (vs' := [.ref 2, .int 3]) rfl rfl rfl rfl (own_in (x := a) (vs := [.ref 2, .int 3]) (by decide) rfl rfl rfl) (own_in (x := c) (vs := [.ref 2, .int 3]) (by decide) rfl rfl rfl) (own_in (x := b) (vs := [.ref 2, .int 3]) (by decide) rfl rfl rfl) (own_ge (by decide)) (own_ge (by decide)))⟩
theorem own_c32 (a b c d e : Int32) : ∃ Hf, m0_b20 a b c d e 3 2 [] = some (1, Hf) := by
  have he : m0_b20 a b c d e 3 2 [] = m0_b117 3 2 0 1 [V a b c d e, L 3, B a b c 0 0] := by simp [m0_b20, m0_b67, m0_b79, m0_b91, m0_b104, mkArr, wr, arr, m1, m1_b0, m5, m5_b0, setF, obj, fldI, fldA, fld, getI, getA, alen, own_dv, own_t8]
  exact ⟨_, he.trans (own_117 (H' := [V a b c d e, L 3, B a b c 0 0]) (vs := [.ref 2, .int 3]) (vs' := [.ref 2, .int 3]) rfl rfl rfl rfl (own_in (x := a) (vs := [.ref 2, .int 3]) (by decide) rfl rfl rfl) (own_in (x := b) (vs := [.ref 2, .int 3]) (by decide) rfl rfl rfl) (own_in (x := c) (vs := [.ref 2, .int 3]) (by decide) rfl rfl rfl) (own_ge (by decide)) (own_ge (by decide)))⟩
theorem own_c33 (a b c d e : Int32) : ∃ Hf, m0_b20 a b c d e 3 3 [] = some (1, Hf) := by
  have he : m0_b20 a b c d e 3 3 [] = m0_b117 3 3 0 1 [V a b c d e, L 3, B a b c 0 0] := by simp [m0_b20, m0_b67, m0_b79, m0_b91, m0_b104, mkArr, wr, arr, m1, m1_b0, m5, m5_b0, setF, obj, fldI, fldA, fld, getI, getA, alen, own_dv, own_t8]
  exact ⟨_, he.trans (own_117 (H' := [V a b c d e, L 3, B a b c 0 0]) (vs := [.ref 2, .int 3]) (vs' := [.ref 2, .int 3]) rfl rfl rfl rfl (own_in (x := a) (vs := [.ref 2, .int 3]) (by decide) rfl rfl rfl) (own_in (x := b) (vs := [.ref 2, .int 3]) (by decide) rfl rfl rfl) (own_in (x := c) (vs := [.ref 2, .int 3]) (by decide) rfl rfl rfl) (own_ge (by decide)) (own_ge (by decide)))⟩
theorem own_c34 (a b c d e : Int32) : ∃ Hf, m0_b20 a b c d e 3 4 [] = some (1, Hf) := by
  have he : m0_b20 a b c d e 3 4 [] = m0_b117 3 4 0 1 [V a b c d e, L 3, B a b c 0 0] := by simp [m0_b20, m0_b67, m0_b79, m0_b91, m0_b104, mkArr, wr, arr, m1, m1_b0, m5, m5_b0, setF, obj, fldI, fldA, fld, getI, getA, alen, own_dv, own_t8]
  exact ⟨_, he.trans (own_117 (H' := [V a b c d e, L 3, B a b c 0 0]) (vs := [.ref 2, .int 3]) (vs' := [.ref 2, .int 3]) rfl rfl rfl rfl (own_in (x := a) (vs := [.ref 2, .int 3]) (by decide) rfl rfl rfl) (own_in (x := b) (vs := [.ref 2, .int 3]) (by decide) rfl rfl rfl) (own_in (x := c) (vs := [.ref 2, .int 3]) (by decide) rfl rfl rfl) (own_ge (by decide)) (own_ge (by decide)))⟩
theorem own_c35 (a b c d e : Int32) : ∃ Hf, m0_b20 a b c d e 3 5 [] = some (1, Hf) := by
  have he : m0_b20 a b c d e 3 5 [] = m0_b117 3 5 0 1 [V a b c d e, L 3, B a b c 0 0] := by simp [m0_b20, m0_b67, m0_b79, m0_b91, m0_b104, mkArr, wr, arr, m1, m1_b0, m5, m5_b0, setF, obj, fldI, fldA, fld, getI, getA, alen, own_dv, own_t8]
  exact ⟨_, he.trans (own_117 (H' := [V a b c d e, L 3, B a b c 0 0]) (vs := [.ref 2, .int 3]) (vs' := [.ref 2, .int 3]) rfl rfl rfl rfl (own_in (x := a) (vs := [.ref 2, .int 3]) (by decide) rfl rfl rfl) (own_in (x := b) (vs := [.ref 2, .int 3]) (by decide) rfl rfl rfl) (own_in (x := c) (vs := [.ref 2, .int 3]) (by decide) rfl rfl rfl) (own_ge (by decide)) (own_ge (by decide)))⟩
theorem own_c36 (a b c d e : Int32) : ∃ Hf, m0_b20 a b c d e 3 6 [] = some (1, Hf) := by
  have he : m0_b20 a b c d e 3 6 [] = m0_b117 3 6 0 1 [V a b c d e, L 3, B a b c 0 0] := by simp [m0_b20, m0_b67, m0_b79, m0_b91, m0_b104, mkArr, wr, arr, m1, m1_b0, m5, m5_b0, setF, obj, fldI, fldA, fld, getI, getA, alen, own_dv, own_t8]
  exact ⟨_, he.trans (own_117 (H' := [V a b c d e, L 3, B a b c 0 0]) (vs := [.ref 2, .int 3]) (vs' := [.ref 2, .int 3]) rfl rfl rfl rfl (own_in (x := a) (vs := [.ref 2, .int 3]) (by decide) rfl rfl rfl) (own_in (x := b) (vs := [.ref 2, .int 3]) (by decide) rfl rfl rfl) (own_in (x := c) (vs := [.ref 2, .int 3]) (by decide) rfl rfl rfl) (own_ge (by decide)) (own_ge (by decide)))⟩
theorem own_c40 (a b c d e : Int32) : ∃ Hf, m0_b20 a b c d e 4 0 [] = some (1, Hf) := by
  have he : m0_b20 a b c d e 4 0 [] = m0_b117 4 0 0 1 [V a b c d e, L 4, B a b c d 0] := by simp [m0_b20, m0_b67, m0_b79, m0_b91, m0_b104, mkArr, wr, arr, m1, m1_b0, m5, m5_b0, setF, obj, fldI, fldA, fld, getI, getA, alen, own_dv, own_t8]
  exact ⟨_, he.trans (own_117 (H' := [V a b c d e, L 4, B d c b a 0]) (vs := [.ref 2, .int 4]) (vs' := [.ref 2, .int 4]) rfl rfl rfl rfl (own_in (x := d) (vs := [.ref 2, .int 4]) (by decide) rfl rfl rfl) (own_in (x := c) (vs := [.ref 2, .int 4]) (by decide) rfl rfl rfl) (own_in (x := b) (vs := [.ref 2, .int 4]) (by decide) rfl rfl rfl) (own_in (x := a) (vs := [.ref 2, .int 4]) (by decide) rfl rfl rfl) (own_ge (by decide)))⟩
theorem own_c41 (a b c d e : Int32) : ∃ Hf, m0_b20 a b c d e 4 1 [] = some (1, Hf) := by
  have he : m0_b20 a b c d e 4 1 [] = m0_b117 4 1 0 1 [V a b c d e, L 4, B a b c d 0] := by simp [m0_b20, m0_b67, m0_b79, m0_b91, m0_b104, mkArr, wr, arr, m1, m1_b0, m5, m5_b0, setF, obj, fldI, fldA, fld, getI, getA, alen, own_dv, own_t8]
  exact ⟨_, he.trans (own_117 (H' := [V a b c d e, L 4, B a d c b 0]) (vs := [.ref 2, .int 4]) (vs' := [.ref 2, .int 4]) rfl rfl rfl rfl (own_in (x := a) (vs := [.ref 2, .int 4]) (by decide) rfl rfl rfl) (own_in (x := d) (vs := [.ref 2, .int 4]) (by decide) rfl rfl rfl) (own_in (x := c) (vs := [.ref 2, .int 4]) (by decide) rfl rfl rfl) (own_in (x := b) (vs := [.ref 2, .int 4]) (by decide) rfl rfl rfl) (own_ge (by decide)))⟩
theorem own_c42 (a b c d e : Int32) : ∃ Hf, m0_b20 a b c d e 4 2 [] = some (1, Hf) := by
  have he : m0_b20 a b c d e 4 2 [] = m0_b117 4 2 0 1 [V a b c d e, L 4, B a b c d 0] := by simp [m0_b20, m0_b67, m0_b79, m0_b91, m0_b104, mkArr, wr, arr, m1, m1_b0, m5, m5_b0, setF, obj, fldI, fldA, fld, getI, getA, alen, own_dv, own_t8]
  exact ⟨_, he.trans (own_117 (H' := [V a b c d e, L 4, B a b d c 0]) (vs := [.ref 2, .int 4]) (vs' := [.ref 2, .int 4]) rfl rfl rfl rfl (own_in (x := a) (vs := [.ref 2, .int 4]) (by decide) rfl rfl rfl) (own_in (x := b) (vs := [.ref 2, .int 4]) (by decide) rfl rfl rfl) (own_in (x := d) (vs := [.ref 2, .int 4]) (by decide) rfl rfl rfl) (own_in (x := c) (vs := [.ref 2, .int 4]) (by decide) rfl rfl rfl) (own_ge (by decide)))⟩
theorem own_c43 (a b c d e : Int32) : ∃ Hf, m0_b20 a b c d e 4 3 [] = some (1, Hf) := by
  have he : m0_b20 a b c d e 4 3 [] = m0_b117 4 3 0 1 [V a b c d e, L 4, B a b c d 0] := by simp [m0_b20, m0_b67, m0_b79, m0_b91, m0_b104, mkArr, wr, arr, m1, m1_b0, m5, m5_b0, setF, obj, fldI, fldA, fld, getI, getA, alen, own_dv, own_t8]
  exact ⟨_, he.trans (own_117 (H' := [V a b c d e, L 4, B a b c d 0]) (vs := [.ref 2, .int 4]) (vs' := [.ref 2, .int 4]) rfl rfl rfl rfl (own_in (x := a) (vs := [.ref 2, .int 4]) (by decide) rfl rfl rfl) (own_in (x := b) (vs := [.ref 2, .int 4]) (by decide) rfl rfl rfl) (own_in (x := c) (vs := [.ref 2, .int 4]) (by decide) rfl rfl rfl) (own_in (x := d) (vs := [.ref 2, .int 4]) (by decide) rfl rfl rfl) (own_ge (by decide)))⟩
theorem own_c44 (a b c d e : Int32) : ∃ Hf, m0_b20 a b c d e 4 4 [] = some (1, Hf) := by
  have he : m0_b20 a b c d e 4 4 [] = m0_b117 4 4 0 1 [V a b c d e, L 4, B a b c d 0] := by simp [m0_b20, m0_b67, m0_b79, m0_b91, m0_b104, mkArr, wr, arr, m1, m1_b0, m5, m5_b0, setF, obj, fldI, fldA, fld, getI, getA, alen, own_dv, own_t8]
  exact ⟨_, he.trans (own_117 (H' := [V a b c d e, L 4, B a b c d 0]) (vs := [.ref 2, .int 4]) (vs' := [.ref 2, .int 4]) rfl rfl rfl rfl (own_in (x := a) (vs := [.ref 2, .int 4]) (by decide) rfl rfl rfl) (own_in (x := b) (vs := [.ref 2, .int 4]) (by decide) rfl rfl rfl) (own_in (x := c) (vs := [.ref 2, .int 4]) (by decide) rfl rfl rfl) (own_in (x := d) (vs := [.ref 2, .int 4]) (by decide) rfl rfl rfl) (own_ge (by decide)))⟩
theorem own_c45 (a b c d e : Int32) : ∃ Hf, m0_b20 a b c d e 4 5 [] = some (1, Hf) := by
  have he : m0_b20 a b c d e 4 5 [] = m0_b117 4 5 0 1 [V a b c d e, L 4, B a b c d 0] := by simp [m0_b20, m0_b67, m0_b79, m0_b91, m0_b104, mkArr, wr, arr, m1, m1_b0, m5, m5_b0, setF, obj, fldI, fldA, fld, getI, getA, alen, own_dv, own_t8]
  exact ⟨_, he.trans (own_117 (H' := [V a b c d e, L 4, B a b c d 0]) (vs := [.ref 2, .int 4]) (vs' := [.ref 2, .int 4]) rfl rfl rfl rfl (own_in (x := a) (vs := [.ref 2, .int 4]) (by decide) rfl rfl rfl) (own_in (x := b) (vs := [.ref 2, .int 4]) (by decide) rfl rfl rfl) (own_in (x := c) (vs := [.ref 2, .int 4]) (by decide) rfl rfl rfl) (own_in (x := d) (vs := [.ref 2, .int 4]) (by decide) rfl rfl rfl) (own_ge (by decide)))⟩
theorem own_c46 (a b c d e : Int32) : ∃ Hf, m0_b20 a b c d e 4 6 [] = some (1, Hf) := by
  have he : m0_b20 a b c d e 4 6 [] = m0_b117 4 6 0 1 [V a b c d e, L 4, B a b c d 0] := by simp [m0_b20, m0_b67, m0_b79, m0_b91, m0_b104, mkArr, wr, arr, m1, m1_b0, m5, m5_b0, setF, obj, fldI, fldA, fld, getI, getA, alen, own_dv, own_t8]
  exact ⟨_, he.trans (own_117 (H' := [V a b c d e, L 4, B a b c d 0]) (vs := [.ref 2, .int 4]) (vs' := [.ref 2, .int 4]) rfl rfl rfl rfl (own_in (x := a) (vs := [.ref 2, .int 4]) (by decide) rfl rfl rfl) (own_in (x := b) (vs := [.ref 2, .int 4]) (by decide) rfl rfl rfl) (own_in (x := c) (vs := [.ref 2, .int 4]) (by decide) rfl rfl rfl) (own_in (x := d) (vs := [.ref 2, .int 4]) (by decide) rfl rfl rfl) (own_ge (by decide)))⟩
theorem own_c50 (a b c d e : Int32) : ∃ Hf, m0_b20 a b c d e 5 0 [] = some (1, Hf) := by
  have he : m0_b20 a b c d e 5 0 [] = m0_b117 5 0 0 1 [V a b c d e, L 5, B a b c d e] := by simp [m0_b20, m0_b67, m0_b79, m0_b91, m0_b104, mkArr, wr, arr, m1, m1_b0, m5, m5_b0, setF, obj, fldI, fldA, fld, getI, getA, alen, own_dv, own_t8]
  exact ⟨_, he.trans (own_117 (H' := [V a b c d e, L 5, B e d c b a]) (vs := [.ref 2, .int 5]) (vs' := [.ref 2, .int 5]) rfl rfl rfl rfl (own_in (x := e) (vs := [.ref 2, .int 5]) (by decide) rfl rfl rfl) (own_in (x := d) (vs := [.ref 2, .int 5]) (by decide) rfl rfl rfl) (own_in (x := c) (vs := [.ref 2, .int 5]) (by decide) rfl rfl rfl) (own_in (x := b) (vs := [.ref 2, .int 5]) (by decide) rfl rfl rfl) (own_in (x := a) (vs := [.ref 2, .int 5]) (by decide) rfl rfl rfl))⟩
theorem own_c51 (a b c d e : Int32) : ∃ Hf, m0_b20 a b c d e 5 1 [] = some (1, Hf) := by
  have he : m0_b20 a b c d e 5 1 [] = m0_b117 5 1 0 1 [V a b c d e, L 5, B a b c d e] := by simp [m0_b20, m0_b67, m0_b79, m0_b91, m0_b104, mkArr, wr, arr, m1, m1_b0, m5, m5_b0, setF, obj, fldI, fldA, fld, getI, getA, alen, own_dv, own_t8]
  exact ⟨_, he.trans (own_117 (H' := [V a b c d e, L 5, B a e d c b]) (vs := [.ref 2, .int 5]) (vs' := [.ref 2, .int 5]) rfl rfl rfl rfl (own_in (x := a) (vs := [.ref 2, .int 5]) (by decide) rfl rfl rfl) (own_in (x := e) (vs := [.ref 2, .int 5]) (by decide) rfl rfl rfl) (own_in (x := d) (vs := [.ref 2, .int 5]) (by decide) rfl rfl rfl) (own_in (x := c) (vs := [.ref 2, .int 5]) (by decide) rfl rfl rfl) (own_in (x := b) (vs := [.ref 2, .int 5]) (by decide) rfl rfl rfl))⟩
theorem own_c52 (a b c d e : Int32) : ∃ Hf, m0_b20 a b c d e 5 2 [] = some (1, Hf) := by
  have he : m0_b20 a b c d e 5 2 [] = m0_b117 5 2 0 1 [V a b c d e, L 5, B a b c d e] := by simp [m0_b20, m0_b67, m0_b79, m0_b91, m0_b104, mkArr, wr, arr, m1, m1_b0, m5, m5_b0, setF, obj, fldI, fldA, fld, getI, getA, alen, own_dv, own_t8]
  exact ⟨_, he.trans (own_117 (H' := [V a b c d e, L 5, B a b e d c]) (vs := [.ref 2, .int 5]) (vs' := [.ref 2, .int 5]) rfl rfl rfl rfl (own_in (x := a) (vs := [.ref 2, .int 5]) (by decide) rfl rfl rfl) (own_in (x := b) (vs := [.ref 2, .int 5]) (by decide) rfl rfl rfl) (own_in (x := e) (vs := [.ref 2, .int 5]) (by decide) rfl rfl rfl) (own_in (x := d) (vs := [.ref 2, .int 5]) (by decide) rfl rfl rfl) (own_in (x := c) (vs := [.ref 2, .int 5]) (by decide) rfl rfl rfl))⟩
theorem own_c53 (a b c d e : Int32) : ∃ Hf, m0_b20 a b c d e 5 3 [] = some (1, Hf) := by
  have he : m0_b20 a b c d e 5 3 [] = m0_b117 5 3 0 1 [V a b c d e, L 5, B a b c d e] := by simp [m0_b20, m0_b67, m0_b79, m0_b91, m0_b104, mkArr, wr, arr, m1, m1_b0, m5, m5_b0, setF, obj, fldI, fldA, fld, getI, getA, alen, own_dv, own_t8]
  exact ⟨_, he.trans (own_117 (H' := [V a b c d e, L 5, B a b c e d]) (vs := [.ref 2, .int 5]) (vs' := [.ref 2, .int 5]) rfl rfl rfl rfl (own_in (x := a) (vs := [.ref 2, .int 5]) (by decide) rfl rfl rfl) (own_in (x := b) (vs := [.ref 2, .int 5]) (by decide) rfl rfl rfl) (own_in (x := c) (vs := [.ref 2, .int 5]) (by decide) rfl rfl rfl) (own_in (x := e) (vs := [.ref 2, .int 5]) (by decide) rfl rfl rfl) (own_in (x := d) (vs := [.ref 2, .int 5]) (by decide) rfl rfl rfl))⟩
theorem own_c54 (a b c d e : Int32) : ∃ Hf, m0_b20 a b c d e 5 4 [] = some (1, Hf) := by
  have he : m0_b20 a b c d e 5 4 [] = m0_b117 5 4 0 1 [V a b c d e, L 5, B a b c d e] := by simp [m0_b20, m0_b67, m0_b79, m0_b91, m0_b104, mkArr, wr, arr, m1, m1_b0, m5, m5_b0, setF, obj, fldI, fldA, fld, getI, getA, alen, own_dv, own_t8]
  exact ⟨_, he.trans (own_117 (H' := [V a b c d e, L 5, B a b c d e]) (vs := [.ref 2, .int 5]) (vs' := [.ref 2, .int 5]) rfl rfl rfl rfl (own_in (x := a) (vs := [.ref 2, .int 5]) (by decide) rfl rfl rfl) (own_in (x := b) (vs := [.ref 2, .int 5]) (by decide) rfl rfl rfl) (own_in (x := c) (vs := [.ref 2, .int 5]) (by decide) rfl rfl rfl) (own_in (x := d) (vs := [.ref 2, .int 5]) (by decide) rfl rfl rfl) (own_in (x := e) (vs := [.ref 2, .int 5]) (by decide) rfl rfl rfl))⟩
theorem own_c55 (a b c d e : Int32) : ∃ Hf, m0_b20 a b c d e 5 5 [] = some (1, Hf) := by
  have he : m0_b20 a b c d e 5 5 [] = m0_b117 5 5 0 1 [V a b c d e, L 5, B a b c d e] := by simp [m0_b20, m0_b67, m0_b79, m0_b91, m0_b104, mkArr, wr, arr, m1, m1_b0, m5, m5_b0, setF, obj, fldI, fldA, fld, getI, getA, alen, own_dv, own_t8]
  exact ⟨_, he.trans (own_117 (H' := [V a b c d e, L 5, B a b c d e]) (vs := [.ref 2, .int 5]) (vs' := [.ref 2, .int 5]) rfl rfl rfl rfl (own_in (x := a) (vs := [.ref 2, .int 5]) (by decide) rfl rfl rfl) (own_in (x := b) (vs := [.ref 2, .int 5]) (by decide) rfl rfl rfl) (own_in (x := c) (vs := [.ref 2, .int 5]) (by decide) rfl rfl rfl) (own_in (x := d) (vs := [.ref 2, .int 5]) (by decide) rfl rfl rfl) (own_in (x := e) (vs := [.ref 2, .int 5]) (by decide) rfl rfl rfl))⟩
theorem own_c56 (a b c d e : Int32) : ∃ Hf, m0_b20 a b c d e 5 6 [] = some (1, Hf) := by
  have he : m0_b20 a b c d e 5 6 [] = m0_b117 5 6 0 1 [V a b c d e, L 5, B a b c d e] := by simp [m0_b20, m0_b67, m0_b79, m0_b91, m0_b104, mkArr, wr, arr, m1, m1_b0, m5, m5_b0, setF, obj, fldI, fldA, fld, getI, getA, alen, own_dv, own_t8]
  exact ⟨_, he.trans (own_117 (H' := [V a b c d e, L 5, B a b c d e]) (vs := [.ref 2, .int 5]) (vs' := [.ref 2, .int 5]) rfl rfl rfl rfl (own_in (x := a) (vs := [.ref 2, .int 5]) (by decide) rfl rfl rfl) (own_in (x := b) (vs := [.ref 2, .int 5]) (by decide) rfl rfl rfl) (own_in (x := c) (vs := [.ref 2, .int 5]) (by decide) rfl rfl rfl) (own_in (x := d) (vs := [.ref 2, .int 5]) (by decide) rfl rfl rfl) (own_in (x := e) (vs := [.ref 2, .int 5]) (by decide) rfl rfl rfl))⟩
theorem own_n (a : Int32) : (a &&& 2147483647) % 6 = 0 ∨ (a &&& 2147483647) % 6 = 1 ∨ (a &&& 2147483647) % 6 = 2 ∨ (a &&& 2147483647) % 6 = 3 ∨ (a &&& 2147483647) % 6 = 4 ∨ (a &&& 2147483647) % 6 = 5 := by
  have h1 := own_m31 a
  have h2 := own_mod (a := a &&& 2147483647) (y := 6) (d := 6) (by decide) (by omega)
  obtain ⟨j, hj⟩ := own_fin (r := (a &&& 2147483647) % 6) (N := 6) (by omega) (by omega) (by decide)
  rw [hj]
  have : ∀ j : Fin 6, (j.1).toInt32 = 0 ∨ (j.1).toInt32 = 1 ∨ (j.1).toInt32 = 2 ∨ (j.1).toInt32 = 3 ∨ (j.1).toInt32 = 4 ∨ (j.1).toInt32 = 5 := by decide +kernel
  exact this j
theorem own_f (a : Int32) : (a &&& 2147483647) % 7 = 0 ∨ (a &&& 2147483647) % 7 = 1 ∨ (a &&& 2147483647) % 7 = 2 ∨ (a &&& 2147483647) % 7 = 3 ∨ (a &&& 2147483647) % 7 = 4 ∨ (a &&& 2147483647) % 7 = 5 ∨ (a &&& 2147483647) % 7 = 6 := by
  have h1 := own_m31 a
  have h2 := own_mod (a := a &&& 2147483647) (y := 7) (d := 7) (by decide) (by omega)
  obtain ⟨j, hj⟩ := own_fin (r := (a &&& 2147483647) % 7) (N := 7) (by omega) (by omega) (by decide)
  rw [hj]
  have : ∀ j : Fin 7, (j.1).toInt32 = 0 ∨ (j.1).toInt32 = 1 ∨ (j.1).toInt32 = 2 ∨ (j.1).toInt32 = 3 ∨ (j.1).toInt32 = 4 ∨ (j.1).toInt32 = 5 ∨ (j.1).toInt32 = 6 := by decide +kernel
  exact this j
theorem plain (i0 : Int32) (i1 : Int32) (i2 : Int32) (i3 : Int32) (i4 : Int32) (i5 : Int32) : ∃ Hf, m0 i0 i1 i2 i3 i4 i5 [] = some (1, Hf) := by
  show ∃ Hf, m0_b0 i0 i1 i2 i3 i4 i5 [] = some (1, Hf)
  unfold m0_b0
  rcases own_n i0 with h | h | h | h | h | h <;> rw [h] <;> rcases own_f (XT.ushr i0 3) with g | g | g | g | g | g | g <;> rw [g]
  · exact own_c00 _ _ _ _ _
  · exact own_c01 _ _ _ _ _
  · exact own_c02 _ _ _ _ _
  · exact own_c03 _ _ _ _ _
  · exact own_c04 _ _ _ _ _
  · exact own_c05 _ _ _ _ _
  · exact own_c06 _ _ _ _ _
  · exact own_c10 _ _ _ _ _
  · exact own_c11 _ _ _ _ _
  · exact own_c12 _ _ _ _ _
  · exact own_c13 _ _ _ _ _
  · exact own_c14 _ _ _ _ _
  · exact own_c15 _ _ _ _ _
  · exact own_c16 _ _ _ _ _
  · exact own_c20 _ _ _ _ _
  · exact own_c21 _ _ _ _ _
  · exact own_c22 _ _ _ _ _
  · exact own_c23 _ _ _ _ _
  · exact own_c24 _ _ _ _ _
  · exact own_c25 _ _ _ _ _
  · exact own_c26 _ _ _ _ _
  · exact own_c30 _ _ _ _ _
  · exact own_c31 _ _ _ _ _
  · exact own_c32 _ _ _ _ _
  · exact own_c33 _ _ _ _ _
  · exact own_c34 _ _ _ _ _
  · exact own_c35 _ _ _ _ _
  · exact own_c36 _ _ _ _ _
  · exact own_c40 _ _ _ _ _
  · exact own_c41 _ _ _ _ _
  · exact own_c42 _ _ _ _ _
  · exact own_c43 _ _ _ _ _
  · exact own_c44 _ _ _ _ _
  · exact own_c45 _ _ _ _ _
  · exact own_c46 _ _ _ _ _
  · exact own_c50 _ _ _ _ _
  · exact own_c51 _ _ _ _ _
  · exact own_c52 _ _ _ _ _
  · exact own_c53 _ _ _ _ _
  · exact own_c54 _ _ _ _ _
  · exact own_c55 _ _ _ _ _
  · exact own_c56 _ _ _ _ _

theorem comes_1 {Post : Tables → Env → Array Value → State → Outcome → State → Prop} (hpost : ∀ tb e args s v u, (limb_1_1.after args s (.returned v) u = true ∧ limb_1_2.after args s (.returned v) u = true ∧ True) → FrameEnd s (.returned v) u (Jvm.fieldLocs frame_1_writes args s ++ Jvm.arrayLocs frame_1_arrays args s ++ Jvm.staticLocs frame_1_statics s) 16 128 → Post tb e args s (.returned v) u) :
    ArmFor flags0 classFile x code maxLocals ret World_1 tables_1 room_1 Calls_1 rest_1 Pre_1 Post := by
  intro l hfl _ _ p e ha hc hk s m args below hf hA hF happ hP
  obtain ⟨hcalls, hrest, hpre⟩ := hP
  obtain ⟨-, -, -, hnamed, -, -, -, hat⟩ := (Spec.applies_iff hf).mp happ
  obtain ⟨hg, hn⟩ := and_e (Cond.before_iff.mp (show (Jvm.Cond.and given_1 narrow_1).before args s = true from hpre))
  obtain ⟨h1, g0⟩ := and_e hg
  obtain ⟨w0, w1, w2, w3, w4, w5, rfl⟩ : ∃ w0 w1 w2 w3 w4 w5 : Value, args = #[w0, w1, w2, w3, w4, w5] := by
    have hs : args.size = 6 := by simpa [Cond.value, given_1] using h1
    obtain ⟨L⟩ := args
    match L, hs with
    | [w0, w1, w2, w3, w4, w5], _ => exact ⟨w0, w1, w2, w3, w4, w5, rfl⟩
  have hw := fun d (hd : d ∈ tables_1) => atoms_spec (ws := Jvm.Cond.code x code maxLocals ret :: tables_1) hat d (List.mem_cons_of_mem _ hd)
  obtain ⟨a0, g1⟩ := and_e g0
  obtain ⟨i0, e0⟩ := is_v a0
  obtain rfl : w0 = (.int i0) := Option.some.inj e0
  obtain ⟨a1, g2⟩ := and_e g1
  obtain ⟨i1, e1⟩ := is_v a1
  obtain rfl : w1 = (.int i1) := Option.some.inj e1
  obtain ⟨a2, g3⟩ := and_e g2
  obtain ⟨i2, e2⟩ := is_v a2
  obtain rfl : w2 = (.int i2) := Option.some.inj e2
  obtain ⟨a3, g4⟩ := and_e g3
  obtain ⟨i3, e3⟩ := is_v a3
  obtain rfl : w3 = (.int i3) := Option.some.inj e3
  obtain ⟨a4, g5⟩ := and_e g4
  obtain ⟨i4, e4⟩ := is_v a4
  obtain rfl : w4 = (.int i4) := Option.some.inj e4
  obtain ⟨i5, e5⟩ := is_v g5
  obtain rfl : w5 = (.int i5) := Option.some.inj e5
  obtain ⟨Hf, hlaw⟩ := plain i0 i1 i2 i3 i4 i5
  obtain ⟨n, o, h1, h2, h3, _, L, rfl, ⟨rfl, N⟩, hq⟩ := law_of (l := l) (s := s) (as := [(.int i0), (.int i1), (.int i2), (.int i3), (.int i4), (.int i5)]) (k0 := 3) (k1 := 15) hw pn0 rfl rfl (fun K O => m0_t0 O i0 i1 i2 i3 i4 i5 [] 1 Hf hlaw) p e ha hc hk s m _ below hf ((Spec.applies_iff_loose hf).mp happ).1 ⟨rfl, State.Warmed39.refl s, rfl⟩ trivial
  refine ⟨n, _, h1, h2, h3, hpost _ _ _ _ _ _ ⟨Cond.after_iff.mpr rfl, Cond.after_iff.mpr (eq_i res_at (Term.int_eval (1)) rfl), trivial⟩ ⟨hq.1, hq.2.1, (hq.2.2.sift fun y hy => Or.inr (N y hy)).mono (by decide) (by decide)⟩⟩
theorem main_1_1 : Claimed_1_1 := comes_1 fun _ _ _ _ _ _ h hF => ⟨h.1, hF⟩
theorem main_1_2 : Claimed_1_2 := comes_1 fun _ _ _ _ _ _ h hF => ⟨h.2.1, hF⟩
end Jvm.Pilot.@@N@@
namespace Jvm.Pilot.@@N@@
open Jvm Jvm.ClassFile Sem Op Lib Jvm.Free Jvm.Stand Jvm.Pilot.@@N@@.Jvm.D
/-! MADE BY PROGRAM (witnessworld.py) out of the Statement's table words and the real class files: 9 classes; the members and pool entries that the words name. The judged class is class 1, her method 3. -/
namespace start1
open Jvm.ClassFile
def u (s : String) : CpInfo := .utf8 (stringToUtf16 s)
/-- a pool by its gaps: so many unusable entries, then the entry; so many at the end -/
def gap : Nat → List CpInfo → List CpInfo
  | 0, r => r
  | n + 1, r => .unusable :: gap n r
def poolList (es : List (Nat × CpInfo)) (last : Nat) : List CpInfo := es.foldr (fun e r => gap e.1 (e.2 :: r)) (gap last [])
def pool (es : List (Nat × CpInfo)) (last : Nat) : Array CpInfo := ⟨poolList es last⟩
def fileOf (pool : Array CpInfo) (this : Nat) (attrs : Array Attribute := #[]) (ms : Array MethodInfo := #[]) (fl : Nat := 33) (sup : Nat := 0) (ifs : Array Nat := #[]) (fds : Array FieldInfo := #[]) : ClassFile where
  minorVersion := 0
  majorVersion := 65
  constantPool := pool
  accessFlags := fl
  thisClass := this
  superClass := sup
  interfaces := ifs
  fields := fds
  methods := ms
  attributes := attrs
def plain (name : String) (sup : Option ClassId) : Class where
  name := name
  kind := .ordinary
  loader := none
  accessFlags := 33
  super := sup
  interfaces := #[]
  cf := none
  fields := #[]
  methods := #[]
  instanceTypes := #[]
  staticTypes := #[]
  resolved := #[]
  callSites := []
  init := .initialized
  statics := none
  mirror := none

def pool0 : Array CpInfo := pool [(5, u "<init>"), (0, u "()V"), (1, .class_ 10), (1, u "java/lang/Object")] 113

def k0c0 : Code := { maxStack := 0, maxLocals := 1, code := object_method_1_code, exceptionTable := #[], attributes := #[] }
def k0m0 : Method := { name := "<init>", desc := "()V", sig := { parameters := [], returnType := none }, accessFlags := 1, code := some k0c0 }
/-- java/lang/Object -/
def k0 : Class := { plain "java/lang/Object" none with
  accessFlags := 33
  interfaces := #[]
  cf := some (fileOf pool0 8 #[] #[{ accessFlags := 1, nameIndex := 5, descriptorIndex := 6, attributes := #[] }] 33 0 #[] #[])
  fields := #[]
  methods := #[k0m0]
  instanceTypes := #[]
  staticTypes := #[]
  resolved := Array.replicate 124 none
  statics := none }

def pool1 : Array CpInfo := pool [(2, .class_ 4), (0, .nameAndType 5 6), (0, u "java/lang/Object"), (0, u "<init>"), (0, u "()V"), (0, .methodref 8 9), (0, .class_ 10), (0, .nameAndType 11 12), (0, u "com/example/lexweave/lexweave/IntList"), (0, u "get"), (0, u "(I)I"), (0, .methodref 14 15), (0, .class_ 16), (0, .nameAndType 17 18), (0, u "com/example/lexweave/lexweave/IntListReverseFromPinLaw"), (0, u "expected"), (0, u "([IIII)I"), (0, .integer 2147483647), (0, .methodref 8 3), (0, .methodref 8 22), (0, .nameAndType 23 24), (0, u "add"), (0, u "(I)V"), (0, .methodref 8 26), (0, .nameAndType 27 24), (0, u "reverseFrom"), (0, .methodref 8 29), (0, .nameAndType 30 31), (0, u "size"), (0, u "()I"), (0, .methodref 14 33), (0, .nameAndType 34 35), (0, u "check"), (0, u "(Lcom/example/lexweave/lexweave/IntList;[IIII)Z"), (3, u "law"), (0, u "(IIIIII)Z")] 4

def k1m0 : Method := { name := "<init>", desc := "()V", sig := { parameters := [], returnType := none }, accessFlags := 1, code := none }
def k1c1 : Code := { maxStack := 4, maxLocals := 4, code := method_2_code, exceptionTable := #[], attributes := #[] }
def k1m1 : Method := { name := "expected", desc := "([IIII)I", sig := { parameters := [(.array .int), .int, .int, .int], returnType := some .int }, accessFlags := 10, code := some k1c1 }
def k1c2 : Code := { maxStack := 5, maxLocals := 5, code := method_3_code, exceptionTable := #[], attributes := #[] }
def k1m2 : Method := { name := "check", desc := "(Lcom/example/lexweave/lexweave/IntList;[IIII)Z", sig := { parameters := [(.object "com/example/lexweave/lexweave/IntList"), (.array .int), .int, .int, .int], returnType := some .boolean }, accessFlags := 10, code := some k1c2 }
def k1c3 : Code := { maxStack := 5, maxLocals := 10, code := code, exceptionTable := #[], attributes := #[] }
def k1m3 : Method := { name := "law", desc := "(IIIIII)Z", sig := { parameters := [.int, .int, .int, .int, .int, .int], returnType := some .boolean }, accessFlags := 9, code := some k1c3 }
/-- com/example/lexweave/lexweave/IntListReverseFromPinLaw -/
def k1 : Class := { plain "com/example/lexweave/lexweave/IntListReverseFromPinLaw" (some 0) with
  accessFlags := 49
  interfaces := #[]
  cf := some (fileOf pool1 14 #[] #[{ accessFlags := 1, nameIndex := 5, descriptorIndex := 6, attributes := #[] }, { accessFlags := 10, nameIndex := 17, descriptorIndex := 18, attributes := #[] }, { accessFlags := 10, nameIndex := 34, descriptorIndex := 35, attributes := #[] }, { accessFlags := 9, nameIndex := 39, descriptorIndex := 40, attributes := #[] }] 49 2 #[] #[])
  fields := #[]
  methods := #[k1m0, k1m1, k1m2, k1m3]
  instanceTypes := #[]
  staticTypes := #[]
  resolved := Array.replicate 45 none
  statics := none }

def pool2 : Array CpInfo := pool [(1, .methodref 2 3), (0, .class_ 4), (0, .nameAndType 5 6), (0, u "java/lang/Object"), (0, u "<init>"), (0, u "()V"), (0, .fieldref 8 9), (0, .class_ 10), (0, .nameAndType 11 12), (0, u "com/example/lexweave/lexweave/IntList"), (0, u "values"), (0, u "[I"), (0, .fieldref 8 14), (0, .nameAndType 15 16), (0, u "size"), (0, u "I"), (32, u "add"), (0, u "(I)V"), (3, u "()I"), (0, u "reverseFrom"), (0, u "get"), (0, u "(I)I")] 10

def k2c0 : Code := { maxStack := 2, maxLocals := 1, code := prog_28_method_1_code, exceptionTable := #[], attributes := #[] }
def k2m0 : Method := { name := "<init>", desc := "()V", sig := { parameters := [], returnType := none }, accessFlags := 0, code := some k2c0 }
def k2c1 : Code := { maxStack := 4, maxLocals := 2, code := prog_28_method_2_code, exceptionTable := #[], attributes := #[] }
def k2m1 : Method := { name := "add", desc := "(I)V", sig := { parameters := [.int], returnType := none }, accessFlags := 0, code := some k2c1 }
def k2c2 : Code := { maxStack := 4, maxLocals := 5, code := prog_28_method_5_code, exceptionTable := #[], attributes := #[] }
def k2m2 : Method := { name := "reverseFrom", desc := "(I)V", sig := { parameters := [.int], returnType := none }, accessFlags := 0, code := some k2c2 }
def k2c3 : Code := { maxStack := 2, maxLocals := 2, code := prog_28_method_6_code, exceptionTable := #[], attributes := #[] }
def k2m3 : Method := { name := "get", desc := "(I)I", sig := { parameters := [.int], returnType := some .int }, accessFlags := 0, code := some k2c3 }
def k2c4 : Code := { maxStack := 1, maxLocals := 1, code := prog_28_method_8_code, exceptionTable := #[], attributes := #[] }
def k2m4 : Method := { name := "size", desc := "()I", sig := { parameters := [], returnType := some .int }, accessFlags := 0, code := some k2c4 }
/-- com/example/lexweave/lexweave/IntList -/
def k2 : Class := { plain "com/example/lexweave/lexweave/IntList" (some 0) with
  accessFlags := 48
  interfaces := #[]
  cf := some (fileOf pool2 8 #[] #[{ accessFlags := 0, nameIndex := 5, descriptorIndex := 6, attributes := #[] }, { accessFlags := 0, nameIndex := 49, descriptorIndex := 50, attributes := #[] }, { accessFlags := 0, nameIndex := 55, descriptorIndex := 50, attributes := #[] }, { accessFlags := 0, nameIndex := 56, descriptorIndex := 57, attributes := #[] }, { accessFlags := 0, nameIndex := 15, descriptorIndex := 54, attributes := #[] }] 48 2 #[] #[{ accessFlags := 2, nameIndex := 11, descriptorIndex := 12, attributes := #[] }, { accessFlags := 2, nameIndex := 15, descriptorIndex := 16, attributes := #[] }])
  fields := #[{ name := "values", type := (.array .int), accessFlags := 2, slot := 0, constantValue := 0 }, { name := "size", type := .int, accessFlags := 2, slot := 1, constantValue := 0 }]
  methods := #[k2m0, k2m1, k2m2, k2m3, k2m4]
  instanceTypes := #[(.array .int), .int]
  staticTypes := #[]
  resolved := Array.replicate 68 none
  statics := none }

def pool3 : Array CpInfo := pool [(1, u "java/lang/Cloneable"), (0, .class_ 1), (0, u "java/lang/Object"), (0, .class_ 3)] 3

/-- java/lang/Cloneable -/
def k3 : Class := { plain "java/lang/Cloneable" (some 0) with
  accessFlags := 1537
  interfaces := #[]
  cf := some (fileOf pool3 2 #[] #[] 1537 4 #[] #[])
  fields := #[]
  methods := #[]
  instanceTypes := #[]
  staticTypes := #[]
  resolved := Array.replicate 8 none
  statics := none }

def pool4 : Array CpInfo := pool [(1, u "java/io/Serializable"), (0, .class_ 1), (0, u "java/lang/Object"), (0, .class_ 3)] 3

/-- java/io/Serializable -/
def k4 : Class := { plain "java/io/Serializable" (some 0) with
  accessFlags := 1537
  interfaces := #[]
  cf := some (fileOf pool4 2 #[] #[] 1537 4 #[] #[])
  fields := #[]
  methods := #[]
  instanceTypes := #[]
  staticTypes := #[]
  resolved := Array.replicate 8 none
  statics := none }

/-- the primitive byte -/
def k5 : Class := { plain "byte" none with kind := .primitive 'B', accessFlags := 0x411 }
/-- [B -/
def k6 : Class := { plain "[B" (some 0) with kind := .array 5 .byte, interfaces := #[3, 4], accessFlags := 1041 }

/-- the primitive int -/
def k7 : Class := { plain "int" none with kind := .primitive 'I', accessFlags := 0x411 }
/-- [I -/
def k8 : Class := { plain "[I" (some 0) with kind := .array 7 .int, interfaces := #[3, 4], accessFlags := 1041 }

def heap : Heap := #[]
def classes : Array Class := #[k0, k1, k2, k3, k4, k5, k6, k7, k8]
def interned : List (Array UInt16 × Addr) := []
def slotsUsed : Nat := 0
def theMethod : MethodId := ⟨1, 3⟩
def args0 : Array Value := #[.int 5, .int 5, .int 5, .int 5, .int 5, .int 5]
def aboutOver (below : List Frame) : State where
  vm := { classes := classes, interned := interned.toArray }
  heap := heap
  slotsUsed := slotsUsed
  threads := #[{ frames := .invoking theMethod args0 :: below }]
def below0 : List Frame := [.native { method := ⟨0, 0⟩, args := #[] }]
def about1 : State := aboutOver below0
def p0 : Program := .bare "" "" ""
def e0 : Env := launch0.env 0 0 0
theorem w_frames : about1.frames = Frame.invoking theMethod args0 :: below0 := rfl
set_option maxRecDepth 65536 in
theorem w_args : argsFit about1.vm theMethod args0 = true := by decide +kernel
set_option maxRecDepth 65536 in
theorem w_heap : heapFits about1 = true := by decide +kernel
set_option maxRecDepth 65536 in
theorem w_runnable : about1.curStatus? = some .runnable := by decide +kernel
set_option maxRecDepth 65536 in
theorem w_alone : about1.alone = true := by decide +kernel
set_option maxRecDepth 65536 in
theorem w_named : about1.methodNamed? x = some theMethod := by decide +kernel
set_option maxRecDepth 65536 in
theorem w_hears : about1.hears theMethod below0 = true := by decide +kernel
set_option maxRecDepth 65536 in
theorem w_ripe : about1.ripe theMethod args0 below0 = true := by decide +kernel
theorem w_running : about1.status = .running := rfl
set_option maxRecDepth 65536 in
theorem w_room : about1.hasRoom e0.platform room_1 = true :=
  launch0.hasRoom_least _ room_1 (by decide +kernel) (by decide +kernel) (by decide +kernel) (by decide +kernel) (by decide +kernel) (by decide +kernel)
theorem allAtoms_all (ts : List Jvm.Cond) (a : Array Jvm.Value) (st : Jvm.State) : (allAtoms ts).before a st = ts.all (fun c => c.before a st) := by
  induction ts with
  | nil => rfl
  | cons c t ih =>
    show (Jvm.Cond.and c (allAtoms t)).before a st = _
    rw [Jvm.Cond.before_and, ih, List.all_cons]
def words1 : List Jvm.Cond := Jvm.Cond.code x code maxLocals ret :: tables_1
/-- a 'code' word, met by the world's own term for the bytes: nothing is compared byte by byte -/
theorem code_word {y : MethodName} {bytes : ByteArray} {mx : Nat} {rt : Option FieldType} {a : Array Value} {s : State} {m : MethodId} {meth : Method} {c : Code} (h1 : s.methodNamed? y = some m) (h2 : s.vm.method? m = some meth) (h3 : meth.code = some c) (h4 : c.code = bytes)
    (h5 : (c.maxLocals == mx && c.exceptionTable.isEmpty && decide (c.maxStack ≤ mostOperands) && decide (meth.sig.returnType = rt) && !meth.locks && decide (parseMethodDescriptor y.desc = some meth.sig)) = true) : (Jvm.Cond.code y bytes mx rt).before a s = true := by
  simp only [Bool.and_eq_true, beq_iff_eq, Bool.not_eq_true', decide_eq_true_eq] at h5
  obtain ⟨⟨⟨⟨⟨g1, g2⟩, g3⟩, g4⟩, g5⟩, g6⟩ := h5
  simp [Cond.before, Cond.holds, Cond.value, h1, h2, h3, h4, g1, g2, g3, g4, g5, g6]
def isCode : Jvm.Cond → Bool
  | .code _ _ _ _ => true
  | _ => false
theorem all_split {L : List Jvm.Cond} {P : Jvm.Cond → Bool} (h1 : L.all (fun c => isCode c || P c) = true) (h2 : ∀ c ∈ L.filter isCode, P c = true) : L.all P = true := by
  refine List.all_eq_true.mpr fun c hc => ?_
  have h := List.all_eq_true.mp h1 c hc
  rcases Bool.eq_false_or_eq_true (isCode c) with hi | hi
  · exact h2 c (List.mem_filter.mpr ⟨hc, hi⟩)
  · simpa [hi] using h
set_option maxRecDepth 65536 in
theorem w_c0 : (Jvm.Cond.code x code maxLocals ret).before args0 about1 = true := code_word (m := ⟨1, 3⟩) (meth := k1m3) (c := k1c3) (by decide +kernel) rfl rfl rfl (by decide +kernel)
set_option maxRecDepth 65536 in
theorem w_c1 : (Jvm.Cond.code ({ cls := "com/example/lexweave/lexweave/IntList", name := "<init>", desc := "()V" } : Jvm.MethodName) prog_28_method_1_code (1 : Nat) (Option.none : Option Jvm.ClassFile.FieldType)).before args0 about1 = true := code_word (m := ⟨2, 0⟩) (meth := k2m0) (c := k2c0) (by decide +kernel) rfl rfl rfl (by decide +kernel)
set_option maxRecDepth 65536 in
theorem w_c2 : (Jvm.Cond.code ({ cls := "java/lang/Object", name := "<init>", desc := "()V" } : Jvm.MethodName) object_method_1_code (1 : Nat) (Option.none : Option Jvm.ClassFile.FieldType)).before args0 about1 = true := code_word (m := ⟨0, 0⟩) (meth := k0m0) (c := k0c0) (by decide +kernel) rfl rfl rfl (by decide +kernel)
set_option maxRecDepth 65536 in
theorem w_c3 : (Jvm.Cond.code ({ cls := "com/example/lexweave/lexweave/IntList", name := "reverseFrom", desc := "(I)V" } : Jvm.MethodName) prog_28_method_5_code (5 : Nat) (Option.none : Option Jvm.ClassFile.FieldType)).before args0 about1 = true := code_word (m := ⟨2, 2⟩) (meth := k2m2) (c := k2c2) (by decide +kernel) rfl rfl rfl (by decide +kernel)
set_option maxRecDepth 65536 in
theorem w_c4 : (Jvm.Cond.code ({ cls := "com/example/lexweave/lexweave/IntList", name := "size", desc := "()I" } : Jvm.MethodName) prog_28_method_8_code (1 : Nat) (Option.some Jvm.ClassFile.FieldType.int)).before args0 about1 = true := code_word (m := ⟨2, 4⟩) (meth := k2m4) (c := k2c4) (by decide +kernel) rfl rfl rfl (by decide +kernel)
set_option maxRecDepth 65536 in
theorem w_c5 : (Jvm.Cond.code ({ cls := "com/example/lexweave/lexweave/IntListReverseFromPinLaw", name := "check", desc := "(Lcom/example/lexweave/lexweave/IntList;[IIII)Z" } : Jvm.MethodName) method_3_code (5 : Nat) (Option.some Jvm.ClassFile.FieldType.boolean)).before args0 about1 = true := code_word (m := ⟨1, 2⟩) (meth := k1m2) (c := k1c2) (by decide +kernel) rfl rfl rfl (by decide +kernel)
set_option maxRecDepth 65536 in
theorem w_c6 : (Jvm.Cond.code ({ cls := "com/example/lexweave/lexweave/IntList", name := "add", desc := "(I)V" } : Jvm.MethodName) prog_28_method_2_code (2 : Nat) (Option.none : Option Jvm.ClassFile.FieldType)).before args0 about1 = true := code_word (m := ⟨2, 1⟩) (meth := k2m1) (c := k2c1) (by decide +kernel) rfl rfl rfl (by decide +kernel)
set_option maxRecDepth 65536 in
theorem w_c7 : (Jvm.Cond.code ({ cls := "com/example/lexweave/lexweave/IntList", name := "get", desc := "(I)I" } : Jvm.MethodName) prog_28_method_6_code (2 : Nat) (Option.some Jvm.ClassFile.FieldType.int)).before args0 about1 = true := code_word (m := ⟨2, 3⟩) (meth := k2m3) (c := k2c3) (by decide +kernel) rfl rfl rfl (by decide +kernel)
set_option maxRecDepth 65536 in
theorem w_c8 : (Jvm.Cond.code ({ cls := "com/example/lexweave/lexweave/IntListReverseFromPinLaw", name := "expected", desc := "([IIII)I" } : Jvm.MethodName) method_2_code (4 : Nat) (Option.some Jvm.ClassFile.FieldType.int)).before args0 about1 = true := code_word (m := ⟨1, 1⟩) (meth := k1m1) (c := k1c1) (by decide +kernel) rfl rfl rfl (by decide +kernel)
def codes1 : List Jvm.Cond := [Jvm.Cond.code x code maxLocals ret, Jvm.Cond.code ({ cls := "com/example/lexweave/lexweave/IntList", name := "<init>", desc := "()V" } : Jvm.MethodName) prog_28_method_1_code (1 : Nat) (Option.none : Option Jvm.ClassFile.FieldType), Jvm.Cond.code ({ cls := "java/lang/Object", name := "<init>", desc := "()V" } : Jvm.MethodName) object_method_1_code (1 : Nat) (Option.none : Option Jvm.ClassFile.FieldType), Jvm.Cond.code ({ cls := "com/example/lexweave/lexweave/IntList", name := "reverseFrom", desc := "(I)V" } : Jvm.MethodName) prog_28_method_5_code (5 : Nat) (Option.none : Option Jvm.ClassFile.FieldType), Jvm.Cond.code ({ cls := "com/example/lexweave/lexweave/IntList", name := "size", desc := "()I" } : Jvm.MethodName) prog_28_method_8_code (1 : Nat) (Option.some Jvm.ClassFile.FieldType.int), Jvm.Cond.code ({ cls := "com/example/lexweave/lexweave/IntListReverseFromPinLaw", name := "check", desc := "(Lcom/example/lexweave/lexweave/IntList;[IIII)Z" } : Jvm.MethodName) method_3_code (5 : Nat) (Option.some Jvm.ClassFile.FieldType.boolean), Jvm.Cond.code ({ cls := "com/example/lexweave/lexweave/IntList", name := "add", desc := "(I)V" } : Jvm.MethodName) prog_28_method_2_code (2 : Nat) (Option.none : Option Jvm.ClassFile.FieldType), Jvm.Cond.code ({ cls := "com/example/lexweave/lexweave/IntList", name := "get", desc := "(I)I" } : Jvm.MethodName) prog_28_method_6_code (2 : Nat) (Option.some Jvm.ClassFile.FieldType.int), Jvm.Cond.code ({ cls := "com/example/lexweave/lexweave/IntListReverseFromPinLaw", name := "expected", desc := "([IIII)I" } : Jvm.MethodName) method_2_code (4 : Nat) (Option.some Jvm.ClassFile.FieldType.int)]
set_option maxRecDepth 65536 in
theorem codes_eq : words1.filter isCode = codes1 := rfl
theorem w_codes : ∀ c ∈ words1.filter isCode, c.before args0 about1 = true := by
  rw [codes_eq]
  intro c hc
  simp only [codes1, List.mem_cons, List.not_mem_nil, or_false] at hc
  rcases hc with rfl | rfl | rfl | rfl | rfl | rfl | rfl | rfl | rfl
  · exact w_c0
  · exact w_c1
  · exact w_c2
  · exact w_c3
  · exact w_c4
  · exact w_c5
  · exact w_c6
  · exact w_c7
  · exact w_c8
set_option maxRecDepth 65536 in
theorem w_t1 : (words1.take 24).all (fun c => isCode c || c.before args0 about1) = true := by decide +kernel
set_option maxRecDepth 65536 in
theorem w_t2 : (words1.drop 24).all (fun c => isCode c || c.before args0 about1) = true := by decide +kernel
theorem w_tables : (allAtoms (Jvm.Cond.code x code maxLocals ret :: tables_1)).before args0 about1 = true := by
  rw [allAtoms_all]
  show words1.all (fun c => c.before args0 about1) = true
  refine all_split ?_ w_codes
  rw [← List.take_append_drop 24 words1, List.all_append, w_t1, w_t2]
  rfl
set_option maxRecDepth 65536 in
theorem w_case : (Jvm.Cond.and given_1 narrow_1).before args0 about1 = true := by decide +kernel
theorem w_applies : (headSpec (Jvm.Cond.code x code maxLocals ret :: tables_1) room_1).applies x e0.platform about1 = true :=
  (Spec.applies_iff w_frames).mpr ⟨w_running, w_runnable, w_alone, w_named, w_hears, w_ripe, w_room, w_tables⟩
theorem atStart : AtStart classFile x code maxLocals ret World_1 tables_1 room_1 Calls_1 rest_1 Pre_1 launch0 p0 e0 about1 theMethod args0 below0 :=
  ⟨lists_1, trivial, launch0.admits_env _ _ _, launch0.least_env, fairChoices_fair.cas, fairChoices_fair.clock, w_frames, w_args, w_heap, w_applies, trivial, trivial, w_case⟩
end start1
theorem witness_1 : WitnessClaimed_1 := ⟨start1.p0, start1.e0, start1.about1, start1.theMethod, start1.args0, start1.below0, start1.atStart⟩
end Jvm.Pilot.@@N@@
