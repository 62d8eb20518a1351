import JvmDerived
import JvmDerived.Pilot.@@N@@Statement
import JvmDerived.Pilot.@@N@@Code
set_option linter.unusedVariables false
set_option linter.unusedSimpArgs false
set_option maxRecDepth 65536
set_option maxHeartbeats 4000000
namespace Jvm.Pilot.@@N@@
open Jvm Jvm.ClassFile Sem Op Lib Jvm.Free Jvm.Stand Jvm.LawKit Jvm.RoadKit Bundle Jvm.Pilot.@@N@@.Jvm.D
theorem tw0 : Jvm.Cond.classLink "com/example/lexweave/lexweave/AutomatonSizeReachesALimitPinLaw" 7 "com/example/lexweave/lexweave/AutomatonSize" ∈ tables_1 := List.mem_of_getElem? (i := 0) rfl
theorem tw1 : Jvm.Cond.instantiable "com/example/lexweave/lexweave/AutomatonSize" 4 ∈ tables_1 := List.mem_of_getElem? (i := 1) rfl
theorem tw2 : Jvm.Cond.initialized "com/example/lexweave/lexweave/AutomatonSize" ∈ tables_1 := List.mem_of_getElem? (i := 2) rfl
theorem tw3 : Jvm.Cond.methodLink "com/example/lexweave/lexweave/AutomatonSizeReachesALimitPinLaw" (9 : Nat) (⟨"com/example/lexweave/lexweave/AutomatonSize", "<init>", "()V"⟩ : MethodName) ∈ tables_1 := List.mem_of_getElem? (i := 3) rfl
theorem tw4 : Jvm.Cond.instanceMethod (⟨"com/example/lexweave/lexweave/AutomatonSize", "<init>", "()V"⟩ : MethodName) ∈ tables_1 := List.mem_of_getElem? (i := 4) rfl
theorem tw5 : Jvm.Cond.code (⟨"com/example/lexweave/lexweave/AutomatonSize", "<init>", "()V"⟩ : MethodName) prog_3_method_1_code (1 : Nat) (Option.none : Option FieldType) ∈ tables_1 := List.mem_of_getElem? (i := 5) rfl
theorem tw6 : Jvm.Cond.methodLink "com/example/lexweave/lexweave/AutomatonSize" (3 : Nat) (⟨"java/lang/Object", "<init>", "()V"⟩ : MethodName) ∈ tables_1 := List.mem_of_getElem? (i := 6) rfl
theorem tw7 : Jvm.Cond.instanceMethod (⟨"java/lang/Object", "<init>", "()V"⟩ : MethodName) ∈ tables_1 := List.mem_of_getElem? (i := 7) rfl
theorem tw8 : Jvm.Cond.code (⟨"java/lang/Object", "<init>", "()V"⟩ : MethodName) object_method_1_code (1 : Nat) (Option.none : Option FieldType) ∈ tables_1 := List.mem_of_getElem? (i := 8) rfl
theorem tw9 : Jvm.Cond.methodLink "com/example/lexweave/lexweave/AutomatonSizeReachesALimitPinLaw" (17 : Nat) (⟨"com/example/lexweave/lexweave/AutomatonSize", "add", "(Lcom/example/lexweave/lexweave/AutomatonSize;)V"⟩ : MethodName) ∈ tables_1 := List.mem_of_getElem? (i := 9) rfl
theorem tw10 : Jvm.Cond.declares (⟨"com/example/lexweave/lexweave/AutomatonSize", "add", "(Lcom/example/lexweave/lexweave/AutomatonSize;)V"⟩ : MethodName) ∈ tables_1 := List.mem_of_getElem? (i := 10) rfl
theorem tw11 : Jvm.Cond.instanceMethod (⟨"com/example/lexweave/lexweave/AutomatonSize", "add", "(Lcom/example/lexweave/lexweave/AutomatonSize;)V"⟩ : MethodName) ∈ tables_1 := List.mem_of_getElem? (i := 11) rfl
theorem tw12 : Jvm.Cond.selects "com/example/lexweave/lexweave/AutomatonSize" (⟨"com/example/lexweave/lexweave/AutomatonSize", "add", "(Lcom/example/lexweave/lexweave/AutomatonSize;)V"⟩ : MethodName) (⟨"com/example/lexweave/lexweave/AutomatonSize", "add", "(Lcom/example/lexweave/lexweave/AutomatonSize;)V"⟩ : MethodName) ∈ tables_1 := List.mem_of_getElem? (i := 12) rfl
theorem tw13 : Jvm.Cond.code (⟨"com/example/lexweave/lexweave/AutomatonSize", "add", "(Lcom/example/lexweave/lexweave/AutomatonSize;)V"⟩ : MethodName) prog_3_method_4_code (2 : Nat) (Option.none : Option FieldType) ∈ tables_1 := List.mem_of_getElem? (i := 13) rfl
theorem tw14 : Jvm.Cond.fieldLink "com/example/lexweave/lexweave/AutomatonSize" 9 "com/example/lexweave/lexweave/AutomatonSize" "positions" "I" ∈ tables_1 := List.mem_of_getElem? (i := 14) rfl
theorem tw15 : Jvm.Cond.lays "com/example/lexweave/lexweave/AutomatonSize" "com/example/lexweave/lexweave/AutomatonSize" "positions" "I" ∈ tables_1 := List.mem_of_getElem? (i := 15) rfl
theorem tw16 : Jvm.Cond.fieldLink "com/example/lexweave/lexweave/AutomatonSize" 21 "com/example/lexweave/lexweave/AutomatonSize" "states" "I" ∈ tables_1 := List.mem_of_getElem? (i := 16) rfl
theorem tw17 : Jvm.Cond.lays "com/example/lexweave/lexweave/AutomatonSize" "com/example/lexweave/lexweave/AutomatonSize" "states" "I" ∈ tables_1 := List.mem_of_getElem? (i := 17) rfl
theorem tw18 : Jvm.Cond.fieldLink "com/example/lexweave/lexweave/AutomatonSize" 24 "com/example/lexweave/lexweave/AutomatonSize" "transitions" "J" ∈ tables_1 := List.mem_of_getElem? (i := 18) rfl
theorem tw19 : Jvm.Cond.lays "com/example/lexweave/lexweave/AutomatonSize" "com/example/lexweave/lexweave/AutomatonSize" "transitions" "J" ∈ tables_1 := List.mem_of_getElem? (i := 19) rfl
theorem tw20 : Jvm.Cond.fieldLink "com/example/lexweave/lexweave/AutomatonSize" 32 "com/example/lexweave/lexweave/AutomatonSize" "heldPositions" "J" ∈ tables_1 := List.mem_of_getElem? (i := 20) rfl
theorem tw21 : Jvm.Cond.lays "com/example/lexweave/lexweave/AutomatonSize" "com/example/lexweave/lexweave/AutomatonSize" "heldPositions" "J" ∈ tables_1 := List.mem_of_getElem? (i := 21) rfl
theorem tw22 : Jvm.Cond.methodLink "com/example/lexweave/lexweave/AutomatonSizeReachesALimitPinLaw" (23 : Nat) (⟨"com/example/lexweave/lexweave/AutomatonSize", "reachesALimit", "()Z"⟩ : MethodName) ∈ tables_1 := List.mem_of_getElem? (i := 22) rfl
theorem tw23 : Jvm.Cond.declares (⟨"com/example/lexweave/lexweave/AutomatonSize", "reachesALimit", "()Z"⟩ : MethodName) ∈ tables_1 := List.mem_of_getElem? (i := 23) rfl
theorem tw24 : Jvm.Cond.instanceMethod (⟨"com/example/lexweave/lexweave/AutomatonSize", "reachesALimit", "()Z"⟩ : MethodName) ∈ tables_1 := List.mem_of_getElem? (i := 24) rfl
theorem tw25 : Jvm.Cond.selects "com/example/lexweave/lexweave/AutomatonSize" (⟨"com/example/lexweave/lexweave/AutomatonSize", "reachesALimit", "()Z"⟩ : MethodName) (⟨"com/example/lexweave/lexweave/AutomatonSize", "reachesALimit", "()Z"⟩ : MethodName) ∈ tables_1 := List.mem_of_getElem? (i := 25) rfl
theorem tw26 : Jvm.Cond.code (⟨"com/example/lexweave/lexweave/AutomatonSize", "reachesALimit", "()Z"⟩ : MethodName) prog_3_method_5_code (1 : Nat) (Option.some FieldType.boolean) ∈ tables_1 := List.mem_of_getElem? (i := 26) rfl
theorem tw27 : Jvm.Cond.constant "com/example/lexweave/lexweave/AutomatonSize" (13 : Nat) (262144 : Int32) ∈ tables_1 := List.mem_of_getElem? (i := 27) rfl
theorem tw28 : Jvm.Cond.constantLong "com/example/lexweave/lexweave/AutomatonSize" (28 : Nat) (16777216 : Int64) ∈ tables_1 := List.mem_of_getElem? (i := 28) rfl
theorem tw29 : Jvm.Cond.constantLong "com/example/lexweave/lexweave/AutomatonSize" (35 : Nat) (67108864 : Int64) ∈ tables_1 := List.mem_of_getElem? (i := 29) rfl
theorem tw30 : Jvm.Cond.methodLink "com/example/lexweave/lexweave/AutomatonSizeReachesALimitPinLaw" (10 : Nat) (⟨"com/example/lexweave/lexweave/AutomatonSize", "addPosition", "()V"⟩ : MethodName) ∈ tables_1 := List.mem_of_getElem? (i := 30) rfl
theorem tw31 : Jvm.Cond.declares (⟨"com/example/lexweave/lexweave/AutomatonSize", "addPosition", "()V"⟩ : MethodName) ∈ tables_1 := List.mem_of_getElem? (i := 31) rfl
theorem tw32 : Jvm.Cond.instanceMethod (⟨"com/example/lexweave/lexweave/AutomatonSize", "addPosition", "()V"⟩ : MethodName) ∈ tables_1 := List.mem_of_getElem? (i := 32) rfl
theorem tw33 : Jvm.Cond.selects "com/example/lexweave/lexweave/AutomatonSize" (⟨"com/example/lexweave/lexweave/AutomatonSize", "addPosition", "()V"⟩ : MethodName) (⟨"com/example/lexweave/lexweave/AutomatonSize", "addPosition", "()V"⟩ : MethodName) ∈ tables_1 := List.mem_of_getElem? (i := 33) rfl
theorem tw34 : Jvm.Cond.code (⟨"com/example/lexweave/lexweave/AutomatonSize", "addPosition", "()V"⟩ : MethodName) prog_3_method_2_code (1 : Nat) (Option.none : Option FieldType) ∈ tables_1 := List.mem_of_getElem? (i := 34) rfl
theorem tw35 : Jvm.Cond.methodLink "com/example/lexweave/lexweave/AutomatonSizeReachesALimitPinLaw" (13 : Nat) (⟨"com/example/lexweave/lexweave/AutomatonSize", "addState", "(II)V"⟩ : MethodName) ∈ tables_1 := List.mem_of_getElem? (i := 35) rfl
theorem tw36 : Jvm.Cond.declares (⟨"com/example/lexweave/lexweave/AutomatonSize", "addState", "(II)V"⟩ : MethodName) ∈ tables_1 := List.mem_of_getElem? (i := 36) rfl
theorem tw37 : Jvm.Cond.instanceMethod (⟨"com/example/lexweave/lexweave/AutomatonSize", "addState", "(II)V"⟩ : MethodName) ∈ tables_1 := List.mem_of_getElem? (i := 37) rfl
theorem tw38 : Jvm.Cond.selects "com/example/lexweave/lexweave/AutomatonSize" (⟨"com/example/lexweave/lexweave/AutomatonSize", "addState", "(II)V"⟩ : MethodName) (⟨"com/example/lexweave/lexweave/AutomatonSize", "addState", "(II)V"⟩ : MethodName) ∈ tables_1 := List.mem_of_getElem? (i := 38) rfl
theorem tw39 : Jvm.Cond.code (⟨"com/example/lexweave/lexweave/AutomatonSize", "addState", "(II)V"⟩ : MethodName) prog_3_method_3_code (3 : Nat) (Option.none : Option FieldType) ∈ tables_1 := List.mem_of_getElem? (i := 39) rfl
theorem tw40 : Jvm.Cond.constant "com/example/lexweave/lexweave/AutomatonSizeReachesALimitPinLaw" (21 : Nat) (16777216 : Int32) ∈ tables_1 := List.mem_of_getElem? (i := 40) rfl
theorem tw41 : Jvm.Cond.constant "com/example/lexweave/lexweave/AutomatonSizeReachesALimitPinLaw" (22 : Nat) (67108864 : Int32) ∈ tables_1 := List.mem_of_getElem? (i := 41) rfl
def lay : Nat → String × List (String × String)
  | 0 => ("com/example/lexweave/lexweave/AutomatonSize", [("positions", "I"), ("states", "I"), ("transitions", "J"), ("heldPositions", "J")])
  | _ => ("", [])
theorem lay_word (t : Nat) (nd : String × String) (h : nd ∈ (lay t).2) : Jvm.Cond.lays (lay t).1 (lay t).1 nd.1 nd.2 ∈ tables_1 ∨ Jvm.Cond.laysFinal (lay t).1 (lay t).1 nd.1 nd.2 ∈ tables_1 := by
  match t, h with
  | 0, h =>
    simp only [lay, List.mem_cons, List.not_mem_nil, or_false] at h
    rcases h with rfl | rfl | rfl | rfl
    · exact Or.inl (List.mem_of_getElem? (i := 15) rfl)
    · exact Or.inl (List.mem_of_getElem? (i := 17) rfl)
    · exact Or.inl (List.mem_of_getElem? (i := 19) rfl)
    · exact Or.inl (List.mem_of_getElem? (i := 21) rfl)
  | t + 1, h => simp [lay] at h
theorem lay_parse (t : Nat) (nd : String × String) (h : nd ∈ (lay t).2) : ∃ ty, parseFieldDescriptor nd.2 = some ty := by
  match t, h with
  | 0, h =>
    simp only [lay, List.mem_cons, List.not_mem_nil, or_false] at h
    rcases h with rfl | rfl | rfl | rfl
    · exact ⟨.int, by decide +kernel⟩
    · exact ⟨.int, by decide +kernel⟩
    · exact ⟨.long, by decide +kernel⟩
    · exact ⟨.long, by decide +kernel⟩
  | t + 1, h => simp [lay] at h
theorem lay_names (t k k' : Nat) (nd nd' : String × String) (h1 : (lay t).2[k]? = some nd) (h2 : (lay t).2[k']? = some nd') (ne : k ≠ k') : nd.1 ≠ nd'.1 := by
  match t, h1, h2 with
  | 0, h1, h2 =>
    have hd : ∀ i j : Fin 4, i.1 ≠ j.1 → (["positions", "states", "transitions", "heldPositions"] : List String)[i.1]? ≠ (["positions", "states", "transitions", "heldPositions"] : List String)[j.1]? := by decide +kernel
    have e : ∀ i, (["positions", "states", "transitions", "heldPositions"] : List String)[i]? = ((lay 0).2[i]?).map (fun z : String × String => z.1) := fun i => by rw [← List.getElem?_map]; rfl
    have l1 : k < 4 := (List.getElem?_eq_some_iff.mp h1).1
    have l2 : k' < 4 := (List.getElem?_eq_some_iff.mp h2).1
    have q := hd ⟨k, l1⟩ ⟨k', l2⟩ ne
    rw [e, e, h1, h2] at q
    exact fun r => q (by simp [r])
  | t + 1, h1, h2 => simp [lay] at h1
/-! the abstract machine over the library's laws -/
abbrev Obj := Sum (FieldType × List Value) (Nat × List Value)
abbrev Gx := Launch × State × Array Value × Nat
abbrev Kx := Program × Env × Room × State × MethodId × Array Value × List Frame × Method × Code × Nat × Nat
/-- a reference of the model is the number of an own object; the object of number 0 lies at n -/
def sh (n : Nat) : Value → Value
  | .ref i => .ref (n + i)
  | v => v
theorem sh_cat (n : Nat) (v : Value) : (sh n v).category = v.category := by cases v <;> rfl
/-! local variables -/
def Wf (f : Nat → Option Slot) : Prop :=
  (∀ (k : Nat) (v : Value), f k = some (Slot.val v) → v.category = 2 → f (k + 1) = some .second) ∧ (∀ k, f k = some .second → ∃ v : Value, 1 ≤ k ∧ f (k - 1) = some (Slot.val v) ∧ v.category = 2)
def Lrel (n : Nat) (Ls : List (Option Value)) (L : Array Slot) : Prop :=
  L.size = Ls.length ∧ Wf (fun k => L[k]?) ∧ ∀ (k : Nat) (v : Value), Ls[k]? = some (some v) → L[k]? = some (Slot.val (sh n v))
def clr (Ls : List (Option Value)) : Nat → List (Option Value)
  | 0 => Ls
  | j + 1 => match Ls[j]? with
    | some (some w) => if w.category = 2 then Ls.set j none else Ls
    | _ => Ls
def stor (Ls : List (Option Value)) (i : Nat) (v : Value) : Option (List (Option Value)) :=
  if v.category = 2 then (if i + 1 < Ls.length then some (((clr Ls i).set i (some v)).set (i + 1) none) else none) else (if i < Ls.length then some ((clr Ls i).set i (some v)) else none)
theorem wf_gen {f f' : Nat → Option Slot} (hf : Wf f) {i last : Nat} {v : Value} (hl : (v.category = 2 ∧ last = i + 1 ∧ f' (i + 1) = some .second) ∨ (v.category ≠ 2 ∧ last = i)) (h0 : f' i = some (Slot.val v))
    (h1 : ∀ k, k + 1 = i → ∀ w : Value, f k = some (Slot.val w) → w.category = 2 → f' k = some .unset) (h2 : f (last + 1) = some .second → f' (last + 1) = some .unset)
    (h3 : ∀ k, k < i ∨ last < k → f' k = f k ∨ (f' k = some .unset ∧ ((k + 1 = i ∧ ∃ w : Value, f k = some (Slot.val w) ∧ w.category = 2) ∨ (k = last + 1 ∧ f k = some .second)))) : Wf f' := by
  have hc : ∀ k, k = i ∨ (k = i + 1 ∧ last = i + 1 ∧ f' (i + 1) = some .second) ∨ (k < i ∨ last < k) := fun k => by
    rcases hl with ⟨-, a, b⟩ | ⟨-, a⟩
    · by_cases h : k = i; · exact Or.inl h
      by_cases h' : k = i + 1; · exact Or.inr (Or.inl ⟨h', a, b⟩)
      exact Or.inr (Or.inr (by omega))
    · by_cases h : k = i; · exact Or.inl h
      exact Or.inr (Or.inr (by omega))
  have hli : i ≤ last := by omega
  constructor
  · intro k w hk hw
    rcases hc k with rfl | ⟨rfl, -, b⟩ | h
    · rcases hl with ⟨-, -, b⟩ | ⟨a, -⟩
      · exact b
      · rw [h0] at hk; cases hk; exact absurd hw a
    · rw [b] at hk; cases hk
    · rcases h3 k h with q | ⟨q, -⟩
      · rw [q] at hk
        have hs := hf.1 k w hk hw
        by_cases e1 : k + 1 = i
        · have := h1 k e1 w hk hw; rw [q, hk] at this; cases this
        · have h' : k + 1 < i ∨ last < k + 1 := by omega
          rcases h3 (k + 1) h' with q' | ⟨-, ⟨-, w', a, -⟩ | ⟨a, -⟩⟩
          · rw [q']; exact hs
          · rw [hs] at a; cases a
          · omega
      · rw [q] at hk; cases hk
  · intro k hk
    rcases hc k with rfl | ⟨rfl, a, b⟩ | h
    · rw [h0] at hk; cases hk
    · rcases hl with ⟨c, -, -⟩ | ⟨-, c⟩
      · exact ⟨v, by omega, by simpa using h0, c⟩
      · omega
    · rcases h3 k h with q | ⟨q, -⟩
      · rw [q] at hk
        obtain ⟨w, k1, hw, hw2⟩ := hf.2 k hk
        by_cases e1 : k = last + 1
        · subst e1; have := h2 hk; rw [q, hk] at this; cases this
        · have h' : k - 1 < i ∨ last < k - 1 := by
            rcases h with h | h
            · exact Or.inl (by omega)
            · exact Or.inr (by omega)
          rcases h3 (k - 1) h' with q' | ⟨-, ⟨a, -⟩ | ⟨a, b⟩⟩
          · exact ⟨w, k1, by rw [q']; exact hw, hw2⟩
          · have : k = i := by omega
            omega
          · rw [hw] at b; cases b
      · rw [q] at hk; cases hk
theorem clr_get {Ls : List (Option Value)} {i k : Nat} {w : Value} (h : (clr Ls i)[k]? = some (some w)) : Ls[k]? = some (some w) ∧ (k + 1 = i → w.category ≠ 2) := by
  cases i with
  | zero => exact ⟨h, fun q => by omega⟩
  | succ j =>
    simp only [clr] at h
    split at h
    · rename_i w' hw'
      split at h
      · rename_i h2
        by_cases e : j = k
        · subst e; rw [List.getElem?_set] at h; simp at h
        · rw [List.getElem?_set_ne e] at h; exact ⟨h, fun q => by omega⟩
      · rename_i h2
        refine ⟨h, fun q => ?_⟩
        have : j = k := by omega
        subst this; rw [hw'] at h; cases h; exact h2
    · rename_i hn
      refine ⟨h, fun q => ?_⟩
      have : j = k := by omega
      subst this; exact absurd h (hn w)
theorem clr_len (Ls : List (Option Value)) (i : Nat) : (clr Ls i).length = Ls.length := by
  cases i with
  | zero => rfl
  | succ j => simp only [clr]; split <;> (try split) <;> simp
theorem lrel_gen {n : Nat} {Ls Ls' : List (Option Value)} {L L' : Array Slot} {i last : Nat} {v : Value} (h : Lrel n Ls L) (hsz : L'.size = L.size) (hlen : Ls'.length = Ls.length)
    (hl : (v.category = 2 ∧ last = i + 1 ∧ L'[i + 1]? = some .second) ∨ (v.category ≠ 2 ∧ last = i)) (h0 : L'[i]? = some (Slot.val (sh n v)))
    (h1 : ∀ k, k + 1 = i → ∀ w : Value, L[k]? = some (Slot.val w) → w.category = 2 → L'[k]? = some .unset) (h2 : L[last + 1]? = some .second → L'[last + 1]? = some .unset)
    (h3 : ∀ k, k < i ∨ last < k → L'[k]? = L[k]? ∨ (L'[k]? = some .unset ∧ ((k + 1 = i ∧ ∃ w : Value, L[k]? = some (Slot.val w) ∧ w.category = 2) ∨ (k = last + 1 ∧ L[k]? = some .second))))
    (hs : ∀ k w, Ls'[k]? = some (some w) → (k = i ∧ w = v) ∨ ((k < i ∨ last < k) ∧ Ls[k]? = some (some w) ∧ (k + 1 = i → w.category ≠ 2))) : Lrel n Ls' L' := by
  refine ⟨by rw [hsz, hlen]; exact h.1, wf_gen (f := fun k => L[k]?) (f' := fun k => L'[k]?) (v := sh n v) h.2.1 (by rw [sh_cat]; exact hl) h0 h1 h2 h3, fun k w hk => ?_⟩
  rcases hs k w hk with ⟨rfl, rfl⟩ | ⟨a, b, c⟩
  · exact h0
  · have hb := h.2.2 k w b
    rcases h3 k a with q | ⟨-, ⟨q, w', r1, r2⟩ | ⟨-, r⟩⟩
    · rw [q]; exact hb
    · rw [hb] at r1; cases r1; exact absurd (by rw [← sh_cat n w]; exact r2) (c q)
    · rw [hb] at r; cases r
theorem get_set (L : Array Slot) (i j : Nat) (x : Slot) (hi : i < L.size) : (L.setIfInBounds i x)[j]? = if i = j then some x else L[j]? := by
  rw [Array.getElem?_setIfInBounds]; simp [hi]
theorem store_1 {n : Nat} {Ls Ls' : List (Option Value)} {L : Array Slot} {i : Nat} {v : Value} (h : Lrel n Ls L) (hc : v.category = 1) (hl : stor Ls i v = some Ls') : ∃ L', storeLocals L i (sh n v) = some L' ∧ Lrel n Ls' L' := by
  have hc2 : ¬ v.category = 2 := by omega
  simp only [stor, hc2, if_false] at hl
  have hi : i < Ls.length := Decidable.byContradiction fun hi => by rw [if_neg hi] at hl; cases hl
  rw [if_pos hi] at hl
  cases hl
  have hiL : i < L.size := by rw [h.1]; exact hi
  have hcs : (sh n v).category = 1 := (sh_cat n v).trans hc
  have hs : ∀ k w, ((clr Ls i).set i (some v))[k]? = some (some w) → (k = i ∧ w = v) ∨ ((k < i ∨ i < k) ∧ Ls[k]? = some (some w) ∧ (k + 1 = i → w.category ≠ 2)) := fun k w hk => by
    by_cases e : i = k
    · subst e
      rw [List.getElem?_set_self (by rw [clr_len]; exact hi)] at hk
      cases hk; exact Or.inl ⟨rfl, rfl⟩
    · rw [List.getElem?_set_ne e] at hk
      exact Or.inr ⟨by omega, clr_get hk⟩
  have hlen : ((clr Ls i).set i (some v)).length = Ls.length := by simp [clr_len]
  have hgo : L[i]? = some L[i] := Array.getElem?_eq_getElem hiL
  cases hq : L[i] with
  | unset =>
    rw [hq] at hgo
    refine ⟨L.setIfInBounds i (.val (sh n v)), by simp [storeLocals, storeSelf, setAt, hgo, hcs, hiL, hq], lrel_gen (i := i) (last := i) (v := v) h (by simp) hlen (Or.inr ⟨hc2, rfl⟩) ?_ ?_ ?_ ?_ hs⟩
    · rw [get_set _ _ _ _ hiL]; simp
    · intro k hk w hw hw2; have := h.2.1.1 k w hw hw2; simp only [hk] at this; rw [hgo] at this; cases this
    · intro hk; obtain ⟨w, -, a, -⟩ := h.2.1.2 _ hk; simp only [Nat.add_sub_cancel] at a; rw [hgo] at a; cases a
    · intro k hk; left; rw [get_set _ _ _ _ hiL, if_neg (by omega)]
  | second =>
    rw [hq] at hgo
    obtain ⟨w0, i1, hw0, hw2⟩ := h.2.1.2 _ hgo
    simp only at hw0
    have hi1 : i - 1 < L.size := by omega
    refine ⟨(L.setIfInBounds (i - 1) .unset).setIfInBounds i (.val (sh n v)), by simp [storeLocals, storeSelf, setAt, hgo, hcs, hiL, hi1, hq], lrel_gen (i := i) (last := i) (v := v) h (by simp) hlen (Or.inr ⟨hc2, rfl⟩) ?_ ?_ ?_ ?_ hs⟩
    · rw [get_set _ _ _ _ (by simpa using hiL)]; simp
    · intro k hk w hw hw2'; rw [get_set _ _ _ _ (by simpa using hiL), get_set _ _ _ _ hi1, if_neg (by omega), if_pos (by omega)]
    · intro hk; obtain ⟨w, -, a, -⟩ := h.2.1.2 _ hk; simp only [Nat.add_sub_cancel] at a; rw [hgo] at a; cases a
    · intro k hk; rw [get_set _ _ _ _ (by simpa using hiL), get_set _ _ _ _ hi1, if_neg (by omega)]
      by_cases e : i - 1 = k
      · subst e; rw [if_pos rfl]; exact Or.inr ⟨rfl, Or.inl ⟨by omega, w0, hw0, hw2⟩⟩
      · rw [if_neg e]; exact Or.inl rfl
  | val old =>
    rw [hq] at hgo
    have hnl : ∀ k, k + 1 = i → ∀ w : Value, L[k]? = some (Slot.val w) → w.category = 2 → False := fun k hk w hw hw2 => by
      have := h.2.1.1 k w hw hw2; simp only [hk] at this; rw [hgo] at this; cases this
    by_cases ho : old.category = 2
    · have hn : L[i + 1]? = some .second := h.2.1.1 i old hgo ho
      have hi1 : i + 1 < L.size := (Array.getElem?_eq_some_iff.mp hn).1
      refine ⟨(L.setIfInBounds (i + 1) .unset).setIfInBounds i (.val (sh n v)), by simp [storeLocals, storeSelf, setAt, hgo, hcs, hiL, hi1, ho, hq], lrel_gen (i := i) (last := i) (v := v) h (by simp) hlen (Or.inr ⟨hc2, rfl⟩) ?_ ?_ ?_ ?_ hs⟩
      · rw [get_set _ _ _ _ (by simpa using hiL)]; simp
      · intro k hk w hw hw2; exact (hnl k hk w hw hw2).elim
      · intro _; rw [get_set _ _ _ _ (by simpa using hiL), get_set _ _ _ _ hi1, if_neg (by omega), if_pos rfl]
      · intro k hk; rw [get_set _ _ _ _ (by simpa using hiL), get_set _ _ _ _ hi1, if_neg (by omega)]
        by_cases e : i + 1 = k
        · subst e; rw [if_pos rfl]; exact Or.inr ⟨rfl, Or.inr ⟨rfl, hn⟩⟩
        · rw [if_neg e]; exact Or.inl rfl
    · refine ⟨L.setIfInBounds i (.val (sh n v)), by simp [storeLocals, storeSelf, setAt, hgo, hcs, hiL, ho, hq], lrel_gen (i := i) (last := i) (v := v) h (by simp) hlen (Or.inr ⟨hc2, rfl⟩) ?_ ?_ ?_ ?_ hs⟩
      · rw [get_set _ _ _ _ hiL]; simp
      · intro k hk w hw hw2; exact (hnl k hk w hw hw2).elim
      · intro hk; obtain ⟨w, -, a, b⟩ := h.2.1.2 _ hk; simp only [Nat.add_sub_cancel] at a; rw [hgo] at a; cases a; exact absurd b ho
      · intro k hk; left; rw [get_set _ _ _ _ hiL, if_neg (by omega)]
/-- the second half of a long's store -/
theorem self_2 {l : Array Slot} {i : Nat} {v : Value} (hc : v.category = 2) (h1 : i + 1 < l.size) (hw : ∀ w : Value, l[i + 1]? = some (Slot.val w) → w.category = 2 → i + 2 < l.size) :
    ∃ l', storeSelf l i v = some l' ∧ l'.size = l.size ∧ l'[i]? = some (Slot.val v) ∧ l'[i + 1]? = some .second ∧ (∀ k, k < i ∨ i + 2 < k → l'[k]? = l[k]?) ∧
      ((∃ w : Value, l[i + 1]? = some (Slot.val w) ∧ w.category = 2) ∧ l'[i + 2]? = some .unset ∨ (¬ ∃ w : Value, l[i + 1]? = some (Slot.val w) ∧ w.category = 2) ∧ l'[i + 2]? = l[i + 2]?) := by
  have hi : i < l.size := by omega
  have hgo : l[i + 1]? = some l[i + 1] := Array.getElem?_eq_getElem h1
  have hgo' : (l.setIfInBounds i (.val v))[i + 1]? = some l[i + 1] := by rw [get_set _ _ _ _ hi, if_neg (by omega)]; exact hgo
  by_cases hx : ∃ w : Value, l[i + 1]? = some (Slot.val w) ∧ w.category = 2
  · obtain ⟨w, a, b⟩ := hx
    have h2 := hw w a b
    have e : l[i + 1] = .val w := Option.some.inj (hgo.symm.trans a)
    refine ⟨((l.setIfInBounds i (.val v)).setIfInBounds (i + 2) .unset).setIfInBounds (i + 1) .second, ?_, by simp, ?_, ?_, ?_, Or.inl ⟨⟨w, a, b⟩, ?_⟩⟩
    · rw [e] at hgo'
      simp [storeSelf, setAt, hi, hc, hgo', b, h1, h2, e]
    · rw [get_set _ _ _ _ (by simpa using h1), if_neg (by omega), get_set _ _ _ _ (by simpa using h2), if_neg (by omega), get_set _ _ _ _ hi, if_pos rfl]
    · rw [get_set _ _ _ _ (by simpa using h1), if_pos rfl]
    · intro k hk; rw [get_set _ _ _ _ (by simpa using h1), if_neg (by omega), get_set _ _ _ _ (by simpa using h2), if_neg (by omega), get_set _ _ _ _ hi, if_neg (by omega)]
    · rw [get_set _ _ _ _ (by simpa using h1), if_neg (by omega), get_set _ _ _ _ (by simpa using h2), if_pos rfl]
  · refine ⟨(l.setIfInBounds i (.val v)).setIfInBounds (i + 1) .second, ?_, by simp, ?_, ?_, ?_, Or.inr ⟨hx, ?_⟩⟩
    · cases e : l[i + 1] with
      | unset => rw [e] at hgo'; simp [storeSelf, setAt, hi, hc, hgo', h1, e]
      | second => rw [e] at hgo'; simp [storeSelf, setAt, hi, hc, hgo', h1, e]
      | val w =>
        rw [e] at hgo' hgo
        have hn : ¬ w.category = 2 := fun q => hx ⟨w, hgo, q⟩
        simp [storeSelf, setAt, hi, hc, hgo', h1, hn, e]
    · rw [get_set _ _ _ _ (by simpa using h1), if_neg (by omega), get_set _ _ _ _ hi, if_pos rfl]
    · rw [get_set _ _ _ _ (by simpa using h1), if_pos rfl]
    · intro k hk; rw [get_set _ _ _ _ (by simpa using h1), if_neg (by omega), get_set _ _ _ _ hi, if_neg (by omega)]
    · rw [get_set _ _ _ _ (by simpa using h1), if_neg (by omega), get_set _ _ _ _ hi, if_neg (by omega)]
theorem store_2 {n : Nat} {Ls Ls' : List (Option Value)} {L : Array Slot} {i : Nat} {v : Value} (h : Lrel n Ls L) (hc : v.category = 2) (hl : stor Ls i v = some Ls') : ∃ L', storeLocals L i (sh n v) = some L' ∧ Lrel n Ls' L' := by
  simp only [stor, hc, if_true] at hl
  have hi : i + 1 < Ls.length := Decidable.byContradiction fun hi => by rw [if_neg hi] at hl; cases hl
  rw [if_pos hi] at hl
  cases hl
  have hiL : i + 1 < L.size := by rw [h.1]; exact hi
  have hi0 : i < L.size := by omega
  have hcs : (sh n v).category = 2 := (sh_cat n v).trans hc
  have hs : ∀ k w, (((clr Ls i).set i (some v)).set (i + 1) none)[k]? = some (some w) → (k = i ∧ w = v) ∨ ((k < i ∨ i + 1 < k) ∧ Ls[k]? = some (some w) ∧ (k + 1 = i → w.category ≠ 2)) := fun k w hk => by
    by_cases e' : i + 1 = k
    · subst e'
      rw [List.getElem?_set_self (by simp [clr_len]; exact hi)] at hk
      cases hk
    · rw [List.getElem?_set_ne e'] at hk
      by_cases e : i = k
      · subst e
        rw [List.getElem?_set_self (by rw [clr_len]; omega)] at hk
        cases hk; exact Or.inl ⟨rfl, rfl⟩
      · rw [List.getElem?_set_ne e] at hk
        exact Or.inr ⟨by omega, clr_get hk⟩
  have hlen : (((clr Ls i).set i (some v)).set (i + 1) none).length = Ls.length := by simp [clr_len]
  have hgo : L[i]? = some L[i] := Array.getElem?_eq_getElem hi0
  have hW := h.2.1
  -- the first half: l1
  have key : ∃ l1, storeLocals L i (sh n v) = storeSelf l1 i (sh n v) ∧ l1.size = L.size ∧ (∀ k, k + 1 = i → ∀ w : Value, L[k]? = some (Slot.val w) → w.category = 2 → l1[k]? = some .unset) ∧
      (∀ k, k < i ∨ i + 1 < k → l1[k]? = L[k]? ∨ (l1[k]? = some .unset ∧ k + 1 = i ∧ ∃ w : Value, L[k]? = some (Slot.val w) ∧ w.category = 2)) ∧
      ((∃ w : Value, l1[i + 1]? = some (Slot.val w) ∧ w.category = 2) → L[i + 1]? = l1[i + 1]?) ∧ (L[i + 1]? = l1[i + 1]? ∨ L[i + 1]? = some .second) := by
    cases hq : L[i] with
    | unset =>
      rw [hq] at hgo
      refine ⟨L, by simp [storeLocals, hgo, hq], rfl, ?_, fun k _ => Or.inl rfl, fun _ => rfl, Or.inl rfl⟩
      intro k hk w hw hw2; have := hW.1 k w hw hw2; simp only [hk] at this; rw [hgo] at this; cases this
    | second =>
      rw [hq] at hgo
      obtain ⟨w0, i1, hw0, hw2⟩ := hW.2 _ hgo
      simp only at hw0
      have hi1 : i - 1 < L.size := by omega
      refine ⟨L.setIfInBounds (i - 1) .unset, by simp [storeLocals, setAt, hgo, hi1, hq], by simp, ?_, ?_, fun _ => by rw [get_set _ _ _ _ hi1, if_neg (by omega)], Or.inl (by rw [get_set _ _ _ _ hi1, if_neg (by omega)])⟩
      · intro k hk w hw hw2'; rw [get_set _ _ _ _ hi1, if_pos (by omega)]
      · intro k hk; rw [get_set _ _ _ _ hi1]
        by_cases e : i - 1 = k
        · subst e; rw [if_pos rfl]; exact Or.inr ⟨rfl, by omega, w0, hw0, hw2⟩
        · rw [if_neg e]; exact Or.inl rfl
    | val old =>
      rw [hq] at hgo
      have hnl : ∀ k, k + 1 = i → ∀ w : Value, L[k]? = some (Slot.val w) → w.category = 2 → False := fun k hk w hw hw2 => by
        have := hW.1 k w hw hw2; simp only [hk] at this; rw [hgo] at this; cases this
      by_cases ho : old.category = 2
      · have hn : L[i + 1]? = some .second := hW.1 i old hgo ho
        refine ⟨L.setIfInBounds (i + 1) .unset, by simp [storeLocals, setAt, hgo, hiL, ho, hq], by simp, fun k hk w hw hw2 => (hnl k hk w hw hw2).elim, ?_, ?_, Or.inr hn⟩
        · intro k hk; left; rw [get_set _ _ _ _ hiL, if_neg (by omega)]
        · rintro ⟨w, a, -⟩; rw [get_set _ _ _ _ hiL, if_pos rfl] at a; cases a
      · exact ⟨L, by simp [storeLocals, hgo, ho, hq], rfl, fun k hk w hw hw2 => (hnl k hk w hw hw2).elim, fun k _ => Or.inl rfl, fun _ => rfl, Or.inl rfl⟩
  obtain ⟨l1, k1, k2, k3, k4, k5, k6⟩ := key
  have hw2 : ∀ w : Value, l1[i + 1]? = some (Slot.val w) → w.category = 2 → i + 2 < l1.size := fun w a b => by
    have e := k5 ⟨w, a, b⟩
    rw [a] at e
    have := hW.1 (i + 1) w e b
    rw [k2]; exact (Array.getElem?_eq_some_iff.mp this).1
  obtain ⟨l', s1, s2, s3, s4, s5, s6⟩ := self_2 (v := sh n v) hcs (by rw [k2]; exact hiL) hw2
  refine ⟨l', by rw [k1]; exact s1, lrel_gen (i := i) (last := i + 1) (v := v) h (by rw [s2, k2]) hlen (Or.inl ⟨hc, rfl, s4⟩) s3 ?_ ?_ ?_ hs⟩
  · intro k hk w hw hw2'; rw [s5 k (by omega)]; exact k3 k hk w hw hw2'
  · intro hk
    obtain ⟨w, -, a, b⟩ := hW.2 _ hk
    simp only [Nat.add_sub_cancel] at a
    rcases s6 with ⟨-, q⟩ | ⟨q, -⟩
    · exact q
    · rcases k6 with k6 | k6
      · exact absurd ⟨w, by rw [← k6]; exact a, b⟩ q
      · rw [a] at k6; cases k6
  · intro k hk
    by_cases e : k = i + 2
    · subst e
      rcases s6 with ⟨⟨w, a, b⟩, q⟩ | ⟨-, q⟩
      · have e := k5 ⟨w, a, b⟩
        rw [a] at e
        exact Or.inr ⟨q, Or.inr ⟨rfl, hW.1 (i + 1) w e b⟩⟩
      · rcases k4 (i + 2) (by omega) with r | ⟨-, r, -⟩
        · left; rw [q, r]
        · omega
    · rw [s5 k (by omega)]
      rcases k4 k hk with r | ⟨r1, r2, r3⟩
      · exact Or.inl r
      · exact Or.inr ⟨r1, Or.inl ⟨r2, r3⟩⟩
/-! the entry -/
def aloc1 : List Value → List (Option Value)
  | [] => []
  | v :: r => if v.category = 2 then some v :: none :: aloc1 r else some v :: aloc1 r
def aloc (as : List Value) (maxL : Nat) : List (Option Value) := aloc1 as ++ List.replicate (maxL - (aloc1 as).length) none
def aslot : List Value → List Slot
  | [] => []
  | v :: r => if v.category = 2 then .val v :: .second :: aslot r else .val v :: aslot r
theorem aslot_eq (as : List Value) : ∀ acc : Array Slot, as.foldl (fun acc v => if v.category = 2 then (acc.push (Slot.val v)).push Slot.second else acc.push (Slot.val v)) acc = acc ++ (aslot as).toArray := by
  induction as with
  | nil => intro acc; simp [aslot]
  | cons v r ih =>
    intro acc
    rw [List.foldl_cons, ih]
    simp only [aslot]
    split <;> (apply Array.ext'; simp)
theorem aslot_len (n : Nat) (as : List Value) : (aslot (as.map (sh n))).length = (aloc1 as).length := by
  induction as with
  | nil => rfl
  | cons v r ih => simp only [List.map_cons, aslot, aloc1, sh_cat]; split <;> simp [ih]
theorem aslot_wf (as : List Value) : (∀ (k : Nat) (v : Value), (aslot as)[k]? = some (Slot.val v) → v.category = 2 → (aslot as)[k + 1]? = some .second) ∧ (∀ k, (aslot as)[k]? = some .second → ∃ v : Value, 1 ≤ k ∧ (aslot as)[k - 1]? = some (Slot.val v) ∧ v.category = 2) := by
  induction as with
  | nil => constructor <;> intro k <;> simp [aslot]
  | cons v r ih =>
    simp only [aslot]
    by_cases h : v.category = 2
    · rw [if_pos h]
      constructor
      · intro k w hk hw
        match k, hk with
        | 0, hk => rfl
        | 1, hk => simp at hk
        | k + 2, hk => simpa using ih.1 k w (by simpa using hk) hw
      · intro k hk
        match k, hk with
        | 0, hk => simp at hk
        | 1, hk => exact ⟨v, by omega, by simp, h⟩
        | k + 2, hk =>
          obtain ⟨w, a, b, c⟩ := ih.2 k (by simpa using hk)
          match k, a, b with
          | k + 1, a, b => exact ⟨w, by omega, by simpa using b, c⟩
    · rw [if_neg h]
      constructor
      · intro k w hk hw
        match k, hk with
        | 0, hk => simp at hk; subst hk; exact absurd hw h
        | k + 1, hk => simpa using ih.1 k w (by simpa using hk) hw
      · intro k hk
        match k, hk with
        | 0, hk => simp at hk
        | k + 1, hk =>
          obtain ⟨w, a, b, c⟩ := ih.2 k (by simpa using hk)
          match k, a, b with
          | k + 1, a, b => exact ⟨w, by omega, by simpa using b, c⟩
theorem aslot_val (n : Nat) (as : List Value) : ∀ (k : Nat) (v : Value), (aloc1 as)[k]? = some (some v) → (aslot (as.map (sh n)))[k]? = some (Slot.val (sh n v)) := by
  induction as with
  | nil => intro k v; simp [aloc1]
  | cons v r ih =>
    intro k w
    simp only [aloc1, List.map_cons, aslot, sh_cat]
    split
    · match k with
      | 0 => simp; intro h; rw [h]
      | 1 => simp
      | k + 2 => simpa using ih k w
    · match k with
      | 0 => simp; intro h; rw [h]
      | k + 1 => simpa using ih k w
theorem entry_rel (n : Nat) (as : List Value) (maxL : Nat) : Lrel n (aloc as maxL) (argsToLocals (as.map (sh n)).toArray maxL) := by
  have e : argsToLocals (as.map (sh n)).toArray maxL = (aslot (as.map (sh n)) ++ List.replicate (maxL - (aloc1 as).length) Slot.unset).toArray := by
    unfold argsToLocals
    simp only [List.foldl_toArray']
    rw [aslot_eq]
    apply Array.ext'
    simp [aslot_len]
  rw [e]
  have hl := aslot_len n as
  refine ⟨by simp [aloc, hl], ?_, ?_⟩
  · have hw := aslot_wf (as.map (sh n))
    constructor
    · intro k v hk hv
      simp only [List.getElem?_toArray] at hk ⊢
      by_cases h : k < (aslot (as.map (sh n))).length
      · rw [List.getElem?_append_left h] at hk
        have q := hw.1 k v hk hv
        rw [List.getElem?_append_left (List.getElem?_eq_some_iff.mp q).1]; exact q
      · rw [List.getElem?_append_right (by omega), List.getElem?_replicate] at hk
        split at hk <;> cases hk
    · intro k hk
      simp only [List.getElem?_toArray] at hk ⊢
      by_cases h : k < (aslot (as.map (sh n))).length
      · rw [List.getElem?_append_left h] at hk
        obtain ⟨v, a, b, c⟩ := hw.2 k hk
        exact ⟨v, a, by rw [List.getElem?_append_left (List.getElem?_eq_some_iff.mp b).1]; exact b, c⟩
      · rw [List.getElem?_append_right (by omega), List.getElem?_replicate] at hk
        split at hk <;> cases hk
  · intro k v hk
    simp only [List.getElem?_toArray]
    simp only [aloc] at hk
    by_cases h : k < (aloc1 as).length
    · rw [List.getElem?_append_left h] at hk
      rw [List.getElem?_append_left (by rw [hl]; exact h)]; exact aslot_val n as k v hk
    · rw [List.getElem?_append_right (by omega), List.getElem?_replicate] at hk
      split at hk <;> cases hk
/-! the heap -/
def ObjOk (Z : State) (n : Nat) (h : Heap) (a : Addr) : Obj → Prop
  | .inl (ty, vs) => Exa Z h a ("[" ++ ty.toString) ∧ ∃ c : Cell, Arr Z h a c ty ∧ c.slots = (vs.map (sh n)).toArray
  | .inr (t, vs) => Exa Z h a (lay t).1 ∧ vs.length = (lay t).2.length ∧ ∀ (k : Nat) (nd : String × String) (v : Value), (lay t).2[k]? = some nd → vs[k]? = some v → Fld Z h a (lay t).1 nd.1 nd.2 (sh n v)
def Sim (G : Gx) (H : List Obj) (h : Heap) : Prop := h.size = G.2.2.2 + H.length ∧ ∀ (i : Nat) (o : Obj), H[i]? = some o → ObjOk G.2.1 G.2.2.2 h (G.2.2.2 + i) o
def Done (G : Gx) (K : Kx) (rv : Option Value) (Hf : List Obj) (S0 : State) : Prop := match G, K with
  | (l, Z, a0, n), (p, e, R, s, m, args, below, meth, c, kc, ks) =>
    ∃ t o, Steps p.tables e below S0 t ∧ t.status = .running ∧ Ended t below o ∧ ∃ v L, o = .returned v ∧ (v = rv.map (sh n) ∧ Fr n L ∧ Sim (l, Z, a0, n) Hf t.heap ∧ s.heap.size + kc = n + Hf.length) ∧ FrameEnd s o t L kc ks
def Run (G : Gx) (K : Kx) (rv : Option Value) (Hf : List Obj) (pc : Nat) (Ls : List (Option Value)) (st : List Value) (H : List Obj) (cells slots : Nat) : Prop := match G, K with
  | (l, Z, a0, n), (p, e, R, s, m, args, below, meth, c, kc, ks) => ∀ T locs real, Stand p l e R s m args below meth c T locs cells slots → Fr n locs → Sim (l, Z, a0, n) H T.heap → s.heap.size + cells = n + H.length → Lrel n Ls real →
    Done (l, Z, a0, n) (p, e, R, s, m, args, below, meth, c, kc, ks) rv Hf (T.setTop (mkF m pc real (st.map (sh n))))
def Ok (G : Gx) (K : Kx) (own : String) (bytes : ByteArray) (maxL : Nat) (ret : Option FieldType) (R : Room) (mn : String) (kc ks : Nat) : Prop := match G, K with
  | (l, Z, a0, n), (p, e, R', s, m, args, below, meth, c, kc', ks') => p.tables.exec = Jvm.exec ∧ Z.Warmed39 s.vm ∧ s.vm.findClass own = some m.cls ∧ c.code = bytes ∧ c.maxLocals = maxL ∧ meth.sig.returnType = ret ∧ meth.locks = false ∧ R' = R ∧ meth.name = mn ∧ kc' = kc ∧ ks' = ks ∧ ∀ d ∈ tables_1, d.before a0 Z = true
def Con (G : Gx) (y : MethodName) (bytes : ByteArray) (maxL : Nat) (ret : Option FieldType) (rm : Room) (as : List Value) (H : List Obj) (rv : Option Value) (Hf : List Obj) : Prop := match G with
  | (l, Z, a0, n) => ∀ h0, Sim (l, Z, a0, n) H h0 → MetFree l y (head1 [Cond.code y bytes maxL ret] rm) (fun a U => a = (as.map (sh n)).toArray ∧ Z.Warmed39 U.vm ∧ U.heap = h0) (fun _ _ _ _ _ => True)
      (fun _ U o U' => ∃ v L, o = .returned v ∧ (v = rv.map (sh n) ∧ Fr n L ∧ Sim (l, Z, a0, n) Hf U'.heap ∧ Hf.length = H.length + rm.cells) ∧ FrameEnd U o U' L rm.cells rm.slots)
section Laws
variable {G : Gx} {K : Kx} {rv : Option Value} {Hf : List Obj} {pc pc' : Nat} {Ls Ls' : List (Option Value)} {st : List Value} {H : List Obj} {cells slots : Nat} {own : String} {bytes : ByteArray} {maxL : Nat} {ret : Option FieldType} {R : Room} {mn : String} {kc ks : Nat}
theorem Done.step {l : Launch} {Z : State} {a0 : Array Value} {n : Nat} {p : Program} {e : Env} {R : Room} {s : State} {m : MethodId} {args : Array Value} {below : List Frame} {meth : Method} {c : Code} {kc ks : Nat} {S0 S1 : State}
    (h : ∀ t, Steps p.tables e below S1 t → Steps p.tables e below S0 t) (k : Done (l, Z, a0, n) (p, e, R, s, m, args, below, meth, c, kc, ks) rv Hf S1) : Done (l, Z, a0, n) (p, e, R, s, m, args, below, meth, c, kc, ks) rv Hf S0 := by
  obtain ⟨t, o, h1, r⟩ := k
  exact ⟨t, o, h t h1, r⟩
theorem g_iconst {i : Int} {v : Int32} (O : Ok G K own bytes maxL ret R mn kc ks) (hd : decode bytes pc = .ok (.iconst i, 1)) (hv : Int32.ofInt i = v) (hp : pc + 1 = pc')
    (k : Run G K rv Hf pc' Ls (.int v :: st) H cells slots) : Run G K rv Hf pc Ls (st) H cells slots := by
  obtain ⟨l, Z, a0, n⟩ := G; obtain ⟨p, e, R', s, m, args, below, meth, c, kc', ks'⟩ := K
  obtain ⟨hx, hZ, hown, hby, hml, hret, hlk, rfl, hnm, rfl, rfl, hw⟩ := O
  subst hp
  intro T locs real X N S A L
  exact Done.step (fun t q => XT.iconstV X.here hx rfl v (hb hby hd) hv q) (k T locs real X N S A L)
theorem g_bipush {i : Int} {v : Int32} (O : Ok G K own bytes maxL ret R mn kc ks) (hd : decode bytes pc = .ok (.bipush i, 2)) (hv : (Int8.ofInt i).toInt32 = v) (hp : pc + 2 = pc')
    (k : Run G K rv Hf pc' Ls (.int v :: st) H cells slots) : Run G K rv Hf pc Ls (st) H cells slots := by
  obtain ⟨l, Z, a0, n⟩ := G; obtain ⟨p, e, R', s, m, args, below, meth, c, kc', ks'⟩ := K
  obtain ⟨hx, hZ, hown, hby, hml, hret, hlk, rfl, hnm, rfl, rfl, hw⟩ := O
  subst hp
  intro T locs real X N S A L
  exact Done.step (fun t q => XT.bipushV X.here hx rfl v (hb hby hd) hv q) (k T locs real X N S A L)
theorem g_sipush {i : Int} {v : Int32} (O : Ok G K own bytes maxL ret R mn kc ks) (hd : decode bytes pc = .ok (.sipush i, 3)) (hv : (Int16.ofInt i).toInt32 = v) (hp : pc + 3 = pc')
    (k : Run G K rv Hf pc' Ls (.int v :: st) H cells slots) : Run G K rv Hf pc Ls (st) H cells slots := by
  obtain ⟨l, Z, a0, n⟩ := G; obtain ⟨p, e, R', s, m, args, below, meth, c, kc', ks'⟩ := K
  obtain ⟨hx, hZ, hown, hby, hml, hret, hlk, rfl, hnm, rfl, rfl, hw⟩ := O
  subst hp
  intro T locs real X N S A L
  exact Done.step (fun t q => XT.sipushV X.here hx rfl v (hb hby hd) hv q) (k T locs real X N S A L)
theorem g_lconst {i : Fin 2} {v : Int64} (O : Ok G K own bytes maxL ret R mn kc ks) (hd : decode bytes pc = .ok (.lconst i, 1)) (hv : Int64.ofNat i = v) (hp : pc + 1 = pc')
    (k : Run G K rv Hf pc' Ls (.long v :: st) H cells slots) : Run G K rv Hf pc Ls (st) H cells slots := by
  obtain ⟨l, Z, a0, n⟩ := G; obtain ⟨p, e, R', s, m, args, below, meth, c, kc', ks'⟩ := K
  obtain ⟨hx, hZ, hown, hby, hml, hret, hlk, rfl, hnm, rfl, rfl, hw⟩ := O
  subst hp
  intro T locs real X N S A L
  exact Done.step (fun t q => XT.lconstV X.here hx rfl v (hb hby hd) hv q) (k T locs real X N S A L)
theorem g_iadd {x y : Int32} (O : Ok G K own bytes maxL ret R mn kc ks) (hd : decode bytes pc = .ok (.iadd, 1))  (hp : pc + 1 = pc')
    (k : Run G K rv Hf pc' Ls (.int (x + y) :: st) H cells slots) : Run G K rv Hf pc Ls (.int y :: .int x :: st) H cells slots := by
  obtain ⟨l, Z, a0, n⟩ := G; obtain ⟨p, e, R', s, m, args, below, meth, c, kc', ks'⟩ := K
  obtain ⟨hx, hZ, hown, hby, hml, hret, hlk, rfl, hnm, rfl, rfl, hw⟩ := O
  subst hp
  intro T locs real X N S A L
  exact Done.step (fun t q => XS.iadd X.here hx rfl (hb hby hd) rfl q) (k T locs real X N S A L)
theorem g_isub {x y : Int32} (O : Ok G K own bytes maxL ret R mn kc ks) (hd : decode bytes pc = .ok (.isub, 1))  (hp : pc + 1 = pc')
    (k : Run G K rv Hf pc' Ls (.int (x - y) :: st) H cells slots) : Run G K rv Hf pc Ls (.int y :: .int x :: st) H cells slots := by
  obtain ⟨l, Z, a0, n⟩ := G; obtain ⟨p, e, R', s, m, args, below, meth, c, kc', ks'⟩ := K
  obtain ⟨hx, hZ, hown, hby, hml, hret, hlk, rfl, hnm, rfl, rfl, hw⟩ := O
  subst hp
  intro T locs real X N S A L
  exact Done.step (fun t q => XS.isub X.here hx rfl (hb hby hd) rfl q) (k T locs real X N S A L)
theorem g_imul {x y : Int32} (O : Ok G K own bytes maxL ret R mn kc ks) (hd : decode bytes pc = .ok (.imul, 1))  (hp : pc + 1 = pc')
    (k : Run G K rv Hf pc' Ls (.int (x * y) :: st) H cells slots) : Run G K rv Hf pc Ls (.int y :: .int x :: st) H cells slots := by
  obtain ⟨l, Z, a0, n⟩ := G; obtain ⟨p, e, R', s, m, args, below, meth, c, kc', ks'⟩ := K
  obtain ⟨hx, hZ, hown, hby, hml, hret, hlk, rfl, hnm, rfl, rfl, hw⟩ := O
  subst hp
  intro T locs real X N S A L
  exact Done.step (fun t q => XS.imul X.here hx rfl (hb hby hd) rfl q) (k T locs real X N S A L)
theorem g_iand {x y : Int32} (O : Ok G K own bytes maxL ret R mn kc ks) (hd : decode bytes pc = .ok (.iand, 1))  (hp : pc + 1 = pc')
    (k : Run G K rv Hf pc' Ls (.int (x &&& y) :: st) H cells slots) : Run G K rv Hf pc Ls (.int y :: .int x :: st) H cells slots := by
  obtain ⟨l, Z, a0, n⟩ := G; obtain ⟨p, e, R', s, m, args, below, meth, c, kc', ks'⟩ := K
  obtain ⟨hx, hZ, hown, hby, hml, hret, hlk, rfl, hnm, rfl, rfl, hw⟩ := O
  subst hp
  intro T locs real X N S A L
  exact Done.step (fun t q => XS.iand X.here hx rfl (hb hby hd) rfl q) (k T locs real X N S A L)
theorem g_ior {x y : Int32} (O : Ok G K own bytes maxL ret R mn kc ks) (hd : decode bytes pc = .ok (.ior, 1))  (hp : pc + 1 = pc')
    (k : Run G K rv Hf pc' Ls (.int (x ||| y) :: st) H cells slots) : Run G K rv Hf pc Ls (.int y :: .int x :: st) H cells slots := by
  obtain ⟨l, Z, a0, n⟩ := G; obtain ⟨p, e, R', s, m, args, below, meth, c, kc', ks'⟩ := K
  obtain ⟨hx, hZ, hown, hby, hml, hret, hlk, rfl, hnm, rfl, rfl, hw⟩ := O
  subst hp
  intro T locs real X N S A L
  exact Done.step (fun t q => XT.ior X.here hx rfl (hb hby hd) rfl q) (k T locs real X N S A L)
theorem g_ixor {x y : Int32} (O : Ok G K own bytes maxL ret R mn kc ks) (hd : decode bytes pc = .ok (.ixor, 1))  (hp : pc + 1 = pc')
    (k : Run G K rv Hf pc' Ls (.int (x ^^^ y) :: st) H cells slots) : Run G K rv Hf pc Ls (.int y :: .int x :: st) H cells slots := by
  obtain ⟨l, Z, a0, n⟩ := G; obtain ⟨p, e, R', s, m, args, below, meth, c, kc', ks'⟩ := K
  obtain ⟨hx, hZ, hown, hby, hml, hret, hlk, rfl, hnm, rfl, rfl, hw⟩ := O
  subst hp
  intro T locs real X N S A L
  exact Done.step (fun t q => XT.ixor X.here hx rfl (hb hby hd) rfl q) (k T locs real X N S A L)
theorem g_ishl {x y : Int32} (O : Ok G K own bytes maxL ret R mn kc ks) (hd : decode bytes pc = .ok (.ishl, 1))  (hp : pc + 1 = pc')
    (k : Run G K rv Hf pc' Ls (.int (x <<< (y &&& 31)) :: st) H cells slots) : Run G K rv Hf pc Ls (.int y :: .int x :: st) H cells slots := by
  obtain ⟨l, Z, a0, n⟩ := G; obtain ⟨p, e, R', s, m, args, below, meth, c, kc', ks'⟩ := K
  obtain ⟨hx, hZ, hown, hby, hml, hret, hlk, rfl, hnm, rfl, rfl, hw⟩ := O
  subst hp
  intro T locs real X N S A L
  exact Done.step (fun t q => XT.ishl X.here hx rfl (hb hby hd) rfl q) (k T locs real X N S A L)
theorem g_ishr {x y : Int32} (O : Ok G K own bytes maxL ret R mn kc ks) (hd : decode bytes pc = .ok (.ishr, 1))  (hp : pc + 1 = pc')
    (k : Run G K rv Hf pc' Ls (.int (x >>> (y &&& 31)) :: st) H cells slots) : Run G K rv Hf pc Ls (.int y :: .int x :: st) H cells slots := by
  obtain ⟨l, Z, a0, n⟩ := G; obtain ⟨p, e, R', s, m, args, below, meth, c, kc', ks'⟩ := K
  obtain ⟨hx, hZ, hown, hby, hml, hret, hlk, rfl, hnm, rfl, rfl, hw⟩ := O
  subst hp
  intro T locs real X N S A L
  exact Done.step (fun t q => XT.ishr X.here hx rfl (hb hby hd) rfl q) (k T locs real X N S A L)
theorem g_iushr {x y : Int32} (O : Ok G K own bytes maxL ret R mn kc ks) (hd : decode bytes pc = .ok (.iushr, 1))  (hp : pc + 1 = pc')
    (k : Run G K rv Hf pc' Ls (.int (XT.ushr x y) :: st) H cells slots) : Run G K rv Hf pc Ls (.int y :: .int x :: st) H cells slots := by
  obtain ⟨l, Z, a0, n⟩ := G; obtain ⟨p, e, R', s, m, args, below, meth, c, kc', ks'⟩ := K
  obtain ⟨hx, hZ, hown, hby, hml, hret, hlk, rfl, hnm, rfl, rfl, hw⟩ := O
  subst hp
  intro T locs real X N S A L
  exact Done.step (fun t q => XT.iushr X.here hx rfl (hb hby hd) rfl q) (k T locs real X N S A L)
theorem g_ladd {x y : Int64} (O : Ok G K own bytes maxL ret R mn kc ks) (hd : decode bytes pc = .ok (.ladd, 1))  (hp : pc + 1 = pc')
    (k : Run G K rv Hf pc' Ls (.long (x + y) :: st) H cells slots) : Run G K rv Hf pc Ls (.long y :: .long x :: st) H cells slots := by
  obtain ⟨l, Z, a0, n⟩ := G; obtain ⟨p, e, R', s, m, args, below, meth, c, kc', ks'⟩ := K
  obtain ⟨hx, hZ, hown, hby, hml, hret, hlk, rfl, hnm, rfl, rfl, hw⟩ := O
  subst hp
  intro T locs real X N S A L
  exact Done.step (fun t q => XT.ladd X.here hx rfl (hb hby hd) rfl q) (k T locs real X N S A L)
theorem g_lsub {x y : Int64} (O : Ok G K own bytes maxL ret R mn kc ks) (hd : decode bytes pc = .ok (.lsub, 1))  (hp : pc + 1 = pc')
    (k : Run G K rv Hf pc' Ls (.long (x - y) :: st) H cells slots) : Run G K rv Hf pc Ls (.long y :: .long x :: st) H cells slots := by
  obtain ⟨l, Z, a0, n⟩ := G; obtain ⟨p, e, R', s, m, args, below, meth, c, kc', ks'⟩ := K
  obtain ⟨hx, hZ, hown, hby, hml, hret, hlk, rfl, hnm, rfl, rfl, hw⟩ := O
  subst hp
  intro T locs real X N S A L
  exact Done.step (fun t q => XT.lsub X.here hx rfl (hb hby hd) rfl q) (k T locs real X N S A L)
theorem g_lmul {x y : Int64} (O : Ok G K own bytes maxL ret R mn kc ks) (hd : decode bytes pc = .ok (.lmul, 1))  (hp : pc + 1 = pc')
    (k : Run G K rv Hf pc' Ls (.long (x * y) :: st) H cells slots) : Run G K rv Hf pc Ls (.long y :: .long x :: st) H cells slots := by
  obtain ⟨l, Z, a0, n⟩ := G; obtain ⟨p, e, R', s, m, args, below, meth, c, kc', ks'⟩ := K
  obtain ⟨hx, hZ, hown, hby, hml, hret, hlk, rfl, hnm, rfl, rfl, hw⟩ := O
  subst hp
  intro T locs real X N S A L
  exact Done.step (fun t q => XT.lmul X.here hx rfl (hb hby hd) rfl q) (k T locs real X N S A L)
theorem g_land {x y : Int64} (O : Ok G K own bytes maxL ret R mn kc ks) (hd : decode bytes pc = .ok (.land, 1))  (hp : pc + 1 = pc')
    (k : Run G K rv Hf pc' Ls (.long (x &&& y) :: st) H cells slots) : Run G K rv Hf pc Ls (.long y :: .long x :: st) H cells slots := by
  obtain ⟨l, Z, a0, n⟩ := G; obtain ⟨p, e, R', s, m, args, below, meth, c, kc', ks'⟩ := K
  obtain ⟨hx, hZ, hown, hby, hml, hret, hlk, rfl, hnm, rfl, rfl, hw⟩ := O
  subst hp
  intro T locs real X N S A L
  exact Done.step (fun t q => XT.land X.here hx rfl (hb hby hd) rfl q) (k T locs real X N S A L)
theorem g_lor {x y : Int64} (O : Ok G K own bytes maxL ret R mn kc ks) (hd : decode bytes pc = .ok (.lor, 1))  (hp : pc + 1 = pc')
    (k : Run G K rv Hf pc' Ls (.long (x ||| y) :: st) H cells slots) : Run G K rv Hf pc Ls (.long y :: .long x :: st) H cells slots := by
  obtain ⟨l, Z, a0, n⟩ := G; obtain ⟨p, e, R', s, m, args, below, meth, c, kc', ks'⟩ := K
  obtain ⟨hx, hZ, hown, hby, hml, hret, hlk, rfl, hnm, rfl, rfl, hw⟩ := O
  subst hp
  intro T locs real X N S A L
  exact Done.step (fun t q => XT.lor X.here hx rfl (hb hby hd) rfl q) (k T locs real X N S A L)
theorem g_lxor {x y : Int64} (O : Ok G K own bytes maxL ret R mn kc ks) (hd : decode bytes pc = .ok (.lxor, 1))  (hp : pc + 1 = pc')
    (k : Run G K rv Hf pc' Ls (.long (x ^^^ y) :: st) H cells slots) : Run G K rv Hf pc Ls (.long y :: .long x :: st) H cells slots := by
  obtain ⟨l, Z, a0, n⟩ := G; obtain ⟨p, e, R', s, m, args, below, meth, c, kc', ks'⟩ := K
  obtain ⟨hx, hZ, hown, hby, hml, hret, hlk, rfl, hnm, rfl, rfl, hw⟩ := O
  subst hp
  intro T locs real X N S A L
  exact Done.step (fun t q => XT.lxor X.here hx rfl (hb hby hd) rfl q) (k T locs real X N S A L)
theorem g_lshl {x : Int64} {y : Int32} (O : Ok G K own bytes maxL ret R mn kc ks) (hd : decode bytes pc = .ok (.lshl, 1))  (hp : pc + 1 = pc')
    (k : Run G K rv Hf pc' Ls (.long (x <<< (y.toInt64 &&& 63)) :: st) H cells slots) : Run G K rv Hf pc Ls (.int y :: .long x :: st) H cells slots := by
  obtain ⟨l, Z, a0, n⟩ := G; obtain ⟨p, e, R', s, m, args, below, meth, c, kc', ks'⟩ := K
  obtain ⟨hx, hZ, hown, hby, hml, hret, hlk, rfl, hnm, rfl, rfl, hw⟩ := O
  subst hp
  intro T locs real X N S A L
  exact Done.step (fun t q => XT.lshl X.here hx rfl (hb hby hd) rfl q) (k T locs real X N S A L)
theorem g_lshr {x : Int64} {y : Int32} (O : Ok G K own bytes maxL ret R mn kc ks) (hd : decode bytes pc = .ok (.lshr, 1))  (hp : pc + 1 = pc')
    (k : Run G K rv Hf pc' Ls (.long (x >>> (y.toInt64 &&& 63)) :: st) H cells slots) : Run G K rv Hf pc Ls (.int y :: .long x :: st) H cells slots := by
  obtain ⟨l, Z, a0, n⟩ := G; obtain ⟨p, e, R', s, m, args, below, meth, c, kc', ks'⟩ := K
  obtain ⟨hx, hZ, hown, hby, hml, hret, hlk, rfl, hnm, rfl, rfl, hw⟩ := O
  subst hp
  intro T locs real X N S A L
  exact Done.step (fun t q => XT.lshr X.here hx rfl (hb hby hd) rfl q) (k T locs real X N S A L)
theorem g_lushr {x : Int64} {y : Int32} (O : Ok G K own bytes maxL ret R mn kc ks) (hd : decode bytes pc = .ok (.lushr, 1))  (hp : pc + 1 = pc')
    (k : Run G K rv Hf pc' Ls (.long (XT.ushrL x y) :: st) H cells slots) : Run G K rv Hf pc Ls (.int y :: .long x :: st) H cells slots := by
  obtain ⟨l, Z, a0, n⟩ := G; obtain ⟨p, e, R', s, m, args, below, meth, c, kc', ks'⟩ := K
  obtain ⟨hx, hZ, hown, hby, hml, hret, hlk, rfl, hnm, rfl, rfl, hw⟩ := O
  subst hp
  intro T locs real X N S A L
  exact Done.step (fun t q => XT.lushr X.here hx rfl (hb hby hd) rfl q) (k T locs real X N S A L)
theorem g_idiv {x y : Int32} (O : Ok G K own bytes maxL ret R mn kc ks) (hd : decode bytes pc = .ok (.idiv, 1)) (hy : y ≠ 0) (hp : pc + 1 = pc')
    (k : Run G K rv Hf pc' Ls (.int (x / y) :: st) H cells slots) : Run G K rv Hf pc Ls (.int y :: .int x :: st) H cells slots := by
  obtain ⟨l, Z, a0, n⟩ := G; obtain ⟨p, e, R', s, m, args, below, meth, c, kc', ks'⟩ := K
  obtain ⟨hx, hZ, hown, hby, hml, hret, hlk, rfl, hnm, rfl, rfl, hw⟩ := O
  subst hp
  intro T locs real X N S A L
  exact Done.step (fun t q => XS.idiv X.here hx rfl (hb hby hd) rfl hy q) (k T locs real X N S A L)
theorem g_irem {x y : Int32} (O : Ok G K own bytes maxL ret R mn kc ks) (hd : decode bytes pc = .ok (.irem, 1)) (hy : y ≠ 0) (hp : pc + 1 = pc')
    (k : Run G K rv Hf pc' Ls (.int (x % y) :: st) H cells slots) : Run G K rv Hf pc Ls (.int y :: .int x :: st) H cells slots := by
  obtain ⟨l, Z, a0, n⟩ := G; obtain ⟨p, e, R', s, m, args, below, meth, c, kc', ks'⟩ := K
  obtain ⟨hx, hZ, hown, hby, hml, hret, hlk, rfl, hnm, rfl, rfl, hw⟩ := O
  subst hp
  intro T locs real X N S A L
  exact Done.step (fun t q => iremM X hx rfl (hb hby hd) rfl hy q) (k T locs real X N S A L)
theorem g_ldiv {x y : Int64} (O : Ok G K own bytes maxL ret R mn kc ks) (hd : decode bytes pc = .ok (.ldiv, 1)) (hy : y ≠ 0) (hp : pc + 1 = pc')
    (k : Run G K rv Hf pc' Ls (.long (x / y) :: st) H cells slots) : Run G K rv Hf pc Ls (.long y :: .long x :: st) H cells slots := by
  obtain ⟨l, Z, a0, n⟩ := G; obtain ⟨p, e, R', s, m, args, below, meth, c, kc', ks'⟩ := K
  obtain ⟨hx, hZ, hown, hby, hml, hret, hlk, rfl, hnm, rfl, rfl, hw⟩ := O
  subst hp
  intro T locs real X N S A L
  exact Done.step (fun t q => XT.ldiv X.here hx rfl (hb hby hd) rfl hy q) (k T locs real X N S A L)
theorem g_lrem {x y : Int64} (O : Ok G K own bytes maxL ret R mn kc ks) (hd : decode bytes pc = .ok (.lrem, 1)) (hy : y ≠ 0) (hp : pc + 1 = pc')
    (k : Run G K rv Hf pc' Ls (.long (x % y) :: st) H cells slots) : Run G K rv Hf pc Ls (.long y :: .long x :: st) H cells slots := by
  obtain ⟨l, Z, a0, n⟩ := G; obtain ⟨p, e, R', s, m, args, below, meth, c, kc', ks'⟩ := K
  obtain ⟨hx, hZ, hown, hby, hml, hret, hlk, rfl, hnm, rfl, rfl, hw⟩ := O
  subst hp
  intro T locs real X N S A L
  exact Done.step (fun t q => XT.lrem X.here hx rfl (hb hby hd) rfl hy (by rw [lrem_mod]; exact q)) (k T locs real X N S A L)
theorem g_i2l {x : Int32} (O : Ok G K own bytes maxL ret R mn kc ks) (hd : decode bytes pc = .ok (.i2l, 1))  (hp : pc + 1 = pc')
    (k : Run G K rv Hf pc' Ls (.long x.toInt64 :: st) H cells slots) : Run G K rv Hf pc Ls (.int x :: st) H cells slots := by
  obtain ⟨l, Z, a0, n⟩ := G; obtain ⟨p, e, R', s, m, args, below, meth, c, kc', ks'⟩ := K
  obtain ⟨hx, hZ, hown, hby, hml, hret, hlk, rfl, hnm, rfl, rfl, hw⟩ := O
  subst hp
  intro T locs real X N S A L
  exact Done.step (fun t q => XT.i2l X.here hx rfl (hb hby hd) rfl q) (k T locs real X N S A L)
theorem g_l2i {x : Int64} (O : Ok G K own bytes maxL ret R mn kc ks) (hd : decode bytes pc = .ok (.l2i, 1))  (hp : pc + 1 = pc')
    (k : Run G K rv Hf pc' Ls (.int x.toInt32 :: st) H cells slots) : Run G K rv Hf pc Ls (.long x :: st) H cells slots := by
  obtain ⟨l, Z, a0, n⟩ := G; obtain ⟨p, e, R', s, m, args, below, meth, c, kc', ks'⟩ := K
  obtain ⟨hx, hZ, hown, hby, hml, hret, hlk, rfl, hnm, rfl, rfl, hw⟩ := O
  subst hp
  intro T locs real X N S A L
  exact Done.step (fun t q => XT.l2i X.here hx rfl (hb hby hd) rfl q) (k T locs real X N S A L)
theorem g_i2b {x : Int32} (O : Ok G K own bytes maxL ret R mn kc ks) (hd : decode bytes pc = .ok (.i2b, 1))  (hp : pc + 1 = pc')
    (k : Run G K rv Hf pc' Ls (.int x.toInt8.toInt32 :: st) H cells slots) : Run G K rv Hf pc Ls (.int x :: st) H cells slots := by
  obtain ⟨l, Z, a0, n⟩ := G; obtain ⟨p, e, R', s, m, args, below, meth, c, kc', ks'⟩ := K
  obtain ⟨hx, hZ, hown, hby, hml, hret, hlk, rfl, hnm, rfl, rfl, hw⟩ := O
  subst hp
  intro T locs real X N S A L
  exact Done.step (fun t q => XT.i2b X.here hx rfl (hb hby hd) rfl q) (k T locs real X N S A L)
theorem g_i2c {x : Int32} (O : Ok G K own bytes maxL ret R mn kc ks) (hd : decode bytes pc = .ok (.i2c, 1))  (hp : pc + 1 = pc')
    (k : Run G K rv Hf pc' Ls (.int x.toUInt32.toUInt16.toUInt32.toInt32 :: st) H cells slots) : Run G K rv Hf pc Ls (.int x :: st) H cells slots := by
  obtain ⟨l, Z, a0, n⟩ := G; obtain ⟨p, e, R', s, m, args, below, meth, c, kc', ks'⟩ := K
  obtain ⟨hx, hZ, hown, hby, hml, hret, hlk, rfl, hnm, rfl, rfl, hw⟩ := O
  subst hp
  intro T locs real X N S A L
  exact Done.step (fun t q => XT.i2c X.here hx rfl (hb hby hd) rfl q) (k T locs real X N S A L)
theorem g_dup {x : Value} (O : Ok G K own bytes maxL ret R mn kc ks) (hd : decode bytes pc = .ok (.dup, 1)) (hc : x.category = 1) (hp : pc + 1 = pc')
    (k : Run G K rv Hf pc' Ls (x :: x :: st) H cells slots) : Run G K rv Hf pc Ls (x :: st) H cells slots := by
  obtain ⟨l, Z, a0, n⟩ := G; obtain ⟨p, e, R', s, m, args, below, meth, c, kc', ks'⟩ := K
  obtain ⟨hx, hZ, hown, hby, hml, hret, hlk, rfl, hnm, rfl, rfl, hw⟩ := O
  subst hp
  intro T locs real X N S A L
  exact Done.step (fun t q => XS.dup X.here hx rfl (hb hby hd) rfl ((sh_cat n x).trans hc) q) (k T locs real X N S A L)
theorem g_dup_x1 {x y : Value} (O : Ok G K own bytes maxL ret R mn kc ks) (hd : decode bytes pc = .ok (.dup_x1, 1)) (hc : x.category = 1) (hc' : y.category = 1) (hp : pc + 1 = pc')
    (k : Run G K rv Hf pc' Ls (x :: y :: x :: st) H cells slots) : Run G K rv Hf pc Ls (x :: y :: st) H cells slots := by
  obtain ⟨l, Z, a0, n⟩ := G; obtain ⟨p, e, R', s, m, args, below, meth, c, kc', ks'⟩ := K
  obtain ⟨hx, hZ, hown, hby, hml, hret, hlk, rfl, hnm, rfl, rfl, hw⟩ := O
  subst hp
  intro T locs real X N S A L
  exact Done.step (fun t q => XT.dupX1 X.here hx rfl (hb hby hd) rfl ((sh_cat n x).trans hc) ((sh_cat n y).trans hc') q) (k T locs real X N S A L)
theorem g_pop {x : Value} (O : Ok G K own bytes maxL ret R mn kc ks) (hd : decode bytes pc = .ok (.pop, 1)) (hc : x.category = 1) (hp : pc + 1 = pc')
    (k : Run G K rv Hf pc' Ls (st) H cells slots) : Run G K rv Hf pc Ls (x :: st) H cells slots := by
  obtain ⟨l, Z, a0, n⟩ := G; obtain ⟨p, e, R', s, m, args, below, meth, c, kc', ks'⟩ := K
  obtain ⟨hx, hZ, hown, hby, hml, hret, hlk, rfl, hnm, rfl, rfl, hw⟩ := O
  subst hp
  intro T locs real X N S A L
  exact Done.step (fun t q => XT.pop X.here hx rfl (hb hby hd) rfl ((sh_cat n x).trans hc) q) (k T locs real X N S A L)
theorem g_iload {j : Nat} {v : Int32} (O : Ok G K own bytes maxL ret R mn kc ks) (hd : decode bytes pc = .ok (.iload j, 2)) (hl : Ls[j]? = some (some (.int v))) (hp : pc + 2 = pc')
    (k : Run G K rv Hf pc' Ls (.int v :: st) H cells slots) : Run G K rv Hf pc Ls st H cells slots := by
  obtain ⟨l, Z, a0, n⟩ := G; obtain ⟨p, e, R', s, m, args, below, meth, c, kc', ks'⟩ := K
  obtain ⟨hx, hZ, hown, hby, hml, hret, hlk, rfl, hnm, rfl, rfl, hw⟩ := O
  subst hp
  intro T locs real X N S A L
  exact Done.step (fun t q => XS.iload X.here hx rfl (hb hby hd) (L.2.2 _ _ hl) q) (k T locs real X N S A L)
theorem g_iload_n {j : Fin 4} {v : Int32} (O : Ok G K own bytes maxL ret R mn kc ks) (hd : decode bytes pc = .ok (.iload_n j, 1)) (hl : Ls[j.val]? = some (some (.int v))) (hp : pc + 1 = pc')
    (k : Run G K rv Hf pc' Ls (.int v :: st) H cells slots) : Run G K rv Hf pc Ls st H cells slots := by
  obtain ⟨l, Z, a0, n⟩ := G; obtain ⟨p, e, R', s, m, args, below, meth, c, kc', ks'⟩ := K
  obtain ⟨hx, hZ, hown, hby, hml, hret, hlk, rfl, hnm, rfl, rfl, hw⟩ := O
  subst hp
  intro T locs real X N S A L
  exact Done.step (fun t q => XS.iloadN X.here hx rfl (hb hby hd) (L.2.2 _ _ hl) q) (k T locs real X N S A L)
theorem g_lload {j : Nat} {v : Int64} (O : Ok G K own bytes maxL ret R mn kc ks) (hd : decode bytes pc = .ok (.lload j, 2)) (hl : Ls[j]? = some (some (.long v))) (hp : pc + 2 = pc')
    (k : Run G K rv Hf pc' Ls (.long v :: st) H cells slots) : Run G K rv Hf pc Ls st H cells slots := by
  obtain ⟨l, Z, a0, n⟩ := G; obtain ⟨p, e, R', s, m, args, below, meth, c, kc', ks'⟩ := K
  obtain ⟨hx, hZ, hown, hby, hml, hret, hlk, rfl, hnm, rfl, rfl, hw⟩ := O
  subst hp
  intro T locs real X N S A L
  exact Done.step (fun t q => XT.lload X.here hx rfl (hb hby hd) (L.2.2 _ _ hl) q) (k T locs real X N S A L)
theorem g_lload_n {j : Fin 4} {v : Int64} (O : Ok G K own bytes maxL ret R mn kc ks) (hd : decode bytes pc = .ok (.lload_n j, 1)) (hl : Ls[j.val]? = some (some (.long v))) (hp : pc + 1 = pc')
    (k : Run G K rv Hf pc' Ls (.long v :: st) H cells slots) : Run G K rv Hf pc Ls st H cells slots := by
  obtain ⟨l, Z, a0, n⟩ := G; obtain ⟨p, e, R', s, m, args, below, meth, c, kc', ks'⟩ := K
  obtain ⟨hx, hZ, hown, hby, hml, hret, hlk, rfl, hnm, rfl, rfl, hw⟩ := O
  subst hp
  intro T locs real X N S A L
  exact Done.step (fun t q => XT.lloadN X.here hx rfl (hb hby hd) (L.2.2 _ _ hl) q) (k T locs real X N S A L)
theorem g_aload {j : Nat} {v : Nat} (O : Ok G K own bytes maxL ret R mn kc ks) (hd : decode bytes pc = .ok (.aload j, 2)) (hl : Ls[j]? = some (some (.ref v))) (hp : pc + 2 = pc')
    (k : Run G K rv Hf pc' Ls (.ref v :: st) H cells slots) : Run G K rv Hf pc Ls st H cells slots := by
  obtain ⟨l, Z, a0, n⟩ := G; obtain ⟨p, e, R', s, m, args, below, meth, c, kc', ks'⟩ := K
  obtain ⟨hx, hZ, hown, hby, hml, hret, hlk, rfl, hnm, rfl, rfl, hw⟩ := O
  subst hp
  intro T locs real X N S A L
  exact Done.step (fun t q => XS.aload X.here hx rfl (hb hby hd) (L.2.2 _ _ hl) rfl q) (k T locs real X N S A L)
theorem g_aload_n {j : Fin 4} {v : Nat} (O : Ok G K own bytes maxL ret R mn kc ks) (hd : decode bytes pc = .ok (.aload_n j, 1)) (hl : Ls[j.val]? = some (some (.ref v))) (hp : pc + 1 = pc')
    (k : Run G K rv Hf pc' Ls (.ref v :: st) H cells slots) : Run G K rv Hf pc Ls st H cells slots := by
  obtain ⟨l, Z, a0, n⟩ := G; obtain ⟨p, e, R', s, m, args, below, meth, c, kc', ks'⟩ := K
  obtain ⟨hx, hZ, hown, hby, hml, hret, hlk, rfl, hnm, rfl, rfl, hw⟩ := O
  subst hp
  intro T locs real X N S A L
  exact Done.step (fun t q => XS.aloadN X.here hx rfl (hb hby hd) (L.2.2 _ _ hl) rfl q) (k T locs real X N S A L)
theorem g_istore {j : Nat} {v : Int32} (O : Ok G K own bytes maxL ret R mn kc ks) (hd : decode bytes pc = .ok (.istore j, 2)) (hl : stor Ls j (.int v) = some Ls') (hp : pc + 2 = pc')
    (k : Run G K rv Hf pc' Ls' st H cells slots) : Run G K rv Hf pc Ls (.int v :: st) H cells slots := by
  obtain ⟨l, Z, a0, n⟩ := G; obtain ⟨p, e, R', s, m, args, below, meth, c, kc', ks'⟩ := K
  obtain ⟨hx, hZ, hown, hby, hml, hret, hlk, rfl, hnm, rfl, rfl, hw⟩ := O
  subst hp
  intro T locs real X N S A L
  obtain ⟨real', e1, L'⟩ := store_1 L rfl hl
  exact Done.step (fun t q => XS.istore X.here hx rfl (hb hby hd) rfl e1 q) (k T locs real' X N S A L')
theorem g_istore_n {j : Fin 4} {v : Int32} (O : Ok G K own bytes maxL ret R mn kc ks) (hd : decode bytes pc = .ok (.istore_n j, 1)) (hl : stor Ls j.val (.int v) = some Ls') (hp : pc + 1 = pc')
    (k : Run G K rv Hf pc' Ls' st H cells slots) : Run G K rv Hf pc Ls (.int v :: st) H cells slots := by
  obtain ⟨l, Z, a0, n⟩ := G; obtain ⟨p, e, R', s, m, args, below, meth, c, kc', ks'⟩ := K
  obtain ⟨hx, hZ, hown, hby, hml, hret, hlk, rfl, hnm, rfl, rfl, hw⟩ := O
  subst hp
  intro T locs real X N S A L
  obtain ⟨real', e1, L'⟩ := store_1 L rfl hl
  exact Done.step (fun t q => XS.istoreN X.here hx rfl (hb hby hd) rfl e1 q) (k T locs real' X N S A L')
theorem g_lstore {j : Nat} {v : Int64} (O : Ok G K own bytes maxL ret R mn kc ks) (hd : decode bytes pc = .ok (.lstore j, 2)) (hl : stor Ls j (.long v) = some Ls') (hp : pc + 2 = pc')
    (k : Run G K rv Hf pc' Ls' st H cells slots) : Run G K rv Hf pc Ls (.long v :: st) H cells slots := by
  obtain ⟨l, Z, a0, n⟩ := G; obtain ⟨p, e, R', s, m, args, below, meth, c, kc', ks'⟩ := K
  obtain ⟨hx, hZ, hown, hby, hml, hret, hlk, rfl, hnm, rfl, rfl, hw⟩ := O
  subst hp
  intro T locs real X N S A L
  obtain ⟨real', e1, L'⟩ := store_2 L rfl hl
  exact Done.step (fun t q => XT.lstore X.here hx rfl (hb hby hd) rfl e1 q) (k T locs real' X N S A L')
theorem g_lstore_n {j : Fin 4} {v : Int64} (O : Ok G K own bytes maxL ret R mn kc ks) (hd : decode bytes pc = .ok (.lstore_n j, 1)) (hl : stor Ls j.val (.long v) = some Ls') (hp : pc + 1 = pc')
    (k : Run G K rv Hf pc' Ls' st H cells slots) : Run G K rv Hf pc Ls (.long v :: st) H cells slots := by
  obtain ⟨l, Z, a0, n⟩ := G; obtain ⟨p, e, R', s, m, args, below, meth, c, kc', ks'⟩ := K
  obtain ⟨hx, hZ, hown, hby, hml, hret, hlk, rfl, hnm, rfl, rfl, hw⟩ := O
  subst hp
  intro T locs real X N S A L
  obtain ⟨real', e1, L'⟩ := store_2 L rfl hl
  exact Done.step (fun t q => XT.lstoreN X.here hx rfl (hb hby hd) rfl e1 q) (k T locs real' X N S A L')
theorem g_astore {j : Nat} {v : Nat} (O : Ok G K own bytes maxL ret R mn kc ks) (hd : decode bytes pc = .ok (.astore j, 2)) (hl : stor Ls j (.ref v) = some Ls') (hp : pc + 2 = pc')
    (k : Run G K rv Hf pc' Ls' st H cells slots) : Run G K rv Hf pc Ls (.ref v :: st) H cells slots := by
  obtain ⟨l, Z, a0, n⟩ := G; obtain ⟨p, e, R', s, m, args, below, meth, c, kc', ks'⟩ := K
  obtain ⟨hx, hZ, hown, hby, hml, hret, hlk, rfl, hnm, rfl, rfl, hw⟩ := O
  subst hp
  intro T locs real X N S A L
  obtain ⟨real', e1, L'⟩ := store_1 L rfl hl
  exact Done.step (fun t q => XS.astore X.here hx rfl (hb hby hd) rfl rfl e1 q) (k T locs real' X N S A L')
theorem g_astore_n {j : Fin 4} {v : Nat} (O : Ok G K own bytes maxL ret R mn kc ks) (hd : decode bytes pc = .ok (.astore_n j, 1)) (hl : stor Ls j.val (.ref v) = some Ls') (hp : pc + 1 = pc')
    (k : Run G K rv Hf pc' Ls' st H cells slots) : Run G K rv Hf pc Ls (.ref v :: st) H cells slots := by
  obtain ⟨l, Z, a0, n⟩ := G; obtain ⟨p, e, R', s, m, args, below, meth, c, kc', ks'⟩ := K
  obtain ⟨hx, hZ, hown, hby, hml, hret, hlk, rfl, hnm, rfl, rfl, hw⟩ := O
  subst hp
  intro T locs real X N S A L
  obtain ⟨real', e1, L'⟩ := store_1 L rfl hl
  exact Done.step (fun t q => XS.astoreN X.here hx rfl (hb hby hd) rfl rfl e1 q) (k T locs real' X N S A L')
theorem g_iinc {j : Nat} {i : Int} {v w : Int32} (O : Ok G K own bytes maxL ret R mn kc ks) (hd : decode bytes pc = .ok (.iinc j i, 3)) (hv : Int32.ofInt i = w) (hg : Ls[j]? = some (some (.int v))) (hl : stor Ls j (.int (v + w)) = some Ls') (hp : pc + 3 = pc')
    (k : Run G K rv Hf pc' Ls' st H cells slots) : Run G K rv Hf pc Ls st H cells slots := by
  obtain ⟨l, Z, a0, n⟩ := G; obtain ⟨p, e, R', s, m, args, below, meth, c, kc', ks'⟩ := K
  obtain ⟨hx, hZ, hown, hby, hml, hret, hlk, rfl, hnm, rfl, rfl, hw⟩ := O
  subst hp
  intro T locs real X N S A L
  obtain ⟨real', e1, L'⟩ := store_1 L rfl hl
  exact Done.step (fun t q => XT.iincV X.here hx rfl w (hb hby hd) hv (L.2.2 _ _ hg) e1 q) (k T locs real' X N S A L')
theorem g_goto {o : Int} (O : Ok G K own bytes maxL ret R mn kc ks) (hd : decode bytes pc = .ok (.goto o, 3)) (ho : 0 ≤ (pc : Int) + o) (hp : ((pc : Int) + o).toNat = pc')
    (k : Run G K rv Hf pc' Ls st H cells slots) : Run G K rv Hf pc Ls st H cells slots := by
  obtain ⟨l, Z, a0, n⟩ := G; obtain ⟨p, e, R', s, m, args, below, meth, c, kc', ks'⟩ := K
  obtain ⟨hx, hZ, hown, hby, hml, hret, hlk, rfl, hnm, rfl, rfl, hw⟩ := O
  intro T locs real X N S A L
  exact Done.step (fun t q => XS.goto X.here hx rfl (pc0 := pc) rfl (hb hby hd) ho hp q) (k T locs real X N S A L)
theorem g_icmp_eq {x y : Int32} {o : Int} {pc1 : Nat} (O : Ok G K own bytes maxL ret R mn kc ks) (hd : decode bytes pc = .ok (.if_icmp .eq o, 3)) (hp : pc + 3 = pc') (ho : 0 ≤ (pc : Int) + o) (ht : ((pc : Int) + o).toNat = pc1)
    (kt : x = y → Run G K rv Hf pc1 Ls st H cells slots) (kf : ¬ x = y → Run G K rv Hf pc' Ls st H cells slots) : Run G K rv Hf pc Ls (.int y :: .int x :: st) H cells slots := by
  obtain ⟨l, Z, a0, n⟩ := G; obtain ⟨p, e, R', s, m, args, below, meth, c, kc', ks'⟩ := K
  obtain ⟨hx, hZ, hown, hby, hml, hret, hlk, rfl, hnm, rfl, rfl, hw⟩ := O
  subst hp
  intro T locs real X N S A L
  by_cases h : x = y
  · exact Done.step (fun t q => XS.icmpYes X.here hx rfl (pc0 := pc) rfl (hb hby hd) rfl (XT.ii_eq_t h) ho ht q) (kt h T locs real X N S A L)
  · exact Done.step (fun t q => XS.icmpNo X.here hx rfl (hb hby hd) rfl (XT.ii_eq_f h) q) (kf h T locs real X N S A L)
theorem g_if_eq {x : Int32} {o : Int} {pc1 : Nat} (O : Ok G K own bytes maxL ret R mn kc ks) (hd : decode bytes pc = .ok (.ifCond .eq o, 3)) (hp : pc + 3 = pc') (ho : 0 ≤ (pc : Int) + o) (ht : ((pc : Int) + o).toNat = pc1)
    (kt : x = 0 → Run G K rv Hf pc1 Ls st H cells slots) (kf : ¬ x = 0 → Run G K rv Hf pc' Ls st H cells slots) : Run G K rv Hf pc Ls (.int x :: st) H cells slots := by
  obtain ⟨l, Z, a0, n⟩ := G; obtain ⟨p, e, R', s, m, args, below, meth, c, kc', ks'⟩ := K
  obtain ⟨hx, hZ, hown, hby, hml, hret, hlk, rfl, hnm, rfl, rfl, hw⟩ := O
  subst hp
  intro T locs real X N S A L
  by_cases h : x = 0
  · exact Done.step (fun t q => XS.ifYes X.here hx rfl (pc0 := pc) rfl (hb hby hd) rfl (XT.i0_eq_t h) ho ht q) (kt h T locs real X N S A L)
  · exact Done.step (fun t q => XS.ifNo X.here hx rfl (hb hby hd) rfl (XT.i0_eq_f h) q) (kf h T locs real X N S A L)
theorem g_lcmp_eq {x y : Int64} {pq : Nat} {o : Int} {pc1 : Nat} (O : Ok G K own bytes maxL ret R mn kc ks) (hd0 : decode bytes pc = .ok (.lcmp, 1)) (hq : pc + 1 = pq) (hd : decode bytes pq = .ok (.ifCond .eq o, 3)) (hp : pq + 3 = pc') (ho : 0 ≤ (pq : Int) + o) (ht : ((pq : Int) + o).toNat = pc1)
    (kt : x = y → Run G K rv Hf pc1 Ls st H cells slots) (kf : ¬ x = y → Run G K rv Hf pc' Ls st H cells slots) : Run G K rv Hf pc Ls (.long y :: .long x :: st) H cells slots := by
  obtain ⟨l, Z, a0, n⟩ := G; obtain ⟨p, e, R', s, m, args, below, meth, c, kc', ks'⟩ := K
  obtain ⟨hx, hZ, hown, hby, hml, hret, hlk, rfl, hnm, rfl, rfl, hw⟩ := O
  subst hq
  subst hp
  intro T locs real X N S A L
  by_cases h : x = y
  · exact Done.step (fun t q => XT.lcmp X.here hx rfl (hb hby hd0) rfl (XS.ifYes X.here hx rfl (pc0 := pc + 1) rfl (hb hby hd) rfl (XT.ll_eq_t h) ho ht q)) (kt h T locs real X N S A L)
  · exact Done.step (fun t q => XT.lcmp X.here hx rfl (hb hby hd0) rfl (XS.ifNo X.here hx rfl (hb hby hd) rfl (XT.ll_eq_f h) q)) (kf h T locs real X N S A L)
theorem g_icmp_ne {x y : Int32} {o : Int} {pc1 : Nat} (O : Ok G K own bytes maxL ret R mn kc ks) (hd : decode bytes pc = .ok (.if_icmp .ne o, 3)) (hp : pc + 3 = pc') (ho : 0 ≤ (pc : Int) + o) (ht : ((pc : Int) + o).toNat = pc1)
    (kt : ¬ x = y → Run G K rv Hf pc1 Ls st H cells slots) (kf : x = y → Run G K rv Hf pc' Ls st H cells slots) : Run G K rv Hf pc Ls (.int y :: .int x :: st) H cells slots := by
  obtain ⟨l, Z, a0, n⟩ := G; obtain ⟨p, e, R', s, m, args, below, meth, c, kc', ks'⟩ := K
  obtain ⟨hx, hZ, hown, hby, hml, hret, hlk, rfl, hnm, rfl, rfl, hw⟩ := O
  subst hp
  intro T locs real X N S A L
  by_cases h : x = y
  · exact Done.step (fun t q => XS.icmpNo X.here hx rfl (hb hby hd) rfl (XT.ii_ne_f h) q) (kf h T locs real X N S A L)
  · exact Done.step (fun t q => XS.icmpYes X.here hx rfl (pc0 := pc) rfl (hb hby hd) rfl (XT.ii_ne_t h) ho ht q) (kt h T locs real X N S A L)
theorem g_if_ne {x : Int32} {o : Int} {pc1 : Nat} (O : Ok G K own bytes maxL ret R mn kc ks) (hd : decode bytes pc = .ok (.ifCond .ne o, 3)) (hp : pc + 3 = pc') (ho : 0 ≤ (pc : Int) + o) (ht : ((pc : Int) + o).toNat = pc1)
    (kt : ¬ x = 0 → Run G K rv Hf pc1 Ls st H cells slots) (kf : x = 0 → Run G K rv Hf pc' Ls st H cells slots) : Run G K rv Hf pc Ls (.int x :: st) H cells slots := by
  obtain ⟨l, Z, a0, n⟩ := G; obtain ⟨p, e, R', s, m, args, below, meth, c, kc', ks'⟩ := K
  obtain ⟨hx, hZ, hown, hby, hml, hret, hlk, rfl, hnm, rfl, rfl, hw⟩ := O
  subst hp
  intro T locs real X N S A L
  by_cases h : x = 0
  · exact Done.step (fun t q => XS.ifNo X.here hx rfl (hb hby hd) rfl (XT.i0_ne_f h) q) (kf h T locs real X N S A L)
  · exact Done.step (fun t q => XS.ifYes X.here hx rfl (pc0 := pc) rfl (hb hby hd) rfl (XT.i0_ne_t h) ho ht q) (kt h T locs real X N S A L)
theorem g_lcmp_ne {x y : Int64} {pq : Nat} {o : Int} {pc1 : Nat} (O : Ok G K own bytes maxL ret R mn kc ks) (hd0 : decode bytes pc = .ok (.lcmp, 1)) (hq : pc + 1 = pq) (hd : decode bytes pq = .ok (.ifCond .ne o, 3)) (hp : pq + 3 = pc') (ho : 0 ≤ (pq : Int) + o) (ht : ((pq : Int) + o).toNat = pc1)
    (kt : ¬ x = y → Run G K rv Hf pc1 Ls st H cells slots) (kf : x = y → Run G K rv Hf pc' Ls st H cells slots) : Run G K rv Hf pc Ls (.long y :: .long x :: st) H cells slots := by
  obtain ⟨l, Z, a0, n⟩ := G; obtain ⟨p, e, R', s, m, args, below, meth, c, kc', ks'⟩ := K
  obtain ⟨hx, hZ, hown, hby, hml, hret, hlk, rfl, hnm, rfl, rfl, hw⟩ := O
  subst hq
  subst hp
  intro T locs real X N S A L
  by_cases h : x = y
  · exact Done.step (fun t q => XT.lcmp X.here hx rfl (hb hby hd0) rfl (XS.ifNo X.here hx rfl (hb hby hd) rfl (XT.ll_ne_f h) q)) (kf h T locs real X N S A L)
  · exact Done.step (fun t q => XT.lcmp X.here hx rfl (hb hby hd0) rfl (XS.ifYes X.here hx rfl (pc0 := pc + 1) rfl (hb hby hd) rfl (XT.ll_ne_t h) ho ht q)) (kt h T locs real X N S A L)
theorem g_icmp_lt {x y : Int32} {o : Int} {pc1 : Nat} (O : Ok G K own bytes maxL ret R mn kc ks) (hd : decode bytes pc = .ok (.if_icmp .lt o, 3)) (hp : pc + 3 = pc') (ho : 0 ≤ (pc : Int) + o) (ht : ((pc : Int) + o).toNat = pc1)
    (kt : x < y → Run G K rv Hf pc1 Ls st H cells slots) (kf : ¬ x < y → Run G K rv Hf pc' Ls st H cells slots) : Run G K rv Hf pc Ls (.int y :: .int x :: st) H cells slots := by
  obtain ⟨l, Z, a0, n⟩ := G; obtain ⟨p, e, R', s, m, args, below, meth, c, kc', ks'⟩ := K
  obtain ⟨hx, hZ, hown, hby, hml, hret, hlk, rfl, hnm, rfl, rfl, hw⟩ := O
  subst hp
  intro T locs real X N S A L
  by_cases h : x < y
  · exact Done.step (fun t q => XS.icmpYes X.here hx rfl (pc0 := pc) rfl (hb hby hd) rfl (XT.ii_lt_t h) ho ht q) (kt h T locs real X N S A L)
  · exact Done.step (fun t q => XS.icmpNo X.here hx rfl (hb hby hd) rfl (XT.ii_lt_f h) q) (kf h T locs real X N S A L)
theorem g_if_lt {x : Int32} {o : Int} {pc1 : Nat} (O : Ok G K own bytes maxL ret R mn kc ks) (hd : decode bytes pc = .ok (.ifCond .lt o, 3)) (hp : pc + 3 = pc') (ho : 0 ≤ (pc : Int) + o) (ht : ((pc : Int) + o).toNat = pc1)
    (kt : x < 0 → Run G K rv Hf pc1 Ls st H cells slots) (kf : ¬ x < 0 → Run G K rv Hf pc' Ls st H cells slots) : Run G K rv Hf pc Ls (.int x :: st) H cells slots := by
  obtain ⟨l, Z, a0, n⟩ := G; obtain ⟨p, e, R', s, m, args, below, meth, c, kc', ks'⟩ := K
  obtain ⟨hx, hZ, hown, hby, hml, hret, hlk, rfl, hnm, rfl, rfl, hw⟩ := O
  subst hp
  intro T locs real X N S A L
  by_cases h : x < 0
  · exact Done.step (fun t q => XS.ifYes X.here hx rfl (pc0 := pc) rfl (hb hby hd) rfl (XT.i0_lt_t h) ho ht q) (kt h T locs real X N S A L)
  · exact Done.step (fun t q => XS.ifNo X.here hx rfl (hb hby hd) rfl (XT.i0_lt_f h) q) (kf h T locs real X N S A L)
theorem g_lcmp_lt {x y : Int64} {pq : Nat} {o : Int} {pc1 : Nat} (O : Ok G K own bytes maxL ret R mn kc ks) (hd0 : decode bytes pc = .ok (.lcmp, 1)) (hq : pc + 1 = pq) (hd : decode bytes pq = .ok (.ifCond .lt o, 3)) (hp : pq + 3 = pc') (ho : 0 ≤ (pq : Int) + o) (ht : ((pq : Int) + o).toNat = pc1)
    (kt : x < y → Run G K rv Hf pc1 Ls st H cells slots) (kf : ¬ x < y → Run G K rv Hf pc' Ls st H cells slots) : Run G K rv Hf pc Ls (.long y :: .long x :: st) H cells slots := by
  obtain ⟨l, Z, a0, n⟩ := G; obtain ⟨p, e, R', s, m, args, below, meth, c, kc', ks'⟩ := K
  obtain ⟨hx, hZ, hown, hby, hml, hret, hlk, rfl, hnm, rfl, rfl, hw⟩ := O
  subst hq
  subst hp
  intro T locs real X N S A L
  by_cases h : x < y
  · exact Done.step (fun t q => XT.lcmp X.here hx rfl (hb hby hd0) rfl (XS.ifYes X.here hx rfl (pc0 := pc + 1) rfl (hb hby hd) rfl (XT.ll_lt_t h) ho ht q)) (kt h T locs real X N S A L)
  · exact Done.step (fun t q => XT.lcmp X.here hx rfl (hb hby hd0) rfl (XS.ifNo X.here hx rfl (hb hby hd) rfl (XT.ll_lt_f h) q)) (kf h T locs real X N S A L)
theorem g_icmp_ge {x y : Int32} {o : Int} {pc1 : Nat} (O : Ok G K own bytes maxL ret R mn kc ks) (hd : decode bytes pc = .ok (.if_icmp .ge o, 3)) (hp : pc + 3 = pc') (ho : 0 ≤ (pc : Int) + o) (ht : ((pc : Int) + o).toNat = pc1)
    (kt : ¬ x < y → Run G K rv Hf pc1 Ls st H cells slots) (kf : x < y → Run G K rv Hf pc' Ls st H cells slots) : Run G K rv Hf pc Ls (.int y :: .int x :: st) H cells slots := by
  obtain ⟨l, Z, a0, n⟩ := G; obtain ⟨p, e, R', s, m, args, below, meth, c, kc', ks'⟩ := K
  obtain ⟨hx, hZ, hown, hby, hml, hret, hlk, rfl, hnm, rfl, rfl, hw⟩ := O
  subst hp
  intro T locs real X N S A L
  by_cases h : x < y
  · exact Done.step (fun t q => XS.icmpNo X.here hx rfl (hb hby hd) rfl (XT.ii_ge_f h) q) (kf h T locs real X N S A L)
  · exact Done.step (fun t q => XS.icmpYes X.here hx rfl (pc0 := pc) rfl (hb hby hd) rfl (XT.ii_ge_t h) ho ht q) (kt h T locs real X N S A L)
theorem g_if_ge {x : Int32} {o : Int} {pc1 : Nat} (O : Ok G K own bytes maxL ret R mn kc ks) (hd : decode bytes pc = .ok (.ifCond .ge o, 3)) (hp : pc + 3 = pc') (ho : 0 ≤ (pc : Int) + o) (ht : ((pc : Int) + o).toNat = pc1)
    (kt : ¬ x < 0 → Run G K rv Hf pc1 Ls st H cells slots) (kf : x < 0 → Run G K rv Hf pc' Ls st H cells slots) : Run G K rv Hf pc Ls (.int x :: st) H cells slots := by
  obtain ⟨l, Z, a0, n⟩ := G; obtain ⟨p, e, R', s, m, args, below, meth, c, kc', ks'⟩ := K
  obtain ⟨hx, hZ, hown, hby, hml, hret, hlk, rfl, hnm, rfl, rfl, hw⟩ := O
  subst hp
  intro T locs real X N S A L
  by_cases h : x < 0
  · exact Done.step (fun t q => XS.ifNo X.here hx rfl (hb hby hd) rfl (XT.i0_ge_f h) q) (kf h T locs real X N S A L)
  · exact Done.step (fun t q => XS.ifYes X.here hx rfl (pc0 := pc) rfl (hb hby hd) rfl (XT.i0_ge_t h) ho ht q) (kt h T locs real X N S A L)
theorem g_lcmp_ge {x y : Int64} {pq : Nat} {o : Int} {pc1 : Nat} (O : Ok G K own bytes maxL ret R mn kc ks) (hd0 : decode bytes pc = .ok (.lcmp, 1)) (hq : pc + 1 = pq) (hd : decode bytes pq = .ok (.ifCond .ge o, 3)) (hp : pq + 3 = pc') (ho : 0 ≤ (pq : Int) + o) (ht : ((pq : Int) + o).toNat = pc1)
    (kt : ¬ x < y → Run G K rv Hf pc1 Ls st H cells slots) (kf : x < y → Run G K rv Hf pc' Ls st H cells slots) : Run G K rv Hf pc Ls (.long y :: .long x :: st) H cells slots := by
  obtain ⟨l, Z, a0, n⟩ := G; obtain ⟨p, e, R', s, m, args, below, meth, c, kc', ks'⟩ := K
  obtain ⟨hx, hZ, hown, hby, hml, hret, hlk, rfl, hnm, rfl, rfl, hw⟩ := O
  subst hq
  subst hp
  intro T locs real X N S A L
  by_cases h : x < y
  · exact Done.step (fun t q => XT.lcmp X.here hx rfl (hb hby hd0) rfl (XS.ifNo X.here hx rfl (hb hby hd) rfl (XT.ll_ge_f h) q)) (kf h T locs real X N S A L)
  · exact Done.step (fun t q => XT.lcmp X.here hx rfl (hb hby hd0) rfl (XS.ifYes X.here hx rfl (pc0 := pc + 1) rfl (hb hby hd) rfl (XT.ll_ge_t h) ho ht q)) (kt h T locs real X N S A L)
theorem g_icmp_gt {x y : Int32} {o : Int} {pc1 : Nat} (O : Ok G K own bytes maxL ret R mn kc ks) (hd : decode bytes pc = .ok (.if_icmp .gt o, 3)) (hp : pc + 3 = pc') (ho : 0 ≤ (pc : Int) + o) (ht : ((pc : Int) + o).toNat = pc1)
    (kt : y < x → Run G K rv Hf pc1 Ls st H cells slots) (kf : ¬ y < x → Run G K rv Hf pc' Ls st H cells slots) : Run G K rv Hf pc Ls (.int y :: .int x :: st) H cells slots := by
  obtain ⟨l, Z, a0, n⟩ := G; obtain ⟨p, e, R', s, m, args, below, meth, c, kc', ks'⟩ := K
  obtain ⟨hx, hZ, hown, hby, hml, hret, hlk, rfl, hnm, rfl, rfl, hw⟩ := O
  subst hp
  intro T locs real X N S A L
  by_cases h : y < x
  · exact Done.step (fun t q => XS.icmpYes X.here hx rfl (pc0 := pc) rfl (hb hby hd) rfl (XT.ii_gt_t h) ho ht q) (kt h T locs real X N S A L)
  · exact Done.step (fun t q => XS.icmpNo X.here hx rfl (hb hby hd) rfl (XT.ii_gt_f h) q) (kf h T locs real X N S A L)
theorem g_if_gt {x : Int32} {o : Int} {pc1 : Nat} (O : Ok G K own bytes maxL ret R mn kc ks) (hd : decode bytes pc = .ok (.ifCond .gt o, 3)) (hp : pc + 3 = pc') (ho : 0 ≤ (pc : Int) + o) (ht : ((pc : Int) + o).toNat = pc1)
    (kt : 0 < x → Run G K rv Hf pc1 Ls st H cells slots) (kf : ¬ 0 < x → Run G K rv Hf pc' Ls st H cells slots) : Run G K rv Hf pc Ls (.int x :: st) H cells slots := by
  obtain ⟨l, Z, a0, n⟩ := G; obtain ⟨p, e, R', s, m, args, below, meth, c, kc', ks'⟩ := K
  obtain ⟨hx, hZ, hown, hby, hml, hret, hlk, rfl, hnm, rfl, rfl, hw⟩ := O
  subst hp
  intro T locs real X N S A L
  by_cases h : 0 < x
  · exact Done.step (fun t q => XS.ifYes X.here hx rfl (pc0 := pc) rfl (hb hby hd) rfl (XT.i0_gt_t h) ho ht q) (kt h T locs real X N S A L)
  · exact Done.step (fun t q => XS.ifNo X.here hx rfl (hb hby hd) rfl (XT.i0_gt_f h) q) (kf h T locs real X N S A L)
theorem g_lcmp_gt {x y : Int64} {pq : Nat} {o : Int} {pc1 : Nat} (O : Ok G K own bytes maxL ret R mn kc ks) (hd0 : decode bytes pc = .ok (.lcmp, 1)) (hq : pc + 1 = pq) (hd : decode bytes pq = .ok (.ifCond .gt o, 3)) (hp : pq + 3 = pc') (ho : 0 ≤ (pq : Int) + o) (ht : ((pq : Int) + o).toNat = pc1)
    (kt : y < x → Run G K rv Hf pc1 Ls st H cells slots) (kf : ¬ y < x → Run G K rv Hf pc' Ls st H cells slots) : Run G K rv Hf pc Ls (.long y :: .long x :: st) H cells slots := by
  obtain ⟨l, Z, a0, n⟩ := G; obtain ⟨p, e, R', s, m, args, below, meth, c, kc', ks'⟩ := K
  obtain ⟨hx, hZ, hown, hby, hml, hret, hlk, rfl, hnm, rfl, rfl, hw⟩ := O
  subst hq
  subst hp
  intro T locs real X N S A L
  by_cases h : y < x
  · exact Done.step (fun t q => XT.lcmp X.here hx rfl (hb hby hd0) rfl (XS.ifYes X.here hx rfl (pc0 := pc + 1) rfl (hb hby hd) rfl (XT.ll_gt_t h) ho ht q)) (kt h T locs real X N S A L)
  · exact Done.step (fun t q => XT.lcmp X.here hx rfl (hb hby hd0) rfl (XS.ifNo X.here hx rfl (hb hby hd) rfl (XT.ll_gt_f h) q)) (kf h T locs real X N S A L)
theorem g_icmp_le {x y : Int32} {o : Int} {pc1 : Nat} (O : Ok G K own bytes maxL ret R mn kc ks) (hd : decode bytes pc = .ok (.if_icmp .le o, 3)) (hp : pc + 3 = pc') (ho : 0 ≤ (pc : Int) + o) (ht : ((pc : Int) + o).toNat = pc1)
    (kt : ¬ y < x → Run G K rv Hf pc1 Ls st H cells slots) (kf : y < x → Run G K rv Hf pc' Ls st H cells slots) : Run G K rv Hf pc Ls (.int y :: .int x :: st) H cells slots := by
  obtain ⟨l, Z, a0, n⟩ := G; obtain ⟨p, e, R', s, m, args, below, meth, c, kc', ks'⟩ := K
  obtain ⟨hx, hZ, hown, hby, hml, hret, hlk, rfl, hnm, rfl, rfl, hw⟩ := O
  subst hp
  intro T locs real X N S A L
  by_cases h : y < x
  · exact Done.step (fun t q => XS.icmpNo X.here hx rfl (hb hby hd) rfl (XT.ii_le_f h) q) (kf h T locs real X N S A L)
  · exact Done.step (fun t q => XS.icmpYes X.here hx rfl (pc0 := pc) rfl (hb hby hd) rfl (XT.ii_le_t h) ho ht q) (kt h T locs real X N S A L)
theorem g_if_le {x : Int32} {o : Int} {pc1 : Nat} (O : Ok G K own bytes maxL ret R mn kc ks) (hd : decode bytes pc = .ok (.ifCond .le o, 3)) (hp : pc + 3 = pc') (ho : 0 ≤ (pc : Int) + o) (ht : ((pc : Int) + o).toNat = pc1)
    (kt : ¬ 0 < x → Run G K rv Hf pc1 Ls st H cells slots) (kf : 0 < x → Run G K rv Hf pc' Ls st H cells slots) : Run G K rv Hf pc Ls (.int x :: st) H cells slots := by
  obtain ⟨l, Z, a0, n⟩ := G; obtain ⟨p, e, R', s, m, args, below, meth, c, kc', ks'⟩ := K
  obtain ⟨hx, hZ, hown, hby, hml, hret, hlk, rfl, hnm, rfl, rfl, hw⟩ := O
  subst hp
  intro T locs real X N S A L
  by_cases h : 0 < x
  · exact Done.step (fun t q => XS.ifNo X.here hx rfl (hb hby hd) rfl (XT.i0_le_f h) q) (kf h T locs real X N S A L)
  · exact Done.step (fun t q => XS.ifYes X.here hx rfl (pc0 := pc) rfl (hb hby hd) rfl (XT.i0_le_t h) ho ht q) (kt h T locs real X N S A L)
theorem g_lcmp_le {x y : Int64} {pq : Nat} {o : Int} {pc1 : Nat} (O : Ok G K own bytes maxL ret R mn kc ks) (hd0 : decode bytes pc = .ok (.lcmp, 1)) (hq : pc + 1 = pq) (hd : decode bytes pq = .ok (.ifCond .le o, 3)) (hp : pq + 3 = pc') (ho : 0 ≤ (pq : Int) + o) (ht : ((pq : Int) + o).toNat = pc1)
    (kt : ¬ y < x → Run G K rv Hf pc1 Ls st H cells slots) (kf : y < x → Run G K rv Hf pc' Ls st H cells slots) : Run G K rv Hf pc Ls (.long y :: .long x :: st) H cells slots := by
  obtain ⟨l, Z, a0, n⟩ := G; obtain ⟨p, e, R', s, m, args, below, meth, c, kc', ks'⟩ := K
  obtain ⟨hx, hZ, hown, hby, hml, hret, hlk, rfl, hnm, rfl, rfl, hw⟩ := O
  subst hq
  subst hp
  intro T locs real X N S A L
  by_cases h : y < x
  · exact Done.step (fun t q => XT.lcmp X.here hx rfl (hb hby hd0) rfl (XS.ifNo X.here hx rfl (hb hby hd) rfl (XT.ll_le_f h) q)) (kf h T locs real X N S A L)
  · exact Done.step (fun t q => XT.lcmp X.here hx rfl (hb hby hd0) rfl (XS.ifYes X.here hx rfl (pc0 := pc + 1) rfl (hb hby hd) rfl (XT.ll_le_t h) ho ht q)) (kt h T locs real X N S A L)
/-! reading and writing the heap, in the model -/
def arr (ty : FieldType) (H : List Obj) (i : Nat) : Option (List Value) := match H[i]? with
  | some (.inl (t, vs)) => if t = ty then some vs else none
  | _ => none
def rd (ty : FieldType) (H : List Obj) (i : Nat) (j : Int32) : Option Value := (arr ty H i).bind fun vs => if j < 0 then none else vs[j.toNatClampNeg]?
def getI : Value → Option Int32
  | .int x => some x
  | _ => none
def getJ : Value → Option Int64
  | .long x => some x
  | _ => none
def getA : Value → Option Nat
  | .ref x => some x
  | _ => none
def rdI (ty : FieldType) (H : List Obj) (i : Nat) (j : Int32) : Option Int32 := (rd ty H i j).bind getI
def rdJ (H : List Obj) (i : Nat) (j : Int32) : Option Int64 := (rd .long H i j).bind getJ
def wr (ty : FieldType) (H : List Obj) (i : Nat) (j : Int32) (v : Value) : Option (List Obj) := (arr ty H i).bind fun vs => if j < 0 ∨ vs.length ≤ j.toNatClampNeg then none else some (H.set i (.inl (ty, vs.set j.toNatClampNeg v)))
def alen (H : List Obj) (i : Nat) : Option Int32 := match H[i]? with
  | some (.inl (_, vs)) => some vs.length.toInt32
  | _ => none
def mkArr (ty : FieldType) (cap : Nat) (H : List Obj) (j : Int32) : Option (List Obj) := if j < 0 ∨ cap < j.toNatClampNeg then none else some (H ++ [.inl (ty, List.replicate j.toNatClampNeg (defaultValue ty))])
def obj (t : Nat) (H : List Obj) (i : Nat) : Option (List Value) := match H[i]? with
  | some (.inr (t', vs)) => if t' = t then some vs else none
  | _ => none
def fld (t k : Nat) (H : List Obj) (i : Nat) : Option Value := (obj t H i).bind fun vs => vs[k]?
def fldI (t k : Nat) (H : List Obj) (i : Nat) : Option Int32 := (fld t k H i).bind getI
def fldJ (t k : Nat) (H : List Obj) (i : Nat) : Option Int64 := (fld t k H i).bind getJ
def fldA (t k : Nat) (H : List Obj) (i : Nat) : Option Nat := (fld t k H i).bind getA
def setF (t k : Nat) (H : List Obj) (i : Nat) (v : Value) : Option (List Obj) := (obj t H i).bind fun vs => if k < vs.length then some (H.set i (.inr (t, vs.set k v))) else none
theorem getI_e {v : Value} {x : Int32} (h : getI v = some x) : v = .int x := by cases v <;> simp [getI] at h; rw [h]
theorem getJ_e {v : Value} {x : Int64} (h : getJ v = some x) : v = .long x := by cases v <;> simp [getJ] at h; rw [h]
theorem getA_e {v : Value} {x : Nat} (h : getA v = some x) : v = .ref x := by cases v <;> simp [getA] at h; rw [h]
theorem rdI_e {ty : FieldType} {i : Nat} {j x : Int32} (h : rdI ty H i j = some x) : rd ty H i j = some (.int x) := by
  obtain ⟨v, h1, h2⟩ := Option.bind_eq_some_iff.mp h; rw [h1, getI_e h2]
theorem rdJ_e {i : Nat} {j : Int32} {x : Int64} (h : rdJ H i j = some x) : rd .long H i j = some (.long x) := by
  obtain ⟨v, h1, h2⟩ := Option.bind_eq_some_iff.mp h; rw [h1, getJ_e h2]
theorem fldI_e {t k i : Nat} {x : Int32} (h : fldI t k H i = some x) : fld t k H i = some (.int x) := by
  obtain ⟨v, h1, h2⟩ := Option.bind_eq_some_iff.mp h; rw [h1, getI_e h2]
theorem fldJ_e {t k i : Nat} {x : Int64} (h : fldJ t k H i = some x) : fld t k H i = some (.long x) := by
  obtain ⟨v, h1, h2⟩ := Option.bind_eq_some_iff.mp h; rw [h1, getJ_e h2]
theorem fldA_e {t k i x : Nat} (h : fldA t k H i = some x) : fld t k H i = some (.ref x) := by
  obtain ⟨v, h1, h2⟩ := Option.bind_eq_some_iff.mp h; rw [h1, getA_e h2]
theorem arr_e {ty : FieldType} {i : Nat} {vs : List Value} (h : arr ty H i = some vs) : H[i]? = some (.inl (ty, vs)) := by
  unfold arr at h; split at h
  · rename_i t us hh; split at h
    · rename_i e; cases h; rw [hh, e]
    · cases h
  · cases h
theorem obj_e {t i : Nat} {vs : List Value} (h : obj t H i = some vs) : H[i]? = some (.inr (t, vs)) := by
  unfold obj at h; split at h
  · rename_i t us hh; split at h
    · rename_i e; cases h; rw [hh, e]
    · cases h
  · cases h
theorem sim_arr {h : Heap} {ty : FieldType} {i : Nat} {vs : List Value} (S : Sim G H h) (e : arr ty H i = some vs) : ∃ c : Cell, Arr G.2.1 h (G.2.2.2 + i) c ty ∧ c.slots = (vs.map (sh G.2.2.2)).toArray := (S.2 i _ (arr_e e)).2
theorem sim_obj {h : Heap} {t i : Nat} {vs : List Value} (S : Sim G H h) (e : obj t H i = some vs) : Exa G.2.1 h (G.2.2.2 + i) (lay t).1 ∧ vs.length = (lay t).2.length ∧ ∀ (k : Nat) (nd : String × String) (v : Value), (lay t).2[k]? = some nd → vs[k]? = some v → Fld G.2.1 h (G.2.2.2 + i) (lay t).1 nd.1 nd.2 (sh G.2.2.2 v) := S.2 i _ (obj_e e)
theorem sim_ext {h h' : Heap} {o : Obj} (S : Sim G H h) (E : Ext h h') (hs : h'.size = h.size + 1) (ho : ObjOk G.2.1 G.2.2.2 h' h.size o) : Sim G (H ++ [o]) h' := by
  refine ⟨by rw [hs, S.1, List.length_append]; rfl, fun i q hq => ?_⟩
  by_cases hi : i < H.length
  · rw [List.getElem?_append_left hi] at hq
    have r := S.2 i q hq
    rcases q with ⟨ty, vs⟩ | ⟨t, vs⟩
    · obtain ⟨X, c, A, r⟩ := r; exact ⟨X.ext E, c, A.ext E, r⟩
    · obtain ⟨X, l, F⟩ := r; exact ⟨X.ext E, l, fun k nd v h1 h2 => (F k nd v h1 h2).ext E⟩
  · rw [List.getElem?_append_right (Nat.le_of_not_lt hi)] at hq
    have : i - H.length = 0 := by
      have := (List.getElem?_eq_some_iff.mp hq).1; simp at this; omega
    rw [this] at hq
    cases hq
    have : G.2.2.2 + i = h.size := by rw [S.1]; have := Nat.le_of_not_lt hi; omega
    rw [this]; exact ho
theorem sim_wr {h h' : Heap} {ty : FieldType} {i j : Nat} {vs : List Value} {v : Value} (S : Sim G H h) (e : arr ty H i = some vs) (W : Wr h h' (G.2.2.2 + i) j (sh G.2.2.2 v)) : Sim G (H.set i (.inl (ty, vs.set j v))) h' := by
  refine ⟨by rw [W.size, S.1, List.length_set], fun i' q hq => ?_⟩
  have hlt := (List.getElem?_eq_some_iff.mp (arr_e e)).1
  by_cases hi : i = i'
  · subst hi
    rw [List.getElem?_set_self hlt] at hq
    cases hq
    obtain ⟨X, c, A, r⟩ := S.2 i _ (arr_e e)
    exact ⟨X.wr W, _, A.same W, by simp [Cell.setSlot, r, List.map_set]⟩
  · rw [List.getElem?_set_ne hi] at hq
    have r := S.2 i' q hq
    have ne : G.2.2.2 + i' ≠ G.2.2.2 + i := by omega
    rcases q with ⟨ty, vs⟩ | ⟨t, vs⟩
    · obtain ⟨X, c, A, r⟩ := r; exact ⟨X.wr W, c, A.other W ne, r⟩
    · obtain ⟨X, l, F⟩ := r; exact ⟨X.wr W, l, fun k nd v h1 h2 => (F k nd v h1 h2).other W (Or.inl ne)⟩
theorem lay_slot {Z : State} {a0 : Array Value} (hw : ∀ d ∈ tables_1, d.before a0 Z = true) {t k k' : Nat} {nd nd' : String × String} (h1 : (lay t).2[k]? = some nd) (h2 : (lay t).2[k']? = some nd') (ne : k ≠ k') : Jvm.RoadKit.slotOf Z (lay t).1 nd.1 nd.2 ≠ Jvm.RoadKit.slotOf Z (lay t).1 nd'.1 nd'.2 := by
  obtain ⟨t1, p1⟩ := lay_parse t nd (List.mem_of_getElem? h1)
  obtain ⟨t2, p2⟩ := lay_parse t nd' (List.mem_of_getElem? h2)
  exact slot_ne (C := (lay t).1) (a0 := a0) ((lay_word t nd (List.mem_of_getElem? h1)).imp (hw _) (hw _)) ((lay_word t nd' (List.mem_of_getElem? h2)).imp (hw _) (hw _)) (lay_names t k k' nd nd' h1 h2 ne) p1 p2
theorem sim_put {h h' : Heap} {t i k : Nat} {nd : String × String} {vs : List Value} {v : Value} (hw : ∀ d ∈ tables_1, d.before G.2.2.1 G.2.1 = true) (S : Sim G H h) (e : obj t H i = some vs) (hk : (lay t).2[k]? = some nd) (W : Wr h h' (G.2.2.2 + i) (Jvm.RoadKit.slotOf G.2.1 (lay t).1 nd.1 nd.2) (sh G.2.2.2 v)) : Sim G (H.set i (.inr (t, vs.set k v))) h' := by
  refine ⟨by rw [W.size, S.1, List.length_set], fun i' q hq => ?_⟩
  have hlt := (List.getElem?_eq_some_iff.mp (obj_e e)).1
  by_cases hi : i = i'
  · subst hi
    rw [List.getElem?_set_self hlt] at hq
    cases hq
    obtain ⟨X, l, F⟩ := S.2 i _ (obj_e e)
    refine ⟨X.wr W, by rw [List.length_set]; exact l, fun k' nd' v' h1 h2 => ?_⟩
    have hkl : k < vs.length := by rw [l]; exact (List.getElem?_eq_some_iff.mp hk).1
    by_cases ek : k = k'
    · subst ek
      rw [List.getElem?_set_self hkl] at h2
      cases h2
      cases hk.symm.trans h1
      exact (F k nd _ hk (List.getElem?_eq_getElem hkl)).same W
    · rw [List.getElem?_set_ne ek] at h2
      exact (F k' nd' v' h1 h2).other W (Or.inr (lay_slot hw h1 hk (Ne.symm ek)))
  · rw [List.getElem?_set_ne hi] at hq
    have r := S.2 i' q hq
    have ne : G.2.2.2 + i' ≠ G.2.2.2 + i := by omega
    rcases q with ⟨ty, vs⟩ | ⟨t, vs⟩
    · obtain ⟨X, c, A, r⟩ := r; exact ⟨X.wr W, c, A.other W ne, r⟩
    · obtain ⟨X, l, F⟩ := r; exact ⟨X.wr W, l, fun k nd v h1 h2 => (F k nd v h1 h2).other W (Or.inl ne)⟩
/-! the steps that read the tables or the heap -/
theorem g_ldc {ix : Nat} {v : Int32} (O : Ok G K own bytes maxL ret R mn kc ks) (hd : decode bytes pc = .ok (.ldc ix, 2)) (w : Jvm.Cond.constant own ix v ∈ tables_1) (hp : pc + 2 = pc')
    (k : Run G K rv Hf pc' Ls (.int v :: st) H cells slots) : Run G K rv Hf pc Ls st H cells slots := by
  obtain ⟨l, Z, a0, n⟩ := G; obtain ⟨p, e, R', s, m, args, below, meth, c, kc', ks'⟩ := K
  obtain ⟨hx, hZ, hown, hby, hml, hret, hlk, rfl, hnm, rfl, rfl, hw⟩ := O
  subst hp
  intro T locs real X N S A L
  exact Done.step (fun t q => X.ldcI hx hown (mv hZ (hw _ w)) rfl (hb hby hd) q) (k T locs real X N S A L)
theorem g_ldc2 {ix : Nat} {v : Int64} (O : Ok G K own bytes maxL ret R mn kc ks) (hd : decode bytes pc = .ok (.ldc2_w ix, 3)) (w : Jvm.Cond.constantLong own ix v ∈ tables_1) (hp : pc + 3 = pc')
    (k : Run G K rv Hf pc' Ls (.long v :: st) H cells slots) : Run G K rv Hf pc Ls st H cells slots := by
  obtain ⟨l, Z, a0, n⟩ := G; obtain ⟨p, e, R', s, m, args, below, meth, c, kc', ks'⟩ := K
  obtain ⟨hx, hZ, hown, hby, hml, hret, hlk, rfl, hnm, rfl, rfl, hw⟩ := O
  subst hp
  intro T locs real X N S A L
  exact Done.step (fun t q => X.ldc2J hx hown (mv hZ (hw _ w)) rfl (hb hby hd) q) (k T locs real X N S A L)
theorem rd_e {ty : FieldType} {i : Nat} {j : Int32} {v : Value} (h : rd ty H i j = some v) : ∃ vs, arr ty H i = some vs ∧ ¬ j < 0 ∧ vs[j.toNatClampNeg]? = some v := by
  obtain ⟨vs, h1, h2⟩ := Option.bind_eq_some_iff.mp h
  split at h2
  · cases h2
  · exact ⟨vs, h1, by assumption, h2⟩
theorem inb_sl {c : Cell} {vs : List Value} {n : Nat} {j : Int32} {v : Value} (e : c.slots = (vs.map (sh n)).toArray) (h0 : ¬ j < 0) (h : vs[j.toNatClampNeg]? = some v) : ¬ (j < 0 ∨ c.slots.size ≤ j.toNatClampNeg) ∧ c.slots[j.toNatClampNeg]? = some (sh n v) := by
  have := (List.getElem?_eq_some_iff.mp h).1
  refine ⟨fun q => q.elim h0 (fun q => by rw [e] at q; simp at q; omega), by rw [e]; simp [h]⟩
theorem g_iaload {i : Nat} {j : Int32} {v : Int32} (O : Ok G K own bytes maxL ret R mn kc ks) (hd : decode bytes pc = .ok (.iaload, 1)) (hr : rdI .int H i j = some v) (hp : pc + 1 = pc')
    (k : Run G K rv Hf pc' Ls (.int v :: st) H cells slots) : Run G K rv Hf pc Ls (.int j :: .ref i :: st) H cells slots := by
  obtain ⟨l, Z, a0, n⟩ := G; obtain ⟨p, e, R', s, m, args, below, meth, c, kc', ks'⟩ := K
  obtain ⟨hx, hZ, hown, hby, hml, hret, hlk, rfl, hnm, rfl, rfl, hw⟩ := O
  subst hp
  intro T locs real X N S A L
  obtain ⟨vs, h1, h2, h3⟩ := rd_e (rdI_e hr)
  obtain ⟨cl, B, es⟩ := sim_arr S h1
  obtain ⟨q1, q2⟩ := inb_sl es h2 h3
  exact Done.step (fun t q => X.iaload hx B.1 (State.isArrayOf_alike hZ.alike B.2.1) B.2.2 q1 q2 (g := mkF m pc real ((.int j :: .ref i :: st).map (sh n))) rfl rfl (hb hby hd) t q) (k T locs real X N S A L)
theorem g_caload {i : Nat} {j : Int32} {v : Int32} (O : Ok G K own bytes maxL ret R mn kc ks) (hd : decode bytes pc = .ok (.caload, 1)) (hr : rdI .char H i j = some v) (hp : pc + 1 = pc')
    (k : Run G K rv Hf pc' Ls (.int v :: st) H cells slots) : Run G K rv Hf pc Ls (.int j :: .ref i :: st) H cells slots := by
  obtain ⟨l, Z, a0, n⟩ := G; obtain ⟨p, e, R', s, m, args, below, meth, c, kc', ks'⟩ := K
  obtain ⟨hx, hZ, hown, hby, hml, hret, hlk, rfl, hnm, rfl, rfl, hw⟩ := O
  subst hp
  intro T locs real X N S A L
  obtain ⟨vs, h1, h2, h3⟩ := rd_e (rdI_e hr)
  obtain ⟨cl, B, es⟩ := sim_arr S h1
  obtain ⟨q1, q2⟩ := inb_sl es h2 h3
  exact Done.step (fun t q => X.caload hx B.1 (State.isArrayOf_alike hZ.alike B.2.1) B.2.2 q1 q2 (g := mkF m pc real ((.int j :: .ref i :: st).map (sh n))) rfl rfl (hb hby hd) t q) (k T locs real X N S A L)
theorem g_baload {i : Nat} {j : Int32} {v : Int32} (O : Ok G K own bytes maxL ret R mn kc ks) (hd : decode bytes pc = .ok (.baload, 1)) (hr : rdI .byte H i j = some v) (hp : pc + 1 = pc')
    (k : Run G K rv Hf pc' Ls (.int v :: st) H cells slots) : Run G K rv Hf pc Ls (.int j :: .ref i :: st) H cells slots := by
  obtain ⟨l, Z, a0, n⟩ := G; obtain ⟨p, e, R', s, m, args, below, meth, c, kc', ks'⟩ := K
  obtain ⟨hx, hZ, hown, hby, hml, hret, hlk, rfl, hnm, rfl, rfl, hw⟩ := O
  subst hp
  intro T locs real X N S A L
  obtain ⟨vs, h1, h2, h3⟩ := rd_e (rdI_e hr)
  obtain ⟨cl, B, es⟩ := sim_arr S h1
  obtain ⟨q1, q2⟩ := inb_sl es h2 h3
  exact Done.step (fun t q => X.baloadBytes hx B.1 (State.isArrayOf_alike hZ.alike B.2.1) B.2.2 q1 q2 (g := mkF m pc real ((.int j :: .ref i :: st).map (sh n))) rfl rfl (hb hby hd) t q) (k T locs real X N S A L)
theorem g_laload {i : Nat} {j : Int32} {v : Int64} (O : Ok G K own bytes maxL ret R mn kc ks) (hd : decode bytes pc = .ok (.laload, 1)) (hr : rdJ H i j = some v) (hp : pc + 1 = pc')
    (k : Run G K rv Hf pc' Ls (.long v :: st) H cells slots) : Run G K rv Hf pc Ls (.int j :: .ref i :: st) H cells slots := by
  obtain ⟨l, Z, a0, n⟩ := G; obtain ⟨p, e, R', s, m, args, below, meth, c, kc', ks'⟩ := K
  obtain ⟨hx, hZ, hown, hby, hml, hret, hlk, rfl, hnm, rfl, rfl, hw⟩ := O
  subst hp
  intro T locs real X N S A L
  obtain ⟨vs, h1, h2, h3⟩ := rd_e (rdJ_e hr)
  obtain ⟨cl, B, es⟩ := sim_arr S h1
  obtain ⟨q1, q2⟩ := inb_sl es h2 h3
  exact Done.step (fun t q => X.laload hx B.1 (State.isArrayOf_alike hZ.alike B.2.1) B.2.2 q1 q2 (g := mkF m pc real ((.int j :: .ref i :: st).map (sh n))) rfl rfl (hb hby hd) t q) (k T locs real X N S A L)
theorem g_arraylength {i : Nat} {v : Int32} (O : Ok G K own bytes maxL ret R mn kc ks) (hd : decode bytes pc = .ok (.arraylength, 1)) (hr : alen H i = some v) (hp : pc + 1 = pc')
    (k : Run G K rv Hf pc' Ls (.int v :: st) H cells slots) : Run G K rv Hf pc Ls (.ref i :: st) H cells slots := by
  obtain ⟨l, Z, a0, n⟩ := G; obtain ⟨p, e, R', s, m, args, below, meth, c, kc', ks'⟩ := K
  obtain ⟨hx, hZ, hown, hby, hml, hret, hlk, rfl, hnm, rfl, rfl, hw⟩ := O
  subst hp
  intro T locs real X N S A L
  unfold alen at hr
  split at hr
  · rename_i ty vs hh
    cases hr
    obtain ⟨-, cl, B, es⟩ := S.2 i _ hh
    have q1 : cl.slots.size = vs.length := by rw [es]; simp
    exact Done.step (fun t q => X.arraylength hx B.1 (State.isArrayOf_alike hZ.alike B.2.1) (g := mkF m pc real ((.ref i :: st).map (sh n))) rfl rfl (hb hby hd) t (by rw [q1]; exact q)) (k T locs real X N S A L)
  · cases hr
theorem wr_e {ty : FieldType} {i : Nat} {j : Int32} {v : Value} {H' : List Obj} (h : wr ty H i j v = some H') : ∃ vs, arr ty H i = some vs ∧ ¬ (j < 0 ∨ vs.length ≤ j.toNatClampNeg) ∧ H' = H.set i (.inl (ty, vs.set j.toNatClampNeg v)) := by
  obtain ⟨vs, h1, h2⟩ := Option.bind_eq_some_iff.mp h
  split at h2
  · cases h2
  · cases h2; exact ⟨vs, h1, by assumption, rfl⟩
theorem wr_len {ty : FieldType} {i : Nat} {j : Int32} {v : Value} {H' : List Obj} (h : wr ty H i j v = some H') : H'.length = H.length := by
  obtain ⟨vs, -, -, rfl⟩ := wr_e h; simp
theorem sl_len {c : Cell} {vs : List Value} {n : Nat} (e : c.slots = (vs.map (sh n)).toArray) : c.slots.size = vs.length := by rw [e]; simp
theorem g_iastore {i : Nat} {j x : Int32} {H' : List Obj} (O : Ok G K own bytes maxL ret R mn kc ks) (hd : decode bytes pc = .ok (.iastore, 1)) (hr : wr .int H i j (.int x) = some H') (hp : pc + 1 = pc')
    (k : Run G K rv Hf pc' Ls st H' cells slots) : Run G K rv Hf pc Ls (.int x :: .int j :: .ref i :: st) H cells slots := by
  obtain ⟨l, Z, a0, n⟩ := G; obtain ⟨p, e, R', s, m, args, below, meth, c, kc', ks'⟩ := K
  obtain ⟨hx, hZ, hown, hby, hml, hret, hlk, rfl, hnm, rfl, rfl, hw⟩ := O
  subst hp
  intro T locs real X N S A L
  obtain ⟨vs, h1, h2, rfl⟩ := wr_e hr
  obtain ⟨cl, B, es⟩ := sim_arr S h1
  obtain ⟨T', h', X', e', W, stp⟩ := stI X hx hZ rfl B (j := j) (x := x) (by rw [sl_len es]; exact h2) (g := mkF m pc real ((.int x :: .int j :: .ref i :: st).map (sh n))) rfl rfl (hb hby hd)
  exact Done.step stp (k T' _ real X' (Fr.snoc X' N (Nat.le_add_right _ _)) (by rw [e']; exact sim_wr (v := .int x) S h1 W) (by simpa using A) L)
theorem g_lastore {i : Nat} {j : Int32} {x : Int64} {H' : List Obj} (O : Ok G K own bytes maxL ret R mn kc ks) (hd : decode bytes pc = .ok (.lastore, 1)) (hr : wr .long H i j (.long x) = some H') (hp : pc + 1 = pc')
    (k : Run G K rv Hf pc' Ls st H' cells slots) : Run G K rv Hf pc Ls (.long x :: .int j :: .ref i :: st) H cells slots := by
  obtain ⟨l, Z, a0, n⟩ := G; obtain ⟨p, e, R', s, m, args, below, meth, c, kc', ks'⟩ := K
  obtain ⟨hx, hZ, hown, hby, hml, hret, hlk, rfl, hnm, rfl, rfl, hw⟩ := O
  subst hp
  intro T locs real X N S A L
  obtain ⟨vs, h1, h2, rfl⟩ := wr_e hr
  obtain ⟨cl, B, es⟩ := sim_arr S h1
  obtain ⟨T', h', X', e', W, stp⟩ := stJ X hx hZ rfl B (j := j) (x := x) (by rw [sl_len es]; exact h2) (g := mkF m pc real ((.long x :: .int j :: .ref i :: st).map (sh n))) rfl rfl (hb hby hd)
  exact Done.step stp (k T' _ real X' (Fr.snoc X' N (Nat.le_add_right _ _)) (by rw [e']; exact sim_wr (v := .long x) S h1 W) (by simpa using A) L)
theorem g_bastore {i : Nat} {j x : Int32} {H' : List Obj} (O : Ok G K own bytes maxL ret R mn kc ks) (hd : decode bytes pc = .ok (.bastore, 1)) (hr : wr .byte H i j (.int (nar .byte x)) = some H') (hp : pc + 1 = pc')
    (k : Run G K rv Hf pc' Ls st H' cells slots) : Run G K rv Hf pc Ls (.int x :: .int j :: .ref i :: st) H cells slots := by
  obtain ⟨l, Z, a0, n⟩ := G; obtain ⟨p, e, R', s, m, args, below, meth, c, kc', ks'⟩ := K
  obtain ⟨hx, hZ, hown, hby, hml, hret, hlk, rfl, hnm, rfl, rfl, hw⟩ := O
  subst hp
  intro T locs real X N S A L
  obtain ⟨vs, h1, h2, rfl⟩ := wr_e hr
  obtain ⟨cl, B, es⟩ := sim_arr S h1
  obtain ⟨T', h', X', e', W, stp⟩ := stB X hx hZ rfl B (j := j) (x := x) (by rw [sl_len es]; exact h2) (g := mkF m pc real ((.int x :: .int j :: .ref i :: st).map (sh n))) rfl rfl (hb hby hd)
  exact Done.step stp (k T' _ real X' (Fr.snoc X' N (Nat.le_add_right _ _)) (by rw [e']; exact sim_wr (v := .int (nar .byte x)) S h1 W) (by simpa using A) L)
theorem g_castore {i : Nat} {j x : Int32} {H' : List Obj} (O : Ok G K own bytes maxL ret R mn kc ks) (hd : decode bytes pc = .ok (.castore, 1)) (hr : wr .char H i j (.int (nar .char x)) = some H') (hp : pc + 1 = pc')
    (k : Run G K rv Hf pc' Ls st H' cells slots) : Run G K rv Hf pc Ls (.int x :: .int j :: .ref i :: st) H cells slots := by
  obtain ⟨l, Z, a0, n⟩ := G; obtain ⟨p, e, R', s, m, args, below, meth, c, kc', ks'⟩ := K
  obtain ⟨hx, hZ, hown, hby, hml, hret, hlk, rfl, hnm, rfl, rfl, hw⟩ := O
  subst hp
  intro T locs real X N S A L
  obtain ⟨vs, h1, h2, rfl⟩ := wr_e hr
  obtain ⟨cl, B, es⟩ := sim_arr S h1
  obtain ⟨T', h', X', e', W, stp⟩ := stC X hx hZ rfl B (j := j) (x := x) (by rw [sl_len es]; exact h2) (g := mkF m pc real ((.int x :: .int j :: .ref i :: st).map (sh n))) rfl rfl (hb hby hd)
  exact Done.step stp (k T' _ real X' (Fr.snoc X' N (Nat.le_add_right _ _)) (by rw [e']; exact sim_wr (v := .int (nar .char x)) S h1 W) (by simpa using A) L)
theorem g_newarray {aty : ArrayType} {cap : Nat} {j : Int32} {H' : List Obj} (O : Ok G K own bytes maxL ret R mn kc ks) (hd : decode bytes pc = .ok (.newarray aty, 2)) (w : Jvm.Cond.arrayClass (newarray.typeOf aty) ∈ tables_1)
    (hr : mkArr (newarray.typeOf aty) cap H j = some H') (hb8 : cap * 8 ≤ 536870912) {c2 s2 : Nat} (hc2 : cells + 1 = c2) (hs2 : slots + cap = s2) (hc : c2 ≤ R.cells) (hs : s2 ≤ R.slots) (hp : pc + 2 = pc')
    (k : Run G K rv Hf pc' Ls (.ref H.length :: st) H' c2 s2) : Run G K rv Hf pc Ls (.int j :: st) H cells slots := by
  obtain ⟨l, Z, a0, n⟩ := G; obtain ⟨p, e, R', s, m, args, below, meth, c, kc', ks'⟩ := K
  obtain ⟨hx, hZ, hown, hby, hml, hret, hlk, rfl, hnm, rfl, rfl, hw⟩ := O
  subst hp hc2 hs2
  intro T locs real X N S A L
  unfold mkArr at hr
  split at hr
  · cases hr
  rename_i hj
  cases hr
  have hj0 : ¬ j < 0 := fun q => hj (Or.inl q)
  obtain ⟨T', h', cA, X', e', E, B, EX, stp⟩ := newPE X hx hZ (hw _ w) rfl (g := mkF m pc real ((.int j :: st).map (sh n))) rfl (hb hby hd) rfl hj0 (cap := cap) (Nat.le_of_not_lt fun q => hj (Or.inr q)) hb8 hc hs rfl
  have hsz : h'.size = T.heap.size + 1 := by
    have a1 : Array.size T.heap < Array.size h' := B.lt
    have a2 : Array.size T'.heap ≤ Array.size s.heap + (cells + 1) := X'.heapSize
    rw [e'] at a2
    have a3 : Array.size T.heap = n + H.length := S.1
    have a4 : Array.size s.heap + cells = n + H.length := A
    omega
  have ea : T.heap.size = n + H.length := S.1
  have S' : Sim (l, Z, a0, n) (H ++ [.inl (newarray.typeOf aty, List.replicate j.toNatClampNeg (defaultValue (newarray.typeOf aty)))]) T'.heap := by
    rw [e']
    refine sim_ext S E hsz ⟨EX, _, B, ?_⟩
    have : sh n (defaultValue (newarray.typeOf aty)) = defaultValue (newarray.typeOf aty) := by cases aty <;> rfl
    simp [newA, this]
  refine Done.step stp ?_
  have k' := k T' locs real X' N S' (by simp only [List.length_append, List.length_singleton] at A ⊢; omega) L
  rw [ea]
  exact k'
theorem g_new {ix t nn : Nat} {H' : List Obj} (O : Ok G K own bytes maxL ret R mn kc ks) (hd : decode bytes pc = .ok (.new ix, 3)) (w1 : Jvm.Cond.classLink own ix (lay t).1 ∈ tables_1) (w2 : Jvm.Cond.instantiable (lay t).1 nn ∈ tables_1) (w3 : Jvm.Cond.initialized (lay t).1 ∈ tables_1)
    {vs : List Value} (hvs : (lay t).2.map (fun nd => (parseFieldDescriptor nd.2).map defaultValue) = vs.map some) (hH : H' = H ++ [.inr (t, vs)]) {c2 s2 : Nat} (hc2 : cells + 1 = c2) (hs2 : slots + nn = s2) (hc : c2 ≤ R.cells) (hs : s2 ≤ R.slots) (hp : pc + 3 = pc')
    (k : Run G K rv Hf pc' Ls (.ref H.length :: st) H' c2 s2) : Run G K rv Hf pc Ls st H cells slots := by
  obtain ⟨l, Z, a0, n⟩ := G; obtain ⟨p, e, R', s, m, args, below, meth, c, kc', ks'⟩ := K
  obtain ⟨hx, hZ, hown, hby, hml, hret, hlk, rfl, hnm, rfl, rfl, hw⟩ := O
  subst hp hH hc2 hs2
  intro T locs real X N S A L
  obtain ⟨T', h', X', e', E, B, D, -, stp⟩ := newO X hx hZ hown (hw _ w1) (hw _ w2) (hw _ w3) rfl (g := mkF m pc real (st.map (sh n))) rfl (hb hby hd) hc hs
  have hsz : h'.size = T.heap.size + 1 := by
    have a1 : Array.size T.heap < Array.size h' := B.lt
    have a2 : Array.size T'.heap ≤ Array.size s.heap + (cells + 1) := X'.heapSize
    rw [e'] at a2
    have a3 : Array.size T.heap = n + H.length := S.1
    have a4 : Array.size s.heap + cells = n + H.length := A
    omega
  have ea : T.heap.size = n + H.length := S.1
  have S' : Sim (l, Z, a0, n) (H ++ [.inr (t, vs)]) T'.heap := by
    rw [e']
    refine sim_ext S E hsz ⟨B, by have := congrArg List.length hvs; simpa using this.symm, fun k nd v h1 h2 => ?_⟩
    have q : ((lay t).2.map (fun nd => (parseFieldDescriptor nd.2).map defaultValue))[k]? = some (some v) := by rw [hvs]; simp [h2]
    rw [List.getElem?_map, h1] at q
    simp only [Option.map_some, Option.some.injEq, Option.map_eq_some_iff] at q
    obtain ⟨ty, q1, q2⟩ := q
    have q3 : sh n v = defaultValue ty := by rw [← q2]; cases ty <;> rfl
    rw [q3]
    exact D ((lay_word t nd (List.mem_of_getElem? h1)).imp (hw _) (hw _)) q1
  refine Done.step stp ?_
  have k' := k T' locs real X' N S' (by simp only [List.length_append, List.length_singleton] at A ⊢; omega) L
  rw [ea]
  exact k'
theorem g_getfield {ix t kf i : Nat} {nd : String × String} {v : Value} (O : Ok G K own bytes maxL ret R mn kc ks) (hd : decode bytes pc = .ok (.getfield ix, 3)) (hk : (lay t).2[kf]? = some nd) (w : Jvm.Cond.fieldLink own ix (lay t).1 nd.1 nd.2 ∈ tables_1)
    (hr : fld t kf H i = some v) (hp : pc + 3 = pc') (k : Run G K rv Hf pc' Ls (v :: st) H cells slots) : Run G K rv Hf pc Ls (.ref i :: st) H cells slots := by
  obtain ⟨l, Z, a0, n⟩ := G; obtain ⟨p, e, R', s, m, args, below, meth, c, kc', ks'⟩ := K
  obtain ⟨hx, hZ, hown, hby, hml, hret, hlk, rfl, hnm, rfl, rfl, hw⟩ := O
  subst hp
  intro T locs real X N S A L
  obtain ⟨vs, h1, h2⟩ := Option.bind_eq_some_iff.mp hr
  obtain ⟨B, l1, F⟩ := sim_obj S h1
  obtain ⟨T', X', e', stp⟩ := getF X hx hZ hown (host := "") (Or.inl (hw _ w)) Via.refl rfl (F kf nd v hk h2) (g := mkF m pc real ((.ref i :: st).map (sh n))) rfl rfl (hb hby hd)
  exact Done.step stp (k T' locs real X' N (by rw [e']; exact S) A L)
theorem g_putfield {ix t kf i nn : Nat} {nd : String × String} {v : Value} {ty : FieldType} {H' : List Obj} (O : Ok G K own bytes maxL ret R mn kc ks) (hd : decode bytes pc = .ok (.putfield ix, 3)) (hk : (lay t).2[kf]? = some nd) (w : Jvm.Cond.fieldLink own ix (lay t).1 nd.1 nd.2 ∈ tables_1)
    (w2 : Jvm.Cond.lays (lay t).1 (lay t).1 nd.1 nd.2 ∈ tables_1 ∨ (Jvm.Cond.laysFinal (lay t).1 (lay t).1 nd.1 nd.2 ∈ tables_1 ∧ own = (lay t).1 ∧ mn = "<init>")) (w3 : Jvm.Cond.instantiable (lay t).1 nn ∈ tables_1) (hty : parseFieldDescriptor nd.2 = some ty) (hn : ∀ n, narrow ty (sh n v) = sh n v) (hf : ∀ n, fits ty (sh n v) = true)
    (hr : setF t kf H i v = some H') (hp : pc + 3 = pc') (k : Run G K rv Hf pc' Ls st H' cells slots) : Run G K rv Hf pc Ls (v :: .ref i :: st) H cells slots := by
  obtain ⟨l, Z, a0, n⟩ := G; obtain ⟨p, e, R', s, m, args, below, meth, c, kc', ks'⟩ := K
  obtain ⟨hx, hZ, hown, hby, hml, hret, hlk, rfl, hnm, rfl, rfl, hw⟩ := O
  subst hp
  intro T locs real X N S A L
  obtain ⟨vs, h1, h2⟩ := Option.bind_eq_some_iff.mp hr
  have hkv : kf < vs.length := Decidable.byContradiction fun hkv => by rw [if_neg hkv] at h2; cases h2
  rw [if_pos hkv] at h2
  cases h2
  obtain ⟨B, l1, F⟩ := sim_obj S h1
  obtain ⟨T', h', X', e', W, stp⟩ := putF X hx hZ hown (host := "") (Or.inl (hw _ w)) Via.refl rfl (F kf nd _ hk (List.getElem?_eq_getElem hkv)) B (w2.imp (hw _) fun q => ⟨hw _ q.1, q.2.1, hnm.trans q.2.2⟩) (hw _ w3) hty (hn n) (hf n) (g := mkF m pc real ((v :: .ref i :: st).map (sh n))) rfl rfl (hb hby hd)
  exact Done.step stp (k T' _ real X' (Fr.snoc X' N (Nat.le_add_right _ _)) (by rw [e']; exact sim_put hw S h1 hk W) (by simpa using A) L)
theorem g_objinit {ix i W : Nat} (O : Ok G K own bytes maxL ret R mn kc ks) (hd : decode bytes pc = .ok (.invokespecial ix, 3)) (w1 : Jvm.Cond.methodLink own ix Lib.objectInit ∈ tables_1) (w2 : Jvm.Cond.instanceMethod Lib.objectInit ∈ tables_1) (w3 : Jvm.Cond.code Lib.objectInit ⟨#[0xb1]⟩ 1 none ∈ tables_1)
    (hLs : Ls.length = maxL) (hW : (st.map fun v => v.category).sum = W) (hf : 1 ≤ R.frames) (hl : W + 12 ≤ R.locals) (hp : pc + 3 = pc') (k : Run G K rv Hf pc' Ls st H cells slots) : Run G K rv Hf pc Ls (.ref i :: st) H cells slots := by
  obtain ⟨l, Z, a0, n⟩ := G; obtain ⟨p, e, R', s, m, args, below, meth, c, kc', ks'⟩ := K
  obtain ⟨hx, hZ, hown, hby, hml, hret, hlk, rfl, hnm, rfl, rfl, hw⟩ := O
  subst hp
  intro T locs real X N S A L
  obtain ⟨T', X', e', stp⟩ := initO X hx hZ hown (hw _ w1) (hw _ w2) (hw _ w3) rfl (g := mkF m pc real ((.ref i :: st).map (sh n))) rfl (by show real.size = _; rw [L.1, hml]; exact hLs) rfl (hb hby hd) hf (W := W) (by show 2 * 0 + ((st.map (sh n)).map _).sum ≤ _; rw [List.map_map, ← hW]; simp [Function.comp_def, sh_cat]) hl
  exact Done.step stp (k T' locs real X' N (by rw [e']; exact S) A L)
def Fg : List (Option Value) → List (Option Value) → Prop
  | [], [] => True
  | _ :: a, none :: b => Fg a b
  | x :: a, some v :: b => x = some v ∧ Fg a b
  | [], _ :: _ => False
  | _ :: _, [] => False
theorem Fg.spec : ∀ {A B : List (Option Value)}, Fg A B → A.length = B.length ∧ ∀ (k : Nat) (v : Value), B[k]? = some (some v) → A[k]? = some (some v)
  | [], [], _ => ⟨rfl, fun k v h => h⟩
  | x :: a, none :: b, h => by
    obtain ⟨h1, h2⟩ := Fg.spec (A := a) (B := b) h
    refine ⟨by simp [h1], fun k v hk => ?_⟩
    cases k with
    | zero => simp at hk
    | succ k => simpa using h2 k v (by simpa using hk)
  | x :: a, some w :: b, h => by
    have h' : x = some w ∧ Fg a b := h
    obtain ⟨h1, h2⟩ := Fg.spec (A := a) (B := b) h'.2
    refine ⟨by simp [h1], fun k v hk => ?_⟩
    cases k with
    | zero => simp at hk; simp [h'.1, hk]
    | succ k => simpa using h2 k v (by simpa using hk)
theorem g_forget (h : Fg Ls Ls') (k : Run G K rv Hf pc Ls' st H cells slots) : Run G K rv Hf pc Ls st H cells slots := by
  obtain ⟨l, Z, a0, n⟩ := G; obtain ⟨p, e, R', s, m, args, below, meth, c, kc', ks'⟩ := K
  obtain ⟨h1, h2⟩ := h.spec
  intro T locs real X N S A L
  exact k T locs real X N S A ⟨L.1.trans h1, L.2.1, fun j v hj => L.2.2 j v (h2 j v hj)⟩
/-! calls and returns -/
theorem cat_sum (n : Nat) (st : List Value) : ((st.map (sh n)).map fun v => v.category).sum = (st.map fun v => v.category).sum := by rw [List.map_map]; simp [Function.comp_def, sh_cat]
theorem g_static {ix : Nat} {y : MethodName} {bytes' : ByteArray} {maxL' : Nat} {ret' : Option FieldType} {rm : Room} {as : List Value} {H' : List Obj} {v : Option Value} {ps : List FieldType} {W : Nat} {stk : List Value} (O : Ok G K own bytes maxL ret R mn kc ks) (hd : decode bytes pc = .ok (.invokestatic ix, 3))
    (w1 : Jvm.Cond.methodLink own ix y ∈ tables_1) (w2 : Jvm.Cond.static y ∈ tables_1) (w3 : Jvm.Cond.initialized y.cls ∈ tables_1) (w4 : Jvm.Cond.code y bytes' maxL' ret' ∈ tables_1) (hy : y.cls ≠ "java/lang/invoke/MethodHandle" ∧ y.cls ≠ "java/lang/invoke/VarHandle")
    (pd : parseMethodDescriptor y.desc = some ⟨ps, ret'⟩) (hl : as.length = ps.length) (hstk : stk = as.reverse ++ st) (hLs : Ls.length = maxL) (hW : (st.map fun v => v.category).sum = W) (hf : rm.frames + 1 ≤ R.frames) (hlo : W + (maxL' + 11) + rm.locals ≤ R.locals) {c2 s2 : Nat} (hc2 : cells + rm.cells = c2) (hs2 : slots + rm.slots = s2) (hc : c2 ≤ R.cells) (hs : s2 ≤ R.slots)
    (con : Con G y bytes' maxL' ret' rm as H v H') (hp : pc + 3 = pc') (k : Run G K rv Hf pc' Ls (v.toList ++ st) H' c2 s2) : Run G K rv Hf pc Ls stk H cells slots := by
  obtain ⟨l, Z, a0, n⟩ := G; obtain ⟨p, e, R', s, m, args, below, meth, c, kc', ks'⟩ := K
  obtain ⟨hx, hZ, hown, hby, hml, hret, hlk, rfl, hnm, rfl, rfl, hw⟩ := O
  subst hp hstk hc2 hs2
  intro T locs real X N S A L
  obtain ⟨v', _, ⟨T', L', k', n'⟩, -, X', ⟨Lc, ⟨hv, N', S', hlen⟩, l1, y1, z1⟩, stp⟩ := Jvm.LawKit.callS X hx (y := y) hown (mvT hZ (hw _ w1)) (mvT hZ (hw _ w2)) (mvT hZ (hw _ w3)) (mvT hZ (hw _ w4)) hy (backOf (W := W) (Q := fun u hh LL => u = Option.map (sh n) v ∧ Fr n LL ∧ Sim (l, Z, a0, n) H' hh ∧ H'.length = H.length + rm.cells) (con T.heap S) hZ (hw _ w4) (hw _ w3) hf hlo) (g := mkF m pc real ((as.reverse ++ st).map (sh n))) rfl (by show real.size = _; rw [L.1, hml]; exact hLs)
    (argsL := as.map (sh n)) (rest := st.map (sh n)) (lenOf pd (by simpa using hl)) (by simp) (by show 2 * 0 + _ ≤ _; rw [cat_sum, hW]; exact Nat.le_of_eq (Nat.zero_add _)) (hb hby hd) (fun _ _ => ⟨rfl, rfl, hc, hs⟩)
  dsimp only [Pt.U, Pt.locs, Pt.cells, Pt.slots] at X' l1 y1 z1 stp S' N'
  subst l1 y1 z1 hv
  have k2 := k T' _ real X' (Fr.app N N') S' (by omega) L
  refine Done.step stp ?_
  cases v <;> exact k2
theorem g_special {ix i : Nat} {y : MethodName} {bytes' : ByteArray} {maxL' : Nat} {rm : Room} {as : List Value} {H' : List Obj} {ps : List FieldType} {W : Nat} {stk : List Value} (O : Ok G K own bytes maxL ret R mn kc ks) (hd : decode bytes pc = .ok (.invokespecial ix, 3)) (hy1 : y.name = "<init>")
    (w1 : Jvm.Cond.methodLink own ix y ∈ tables_1) (w2 : Jvm.Cond.instanceMethod y ∈ tables_1) (w3 : Jvm.Cond.initialized y.cls ∈ tables_1) (w4 : Jvm.Cond.code y bytes' maxL' none ∈ tables_1) (hy : y.cls ≠ "java/lang/invoke/MethodHandle" ∧ y.cls ≠ "java/lang/invoke/VarHandle")
    (pd : parseMethodDescriptor y.desc = some ⟨ps, none⟩) (hl : as.length = ps.length) (hstk : stk = as.reverse ++ .ref i :: st) (hLs : Ls.length = maxL) (hW : (st.map fun v => v.category).sum = W) (hf : rm.frames + 1 ≤ R.frames) (hlo : W + (maxL' + 11) + rm.locals ≤ R.locals) {c2 s2 : Nat} (hc2 : cells + rm.cells = c2) (hs2 : slots + rm.slots = s2) (hc : c2 ≤ R.cells) (hs : s2 ≤ R.slots)
    (con : Con G y bytes' maxL' none rm (.ref i :: as) H none H') (hp : pc + 3 = pc') (k : Run G K rv Hf pc' Ls st H' c2 s2) : Run G K rv Hf pc Ls stk H cells slots := by
  obtain ⟨l, Z, a0, n⟩ := G; obtain ⟨p, e, R', s, m, args, below, meth, c, kc', ks'⟩ := K
  obtain ⟨hx, hZ, hown, hby, hml, hret, hlk, rfl, hnm, rfl, rfl, hw⟩ := O
  subst hp hstk hc2 hs2
  intro T locs real X N S A L
  obtain ⟨v', _, ⟨T', L', k', n'⟩, -, X', ⟨Lc, ⟨hv, N', S', hlen⟩, l1, y1, z1⟩, stp⟩ := X.specialBack hx (y := y) hy1 hown (mvT hZ (hw _ w1)) (mvT hZ (hw _ w2)) (mvT hZ (hw _ w4)) hy (backOf (W := W) (Q := fun u hh LL => u = Option.map (sh n) none ∧ Fr n LL ∧ Sim (l, Z, a0, n) H' hh ∧ H'.length = H.length + rm.cells) (con T.heap S) hZ (hw _ w4) (hw _ w3) hf hlo) (g := mkF m pc real ((as.reverse ++ .ref i :: st).map (sh n))) rfl (by show real.size = _; rw [L.1, hml]; exact hLs) (Steps.refl _)
    (a := n + i) (argsL := as.map (sh n)) (rest := st.map (sh n)) (lenOf pd (by simpa using hl)) (by simp [sh]) (by show 2 * 0 + _ ≤ _; rw [cat_sum, hW]; exact Nat.le_of_eq (Nat.zero_add _)) (hb hby hd) (fun _ _ => ⟨rfl, rfl, hc, hs⟩)
  dsimp only [Pt.U, Pt.locs, Pt.cells, Pt.slots] at X' l1 y1 z1 stp S' N'
  subst l1 y1 z1 hv
  exact Done.step (fun t q => stp.trans q) (k T' _ real X' (Fr.app N N') S' (by omega) L)
theorem g_virtual {ix i t : Nat} {y : MethodName} {bytes' : ByteArray} {maxL' : Nat} {ret' : Option FieldType} {rm : Room} {as vs : List Value} {H' : List Obj} {v : Option Value} {ps : List FieldType} {W : Nat} {stk : List Value} (O : Ok G K own bytes maxL ret R mn kc ks) (hd : decode bytes pc = .ok (.invokevirtual ix, 3))
    (w1 : Jvm.Cond.methodLink own ix y ∈ tables_1) (w2 : Jvm.Cond.declares y ∈ tables_1) (w5 : Jvm.Cond.selects (lay t).1 y y ∈ tables_1) (w6 : Jvm.Cond.instanceMethod y ∈ tables_1) (w3 : Jvm.Cond.initialized y.cls ∈ tables_1) (w4 : Jvm.Cond.code y bytes' maxL' ret' ∈ tables_1) (hy : y.cls ≠ "java/lang/invoke/MethodHandle" ∧ y.cls ≠ "java/lang/invoke/VarHandle")
    (ho : obj t H i = some vs) (pd : parseMethodDescriptor y.desc = some ⟨ps, ret'⟩) (hl : as.length = ps.length) (hstk : stk = as.reverse ++ .ref i :: st) (hLs : Ls.length = maxL) (hW : (st.map fun v => v.category).sum = W) (hf : rm.frames + 1 ≤ R.frames) (hlo : W + (maxL' + 11) + rm.locals ≤ R.locals) {c2 s2 : Nat} (hc2 : cells + rm.cells = c2) (hs2 : slots + rm.slots = s2) (hc : c2 ≤ R.cells) (hs : s2 ≤ R.slots)
    (con : Con G y bytes' maxL' ret' rm (.ref i :: as) H v H') (hp : pc + 3 = pc') (k : Run G K rv Hf pc' Ls (v.toList ++ st) H' c2 s2) : Run G K rv Hf pc Ls stk H cells slots := by
  obtain ⟨l, Z, a0, n⟩ := G; obtain ⟨p, e, R', s, m, args, below, meth, c, kc', ks'⟩ := K
  obtain ⟨hx, hZ, hown, hby, hml, hret, hlk, rfl, hnm, rfl, rfl, hw⟩ := O
  subst hp hstk hc2 hs2
  intro T locs real X N S A L
  obtain ⟨cq, kq, qa, qb, qc⟩ := isOf hZ (T := T) rfl (sim_obj S ho).1
  obtain ⟨v', _, ⟨T', L', k', n'⟩, -, X', ⟨Lc, ⟨hv, N', S', hlen⟩, l1, y1, z1⟩, stp⟩ := X.virtualBack hx (y := y) (z := y) hown (mvT hZ (hw _ w1)) (mvT hZ (hw _ w2)) (notFace_of_selects (args := #[]) (mvT hZ (hw _ w5))) (mvT hZ (hw _ w5)) (mvT hZ (hw _ w6)) hy (backOf (W := W) (Q := fun u hh LL => u = Option.map (sh n) v ∧ Fr n LL ∧ Sim (l, Z, a0, n) H' hh ∧ H'.length = H.length + rm.cells) (con T.heap S) hZ (hw _ w4) (hw _ w3) hf hlo) qa qc (g := mkF m pc real ((as.reverse ++ .ref i :: st).map (sh n))) rfl (by show real.size = _; rw [L.1, hml]; exact hLs) (Steps.refl _)
    (argsL := as.map (sh n)) (rest := st.map (sh n)) (lenOf pd (by simpa using hl)) (by simp [sh]) (by show 2 * 0 + _ ≤ _; rw [cat_sum, hW]; exact Nat.le_of_eq (Nat.zero_add _)) (hb hby hd) (fun _ _ => ⟨rfl, rfl, hc, hs⟩)
  dsimp only [Pt.U, Pt.locs, Pt.cells, Pt.slots] at X' l1 y1 z1 stp S' N'
  subst l1 y1 z1 hv
  have k2 := k T' _ real X' (Fr.app N N') S' (by omega) L
  refine Done.step (fun t q => stp.trans q) ?_
  cases v <;> exact k2
theorem g_ret_void (O : Ok G K own bytes maxL none R mn kc ks) (hd : decode bytes pc = .ok (.return_, 1)) (hc : cells = kc) (hs : slots ≤ ks) : Run G K none H pc Ls [] H cells slots := by
  obtain ⟨l, Z, a0, n⟩ := G; obtain ⟨p, e, R', s, m, args, below, meth, c, kc', ks'⟩ := K
  obtain ⟨hx, hZ, hown, hby, hml, hret, hlk, rfl, hnm, rfl, rfl, hw⟩ := O
  intro T locs real X N S A L
  subst hc
  obtain ⟨fs, hr, hrun, hended, hW, hsame⟩ := X.leave (v := none) (fun _ => rfl) hlk
  exact ⟨_, _, X.returnOut hx hret (hb hby hd) hr, hrun, hended, _, _, rfl, ⟨rfl, N, S, A⟩, ⟨_, rfl⟩, hW, hsame.mono (Nat.le_refl _) hs⟩
theorem g_ret_int {x : Int32} (O : Ok G K own bytes maxL (some .int) R mn kc ks) (hd : decode bytes pc = .ok (.ireturn, 1)) (hc : cells = kc) (hs : slots ≤ ks) : Run G K (some (.int x)) H pc Ls (.int x :: st) H cells slots := by
  obtain ⟨l, Z, a0, n⟩ := G; obtain ⟨p, e, R', s, m, args, below, meth, c, kc', ks'⟩ := K
  obtain ⟨hx, hZ, hown, hby, hml, hret, hlk, rfl, hnm, rfl, rfl, hw⟩ := O
  intro T locs real X N S A L
  subst hc
  obtain ⟨fs, hr, hrun, hended, hW, hsame⟩ := X.leave (v := some (.int x)) (fun h => by rw [hret] at h; cases h) hlk
  exact ⟨_, _, retOut X hx hret rfl (Or.inl ⟨rfl, Or.inl rfl, x, rfl⟩) (hb hby hd) hr, hrun, hended, _, _, rfl, ⟨rfl, N, S, A⟩, ⟨_, rfl⟩, hW, hsame.mono (Nat.le_refl _) hs⟩
theorem g_ret_nar {t : FieldType} {x y : Int32} (O : Ok G K own bytes maxL (some t) R mn kc ks) (hd : decode bytes pc = .ok (.ireturn, 1)) (ht : t = .boolean ∨ t = .byte ∨ t = .char ∨ t = .short) (hy : nar t x = y) (hc : cells = kc) (hs : slots ≤ ks) : Run G K (some (.int y)) H pc Ls (.int x :: st) H cells slots := by
  obtain ⟨l, Z, a0, n⟩ := G; obtain ⟨p, e, R', s, m, args, below, meth, c, kc', ks'⟩ := K
  obtain ⟨hx, hZ, hown, hby, hml, hret, hlk, rfl, hnm, rfl, rfl, hw⟩ := O
  intro T locs real X N S A L
  subst hc hy
  obtain ⟨fs, hr, hrun, hended, hW, hsame⟩ := X.leave (v := some (.int (nar t x))) (fun h => by rw [hret] at h; cases h) hlk
  exact ⟨_, _, retN X hx hret ht (hb hby hd) hr, hrun, hended, _, _, rfl, ⟨rfl, N, S, A⟩, ⟨_, rfl⟩, hW, hsame.mono (Nat.le_refl _) hs⟩
theorem g_ret_long {x : Int64} (O : Ok G K own bytes maxL (some .long) R mn kc ks) (hd : decode bytes pc = .ok (.lreturn, 1)) (hc : cells = kc) (hs : slots ≤ ks) : Run G K (some (.long x)) H pc Ls (.long x :: st) H cells slots := by
  obtain ⟨l, Z, a0, n⟩ := G; obtain ⟨p, e, R', s, m, args, below, meth, c, kc', ks'⟩ := K
  obtain ⟨hx, hZ, hown, hby, hml, hret, hlk, rfl, hnm, rfl, rfl, hw⟩ := O
  intro T locs real X N S A L
  subst hc
  obtain ⟨fs, hr, hrun, hended, hW, hsame⟩ := X.leave (v := some (.long x)) (fun h => by rw [hret] at h; cases h) hlk
  exact ⟨_, _, retOut X hx hret rfl (Or.inr (Or.inl ⟨rfl, rfl, x, rfl⟩)) (hb hby hd) hr, hrun, hended, _, _, rfl, ⟨rfl, N, S, A⟩, ⟨_, rfl⟩, hW, hsame.mono (Nat.le_refl _) hs⟩
theorem g_ret_ref {t : FieldType} {i : Nat} (O : Ok G K own bytes maxL (some t) R mn kc ks) (hd : decode bytes pc = .ok (.areturn, 1)) (ht : t.isReference = true) (hn : ∀ a, narrow t (.ref a) = .ref a) (hc : cells = kc) (hs : slots ≤ ks) : Run G K (some (.ref i)) H pc Ls (.ref i :: st) H cells slots := by
  obtain ⟨l, Z, a0, n⟩ := G; obtain ⟨p, e, R', s, m, args, below, meth, c, kc', ks'⟩ := K
  obtain ⟨hx, hZ, hown, hby, hml, hret, hlk, rfl, hnm, rfl, rfl, hw⟩ := O
  intro T locs real X N S A L
  subst hc
  obtain ⟨fs, hr, hrun, hended, hW, hsame⟩ := X.leave (v := some (.ref (n + i))) (fun h => by rw [hret] at h; cases h) hlk
  exact ⟨_, _, retOut X hx hret (hn _) (Or.inr (Or.inr (Or.inr (Or.inr ⟨rfl, ht, rfl⟩)))) (hb hby hd) hr, hrun, hended, _, _, rfl, ⟨rfl, N, S, A⟩, ⟨_, rfl⟩, hW, hsame.mono (Nat.le_refl _) hs⟩
theorem con_of {y : MethodName} {rm : Room} {as : List Value} (hw : ∀ d ∈ tables_1, d.before G.2.2.1 G.2.1 = true) (pn : plainFor y = true) (hL : aloc as maxL = Ls) (body : ∀ K, Ok G K y.cls bytes maxL ret rm y.name rm.cells rm.slots → Run G K rv Hf 0 Ls [] H 0 0) : Con G y bytes maxL ret rm as H rv Hf := by
  obtain ⟨l, Z, a0, n⟩ := G
  intro h0 S0
  refine MetFree.of_bodySF pn hisR ?_
  intro p e s m args below meth c s₁ Bd hml0 hP hK
  obtain ⟨rfl, hZ, rfl⟩ := hP
  have X0 : Stand p l e rm s m _ below meth c s₁ [] 0 0 := Stand.of_body Bd
  have e0 : s₁.heap = s.heap := by rw [Bd.state]; rfl
  have k := body (p, e, rm, s, m, (as.map (sh n)).toArray, below, meth, c, rm.cells, rm.slots) ⟨Bd.exec, hZ, findClass_of_methodNamed Bd.named, Bd.bytes, hml0, Bd.returns, Bd.notSynchronized, rfl, (name_of_methodNamed Bd.named Bd.method).1, rfl, rfl, hw⟩
  subst hL
  obtain ⟨t, o, h1, h2, h3, v, L, h4, ⟨h5, h6, h7, h8⟩, h9⟩ := k s₁ [] _ X0 (Fr.nil n) (by rw [e0]; exact S0) (by rw [Nat.add_zero]; exact S0.1) (entry_rel n as maxL)
  refine ⟨t, o, h1, h2, h3, v, L, h4, ⟨h5, h6, h7, ?_⟩, h9⟩
  have := S0.1
  simp only at this
  omega
/-- the law itself, over an empty own heap -/
theorem law_of {l : Launch} {s : State} {a0 : Array Value} {as : List Value} {k0 k1 : Nat} (hw : ∀ d ∈ tables_1, d.before a0 s = true) (pn : plainFor x = true) (hL : aloc as maxLocals = Ls) (hid : as.map (sh s.heap.size) = as)
    (body : ∀ K, Ok (l, s, a0, s.heap.size) K x.cls code maxLocals Jvm.Pilot.@@N@@.ret room_1 x.name k0 k1 → Run (l, s, a0, s.heap.size) K rv Hf 0 Ls [] [] 0 0) :
    MetFree l x (head1 (Jvm.Cond.code x code maxLocals Jvm.Pilot.@@N@@.ret :: tables_1) room_1) (fun a U => a = as.toArray ∧ s.Warmed39 U.vm ∧ U.heap = s.heap) (fun _ _ _ _ _ => True) (fun _ U o U' => ∃ v L, o = .returned v ∧ (v = rv.map (sh s.heap.size) ∧ Fr s.heap.size L) ∧ FrameEnd U o U' L k0 k1) := by
  refine MetFree.of_bodySF pn hisR ?_
  intro p e U m args below meth c s₁ Bd hml0 hP hK
  obtain ⟨rfl, hZ, hU⟩ := hP
  have X0 : Stand p l e room_1 U m _ below meth c s₁ [] 0 0 := Stand.of_body Bd
  have e0 : s₁.heap = U.heap := by rw [Bd.state]; rfl
  have k := body (p, e, room_1, U, m, as.toArray, below, meth, c, k0, k1) ⟨Bd.exec, hZ, findClass_of_methodNamed Bd.named, Bd.bytes, hml0, Bd.returns, Bd.notSynchronized, rfl, (name_of_methodNamed Bd.named Bd.method).1, rfl, rfl, hw⟩
  subst hL
  have S0 : Sim (l, s, a0, s.heap.size) [] s₁.heap := ⟨by rw [e0, hU]; rfl, fun i o h => by simp at h⟩
  have er := entry_rel s.heap.size as maxLocals
  rw [hid] at er
  obtain ⟨t, o, h1, h2, h3, v, L, h4, ⟨h5, h6, h7, h8⟩, h9⟩ := k s₁ [] _ X0 (Fr.nil _) S0 (by rw [hU]; rfl) er
  exact ⟨t, o, h1, h2, h3, v, L, h4, ⟨h5, h6⟩, h9⟩
theorem Ok.w (O : Ok G K own bytes maxL ret R mn kc ks) : ∀ d ∈ tables_1, d.before G.2.2.1 G.2.1 = true := by
  obtain ⟨l, Z, a0, n⟩ := G; obtain ⟨p, e, R', s, m, args, below, meth, c, kc', ks'⟩ := K
  obtain ⟨-, -, -, -, -, -, -, -, -, -, -, hw⟩ := O
  exact hw
theorem bnd {α β : Type} {o : Option α} {f : α → Option β} {b : β} (h : o.bind f = some b) : ∃ a, o = some a ∧ f a = some b := Option.bind_eq_some_iff.mp h
theorem g_static1 {ix : Nat} {y : MethodName} {bytes' : ByteArray} {maxL' : Nat} {ret' : Option FieldType} {rm : Room} {as : List Value} {H' : List Obj} {v : Value} {ps : List FieldType} {W : Nat} {stk : List Value} (O : Ok G K own bytes maxL ret R mn kc ks) (hd : decode bytes pc = .ok (.invokestatic ix, 3))
    (w1 : Jvm.Cond.methodLink own ix y ∈ tables_1) (w2 : Jvm.Cond.static y ∈ tables_1) (w3 : Jvm.Cond.initialized y.cls ∈ tables_1) (w4 : Jvm.Cond.code y bytes' maxL' ret' ∈ tables_1) (hy : y.cls ≠ "java/lang/invoke/MethodHandle" ∧ y.cls ≠ "java/lang/invoke/VarHandle")
    (pd : parseMethodDescriptor y.desc = some ⟨ps, ret'⟩) (hl : as.length = ps.length) (hstk : stk = as.reverse ++ st) (hLs : Ls.length = maxL) (hW : (st.map fun v => v.category).sum = W) (hf : rm.frames + 1 ≤ R.frames) (hlo : W + (maxL' + 11) + rm.locals ≤ R.locals) {c2 s2 : Nat} (hc2 : cells + rm.cells = c2) (hs2 : slots + rm.slots = s2) (hc : c2 ≤ R.cells) (hs : s2 ≤ R.slots)
    (con : Con G y bytes' maxL' ret' rm as H (some v) H') (hp : pc + 3 = pc') (k : Run G K rv Hf pc' Ls (v :: st) H' c2 s2) : Run G K rv Hf pc Ls stk H cells slots := g_static O hd w1 w2 w3 w4 hy pd hl hstk hLs hW hf hlo hc2 hs2 hc hs con hp k
theorem g_static0 {ix : Nat} {y : MethodName} {bytes' : ByteArray} {maxL' : Nat} {ret' : Option FieldType} {rm : Room} {as : List Value} {H' : List Obj} {ps : List FieldType} {W : Nat} {stk : List Value} (O : Ok G K own bytes maxL ret R mn kc ks) (hd : decode bytes pc = .ok (.invokestatic ix, 3))
    (w1 : Jvm.Cond.methodLink own ix y ∈ tables_1) (w2 : Jvm.Cond.static y ∈ tables_1) (w3 : Jvm.Cond.initialized y.cls ∈ tables_1) (w4 : Jvm.Cond.code y bytes' maxL' ret' ∈ tables_1) (hy : y.cls ≠ "java/lang/invoke/MethodHandle" ∧ y.cls ≠ "java/lang/invoke/VarHandle")
    (pd : parseMethodDescriptor y.desc = some ⟨ps, ret'⟩) (hl : as.length = ps.length) (hstk : stk = as.reverse ++ st) (hLs : Ls.length = maxL) (hW : (st.map fun v => v.category).sum = W) (hf : rm.frames + 1 ≤ R.frames) (hlo : W + (maxL' + 11) + rm.locals ≤ R.locals) {c2 s2 : Nat} (hc2 : cells + rm.cells = c2) (hs2 : slots + rm.slots = s2) (hc : c2 ≤ R.cells) (hs : s2 ≤ R.slots)
    (con : Con G y bytes' maxL' ret' rm as H none H') (hp : pc + 3 = pc') (k : Run G K rv Hf pc' Ls st H' c2 s2) : Run G K rv Hf pc Ls stk H cells slots := g_static O hd w1 w2 w3 w4 hy pd hl hstk hLs hW hf hlo hc2 hs2 hc hs con hp k
theorem g_virtual1 {ix i t : Nat} {y : MethodName} {bytes' : ByteArray} {maxL' : Nat} {ret' : Option FieldType} {rm : Room} {as vs : List Value} {H' : List Obj} {v : Value} {ps : List FieldType} {W : Nat} {stk : List Value} (O : Ok G K own bytes maxL ret R mn kc ks) (hd : decode bytes pc = .ok (.invokevirtual ix, 3))
    (w1 : Jvm.Cond.methodLink own ix y ∈ tables_1) (w2 : Jvm.Cond.declares y ∈ tables_1) (w5 : Jvm.Cond.selects (lay t).1 y y ∈ tables_1) (w6 : Jvm.Cond.instanceMethod y ∈ tables_1) (w3 : Jvm.Cond.initialized y.cls ∈ tables_1) (w4 : Jvm.Cond.code y bytes' maxL' ret' ∈ tables_1) (hy : y.cls ≠ "java/lang/invoke/MethodHandle" ∧ y.cls ≠ "java/lang/invoke/VarHandle")
    (ho : obj t H i = some vs) (pd : parseMethodDescriptor y.desc = some ⟨ps, ret'⟩) (hl : as.length = ps.length) (hstk : stk = as.reverse ++ .ref i :: st) (hLs : Ls.length = maxL) (hW : (st.map fun v => v.category).sum = W) (hf : rm.frames + 1 ≤ R.frames) (hlo : W + (maxL' + 11) + rm.locals ≤ R.locals) {c2 s2 : Nat} (hc2 : cells + rm.cells = c2) (hs2 : slots + rm.slots = s2) (hc : c2 ≤ R.cells) (hs : s2 ≤ R.slots)
    (con : Con G y bytes' maxL' ret' rm (.ref i :: as) H (some v) H') (hp : pc + 3 = pc') (k : Run G K rv Hf pc' Ls (v :: st) H' c2 s2) : Run G K rv Hf pc Ls stk H cells slots := g_virtual O hd w1 w2 w5 w6 w3 w4 hy ho pd hl hstk hLs hW hf hlo hc2 hs2 hc hs con hp k
theorem g_virtual0 {ix i t : Nat} {y : MethodName} {bytes' : ByteArray} {maxL' : Nat} {ret' : Option FieldType} {rm : Room} {as vs : List Value} {H' : List Obj} {ps : List FieldType} {W : Nat} {stk : List Value} (O : Ok G K own bytes maxL ret R mn kc ks) (hd : decode bytes pc = .ok (.invokevirtual ix, 3))
    (w1 : Jvm.Cond.methodLink own ix y ∈ tables_1) (w2 : Jvm.Cond.declares y ∈ tables_1) (w5 : Jvm.Cond.selects (lay t).1 y y ∈ tables_1) (w6 : Jvm.Cond.instanceMethod y ∈ tables_1) (w3 : Jvm.Cond.initialized y.cls ∈ tables_1) (w4 : Jvm.Cond.code y bytes' maxL' ret' ∈ tables_1) (hy : y.cls ≠ "java/lang/invoke/MethodHandle" ∧ y.cls ≠ "java/lang/invoke/VarHandle")
    (ho : obj t H i = some vs) (pd : parseMethodDescriptor y.desc = some ⟨ps, ret'⟩) (hl : as.length = ps.length) (hstk : stk = as.reverse ++ .ref i :: st) (hLs : Ls.length = maxL) (hW : (st.map fun v => v.category).sum = W) (hf : rm.frames + 1 ≤ R.frames) (hlo : W + (maxL' + 11) + rm.locals ≤ R.locals) {c2 s2 : Nat} (hc2 : cells + rm.cells = c2) (hs2 : slots + rm.slots = s2) (hc : c2 ≤ R.cells) (hs : s2 ≤ R.slots)
    (con : Con G y bytes' maxL' ret' rm (.ref i :: as) H none H') (hp : pc + 3 = pc') (k : Run G K rv Hf pc' Ls st H' c2 s2) : Run G K rv Hf pc Ls stk H cells slots := g_virtual O hd w1 w2 w5 w6 w3 w4 hy ho pd hl hstk hLs hW hf hlo hc2 hs2 hc hs con hp k
/-- clone() of an int[] -/
def cloneI (cap : Nat) (H : List Obj) (i : Nat) : Option (List Obj) := (arr .int H i).bind fun vs => if vs.length ≤ cap ∧ vs.all (fun v => (getI v).isSome) = true then some (H ++ [.inl (.int, vs)]) else none
theorem g_cloneI {ix i cap W : Nat} {H' : List Obj} (O : Ok G K own bytes maxL ret R mn kc ks) (hd : decode bytes pc = .ok (.invokevirtual ix, 3)) (w1 : Jvm.Cond.methodLink own ix (⟨"[I", "clone", "()Ljava/lang/Object;"⟩ : MethodName) ∈ tables_1) (w2 : Jvm.Cond.sameMethod "[I" "java/lang/Object" "clone" "()Ljava/lang/Object;" ∈ tables_1) (w3 : Jvm.Cond.native (⟨"java/lang/Object", "clone", "()Ljava/lang/Object;"⟩ : MethodName) ∈ tables_1)
    (w4 : Jvm.Cond.instanceMethod (⟨"java/lang/Object", "clone", "()Ljava/lang/Object;"⟩ : MethodName) ∈ tables_1) (w5 : Jvm.Cond.selects "[I" (⟨"[I", "clone", "()Ljava/lang/Object;"⟩ : MethodName) (⟨"java/lang/Object", "clone", "()Ljava/lang/Object;"⟩ : MethodName) ∈ tables_1) (w6 : Jvm.Cond.castable "[I" "java/lang/Cloneable" ∈ tables_1) (hr : cloneI cap H i = some H')
    (hLs : Ls.length = maxL) (hW : (st.map fun v => v.category).sum = W) (hf : 1 ≤ R.frames) (hl : W + 14 ≤ R.locals) {c2 s2 : Nat} (hc2 : cells + 1 = c2) (hs2 : slots + cap = s2) (hc : c2 ≤ R.cells) (hs : s2 ≤ R.slots) (hp : pc + 3 = pc')
    (k : Run G K rv Hf pc' Ls (.ref H.length :: st) H' c2 s2) : Run G K rv Hf pc Ls (.ref i :: st) H cells slots := by
  obtain ⟨l, Z, a0, n⟩ := G; obtain ⟨p, e, R', s, m, args, below, meth, c, kc', ks'⟩ := K
  obtain ⟨hx, hZ, hown, hby, hml, hret, hlk, rfl, hnm, rfl, rfl, hw⟩ := O
  subst hp hc2 hs2
  intro T locs real X N S A L
  obtain ⟨vs, h1, h2⟩ := bnd hr
  have hv : vs.length ≤ cap ∧ vs.all (fun v => (getI v).isSome) = true := Decidable.byContradiction fun hv => by rw [if_neg hv] at h2; cases h2
  rw [if_pos hv] at h2
  cases h2
  obtain ⟨EX, cl, B, es⟩ := S.2 i _ (arr_e h1)
  have FC : FitC Z cl := fitC_of B fun j hj v hjv => by
    rw [es] at hjv
    simp only [List.getElem?_toArray, List.getElem?_map, Option.map_eq_some_iff] at hjv
    obtain ⟨u, q1, q2⟩ := hjv
    have := List.all_eq_true.mp hv.2 u (List.mem_of_getElem? q1)
    cases u <;> simp [getI] at this
    rw [← q2]; rfl
  obtain ⟨T', h', X', e', E, B', EX', stp⟩ := cloneA X hx hZ hown (hw _ w1) (hw _ w2) (hw _ w3) (hw _ w4) (hw _ w5) (hw _ w6) rfl B EX FC (g := mkF m pc real ((.ref i :: st).map (sh n))) rfl (by show real.size = _; rw [L.1, hml]; exact hLs) rfl (hb hby hd) hf (W := W) (cap := cap) (by show 2 * 0 + _ ≤ _; rw [cat_sum, hW]; exact Nat.le_of_eq (Nat.zero_add _)) hl (by rw [sl_len es]; exact hv.1) hc hs
  have hsz : h'.size = T.heap.size + 1 := by
    have a1 : Array.size T.heap < Array.size h' := B'.lt
    have a2 : Array.size T'.heap ≤ Array.size s.heap + (cells + 1) := X'.heapSize
    rw [e'] at a2
    have a3 : Array.size T.heap = n + H.length := S.1
    have a4 : Array.size s.heap + cells = n + H.length := A
    omega
  have ea : T.heap.size = n + H.length := S.1
  have S' : Sim (l, Z, a0, n) (H ++ [.inl (.int, vs)]) T'.heap := by
    rw [e']
    exact sim_ext S E hsz ⟨EX', _, B', es⟩
  refine Done.step stp ?_
  have k' := k T' locs real X' N S' (by simp only [List.length_append, List.length_singleton] at A ⊢; omega) L
  rw [ea]
  exact k'
theorem g_checkcastI {ix i : Nat} {vs : List Value} (O : Ok G K own bytes maxL ret R mn kc ks) (hd : decode bytes pc = .ok (.checkcast ix, 3)) (w1 : Jvm.Cond.classLink own ix "[I" ∈ tables_1) (ha : arr .int H i = some vs) (hp : pc + 3 = pc')
    (k : Run G K rv Hf pc' Ls (.ref i :: st) H cells slots) : Run G K rv Hf pc Ls (.ref i :: st) H cells slots := by
  obtain ⟨l, Z, a0, n⟩ := G; obtain ⟨p, e, R', s, m, args, below, meth, c, kc', ks'⟩ := K
  obtain ⟨hx, hZ, hown, hby, hml, hret, hlk, rfl, hnm, rfl, rfl, hw⟩ := O
  subst hp
  intro T locs real X N S A L
  obtain ⟨EX, cl, B, es⟩ := S.2 i _ (arr_e ha)
  obtain ⟨T', X', e', stp⟩ := castY X hx hZ hown (hw _ w1) rfl (Ins.self EX) (g := mkF m pc real ((.ref i :: st).map (sh n))) rfl rfl (hb hby hd)
  exact Done.step stp (k T' locs real X' N (by rw [e']; exact S) A L)
end Laws
/-! small facts on numbers -/
theorem own_n0 : nar .boolean 0 = 0 := rfl
theorem own_n1 : nar .boolean 1 = 1 := rfl
theorem own_fin {r : Int32} {N : Nat} (h0 : 0 ≤ r.toInt) (h1 : r.toInt < N) (hN : N ≤ 2147483648) : ∃ j : Fin N, r = (j.1).toInt32 := by
  refine ⟨⟨r.toInt.toNat, by omega⟩, Int32.toInt_inj.mp ?_⟩
  show r.toInt = (r.toInt.toNat).toInt32.toInt
  rw [len_toInt (by show r.toInt.toNat < 2 ^ 31; omega)]
  omega
theorem own_lt {x y : Int32} : x < y ↔ x.toInt < y.toInt := Int32.lt_iff_toInt_lt
theorem own_le {x y : Int32} : x ≤ y ↔ x.toInt ≤ y.toInt := Int32.le_iff_toInt_le
theorem own_eq {x y : Int32} : x = y ↔ x.toInt = y.toInt := Int32.toInt_inj.symm
theorem own_ltL {x y : Int64} : x < y ↔ x.toInt < y.toInt := Int64.lt_iff_toInt_lt
theorem own_eqL {x y : Int64} : x = y ↔ x.toInt = y.toInt := Int64.toInt_inj.symm
/-- x & (2^31 - 1), then a remainder by a small number -/
theorem own_m31 (a : Int32) : (a &&& 2147483647).toInt = a.toInt % 2147483648 := c_mask a 2147483647 31 (by decide) (by decide)
theorem own_mod {a y : Int32} {d : Int} (hy : y.toInt = d) (h : 0 ≤ a.toInt) : (a % y).toInt = a.toInt % d := (c_irem a y d hy).1 h

/-! body 1 -/
theorem d1_0 : decode prog_3_method_1_code 0 = .ok (.aload_n 0, 1) := by decide +kernel
theorem d1_1 : decode prog_3_method_1_code 1 = .ok (.invokespecial 3, 3) := by decide +kernel
theorem d1_4 : decode prog_3_method_1_code 4 = .ok (.return_, 1) := by decide +kernel
theorem pd1 : parseMethodDescriptor "()V" = some ⟨[], none⟩ := by decide +kernel
theorem pn1 : plainFor (⟨"com/example/lexweave/lexweave/AutomatonSize", "<init>", "()V"⟩ : MethodName) = true := by first | exact plainFor_of_name (by first | (simp [plainName, overriddenIn]; done) | decide +kernel) | decide +kernel
abbrev rm1 : Room := { frames := 1, cells := 0, slots := 0, locals := 12 }
abbrev Ok1 (G : Gx) (K : Kx) : Prop := Ok G K "com/example/lexweave/lexweave/AutomatonSize" prog_3_method_1_code 1 (Option.none : Option FieldType) rm1 "<init>" 0 0
def m1_b0 (v0 : Nat) : Unit :=
  ()
theorem m1_t0 {G : Gx} {K : Kx} (O : Ok1 G K) (v0 : Nat) (H : List Obj) : Run G K none H 0 [some (.ref v0)] [] H 0 0 := by
  refine g_aload_n O (pc' := 1) d1_0 (v := v0) rfl rfl ?_
  refine g_objinit O (pc' := 4) d1_1 tw6 tw7 tw8 rfl (W := 0) rfl (by decide) (by decide) rfl ?_
  exact g_ret_void O d1_4 rfl (by decide)
theorem con1 {G : Gx} (hw : ∀ d ∈ tables_1, d.before G.2.2.1 G.2.1 = true) (v0 : Nat) (H : List Obj) : Con G (⟨"com/example/lexweave/lexweave/AutomatonSize", "<init>", "()V"⟩ : MethodName) prog_3_method_1_code 1 (Option.none : Option FieldType) rm1 [(.ref v0)] H none H :=
  con_of hw pn1 rfl fun K O => m1_t0 O v0 H

/-! body 2 -/
theorem d2_0 : decode prog_3_method_4_code 0 = .ok (.aload_n 0, 1) := by decide +kernel
theorem d2_1 : decode prog_3_method_4_code 1 = .ok (.dup, 1) := by decide +kernel
theorem d2_2 : decode prog_3_method_4_code 2 = .ok (.getfield 9, 3) := by decide +kernel
theorem d2_5 : decode prog_3_method_4_code 5 = .ok (.aload_n 1, 1) := by decide +kernel
theorem d2_6 : decode prog_3_method_4_code 6 = .ok (.getfield 9, 3) := by decide +kernel
theorem d2_9 : decode prog_3_method_4_code 9 = .ok (.iadd, 1) := by decide +kernel
theorem d2_10 : decode prog_3_method_4_code 10 = .ok (.putfield 9, 3) := by decide +kernel
theorem d2_13 : decode prog_3_method_4_code 13 = .ok (.aload_n 0, 1) := by decide +kernel
theorem d2_14 : decode prog_3_method_4_code 14 = .ok (.dup, 1) := by decide +kernel
theorem d2_15 : decode prog_3_method_4_code 15 = .ok (.getfield 21, 3) := by decide +kernel
theorem d2_18 : decode prog_3_method_4_code 18 = .ok (.aload_n 1, 1) := by decide +kernel
theorem d2_19 : decode prog_3_method_4_code 19 = .ok (.getfield 21, 3) := by decide +kernel
theorem d2_22 : decode prog_3_method_4_code 22 = .ok (.iadd, 1) := by decide +kernel
theorem d2_23 : decode prog_3_method_4_code 23 = .ok (.putfield 21, 3) := by decide +kernel
theorem d2_26 : decode prog_3_method_4_code 26 = .ok (.aload_n 0, 1) := by decide +kernel
theorem d2_27 : decode prog_3_method_4_code 27 = .ok (.dup, 1) := by decide +kernel
theorem d2_28 : decode prog_3_method_4_code 28 = .ok (.getfield 24, 3) := by decide +kernel
theorem d2_31 : decode prog_3_method_4_code 31 = .ok (.aload_n 1, 1) := by decide +kernel
theorem d2_32 : decode prog_3_method_4_code 32 = .ok (.getfield 24, 3) := by decide +kernel
theorem d2_35 : decode prog_3_method_4_code 35 = .ok (.ladd, 1) := by decide +kernel
theorem d2_36 : decode prog_3_method_4_code 36 = .ok (.putfield 24, 3) := by decide +kernel
theorem d2_39 : decode prog_3_method_4_code 39 = .ok (.aload_n 0, 1) := by decide +kernel
theorem d2_40 : decode prog_3_method_4_code 40 = .ok (.dup, 1) := by decide +kernel
theorem d2_41 : decode prog_3_method_4_code 41 = .ok (.getfield 32, 3) := by decide +kernel
theorem d2_44 : decode prog_3_method_4_code 44 = .ok (.aload_n 1, 1) := by decide +kernel
theorem d2_45 : decode prog_3_method_4_code 45 = .ok (.getfield 32, 3) := by decide +kernel
theorem d2_48 : decode prog_3_method_4_code 48 = .ok (.ladd, 1) := by decide +kernel
theorem d2_49 : decode prog_3_method_4_code 49 = .ok (.putfield 32, 3) := by decide +kernel
theorem d2_52 : decode prog_3_method_4_code 52 = .ok (.return_, 1) := by decide +kernel
theorem pd2 : parseMethodDescriptor "(Lcom/example/lexweave/lexweave/AutomatonSize;)V" = some ⟨[.object "com/example/lexweave/lexweave/AutomatonSize"], none⟩ := by decide +kernel
theorem pn2 : plainFor (⟨"com/example/lexweave/lexweave/AutomatonSize", "add", "(Lcom/example/lexweave/lexweave/AutomatonSize;)V"⟩ : MethodName) = true := by first | exact plainFor_of_name (by first | (simp [plainName, overriddenIn]; done) | decide +kernel) | decide +kernel
abbrev rm2 : Room := { frames := 0, cells := 0, slots := 0, locals := 0 }
abbrev Ok2 (G : Gx) (K : Kx) : Prop := Ok G K "com/example/lexweave/lexweave/AutomatonSize" prog_3_method_4_code 2 (Option.none : Option FieldType) rm2 "add" 0 0
def m2_b0 (v0 : Nat) (v1 : Nat) (H : List Obj) : Option (List Obj) :=
  (fldI 0 0 H v0).bind fun x2 =>
  (fldI 0 0 H v1).bind fun x6 =>
  (setF 0 0 H v0 (.int (x2 + x6))).bind fun H10 =>
  (fldI 0 1 H10 v0).bind fun x15 =>
  (fldI 0 1 H10 v1).bind fun x19 =>
  (setF 0 1 H10 v0 (.int (x15 + x19))).bind fun H23 =>
  (fldJ 0 2 H23 v0).bind fun x28 =>
  (fldJ 0 2 H23 v1).bind fun x32 =>
  (setF 0 2 H23 v0 (.long (x28 + x32))).bind fun H36 =>
  (fldJ 0 3 H36 v0).bind fun x41 =>
  (fldJ 0 3 H36 v1).bind fun x45 =>
  (setF 0 3 H36 v0 (.long (x41 + x45))).bind fun H49 =>
  some H49
theorem m2_t0 {G : Gx} {K : Kx} (O : Ok2 G K) (v0 : Nat) (v1 : Nat) (H : List Obj) (_ : Unit) (Hf : List Obj) (hf : m2_b0 v0 v1 H = some Hf) : Run G K none Hf 0 [some (.ref v0), some (.ref v1)] [] H 0 0 := by
  unfold m2_b0 at hf
  refine g_aload_n O (pc' := 1) d2_0 (v := v0) rfl rfl ?_
  refine g_dup O (pc' := 2) d2_1 rfl rfl ?_
  obtain ⟨x2, h2, hf⟩ := bnd hf
  refine g_getfield O (pc' := 5) d2_2 (t := 0) (kf := 0) rfl tw14 (fldI_e h2) rfl ?_
  refine g_aload_n O (pc' := 6) d2_5 (v := v1) rfl rfl ?_
  obtain ⟨x6, h6, hf⟩ := bnd hf
  refine g_getfield O (pc' := 9) d2_6 (t := 0) (kf := 0) rfl tw14 (fldI_e h6) rfl ?_
  refine g_iadd O (pc' := 10) d2_9 rfl ?_
  obtain ⟨H10, h10, hf⟩ := bnd hf
  refine g_putfield O (pc' := 13) d2_10 (t := 0) (kf := 0) rfl tw14 (Or.inl tw15) tw1 (ty := .int) (by decide) (fun _ => rfl) (fun _ => rfl) h10 rfl ?_
  refine g_aload_n O (pc' := 14) d2_13 (v := v0) rfl rfl ?_
  refine g_dup O (pc' := 15) d2_14 rfl rfl ?_
  obtain ⟨x15, h15, hf⟩ := bnd hf
  refine g_getfield O (pc' := 18) d2_15 (t := 0) (kf := 1) rfl tw16 (fldI_e h15) rfl ?_
  refine g_aload_n O (pc' := 19) d2_18 (v := v1) rfl rfl ?_
  obtain ⟨x19, h19, hf⟩ := bnd hf
  refine g_getfield O (pc' := 22) d2_19 (t := 0) (kf := 1) rfl tw16 (fldI_e h19) rfl ?_
  refine g_iadd O (pc' := 23) d2_22 rfl ?_
  obtain ⟨H23, h23, hf⟩ := bnd hf
  refine g_putfield O (pc' := 26) d2_23 (t := 0) (kf := 1) rfl tw16 (Or.inl tw17) tw1 (ty := .int) (by decide) (fun _ => rfl) (fun _ => rfl) h23 rfl ?_
  refine g_aload_n O (pc' := 27) d2_26 (v := v0) rfl rfl ?_
  refine g_dup O (pc' := 28) d2_27 rfl rfl ?_
  obtain ⟨x28, h28, hf⟩ := bnd hf
  refine g_getfield O (pc' := 31) d2_28 (t := 0) (kf := 2) rfl tw18 (fldJ_e h28) rfl ?_
  refine g_aload_n O (pc' := 32) d2_31 (v := v1) rfl rfl ?_
  obtain ⟨x32, h32, hf⟩ := bnd hf
  refine g_getfield O (pc' := 35) d2_32 (t := 0) (kf := 2) rfl tw18 (fldJ_e h32) rfl ?_
  refine g_ladd O (pc' := 36) d2_35 rfl ?_
  obtain ⟨H36, h36, hf⟩ := bnd hf
  refine g_putfield O (pc' := 39) d2_36 (t := 0) (kf := 2) rfl tw18 (Or.inl tw19) tw1 (ty := .long) (by decide) (fun _ => rfl) (fun _ => rfl) h36 rfl ?_
  refine g_aload_n O (pc' := 40) d2_39 (v := v0) rfl rfl ?_
  refine g_dup O (pc' := 41) d2_40 rfl rfl ?_
  obtain ⟨x41, h41, hf⟩ := bnd hf
  refine g_getfield O (pc' := 44) d2_41 (t := 0) (kf := 3) rfl tw20 (fldJ_e h41) rfl ?_
  refine g_aload_n O (pc' := 45) d2_44 (v := v1) rfl rfl ?_
  obtain ⟨x45, h45, hf⟩ := bnd hf
  refine g_getfield O (pc' := 48) d2_45 (t := 0) (kf := 3) rfl tw20 (fldJ_e h45) rfl ?_
  refine g_ladd O (pc' := 49) d2_48 rfl ?_
  obtain ⟨H49, h49, hf⟩ := bnd hf
  refine g_putfield O (pc' := 52) d2_49 (t := 0) (kf := 3) rfl tw20 (Or.inl tw21) tw1 (ty := .long) (by decide) (fun _ => rfl) (fun _ => rfl) h49 rfl ?_
  cases hf
  exact g_ret_void O d2_52 rfl (by decide)
abbrev m2 (v0 : Nat) (v1 : Nat) (H : List Obj) : Option (List Obj) := m2_b0 v0 v1 H
theorem con2 {G : Gx} (hw : ∀ d ∈ tables_1, d.before G.2.2.1 G.2.1 = true) (v0 : Nat) (v1 : Nat) (H : List Obj) {Hf : List Obj} (hf : m2 v0 v1 H = some Hf) : Con G (⟨"com/example/lexweave/lexweave/AutomatonSize", "add", "(Lcom/example/lexweave/lexweave/AutomatonSize;)V"⟩ : MethodName) prog_3_method_4_code 2 (Option.none : Option FieldType) rm2 [(.ref v0), (.ref v1)] H none Hf :=
  con_of hw pn2 rfl fun K O => m2_t0 O v0 v1 H () Hf hf

/-! body 3 -/
theorem d3_0 : decode prog_3_method_5_code 0 = .ok (.aload_n 0, 1) := by decide +kernel
theorem d3_1 : decode prog_3_method_5_code 1 = .ok (.getfield 9, 3) := by decide +kernel
theorem d3_4 : decode prog_3_method_5_code 4 = .ok (.ldc 13, 2) := by decide +kernel
theorem d3_6 : decode prog_3_method_5_code 6 = .ok (.if_icmp .ge 34, 3) := by decide +kernel
theorem d3_9 : decode prog_3_method_5_code 9 = .ok (.aload_n 0, 1) := by decide +kernel
theorem d3_10 : decode prog_3_method_5_code 10 = .ok (.getfield 21, 3) := by decide +kernel
theorem d3_13 : decode prog_3_method_5_code 13 = .ok (.ldc 13, 2) := by decide +kernel
theorem d3_15 : decode prog_3_method_5_code 15 = .ok (.if_icmp .ge 25, 3) := by decide +kernel
theorem d3_18 : decode prog_3_method_5_code 18 = .ok (.aload_n 0, 1) := by decide +kernel
theorem d3_19 : decode prog_3_method_5_code 19 = .ok (.getfield 24, 3) := by decide +kernel
theorem d3_22 : decode prog_3_method_5_code 22 = .ok (.ldc2_w 28, 3) := by decide +kernel
theorem d3_25 : decode prog_3_method_5_code 25 = .ok (.lcmp, 1) := by decide +kernel
theorem d3_26 : decode prog_3_method_5_code 26 = .ok (.ifCond .ge 14, 3) := by decide +kernel
theorem d3_29 : decode prog_3_method_5_code 29 = .ok (.aload_n 0, 1) := by decide +kernel
theorem d3_30 : decode prog_3_method_5_code 30 = .ok (.getfield 32, 3) := by decide +kernel
theorem d3_33 : decode prog_3_method_5_code 33 = .ok (.ldc2_w 35, 3) := by decide +kernel
theorem d3_36 : decode prog_3_method_5_code 36 = .ok (.lcmp, 1) := by decide +kernel
theorem d3_37 : decode prog_3_method_5_code 37 = .ok (.ifCond .lt 7, 3) := by decide +kernel
theorem d3_40 : decode prog_3_method_5_code 40 = .ok (.iconst 1, 1) := by decide +kernel
theorem d3_41 : decode prog_3_method_5_code 41 = .ok (.goto 4, 3) := by decide +kernel
theorem d3_44 : decode prog_3_method_5_code 44 = .ok (.iconst 0, 1) := by decide +kernel
theorem d3_45 : decode prog_3_method_5_code 45 = .ok (.ireturn, 1) := by decide +kernel
theorem pd3 : parseMethodDescriptor "()Z" = some ⟨[], some .boolean⟩ := by decide +kernel
theorem pn3 : plainFor (⟨"com/example/lexweave/lexweave/AutomatonSize", "reachesALimit", "()Z"⟩ : MethodName) = true := by first | exact plainFor_of_name (by first | (simp [plainName, overriddenIn]; done) | decide +kernel) | decide +kernel
abbrev rm3 : Room := { frames := 0, cells := 0, slots := 0, locals := 0 }
abbrev Ok3 (G : Gx) (K : Kx) : Prop := Ok G K "com/example/lexweave/lexweave/AutomatonSize" prog_3_method_5_code 1 (Option.some FieldType.boolean) rm3 "reachesALimit" 0 0
def m3_b45 (t0 : Int32) (H : List Obj) : Option (Int32 × List Obj) :=
  some ((nar .boolean t0), H)
theorem m3_t45 {G : Gx} {K : Kx} (O : Ok3 G K) (t0 : Int32) (H : List Obj) (r : Int32) (Hf : List Obj) (hf : m3_b45 t0 H = some (r, Hf)) : Run G K (some (.int r)) Hf 45 [none] [(.int t0)] H 0 0 := by
  unfold m3_b45 at hf
  cases hf
  exact g_ret_nar O d3_45 (by simp) rfl rfl (by decide)
def m3_b40 (H : List Obj) : Option (Int32 × List Obj) :=
  m3_b45 (1 : Int32) H
theorem m3_t40 {G : Gx} {K : Kx} (O : Ok3 G K) (H : List Obj) (r : Int32) (Hf : List Obj) (hf : m3_b40 H = some (r, Hf)) : Run G K (some (.int r)) Hf 40 [none] [] H 0 0 := by
  unfold m3_b40 at hf
  refine g_iconst O (pc' := 41) d3_40 (v := 1) (by decide) rfl ?_
  refine g_goto O d3_41 (by decide) (pc' := 45) (by decide) ?_
  exact m3_t45 O (1 : Int32) H _ _ hf
def m3_b0 (v0 : Nat) (H : List Obj) : Option (Int32 × List Obj) :=
  (fldI 0 0 H v0).bind fun x1 =>
  if x1 < (262144 : Int32) then
    (fldI 0 1 H v0).bind fun x10 =>
    if x10 < (262144 : Int32) then
      (fldJ 0 2 H v0).bind fun x19 =>
      if x19 < (16777216 : Int64) then
        (fldJ 0 3 H v0).bind fun x30 =>
        if x30 < (67108864 : Int64) then
          m3_b45 (0 : Int32) H
        else
          m3_b40 H
      else
        m3_b40 H
    else
      m3_b40 H
  else
    m3_b40 H
theorem m3_t0 {G : Gx} {K : Kx} (O : Ok3 G K) (v0 : Nat) (H : List Obj) (r : Int32) (Hf : List Obj) (hf : m3_b0 v0 H = some (r, Hf)) : Run G K (some (.int r)) Hf 0 [some (.ref v0)] [] H 0 0 := by
  unfold m3_b0 at hf
  refine g_aload_n O (pc' := 1) d3_0 (v := v0) rfl rfl ?_
  obtain ⟨x1, h1, hf⟩ := bnd hf
  refine g_getfield O (pc' := 4) d3_1 (t := 0) (kf := 0) rfl tw14 (fldI_e h1) rfl ?_
  refine g_ldc O (pc' := 6) d3_4 tw27 rfl ?_
  refine g_icmp_ge O (pc' := 9) d3_6 rfl (by decide) (pc1 := 40) (by decide) (fun h6 => ?_) (fun h6 => ?_)
  · rw [if_neg h6] at hf
    refine g_forget (Ls' := [none]) trivial ?_
    exact m3_t40 O H _ _ hf
  · rw [if_pos h6] at hf
    refine g_aload_n O (pc' := 10) d3_9 (v := v0) rfl rfl ?_
    obtain ⟨x10, h10, hf⟩ := bnd hf
    refine g_getfield O (pc' := 13) d3_10 (t := 0) (kf := 1) rfl tw16 (fldI_e h10) rfl ?_
    refine g_ldc O (pc' := 15) d3_13 tw27 rfl ?_
    refine g_icmp_ge O (pc' := 18) d3_15 rfl (by decide) (pc1 := 40) (by decide) (fun h15 => ?_) (fun h15 => ?_)
    · rw [if_neg h15] at hf
      refine g_forget (Ls' := [none]) trivial ?_
      exact m3_t40 O H _ _ hf
    · rw [if_pos h15] at hf
      refine g_aload_n O (pc' := 19) d3_18 (v := v0) rfl rfl ?_
      obtain ⟨x19, h19, hf⟩ := bnd hf
      refine g_getfield O (pc' := 22) d3_19 (t := 0) (kf := 2) rfl tw18 (fldJ_e h19) rfl ?_
      refine g_ldc2 O (pc' := 25) d3_22 tw28 rfl ?_
      refine g_lcmp_ge O (pc' := 29) d3_25 rfl d3_26 rfl (by decide) (pc1 := 40) (by decide) (fun h26 => ?_) (fun h26 => ?_)
      · rw [if_neg h26] at hf
        refine g_forget (Ls' := [none]) trivial ?_
        exact m3_t40 O H _ _ hf
      · rw [if_pos h26] at hf
        refine g_aload_n O (pc' := 30) d3_29 (v := v0) rfl rfl ?_
        obtain ⟨x30, h30, hf⟩ := bnd hf
        refine g_getfield O (pc' := 33) d3_30 (t := 0) (kf := 3) rfl tw20 (fldJ_e h30) rfl ?_
        refine g_ldc2 O (pc' := 36) d3_33 tw29 rfl ?_
        refine g_lcmp_lt O (pc' := 40) d3_36 rfl d3_37 rfl (by decide) (pc1 := 44) (by decide) (fun h37 => ?_) (fun h37 => ?_)
        · rw [if_pos h37] at hf
          refine g_iconst O (pc' := 45) d3_44 (v := 0) (by decide) rfl ?_
          refine g_forget (Ls' := [none]) trivial ?_
          exact m3_t45 O (0 : Int32) H _ _ hf
        · rw [if_neg h37] at hf
          refine g_forget (Ls' := [none]) trivial ?_
          exact m3_t40 O H _ _ hf
abbrev m3 (v0 : Nat) (H : List Obj) : Option (Int32 × List Obj) := m3_b0 v0 H
theorem con3 {G : Gx} (hw : ∀ d ∈ tables_1, d.before G.2.2.1 G.2.1 = true) (v0 : Nat) (H : List Obj) {r : Int32} {Hf : List Obj} (hf : m3 v0 H = some (r, Hf)) : Con G (⟨"com/example/lexweave/lexweave/AutomatonSize", "reachesALimit", "()Z"⟩ : MethodName) prog_3_method_5_code 1 (Option.some FieldType.boolean) rm3 [(.ref v0)] H (some (.int r)) Hf :=
  con_of hw pn3 rfl fun K O => m3_t0 O v0 H r Hf hf

/-! body 4 -/
theorem d4_0 : decode prog_3_method_2_code 0 = .ok (.aload_n 0, 1) := by decide +kernel
theorem d4_1 : decode prog_3_method_2_code 1 = .ok (.getfield 9, 3) := by decide +kernel
theorem d4_4 : decode prog_3_method_2_code 4 = .ok (.ldc 13, 2) := by decide +kernel
theorem d4_6 : decode prog_3_method_2_code 6 = .ok (.if_icmp .ne 13, 3) := by decide +kernel
theorem d4_19 : decode prog_3_method_2_code 19 = .ok (.aload_n 0, 1) := by decide +kernel
theorem d4_20 : decode prog_3_method_2_code 20 = .ok (.dup, 1) := by decide +kernel
theorem d4_21 : decode prog_3_method_2_code 21 = .ok (.getfield 9, 3) := by decide +kernel
theorem d4_24 : decode prog_3_method_2_code 24 = .ok (.iconst 1, 1) := by decide +kernel
theorem d4_25 : decode prog_3_method_2_code 25 = .ok (.iadd, 1) := by decide +kernel
theorem d4_26 : decode prog_3_method_2_code 26 = .ok (.putfield 9, 3) := by decide +kernel
theorem d4_29 : decode prog_3_method_2_code 29 = .ok (.return_, 1) := by decide +kernel
theorem pd4 : parseMethodDescriptor "()V" = some ⟨[], none⟩ := by decide +kernel
theorem pn4 : plainFor (⟨"com/example/lexweave/lexweave/AutomatonSize", "addPosition", "()V"⟩ : MethodName) = true := by first | exact plainFor_of_name (by first | (simp [plainName, overriddenIn]; done) | decide +kernel) | decide +kernel
abbrev rm4 : Room := { frames := 0, cells := 0, slots := 0, locals := 0 }
abbrev Ok4 (G : Gx) (K : Kx) : Prop := Ok G K "com/example/lexweave/lexweave/AutomatonSize" prog_3_method_2_code 1 (Option.none : Option FieldType) rm4 "addPosition" 0 0
def m4_b0 (v0 : Nat) (H : List Obj) : Option (List Obj) :=
  (fldI 0 0 H v0).bind fun x1 =>
  if x1 = (262144 : Int32) then
    none
  else
    (fldI 0 0 H v0).bind fun x21 =>
    (setF 0 0 H v0 (.int (x21 + (1 : Int32)))).bind fun H26 =>
    some H26
theorem m4_t0 {G : Gx} {K : Kx} (O : Ok4 G K) (v0 : Nat) (H : List Obj) (_ : Unit) (Hf : List Obj) (hf : m4_b0 v0 H = some Hf) : Run G K none Hf 0 [some (.ref v0)] [] H 0 0 := by
  unfold m4_b0 at hf
  refine g_aload_n O (pc' := 1) d4_0 (v := v0) rfl rfl ?_
  obtain ⟨x1, h1, hf⟩ := bnd hf
  refine g_getfield O (pc' := 4) d4_1 (t := 0) (kf := 0) rfl tw14 (fldI_e h1) rfl ?_
  refine g_ldc O (pc' := 6) d4_4 tw27 rfl ?_
  refine g_icmp_ne O (pc' := 9) d4_6 rfl (by decide) (pc1 := 19) (by decide) (fun h6 => ?_) (fun h6 => ?_)
  · rw [if_neg h6] at hf
    refine g_aload_n O (pc' := 20) d4_19 (v := v0) rfl rfl ?_
    refine g_dup O (pc' := 21) d4_20 rfl rfl ?_
    obtain ⟨x21, h21, hf⟩ := bnd hf
    refine g_getfield O (pc' := 24) d4_21 (t := 0) (kf := 0) rfl tw14 (fldI_e h21) rfl ?_
    refine g_iconst O (pc' := 25) d4_24 (v := 1) (by decide) rfl ?_
    refine g_iadd O (pc' := 26) d4_25 rfl ?_
    obtain ⟨H26, h26, hf⟩ := bnd hf
    refine g_putfield O (pc' := 29) d4_26 (t := 0) (kf := 0) rfl tw14 (Or.inl tw15) tw1 (ty := .int) (by decide) (fun _ => rfl) (fun _ => rfl) h26 rfl ?_
    cases hf
    exact g_ret_void O d4_29 rfl (by decide)
  · rw [if_pos h6] at hf
    cases hf
abbrev m4 (v0 : Nat) (H : List Obj) : Option (List Obj) := m4_b0 v0 H
theorem con4 {G : Gx} (hw : ∀ d ∈ tables_1, d.before G.2.2.1 G.2.1 = true) (v0 : Nat) (H : List Obj) {Hf : List Obj} (hf : m4 v0 H = some Hf) : Con G (⟨"com/example/lexweave/lexweave/AutomatonSize", "addPosition", "()V"⟩ : MethodName) prog_3_method_2_code 1 (Option.none : Option FieldType) rm4 [(.ref v0)] H none Hf :=
  con_of hw pn4 rfl fun K O => m4_t0 O v0 H () Hf hf

/-! body 5 -/
theorem d5_0 : decode prog_3_method_3_code 0 = .ok (.aload_n 0, 1) := by decide +kernel
theorem d5_1 : decode prog_3_method_3_code 1 = .ok (.getfield 21, 3) := by decide +kernel
theorem d5_4 : decode prog_3_method_3_code 4 = .ok (.ldc 13, 2) := by decide +kernel
theorem d5_6 : decode prog_3_method_3_code 6 = .ok (.if_icmp .eq 17, 3) := by decide +kernel
theorem d5_9 : decode prog_3_method_3_code 9 = .ok (.aload_n 0, 1) := by decide +kernel
theorem d5_10 : decode prog_3_method_3_code 10 = .ok (.getfield 24, 3) := by decide +kernel
theorem d5_13 : decode prog_3_method_3_code 13 = .ok (.iload_n 2, 1) := by decide +kernel
theorem d5_14 : decode prog_3_method_3_code 14 = .ok (.i2l, 1) := by decide +kernel
theorem d5_15 : decode prog_3_method_3_code 15 = .ok (.ladd, 1) := by decide +kernel
theorem d5_16 : decode prog_3_method_3_code 16 = .ok (.ldc2_w 28, 3) := by decide +kernel
theorem d5_19 : decode prog_3_method_3_code 19 = .ok (.lcmp, 1) := by decide +kernel
theorem d5_20 : decode prog_3_method_3_code 20 = .ok (.ifCond .le 13, 3) := by decide +kernel
theorem d5_33 : decode prog_3_method_3_code 33 = .ok (.aload_n 0, 1) := by decide +kernel
theorem d5_34 : decode prog_3_method_3_code 34 = .ok (.dup, 1) := by decide +kernel
theorem d5_35 : decode prog_3_method_3_code 35 = .ok (.getfield 32, 3) := by decide +kernel
theorem d5_38 : decode prog_3_method_3_code 38 = .ok (.iload_n 1, 1) := by decide +kernel
theorem d5_39 : decode prog_3_method_3_code 39 = .ok (.i2l, 1) := by decide +kernel
theorem d5_40 : decode prog_3_method_3_code 40 = .ok (.ladd, 1) := by decide +kernel
theorem d5_41 : decode prog_3_method_3_code 41 = .ok (.putfield 32, 3) := by decide +kernel
theorem d5_44 : decode prog_3_method_3_code 44 = .ok (.aload_n 0, 1) := by decide +kernel
theorem d5_45 : decode prog_3_method_3_code 45 = .ok (.getfield 32, 3) := by decide +kernel
theorem d5_48 : decode prog_3_method_3_code 48 = .ok (.ldc2_w 35, 3) := by decide +kernel
theorem d5_51 : decode prog_3_method_3_code 51 = .ok (.lcmp, 1) := by decide +kernel
theorem d5_52 : decode prog_3_method_3_code 52 = .ok (.ifCond .le 13, 3) := by decide +kernel
theorem d5_65 : decode prog_3_method_3_code 65 = .ok (.aload_n 0, 1) := by decide +kernel
theorem d5_66 : decode prog_3_method_3_code 66 = .ok (.dup, 1) := by decide +kernel
theorem d5_67 : decode prog_3_method_3_code 67 = .ok (.getfield 21, 3) := by decide +kernel
theorem d5_70 : decode prog_3_method_3_code 70 = .ok (.iconst 1, 1) := by decide +kernel
theorem d5_71 : decode prog_3_method_3_code 71 = .ok (.iadd, 1) := by decide +kernel
theorem d5_72 : decode prog_3_method_3_code 72 = .ok (.putfield 21, 3) := by decide +kernel
theorem d5_75 : decode prog_3_method_3_code 75 = .ok (.aload_n 0, 1) := by decide +kernel
theorem d5_76 : decode prog_3_method_3_code 76 = .ok (.dup, 1) := by decide +kernel
theorem d5_77 : decode prog_3_method_3_code 77 = .ok (.getfield 24, 3) := by decide +kernel
theorem d5_80 : decode prog_3_method_3_code 80 = .ok (.iload_n 2, 1) := by decide +kernel
theorem d5_81 : decode prog_3_method_3_code 81 = .ok (.i2l, 1) := by decide +kernel
theorem d5_82 : decode prog_3_method_3_code 82 = .ok (.ladd, 1) := by decide +kernel
theorem d5_83 : decode prog_3_method_3_code 83 = .ok (.putfield 24, 3) := by decide +kernel
theorem d5_86 : decode prog_3_method_3_code 86 = .ok (.return_, 1) := by decide +kernel
theorem pd5 : parseMethodDescriptor "(II)V" = some ⟨[.int, .int], none⟩ := by decide +kernel
theorem pn5 : plainFor (⟨"com/example/lexweave/lexweave/AutomatonSize", "addState", "(II)V"⟩ : MethodName) = true := by first | exact plainFor_of_name (by first | (simp [plainName, overriddenIn]; done) | decide +kernel) | decide +kernel
abbrev rm5 : Room := { frames := 0, cells := 0, slots := 0, locals := 0 }
abbrev Ok5 (G : Gx) (K : Kx) : Prop := Ok G K "com/example/lexweave/lexweave/AutomatonSize" prog_3_method_3_code 3 (Option.none : Option FieldType) rm5 "addState" 0 0
def m5_b23 (H : List Obj) : Option (List Obj) :=
  none
theorem m5_t23 {G : Gx} {K : Kx} (O : Ok5 G K) (H : List Obj) (_ : Unit) (Hf : List Obj) (hf : m5_b23 H = some Hf) : Run G K none Hf 23 [none, none, none] [] H 0 0 := by
  unfold m5_b23 at hf
  cases hf
def m5_b0 (v0 : Nat) (v1 : Int32) (v2 : Int32) (H : List Obj) : Option (List Obj) :=
  (fldI 0 1 H v0).bind fun x1 =>
  if x1 = (262144 : Int32) then
    m5_b23 H
  else
    (fldJ 0 2 H v0).bind fun x10 =>
    if (16777216 : Int64) < (x10 + ((v2).toInt64)) then
      m5_b23 H
    else
      (fldJ 0 3 H v0).bind fun x35 =>
      (setF 0 3 H v0 (.long (x35 + ((v1).toInt64)))).bind fun H41 =>
      (fldJ 0 3 H41 v0).bind fun x45 =>
      if (67108864 : Int64) < x45 then
        none
      else
        (fldI 0 1 H41 v0).bind fun x67 =>
        (setF 0 1 H41 v0 (.int (x67 + (1 : Int32)))).bind fun H72 =>
        (fldJ 0 2 H72 v0).bind fun x77 =>
        (setF 0 2 H72 v0 (.long (x77 + ((v2).toInt64)))).bind fun H83 =>
        some H83
theorem m5_t0 {G : Gx} {K : Kx} (O : Ok5 G K) (v0 : Nat) (v1 : Int32) (v2 : Int32) (H : List Obj) (_ : Unit) (Hf : List Obj) (hf : m5_b0 v0 v1 v2 H = some Hf) : Run G K none Hf 0 [some (.ref v0), some (.int v1), some (.int v2)] [] H 0 0 := by
  unfold m5_b0 at hf
  refine g_aload_n O (pc' := 1) d5_0 (v := v0) rfl rfl ?_
  obtain ⟨x1, h1, hf⟩ := bnd hf
  refine g_getfield O (pc' := 4) d5_1 (t := 0) (kf := 1) rfl tw16 (fldI_e h1) rfl ?_
  refine g_ldc O (pc' := 6) d5_4 tw27 rfl ?_
  refine g_icmp_eq O (pc' := 9) d5_6 rfl (by decide) (pc1 := 23) (by decide) (fun h6 => ?_) (fun h6 => ?_)
  · rw [if_pos h6] at hf
    refine g_forget (Ls' := [none, none, none]) trivial ?_
    exact m5_t23 O H () _ hf
  · rw [if_neg h6] at hf
    refine g_aload_n O (pc' := 10) d5_9 (v := v0) rfl rfl ?_
    obtain ⟨x10, h10, hf⟩ := bnd hf
    refine g_getfield O (pc' := 13) d5_10 (t := 0) (kf := 2) rfl tw18 (fldJ_e h10) rfl ?_
    refine g_iload_n O (pc' := 14) d5_13 (v := v2) rfl rfl ?_
    refine g_i2l O (pc' := 15) d5_14 rfl ?_
    refine g_ladd O (pc' := 16) d5_15 rfl ?_
    refine g_ldc2 O (pc' := 19) d5_16 tw28 rfl ?_
    refine g_lcmp_le O (pc' := 23) d5_19 rfl d5_20 rfl (by decide) (pc1 := 33) (by decide) (fun h20 => ?_) (fun h20 => ?_)
    · rw [if_neg h20] at hf
      refine g_aload_n O (pc' := 34) d5_33 (v := v0) rfl rfl ?_
      refine g_dup O (pc' := 35) d5_34 rfl rfl ?_
      obtain ⟨x35, h35, hf⟩ := bnd hf
      refine g_getfield O (pc' := 38) d5_35 (t := 0) (kf := 3) rfl tw20 (fldJ_e h35) rfl ?_
      refine g_iload_n O (pc' := 39) d5_38 (v := v1) rfl rfl ?_
      refine g_i2l O (pc' := 40) d5_39 rfl ?_
      refine g_ladd O (pc' := 41) d5_40 rfl ?_
      obtain ⟨H41, h41, hf⟩ := bnd hf
      refine g_putfield O (pc' := 44) d5_41 (t := 0) (kf := 3) rfl tw20 (Or.inl tw21) tw1 (ty := .long) (by decide) (fun _ => rfl) (fun _ => rfl) h41 rfl ?_
      refine g_aload_n O (pc' := 45) d5_44 (v := v0) rfl rfl ?_
      obtain ⟨x45, h45, hf⟩ := bnd hf
      refine g_getfield O (pc' := 48) d5_45 (t := 0) (kf := 3) rfl tw20 (fldJ_e h45) rfl ?_
      refine g_ldc2 O (pc' := 51) d5_48 tw29 rfl ?_
      refine g_lcmp_le O (pc' := 55) d5_51 rfl d5_52 rfl (by decide) (pc1 := 65) (by decide) (fun h52 => ?_) (fun h52 => ?_)
      · rw [if_neg h52] at hf
        refine g_aload_n O (pc' := 66) d5_65 (v := v0) rfl rfl ?_
        refine g_dup O (pc' := 67) d5_66 rfl rfl ?_
        obtain ⟨x67, h67, hf⟩ := bnd hf
        refine g_getfield O (pc' := 70) d5_67 (t := 0) (kf := 1) rfl tw16 (fldI_e h67) rfl ?_
        refine g_iconst O (pc' := 71) d5_70 (v := 1) (by decide) rfl ?_
        refine g_iadd O (pc' := 72) d5_71 rfl ?_
        obtain ⟨H72, h72, hf⟩ := bnd hf
        refine g_putfield O (pc' := 75) d5_72 (t := 0) (kf := 1) rfl tw16 (Or.inl tw17) tw1 (ty := .int) (by decide) (fun _ => rfl) (fun _ => rfl) h72 rfl ?_
        refine g_aload_n O (pc' := 76) d5_75 (v := v0) rfl rfl ?_
        refine g_dup O (pc' := 77) d5_76 rfl rfl ?_
        obtain ⟨x77, h77, hf⟩ := bnd hf
        refine g_getfield O (pc' := 80) d5_77 (t := 0) (kf := 2) rfl tw18 (fldJ_e h77) rfl ?_
        refine g_iload_n O (pc' := 81) d5_80 (v := v2) rfl rfl ?_
        refine g_i2l O (pc' := 82) d5_81 rfl ?_
        refine g_ladd O (pc' := 83) d5_82 rfl ?_
        obtain ⟨H83, h83, hf⟩ := bnd hf
        refine g_putfield O (pc' := 86) d5_83 (t := 0) (kf := 2) rfl tw18 (Or.inl tw19) tw1 (ty := .long) (by decide) (fun _ => rfl) (fun _ => rfl) h83 rfl ?_
        cases hf
        exact g_ret_void O d5_86 rfl (by decide)
      · rw [if_pos h52] at hf
        cases hf
    · rw [if_pos h20] at hf
      refine g_forget (Ls' := [none, none, none]) trivial ?_
      exact m5_t23 O H () _ hf
abbrev m5 (v0 : Nat) (v1 : Int32) (v2 : Int32) (H : List Obj) : Option (List Obj) := m5_b0 v0 v1 v2 H
theorem con5 {G : Gx} (hw : ∀ d ∈ tables_1, d.before G.2.2.1 G.2.1 = true) (v0 : Nat) (v1 : Int32) (v2 : Int32) (H : List Obj) {Hf : List Obj} (hf : m5 v0 v1 v2 H = some Hf) : Con G (⟨"com/example/lexweave/lexweave/AutomatonSize", "addState", "(II)V"⟩ : MethodName) prog_3_method_3_code 3 (Option.none : Option FieldType) rm5 [(.ref v0), (.int v1), (.int v2)] H none Hf :=
  con_of hw pn5 rfl fun K O => m5_t0 O v0 v1 v2 H () Hf hf

/-! body 0 -/
theorem pn0 : plainFor x = true := by first | exact plainFor_of_name (by first | (simp [plainName, overriddenIn]; done) | decide +kernel) | decide +kernel
abbrev Ok0 (G : Gx) (K : Kx) : Prop := Ok G K x.cls code maxLocals ret room_1 x.name 2 8
def m0_b313 (t0 : Int32) (H : List Obj) : Option (Int32 × List Obj) :=
  some ((nar .boolean t0), H)
theorem m0_t313 {G : Gx} {K : Kx} (O : Ok0 G K) (t0 : Int32) (H : List Obj) (r : Int32) (Hf : List Obj) (hf : m0_b313 t0 H = some (r, Hf)) : Run G K (some (.int r)) Hf 313 [none, none, none, none, none, none, none, none, none, none, none, none] [(.int t0)] H 2 8 := by
  unfold m0_b313 at hf
  cases hf
  exact g_ret_nar O at_313 (by simp) rfl rfl (by decide)
def m0_b296 (v10 : Nat) (t0 : Int32) (H : List Obj) : Option (Int32 × List Obj) :=
  (obj 0 H v10).bind fun _ =>
  (m3 v10 H).bind fun q300 =>
  if q300.1 = t0 then
    m0_b313 (1 : Int32) q300.2
  else
    m0_b313 (0 : Int32) q300.2
theorem m0_t296 {G : Gx} {K : Kx} (O : Ok0 G K) (v10 : Nat) (t0 : Int32) (H : List Obj) (r : Int32) (Hf : List Obj) (hf : m0_b296 v10 t0 H = some (r, Hf)) : Run G K (some (.int r)) Hf 296 [none, none, none, none, none, none, none, none, none, none, some (.ref v10), none] [(.int t0)] H 2 8 := by
  unfold m0_b296 at hf
  refine g_istore O (pc' := 298) at_296 (Ls' := [none, none, none, none, none, none, none, none, none, none, some (.ref v10), some (.int t0)]) rfl rfl ?_
  refine g_aload O (pc' := 300) at_298 (v := v10) rfl rfl ?_
  obtain ⟨_, ho300, hf⟩ := bnd hf
  obtain ⟨⟨x300, H300⟩, h300, hf⟩ := bnd hf
  dsimp only at hf
  refine g_virtual1 O (pc' := 303) at_300 (t := 0) tw22 tw23 tw25 tw24 tw2 tw26 (by decide) (ho300) pd3 (as := []) rfl (st := []) rfl rfl (W := 0) rfl (rm := rm3) (by decide) (by decide) (c2 := 2) (s2 := 8) rfl rfl (by decide) (by decide) (con3 (Ok.w O) v10 H h300) rfl ?_
  refine g_iload O (pc' := 305) at_303 (v := t0) rfl rfl ?_
  refine g_icmp_ne O (pc' := 308) at_305 rfl (by decide) (pc1 := 312) (by decide) (fun h305 => ?_) (fun h305 => ?_)
  · rw [if_neg h305] at hf
    refine g_iconst O (pc' := 313) at_312 (v := 0) (by decide) rfl ?_
    refine g_forget (Ls' := [none, none, none, none, none, none, none, none, none, none, none, none]) trivial ?_
    exact m0_t313 O (0 : Int32) H300 _ _ hf
  · rw [if_pos h305] at hf
    refine g_iconst O (pc' := 309) at_308 (v := 1) (by decide) rfl ?_
    refine g_goto O at_309 (by decide) (pc' := 313) (by decide) ?_
    refine g_forget (Ls' := [none, none, none, none, none, none, none, none, none, none, none, none]) trivial ?_
    exact m0_t313 O (1 : Int32) H300 _ _ hf
def m0_b295 (v10 : Nat) (H : List Obj) : Option (Int32 × List Obj) :=
  m0_b296 v10 (0 : Int32) H
theorem m0_t295 {G : Gx} {K : Kx} (O : Ok0 G K) (v10 : Nat) (H : List Obj) (r : Int32) (Hf : List Obj) (hf : m0_b295 v10 H = some (r, Hf)) : Run G K (some (.int r)) Hf 295 [none, none, none, none, none, none, none, none, none, none, some (.ref v10), none] [] H 2 8 := by
  unfold m0_b295 at hf
  refine g_iconst O (pc' := 296) at_295 (v := 0) (by decide) rfl ?_
  exact m0_t296 O v10 (0 : Int32) H _ _ hf
def m0_b291 (v10 : Nat) (H : List Obj) : Option (Int32 × List Obj) :=
  m0_b296 v10 (1 : Int32) H
theorem m0_t291 {G : Gx} {K : Kx} (O : Ok0 G K) (v10 : Nat) (H : List Obj) (r : Int32) (Hf : List Obj) (hf : m0_b291 v10 H = some (r, Hf)) : Run G K (some (.int r)) Hf 291 [none, none, none, none, none, none, none, none, none, none, some (.ref v10), none] [] H 2 8 := by
  unfold m0_b291 at hf
  refine g_iconst O (pc' := 292) at_291 (v := 1) (by decide) rfl ?_
  refine g_goto O at_292 (by decide) (pc' := 296) (by decide) ?_
  exact m0_t296 O v10 (1 : Int32) H _ _ hf
def m0_b272 (v6 : Int32) (v7 : Int32) (v8 : Int32) (v10 : Nat) (H : List Obj) : Option (Int32 × List Obj) :=
  if v6 = 0 then
    m0_b295 v10 H
  else
    if v7 = (16777216 : Int32) then
      m0_b291 v10 H
    else
      if v8 = (67108864 : Int32) then
        m0_b291 v10 H
      else
        m0_b295 v10 H
theorem m0_t272 {G : Gx} {K : Kx} (O : Ok0 G K) (v6 : Int32) (v7 : Int32) (v8 : Int32) (v10 : Nat) (H : List Obj) (r : Int32) (Hf : List Obj) (hf : m0_b272 v6 v7 v8 v10 H = some (r, Hf)) : Run G K (some (.int r)) Hf 272 [none, none, none, none, none, none, some (.int v6), some (.int v7), some (.int v8), none, some (.ref v10), none] [] H 2 8 := by
  unfold m0_b272 at hf
  refine g_iload O (pc' := 274) at_272 (v := v6) rfl rfl ?_
  refine g_if_eq O (pc' := 277) at_274 rfl (by decide) (pc1 := 295) (by decide) (fun h274 => ?_) (fun h274 => ?_)
  · rw [if_pos h274] at hf
    refine g_forget (Ls' := [none, none, none, none, none, none, none, none, none, none, some (.ref v10), none]) (And.intro rfl trivial) ?_
    exact m0_t295 O v10 H _ _ hf
  · rw [if_neg h274] at hf
    refine g_iload O (pc' := 279) at_277 (v := v7) rfl rfl ?_
    refine g_ldc O (pc' := 281) at_279 tw40 rfl ?_
    refine g_icmp_eq O (pc' := 284) at_281 rfl (by decide) (pc1 := 291) (by decide) (fun h281 => ?_) (fun h281 => ?_)
    · rw [if_pos h281] at hf
      refine g_forget (Ls' := [none, none, none, none, none, none, none, none, none, none, some (.ref v10), none]) (And.intro rfl trivial) ?_
      exact m0_t291 O v10 H _ _ hf
    · rw [if_neg h281] at hf
      refine g_iload O (pc' := 286) at_284 (v := v8) rfl rfl ?_
      refine g_ldc O (pc' := 288) at_286 tw41 rfl ?_
      refine g_icmp_ne O (pc' := 291) at_288 rfl (by decide) (pc1 := 295) (by decide) (fun h288 => ?_) (fun h288 => ?_)
      · rw [if_neg h288] at hf
        refine g_forget (Ls' := [none, none, none, none, none, none, none, none, none, none, some (.ref v10), none]) (And.intro rfl trivial) ?_
        exact m0_t295 O v10 H _ _ hf
      · rw [if_pos h288] at hf
        refine g_forget (Ls' := [none, none, none, none, none, none, none, none, none, none, some (.ref v10), none]) (And.intro rfl trivial) ?_
        exact m0_t291 O v10 H _ _ hf
def m0_b251 (v3 : Int32) (v4 : Int32) (v5 : Int32) (v6 : Int32) (v7 : Int32) (v8 : Int32) (v9 : Nat) (v10 : Nat) (H : List Obj) : Option (Int32 × List Obj) :=
  (obj 0 H v10).bind fun _ =>
  (m2 v10 v9 H).bind fun H255 =>
  if v5 = 0 then
    m0_b272 v6 v7 v8 v10 H255
  else
    if v3 = 0 then
      if v4 = 0 then
        m0_b272 v6 v7 v8 v10 H255
      else
        m0_b291 v10 H255
    else
      m0_b291 v10 H255
theorem m0_t251 {G : Gx} {K : Kx} (O : Ok0 G K) (v3 : Int32) (v4 : Int32) (v5 : Int32) (v6 : Int32) (v7 : Int32) (v8 : Int32) (v9 : Nat) (v10 : Nat) (H : List Obj) (r : Int32) (Hf : List Obj) (hf : m0_b251 v3 v4 v5 v6 v7 v8 v9 v10 H = some (r, Hf)) : Run G K (some (.int r)) Hf 251 [none, none, none, some (.int v3), some (.int v4), some (.int v5), some (.int v6), some (.int v7), some (.int v8), some (.ref v9), some (.ref v10), none] [] H 2 8 := by
  unfold m0_b251 at hf
  refine g_aload O (pc' := 253) at_251 (v := v10) rfl rfl ?_
  refine g_aload O (pc' := 255) at_253 (v := v9) rfl rfl ?_
  obtain ⟨_, ho255, hf⟩ := bnd hf
  obtain ⟨H255, h255, hf⟩ := bnd hf
  refine g_virtual0 O (pc' := 258) at_255 (t := 0) tw9 tw10 tw12 tw11 tw2 tw13 (by decide) (ho255) pd2 (as := [(.ref v9)]) rfl (st := []) rfl rfl (W := 0) rfl (rm := rm2) (by decide) (by decide) (c2 := 2) (s2 := 8) rfl rfl (by decide) (by decide) (con2 (Ok.w O) v10 v9 H h255) rfl ?_
  refine g_iload O (pc' := 260) at_258 (v := v5) rfl rfl ?_
  refine g_if_eq O (pc' := 263) at_260 rfl (by decide) (pc1 := 272) (by decide) (fun h260 => ?_) (fun h260 => ?_)
  · rw [if_pos h260] at hf
    refine g_forget (Ls' := [none, none, none, none, none, none, some (.int v6), some (.int v7), some (.int v8), none, some (.ref v10), none]) (And.intro rfl (And.intro rfl (And.intro rfl (And.intro rfl trivial)))) ?_
    exact m0_t272 O v6 v7 v8 v10 H255 _ _ hf
  · rw [if_neg h260] at hf
    refine g_iload_n O (pc' := 264) at_263 (v := v3) rfl rfl ?_
    refine g_if_ne O (pc' := 267) at_264 rfl (by decide) (pc1 := 291) (by decide) (fun h264 => ?_) (fun h264 => ?_)
    · rw [if_neg h264] at hf
      refine g_forget (Ls' := [none, none, none, none, none, none, none, none, none, none, some (.ref v10), none]) (And.intro rfl trivial) ?_
      exact m0_t291 O v10 H255 _ _ hf
    · rw [if_pos h264] at hf
      refine g_iload O (pc' := 269) at_267 (v := v4) rfl rfl ?_
      refine g_if_ne O (pc' := 272) at_269 rfl (by decide) (pc1 := 291) (by decide) (fun h269 => ?_) (fun h269 => ?_)
      · rw [if_neg h269] at hf
        refine g_forget (Ls' := [none, none, none, none, none, none, none, none, none, none, some (.ref v10), none]) (And.intro rfl trivial) ?_
        exact m0_t291 O v10 H255 _ _ hf
      · rw [if_pos h269] at hf
        refine g_forget (Ls' := [none, none, none, none, none, none, some (.int v6), some (.int v7), some (.int v8), none, some (.ref v10), none]) (And.intro rfl (And.intro rfl (And.intro rfl (And.intro rfl trivial)))) ?_
        exact m0_t272 O v6 v7 v8 v10 H255 _ _ hf
def m0_b228 (v3 : Int32) (v4 : Int32) (v5 : Int32) (v6 : Int32) (v7 : Int32) (v8 : Int32) (v9 : Nat) (H : List Obj) : Option (Int32 × List Obj) :=
  if v6 = 0 then
    m0_b251 v3 v4 v5 v6 v7 v8 v9 (H.length) (H ++ [(.inr (0, [.int 0, .int 0, .long 0, .long 0]) : Obj)])
  else
    (obj 0 (H ++ [(.inr (0, [.int 0, .int 0, .long 0, .long 0]) : Obj)]) (H.length)).bind fun _ =>
    (m5 (H.length) v8 v7 (H ++ [(.inr (0, [.int 0, .int 0, .long 0, .long 0]) : Obj)])).bind fun H248 =>
    m0_b251 v3 v4 v5 v6 v7 v8 v9 (H.length) H248
theorem m0_t228 {G : Gx} {K : Kx} (O : Ok0 G K) (v3 : Int32) (v4 : Int32) (v5 : Int32) (v6 : Int32) (v7 : Int32) (v8 : Int32) (v9 : Nat) (H : List Obj) (r : Int32) (Hf : List Obj) (hf : m0_b228 v3 v4 v5 v6 v7 v8 v9 H = some (r, Hf)) : Run G K (some (.int r)) Hf 228 [none, none, none, some (.int v3), some (.int v4), some (.int v5), some (.int v6), some (.int v7), some (.int v8), some (.ref v9), none, none] [] H 1 4 := by
  unfold m0_b228 at hf
  refine g_new O (pc' := 231) at_228 (t := 0) tw0 tw1 tw2 (vs := [.int 0, .int 0, .long 0, .long 0]) rfl rfl (c2 := 2) (s2 := 8) rfl rfl (by decide) (by decide) rfl ?_
  refine g_dup O (pc' := 232) at_231 rfl rfl ?_
  refine g_special O (pc' := 235) at_232 rfl tw3 tw4 tw2 tw5 (by decide) pd1 (as := []) rfl (st := [(.ref (H.length))]) rfl rfl (W := 1) rfl (rm := rm1) (by decide) (by decide) (c2 := 2) (s2 := 8) rfl rfl (by decide) (by decide) (con1 (Ok.w O) (H.length) (H ++ [(.inr (0, [.int 0, .int 0, .long 0, .long 0]) : Obj)])) rfl ?_
  refine g_astore O (pc' := 237) at_235 (Ls' := [none, none, none, some (.int v3), some (.int v4), some (.int v5), some (.int v6), some (.int v7), some (.int v8), some (.ref v9), some (.ref (H.length)), none]) rfl rfl ?_
  refine g_iload O (pc' := 239) at_237 (v := v6) rfl rfl ?_
  refine g_if_eq O (pc' := 242) at_239 rfl (by decide) (pc1 := 251) (by decide) (fun h239 => ?_) (fun h239 => ?_)
  · rw [if_pos h239] at hf
    exact m0_t251 O v3 v4 v5 v6 v7 v8 v9 (H.length) (H ++ [(.inr (0, [.int 0, .int 0, .long 0, .long 0]) : Obj)]) _ _ hf
  · rw [if_neg h239] at hf
    refine g_aload O (pc' := 244) at_242 (v := (H.length)) rfl rfl ?_
    refine g_iload O (pc' := 246) at_244 (v := v8) rfl rfl ?_
    refine g_iload O (pc' := 248) at_246 (v := v7) rfl rfl ?_
    obtain ⟨_, ho248, hf⟩ := bnd hf
    obtain ⟨H248, h248, hf⟩ := bnd hf
    refine g_virtual0 O (pc' := 251) at_248 (t := 0) tw35 tw36 tw38 tw37 tw2 tw39 (by decide) (ho248) pd5 (as := [(.int v8), (.int v7)]) rfl (st := []) rfl rfl (W := 0) rfl (rm := rm5) (by decide) (by decide) (c2 := 2) (s2 := 8) rfl rfl (by decide) (by decide) (con5 (Ok.w O) (H.length) v8 v7 (H ++ [(.inr (0, [.int 0, .int 0, .long 0, .long 0]) : Obj)]) h248) rfl ?_
    exact m0_t251 O v3 v4 v5 v6 v7 v8 v9 (H.length) H248 _ _ hf
def m0_b97 (v3 : Int32) (v4 : Int32) (v5 : Int32) (v6 : Int32) (v7 : Int32) (v8 : Int32) (v9 : Nat) (H : List Obj) : Option (Int32 × List Obj) :=
  (obj 0 H v9).bind fun _ =>
  (m2 v9 v9 H).bind fun H101 =>
  (obj 0 H101 v9).bind fun _ =>
  (m2 v9 v9 H101).bind fun H108 =>
  (obj 0 H108 v9).bind fun _ =>
  (m2 v9 v9 H108).bind fun H115 =>
  (obj 0 H115 v9).bind fun _ =>
  (m2 v9 v9 H115).bind fun H122 =>
  (obj 0 H122 v9).bind fun _ =>
  (m2 v9 v9 H122).bind fun H129 =>
  (obj 0 H129 v9).bind fun _ =>
  (m2 v9 v9 H129).bind fun H136 =>
  (obj 0 H136 v9).bind fun _ =>
  (m2 v9 v9 H136).bind fun H143 =>
  (obj 0 H143 v9).bind fun _ =>
  (m2 v9 v9 H143).bind fun H150 =>
  (obj 0 H150 v9).bind fun _ =>
  (m2 v9 v9 H150).bind fun H157 =>
  (obj 0 H157 v9).bind fun _ =>
  (m2 v9 v9 H157).bind fun H164 =>
  (obj 0 H164 v9).bind fun _ =>
  (m2 v9 v9 H164).bind fun H171 =>
  (obj 0 H171 v9).bind fun _ =>
  (m2 v9 v9 H171).bind fun H178 =>
  (obj 0 H178 v9).bind fun _ =>
  (m2 v9 v9 H178).bind fun H185 =>
  (obj 0 H185 v9).bind fun _ =>
  (m2 v9 v9 H185).bind fun H192 =>
  (obj 0 H192 v9).bind fun _ =>
  (m2 v9 v9 H192).bind fun H199 =>
  (obj 0 H199 v9).bind fun _ =>
  (m2 v9 v9 H199).bind fun H206 =>
  (obj 0 H206 v9).bind fun _ =>
  (m2 v9 v9 H206).bind fun H213 =>
  if v5 = 0 then
    m0_b228 v3 v4 v5 v6 v7 v8 v9 H213
  else
    (obj 0 H213 v9).bind fun _ =>
    (m2 v9 v9 H213).bind fun H225 =>
    m0_b228 v3 v4 v5 v6 v7 v8 v9 H225
theorem m0_t97 {G : Gx} {K : Kx} (O : Ok0 G K) (v3 : Int32) (v4 : Int32) (v5 : Int32) (v6 : Int32) (v7 : Int32) (v8 : Int32) (v9 : Nat) (H : List Obj) (r : Int32) (Hf : List Obj) (hf : m0_b97 v3 v4 v5 v6 v7 v8 v9 H = some (r, Hf)) : Run G K (some (.int r)) Hf 97 [none, none, none, some (.int v3), some (.int v4), some (.int v5), some (.int v6), some (.int v7), some (.int v8), some (.ref v9), none, none] [] H 1 4 := by
  unfold m0_b97 at hf
  refine g_aload O (pc' := 99) at_97 (v := v9) rfl rfl ?_
  refine g_aload O (pc' := 101) at_99 (v := v9) rfl rfl ?_
  obtain ⟨_, ho101, hf⟩ := bnd hf
  obtain ⟨H101, h101, hf⟩ := bnd hf
  refine g_virtual0 O (pc' := 104) at_101 (t := 0) tw9 tw10 tw12 tw11 tw2 tw13 (by decide) (ho101) pd2 (as := [(.ref v9)]) rfl (st := []) rfl rfl (W := 0) rfl (rm := rm2) (by decide) (by decide) (c2 := 1) (s2 := 4) rfl rfl (by decide) (by decide) (con2 (Ok.w O) v9 v9 H h101) rfl ?_
  refine g_aload O (pc' := 106) at_104 (v := v9) rfl rfl ?_
  refine g_aload O (pc' := 108) at_106 (v := v9) rfl rfl ?_
  obtain ⟨_, ho108, hf⟩ := bnd hf
  obtain ⟨H108, h108, hf⟩ := bnd hf
  refine g_virtual0 O (pc' := 111) at_108 (t := 0) tw9 tw10 tw12 tw11 tw2 tw13 (by decide) (ho108) pd2 (as := [(.ref v9)]) rfl (st := []) rfl rfl (W := 0) rfl (rm := rm2) (by decide) (by decide) (c2 := 1) (s2 := 4) rfl rfl (by decide) (by decide) (con2 (Ok.w O) v9 v9 H101 h108) rfl ?_
  refine g_aload O (pc' := 113) at_111 (v := v9) rfl rfl ?_
  refine g_aload O (pc' := 115) at_113 (v := v9) rfl rfl ?_
  obtain ⟨_, ho115, hf⟩ := bnd hf
  obtain ⟨H115, h115, hf⟩ := bnd hf
  refine g_virtual0 O (pc' := 118) at_115 (t := 0) tw9 tw10 tw12 tw11 tw2 tw13 (by decide) (ho115) pd2 (as := [(.ref v9)]) rfl (st := []) rfl rfl (W := 0) rfl (rm := rm2) (by decide) (by decide) (c2 := 1) (s2 := 4) rfl rfl (by decide) (by decide) (con2 (Ok.w O) v9 v9 H108 h115) rfl ?_
  refine g_aload O (pc' := 120) at_118 (v := v9) rfl rfl ?_
  refine g_aload O (pc' := 122) at_120 (v := v9) rfl rfl ?_
  obtain ⟨_, ho122, hf⟩ := bnd hf
  obtain ⟨H122, h122, hf⟩ := bnd hf
  refine g_virtual0 O (pc' := 125) at_122 (t := 0) tw9 tw10 tw12 tw11 tw2 tw13 (by decide) (ho122) pd2 (as := [(.ref v9)]) rfl (st := []) rfl rfl (W := 0) rfl (rm := rm2) (by decide) (by decide) (c2 := 1) (s2 := 4) rfl rfl (by decide) (by decide) (con2 (Ok.w O) v9 v9 H115 h122) rfl ?_
  refine g_aload O (pc' := 127) at_125 (v := v9) rfl rfl ?_
  refine g_aload O (pc' := 129) at_127 (v := v9) rfl rfl ?_
  obtain ⟨_, ho129, hf⟩ := bnd hf
  obtain ⟨H129, h129, hf⟩ := bnd hf
  refine g_virtual0 O (pc' := 132) at_129 (t := 0) tw9 tw10 tw12 tw11 tw2 tw13 (by decide) (ho129) pd2 (as := [(.ref v9)]) rfl (st := []) rfl rfl (W := 0) rfl (rm := rm2) (by decide) (by decide) (c2 := 1) (s2 := 4) rfl rfl (by decide) (by decide) (con2 (Ok.w O) v9 v9 H122 h129) rfl ?_
  refine g_aload O (pc' := 134) at_132 (v := v9) rfl rfl ?_
  refine g_aload O (pc' := 136) at_134 (v := v9) rfl rfl ?_
  obtain ⟨_, ho136, hf⟩ := bnd hf
  obtain ⟨H136, h136, hf⟩ := bnd hf
  refine g_virtual0 O (pc' := 139) at_136 (t := 0) tw9 tw10 tw12 tw11 tw2 tw13 (by decide) (ho136) pd2 (as := [(.ref v9)]) rfl (st := []) rfl rfl (W := 0) rfl (rm := rm2) (by decide) (by decide) (c2 := 1) (s2 := 4) rfl rfl (by decide) (by decide) (con2 (Ok.w O) v9 v9 H129 h136) rfl ?_
  refine g_aload O (pc' := 141) at_139 (v := v9) rfl rfl ?_
  refine g_aload O (pc' := 143) at_141 (v := v9) rfl rfl ?_
  obtain ⟨_, ho143, hf⟩ := bnd hf
  obtain ⟨H143, h143, hf⟩ := bnd hf
  refine g_virtual0 O (pc' := 146) at_143 (t := 0) tw9 tw10 tw12 tw11 tw2 tw13 (by decide) (ho143) pd2 (as := [(.ref v9)]) rfl (st := []) rfl rfl (W := 0) rfl (rm := rm2) (by decide) (by decide) (c2 := 1) (s2 := 4) rfl rfl (by decide) (by decide) (con2 (Ok.w O) v9 v9 H136 h143) rfl ?_
  refine g_aload O (pc' := 148) at_146 (v := v9) rfl rfl ?_
  refine g_aload O (pc' := 150) at_148 (v := v9) rfl rfl ?_
  obtain ⟨_, ho150, hf⟩ := bnd hf
  obtain ⟨H150, h150, hf⟩ := bnd hf
  refine g_virtual0 O (pc' := 153) at_150 (t := 0) tw9 tw10 tw12 tw11 tw2 tw13 (by decide) (ho150) pd2 (as := [(.ref v9)]) rfl (st := []) rfl rfl (W := 0) rfl (rm := rm2) (by decide) (by decide) (c2 := 1) (s2 := 4) rfl rfl (by decide) (by decide) (con2 (Ok.w O) v9 v9 H143 h150) rfl ?_
  refine g_aload O (pc' := 155) at_153 (v := v9) rfl rfl ?_
  refine g_aload O (pc' := 157) at_155 (v := v9) rfl rfl ?_
  obtain ⟨_, ho157, hf⟩ := bnd hf
  obtain ⟨H157, h157, hf⟩ := bnd hf
  refine g_virtual0 O (pc' := 160) at_157 (t := 0) tw9 tw10 tw12 tw11 tw2 tw13 (by decide) (ho157) pd2 (as := [(.ref v9)]) rfl (st := []) rfl rfl (W := 0) rfl (rm := rm2) (by decide) (by decide) (c2 := 1) (s2 := 4) rfl rfl (by decide) (by decide) (con2 (Ok.w O) v9 v9 H150 h157) rfl ?_
  refine g_aload O (pc' := 162) at_160 (v := v9) rfl rfl ?_
  refine g_aload O (pc' := 164) at_162 (v := v9) rfl rfl ?_
  obtain ⟨_, ho164, hf⟩ := bnd hf
  obtain ⟨H164, h164, hf⟩ := bnd hf
  refine g_virtual0 O (pc' := 167) at_164 (t := 0) tw9 tw10 tw12 tw11 tw2 tw13 (by decide) (ho164) pd2 (as := [(.ref v9)]) rfl (st := []) rfl rfl (W := 0) rfl (rm := rm2) (by decide) (by decide) (c2 := 1) (s2 := 4) rfl rfl (by decide) (by decide) (con2 (Ok.w O) v9 v9 H157 h164) rfl ?_
  refine g_aload O (pc' := 169) at_167 (v := v9) rfl rfl ?_
  refine g_aload O (pc' := 171) at_169 (v := v9) rfl rfl ?_
  obtain ⟨_, ho171, hf⟩ := bnd hf
  obtain ⟨H171, h171, hf⟩ := bnd hf
  refine g_virtual0 O (pc' := 174) at_171 (t := 0) tw9 tw10 tw12 tw11 tw2 tw13 (by decide) (ho171) pd2 (as := [(.ref v9)]) rfl (st := []) rfl rfl (W := 0) rfl (rm := rm2) (by decide) (by decide) (c2 := 1) (s2 := 4) rfl rfl (by decide) (by decide) (con2 (Ok.w O) v9 v9 H164 h171) rfl ?_
  refine g_aload O (pc' := 176) at_174 (v := v9) rfl rfl ?_
  refine g_aload O (pc' := 178) at_176 (v := v9) rfl rfl ?_
  obtain ⟨_, ho178, hf⟩ := bnd hf
  obtain ⟨H178, h178, hf⟩ := bnd hf
  refine g_virtual0 O (pc' := 181) at_178 (t := 0) tw9 tw10 tw12 tw11 tw2 tw13 (by decide) (ho178) pd2 (as := [(.ref v9)]) rfl (st := []) rfl rfl (W := 0) rfl (rm := rm2) (by decide) (by decide) (c2 := 1) (s2 := 4) rfl rfl (by decide) (by decide) (con2 (Ok.w O) v9 v9 H171 h178) rfl ?_
  refine g_aload O (pc' := 183) at_181 (v := v9) rfl rfl ?_
  refine g_aload O (pc' := 185) at_183 (v := v9) rfl rfl ?_
  obtain ⟨_, ho185, hf⟩ := bnd hf
  obtain ⟨H185, h185, hf⟩ := bnd hf
  refine g_virtual0 O (pc' := 188) at_185 (t := 0) tw9 tw10 tw12 tw11 tw2 tw13 (by decide) (ho185) pd2 (as := [(.ref v9)]) rfl (st := []) rfl rfl (W := 0) rfl (rm := rm2) (by decide) (by decide) (c2 := 1) (s2 := 4) rfl rfl (by decide) (by decide) (con2 (Ok.w O) v9 v9 H178 h185) rfl ?_
  refine g_aload O (pc' := 190) at_188 (v := v9) rfl rfl ?_
  refine g_aload O (pc' := 192) at_190 (v := v9) rfl rfl ?_
  obtain ⟨_, ho192, hf⟩ := bnd hf
  obtain ⟨H192, h192, hf⟩ := bnd hf
  refine g_virtual0 O (pc' := 195) at_192 (t := 0) tw9 tw10 tw12 tw11 tw2 tw13 (by decide) (ho192) pd2 (as := [(.ref v9)]) rfl (st := []) rfl rfl (W := 0) rfl (rm := rm2) (by decide) (by decide) (c2 := 1) (s2 := 4) rfl rfl (by decide) (by decide) (con2 (Ok.w O) v9 v9 H185 h192) rfl ?_
  refine g_aload O (pc' := 197) at_195 (v := v9) rfl rfl ?_
  refine g_aload O (pc' := 199) at_197 (v := v9) rfl rfl ?_
  obtain ⟨_, ho199, hf⟩ := bnd hf
  obtain ⟨H199, h199, hf⟩ := bnd hf
  refine g_virtual0 O (pc' := 202) at_199 (t := 0) tw9 tw10 tw12 tw11 tw2 tw13 (by decide) (ho199) pd2 (as := [(.ref v9)]) rfl (st := []) rfl rfl (W := 0) rfl (rm := rm2) (by decide) (by decide) (c2 := 1) (s2 := 4) rfl rfl (by decide) (by decide) (con2 (Ok.w O) v9 v9 H192 h199) rfl ?_
  refine g_aload O (pc' := 204) at_202 (v := v9) rfl rfl ?_
  refine g_aload O (pc' := 206) at_204 (v := v9) rfl rfl ?_
  obtain ⟨_, ho206, hf⟩ := bnd hf
  obtain ⟨H206, h206, hf⟩ := bnd hf
  refine g_virtual0 O (pc' := 209) at_206 (t := 0) tw9 tw10 tw12 tw11 tw2 tw13 (by decide) (ho206) pd2 (as := [(.ref v9)]) rfl (st := []) rfl rfl (W := 0) rfl (rm := rm2) (by decide) (by decide) (c2 := 1) (s2 := 4) rfl rfl (by decide) (by decide) (con2 (Ok.w O) v9 v9 H199 h206) rfl ?_
  refine g_aload O (pc' := 211) at_209 (v := v9) rfl rfl ?_
  refine g_aload O (pc' := 213) at_211 (v := v9) rfl rfl ?_
  obtain ⟨_, ho213, hf⟩ := bnd hf
  obtain ⟨H213, h213, hf⟩ := bnd hf
  refine g_virtual0 O (pc' := 216) at_213 (t := 0) tw9 tw10 tw12 tw11 tw2 tw13 (by decide) (ho213) pd2 (as := [(.ref v9)]) rfl (st := []) rfl rfl (W := 0) rfl (rm := rm2) (by decide) (by decide) (c2 := 1) (s2 := 4) rfl rfl (by decide) (by decide) (con2 (Ok.w O) v9 v9 H206 h213) rfl ?_
  refine g_iload O (pc' := 218) at_216 (v := v5) rfl rfl ?_
  refine g_if_eq O (pc' := 221) at_218 rfl (by decide) (pc1 := 228) (by decide) (fun h218 => ?_) (fun h218 => ?_)
  · rw [if_pos h218] at hf
    exact m0_t228 O v3 v4 v5 v6 v7 v8 v9 H213 _ _ hf
  · rw [if_neg h218] at hf
    refine g_aload O (pc' := 223) at_221 (v := v9) rfl rfl ?_
    refine g_aload O (pc' := 225) at_223 (v := v9) rfl rfl ?_
    obtain ⟨_, ho225, hf⟩ := bnd hf
    obtain ⟨H225, h225, hf⟩ := bnd hf
    refine g_virtual0 O (pc' := 228) at_225 (t := 0) tw9 tw10 tw12 tw11 tw2 tw13 (by decide) (ho225) pd2 (as := [(.ref v9)]) rfl (st := []) rfl rfl (W := 0) rfl (rm := rm2) (by decide) (by decide) (c2 := 1) (s2 := 4) rfl rfl (by decide) (by decide) (con2 (Ok.w O) v9 v9 H213 h225) rfl ?_
    exact m0_t228 O v3 v4 v5 v6 v7 v8 v9 H225 _ _ hf
def m0_b85 (v3 : Int32) (v4 : Int32) (v5 : Int32) (v6 : Int32) (v7 : Int32) (v8 : Int32) (v9 : Nat) (H : List Obj) : Option (Int32 × List Obj) :=
  if v4 = 0 then
    m0_b97 v3 v4 v5 v6 v7 v8 v9 H
  else
    (obj 0 H v9).bind fun _ =>
    (m5 v9 (0 : Int32) (0 : Int32) H).bind fun H94 =>
    m0_b97 v3 v4 v5 v6 v7 v8 v9 H94
theorem m0_t85 {G : Gx} {K : Kx} (O : Ok0 G K) (v3 : Int32) (v4 : Int32) (v5 : Int32) (v6 : Int32) (v7 : Int32) (v8 : Int32) (v9 : Nat) (H : List Obj) (r : Int32) (Hf : List Obj) (hf : m0_b85 v3 v4 v5 v6 v7 v8 v9 H = some (r, Hf)) : Run G K (some (.int r)) Hf 85 [none, none, none, some (.int v3), some (.int v4), some (.int v5), some (.int v6), some (.int v7), some (.int v8), some (.ref v9), none, none] [] H 1 4 := by
  unfold m0_b85 at hf
  refine g_iload O (pc' := 87) at_85 (v := v4) rfl rfl ?_
  refine g_if_eq O (pc' := 90) at_87 rfl (by decide) (pc1 := 97) (by decide) (fun h87 => ?_) (fun h87 => ?_)
  · rw [if_pos h87] at hf
    exact m0_t97 O v3 v4 v5 v6 v7 v8 v9 H _ _ hf
  · rw [if_neg h87] at hf
    refine g_aload O (pc' := 92) at_90 (v := v9) rfl rfl ?_
    refine g_iconst O (pc' := 93) at_92 (v := 0) (by decide) rfl ?_
    refine g_iconst O (pc' := 94) at_93 (v := 0) (by decide) rfl ?_
    obtain ⟨_, ho94, hf⟩ := bnd hf
    obtain ⟨H94, h94, hf⟩ := bnd hf
    refine g_virtual0 O (pc' := 97) at_94 (t := 0) tw35 tw36 tw38 tw37 tw2 tw39 (by decide) (ho94) pd5 (as := [(.int (0 : Int32)), (.int (0 : Int32))]) rfl (st := []) rfl rfl (W := 0) rfl (rm := rm5) (by decide) (by decide) (c2 := 1) (s2 := 4) rfl rfl (by decide) (by decide) (con5 (Ok.w O) v9 (0 : Int32) (0 : Int32) H h94) rfl ?_
    exact m0_t97 O v3 v4 v5 v6 v7 v8 v9 H94 _ _ hf
def m0_b50 (v1 : Int32) (v2 : Int32) (v3 : Int32) (v4 : Int32) (v5 : Int32) (t0 : Int32) (H : List Obj) : Option (Int32 × List Obj) :=
  if v3 = 0 then
    m0_b85 v3 v4 v5 t0 ((v1 >>> ((7 : Int32) &&& 31)) + (1 : Int32)) ((v2 >>> ((5 : Int32) &&& 31)) + (1 : Int32)) (H.length) (H ++ [(.inr (0, [.int 0, .int 0, .long 0, .long 0]) : Obj)])
  else
    (obj 0 (H ++ [(.inr (0, [.int 0, .int 0, .long 0, .long 0]) : Obj)]) (H.length)).bind fun _ =>
    (m4 (H.length) (H ++ [(.inr (0, [.int 0, .int 0, .long 0, .long 0]) : Obj)])).bind fun H82 =>
    m0_b85 v3 v4 v5 t0 ((v1 >>> ((7 : Int32) &&& 31)) + (1 : Int32)) ((v2 >>> ((5 : Int32) &&& 31)) + (1 : Int32)) (H.length) H82
theorem m0_t50 {G : Gx} {K : Kx} (O : Ok0 G K) (v1 : Int32) (v2 : Int32) (v3 : Int32) (v4 : Int32) (v5 : Int32) (t0 : Int32) (H : List Obj) (r : Int32) (Hf : List Obj) (hf : m0_b50 v1 v2 v3 v4 v5 t0 H = some (r, Hf)) : Run G K (some (.int r)) Hf 50 [none, some (.int v1), some (.int v2), some (.int v3), some (.int v4), some (.int v5), none, none, none, none, none, none] [(.int t0)] H 0 0 := by
  unfold m0_b50 at hf
  refine g_istore O (pc' := 52) at_50 (Ls' := [none, some (.int v1), some (.int v2), some (.int v3), some (.int v4), some (.int v5), some (.int t0), none, none, none, none, none]) rfl rfl ?_
  refine g_iload_n O (pc' := 53) at_52 (v := v1) rfl rfl ?_
  refine g_bipush O (pc' := 55) at_53 (v := 7) (by decide) rfl ?_
  refine g_ishr O (pc' := 56) at_55 rfl ?_
  refine g_iconst O (pc' := 57) at_56 (v := 1) (by decide) rfl ?_
  refine g_iadd O (pc' := 58) at_57 rfl ?_
  refine g_istore O (pc' := 60) at_58 (Ls' := [none, some (.int v1), some (.int v2), some (.int v3), some (.int v4), some (.int v5), some (.int t0), some (.int ((v1 >>> ((7 : Int32) &&& 31)) + (1 : Int32))), none, none, none, none]) rfl rfl ?_
  refine g_iload_n O (pc' := 61) at_60 (v := v2) rfl rfl ?_
  refine g_iconst O (pc' := 62) at_61 (v := 5) (by decide) rfl ?_
  refine g_ishr O (pc' := 63) at_62 rfl ?_
  refine g_iconst O (pc' := 64) at_63 (v := 1) (by decide) rfl ?_
  refine g_iadd O (pc' := 65) at_64 rfl ?_
  refine g_istore O (pc' := 67) at_65 (Ls' := [none, some (.int v1), some (.int v2), some (.int v3), some (.int v4), some (.int v5), some (.int t0), some (.int ((v1 >>> ((7 : Int32) &&& 31)) + (1 : Int32))), some (.int ((v2 >>> ((5 : Int32) &&& 31)) + (1 : Int32))), none, none, none]) rfl rfl ?_
  refine g_new O (pc' := 70) at_67 (t := 0) tw0 tw1 tw2 (vs := [.int 0, .int 0, .long 0, .long 0]) rfl rfl (c2 := 1) (s2 := 4) rfl rfl (by decide) (by decide) rfl ?_
  refine g_dup O (pc' := 71) at_70 rfl rfl ?_
  refine g_special O (pc' := 74) at_71 rfl tw3 tw4 tw2 tw5 (by decide) pd1 (as := []) rfl (st := [(.ref (H.length))]) rfl rfl (W := 1) rfl (rm := rm1) (by decide) (by decide) (c2 := 1) (s2 := 4) rfl rfl (by decide) (by decide) (con1 (Ok.w O) (H.length) (H ++ [(.inr (0, [.int 0, .int 0, .long 0, .long 0]) : Obj)])) rfl ?_
  refine g_astore O (pc' := 76) at_74 (Ls' := [none, some (.int v1), some (.int v2), some (.int v3), some (.int v4), some (.int v5), some (.int t0), some (.int ((v1 >>> ((7 : Int32) &&& 31)) + (1 : Int32))), some (.int ((v2 >>> ((5 : Int32) &&& 31)) + (1 : Int32))), some (.ref (H.length)), none, none]) rfl rfl ?_
  refine g_iload_n O (pc' := 77) at_76 (v := v3) rfl rfl ?_
  refine g_if_eq O (pc' := 80) at_77 rfl (by decide) (pc1 := 85) (by decide) (fun h77 => ?_) (fun h77 => ?_)
  · rw [if_pos h77] at hf
    refine g_forget (Ls' := [none, none, none, some (.int v3), some (.int v4), some (.int v5), some (.int t0), some (.int ((v1 >>> ((7 : Int32) &&& 31)) + (1 : Int32))), some (.int ((v2 >>> ((5 : Int32) &&& 31)) + (1 : Int32))), some (.ref (H.length)), none, none]) (And.intro rfl (And.intro rfl (And.intro rfl (And.intro rfl (And.intro rfl (And.intro rfl (And.intro rfl trivial))))))) ?_
    exact m0_t85 O v3 v4 v5 t0 ((v1 >>> ((7 : Int32) &&& 31)) + (1 : Int32)) ((v2 >>> ((5 : Int32) &&& 31)) + (1 : Int32)) (H.length) (H ++ [(.inr (0, [.int 0, .int 0, .long 0, .long 0]) : Obj)]) _ _ hf
  · rw [if_neg h77] at hf
    refine g_aload O (pc' := 82) at_80 (v := (H.length)) rfl rfl ?_
    obtain ⟨_, ho82, hf⟩ := bnd hf
    obtain ⟨H82, h82, hf⟩ := bnd hf
    refine g_virtual0 O (pc' := 85) at_82 (t := 0) tw30 tw31 tw33 tw32 tw2 tw34 (by decide) (ho82) pd4 (as := []) rfl (st := []) rfl rfl (W := 0) rfl (rm := rm4) (by decide) (by decide) (c2 := 1) (s2 := 4) rfl rfl (by decide) (by decide) (con4 (Ok.w O) (H.length) (H ++ [(.inr (0, [.int 0, .int 0, .long 0, .long 0]) : Obj)]) h82) rfl ?_
    refine g_forget (Ls' := [none, none, none, some (.int v3), some (.int v4), some (.int v5), some (.int t0), some (.int ((v1 >>> ((7 : Int32) &&& 31)) + (1 : Int32))), some (.int ((v2 >>> ((5 : Int32) &&& 31)) + (1 : Int32))), some (.ref (H.length)), none, none]) (And.intro rfl (And.intro rfl (And.intro rfl (And.intro rfl (And.intro rfl (And.intro rfl (And.intro rfl trivial))))))) ?_
    exact m0_t85 O v3 v4 v5 t0 ((v1 >>> ((7 : Int32) &&& 31)) + (1 : Int32)) ((v2 >>> ((5 : Int32) &&& 31)) + (1 : Int32)) (H.length) H82 _ _ hf
def m0_b36 (v0 : Int32) (v1 : Int32) (v2 : Int32) (v3 : Int32) (v4 : Int32) (t0 : Int32) (H : List Obj) : Option (Int32 × List Obj) :=
  if (v0 &&& (8 : Int32)) = 0 then
    m0_b50 v1 v2 v3 v4 t0 (0 : Int32) H
  else
    m0_b50 v1 v2 v3 v4 t0 (1 : Int32) H
theorem m0_t36 {G : Gx} {K : Kx} (O : Ok0 G K) (v0 : Int32) (v1 : Int32) (v2 : Int32) (v3 : Int32) (v4 : Int32) (t0 : Int32) (H : List Obj) (r : Int32) (Hf : List Obj) (hf : m0_b36 v0 v1 v2 v3 v4 t0 H = some (r, Hf)) : Run G K (some (.int r)) Hf 36 [some (.int v0), some (.int v1), some (.int v2), some (.int v3), some (.int v4), none, none, none, none, none, none, none] [(.int t0)] H 0 0 := by
  unfold m0_b36 at hf
  refine g_istore O (pc' := 38) at_36 (Ls' := [some (.int v0), some (.int v1), some (.int v2), some (.int v3), some (.int v4), some (.int t0), none, none, none, none, none, none]) rfl rfl ?_
  refine g_iload_n O (pc' := 39) at_38 (v := v0) rfl rfl ?_
  refine g_bipush O (pc' := 41) at_39 (v := 8) (by decide) rfl ?_
  refine g_iand O (pc' := 42) at_41 rfl ?_
  refine g_if_eq O (pc' := 45) at_42 rfl (by decide) (pc1 := 49) (by decide) (fun h42 => ?_) (fun h42 => ?_)
  · rw [if_pos h42] at hf
    refine g_iconst O (pc' := 50) at_49 (v := 0) (by decide) rfl ?_
    refine g_forget (Ls' := [none, some (.int v1), some (.int v2), some (.int v3), some (.int v4), some (.int t0), none, none, none, none, none, none]) (And.intro rfl (And.intro rfl (And.intro rfl (And.intro rfl (And.intro rfl trivial))))) ?_
    exact m0_t50 O v1 v2 v3 v4 t0 (0 : Int32) H _ _ hf
  · rw [if_neg h42] at hf
    refine g_iconst O (pc' := 46) at_45 (v := 1) (by decide) rfl ?_
    refine g_goto O at_46 (by decide) (pc' := 50) (by decide) ?_
    refine g_forget (Ls' := [none, some (.int v1), some (.int v2), some (.int v3), some (.int v4), some (.int t0), none, none, none, none, none, none]) (And.intro rfl (And.intro rfl (And.intro rfl (And.intro rfl (And.intro rfl trivial))))) ?_
    exact m0_t50 O v1 v2 v3 v4 t0 (1 : Int32) H _ _ hf
def m0_b23 (v0 : Int32) (v1 : Int32) (v2 : Int32) (v3 : Int32) (t0 : Int32) (H : List Obj) : Option (Int32 × List Obj) :=
  if (v0 &&& (4 : Int32)) = 0 then
    m0_b36 v0 v1 v2 v3 t0 (0 : Int32) H
  else
    m0_b36 v0 v1 v2 v3 t0 (1 : Int32) H
theorem m0_t23 {G : Gx} {K : Kx} (O : Ok0 G K) (v0 : Int32) (v1 : Int32) (v2 : Int32) (v3 : Int32) (t0 : Int32) (H : List Obj) (r : Int32) (Hf : List Obj) (hf : m0_b23 v0 v1 v2 v3 t0 H = some (r, Hf)) : Run G K (some (.int r)) Hf 23 [some (.int v0), some (.int v1), some (.int v2), some (.int v3), none, none, none, none, none, none, none, none] [(.int t0)] H 0 0 := by
  unfold m0_b23 at hf
  refine g_istore O (pc' := 25) at_23 (Ls' := [some (.int v0), some (.int v1), some (.int v2), some (.int v3), some (.int t0), none, none, none, none, none, none, none]) rfl rfl ?_
  refine g_iload_n O (pc' := 26) at_25 (v := v0) rfl rfl ?_
  refine g_iconst O (pc' := 27) at_26 (v := 4) (by decide) rfl ?_
  refine g_iand O (pc' := 28) at_27 rfl ?_
  refine g_if_eq O (pc' := 31) at_28 rfl (by decide) (pc1 := 35) (by decide) (fun h28 => ?_) (fun h28 => ?_)
  · rw [if_pos h28] at hf
    refine g_iconst O (pc' := 36) at_35 (v := 0) (by decide) rfl ?_
    exact m0_t36 O v0 v1 v2 v3 t0 (0 : Int32) H _ _ hf
  · rw [if_neg h28] at hf
    refine g_iconst O (pc' := 32) at_31 (v := 1) (by decide) rfl ?_
    refine g_goto O at_32 (by decide) (pc' := 36) (by decide) ?_
    exact m0_t36 O v0 v1 v2 v3 t0 (1 : Int32) H _ _ hf
def m0_b11 (v0 : Int32) (v1 : Int32) (v2 : Int32) (t0 : Int32) (H : List Obj) : Option (Int32 × List Obj) :=
  if (v0 &&& (2 : Int32)) = 0 then
    m0_b23 v0 v1 v2 t0 (0 : Int32) H
  else
    m0_b23 v0 v1 v2 t0 (1 : Int32) H
theorem m0_t11 {G : Gx} {K : Kx} (O : Ok0 G K) (v0 : Int32) (v1 : Int32) (v2 : Int32) (t0 : Int32) (H : List Obj) (r : Int32) (Hf : List Obj) (hf : m0_b11 v0 v1 v2 t0 H = some (r, Hf)) : Run G K (some (.int r)) Hf 11 [some (.int v0), some (.int v1), some (.int v2), none, none, none, none, none, none, none, none, none] [(.int t0)] H 0 0 := by
  unfold m0_b11 at hf
  refine g_istore_n O (pc' := 12) at_11 (Ls' := [some (.int v0), some (.int v1), some (.int v2), some (.int t0), none, none, none, none, none, none, none, none]) rfl rfl ?_
  refine g_iload_n O (pc' := 13) at_12 (v := v0) rfl rfl ?_
  refine g_iconst O (pc' := 14) at_13 (v := 2) (by decide) rfl ?_
  refine g_iand O (pc' := 15) at_14 rfl ?_
  refine g_if_eq O (pc' := 18) at_15 rfl (by decide) (pc1 := 22) (by decide) (fun h15 => ?_) (fun h15 => ?_)
  · rw [if_pos h15] at hf
    refine g_iconst O (pc' := 23) at_22 (v := 0) (by decide) rfl ?_
    exact m0_t23 O v0 v1 v2 t0 (0 : Int32) H _ _ hf
  · rw [if_neg h15] at hf
    refine g_iconst O (pc' := 19) at_18 (v := 1) (by decide) rfl ?_
    refine g_goto O at_19 (by decide) (pc' := 23) (by decide) ?_
    exact m0_t23 O v0 v1 v2 t0 (1 : Int32) H _ _ hf
def m0_b0 (v0 : Int32) (v1 : Int32) (v2 : Int32) (H : List Obj) : Option (Int32 × List Obj) :=
  if (v0 &&& (1 : Int32)) = 0 then
    m0_b11 v0 v1 v2 (0 : Int32) H
  else
    m0_b11 v0 v1 v2 (1 : Int32) H
theorem m0_t0 {G : Gx} {K : Kx} (O : Ok0 G K) (v0 : Int32) (v1 : Int32) (v2 : Int32) (H : List Obj) (r : Int32) (Hf : List Obj) (hf : m0_b0 v0 v1 v2 H = some (r, Hf)) : Run G K (some (.int r)) Hf 0 [some (.int v0), some (.int v1), some (.int v2), none, none, none, none, none, none, none, none, none] [] H 0 0 := by
  unfold m0_b0 at hf
  refine g_iload_n O (pc' := 1) at_0 (v := v0) rfl rfl ?_
  refine g_iconst O (pc' := 2) at_1 (v := 1) (by decide) rfl ?_
  refine g_iand O (pc' := 3) at_2 rfl ?_
  refine g_if_eq O (pc' := 6) at_3 rfl (by decide) (pc1 := 10) (by decide) (fun h3 => ?_) (fun h3 => ?_)
  · rw [if_pos h3] at hf
    refine g_iconst O (pc' := 11) at_10 (v := 0) (by decide) rfl ?_
    exact m0_t11 O v0 v1 v2 (0 : Int32) H _ _ hf
  · rw [if_neg h3] at hf
    refine g_iconst O (pc' := 7) at_6 (v := 1) (by decide) rfl ?_
    refine g_goto O at_7 (by decide) (pc' := 11) (by decide) ?_
    exact m0_t11 O v0 v1 v2 (1 : Int32) H _ _ hf
abbrev m0 (v0 : Int32) (v1 : Int32) (v2 : Int32) (H : List Obj) : Option (Int32 × List Obj) := m0_b0 v0 v1 v2 H

abbrev D (p s : Int32) : Obj := .inr (0, [.int p, .int s, .long 0, .long 0])
abbrev E (p s : Int32) (t h : Int64) : Obj := .inr (0, [.int p, .int s, .long t, .long h])
theorem own_dbl (p s : Int32) : m2 0 0 [D p s] = some [D (p + p) (s + s)] := rfl
theorem own_o (p s : Int32) : obj 0 [D p s] 0 = some [.int p, .int s, .long 0, .long 0] := rfl
theorem own_z (x : Int64) : 0 + x = x := Int64.zero_add x
theorem own_zr (x : Int64) : x + 0 = x := Int64.add_zero x
theorem own_97 (v3 v4 v5 v6 v7 v8 p s : Int32) : m0_b97 v3 v4 v5 v6 v7 v8 0 [D p s] = if v5 = 0 then m0_b228 v3 v4 v5 v6 v7 v8 0 [D (p * 131072) (s * 131072)] else m0_b228 v3 v4 v5 v6 v7 v8 0 [D (p * 262144) (s * 262144)] := by
  have d : ∀ x : Int32, x + x = x * 2 := fun x => by rw [own_eq]; have a := c_iadd x x; have b := c_imul x 2; have r1 := rng32 (x + x); have r2 := rng32 (x * 2); rw [show (2 : Int32).toInt = 2 from by decide] at b; omega
  unfold m0_b97
  simp only [own_o, own_dbl, Option.bind_some, d, Int32.mul_assoc]
  rfl
theorem own_fin1 (t0 : Int32) (p s : Int32) (t h : Int64) (o : Obj) (ht : t0 = if p < 262144 then if s < 262144 then if t < 16777216 then if h < 67108864 then 0 else 1 else 1 else 1 else 1) : ∃ Hf, m0_b296 1 t0 [o, E p s t h] = some (1, Hf) := by
  have e : m3 1 [o, E p s t h] = some (t0, [o, E p s t h]) := by
    subst ht
    show (if p < 262144 then if s < 262144 then if t < 16777216 then if h < 67108864 then m3_b45 0 _ else m3_b40 _ else m3_b40 _ else m3_b40 _ else m3_b40 _) = _
    split
    · split
      · split
        · split <;> rfl
        · rfl
      · rfl
    · rfl
  unfold m0_b296
  rw [show obj 0 [o, E p s t h] 1 = some [.int p, .int s, .long t, .long h] from rfl, Option.bind_some, e, Option.bind_some]
  dsimp only
  rw [if_pos rfl]
  exact ⟨_, rfl⟩
theorem own_251 (v3 v4 v5 v6 v7 v8 p s p' s' : Int32) (t h : Int64) : m0_b251 v3 v4 v5 v6 v7 v8 0 1 [D p s, E p' s' t h] = (if v5 = 0 then m0_b272 v6 v7 v8 1 [D p s, E (p' + p) (s' + s) t h] else if v3 = 0 then if v4 = 0 then m0_b272 v6 v7 v8 1 [D p s, E (p' + p) (s' + s) t h] else m0_b291 1 [D p s, E (p' + p) (s' + s) t h] else m0_b291 1 [D p s, E (p' + p) (s' + s) t h]) := by
  have e : m2 1 0 [D p s, E p' s' t h] = some [D p s, E (p' + p) (s' + s) t h] := by
    show some [D p s, E (p' + p) (s' + s) (t + 0) (h + 0)] = _
    rw [own_zr, own_zr]
  unfold m0_b251
  rw [show obj 0 [D p s, E p' s' t h] 1 = some [.int p', .int s', .long t, .long h] from rfl, Option.bind_some, e, Option.bind_some]
theorem own_228 (v3 v4 v5 v6 v7 v8 p s : Int32) (h7 : v7.toInt ≤ 16777216) (h8 : v8.toInt ≤ 67108864) : m0_b228 v3 v4 v5 v6 v7 v8 0 [D p s] = if v6 = 0 then m0_b251 v3 v4 v5 v6 v7 v8 0 1 [D p s, E 0 0 0 0] else m0_b251 v3 v4 v5 v6 v7 v8 0 1 [D p s, E 0 1 v7.toInt64 v8.toInt64] := by
  have z1 : (16777216 : Int64).toInt = 16777216 := by decide
  have z2 : (67108864 : Int64).toInt = 67108864 := by decide
  have e : m5 1 v8 v7 [D p s, E 0 0 0 0] = some [D p s, E 0 1 v7.toInt64 v8.toInt64] := by
    show (if (0 : Int32) = 262144 then m5_b23 [D p s, E 0 0 0 0] else if 16777216 < 0 + v7.toInt64 then m5_b23 [D p s, E 0 0 0 0] else if 67108864 < 0 + v8.toInt64 then none else some [D p s, E 0 (0 + 1) (0 + v7.toInt64) (0 + v8.toInt64)]) = _
    rw [own_z, own_z, if_neg (by decide), if_neg (by rw [own_ltL, c_i2l]; omega), if_neg (by rw [own_ltL, c_i2l]; omega)]; rfl
  unfold m0_b228
  split
  · rfl
  · show ((m5 1 v8 v7 [D p s, E 0 0 0 0]).bind fun H248 => m0_b251 v3 v4 v5 v6 v7 v8 0 1 H248) = _
    rw [e]; rfl
/-- the last part: d's counts p, s; what is expected -/
theorem own_end (v3 v4 v5 v6 v7 v8 p s : Int32) (h7 : v7.toInt ≤ 16777216) (h8 : v8.toInt ≤ 67108864) (hp : p.toInt = if v3 = 0 then 0 else if v5 = 0 then 131072 else 262144) (hs : s.toInt = if v4 = 0 then 0 else if v5 = 0 then 131072 else 262144) : ∃ Hf, m0_b228 v3 v4 v5 v6 v7 v8 0 [D p s] = some (1, Hf) := by
  have z0 : (262144 : Int32).toInt = 262144 := by decide
  have z1 : (16777216 : Int64).toInt = 16777216 := by decide
  have z2 : (67108864 : Int64).toInt = 67108864 := by decide
  have z3 : (16777216 : Int32).toInt = 16777216 := by decide
  have z4 : (67108864 : Int32).toInt = 67108864 := by decide
  have z5 : (0 : Int32).toInt = 0 := by decide
  have z6 : (1 : Int32).toInt = 1 := by decide
  have z7 : (0 : Int64).toInt = 0 := by decide
  have k1 : v7.toInt64 < 16777216 ↔ ¬ v7 = 16777216 := by rw [own_ltL, own_eq, c_i2l]; omega
  have k2 : v8.toInt64 < 67108864 ↔ ¬ v8 = 67108864 := by rw [own_ltL, own_eq, c_i2l]; omega
  have a1 := c_iadd 0 p; have a2 := rng32 (0 + p)
  have b1 := c_iadd 0 s; have b2 := rng32 (0 + s)
  have d1 := c_iadd 1 s; have d2 := rng32 (1 + s)
  rw [own_228 _ _ _ _ _ _ _ _ h7 h8]
  have u1 : (0 : Int64) < 16777216 := by decide
  have u2 : (0 : Int64) < 67108864 := by decide
  by_cases g6 : v6 = 0
  · rw [if_pos g6, own_251]
    unfold m0_b272 m0_b291 m0_b295
    by_cases g5 : v5 = 0
    · rw [if_pos g5, if_pos g6]
      refine own_fin1 _ _ _ _ _ _ ?_
      rw [if_pos (by rw [own_lt]; split at hp <;> (try split at hp) <;> omega), if_pos (by rw [own_lt]; split at hs <;> (try split at hs) <;> omega), if_pos u1, if_pos u2]
    · rw [if_neg g5]
      by_cases g3 : v3 = 0
      · rw [if_pos g3]
        by_cases g4 : v4 = 0
        · rw [if_pos g4, if_pos g6]
          refine own_fin1 _ _ _ _ _ _ ?_
          rw [if_pos g3] at hp; rw [if_pos g4] at hs
          rw [if_pos (by rw [own_lt]; omega), if_pos (by rw [own_lt]; omega), if_pos u1, if_pos u2]
        · rw [if_neg g4]
          refine own_fin1 _ _ _ _ _ _ ?_
          rw [if_pos g3] at hp; rw [if_neg g4, if_neg g5] at hs
          rw [if_pos (by rw [own_lt]; omega), if_neg (by rw [own_lt]; omega)]
      · rw [if_neg g3]
        refine own_fin1 _ _ _ _ _ _ ?_
        rw [if_neg g3, if_neg g5] at hp
        rw [if_neg (by rw [own_lt]; omega)]
  · rw [if_neg g6, own_251]
    unfold m0_b272 m0_b291 m0_b295
    by_cases g5 : v5 = 0
    · rw [if_pos g5, if_neg g6]
      have q1 : 0 + p < 262144 := by rw [own_lt]; split at hp <;> (try split at hp) <;> omega
      have q2 : 1 + s < 262144 := by rw [own_lt]; split at hs <;> (try split at hs) <;> omega
      by_cases g7 : v7 = 16777216
      · rw [if_pos g7]; refine own_fin1 _ _ _ _ _ _ ?_; rw [if_pos q1, if_pos q2, if_neg (fun q => (k1.mp q) g7)]
      · rw [if_neg g7]
        by_cases g8 : v8 = 67108864
        · rw [if_pos g8]; refine own_fin1 _ _ _ _ _ _ ?_; rw [if_pos q1, if_pos q2, if_pos (k1.mpr g7), if_neg (fun q => (k2.mp q) g8)]
        · rw [if_neg g8]; refine own_fin1 _ _ _ _ _ _ ?_; rw [if_pos q1, if_pos q2, if_pos (k1.mpr g7), if_pos (k2.mpr g8)]
    · rw [if_neg g5]
      by_cases g3 : v3 = 0
      · rw [if_pos g3]
        rw [if_pos g3] at hp
        have q1 : 0 + p < 262144 := by rw [own_lt]; omega
        by_cases g4 : v4 = 0
        · rw [if_pos g4, if_neg g6]
          rw [if_pos g4] at hs
          have q2 : 1 + s < 262144 := by rw [own_lt]; omega
          by_cases g7 : v7 = 16777216
          · rw [if_pos g7]; refine own_fin1 _ _ _ _ _ _ ?_; rw [if_pos q1, if_pos q2, if_neg (fun q => (k1.mp q) g7)]
          · rw [if_neg g7]
            by_cases g8 : v8 = 67108864
            · rw [if_pos g8]; refine own_fin1 _ _ _ _ _ _ ?_; rw [if_pos q1, if_pos q2, if_pos (k1.mpr g7), if_neg (fun q => (k2.mp q) g8)]
            · rw [if_neg g8]; refine own_fin1 _ _ _ _ _ _ ?_; rw [if_pos q1, if_pos q2, if_pos (k1.mpr g7), if_pos (k2.mpr g8)]
        · rw [if_neg g4]
          rw [if_neg g4, if_neg g5] at hs
          refine own_fin1 _ _ _ _ _ _ ?_
          rw [if_pos q1, if_neg (by rw [own_lt]; omega)]
      · rw [if_neg g3]
        rw [if_neg g3, if_neg g5] at hp
        refine own_fin1 _ _ _ _ _ _ ?_
        rw [if_neg (by rw [own_lt]; omega)]
theorem own_85 (v3 v4 v5 v6 v7 v8 p : Int32) (h7 : v7.toInt ≤ 16777216) (h8 : v8.toInt ≤ 67108864) (hp : p = if v3 = 0 then 0 else 1) : ∃ Hf, m0_b85 v3 v4 v5 v6 v7 v8 0 [D p 0] = some (1, Hf) := by
  have e : m5 0 0 0 [D p 0] = some [D p 1] := rfl
  have key : ∀ s : Int32, s = (if v4 = 0 then 0 else 1) → ∃ Hf, m0_b97 v3 v4 v5 v6 v7 v8 0 [D p s] = some (1, Hf) := fun s hs => by
    rw [own_97]
    by_cases g5 : v5 = 0
    · rw [if_pos g5]
      refine own_end _ _ _ _ _ _ _ _ h7 h8 ?_ ?_
      · rw [hp]; by_cases g : v3 = 0
        · rw [if_pos g, if_pos g]; decide
        · rw [if_neg g, if_neg g, if_pos g5]; decide
      · rw [hs]; by_cases g : v4 = 0
        · rw [if_pos g, if_pos g]; decide
        · rw [if_neg g, if_neg g, if_pos g5]; decide
    · rw [if_neg g5]
      refine own_end _ _ _ _ _ _ _ _ h7 h8 ?_ ?_
      · rw [hp]; by_cases g : v3 = 0
        · rw [if_pos g, if_pos g]; decide
        · rw [if_neg g, if_neg g, if_neg g5]; decide
      · rw [hs]; by_cases g : v4 = 0
        · rw [if_pos g, if_pos g]; decide
        · rw [if_neg g, if_neg g, if_neg g5]; decide
  unfold m0_b85
  by_cases g : v4 = 0
  · rw [if_pos g]; exact key 0 (by rw [if_pos g])
  · rw [if_neg g, own_o, Option.bind_some, e, Option.bind_some]; exact key 1 (by rw [if_neg g])
theorem own_50 (v1 v2 v3 v4 v5 t0 : Int32) : ∃ Hf, m0_b50 v1 v2 v3 v4 v5 t0 [] = some (1, Hf) := by
  have a1 := c_ishr v1 7 7 (by decide); have a2 := rng32 v1; have a3 := c_iadd (v1 >>> ((7 : Int32) &&& 31)) 1; have a4 := rng32 (v1 >>> ((7 : Int32) &&& 31) + 1)
  have b1 := c_ishr v2 5 5 (by decide); have b2 := rng32 v2; have b3 := c_iadd (v2 >>> ((5 : Int32) &&& 31)) 1; have b4 := rng32 (v2 >>> ((5 : Int32) &&& 31) + 1)
  rw [show (1 : Int32).toInt = 1 from by decide] at a3 b3
  have h7 : (v1 >>> ((7 : Int32) &&& 31) + 1).toInt ≤ 16777216 := by omega
  have h8 : (v2 >>> ((5 : Int32) &&& 31) + 1).toInt ≤ 67108864 := by omega
  unfold m0_b50
  by_cases g : v3 = 0
  · rw [if_pos g]; exact own_85 _ _ _ _ _ _ 0 h7 h8 (by rw [if_pos g])
  · rw [if_neg g]; exact own_85 _ _ _ _ _ _ 1 h7 h8 (by rw [if_neg g])
theorem plain (i0 : Int32) (i1 : Int32) (i2 : Int32) : ∃ Hf, m0 i0 i1 i2 [] = some (1, Hf) := by
  show ∃ Hf, m0_b0 i0 i1 i2 [] = some (1, Hf)
  unfold m0_b0 m0_b11 m0_b23 m0_b36
  split <;> split <;> split <;> split <;> exact own_50 _ _ _ _ _ _

theorem comes_1 {Post : Tables → Env → Array Value → State → Outcome → State → Prop} (hpost : ∀ tb e args s v u, (limb_1_1.after args s (.returned v) u = true ∧ limb_1_2.after args s (.returned v) u = true ∧ True) → FrameEnd s (.returned v) u (Jvm.fieldLocs frame_1_writes args s ++ Jvm.arrayLocs frame_1_arrays args s ++ Jvm.staticLocs frame_1_statics s) 16 128 → Post tb e args s (.returned v) u) :
    ArmFor flags0 classFile x code maxLocals ret World_1 tables_1 room_1 Calls_1 rest_1 Pre_1 Post := by
  intro l hfl _ _ p e ha hc hk s m args below hf hA hF happ hP
  obtain ⟨hcalls, hrest, hpre⟩ := hP
  obtain ⟨-, -, -, hnamed, -, -, -, hat⟩ := (Spec.applies_iff hf).mp happ
  obtain ⟨hg, hn⟩ := and_e (Cond.before_iff.mp (show (Jvm.Cond.and given_1 narrow_1).before args s = true from hpre))
  obtain ⟨h1, g0⟩ := and_e hg
  obtain ⟨w0, w1, w2, rfl⟩ : ∃ w0 w1 w2 : Value, args = #[w0, w1, w2] := by
    have hs : args.size = 3 := by simpa [Cond.value, given_1] using h1
    obtain ⟨L⟩ := args
    match L, hs with
    | [w0, w1, w2], _ => exact ⟨w0, w1, w2, rfl⟩
  have hw := fun d (hd : d ∈ tables_1) => atoms_spec (ws := Jvm.Cond.code x code maxLocals ret :: tables_1) hat d (List.mem_cons_of_mem _ hd)
  obtain ⟨a0, g1⟩ := and_e g0
  obtain ⟨i0, e0⟩ := is_v a0
  obtain rfl : w0 = (.int i0) := Option.some.inj e0
  obtain ⟨a1, g2⟩ := and_e g1
  obtain ⟨i1, e1⟩ := is_v a1
  obtain rfl : w1 = (.int i1) := Option.some.inj e1
  obtain ⟨i2, e2⟩ := is_v g2
  obtain rfl : w2 = (.int i2) := Option.some.inj e2
  obtain ⟨Hf, hlaw⟩ := plain i0 i1 i2
  obtain ⟨n, o, h1, h2, h3, _, L, rfl, ⟨rfl, N⟩, hq⟩ := law_of (l := l) (s := s) (as := [(.int i0), (.int i1), (.int i2)]) (k0 := 2) (k1 := 8) hw pn0 rfl rfl (fun K O => m0_t0 O i0 i1 i2 [] 1 Hf hlaw) p e ha hc hk s m _ below hf ((Spec.applies_iff_loose hf).mp happ).1 ⟨rfl, State.Warmed39.refl s, rfl⟩ trivial
  refine ⟨n, _, h1, h2, h3, hpost _ _ _ _ _ _ ⟨Cond.after_iff.mpr rfl, Cond.after_iff.mpr (eq_i res_at (Term.int_eval (1)) rfl), trivial⟩ ⟨hq.1, hq.2.1, (hq.2.2.sift fun y hy => Or.inr (N y hy)).mono (by decide) (by decide)⟩⟩
theorem main_1_1 : Claimed_1_1 := comes_1 fun _ _ _ _ _ _ h hF => ⟨h.1, hF⟩
theorem main_1_2 : Claimed_1_2 := comes_1 fun _ _ _ _ _ _ h hF => ⟨h.2.1, hF⟩
end Jvm.Pilot.@@N@@
namespace Jvm.Pilot.@@N@@
open Jvm Jvm.ClassFile Sem Op Lib Jvm.Free Jvm.Stand Jvm.Pilot.@@N@@.Jvm.D
/-! MADE BY PROGRAM (witnessworld.py) out of the Statement's table words and the real class files: 9 classes; the members and pool entries that the words name. The judged class is class 1, her method 1. -/
namespace start1
open Jvm.ClassFile
def u (s : String) : CpInfo := .utf8 (stringToUtf16 s)
/-- a pool by its gaps: so many unusable entries, then the entry; so many at the end -/
def gap : Nat → List CpInfo → List CpInfo
  | 0, r => r
  | n + 1, r => .unusable :: gap n r
def poolList (es : List (Nat × CpInfo)) (last : Nat) : List CpInfo := es.foldr (fun e r => gap e.1 (e.2 :: r)) (gap last [])
def pool (es : List (Nat × CpInfo)) (last : Nat) : Array CpInfo := ⟨poolList es last⟩
def fileOf (pool : Array CpInfo) (this : Nat) (attrs : Array Attribute := #[]) (ms : Array MethodInfo := #[]) (fl : Nat := 33) (sup : Nat := 0) (ifs : Array Nat := #[]) (fds : Array FieldInfo := #[]) : ClassFile where
  minorVersion := 0
  majorVersion := 65
  constantPool := pool
  accessFlags := fl
  thisClass := this
  superClass := sup
  interfaces := ifs
  fields := fds
  methods := ms
  attributes := attrs
def plain (name : String) (sup : Option ClassId) : Class where
  name := name
  kind := .ordinary
  loader := none
  accessFlags := 33
  super := sup
  interfaces := #[]
  cf := none
  fields := #[]
  methods := #[]
  instanceTypes := #[]
  staticTypes := #[]
  resolved := #[]
  callSites := []
  init := .initialized
  statics := none
  mirror := none

def pool0 : Array CpInfo := pool [(5, u "<init>"), (0, u "()V"), (1, .class_ 10), (1, u "java/lang/Object")] 113

def k0c0 : Code := { maxStack := 0, maxLocals := 1, code := object_method_1_code, exceptionTable := #[], attributes := #[] }
def k0m0 : Method := { name := "<init>", desc := "()V", sig := { parameters := [], returnType := none }, accessFlags := 1, code := some k0c0 }
/-- java/lang/Object -/
def k0 : Class := { plain "java/lang/Object" none with
  accessFlags := 33
  interfaces := #[]
  cf := some (fileOf pool0 8 #[] #[{ accessFlags := 1, nameIndex := 5, descriptorIndex := 6, attributes := #[] }] 33 0 #[] #[])
  fields := #[]
  methods := #[k0m0]
  instanceTypes := #[]
  staticTypes := #[]
  resolved := Array.replicate 124 none
  statics := none }

def pool1 : Array CpInfo := pool [(2, .class_ 4), (0, .nameAndType 5 6), (0, u "java/lang/Object"), (0, u "<init>"), (0, u "()V"), (0, .class_ 8), (0, u "com/example/lexweave/lexweave/AutomatonSize"), (0, .methodref 7 3), (0, .methodref 7 11), (0, .nameAndType 12 6), (0, u "addPosition"), (0, .methodref 7 14), (0, .nameAndType 15 16), (0, u "addState"), (0, u "(II)V"), (0, .methodref 7 18), (0, .nameAndType 19 20), (0, u "add"), (0, u "(Lcom/example/lexweave/lexweave/AutomatonSize;)V"), (0, .integer 16777216), (0, .integer 67108864), (0, .methodref 7 24), (0, .nameAndType 25 26), (0, u "reachesALimit"), (0, u "()Z"), (0, .class_ 28), (0, u "com/example/lexweave/lexweave/AutomatonSizeReachesALimitPinLaw"), (2, u "law"), (0, u "(III)Z")] 6

def k1m0 : Method := { name := "<init>", desc := "()V", sig := { parameters := [], returnType := none }, accessFlags := 1, code := none }
def k1c1 : Code := { maxStack := 3, maxLocals := 12, code := code, exceptionTable := #[], attributes := #[] }
def k1m1 : Method := { name := "law", desc := "(III)Z", sig := { parameters := [.int, .int, .int], returnType := some .boolean }, accessFlags := 9, code := some k1c1 }
/-- com/example/lexweave/lexweave/AutomatonSizeReachesALimitPinLaw -/
def k1 : Class := { plain "com/example/lexweave/lexweave/AutomatonSizeReachesALimitPinLaw" (some 0) with
  accessFlags := 49
  interfaces := #[]
  cf := some (fileOf pool1 27 #[] #[{ accessFlags := 1, nameIndex := 5, descriptorIndex := 6, attributes := #[] }, { accessFlags := 9, nameIndex := 31, descriptorIndex := 32, attributes := #[] }] 49 2 #[] #[])
  fields := #[]
  methods := #[k1m0, k1m1]
  instanceTypes := #[]
  staticTypes := #[]
  resolved := Array.replicate 39 none
  statics := none }

def pool2 : Array CpInfo := pool [(1, .class_ 2), (0, u "com/example/lexweave/lexweave/AutomatonSize"), (0, .methodref 4 5), (0, .class_ 6), (0, .nameAndType 7 8), (0, u "java/lang/Object"), (0, u "<init>"), (0, u "()V"), (0, .fieldref 1 10), (0, .nameAndType 11 12), (0, u "positions"), (0, u "I"), (0, .integer 262144), (7, .fieldref 1 22), (0, .nameAndType 23 12), (0, u "states"), (0, .fieldref 1 25), (0, .nameAndType 26 27), (0, u "transitions"), (0, u "J"), (0, .long 16777216), (3, .fieldref 1 33), (0, .nameAndType 34 27), (0, u "heldPositions"), (0, .long 67108864), (3, u "MAX_POSITIONS"), (1, u "MAX_STATES"), (0, u "MAX_TRANSITIONS"), (0, u "MAX_HELD_POSITIONS"), (0, u "TOO_MANY_POSITIONS"), (0, u "Ljava/lang/String;"), (0, u "TOO_MANY_STATES"), (0, u "TOO_MANY_HELD_POSITIONS"), (2, u "addPosition"), (2, u "addState"), (0, u "(II)V"), (0, u "add"), (0, u "(Lcom/example/lexweave/lexweave/AutomatonSize;)V"), (0, u "reachesALimit"), (0, u "()Z")] 2

def k2c0 : Code := { maxStack := 1, maxLocals := 1, code := prog_3_method_1_code, exceptionTable := #[], attributes := #[] }
def k2m0 : Method := { name := "<init>", desc := "()V", sig := { parameters := [], returnType := none }, accessFlags := 0, code := some k2c0 }
def k2c1 : Code := { maxStack := 3, maxLocals := 1, code := prog_3_method_2_code, exceptionTable := #[], attributes := #[] }
def k2m1 : Method := { name := "addPosition", desc := "()V", sig := { parameters := [], returnType := none }, accessFlags := 0, code := some k2c1 }
def k2c2 : Code := { maxStack := 5, maxLocals := 3, code := prog_3_method_3_code, exceptionTable := #[], attributes := #[] }
def k2m2 : Method := { name := "addState", desc := "(II)V", sig := { parameters := [.int, .int], returnType := none }, accessFlags := 0, code := some k2c2 }
def k2c3 : Code := { maxStack := 5, maxLocals := 2, code := prog_3_method_4_code, exceptionTable := #[], attributes := #[] }
def k2m3 : Method := { name := "add", desc := "(Lcom/example/lexweave/lexweave/AutomatonSize;)V", sig := { parameters := [(.object "com/example/lexweave/lexweave/AutomatonSize")], returnType := none }, accessFlags := 0, code := some k2c3 }
def k2c4 : Code := { maxStack := 4, maxLocals := 1, code := prog_3_method_5_code, exceptionTable := #[], attributes := #[] }
def k2m4 : Method := { name := "reachesALimit", desc := "()Z", sig := { parameters := [], returnType := some .boolean }, accessFlags := 0, code := some k2c4 }
/-- com/example/lexweave/lexweave/AutomatonSize -/
def k2 : Class := { plain "com/example/lexweave/lexweave/AutomatonSize" (some 0) with
  accessFlags := 48
  interfaces := #[]
  cf := some (fileOf pool2 1 #[] #[{ accessFlags := 0, nameIndex := 7, descriptorIndex := 8, attributes := #[] }, { accessFlags := 0, nameIndex := 50, descriptorIndex := 8, attributes := #[] }, { accessFlags := 0, nameIndex := 53, descriptorIndex := 54, attributes := #[] }, { accessFlags := 0, nameIndex := 55, descriptorIndex := 56, attributes := #[] }, { accessFlags := 0, nameIndex := 57, descriptorIndex := 58, attributes := #[] }] 48 4 #[] #[{ accessFlags := 26, nameIndex := 39, descriptorIndex := 12, attributes := #[] }, { accessFlags := 26, nameIndex := 41, descriptorIndex := 12, attributes := #[] }, { accessFlags := 26, nameIndex := 42, descriptorIndex := 27, attributes := #[] }, { accessFlags := 26, nameIndex := 43, descriptorIndex := 27, attributes := #[] }, { accessFlags := 26, nameIndex := 44, descriptorIndex := 45, attributes := #[] }, { accessFlags := 26, nameIndex := 46, descriptorIndex := 45, attributes := #[] }, { accessFlags := 26, nameIndex := 47, descriptorIndex := 45, attributes := #[] }, { accessFlags := 2, nameIndex := 11, descriptorIndex := 12, attributes := #[] }, { accessFlags := 2, nameIndex := 23, descriptorIndex := 12, attributes := #[] }, { accessFlags := 2, nameIndex := 26, descriptorIndex := 27, attributes := #[] }, { accessFlags := 2, nameIndex := 34, descriptorIndex := 27, attributes := #[] }])
  fields := #[{ name := "MAX_POSITIONS", type := .int, accessFlags := 26, slot := 0, constantValue := 0 }, { name := "MAX_STATES", type := .int, accessFlags := 26, slot := 1, constantValue := 0 }, { name := "MAX_TRANSITIONS", type := .long, accessFlags := 26, slot := 2, constantValue := 0 }, { name := "MAX_HELD_POSITIONS", type := .long, accessFlags := 26, slot := 3, constantValue := 0 }, { name := "TOO_MANY_POSITIONS", type := (.object "java/lang/String"), accessFlags := 26, slot := 4, constantValue := 0 }, { name := "TOO_MANY_STATES", type := (.object "java/lang/String"), accessFlags := 26, slot := 5, constantValue := 0 }, { name := "TOO_MANY_HELD_POSITIONS", type := (.object "java/lang/String"), accessFlags := 26, slot := 6, constantValue := 0 }, { name := "positions", type := .int, accessFlags := 2, slot := 0, constantValue := 0 }, { name := "states", type := .int, accessFlags := 2, slot := 1, constantValue := 0 }, { name := "transitions", type := .long, accessFlags := 2, slot := 2, constantValue := 0 }, { name := "heldPositions", type := .long, accessFlags := 2, slot := 3, constantValue := 0 }]
  methods := #[k2m0, k2m1, k2m2, k2m3, k2m4]
  instanceTypes := #[.int, .int, .long, .long]
  staticTypes := #[.int, .int, .long, .long, (.object "java/lang/String"), (.object "java/lang/String"), (.object "java/lang/String")]
  resolved := Array.replicate 61 none
  statics := none }

def pool3 : Array CpInfo := pool [(1, u "java/lang/Cloneable"), (0, .class_ 1), (0, u "java/lang/Object"), (0, .class_ 3)] 3

/-- java/lang/Cloneable -/
def k3 : Class := { plain "java/lang/Cloneable" (some 0) with
  accessFlags := 1537
  interfaces := #[]
  cf := some (fileOf pool3 2 #[] #[] 1537 4 #[] #[])
  fields := #[]
  methods := #[]
  instanceTypes := #[]
  staticTypes := #[]
  resolved := Array.replicate 8 none
  statics := none }

def pool4 : Array CpInfo := pool [(1, u "java/io/Serializable"), (0, .class_ 1), (0, u "java/lang/Object"), (0, .class_ 3)] 3

/-- java/io/Serializable -/
def k4 : Class := { plain "java/io/Serializable" (some 0) with
  accessFlags := 1537
  interfaces := #[]
  cf := some (fileOf pool4 2 #[] #[] 1537 4 #[] #[])
  fields := #[]
  methods := #[]
  instanceTypes := #[]
  staticTypes := #[]
  resolved := Array.replicate 8 none
  statics := none }

/-- the primitive byte -/
def k5 : Class := { plain "byte" none with kind := .primitive 'B', accessFlags := 0x411 }
/-- [B -/
def k6 : Class := { plain "[B" (some 0) with kind := .array 5 .byte, interfaces := #[3, 4], accessFlags := 1041 }

/-- the primitive int -/
def k7 : Class := { plain "int" none with kind := .primitive 'I', accessFlags := 0x411 }
/-- [I -/
def k8 : Class := { plain "[I" (some 0) with kind := .array 7 .int, interfaces := #[3, 4], accessFlags := 1041 }

def heap : Heap := #[]
def classes : Array Class := #[k0, k1, k2, k3, k4, k5, k6, k7, k8]
def interned : List (Array UInt16 × Addr) := []
def slotsUsed : Nat := 0
def theMethod : MethodId := ⟨1, 1⟩
def args0 : Array Value := #[.int 5, .int 5, .int 5]
def aboutOver (below : List Frame) : State where
  vm := { classes := classes, interned := interned.toArray }
  heap := heap
  slotsUsed := slotsUsed
  threads := #[{ frames := .invoking theMethod args0 :: below }]
def below0 : List Frame := [.native { method := ⟨0, 0⟩, args := #[] }]
def about1 : State := aboutOver below0
def p0 : Program := .bare "" "" ""
def e0 : Env := launch0.env 0 0 0
theorem w_frames : about1.frames = Frame.invoking theMethod args0 :: below0 := rfl
set_option maxRecDepth 65536 in
theorem w_args : argsFit about1.vm theMethod args0 = true := by decide +kernel
set_option maxRecDepth 65536 in
theorem w_heap : heapFits about1 = true := by decide +kernel
set_option maxRecDepth 65536 in
theorem w_runnable : about1.curStatus? = some .runnable := by decide +kernel
set_option maxRecDepth 65536 in
theorem w_alone : about1.alone = true := by decide +kernel
set_option maxRecDepth 65536 in
theorem w_named : about1.methodNamed? x = some theMethod := by decide +kernel
set_option maxRecDepth 65536 in
theorem w_hears : about1.hears theMethod below0 = true := by decide +kernel
set_option maxRecDepth 65536 in
theorem w_ripe : about1.ripe theMethod args0 below0 = true := by decide +kernel
theorem w_running : about1.status = .running := rfl
set_option maxRecDepth 65536 in
theorem w_room : about1.hasRoom e0.platform room_1 = true :=
  launch0.hasRoom_least _ room_1 (by decide +kernel) (by decide +kernel) (by decide +kernel) (by decide +kernel) (by decide +kernel) (by decide +kernel)
theorem allAtoms_all (ts : List Jvm.Cond) (a : Array Jvm.Value) (st : Jvm.State) : (allAtoms ts).before a st = ts.all (fun c => c.before a st) := by
  induction ts with
  | nil => rfl
  | cons c t ih =>
    show (Jvm.Cond.and c (allAtoms t)).before a st = _
    rw [Jvm.Cond.before_and, ih, List.all_cons]
def words1 : List Jvm.Cond := Jvm.Cond.code x code maxLocals ret :: tables_1
/-- a 'code' word, met by the world's own term for the bytes: nothing is compared byte by byte -/
theorem code_word {y : MethodName} {bytes : ByteArray} {mx : Nat} {rt : Option FieldType} {a : Array Value} {s : State} {m : MethodId} {meth : Method} {c : Code} (h1 : s.methodNamed? y = some m) (h2 : s.vm.method? m = some meth) (h3 : meth.code = some c) (h4 : c.code = bytes)
    (h5 : (c.maxLocals == mx && c.exceptionTable.isEmpty && decide (c.maxStack ≤ mostOperands) && decide (meth.sig.returnType = rt) && !meth.locks && decide (parseMethodDescriptor y.desc = some meth.sig)) = true) : (Jvm.Cond.code y bytes mx rt).before a s = true := by
  simp only [Bool.and_eq_true, beq_iff_eq, Bool.not_eq_true', decide_eq_true_eq] at h5
  obtain ⟨⟨⟨⟨⟨g1, g2⟩, g3⟩, g4⟩, g5⟩, g6⟩ := h5
  simp [Cond.before, Cond.holds, Cond.value, h1, h2, h3, h4, g1, g2, g3, g4, g5, g6]
def isCode : Jvm.Cond → Bool
  | .code _ _ _ _ => true
  | _ => false
theorem all_split {L : List Jvm.Cond} {P : Jvm.Cond → Bool} (h1 : L.all (fun c => isCode c || P c) = true) (h2 : ∀ c ∈ L.filter isCode, P c = true) : L.all P = true := by
  refine List.all_eq_true.mpr fun c hc => ?_
  have h := List.all_eq_true.mp h1 c hc
  rcases Bool.eq_false_or_eq_true (isCode c) with hi | hi
  · exact h2 c (List.mem_filter.mpr ⟨hc, hi⟩)
  · simpa [hi] using h
set_option maxRecDepth 65536 in
theorem w_c0 : (Jvm.Cond.code x code maxLocals ret).before args0 about1 = true := code_word (m := ⟨1, 1⟩) (meth := k1m1) (c := k1c1) (by decide +kernel) rfl rfl rfl (by decide +kernel)
set_option maxRecDepth 65536 in
theorem w_c1 : (Jvm.Cond.code ({ cls := "com/example/lexweave/lexweave/AutomatonSize", name := "<init>", desc := "()V" } : Jvm.MethodName) prog_3_method_1_code (1 : Nat) (Option.none : Option Jvm.ClassFile.FieldType)).before args0 about1 = true := code_word (m := ⟨2, 0⟩) (meth := k2m0) (c := k2c0) (by decide +kernel) rfl rfl rfl (by decide +kernel)
set_option maxRecDepth 65536 in
theorem w_c2 : (Jvm.Cond.code ({ cls := "java/lang/Object", name := "<init>", desc := "()V" } : Jvm.MethodName) object_method_1_code (1 : Nat) (Option.none : Option Jvm.ClassFile.FieldType)).before args0 about1 = true := code_word (m := ⟨0, 0⟩) (meth := k0m0) (c := k0c0) (by decide +kernel) rfl rfl rfl (by decide +kernel)
set_option maxRecDepth 65536 in
theorem w_c3 : (Jvm.Cond.code ({ cls := "com/example/lexweave/lexweave/AutomatonSize", name := "add", desc := "(Lcom/example/lexweave/lexweave/AutomatonSize;)V" } : Jvm.MethodName) prog_3_method_4_code (2 : Nat) (Option.none : Option Jvm.ClassFile.FieldType)).before args0 about1 = true := code_word (m := ⟨2, 3⟩) (meth := k2m3) (c := k2c3) (by decide +kernel) rfl rfl rfl (by decide +kernel)
set_option maxRecDepth 65536 in
theorem w_c4 : (Jvm.Cond.code ({ cls := "com/example/lexweave/lexweave/AutomatonSize", name := "reachesALimit", desc := "()Z" } : Jvm.MethodName) prog_3_method_5_code (1 : Nat) (Option.some Jvm.ClassFile.FieldType.boolean)).before args0 about1 = true := code_word (m := ⟨2, 4⟩) (meth := k2m4) (c := k2c4) (by decide +kernel) rfl rfl rfl (by decide +kernel)
set_option maxRecDepth 65536 in
theorem w_c5 : (Jvm.Cond.code ({ cls := "com/example/lexweave/lexweave/AutomatonSize", name := "addPosition", desc := "()V" } : Jvm.MethodName) prog_3_method_2_code (1 : Nat) (Option.none : Option Jvm.ClassFile.FieldType)).before args0 about1 = true := code_word (m := ⟨2, 1⟩) (meth := k2m1) (c := k2c1) (by decide +kernel) rfl rfl rfl (by decide +kernel)
set_option maxRecDepth 65536 in
theorem w_c6 : (Jvm.Cond.code ({ cls := "com/example/lexweave/lexweave/AutomatonSize", name := "addState", desc := "(II)V" } : Jvm.MethodName) prog_3_method_3_code (3 : Nat) (Option.none : Option Jvm.ClassFile.FieldType)).before args0 about1 = true := code_word (m := ⟨2, 2⟩) (meth := k2m2) (c := k2c2) (by decide +kernel) rfl rfl rfl (by decide +kernel)
def codes1 : List Jvm.Cond := [Jvm.Cond.code x code maxLocals ret, Jvm.Cond.code ({ cls := "com/example/lexweave/lexweave/AutomatonSize", name := "<init>", desc := "()V" } : Jvm.MethodName) prog_3_method_1_code (1 : Nat) (Option.none : Option Jvm.ClassFile.FieldType), Jvm.Cond.code ({ cls := "java/lang/Object", name := "<init>", desc := "()V" } : Jvm.MethodName) object_method_1_code (1 : Nat) (Option.none : Option Jvm.ClassFile.FieldType), Jvm.Cond.code ({ cls := "com/example/lexweave/lexweave/AutomatonSize", name := "add", desc := "(Lcom/example/lexweave/lexweave/AutomatonSize;)V" } : Jvm.MethodName) prog_3_method_4_code (2 : Nat) (Option.none : Option Jvm.ClassFile.FieldType), Jvm.Cond.code ({ cls := "com/example/lexweave/lexweave/AutomatonSize", name := "reachesALimit", desc := "()Z" } : Jvm.MethodName) prog_3_method_5_code (1 : Nat) (Option.some Jvm.ClassFile.FieldType.boolean), Jvm.Cond.code ({ cls := "com/example/lexweave/lexweave/AutomatonSize", name := "addPosition", desc := "()V" } : Jvm.MethodName) prog_3_method_2_code (1 : Nat) (Option.none : Option Jvm.ClassFile.FieldType), Jvm.Cond.code ({ cls := "com/example/lexweave/lexweave/AutomatonSize", name := "addState", desc := "(II)V" } : Jvm.MethodName) prog_3_method_3_code (3 : Nat) (Option.none : Option Jvm.ClassFile.FieldType)]
set_option maxRecDepth 65536 in
theorem codes_eq : words1.filter isCode = codes1 := rfl
theorem w_codes : ∀ c ∈ words1.filter isCode, c.before args0 about1 = true := by
  rw [codes_eq]
  intro c hc
  simp only [codes1, List.mem_cons, List.not_mem_nil, or_false] at hc
  rcases hc with rfl | rfl | rfl | rfl | rfl | rfl | rfl
  · exact w_c0
  · exact w_c1
  · exact w_c2
  · exact w_c3
  · exact w_c4
  · exact w_c5
  · exact w_c6
set_option maxRecDepth 65536 in
theorem w_t1 : (words1.take 24).all (fun c => isCode c || c.before args0 about1) = true := by decide +kernel
set_option maxRecDepth 65536 in
theorem w_t2 : (words1.drop 24).all (fun c => isCode c || c.before args0 about1) = true := by decide +kernel
theorem w_tables : (allAtoms (Jvm.Cond.code x code maxLocals ret :: tables_1)).before args0 about1 = true := by
  rw [allAtoms_all]
  show words1.all (fun c => c.before args0 about1) = true
  refine all_split ?_ w_codes
  rw [← List.take_append_drop 24 words1, List.all_append, w_t1, w_t2]
  rfl
set_option maxRecDepth 65536 in
theorem w_case : (Jvm.Cond.and given_1 narrow_1).before args0 about1 = true := by decide +kernel
theorem w_applies : (headSpec (Jvm.Cond.code x code maxLocals ret :: tables_1) room_1).applies x e0.platform about1 = true :=
  (Spec.applies_iff w_frames).mpr ⟨w_running, w_runnable, w_alone, w_named, w_hears, w_ripe, w_room, w_tables⟩
theorem atStart : AtStart classFile x code maxLocals ret World_1 tables_1 room_1 Calls_1 rest_1 Pre_1 launch0 p0 e0 about1 theMethod args0 below0 :=
  ⟨lists_1, trivial, launch0.admits_env _ _ _, launch0.least_env, fairChoices_fair.cas, fairChoices_fair.clock, w_frames, w_args, w_heap, w_applies, trivial, trivial, w_case⟩
end start1
theorem witness_1 : WitnessClaimed_1 := ⟨start1.p0, start1.e0, start1.about1, start1.theMethod, start1.args0, start1.below0, start1.atStart⟩
end Jvm.Pilot.@@N@@
