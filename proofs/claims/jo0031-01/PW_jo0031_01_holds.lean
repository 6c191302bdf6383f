import PyProof.Rows.All
import Wide.All
import OpenK.AllK
import Wide.FinOn
import PySem.Challenge.RW_jo0031_01
set_option Elab.async false
section PartJ1
open PySem PySem.W PyProof.Rows
set_option maxRecDepth 100000
set_option maxHeartbeats 1000000
namespace Mine

/-! the nodes: ints, or pairs of an int and the text n -/
def mixIs : Int ⊕ Str → Value → Bool
  | .inl i, v => Value.isInt i v
  | .inr a, v => Value.isStrOf a v

theorem mixIs_shape {k : Int ⊕ Str} {v : Value} (h : mixIs k v = true) : (∃ i t, k = .inl i ∧ v = .int i t) ∨ (∃ a t, k = .inr a ∧ v = .str a t) := by
  cases k with
  | inl i => obtain ⟨t, rfl⟩ := Value.isInt_shape h; exact .inl ⟨i, t, rfl, rfl⟩
  | inr a => obtain ⟨t, rfl⟩ := Value.isStrOf_shape h; exact .inr ⟨a, t, rfl, rfl⟩

section
variable {prog : Program} {w : World} {A : Around} {E : Value → Shared → Prop} {s : Shared}
theorem eqBool_of_eq {a b : Value} {Q : Bool → Shared → Prop} (hab : (a == b) = false) (hnf : ∀ x t y u, ¬ (a = .float x t ∧ b = .float y u))
    (h : wpAny (model prog w) A (compareOp .Eq a b) (fun r s' => ∃ c, r = .bool c ∧ Q c s') E s) : wpAny (model prog w) A (eqBool a b) Q E s := by
  unfold eqBool
  try with_reducible refine wpAny_holding ?_
  rw [if_neg (by rw [hab]; exact Bool.false_ne_true)]
  have fin : wpAny (model prog w) A (richCompare .Eq a b >>= truthOfDropped) Q E s := by
    refine wpAny_bind (wpAny_mono (show wpAny (model prog w) A (richCompare .Eq a b) _ E s from h) (fun r s' hr => ?_) fun _ _ e => e)
    obtain ⟨c, rfl, hq⟩ := hr
    exact wpAny_truthy_bool hq
  cases a <;> cases b <;> first | exact fin | exact wpAny_bind fin | (exfalso; exact hnf _ _ _ _ ⟨rfl, rfl⟩)
end

def mixKind (prog : Program) (w : World) : KeyKind prog w (Int ⊕ Str) where
  is := mixIs
  hash := fun k => match k with
    | .inl i => hashInt i
    | .inr a => hashStr w a
  inj := fun v a b ha hb => by
    rcases mixIs_shape ha with ⟨i, t, rfl, rfl⟩ | ⟨i, t, rfl, rfl⟩ <;> rcases mixIs_shape hb with ⟨j, u, rfl, e⟩ | ⟨j, u, rfl, e⟩ <;> cases e <;> rfl
  byValue := fun k v h => by
    rcases mixIs_shape h with ⟨i, t, rfl, rfl⟩ | ⟨i, t, rfl, rfl⟩ <;> rfl
  pyHash := fun hv h => by
    rcases mixIs_shape hv with ⟨i, t, rfl, rfl⟩ | ⟨i, t, rfl, rfl⟩
    · exact wpAny_pyHash_int h
    · exact wpAny_pyHash_str h
  eqBool := fun hu hv h => by
    rcases mixIs_shape hu with ⟨i, t, rfl, rfl⟩ | ⟨i, t, rfl, rfl⟩ <;> rcases mixIs_shape hv with ⟨j, u, rfl, rfl⟩ | ⟨j, u, rfl, rfl⟩
    · refine wpAny_eqBool_int ?_
      have e : decide ((Sum.inl i : Int ⊕ Str) = .inl j) = (i == j) := by
        by_cases hij : i = j <;> simp [hij]
      rw [e] at h; exact h
    · refine eqBool_of_eq rfl (by rintro _ _ _ _ ⟨⟨⟩, _⟩) (EqMixed.eq_int_str ⟨false, rfl, ?_⟩)
      rw [decide_eq_false (by simp)] at h; exact h
    · refine eqBool_of_eq rfl (by rintro _ _ _ _ ⟨⟨⟩, _⟩) (EqMixed.eq_str_int ⟨false, rfl, ?_⟩)
      rw [decide_eq_false (by simp)] at h; exact h
    · refine wpAny_eqBool_str ?_
      have e : decide ((Sum.inr i : Int ⊕ Str) = .inr j) = decide (i = j) := by
        by_cases hij : i = j <;> simp [hij]
      rw [e] at h; exact h
  «strs» := fun k x t v h => by
    rcases mixIs_shape h with ⟨i, t, rfl, e⟩ | ⟨i, t, rfl, e⟩
    · cases e
    · injection e with e1 e2
      subst e1
      cases v <;> rfl

structure Nds where
  kd : Bool
  ad : Nat → Addr

/-- the value of a node -/
def NV (C : Nds) (i : Nat) (v : Value) : Prop := (C.kd = true → ∃ t, v = .int (i : Int) t) ∧ (C.kd = false → v = .ref (C.ad i))
inductive NVs (C : Nds) : List Nat → List Value → Prop
  | nil : NVs C [] []
  | cons {i : Nat} {v : Value} {js : List Nat} {vs : List Value} : NV C i v → NVs C js vs → NVs C (i :: js) (v :: vs)
theorem NVs.length {C : Nds} {js : List Nat} {vs : List Value} (h : NVs C js vs) : js.length = vs.length := by
  induction h with
  | nil => rfl
  | cons _ _ ih => simp [ih]
theorem NVs.append {C : Nds} {js js' : List Nat} {vs vs' : List Value} (h : NVs C js vs) (h' : NVs C js' vs') : NVs C (js ++ js') (vs ++ vs') := by
  induction h with
  | nil => exact h'
  | cons a _ ih => exact .cons a ih
theorem NVs.at {C : Nds} {js : List Nat} {vs : List Value} (h : NVs C js vs) : ∀ {k : Nat} {j : Nat}, js[k]? = some j → ∃ v, vs[k]? = some v ∧ NV C j v := by
  induction h with
  | nil => intro k j e; simp at e
  | @cons i v js vs a _ ih =>
    intro k j e
    cases k with
    | zero => simp at e; subst e; exact ⟨v, rfl, a⟩
    | succ k => simp only [List.getElem?_cons_succ] at e ⊢; exact ih e
theorem NVs.at' {C : Nds} {js : List Nat} {vs : List Value} (h : NVs C js vs) : ∀ {k : Nat} {v : Value}, vs[k]? = some v → ∃ j, js[k]? = some j ∧ NV C j v := by
  induction h with
  | nil => intro k j e; simp at e
  | @cons i v js vs a _ ih =>
    intro k j e
    cases k with
    | zero => simp at e; subst e; exact ⟨i, rfl, a⟩
    | succ k => simp only [List.getElem?_cons_succ] at e ⊢; exact ih e
def tkey (i : Nat) : List (Int ⊕ Str) := [.inl (i : Int), .inr (Str.ofString "n")]
theorem tkey_inj {i j : Nat} (h : tkey i = tkey j) : i = j := by
  unfold tkey at h; simp at h; omega

def NodeOk (prog : Program) (w : World) (C : Nds) (h : Heap) (i : Nat) : Prop := C.kd = false → IsTupleKey (mixKind prog w) h (tkey i) (C.ad i)
def tupK (prog : Program) (w : World) : HeapKind prog w (List (Int ⊕ Str)) := tupleKind (mixKind prog w)

def ObjN (prog : Program) (w : World) (C : Nds) (o : Obj) (xs : List (Nat × Value)) : Prop :=
  ∃ es ep, o.ExactDict ∧ o.data = .dict es ep ∧ (xs.map (·.1)).Nodup ∧
    (C.kd = true → KeysOf (intKind prog w) es ∧ Pairs (intKind prog w) es.toList (xs.map fun x => ((x.1 : Int), x.2))) ∧
    (C.kd = false → es.toList = xs.map fun x => (entryOfKey (tupK prog w) (tkey x.1, C.ad x.1, x.2)))
def RawN (prog : Program) (w : World) (C : Nds) (h : Heap) (d : Addr) (xs : List (Nat × Value)) : Prop := ∃ o, h.get? d = some o ∧ ObjN prog w C o xs

theorem RawN.at {prog : Program} {w : World} {C : Nds} {h h' : Heap} {d : Addr} {xs : List (Nat × Value)} (x : RawN prog w C h d xs) (e : ∀ o, h.get? d = some o → h'.get? d = some o) : RawN prog w C h' d xs :=
  let ⟨o, ho, r⟩ := x; ⟨o, e _ ho, r⟩

def fI (x : Nat × Value) : Int × Value := ((x.1 : Int), x.2)
def fT (C : Nds) (x : Nat × Value) : List (Int ⊕ Str) × Addr × Value := (tkey x.1, C.ad x.1, x.2)

theorem valueAt_fI (xs : List (Nat × Value)) (i : Nat) : valueAt (xs.map fI) (i : Int) = valueAt xs i := by
  induction xs with
  | nil => rfl
  | cons x r ih =>
    unfold valueAt at ih ⊢
    simp only [List.map_cons, List.find?_cons]
    have e : decide ((fI x).1 = (i : Int)) = decide (x.1 = i) := by
      unfold fI; by_cases h : x.1 = i
      · simp [h]
      · rw [decide_eq_false h]; exact decide_eq_false (by show ¬ (x.1 : Int) = i; omega)
    rw [e]
    cases h : decide (x.1 = i)
    · exact ih
    · rfl
theorem atKey_fT (C : Nds) (xs : List (Nat × Value)) (i : Nat) : (atKey (xs.map (fT C)) (tkey i)) = (valueAt xs i).map fun v => (C.ad i, v) := by
  induction xs with
  | nil => rfl
  | cons x r ih =>
    unfold valueAt atKey at ih ⊢
    simp only [List.map_cons, List.find?_cons]
    have e : decide ((fT C x).1 = tkey i) = decide (x.1 = i) := by
      unfold fT
      by_cases h : x.1 = i
      · subst h; simp
      · rw [decide_eq_false h, decide_eq_false fun e => h (tkey_inj e)]
    rw [e]
    cases h : decide (x.1 = i)
    · exact ih
    · have := of_decide_eq_true h; subst this; rfl
theorem any_fI (xs : List (Nat × Value)) (i : Nat) : ((xs.map fI).any fun kv => decide (kv.1 = (i : Int))) = xs.any fun kv => decide (kv.1 = i) := by
  rw [List.any_map]; congr 1; funext x
  show decide ((x.1 : Int) = (i : Int)) = decide (x.1 = i)
  by_cases h : x.1 = i
  · simp [h]
  · rw [decide_eq_false h, decide_eq_false (by omega)]
theorem stored_fI (xs : List (Nat × Value)) (i : Nat) (v : Value) : stored (xs.map fI) (i : Int) v = (stored xs i v).map fI := by
  unfold stored
  rw [any_fI]
  split
  · rw [List.map_map, List.map_map]
    apply List.map_congr_left
    intro x _
    show (if (x.1 : Int) = (i : Int) then ((x.1 : Int), v) else fI x) = fI (if x.1 = i then (x.1, v) else x)
    by_cases h : x.1 = i
    · simp [h, fI]
    · rw [if_neg h, if_neg (by omega)]
  · rw [List.map_append]; rfl
theorem atKey_isSome_fT (C : Nds) (xs : List (Nat × Value)) (i : Nat) : (atKey (xs.map (fT C)) (tkey i)).isSome = xs.any fun kv => decide (kv.1 = i) := by
  rw [atKey_fT, Option.isSome_map]
  unfold valueAt
  rw [Option.isSome_map]
  rw [Bool.eq_iff_iff, List.find?_isSome, List.any_eq_true]
theorem storedH_fT (C : Nds) (xs : List (Nat × Value)) (i : Nat) (v : Value) : storedH (xs.map (fT C)) (tkey i) (C.ad i) v = (stored xs i v).map (fT C) := by
  unfold stored storedH
  rw [atKey_isSome_fT]
  split
  · rw [List.map_map, List.map_map]
    apply List.map_congr_left
    intro x _
    show putAt (tkey i) v (fT C x) = fT C (if x.1 = i then (x.1, v) else x)
    unfold putAt
    by_cases h : x.1 = i
    · subst h; simp [fT]
    · rw [if_neg h, if_neg (fun e => h (tkey_inj (by exact e)))]
  · rw [List.map_append]; rfl
theorem nodup_map {α β : Type} {f : α → β} (hf : ∀ a b, f a = f b → a = b) {l : List α} (h : l.Nodup) : (l.map f).Nodup := by
  unfold List.Nodup at h ⊢
  rw [List.pairwise_map]
  exact h.imp fun hne e => hne (hf _ _ e)
theorem stored_keys (xs : List (Nat × Value)) (i : Nat) (v : Value) : (stored xs i v).map (·.1) = if i ∈ xs.map (·.1) then xs.map (·.1) else xs.map (·.1) ++ [i] := by
  unfold stored
  have e : (xs.any fun kv => decide (kv.1 = i)) = true ↔ i ∈ xs.map (·.1) := by
    rw [List.any_eq_true, List.mem_map]
    simp
  by_cases h : i ∈ xs.map (·.1)
  · rw [if_pos (e.mpr h), if_pos h, List.map_map]
    apply List.map_congr_left
    intro x _
    show (if x.1 = i then (x.1, v) else x).1 = x.1
    split <;> rfl
  · rw [if_neg (fun q => h (e.mp q)), if_neg h, List.map_append]; rfl
theorem stored_nodup {xs : List (Nat × Value)} (i : Nat) (v : Value) (hn : (xs.map (·.1)).Nodup) : ((stored xs i v).map (·.1)).Nodup := by
  rw [stored_keys]
  split
  · exact hn
  · rename_i h
    rw [List.nodup_append]
    refine ⟨hn, by simp, ?_⟩
    intro a ha b hb
    rw [List.mem_singleton] at hb
    subst hb
    exact fun e => h (e ▸ ha)
theorem valueAt_stored (xs : List (Nat × Value)) (i j : Nat) (v : Value) : valueAt (stored xs i v) j = if j = i then some v else valueAt xs j := by
  unfold stored
  by_cases h : (xs.any fun kv => decide (kv.1 = i)) = true
  · rw [if_pos h]
    induction xs with
    | nil => simp at h
    | cons x r ih =>
      unfold valueAt at ih ⊢
      simp only [List.map_cons, List.find?_cons]
      by_cases hx : x.1 = i
      · by_cases hj : j = i
        · subst hj; simp [hx]
        · rw [if_pos hx, if_neg hj]
          have e1 : decide (x.1 = j) = false := decide_eq_false (fun e => hj (by omega))
          simp only [e1]
          clear ih h
          induction r with
          | nil => rfl
          | cons y r ih =>
            simp only [List.map_cons, List.find?_cons]
            by_cases hy : y.1 = i
            · rw [if_pos hy]
              have e2 : decide (y.1 = j) = false := decide_eq_false (fun e => hj (by omega))
              simp only [e2]; exact ih
            · rw [if_neg hy]
              cases decide (y.1 = j)
              · exact ih
              · rfl
      · rw [if_neg hx]
        have h' : (r.any fun kv => decide (kv.1 = i)) = true := by simpa [hx] using h
        by_cases hxj : x.1 = j
        · have : ¬ j = i := fun e => hx (by omega)
          simp [hxj, this]
        · have e1 : decide (x.1 = j) = false := decide_eq_false hxj
          simp only [e1]; exact ih h'
  · rw [if_neg h]
    have hno : ∀ x ∈ xs, ¬ x.1 = i := fun x hx e => h (List.any_eq_true.mpr ⟨x, hx, decide_eq_true e⟩)
    unfold valueAt
    rw [List.find?_append]
    by_cases hj : j = i
    · subst hj
      have : (xs.find? fun kv => decide (kv.1 = j)) = none := by
        rw [List.find?_eq_none]; intro x hx; simpa using hno x hx
      rw [this, if_pos rfl]; simp
    · rw [if_neg hj]
      have : ([(i, v)] : List (Nat × Value)).find? (fun kv => decide (kv.1 = j)) = none := by
        simp; omega
      rw [this]; simp

section
variable {prog : Program} {w : World} {A : Around} {E : Value → Shared → Prop} {s : Shared} {C : Nds} {d : Addr} {xs : List (Nat × Value)} {i : Nat}

theorem RawN.dictOf {h : Heap} (hm : RawN prog w C h d xs) (hk : C.kd = true) : h.DictOf (intKind prog w) d (xs.map fI) := by
  obtain ⟨o, ho, es, ep, hx, hd, hn, h1, _⟩ := hm
  refine ⟨o, es, ep, ho, hx, hd, (h1 hk).1, (h1 hk).2, ?_⟩
  rw [List.map_map]
  have e : ((fun x : Int × Value => x.1) ∘ fI) = (fun n : Nat => (n : Int)) ∘ fun x : Nat × Value => x.1 := rfl
  rw [e, ← List.map_map]
  exact nodup_map (fun a b q => Int.ofNat.inj q) hn
theorem RawN.of_dictOf {h : Heap} (hm : h.DictOf (intKind prog w) d (xs.map fI)) (hn : (xs.map (·.1)).Nodup) (hk : C.kd = true) : RawN prog w C h d xs := by
  obtain ⟨o, es, ep, ho, hx, hd, h1, h2, _⟩ := hm
  exact ⟨o, ho, es, ep, hx, hd, hn, fun _ => ⟨h1, h2⟩, fun e => absurd (hk.symm.trans e) (by decide)⟩
theorem RawN.dictOfH {h : Heap} (hm : RawN prog w C h d xs) (hk : C.kd = false) (hn : ∀ x ∈ xs, NodeOk prog w C h x.1) : h.DictOfH (tupK prog w) d (xs.map (fT C)) := by
  obtain ⟨o, ho, es, ep, hx, hd, hnd, _, h2⟩ := hm
  refine ⟨o, es, ep, ho, hx, hd, ?_, ?_, ?_⟩
  · rw [h2 hk, List.map_map]; rfl
  · intro x hx
    obtain ⟨y, hy, rfl⟩ := List.mem_map.mp hx
    exact hn y hy hk
  · rw [List.map_map]
    have e : ((fun x : List (Int ⊕ Str) × Addr × Value => x.1) ∘ fT C) = tkey ∘ fun x : Nat × Value => x.1 := rfl
    rw [e, ← List.map_map]
    exact nodup_map (fun a b q => tkey_inj q) hnd
theorem RawN.of_dictOfH {h : Heap} (hm : h.DictOfH (tupK prog w) d (xs.map (fT C))) (hn : (xs.map (·.1)).Nodup) (hk : C.kd = false) : RawN prog w C h d xs := by
  obtain ⟨o, es, ep, ho, hx, hd, h1, _, _⟩ := hm
  refine ⟨o, ho, es, ep, hx, hd, hn, fun e => absurd (hk.symm.trans e) (by decide), fun _ => ?_⟩
  rw [h1, List.map_map]; rfl
theorem RawN.nodup {h : Heap} (hm : RawN prog w C h d xs) : (xs.map (·.1)).Nodup := let ⟨_, _, _, _, _, _, hn, _⟩ := hm; hn

/-- a read -/
theorem getItem_N {v : Value} {Q : Value → Shared → Prop} (hu : A.units + 1 < cLine) (hm : RawN prog w C s.heap d xs) (hn : ∀ x ∈ xs, NodeOk prog w C s.heap x.1) (hi : NodeOk prog w C s.heap i)
    {kv : Value} (hkv : NV C i kv) (hv : valueAt xs i = some v) (h : ∀ tk, Q v { s with toks := tk }) : wpAny (model prog w) A (getItem (.ref d) kv) Q E s := by
  cases hk : C.kd with
  | true =>
    have hm' := hm.dictOf hk
    obtain ⟨u, rfl⟩ := hkv.1 hk
    obtain ⟨o, es, ep, ho, hx, hd, h1, h2, _⟩ := hm'
    have hmap : s.heap.MapOf (intKind prog w) d (fun k => findBy (intKind prog w).is es k) := ⟨o, es, ep, ho, hx, hd, h1, fun k => rfl⟩
    refine wpAny_getItem_of (intKind_is prog w _ _) hmap ?_ (h _)
    show (es.find? fun e => (intKind prog w).is (i : Int) e.key).map (·.val) = some v
    have hf := h2.find (i : Int)
    rw [valueAt_fI, hv] at hf
    rw [← hf]
    obtain ⟨l⟩ := es
    simp
  | false =>
    have hm' := hm.dictOfH hk hn
    obtain rfl := hkv.2 hk
    refine wpAny_getItem_heap (knd := tupK prog w) (k := tkey i) (p := (C.ad i, v)) (show (tupK prog w).room A.in1 from tupleKind_room_in1 hu) (hi hk) hm' (by rw [atKey_fT, hv]; rfl) (h _)

/-- a store -/
theorem setItem_N {v : Value} {Q : Unit → Shared → Prop} (hu : A.units + 1 < cLine) (hm : RawN prog w C s.heap d xs) (hn : ∀ x ∈ xs, NodeOk prog w C s.heap x.1) (hi : NodeOk prog w C s.heap i)
    (hz : xs.length ≤ 4096) {kv : Value} (hkv : NV C i kv)
    (h : ∀ h' tk, RawN prog w C h' d (stored xs i v) → Heap.SameBut d s.heap h' → Q () { s with heap := h', toks := tk }) : wpAny (model prog w) A (setItem (.ref d) kv v) Q E s := by
  have hnd := hm.nodup
  cases hk : C.kd with
  | true =>
    have hm' := hm.dictOf hk
    obtain ⟨u, rfl⟩ := hkv.1 hk
    refine wpAny_setItem_pairs (intKind_is prog w _ _) hm' (fun h' hd' hs' => h h' _ (RawN.of_dictOf (by rw [← stored_fI]; exact hd') (stored_nodup i v hnd) hk) hs') ?_
    rw [List.length_map, sizeLine_eq]; omega
  | false =>
    have hm' := hm.dictOfH hk hn
    obtain rfl := hkv.2 hk
    refine wpAny_setItem_heap (knd := tupK prog w) (k := tkey i) (show (tupK prog w).room A.in1 from tupleKind_room_in1 hu) (hi hk) hm' (fun h' hd' hs' => h h' _ (RawN.of_dictOfH (by rw [← storedH_fT]; exact hd') (stored_nodup i v hnd) hk) hs') ?_
    rw [List.length_map, sizeLine_eq]; omega
end
end Mine

end PartJ1
section PartJ2a
open PySem PySem.W PyProof.Rows
set_option maxRecDepth 100000
set_option maxHeartbeats 1000000
namespace Mine

/-! the table of a set: places rising, no dummies -/
def Rising (xs : Array Nat) : Prop := ∀ i k, i < k → k < xs.size → xs.getD i 0 < xs.getD k 0

theorem getD_irrel {xs : Array Nat} {i : Nat} (h : i < xs.size) (a b : Nat) : xs.getD i a = xs.getD i b := by
  simp [Array.getD, h]

theorem below_go {xs : Array Nat} (hr : Rising xs) (j : Nat) : ∀ (fuel lo hi : Nat), lo ≤ hi → hi ≤ xs.size → hi - lo ≤ fuel →
    (∀ i, i < lo → xs.getD i 0 < j) → (∀ i, hi ≤ i → i < xs.size → j ≤ xs.getD i 0) →
    lo ≤ SetTable.below.go xs j fuel lo hi ∧ SetTable.below.go xs j fuel lo hi ≤ hi ∧
    (∀ i, i < SetTable.below.go xs j fuel lo hi → xs.getD i 0 < j) ∧ (∀ i, SetTable.below.go xs j fuel lo hi ≤ i → i < xs.size → j ≤ xs.getD i 0) := by
  intro fuel
  induction fuel with
  | zero =>
    intro lo hi h1 h2 h3 h4 h5
    have e : lo = hi := by omega
    subst e
    unfold SetTable.below.go
    exact ⟨Nat.le_refl _, Nat.le_refl _, h4, h5⟩
  | succ fuel ih =>
    intro lo hi h1 h2 h3 h4 h5
    unfold SetTable.below.go
    by_cases hlt : lo < hi
    · rw [if_pos hlt]
      dsimp only
      have hm1 : lo ≤ (lo + hi) / 2 := by omega
      have hm2 : (lo + hi) / 2 < hi := by omega
      have hms : (lo + hi) / 2 < xs.size := by omega
      rw [getD_irrel hms j 0]
      by_cases hc : xs.getD ((lo + hi) / 2) 0 < j
      · rw [if_pos hc]
        have := ih ((lo + hi) / 2 + 1) hi (by omega) h2 (by omega) (fun i hi' => by
          by_cases h : i = (lo + hi) / 2
          · subst h; exact hc
          · exact Nat.lt_trans (hr i ((lo + hi) / 2) (by omega) hms) hc) h5
        exact ⟨by omega, this.2.1, this.2.2⟩
      · rw [if_neg hc]
        have := ih lo ((lo + hi) / 2) hm1 (by omega) (by omega) h4 (fun i hi' his => by
          by_cases h : i = (lo + hi) / 2
          · subst h; omega
          · have := hr ((lo + hi) / 2) i (by omega) his
            omega)
        exact ⟨this.1, by omega, this.2.2⟩
    · rw [if_neg hlt]
      have e : lo = hi := by omega
      subst e
      exact ⟨Nat.le_refl _, Nat.le_refl _, h4, h5⟩

theorem below_spec {xs : Array Nat} (hr : Rising xs) (j : Nat) : SetTable.below xs j ≤ xs.size ∧ (∀ i, i < SetTable.below xs j → xs.getD i 0 < j) ∧ (∀ i, SetTable.below xs j ≤ i → i < xs.size → j ≤ xs.getD i 0) := by
  have := below_go hr j xs.size 0 xs.size (Nat.zero_le _) (Nat.le_refl _) (by omega) (fun i h => absurd h (Nat.not_lt_zero _)) (fun i h1 h2 => by omega)
  exact ⟨this.2.1, this.2.2⟩

theorem getElem?_getD {xs : Array Nat} {i : Nat} (h : i < xs.size) : xs[i]? = some (xs.getD i 0) := by
  simp [Array.getD, h]

/-- the place behind the i-th place -/
theorem below_next {xs : Array Nat} (hr : Rising xs) {i : Nat} (hi : i < xs.size) : SetTable.below xs (xs.getD i 0 + 1) = i + 1 := by
  obtain ⟨h1, h2, h3⟩ := below_spec hr (xs.getD i 0 + 1)
  rcases Nat.lt_trichotomy (SetTable.below xs (xs.getD i 0 + 1)) (i + 1) with h | h | h
  · exfalso
    have := h3 i (by omega) hi
    omega
  · exact h
  · exfalso
    have hlt : i + 1 < xs.size := by omega
    have a := h2 (i + 1) h
    have b := hr i (i + 1) (Nat.lt_succ_self _) hlt
    omega
theorem below_zero {xs : Array Nat} (hr : Rising xs) : SetTable.below xs 0 = 0 := by
  obtain ⟨_, h2, _⟩ := below_spec hr 0
  rcases Nat.eq_zero_or_pos (SetTable.below xs 0) with h | h
  · exact h
  · exact absurd (h2 0 h) (Nat.not_lt_zero _)

theorem size_insertAt {α : Type} (xs : Array α) (p : Nat) (x : α) : (SetTable.insertAt xs p x).size = xs.size + 1 := by
  have h := (SetTable.insertAt_perm xs p x).length_eq
  simpa using h

theorem getD_insertAt {xs : Array Nat} {p j : Nat} (hp : p ≤ xs.size) (i : Nat) : (SetTable.insertAt xs p j).getD i 0 = if i < p then xs.getD i 0 else if i = p then j else xs.getD (i - 1) 0 := by
  have e : ∀ (ys : Array Nat) (i : Nat), ys.getD i 0 = (ys.toList[i]?).getD 0 := fun ys i => by by_cases h : i < ys.size <;> simp [Array.getD, h]
  rw [e, e, e, SetTable.toList_insertAt]
  have hl : (xs.toList.take p).length = p := by rw [List.length_take]; simp; omega
  by_cases h1 : i < p
  · rw [if_pos h1, List.getElem?_append_left (by omega), List.getElem?_take_of_lt h1]
  · rw [if_neg h1, List.getElem?_append_right (by omega), hl]
    by_cases h2 : i = p
    · rw [if_pos h2, h2]; simp
    · rw [if_neg h2]
      obtain ⟨d, hd⟩ : ∃ d, i - p = d + 1 := ⟨i - p - 1, by omega⟩
      rw [hd, List.getElem?_cons_succ, List.getElem?_drop]
      congr 2
      omega

theorem rising_insert {xs : Array Nat} (hr : Rising xs) {j : Nat} (hj : ∀ i, i < xs.size → xs.getD i 0 ≠ j) : Rising (SetTable.insertAt xs (SetTable.below xs j) j) := by
  obtain ⟨h1, h2, h3⟩ := below_spec hr j
  intro a b hab hb
  rw [size_insertAt] at hb
  rw [getD_insertAt h1, getD_insertAt h1]
  have hs : ∀ a b, a < b → b < xs.size → xs.getD a 0 < xs.getD b 0 := hr
  by_cases a1 : a < SetTable.below xs j
  · rw [if_pos a1]
    by_cases b1 : b < SetTable.below xs j
    · rw [if_pos b1]; exact hs a b hab (by omega)
    · rw [if_neg b1]
      by_cases b2 : b = SetTable.below xs j
      · rw [if_pos b2]; exact h2 a a1
      · rw [if_neg b2]
        exact Nat.lt_of_lt_of_le (h2 a a1) (h3 (b - 1) (by omega) (by omega))
  · rw [if_neg a1, if_neg (by omega : ¬ b < SetTable.below xs j)]
    by_cases a2 : a = SetTable.below xs j
    · rw [if_pos a2, if_neg (by omega)]
      have := h3 (b - 1) (by omega) (by omega)
      have := hj (b - 1) (by omega)
      omega
    · rw [if_neg a2, if_neg (by omega)]
      exact hs (a - 1) (b - 1) (by omega) (by omega)

structure TabOk (t : SetTable) (n : Nat) : Prop where
  size : t.place.size = n
  nod : t.dummies = #[]
  rise : Rising t.place
  room : n ≤ t.mask

theorem TabOk.fits {t : SetTable} {n : Nat} (h : TabOk t n) : t.fits n = true := by
  unfold SetTable.fits SetTable.fill
  simp [h.size, h.nod, h.room]

theorem TabOk.fill {t : SetTable} {n : Nat} (h : TabOk t n) : t.fill = n := by
  unfold SetTable.fill; rw [h.size, h.nod]; simp

theorem rising_range (n : Nat) : Rising (Array.range n) := by
  intro i k hik hk
  simp at hk
  simp [Array.getD, hk, Nat.lt_trans hik hk, hik]

theorem TabOk.standIn (t : SetTable) (n : Nat) : TabOk (t.standIn n) n :=
  ⟨by simp [SetTable.standIn], rfl, rising_range n, by show n ≤ 4 * n + 4; omega⟩

theorem TabOk.fresh (f m : Nat) (l : Bool) : TabOk (.fresh f m l) 0 := ⟨rfl, rfl, fun _ _ _ hk => absurd hk (Nat.not_lt_zero _), Nat.zero_le _⟩

theorem TabOk.plain {t : SetTable} {n : Nat} (h : TabOk t n) (b : Bool) : TabOk { t with plain := b } n := ⟨h.size, h.nod, h.rise, h.room⟩

/-- a free slot found is none of the places -/
theorem slot_empty_not {t : SetTable} (hr : Rising t.place) {j : Nat} (h : t.slot j = .empty) : ∀ i, i < t.place.size → t.place.getD i 0 ≠ j := by
  intro i hi e
  unfold SetTable.slot at h
  obtain ⟨h1, h2, h3⟩ := below_spec hr j
  have hb : SetTable.below t.place j = i := by
    rcases Nat.lt_trichotomy (SetTable.below t.place j) i with q | q | q
    · have := h3 _ (Nat.le_refl _) (by omega)
      have := hr (SetTable.below t.place j) i q hi
      omega
    · exact q
    · have := h2 i q; omega
  dsimp only at h
  rw [hb, getElem?_getD hi, e] at h
  simp at h

theorem probe_go_empty {t : SetTable} {hashAt : Nat → Int} {h : Int} (hn : t.dummies = #[]) : ∀ (fuel : Nat) (p : SetTable.Probe) {j : Nat} {d : Option Nat}, p.dummy = none →
    SetTable.probe.go t hashAt h fuel p = some (.empty j d) → d = none ∧ t.slot j = .empty := by
  intro fuel
  induction fuel with
  | zero => intro p j d _ e; cases e
  | succ fuel ih =>
    intro p j d hp e
    unfold SetTable.probe.go at e
    have adv : ∀ q : SetTable.Probe, q.dummy = none → (t.advance q).dummy = none := fun q hq => by
      unfold SetTable.advance; split
      · exact hq
      · exact hq
    cases hs : t.slot p.j with
    | empty =>
      rw [hs] at e
      dsimp only at e
      injection e with e
      injection e with e1 e2
      subst e1
      exact ⟨e2 ▸ hp, hs⟩
    | dummy =>
      exfalso
      unfold SetTable.slot at hs
      have hh : SetTable.has t.dummies p.j = false := by rw [hn]; rfl
      dsimp only at hs
      rw [hh] at hs
      split at hs <;> cases hs
    | live i =>
      rw [hs] at e
      dsimp only at e
      split at e
      · cases e
      · exact ih _ (adv p hp) e

theorem freeSlot_spec {t : SetTable} {h : Int} {j : Nat} {d : Bool} (hn : t.dummies = #[]) (e : t.freeSlot h = some (j, d)) : d = false ∧ t.slot j = .empty := by
  unfold SetTable.freeSlot at e
  split at e
  · rename_i j' d' he
    obtain ⟨rfl, h2⟩ := probe_go_empty (hashAt := fun _ => h + 1) hn _ _ rfl he
    simp at e
    obtain ⟨rfl, rfl⟩ := e
    exact ⟨rfl, h2⟩
  · cases e

theorem TabOk.put {t : SetTable} {n j : Nat} (h : TabOk t n) (hj : t.slot j = .empty) (hroom : n + 1 ≤ t.mask) : TabOk (t.put j).1 (n + 1) ∧ (t.put j).2 = SetTable.below t.place j ∧ (t.put j).1.mask = t.mask := by
  refine ⟨⟨?_, ?_, ?_, ?_⟩, rfl, rfl⟩
  · show (SetTable.insertAt t.place _ j).size = _
    rw [size_insertAt, h.size]
  · show (if SetTable.has t.dummies j then _ else t.dummies) = #[]
    rw [h.nod]
    rfl
  · exact rising_insert h.rise (slot_empty_not h.rise hj)
  · exact hroom

/-- a new element laid -/
theorem layNew_ok {t : SetTable} {es : Array (Int × Value)} {h : Int} {x : Value} (ht : TabOk t es.size) : TabOk (layNew t es h x).2.1 (layNew t es h x).1.size ∧ (layNew t es h x).2.1.led = t.led := by
  have hsz : (layNew t es h x).1.size = es.size + 1 := by
    have := (layNew_perm t es h x).length_eq
    simpa using this
  rw [hsz]
  unfold layNew
  split
  · rename_i j wd he
    obtain ⟨rfl, hslot⟩ := freeSlot_spec ht.nod he
    dsimp only
    have hsz' : (SetTable.insertAt es (t.put j).2 (h, x)).size = es.size + 1 := size_insertAt _ _ _
    rw [hsz']
    unfold SetTable.orStandIn
    split
    · rename_i hf
      have hroom : es.size + 1 ≤ t.mask := by
        unfold SetTable.fits at hf
        simp only [Bool.and_eq_true, beq_iff_eq, decide_eq_true_eq] at hf
        have h2 := hf.2
        have h1 := hf.1
        unfold SetTable.fill at h2
        rw [h1] at h2
        exact Nat.le_trans (Nat.le_add_right _ _) h2
      exact ⟨(ht.put hslot hroom).1, rfl⟩
    · exact ⟨TabOk.standIn _ _, rfl⟩
  · exact ⟨TabOk.standIn _ _, rfl⟩
end Mine

end PartJ2a
section PartJ2b
open PySem PySem.W PyProof.Rows
set_option maxRecDepth 100000
set_option maxHeartbeats 1000000
namespace Mine

/-! a clean laying of few hashes always comes through -/
def stepT (n x : Nat) : Nat := (x * 5 + 1) % n
def iterT (n : Nat) : Nat → Nat → Nat
  | 0, x => x
  | k + 1, x => iterT n k (stepT n x)
theorem iterT_add (n : Nat) : ∀ (a b x : Nat), iterT n (a + b) x = iterT n b (iterT n a x)
  | 0, b, x => by rw [Nat.zero_add]; rfl
  | a + 1, b, x => by rw [Nat.succ_add]; exact iterT_add n a b (stepT n x)
/-- the orbit of nought, to its first k -/
def orbit (n : Nat) : Nat → Nat → List Nat
  | 0, _ => []
  | k + 1, x => x :: orbit n k (stepT n x)
theorem mem_orbit (n : Nat) : ∀ (k x y : Nat), y ∈ orbit n k x → ∃ j, j < k ∧ iterT n j x = y
  | 0, _, _, h => by cases h
  | k + 1, x, y, h => by
    rcases List.mem_cons.mp h with rfl | h
    · exact ⟨0, Nat.succ_pos _, rfl⟩
    · obtain ⟨j, hj, e⟩ := mem_orbit n k _ y h
      exact ⟨j + 1, Nat.succ_lt_succ hj, e⟩

/-- the masks that our sets come to -/
def goodMask (m : Nat) : Prop := m = 7 ∨ m = 15 ∨ m = 31 ∨ m = 63 ∨ m = 127 ∨ m = 255

def fullOk (n : Nat) : Bool := iterT n n 0 == 0 && (List.range n).all fun y => (orbit n n 0).contains y
theorem full7 : fullOk 8 = true := by decide +kernel
theorem full15 : fullOk 16 = true := by decide +kernel
theorem full31 : fullOk 32 = true := by decide +kernel
theorem full63 : fullOk 64 = true := by decide +kernel
theorem full127 : fullOk 128 = true := by decide +kernel
theorem full255 : fullOk 256 = true := by decide +kernel
theorem full_good {m : Nat} (h : goodMask m) : fullOk (m + 1) = true := by
  rcases h with rfl | rfl | rfl | rfl | rfl | rfl
  · exact full7
  · exact full15
  · exact full31
  · exact full63
  · exact full127
  · exact full255

theorem reach_all {m : Nat} (h : goodMask m) {x y : Nat} (hx : x ≤ m) (hy : y ≤ m) : ∃ j, j ≤ m ∧ iterT (m + 1) j x = y := by
  have f := full_good h
  unfold fullOk at f
  simp only [Bool.and_eq_true, beq_iff_eq, List.all_eq_true, List.mem_range, List.contains_iff_mem] at f
  obtain ⟨hc, hall⟩ := f
  obtain ⟨a, ha, ea⟩ := mem_orbit _ _ _ _ (hall x (by omega))
  obtain ⟨b, hb, eb⟩ := mem_orbit _ _ _ _ (hall y (by omega))
  by_cases hab : a ≤ b
  · refine ⟨b - a, by omega, ?_⟩
    rw [← ea, ← iterT_add, show a + (b - a) = b by omega, eb]
  · refine ⟨m + 1 - a + b, by omega, ?_⟩
    rw [← ea, ← iterT_add, show a + (m + 1 - a + b) = (m + 1) + b by omega, iterT_add, hc, eb]

/-- the road of a search: place and rest, after k leaps -/
def road (m : Nat) : Nat → Nat × Nat → Nat × Nat
  | 0, q => q
  | k + 1, q => road m k (SetTable.leap m q.1 q.2)
theorem road_add (m : Nat) : ∀ (a b : Nat) (q : Nat × Nat), road m (a + b) q = road m b (road m a q)
  | 0, b, q => by rw [Nat.zero_add]; rfl
  | a + 1, b, q => by rw [Nat.succ_add]; exact road_add m a b _
theorem road_rest (m : Nat) : ∀ (k : Nat) (q : Nat × Nat), (road m k q).2 = q.2 / 32 ^ k
  | 0, q => by simp [road]
  | k + 1, q => by
    show (road m k (SetTable.leap m q.1 q.2)).2 = _
    rw [road_rest m k]
    show q.2 / 32 / 32 ^ k = _
    rw [Nat.div_div_eq_div_mul, Nat.pow_succ, Nat.mul_comm]
theorem road_le (m : Nat) : ∀ (k : Nat) (q : Nat × Nat), q.1 ≤ m → (road m k q).1 ≤ m
  | 0, _, h => h
  | k + 1, q, _ => road_le m k _ (by show (q.1 * 5 + 1 + q.2 / 32) % (m + 1) ≤ m; have := Nat.mod_lt (q.1 * 5 + 1 + q.2 / 32) (show m + 1 > 0 by omega); omega)
theorem road_zero (m : Nat) : ∀ (k x : Nat), road m k (x, 0) = (iterT (m + 1) k x, 0)
  | 0, _ => rfl
  | k + 1, x => by
    show road m k (SetTable.leap m x 0) = _
    have e : SetTable.leap m x 0 = (stepT (m + 1) x, 0) := by
      unfold SetTable.leap stepT; simp
    rw [e, road_zero m k]; rfl

theorem road_all {m : Nat} (h : goodMask m) {x p y : Nat} (hx : x ≤ m) (hp : p < 2 ^ 64) (hy : y ≤ m) : ∃ k, k ≤ m + 13 ∧ (road m k (x, p)).1 = y := by
  have e0 : (road m 13 (x, p)).2 = 0 := by
    rw [road_rest]
    exact Nat.div_eq_of_lt (Nat.lt_of_lt_of_le hp (by decide))
  obtain ⟨j, hj, e⟩ := reach_all h (road_le m 13 (x, p) hx) hy
  refine ⟨13 + j, by omega, ?_⟩
  rw [road_add]
  have e1 : road m 13 (x, p) = ((road m 13 (x, p)).1, 0) := Prod.ext rfl e0
  rw [e1, road_zero]
  exact e

theorem bits_lt (h : Int) : SetTable.bits h < 2 ^ 64 := by
  unfold SetTable.bits
  have a := Int.emod_nonneg h (show (2 ^ 64 : Int) ≠ 0 by decide)
  have b := Int.emod_lt_of_pos h (show (0 : Int) < 2 ^ 64 by decide)
  omega

/-- a free place is found -/
theorem free_some {m : Nat} {owner : Array (Option Nat)} (hsz : owner.size = m + 1) : ∀ (k fuel x p : Nat), k < fuel → x ≤ m →
    owner.getD (road m k (x, p)).1 (some 0) = none → ∃ j, SetTable.layClean.free m owner fuel x p = some j ∧ j ≤ m ∧ owner.getD j (some 0) = none := by
  intro k
  induction k with
  | zero =>
    intro fuel x p hf hx hn
    obtain ⟨f, rfl⟩ : ∃ f, fuel = f + 1 := ⟨fuel - 1, by omega⟩
    unfold SetTable.layClean.free
    have hre : SetTable.runEnd m x ≤ m ∧ x ≤ SetTable.runEnd m x := by unfold SetTable.runEnd; split <;> omega
    cases hfind : (List.range (SetTable.runEnd m x + 1 - x)).find? fun k => (owner.getD (x + k) (some 0)).isNone with
    | some k =>
      have h1 := List.find?_some hfind
      have h2 := List.mem_of_find?_eq_some hfind
      rw [List.mem_range] at h2
      exact ⟨x + k, rfl, by omega, by simpa using h1⟩
    | none =>
      exfalso
      have := List.find?_eq_none.mp hfind 0 (List.mem_range.mpr (by omega))
      simp only [Nat.add_zero] at this
      have e : owner.getD x (some 0) = none := hn
      rw [e] at this
      simp at this
  | succ k ih =>
    intro fuel x p hf hx hn
    obtain ⟨f, rfl⟩ : ∃ f, fuel = f + 1 := ⟨fuel - 1, by omega⟩
    unfold SetTable.layClean.free
    have hre : SetTable.runEnd m x ≤ m ∧ x ≤ SetTable.runEnd m x := by unfold SetTable.runEnd; split <;> omega
    cases hfind : (List.range (SetTable.runEnd m x + 1 - x)).find? fun k => (owner.getD (x + k) (some 0)).isNone with
    | some k =>
      have h1 := List.find?_some hfind
      have h2 := List.mem_of_find?_eq_some hfind
      rw [List.mem_range] at h2
      exact ⟨x + k, rfl, by omega, by simpa using h1⟩
    | none =>
      dsimp only
      exact ih f _ _ (by omega) (by show (x * 5 + 1 + p / 32) % (m + 1) ≤ m; have := Nat.mod_lt (x * 5 + 1 + p / 32) (show m + 1 > 0 by omega); omega) hn

/-- the owners of the places -/
def Owned (m : Nat) (owner : Array (Option Nat)) (k : Nat) : Prop := owner.size = m + 1 ∧ (owner.toList.filterMap id).Perm (List.range k)

theorem filterMap_set {α : Type} {l : List (Option α)} {j : Nat} {x : α} (h : l[j]? = some none) : ((l.set j (some x)).filterMap id).Perm (x :: l.filterMap id) := by
  induction l generalizing j with
  | nil => simp at h
  | cons a r ih =>
    cases j with
    | zero =>
      simp only [List.getElem?_cons_zero, Option.some.injEq] at h
      subst h
      simp
    | succ j =>
      simp only [List.getElem?_cons_succ] at h
      have := ih h
      cases a with
      | none => simpa using this
      | some a =>
        simp only [List.set_cons_succ, List.filterMap_cons, id_eq]
        exact (this.cons a).trans (List.Perm.swap x a _)

theorem Owned.free {m : Nat} {owner : Array (Option Nat)} {k : Nat} (h : Owned m owner k) (hk : k ≤ m) : ∃ y, y ≤ m ∧ owner.getD y (some 0) = none := by
  by_cases hall : ∃ y, y ≤ m ∧ owner.getD y (some 0) = none
  · exact hall
  · exfalso
    have hs : ∀ o ∈ owner.toList, o.isSome = true := by
      intro o ho
      obtain ⟨i, hi, e⟩ := List.getElem_of_mem ho
      have hi' : i < owner.size := by simpa using hi
      cases o with
      | some _ => rfl
      | none =>
        refine absurd ⟨i, by have := h.1; omega, ?_⟩ hall
        have : owner[i] = none := by simpa using e
        simp [Array.getD, hi', this]
    have e : (owner.toList.filterMap id).length = owner.toList.length := by
      have : ∀ l : List (Option Nat), (∀ o ∈ l, o.isSome = true) → (l.filterMap id).length = l.length := by
        intro l
        induction l with
        | nil => intro _; rfl
        | cons a r ih =>
          intro hl
          cases a with
          | none => exact absurd (hl none (List.mem_cons_self ..)) (by simp)
          | some a => simp [ih fun o ho => hl o (List.mem_cons_of_mem _ ho)]
      exact this _ hs
    have e2 := h.2.length_eq
    rw [e] at e2
    have e3 : owner.toList.length = m + 1 := by rw [Array.length_toList, h.1]
    rw [e3, List.length_range] at e2
    omega

theorem Owned.put {m : Nat} {owner : Array (Option Nat)} {k j : Nat} (h : Owned m owner k) (hj : j ≤ m) (hn : owner.getD j (some 0) = none) : Owned m (owner.setIfInBounds j (some k)) (k + 1) := by
  refine ⟨by rw [Array.size_setIfInBounds, h.1], ?_⟩
  have hjs : j < owner.size := by rw [h.1]; omega
  have e : owner.toList[j]? = some none := by
    rw [Array.getElem?_toList]
    have : owner[j]? = some (owner.getD j (some 0)) := by simp [Array.getD, hjs]
    rw [this, hn]
  rw [Array.toList_setIfInBounds]
  refine (filterMap_set e).trans ?_
  rw [List.range_succ]
  exact (h.2.cons k).trans (List.perm_append_singleton k _).symm

theorem layClean_go {m : Nat} (hm : goodMask m) : ∀ (l : List Int) (owner : Array (Option Nat)) (k : Nat), Owned m owner k → k + l.length ≤ m →
    ∃ owner', l.foldl (init := some (owner, k)) (fun acc h => do
      let (owner, k) ← acc
      let j ← SetTable.layClean.free m owner (SetTable.turns m) (SetTable.bits h % (m + 1)) (SetTable.bits h)
      pure (owner.setIfInBounds j (some k), k + 1)) = some (owner', k + l.length) ∧ Owned m owner' (k + l.length) := by
  intro l
  induction l with
  | nil => intro owner k ho _; exact ⟨owner, rfl, ho⟩
  | cons h r ih =>
    intro owner k ho hk
    rw [List.length_cons] at hk
    obtain ⟨y, hy, hn⟩ := ho.free (by omega)
    have hx : SetTable.bits h % (m + 1) ≤ m := by have := Nat.mod_lt (SetTable.bits h) (show m + 1 > 0 by omega); omega
    obtain ⟨d, hd, e⟩ := road_all hm hx (bits_lt h) hy
    obtain ⟨j, hj, hjm, hjn⟩ := free_some ho.1 d (SetTable.turns m) (SetTable.bits h % (m + 1)) (SetTable.bits h) (by unfold SetTable.turns; omega) hx (by rw [e]; exact hn)
    obtain ⟨owner', e', ho'⟩ := ih (owner.setIfInBounds j (some k)) (k + 1) (ho.put hjm hjn) (by omega)
    refine ⟨owner', ?_, by rw [List.length_cons, show k + (r.length + 1) = k + 1 + r.length by omega]; exact ho'⟩
    rw [List.foldl_cons, List.length_cons, show k + (r.length + 1) = k + 1 + r.length by omega]
    show List.foldl _ (do
      let j ← SetTable.layClean.free m owner (SetTable.turns m) (SetTable.bits h % (m + 1)) (SetTable.bits h)
      pure (owner.setIfInBounds j (some k), k + 1)) r = _
    rw [hj]
    exact e'

theorem layClean_some {m : Nat} (hm : goodMask m) {hs : Array Int} (hz : hs.size ≤ m) : ∃ owner, SetTable.layClean m hs = some owner ∧ Owned m owner hs.size := by
  have h0 : Owned m (Array.replicate (m + 1) none) 0 := by
    refine ⟨by simp, ?_⟩
    have : ∀ n, ((List.replicate n (none : Option Nat)).filterMap id) = [] := by
      intro n; induction n with
      | zero => rfl
      | succ n ih => rw [List.replicate_succ]; simpa using ih
    simp [this]
  obtain ⟨owner, e, ho⟩ := layClean_go hm hs.toList (Array.replicate (m + 1) none) 0 h0 (by simpa using hz)
  refine ⟨owner, ?_, by simpa using ho⟩
  unfold SetTable.layClean
  rw [← Array.foldl_toList]
  have e' := congrArg (Option.map (·.1)) e
  exact e'

theorem filterMap_pairs {β : Type} (f : Nat → Option β) (l : List Nat) : ((l.filterMap fun j => (f j).map (j, ·)).map (·.2)) = l.filterMap f := by
  induction l with
  | nil => rfl
  | cons a r ih =>
    cases h : f a with
    | none => simp [h, ih]
    | some b => simp [h, ih]
theorem range_getD_filterMap (owner : Array (Option Nat)) : (List.range owner.size).filterMap (fun j => owner.getD j none) = owner.toList.filterMap id := by
  have e : (List.range owner.size).map (fun j => owner.getD j none) = owner.toList := by
    apply List.ext_getElem
    · simp
    · intro i h1 h2
      have : i < owner.size := by simpa using h1
      simp [Array.getD, this]
  rw [← e, List.filterMap_map]; rfl

theorem pairs_rising (f : Nat → Option Nat) (n : Nat) : (((List.range n).filterMap fun j => (f j).map (j, ·)).map (·.1)).Pairwise (· < ·) := by
  rw [List.pairwise_map]
  rw [List.pairwise_filterMap]
  refine List.Pairwise.imp_of_mem (R := (· < ·)) ?_ List.pairwise_lt_range
  intro a b _ _ hab x hx y hy
  simp only [Option.map_eq_some_iff] at hx hy
  obtain ⟨_, _, rfl⟩ := hx
  obtain ⟨_, _, rfl⟩ := hy
  exact hab

theorem rising_toArray {l : List Nat} (h : l.Pairwise (· < ·)) : Rising l.toArray := by
  intro i k hik hk
  have hk' : k < l.length := by simpa using hk
  have := List.pairwise_iff_getElem.mp h i k (by omega) hk' hik
  simp only [Array.getD, List.size_toArray, hk', Nat.lt_trans hik hk', dif_pos]
  simpa using this

theorem laid_some {m f mv : Nat} {led plain : Bool} (hm : goodMask m) {hs : Array Int} (hz : hs.size ≤ m) :
    ∃ t order, SetTable.laid m f mv led plain hs = some (t, order) ∧ order.toList.Perm (List.range hs.size) ∧ TabOk t hs.size ∧ t.led = led ∧ t.mask = m := by
  obtain ⟨owner, e, ho⟩ := layClean_some hm hz
  unfold SetTable.laid
  rw [e]
  have hperm : (((List.range (m + 1)).filterMap fun j => (owner.getD j none).map (j, ·)).map (·.2)).Perm (List.range hs.size) := by
    rw [filterMap_pairs, ← ho.1, range_getD_filterMap]; exact ho.2
  have hlen : ((List.range (m + 1)).filterMap fun j => (owner.getD j none).map (j, ·)).length = hs.size := by
    have := hperm.length_eq; simpa using this
  have hr := pairs_rising (fun j => owner.getD j none) (m + 1)
  refine ⟨_, _, rfl, ?_, ⟨?_, rfl, ?_, ?_⟩, rfl, rfl⟩
  · simpa using hperm
  · simpa using hlen
  · exact rising_toArray hr
  · exact hz

theorem sizeAbove_good {n : Nat} (h : n < 256) : goodMask (SetTable.sizeAbove n - 1) ∧ n ≤ SetTable.sizeAbove n - 1 := by
  have key : ∀ k : _root_.Fin 256, (decide (SetTable.sizeAbove k.val - 1 = 7) || decide (SetTable.sizeAbove k.val - 1 = 15) || decide (SetTable.sizeAbove k.val - 1 = 31) || decide (SetTable.sizeAbove k.val - 1 = 63) || decide (SetTable.sizeAbove k.val - 1 = 127) || decide (SetTable.sizeAbove k.val - 1 = 255)) = true ∧ decide (k.val ≤ SetTable.sizeAbove k.val - 1) = true := by decide +kernel
  have := key ⟨n, h⟩
  simp only [Bool.or_eq_true, decide_eq_true_eq] at this
  refine ⟨?_, this.2⟩
  unfold goodMask
  omega

theorem relaid_some {t : SetTable} {hs : Array Int} {wanted : Nat} (hw : wanted < 256) (hz : hs.size ≤ wanted) :
    ∃ t' order, t.relaid hs wanted = some (t', order) ∧ order.toList.Perm (List.range hs.size) ∧ TabOk t' hs.size ∧ t'.led = t.led ∧ goodMask t'.mask ∧ wanted ≤ t'.mask := by
  obtain ⟨hg, hle⟩ := sizeAbove_good hw
  obtain ⟨t', order, e, h1, h2, h3, h4⟩ := laid_some (f := t.finger) (mv := t.movedTo (SetTable.sizeAbove wanted - 1)) (led := t.led) (plain := t.plain) hg (Nat.le_trans hz hle)
  exact ⟨t', order, e, h1, h2, h3, h4 ▸ hg, h4 ▸ hle⟩

theorem order_perm {es : Array (Int × Value)} {order : Array Nat} (h : order.toList.Perm (List.range es.size)) : (order.filterMap (es[·]?)).toList.Perm es.toList := by
  rw [Array.toList_filterMap]
  exact (h.filterMap _).trans (by rw [filterMap_getElem?_range])
end Mine

end PartJ2b
section PartJ2c
open PySem PySem.W PyProof.Rows
set_option maxRecDepth 100000
set_option maxHeartbeats 1000000
namespace Mine

/-! sets of ints on the heap -/
def SetAt (h : Heap) (a : Addr) (es : Array (Int × Value)) (t : SetTable) : Prop := ∃ o ep, h.get? a = some o ∧ o.ExactSet ∧ o.data = .set es ep t
def LedOk (w : World) (t : SetTable) : Prop := w.params.followText "set-order" = true ∨ t.led = true
def IntEs (es : Array (Int × Value)) : Prop := ∀ e ∈ es.toList, ∃ k u, e = (hashInt k, Value.int k u)
def keysI (es : Array (Int × Value)) : List Int := es.toList.map fun e => numOf e.2
def ins (l : List Int) (k : Int) : List Int := if k ∈ l then l else l ++ [k]
structure SetIt (w : World) (es : Array (Int × Value)) (t : SetTable) (l : List Int) : Prop where
  tab : TabOk t es.size
  led : LedOk w t
  hints : IntEs es
  hkeys : (keysI es).Perm l
  nodup : l.Nodup
  mask : es.size = 0 → goodMask t.mask
def SetI (w : World) (h : Heap) (a : Addr) (l : List Int) : Prop := ∃ es t, SetAt h a es t ∧ SetIt w es t l

theorem SetAt.at {h h' : Heap} {a : Addr} {es : Array (Int × Value)} {t : SetTable} (x : SetAt h a es t) (e : ∀ o, h.get? a = some o → h'.get? a = some o) : SetAt h' a es t :=
  let ⟨o, ep, ho, r⟩ := x; ⟨o, ep, e _ ho, r⟩
theorem SetI.at {w : World} {h h' : Heap} {a : Addr} {l : List Int} (x : SetI w h a l) (e : ∀ o, h.get? a = some o → h'.get? a = some o) : SetI w h' a l :=
  let ⟨es, t, ha, r⟩ := x; ⟨es, t, ha.at e, r⟩
theorem ins_nodup {l : List Int} (h : l.Nodup) (k : Int) : (ins l k).Nodup := by
  unfold ins
  split
  · exact h
  · rename_i hk
    rw [List.nodup_append]
    refine ⟨h, by simp, ?_⟩
    intro a ha b hb
    rw [List.mem_singleton] at hb
    subst hb
    exact fun e => hk (e ▸ ha)
theorem mem_ins {l : List Int} {k x : Int} : x ∈ ins l k ↔ x ∈ l ∨ x = k := by
  unfold ins
  split
  · rename_i h
    exact ⟨.inl, fun q => q.elim id fun e => e ▸ h⟩
  · simp
theorem ins_len (l : List Int) (k : Int) : (ins l k).length ≤ l.length + 1 := by
  unfold ins; split
  · omega
  · simp

theorem IntEs.elems {prog : Program} {w : World} {es : Array (Int × Value)} (h : IntEs es) : ElemsOf (intKind prog w) es.toList := by
  intro e he
  obtain ⟨k, u, rfl⟩ := h e he
  exact ⟨⟨k, intKind_is prog w k u, rfl⟩, rfl⟩
theorem IntEs.perm {es es' : Array (Int × Value)} (h : IntEs es) (p : es'.toList.Perm es.toList) : IntEs es' := fun e he => h e (p.mem_iff.mp he)
theorem keysI_perm {es es' : Array (Int × Value)} (p : es'.toList.Perm es.toList) : (keysI es').Perm (keysI es) := p.map _
theorem isInt_num {es : Array (Int × Value)} (h : IntEs es) {k : Int} {e : Int × Value} (he : e ∈ es.toList) : Value.isInt k e.2 = decide (k = numOf e.2) := by
  obtain ⟨j, u, rfl⟩ := h e he
  show (j == k) = decide (k = j)
  by_cases q : k = j
  · simp [q]
  · rw [decide_eq_false q]
    simp; omega

section
variable {prog : Program} {w : World} {A : Around} {E : Value → Shared → Prop} {s : Shared} {a : Addr} {es : Array (Int × Value)} {t : SetTable} {l : List Int}

theorem setState_at {Q : (Array (Int × Value) × Nat × SetTable) → Shared → Prop} (x : SetAt s.heap a es t) (hf : TabOk t es.size) (h : ∀ ep, Q (es, ep, t) s) :
    wpAny (model prog w) A (setState a) Q E s := let ⟨_, ep, ho, _, hd⟩ := x; wpAny_setState_of ho hd hf.fits (h ep)

theorem storeSet_at {es' : Array (Int × Value)} {t' : SetTable} {Q : Unit → Shared → Prop} (x : SetAt s.heap a es t)
    (h : ∀ h', SetAt h' a es' t' → Heap.SameBut a s.heap h' → Q () { s with heap := h' }) (hz : es'.size ≤ 4096) :
    wpAny (model prog w) A (storeSet a es' t') Q E s := by
  obtain ⟨o, ep, ho, hx, hd⟩ := x
  refine wpAny_storeSet_of ho hd (h _ ?_ (Heap.SameBut.update ..)) (by rw [sizeLine_eq]; omega)
  have hg : (s.heap.update a (Obj.putSet es' t')).get? a = some { o with data := .set es' (ep + 1) t' } := by
    have := Heap.get?_update_self (Obj.putSet es' t') ho (by rw [putSet_of es' t' hd]; rfl)
    rw [putSet_of es' t' hd] at this; exact this
  exact ⟨_, _, hg, hx, rfl⟩

theorem relayAll_ok (ht : TabOk t es.size) {wanted : Nat} (hw : wanted < 256) (hz : es.size ≤ wanted) :
    TabOk (relayAll t es wanted).2.1 (relayAll t es wanted).1.size ∧ (relayAll t es wanted).2.1.led = t.led := by
  obtain ⟨t', order, e, hp, ht', hl, _, _⟩ := relaid_some (t := t) (hs := es.map (·.1)) hw (by rw [Array.size_map]; exact hz)
  rw [Array.size_map] at hp ht'
  unfold relayAll
  rw [e]
  dsimp only
  split
  · have : (order.filterMap (es[·]?)).size = es.size := by
      have := (order_perm hp).length_eq; rwa [Array.length_toList, Array.length_toList] at this
    exact ⟨by rw [this]; exact ht', hl⟩
  · exact ⟨TabOk.standIn _ _, rfl⟩

theorem add_I {k : Int} {u : Tok} {Q : Bool → Shared → Prop} (x : SetAt s.heap a es t) (hI : SetIt w es t l) (hz : es.size + 1 < 64)
    (h : ∀ b h' es' t', SetAt h' a es' t' → SetIt w es' t' (ins l k) → Heap.SameBut a s.heap h' → Q b { s with heap := h' }) :
    wpAny (model prog w) A (setAddHashed a (.int k u) (hashInt k)) Q E s := by
  have hel : ElemsOf (intKind prog w) es.toList := hI.hints.elems
  have hb : es.size < scanBound := by have : scanBound = 4096 := rfl; omega
  have hkey : (intKind prog w).is k (.int k u) = true := intKind_is prog w k u
  unfold setAddHashed setAddHashedIn
  refine wpAny_holding (wpAny_bind (setState_at x hI.tab fun ep => ?_))
  dsimp only
  rw [byScan_of (knd := intKind prog w) rfl hb hel]
  simp only [↓reduceIte]
  unfold setAddByScan
  refine wpAny_bind ?_
  refine wpAny_bind (wpAny_rule ?_)
  obtain ⟨o, ep', ho, hx, hd⟩ := id x
  refine wpAny_bind (wpAny_setScan_of (knd := intKind prog w) (k := k) hkey ho hd hI.tab.fits hel ?_)
  cases hr : List.findIdx? (fun e => (intKind prog w).is k e.2) es.toList with
  | some j =>
    dsimp only
    obtain ⟨hj, hpj, _⟩ := List.findIdx?_eq_some_iff_getElem.mp hr
    have hmem : k ∈ l := by
      refine hI.hkeys.mem_iff.mp (List.mem_map.mpr ⟨es.toList[j], List.getElem_mem hj, ?_⟩)
      have := isInt_num hI.hints (k := k) (List.getElem_mem hj)
      have e2 : Value.isInt k es.toList[j].2 = true := hpj
      rw [e2] at this
      exact (of_decide_eq_true this.symm).symm
    refine wpAny_pure (wpAny_pure ?_)
    have e : s = { s with heap := s.heap } := by cases s; rfl
    rw [e]
    exact h false s.heap es t x (by unfold ins; rw [if_pos hmem]; exact hI) (Heap.SameBut.refl _ _)
  | none =>
    dsimp only
    have hnm : k ∉ l := by
      intro hm
      obtain ⟨e, he, hk⟩ := List.mem_map.mp (hI.hkeys.mem_iff.mpr hm)
      have h1 := List.findIdx?_eq_none_iff.mp hr e he
      have h2 := isInt_num hI.hints (k := k) he
      have h3 : Value.isInt k e.2 = false := h1
      rw [h3, decide_eq_true hk.symm] at h2
      cases h2
    have hgw : ∀ (b : Bool) {s₁ : Shared} {Q' : Unit → Shared → Prop}, Q' () s₁ → wpAny (model prog w) A (match b with | true => rule "set.scan.the-table-gave-way" | false => pure ()) Q' E s₁ :=
      fun b s₁ Q' hq => by cases b <;> first | exact wpAny_pure hq | exact wpAny_rule hq
    have hperm := layNew_perm t es (hashInt k) (.int k u)
    have htab := layNew_ok (h := hashInt k) (x := .int k u) hI.tab
    generalize hL : layNew t es (hashInt k) (.int k u) = L at hperm htab ⊢
    obtain ⟨es1, t1, wasDummy, gave⟩ := L
    dsimp only at hperm htab ⊢
    rw [Array.toList_push] at hperm
    have hsz1 : es1.size = es.size + 1 := by
      have := hperm.length_eq; simpa using this
    have hints1 : IntEs es1 := fun e he => by
      rcases List.mem_append.mp (hperm.mem_iff.mp he) with q | q
      · exact hI.hints e q
      · rw [List.mem_singleton] at q; exact ⟨k, u, q⟩
    have hkeys1 : (keysI es1).Perm (ins l k) := by
      unfold ins
      rw [if_neg hnm]
      refine (hperm.map _).trans ?_
      rw [List.map_append]
      exact (hI.hkeys).append_right _
    have fin : ∀ (h' : Heap) (es' : Array (Int × Value)) (t' : SetTable), SetAt h' a es' t' → es'.toList.Perm es1.toList → TabOk t' es'.size → t'.led = t1.led → Heap.SameBut a s.heap h' → Q true { s with heap := h' } := by
      intro h' es' t' ha' hp' ht' hl' hs'
      refine h true h' es' t' ha' ⟨ht', ?_, hints1.perm hp', (keysI_perm hp').trans hkeys1, ins_nodup hI.nodup k, fun h0 => ?_⟩ hs'
      · unfold LedOk; rw [hl', htab.2]; exact hI.led
      · have := hp'.length_eq; rw [Array.length_toList, Array.length_toList] at this; omega
    refine wpAny_bind (hgw _ ?_)
    have tail : wpAny (model prog w) A (do
        storeSet a es1 t1
        if (!wasDummy && t1.tooFull) = true then do
            (match (relayAll t1 es1 (SetTable.grown es1.size)).2.2 with | true => rule "set.scan.the-table-gave-way" | false => pure ())
            storeSet a (relayAll t1 es1 (SetTable.grown es1.size)).1 (relayAll t1 es1 (SetTable.grown es1.size)).2.1
            pure (some true)
          else pure (some true)) (fun r s' => r = some true ∧ Q true s') E s := by
      refine wpAny_bind (storeSet_at x (fun h1 ha1 hs1 => ?_) (by omega))
      split
      · have hg : SetTable.grown es1.size = es1.size * 4 := by unfold SetTable.grown; rw [if_neg (by omega)]
        have hok := relayAll_ok htab.1 (wanted := SetTable.grown es1.size) (by rw [hg]; omega) (by rw [hg]; omega)
        have hp := relayAll_perm t1 es1 (SetTable.grown es1.size)
        have hlen := hp.length_eq
        rw [Array.length_toList, Array.length_toList] at hlen
        refine wpAny_bind (hgw _ ?_)
        refine wpAny_bind (storeSet_at (s := { s with heap := h1 }) ha1 (fun h2 ha2 hs2 => ?_) (by omega))
        exact wpAny_pure ⟨rfl, fin h2 _ _ ha2 hp hok.1 hok.2 (hs1.trans hs2)⟩
      · exact wpAny_pure ⟨rfl, fin h1 es1 t1 ha1 (List.Perm.refl _) htab.1 rfl hs1⟩
    split
    · refine wpAny_bind ?_
      rw [hashByValue_scannable 8 (x := Value.int k u) rfl]
      refine wpAny_pure ?_
      simp only [plainKind, ↓reduceIte]
      refine wpAny_mono tail (fun r s' hr => ?_) fun _ _ e => e
      obtain ⟨rfl, hq⟩ := hr
      exact wpAny_pure hq
    · refine wpAny_bind (wpAny_pure ?_)
      simp only [↓reduceIte]
      refine wpAny_mono tail (fun r s' hr => ?_) fun _ _ e => e
      obtain ⟨rfl, hq⟩ := hr
      exact wpAny_pure hq
end
end Mine

end PartJ2c
section PartJ2d
open PySem PySem.W PyProof.Rows
set_option maxRecDepth 100000
set_option maxHeartbeats 1000000
namespace Mine

theorem erase_perm {α : Type} : ∀ {l : List α} {i : Nat} (h : i < l.length), (l[i] :: l.eraseIdx i).Perm l
  | a :: r, 0, _ => by simp
  | a :: r, i + 1, h => by
    have h' : i < r.length := by simpa using h
    show (r[i] :: a :: r.eraseIdx i).Perm (a :: r)
    exact (List.Perm.swap a _ _).trans ((erase_perm h').cons a)

def mbl (es : Array (Int × Value)) (t : SetTable) : Sem Unit := do
  if !t.led && es.size > 1 then unsupported "set:maker-not-led"
theorem setWalk_eq (a : Addr) : setWalk a = (do
    let (es, epoch, t) ← setState a
    if ← setsByText then return pickOrder ((← ask).params.setOrder a epoch) es
    if !t.plain && es.size > 1 then return (← drawOrder es.size es.toList).toArray
    mbl es t
    return es) := rfl

theorem pickOrder_go {α : Type} (next : Nat → Nat) : ∀ (fuel k : Nat) (left : List α) (out : Array α), left.length ≤ fuel → (pickOrder.go next fuel k left out).toList.Perm (out.toList ++ left) := by
  intro fuel
  induction fuel with
  | zero =>
    intro k left out h
    have : left = [] := List.eq_nil_of_length_eq_zero (by omega)
    subst this
    simp [pickOrder.go]
  | succ fuel ih =>
    intro k left out h
    unfold pickOrder.go
    cases hx : left[next k % left.length]? with
    | none =>
      dsimp only
      have h1 := List.getElem?_eq_none_iff.mp hx
      have : left = [] := by
        cases left with
        | nil => rfl
        | cons a r =>
          exfalso
          have := Nat.mod_lt (next k) (show 0 < (a :: r).length by simp)
          omega
      subst this
      simp
    | some x =>
      dsimp only
      obtain ⟨hlt, hget⟩ := List.getElem?_eq_some_iff.mp hx
      have hp : (x :: left.eraseIdx (next k % left.length)).Perm left := by
        rw [← hget]
        exact erase_perm hlt
      refine (ih (k + 1) _ _ (by rw [List.length_eraseIdx]; rw [if_pos hlt]; omega)).trans ?_
      rw [Array.toList_push, List.append_assoc]
      exact hp.append_left _
theorem pickOrder_perm {α : Type} (next : Nat → Nat) (xs : Array α) : (pickOrder next xs).toList.Perm xs.toList := by
  have := pickOrder_go next xs.size 0 xs.toList #[] (by simp)
  simpa [pickOrder] using this

section
variable {prog : Program} {w : World} {A : Around} {E : Value → Shared → Prop} {s : Shared}

theorem choose_any {src : Source} {n : Nat} {Q : Nat → Shared → Prop} (hn : n ≠ 0) (h : ∀ i d, i < n → Q i { s with drawn := d }) : wpAny (model prog w) A (choose src n) Q E s := fun Γ p _ => by
  show Sem.wp (model prog w) Γ (.choose src n .pure) _ _ p s
  rw [Sem.wp_choose]
  exact ⟨hn, h _ _ (Nat.mod_lt _ (Nat.pos_of_ne_zero hn))⟩

theorem drawOrder_perm {α : Type} : ∀ (n : Nat) (xs : List α) (s : Shared) {Q : List α → Shared → Prop}, n = xs.length → (∀ ys d, ys.Perm xs → Q ys { s with drawn := d }) →
    wpAny (model prog w) A (drawOrder n xs) Q E s := by
  intro n
  induction n with
  | zero =>
    intro xs s Q hn h
    have : xs = [] := List.eq_nil_of_length_eq_zero hn.symm
    subst this
    exact wpAny_pure (h [] s.drawn (List.Perm.refl _))
  | succ n ih =>
    intro xs s Q hn h
    cases xs with
    | nil => simp at hn
    | cons a r =>
      show wpAny _ _ (do
        let i ← choose .order (a :: r).length
        match (a :: r)[i]? with
        | some x => return x :: (← drawOrder n ((a :: r).eraseIdx i))
        | none => unsupported "internal:drawOrder") Q E s
      refine wpAny_bind (choose_any (by simp) fun i d hi => ?_)
      have hx : (a :: r)[i]? = some (a :: r)[i] := List.getElem?_eq_getElem hi
      rw [hx]
      dsimp only
      have hl : n = ((a :: r).eraseIdx i).length := by
        rw [List.length_eraseIdx, if_pos hi]; omega
      refine wpAny_bind (ih _ _ hl fun ys d' hp => wpAny_pure ?_)
      exact h _ d' ((hp.cons _).trans (erase_perm hi))

theorem setsByText_is {Q : Bool → Shared → Prop} (h : Q (w.params.followText "set-order") s) : wpAny (model prog w) A setsByText Q E s := by
  unfold setsByText
  exact wpAny_bind (wpAny_askSetting (wpAny_pure h))

/-- a walk of a set -/
theorem setWalk_at {a : Addr} {es : Array (Int × Value)} {t : SetTable} {Q : Array (Int × Value) → Shared → Prop} (x : SetAt s.heap a es t) (ht : TabOk t es.size) (hl : LedOk w t)
    (h : ∀ es' d, es'.toList.Perm es.toList → Q es' { s with drawn := d }) : wpAny (model prog w) A (setWalk a) Q E s := by
  have e0 : s = { s with drawn := s.drawn } := by cases s; rfl
  rw [setWalk_eq]
  refine wpAny_bind (setState_at x ht fun ep => ?_)
  dsimp only
  refine wpAny_bind (setsByText_is ?_)
  by_cases hb : w.params.followText "set-order" = true
  · rw [if_pos hb]
    refine wpAny_bind (wpAny_askSetting (wpAny_pure ?_))
    have := h (pickOrder (w.params.setOrder a ep) es) s.drawn (pickOrder_perm _ _)
    exact this
  · rw [if_neg hb]
    have hled : t.led = true := hl.resolve_left hb
    split
    · refine wpAny_bind (drawOrder_perm _ _ _ (by simp) fun ys d hp => wpAny_pure ?_)
      exact h _ d (by simpa using hp)
    · unfold mbl
      rw [hled]
      simp only [Bool.not_true, Bool.false_and, Bool.false_eq_true, if_false]
      exact wpAny_bind (wpAny_pure (wpAny_pure (h es s.drawn (List.Perm.refl _))))

theorem setEntries_at {a : Addr} {es : Array (Int × Value)} {t : SetTable} {Q : Array (Int × Value) → Shared → Prop} (x : SetAt s.heap a es t) (ht : TabOk t es.size) (h : Q es s) :
    wpAny (model prog w) A (setEntries a) Q E s := let ⟨_, _, ho, _, hd⟩ := x; wpAny_setEntries_of ho hd ht.fits h
theorem setEpoch_at {a : Addr} {es : Array (Int × Value)} {t : SetTable} (x : SetAt s.heap a es t) (ht : TabOk t es.size) :
    (∃ ep, ∀ (s' : Shared) (Q' : Nat → Shared → Prop), s'.heap.get? a = s.heap.get? a → Q' ep s' → wpAny (model prog w) A (setEpoch a) Q' E s') := by
  obtain ⟨o, ep, ho, _, hd⟩ := x
  exact ⟨ep, fun s' Q' e q => wpAny_setEpoch_of (e.trans ho) hd ht.fits q⟩

theorem setsQuiet_ints {sets : List Addr} {Q : Bool → Shared → Prop} (hs : ∀ a ∈ sets, ∃ es t, SetAt s.heap a es t ∧ TabOk t es.size ∧ IntEs es) (h : Q true s) : wpAny (model prog w) A (setsQuiet sets) Q E s := by
  unfold setsQuiet
  refine wpAny_bind ?_
  refine wpAny_forIn_list _ (fun rest b s' => s' = s ∧ b = (none, ()) ∧ ∀ a ∈ rest, ∃ es t, SetAt s.heap a es t ∧ TabOk t es.size ∧ IntEs es) _ ?_ ?_ _ _ ⟨rfl, rfl, hs⟩
  · rintro a rest b s' ⟨rfl, rfl, hr⟩
    obtain ⟨es, t, x, ht, hi⟩ := hr a (List.mem_cons_self ..)
    refine wpAny_bind (setEntries_at x ht ?_)
    refine wpAny_bind ?_
    rw [← Array.forIn_toList]
    refine wpAny_forIn_list _ (fun rest' b s'' => s'' = s' ∧ b = (none, ()) ∧ ∀ e ∈ rest', e ∈ es.toList) _ ?_ ?_ _ _ ⟨rfl, rfl, fun e he => he⟩
    · rintro e rest' b s'' ⟨rfl, rfl, hr'⟩
      obtain ⟨k, u, rfl⟩ := hi e (hr' e (List.mem_cons_self ..))
      exact wpAny_pure ⟨rfl, rfl, fun e he => hr' e (List.mem_cons_of_mem _ he)⟩
    · rintro b s'' ⟨rfl, rfl, _⟩
      exact wpAny_pure ⟨rfl, rfl, fun a ha => hr a (List.mem_cons_of_mem _ ha)⟩
  · rintro b s' ⟨rfl, rfl, _⟩
    exact wpAny_pure h

theorem setWalkUnseen_at {a f : Addr} {es ef : Array (Int × Value)} {t tf : SetTable} {Q : Array (Int × Value) → Shared → Prop} (hne : a ≠ f)
    (x : SetAt s.heap a es t) (ht : TabOk t es.size) (hl : LedOk w t) (hi : IntEs es)
    (y : SetAt s.heap f ef tf) (hf : TabOk tf ef.size) (hlf : LedOk w tf) (hif : IntEs ef) (hz : ef.size ≤ 4096)
    (h : ∀ es' d h' tf', es'.toList.Perm es.toList → Heap.SameBut f s.heap h' → SetAt h' f ef tf' → TabOk tf' ef.size → LedOk w tf' → tf'.mask = tf.mask → Q es' { s with heap := h', drawn := d }) :
    wpAny (model prog w) A (setWalkUnseen a [f] (some f)) Q E s := by
  have old : wpAny (model prog w) A (setWalk a) Q E s := setWalk_at x ht hl fun es' d hp => h es' d s.heap tf hp (Heap.SameBut.refl _ _) y hf hlf rfl
  unfold setWalkUnseen
  refine wpAny_bind (setState_at x ht fun ep => ?_)
  dsimp only
  refine wpAny_bind (setsByText_is ?_)
  by_cases hc : (w.params.followText "set-order" || t.led && t.plain || decide (es.size ≤ 1)) = true
  · rw [if_pos hc]
    exact old
  · rw [if_neg hc]
    have hb : ¬ w.params.followText "set-order" = true := by
      intro e; rw [e] at hc; simp at hc
    refine wpAny_bind (setsQuiet_ints (s := s) (sets := [a, f]) (fun b hb => ?_) ?_)
    · rcases List.mem_cons.mp hb with rfl | hb
      · exact ⟨es, t, x, ht, hi⟩
      · rw [List.mem_singleton] at hb; subst hb; exact ⟨ef, tf, y, hf, hif⟩
    · simp only [Bool.not_true, Bool.false_eq_true, if_false]
      refine wpAny_bind (wpAny_rule ?_)
      refine wpAny_bind (setState_at y hf fun ep' => ?_)
      dsimp only
      split
      · refine wpAny_bind (storeSet_at y (fun h' y' hs' => wpAny_pure ?_) hz)
        refine h es s.drawn h' _ (List.Perm.refl _) hs' y' ⟨hf.size, hf.nod, hf.rise, hf.room⟩ ?_ rfl
        right
        show (tf.led && t.led) = true
        rw [hl.resolve_left hb, hlf.resolve_left hb]; rfl
      · exact wpAny_pure (h es s.drawn s.heap tf (List.Perm.refl _) (Heap.SameBut.refl _ _) y hf hlf rfl)
end
end Mine

end PartJ2d
section PartJ2e
open PySem PySem.W PyProof.Rows
set_option maxRecDepth 100000
set_option maxHeartbeats 1000000
namespace Mine

def unionI (l1 l2 : List Int) : List Int := l2.foldl ins l1
theorem mem_unionI : ∀ {l2 l1 : List Int} {x : Int}, x ∈ unionI l1 l2 ↔ x ∈ l1 ∨ x ∈ l2
  | [], l1, x => by simp [unionI]
  | k :: r, l1, x => by
    show x ∈ unionI (ins l1 k) r ↔ _
    rw [mem_unionI, mem_ins, List.mem_cons, or_assoc]
theorem unionI_nodup : ∀ {l2 l1 : List Int}, l1.Nodup → (unionI l1 l2).Nodup
  | [], _, h => h
  | k :: r, l1, h => by
    show (unionI (ins l1 k) r).Nodup
    exact unionI_nodup (ins_nodup h k)
theorem unionI_perm {l1 l2 l2' : List Int} (h : l1.Nodup) (p : ∀ x, x ∈ l2 ↔ x ∈ l2') : (unionI l1 l2).Perm (unionI l1 l2') :=
  (List.perm_ext_iff_of_nodup (unionI_nodup h) (unionI_nodup h)).mpr fun x => by rw [mem_unionI, mem_unionI, p x]

theorem SetIt.perm {w : World} {es : Array (Int × Value)} {t : SetTable} {l l' : List Int} (h : SetIt w es t l) (p : l.Perm l') : SetIt w es t l' :=
  ⟨h.tab, h.led, h.hints, h.hkeys.trans p, p.nodup_iff.mp h.nodup, h.mask⟩
theorem SetI.perm {w : World} {h : Heap} {a : Addr} {l l' : List Int} (x : SetI w h a l) (p : l.Perm l') : SetI w h a l' :=
  let ⟨es, t, ha, r⟩ := x; ⟨es, t, ha, r.perm p⟩
theorem SetIt.size {w : World} {es : Array (Int × Value)} {t : SetTable} {l : List Int} (h : SetIt w es t l) : es.size = l.length := by
  have := h.hkeys.length_eq
  unfold keysI at this
  rwa [List.length_map, Array.length_toList] at this

def reord (es : Array (Int × Value)) (laid : Option (SetTable × Array Nat)) : Sem (Array (Int × Value) × SetTable) := do
  let some (t, order) := laid | unsupported "internal:set-table-without-room"
  let es' := order.filterMap (es[·]?)
  if es'.size != es.size then unsupported "internal:set-table-lost-an-element"
  pure (es', t)
theorem setRelay_eq (a : Addr) (wanted : Nat) : setRelay a wanted = (do
    let (es, _, t) ← setState a
    if SetTable.sizeAbove wanted > sizeLine then unsupported "set:memory"
    let (es, t) ← reord es (t.relaid (es.map (·.1)) wanted)
    storeSet a es t) := rfl
theorem setMerge_eq (s o : Addr) (each : Sem Unit) : setMerge s o each = (do
    if s == o then return
    let (eo, epoch, to) ← setState o
    if eo.isEmpty then return
    setRoomFor s eo.size
    let (_, _, ts) ← setState s
    match ts.road to with
    | .slotForSlot => storeSet s eo { to with finger := ts.finger, led := ts.led && to.led, moves := ts.moves, plain := ts.plain && to.plain }
    | .clean =>
      let (es, t) ← reord eo (SetTable.laid ts.mask ts.finger ts.moves (led := ts.led && to.led) (plain := ts.plain && to.plain) (eo.map (·.1)))
      storeSet s es t
    | .oneByOne =>
      for (h, x) in ← setWalkUnseen o [s] (some s) do
        let _ ← holding [x] (setAddHashed s x h)
        each
        if (← setState o).2.1 != epoch then unsupported "set.changed-during-merge") := rfl

section
variable {prog : Program} {w : World} {A : Around} {E : Value → Shared → Prop} {s : Shared}

theorem reord_at {es : Array (Int × Value)} {t : SetTable} {order : Array Nat} {Q : (Array (Int × Value) × SetTable) → Shared → Prop} (hp : order.toList.Perm (List.range es.size))
    (h : ∀ es', es'.toList.Perm es.toList → es'.size = es.size → Q (es', t) s) : wpAny (model prog w) A (reord es (some (t, order))) Q E s := by
  unfold reord
  dsimp only
  have hq := order_perm hp
  have hsz : (order.filterMap (es[·]?)).size = es.size := by
    have := hq.length_eq; rwa [Array.length_toList, Array.length_toList] at this
  rw [if_neg (by rw [hsz]; simp)]
  exact wpAny_pure (h _ hq hsz)

theorem roomFor_I {a : Addr} {l : List Int} {more : Nat} {Q : Unit → Shared → Prop} (hs : SetI w s.heap a l) (hl : l.length + more < 128)
    (h : ∀ h' es t, SetAt h' a es t → SetIt w es t l → (es.size = 0 → more ≤ t.mask) → Heap.SameBut a s.heap h' → Q () { s with heap := h' }) : wpAny (model prog w) A (setRoomFor a more) Q E s := by
  obtain ⟨es, t, x, hI⟩ := hs
  have hsz := hI.size
  unfold setRoomFor
  refine wpAny_bind (setState_at x hI.tab fun ep => ?_)
  dsimp only
  unfold SetTable.roomFor
  by_cases hc : (t.fill + more) * 5 ≥ t.mask * 3
  · rw [if_pos hc]
    dsimp only
    rw [setRelay_eq]
    refine wpAny_bind (setState_at x hI.tab fun ep => ?_)
    dsimp only
    have hpl : t.place.size = es.size := hI.tab.size
    have hw : (t.place.size + more) * 2 < 256 := by rw [hpl, hsz]; omega
    obtain ⟨hg, hle⟩ := sizeAbove_good hw
    have hline : ¬ SetTable.sizeAbove ((t.place.size + more) * 2) > sizeLine := by
      rw [sizeLine_eq]
      rcases hg with q | q | q | q | q | q <;> omega
    rw [if_neg hline]
    obtain ⟨t', order, e, hp, ht', hled, hgm, hwm⟩ := relaid_some (t := t) (hs := es.map (·.1)) hw (by rw [Array.size_map, hpl]; omega)
    rw [Array.size_map] at hp ht'
    rw [e]
    refine wpAny_bind (reord_at hp fun es' hp' hsz' => ?_)
    dsimp only
    refine storeSet_at x (fun h' x' hs' => ?_) (by rw [hsz', hsz]; omega)
    refine h h' es' t' x' ⟨by rw [hsz']; exact ht', ?_, hI.hints.perm hp', (keysI_perm hp').trans hI.hkeys, hI.nodup, fun _ => hgm⟩ (fun _ => by omega) hs'
    unfold LedOk; rw [hled]; exact hI.led
  · rw [if_neg hc]
    dsimp only
    refine wpAny_pure ?_
    have e : s = { s with heap := s.heap } := by cases s; rfl
    rw [e]
    exact h s.heap es t x hI (fun h0 => by rw [hI.tab.fill] at hc; omega) (Heap.SameBut.refl _ _)

theorem merge_I {sa oa : Addr} {l1 l2 pool : List Int} {each : Sem Unit} {Q : Unit → Shared → Prop} (hs : SetI w s.heap sa l1) (ho : SetI w s.heap oa l2) (hp1 : ∀ x ∈ l1, x ∈ pool) (hp2 : ∀ x ∈ l2, x ∈ pool) (hpl : pool.length ≤ 62)
    (heach : ∀ (s' : Shared) (Q' : Unit → Shared → Prop), s'.heap.get? oa = s.heap.get? oa → Q' () s' → wpAny (model prog w) A each Q' E s')
    (h : ∀ h' d, SetI w h' sa (unionI l1 l2) → Heap.SameBut sa s.heap h' → Q () { s with heap := h', drawn := d }) : wpAny (model prog w) A (setMerge sa oa each) Q E s := by
  have hbound : ∀ l : List Int, l.Nodup → (∀ x ∈ l, x ∈ pool) → l.length ≤ 62 := fun l hn hsub => Nat.le_trans (hn.length_le_of_subset hsub) hpl
  rw [setMerge_eq]
  by_cases hso : sa = oa
  · subst hso
    rw [if_pos (by simp)]
    refine wpAny_pure ?_
    obtain ⟨es1, t1, x1, h1⟩ := id hs
    obtain ⟨es2, t2, x2, h2⟩ := id ho
    have : es1 = es2 ∧ t1 = t2 := by
      obtain ⟨o, ep, a1, _, a2⟩ := x1
      obtain ⟨o', ep', b1, _, b2⟩ := x2
      obtain rfl : o = o' := Option.some.inj (a1.symm.trans b1)
      rw [a2] at b2
      injection b2 with c1 c2 c3
      exact ⟨c1, c3⟩
    obtain ⟨rfl, rfl⟩ := this
    refine h s.heap s.drawn (hs.perm ?_) (Heap.SameBut.refl _ _)
    refine (List.perm_ext_iff_of_nodup h1.nodup (unionI_nodup h1.nodup)).mpr fun x => ?_
    rw [mem_unionI]
    have : x ∈ l1 ↔ x ∈ l2 := by rw [← h1.hkeys.mem_iff, ← h2.hkeys.mem_iff]
    rw [← this, or_self]
  · rw [if_neg (by simpa using hso)]
    obtain ⟨eo, to, xo, hIo⟩ := id ho
    obtain ⟨oo, epo, hoo, hxo, hdo⟩ := id xo
    have hszo := hIo.size
    have hl2 := hbound l2 hIo.nodup hp2
    refine wpAny_bind (wpAny_setState_of hoo hdo hIo.tab.fits ?_)
    dsimp only
    have hl1 : l1.length ≤ 62 := by obtain ⟨_, _, _, hI1⟩ := id hs; exact hbound l1 hI1.nodup hp1
    by_cases hemp : eo.isEmpty = true
    · rw [if_pos hemp]
      have : l2 = [] := by
        have : eo.size = 0 := by simpa using hemp
        exact List.eq_nil_of_length_eq_zero (by omega)
      subst this
      exact wpAny_pure (h s.heap s.drawn hs (Heap.SameBut.refl _ _))
    · rw [if_neg hemp]
      refine wpAny_bind (roomFor_I hs (by omega) fun h1 es1 t1 x1 hI1 hm1 hs1 => ?_)
      have hsz1 := hI1.size
      refine wpAny_bind (setState_at x1 hI1.tab fun ep1 => ?_)
      dsimp only
      have hoo1 : h1.get? oa = some oo := (hs1.2 oa (fun e => hso e.symm)).trans hoo
      unfold SetTable.road
      by_cases hf0 : t1.fill = 0
      · have hes0 : es1.size = 0 := by rw [← hI1.tab.fill]; exact hf0
        have hl0 : l1 = [] := List.eq_nil_of_length_eq_zero (by omega)
        subst hl0
        have hu : l2.Perm (unionI [] l2) := (List.perm_ext_iff_of_nodup hIo.nodup (unionI_nodup List.nodup_nil)).mpr fun x => by rw [mem_unionI]; simp
        have hledok : (LedOk w to) → LedOk w t1 → ∀ t' : SetTable, t'.led = (t1.led && to.led) → LedOk w t' := by
          intro a b t' e
          unfold LedOk at *
          rcases a with a | a
          · exact .inl a
          · rcases b with b | b
            · exact .inl b
            · exact .inr (by rw [e, a, b]; rfl)
        rw [if_neg (by simp [hf0])]
        split
        · rename_i hroad
          split at hroad
          · refine storeSet_at x1 (fun h2 x2 hs2 => ?_) (by omega)
            refine h h2 s.drawn ⟨eo, _, x2, SetIt.perm (l := l2) ⟨⟨hIo.tab.size, hIo.tab.nod, hIo.tab.rise, hIo.tab.room⟩, hledok hIo.led hI1.led _ rfl, hIo.hints, hIo.hkeys, hIo.nodup, fun h0 => ?_⟩ hu⟩ (hs1.trans hs2)
            exact absurd (show eo.isEmpty = true by simpa using h0) hemp
          · cases hroad
        · rename_i hroad
          obtain ⟨t', order, e, hp, ht', hled', hmask'⟩ := laid_some (f := t1.finger) (mv := t1.moves) (led := t1.led && to.led) (plain := t1.plain && to.plain) (hI1.mask hes0) (hs := eo.map (·.1)) (by rw [Array.size_map]; exact hm1 hes0)
          rw [Array.size_map] at hp ht'
          rw [e]
          refine wpAny_bind (reord_at hp fun es' hp' hsz' => ?_)
          dsimp only
          refine storeSet_at x1 (fun h2 x2 hs2 => ?_) (by omega)
          exact h h2 s.drawn ⟨es', t', x2, SetIt.perm (l := l2) ⟨by rw [hsz']; exact ht', hledok hIo.led hI1.led _ hled', hIo.hints.perm hp', (keysI_perm hp').trans hIo.hkeys, hIo.nodup, fun _ => hmask' ▸ hI1.mask hes0⟩ hu⟩ (hs1.trans hs2)
        · rename_i hroad
          split at hroad <;> cases hroad
      · rw [if_pos (by simpa using hf0)]
        dsimp only
        have xo1 : SetAt h1 oa eo to := ⟨oo, epo, hoo1, hxo, hdo⟩
        refine wpAny_bind (setWalkUnseen_at (s := { s with heap := h1 }) (fun e => hso e.symm) xo1 hIo.tab hIo.led hIo.hints x1 hI1.tab hI1.led hI1.hints (by omega) fun es' d h2 t2 hp2' hs2 x2 ht2 hl2' hm2 => ?_)
        rw [← Array.forIn_toList]
        have hx2 : SetI w h2 sa (unionI l1 []) := ⟨es1, t2, x2, ht2, hl2', hI1.hints, hI1.hkeys, hI1.nodup, fun h0 => hm2 ▸ hI1.mask h0⟩
        have hn1 := hI1.nodup
        refine wpAny_bind ?_
        refine wpAny_forIn_list (s := { s with heap := h2, drawn := d }) _ (fun rest b s' => b = () ∧ ∃ done h' , es'.toList = done ++ rest ∧ s' = { s with heap := h', toks := s'.toks, drawn := d } ∧ s'.toks = s.toks ∧ SetI w h' sa (unionI l1 (done.map fun e => numOf e.2)) ∧ Heap.SameBut sa s.heap h') _ ?_ ?_ _ _
          ⟨rfl, [], h2, rfl, rfl, rfl, hx2, hs1.trans hs2⟩
        · rintro e rest b s' ⟨rfl, done, h', hd, hs', htk, hset, hsame⟩
          have hmem : e ∈ eo.toList := hp2'.mem_iff.mp (by rw [hd]; simp)
          obtain ⟨k, u, rfl⟩ := hIo.hints e hmem
          dsimp only
          obtain ⟨ec, tc, xc, hIc⟩ := hset
          have hszc := hIc.size
          have hsub : ∀ x ∈ unionI l1 (done.map fun e => numOf e.2), x ∈ pool := by
            intro x hx
            rcases mem_unionI.mp hx with q | q
            · exact hp1 x q
            · obtain ⟨e', he', rfl⟩ := List.mem_map.mp q
              refine hp2 _ (hIo.hkeys.mem_iff.mp (List.mem_map.mpr ⟨e', hp2'.mem_iff.mp (by rw [hd]; simp [he']), rfl⟩))
          have hlc := hbound _ hIc.nodup hsub
          have hheap : s'.heap = h' := by rw [hs']
          refine wpAny_bind (wpAny_holding (add_I (by rw [hheap]; exact xc) hIc (by omega) fun b' h'' es'' t'' x'' hI'' hs'' => ?_))
          rw [hheap] at hs''
          have hooN : h''.get? oa = some oo := by
            rw [hs''.2 oa (fun e => hso e.symm), hsame.2 oa (fun e => hso e.symm)]; exact hoo
          refine wpAny_bind (heach _ _ (show h''.get? oa = s.heap.get? oa by rw [hooN, hoo]) ?_)
          refine wpAny_bind (wpAny_setState_of (s := { s' with heap := h'' }) hooN hdo hIo.tab.fits ?_)
          rw [if_neg (by simp)]
          refine wpAny_pure ⟨rfl, done ++ [(hashInt k, .int k u)], h'', by rw [hd, List.append_assoc]; rfl, ?_, htk, ?_, hsame.trans hs''⟩
          · rw [hs']
          · rw [List.map_append]
            show SetI w h'' sa (List.foldl ins l1 (_ ++ _))
            rw [List.foldl_append]
            exact ⟨es'', t'', x'', hI''⟩
        · rintro b s' ⟨rfl, done, h', hd, hs', htk, hset, hsame⟩
          rw [List.append_nil] at hd
          have hfin : SetI w h' sa (unionI l1 l2) := hset.perm (unionI_perm hn1 fun x => by
            rw [← hIo.hkeys.mem_iff, ← hd]
            exact (hp2'.map fun e => numOf e.2).mem_iff)
          have := h h' d hfin hsame
          rw [hs', htk]
          exact wpAny_pure this
end
end Mine

end PartJ2e
section PartJ2f
open PySem PySem.W PyProof.Rows
set_option maxRecDepth 100000
set_option maxHeartbeats 1000000
namespace Mine

section
variable {prog : Program} {w : World} {A : Around} {E : Value → Shared → Prop} {s : Shared}

theorem SetAt.typeIs {a : Addr} {es : Array (Int × Value)} {t : SetTable} (x : SetAt s.heap a es t) : s.TypeIs (.ref a) "set" :=
  let ⟨o, _, ho, hx, _⟩ := x; ⟨o, ho, hx.1⟩
theorem SetI.typeIs {a : Addr} {l : List Int} (x : SetI w s.heap a l) : s.TypeIs (.ref a) "set" := let ⟨_, _, h, _⟩ := x; h.typeIs
theorem SetI.noDict {a : Addr} {l : List Int} (x : SetI w s.heap a l) : ∀ b, Value.ref a = .ref b → ∃ ob, s.heap.get? b = some ob ∧ ob.dict = none :=
  fun b e => by injection e with e; subst e; obtain ⟨_, _, ⟨o, _, ho, hx, _⟩, _⟩ := x; exact ⟨o, ho, hx.2.1⟩

theorem isAnySet_set {v : Value} {Q : Bool → Shared → Prop} (hT : s.TypeIs v "set") (h : Q true s) : wpAny (model prog w) A (Builtin.Frozenset.isAnySet v) Q E s := by
  unfold Builtin.Frozenset.isAnySet
  show wpAny _ _ (isInstance v (.type "set") >>= _) Q E s
  refine wpAny_bind (wpAny_isInstance hT sub_set_self ?_)
  exact wpAny_pure h

theorem merge_id {sa oa : Addr} {l1 l2 pool : List Int} {nm : String} {Q : Unit → Shared → Prop} (hs : SetI w s.heap sa l1) (ho : SetI w s.heap oa l2) (hp1 : ∀ x ∈ l1, x ∈ pool) (hp2 : ∀ x ∈ l2, x ∈ pool) (hpl : pool.length ≤ 62)
    (h : ∀ h' d, SetI w h' sa (unionI l1 l2) → Heap.SameBut sa s.heap h' → Q () { s with heap := h', drawn := d }) : wpAny (model prog w) A (Builtin.Frozenset.merge nm sa oa) Q E s := by
  unfold Builtin.Frozenset.merge
  obtain ⟨eo, to, xo, hIo⟩ := id ho
  obtain ⟨oo, epo, hoo, hxo, hdo⟩ := id xo
  refine wpAny_bind (wpAny_setEpoch_of hoo hdo hIo.tab.fits ?_)
  refine merge_I hs ho hp1 hp2 hpl (fun s' Q' e q => ?_) h
  unfold Builtin.Frozenset.unchanged
  refine wpAny_bind (wpAny_setEpoch_of (e.trans hoo) hdo hIo.tab.fits ?_)
  rw [if_neg (by simp)]
  exact wpAny_pure q

theorem update_I {sa oa : Addr} {l1 l2 pool : List Int} {Q : Value → Shared → Prop} (hs : SetI w s.heap sa l1) (ho : SetI w s.heap oa l2) (hp1 : ∀ x ∈ l1, x ∈ pool) (hp2 : ∀ x ∈ l2, x ∈ pool) (hpl : pool.length ≤ 62)
    (h : ∀ h' d, SetI w h' sa (unionI l1 l2) → Heap.SameBut sa s.heap h' → Q .none { s with heap := h', drawn := d }) : wpAny (model prog w) A (call (.builtin "set.update") [.ref sa, .ref oa]) Q E s := by
  refine wpAny_call_entry F.slot_set_update hs.typeIs F.entry_set_update ?_ (F.args_set_update_2 _ _)
  unfold Builtin.«set.update»
  refine wpAny_bind (m := Builtin.Frozenset.manyOthers "update" ⟨[.ref sa, .ref oa], []⟩) ?_
  unfold Builtin.Frozenset.manyOthers
  rw [if_neg (by simp)]
  refine wpAny_bind (m := Builtin.Frozenset.addrOf (.ref sa)) (wpAny_pure (wpAny_pure ?_))
  dsimp only
  refine wpAny_bind ?_
  rw [List.forIn_cons]
  refine wpAny_bind (wpAny_bind ?_)
  unfold Builtin.Frozenset.updateFrom
  refine wpAny_bind (isAnySet_set ho.typeIs ?_)
  rw [if_pos rfl]
  refine wpAny_bind (m := Builtin.Frozenset.addrOf (.ref oa)) (wpAny_pure ?_)
  refine merge_id hs ho hp1 hp2 hpl fun h' d hs' hsame => ?_
  refine wpAny_pure ?_
  dsimp only
  rw [List.forIn_nil]
  exact wpAny_pure (wpAny_pure ⟨.none, rfl, h h' d hs' hsame⟩)

theorem len_I {a : Addr} {l : List Int} {Q : Value → Shared → Prop} (hs : SetI w s.heap a l) (hl : l.length ≤ 62) (h : ∀ tk u, Q (.int l.length u) { s with toks := tk }) : wpAny (model prog w) A (call (.builtin "len") [.ref a]) Q E s := by
  obtain ⟨es, t, ⟨o, ep, ho, hx, hd⟩, hI⟩ := hs
  have hsz := hI.size
  refine call_len_set ho hx hd hI.tab.fits (by rw [hsz]; omega) ?_
  rw [hsz]
  exact h _ _
end
end Mine

end PartJ2f
section PartJ2g
open PySem PySem.W PyProof.Rows
set_option maxRecDepth 100000
set_option maxHeartbeats 4000000
namespace Mine

def freshSet (w : World) : Obj := { cls := .type "set", dict := none, data := .set #[] 0 (.fresh 0 0 (!w.params.followText "set-order")) }

section
variable {prog : Program} {w : World} {A : Around} {E : Value → Shared → Prop} {s : Shared}

theorem set_new_code (a : Value) {Q₁ : Value → Shared → Prop} (h : Q₁ (.ref s.heap.objs.size) { s with heap := s.heap.push (freshSet w) }) :
    codeAny (model prog w) A (.call (.builtin "set.__new__") ⟨[.type "set", a], []⟩) (wants Q₁ E) s := by
  refine codeAny_of_tree ?_
  show wpAny _ A.in1 (do checkBuiltinCall "set.__new__" ⟨[.type "set", a], []⟩; again (.builtin "set.__new__" ⟨[.type "set", a], []⟩)) _ _ s
  refine wpAny_bind (wpAny_of_eq (F.newCall_set_1 a) (wpAny_pure ⟨plainId_quiet F.plain_set_new _, codeAny_builtin F.entry_set_new ?_⟩))
  rw [Around.under_plainId F.plain_set_new _]
  unfold Builtin.«set.__new__» Builtin.Frozenset.newClass
  have hsub := sub_set_self
  obtain ⟨hp, g, d, tk, os⟩ := s
  dsimp only
  wp_walk
  refine wpAny_askSetting (wpAny_pure ?_)
  dsimp only
  simp only [newObj]
  refine wpAny_bind (wpAny_alloc (wpAny_pure ?_))
  exact wpAny_pure h

/-- the filling of a new set from a list -/
theorem set_fill {S I l : Addr} {items : Array Value} (hh : A.handled = none) (hne : S ≠ I) (hle : S ≠ l) (hil : l ≠ I) (J : Nat → Heap → Prop) (base : Heap)
    (frame : ∀ i (h h' : Heap), J i h → (∀ o, h.get? S = some o → h'.get? S = some o) → J i h')
    (step : ∀ i v s', items[i]? = some v → J i s'.heap → (∀ b o, b ≠ S → b ≠ I → base.get? b = some o → s'.heap.get? b = some o) → ∀ (E' : Value → Shared → Prop) (Q' : Bool → Shared → Prop),
      (∀ b h'' tk, J (i + 1) h'' → Heap.SameBut S s'.heap h'' → Q' b { s' with heap := h'', toks := tk }) → wpAny (model prog w) A.in1 (setAdd S v) Q' E' s')
    {R : Result → Shared → Prop} :
    ∀ (k i : Nat) (s : Shared), items.size - i = k → i ≤ items.size → s.heap.IsListIter I l i → s.heap.IsList l items → J i s.heap → (∀ b o, b ≠ S → b ≠ I → base.get? b = some o → s.heap.get? b = some o) →
      (∀ h' tk, J items.size h' → (∀ b o, b ≠ S → b ≠ I → base.get? b = some o → h'.get? b = some o) → R (.ok (.ret .none)) { s with heap := h', toks := tk }) →
      codeAny (model prog w) A (.builtin "set.update.loop" ⟨[.ref S, .ref I], []⟩) R s := by
  intro k
  induction k with
  | zero =>
    intro i s hk hi hit hl hJ hkeep hR
    have hin : i = items.size := by omega
    subst hin
    refine codeAny_builtin PyProof.Rows.F.entry_set_update_loop ?_
    rw [Around.under_plainId PyProof.Rows.F.plain_set_update_loop _]
    show wpAny _ A.in1 (pyNext (.ref I) >>= _) _ _ s
    refine wpAny_bind (wpAny_pyNext_list_end (A := A.in1) hh hit hl (by simp) fun h' he => ?_)
    show wpAny _ A.in1 (ret Value.none) _ _ _
    exact wpAny_pure (hR h' s.toks (frame _ _ _ hJ fun o e => he S o hne e) fun b o h1 h2 e => he b o h2 (hkeep b o h1 h2 e))
  | succ k ih =>
    intro i s hk hi hit hl hJ hkeep hR
    have hlt : i < items.size := by omega
    refine codeAny_builtin PyProof.Rows.F.entry_set_update_loop ?_
    rw [Around.under_plainId PyProof.Rows.F.plain_set_update_loop _]
    show wpAny _ A.in1 (pyNext (.ref I) >>= _) _ _ s
    refine wpAny_bind (wpAny_pyNext_list_item hit hl (x := items[i]) (by simp [hlt]) fun h1 hit1 hs1 => ?_)
    show wpAny _ A.in1 (holding [items[i]] (setAdd S items[i]) >>= _) _ _ _
    refine wpAny_bind (wpAny_holding ?_)
    refine step i items[i] _ (by simp [hlt]) (frame _ _ _ hJ fun o e => (hs1.2 S hne).trans e) (fun b o h1' h2' e => hs1.extBut b o h2' (hkeep b o h1' h2' e)) _ _ fun b h2 tk hJ2 hs2 => ?_
    refine wpAny_pure ⟨plainId_quiet PyProof.Rows.F.plain_set_update_loop _, ih (i + 1) _ (by omega) hlt (hit1.extBut hs2.extBut hne.symm) ((hl.extBut hs1.extBut hil).extBut hs2.extBut hle.symm) hJ2 (fun b o h1' h2' e => hs2.extBut b o h1' (hs1.extBut b o h2' (hkeep b o h1' h2' e))) fun h' tk' hJ' hk' => ?_⟩
    exact hR h' tk' hJ' hk'

set_option maxHeartbeats 8000000 in
theorem call_set_of {l : Addr} {items : Array Value} {Q : Value → Shared → Prop} (hh : A.handled = none) (hl : s.heap.IsList l items) (J : Nat → Heap → Prop)
    (start : ∀ h' : Heap, h'.get? s.heap.objs.size = some (freshSet w) → J 0 h')
    (frame : ∀ i (h h' : Heap), J i h → (∀ o, h.get? s.heap.objs.size = some o → h'.get? s.heap.objs.size = some o) → J i h')
    (step : ∀ i v s', items[i]? = some v → J i s'.heap → (∀ b o, s.heap.get? b = some o → s'.heap.get? b = some o) → ∀ (E' : Value → Shared → Prop) (Q' : Bool → Shared → Prop),
      (∀ b h'' tk, J (i + 1) h'' → Heap.SameBut s.heap.objs.size s'.heap h'' → Q' b { s' with heap := h'', toks := tk }) → wpAny (model prog w) A.in1.in1.in1 (setAdd s.heap.objs.size v) Q' E' s')
    (h : ∀ (h' : Heap) (tk : Nat), J items.size h' → (∀ b o, s.heap.get? b = some o → h'.get? b = some o) → Q (.ref s.heap.objs.size) { s with heap := h', toks := tk }) :
    wpAny (model prog w) A (call (.type "set") [.ref l]) Q E s := by
  obtain ⟨c, tl, hmro⟩ := F.called_set.mro
  have hmade := F.called_set.made
  have hsub := F.called_set.sub
  refine wpAny_call (codeAny_of_tree ?_)
  show wpAny _ _ (callAny (.type "set") _) _ _ _
  refine wpAny_pure ⟨Code.quiet_builtin _ (by decide +kernel), codeAny_builtin F.entry_type_call ?_⟩
  rw [Around.under_plain (weight_type_call_type "set" [.ref l] []) rfl]
  have h1 := F.called_set.notType
  have h2 := F.called_set.canCreate
  have hct := F.typeCall_set_1 (.ref l)
  repeat (any_goals (first | assumption | wp_step))
  refine codeAny_mono (set_new_code (.ref l) (E := E) (Q₁ := fun obj s₁ => obj = .ref s.heap.objs.size ∧ s₁ = { s with heap := s.heap.push (freshSet w) }) ⟨rfl, rfl⟩) fun r s₁ hr => ?_
  cases r with
  | error e => exact hr
  | ok fl =>
    cases fl with
    | ret obj =>
      obtain ⟨rfl, rfl⟩ := hr
      have hS : (s.heap.push (freshSet w)).get? s.heap.objs.size = some (freshSet w) := Heap.get?_push_size _ rfl
      have hT : Shared.TypeIs { s with heap := s.heap.push (freshSet w) } (.ref s.heap.objs.size) "set" := ⟨_, hS, rfl⟩
      have hli := F.called_set.init.lookup
      have hbi := F.called_set.init.bind (.ref s.heap.objs.size)
      repeat (any_goals (first | assumption | wp_step))
      refine codeAny_mono (codeAny_call_builtin (R := wants (fun r s₂ => r = .none ∧ ∃ h' tk, s₂ = { s with heap := h', toks := tk } ∧ J items.size h' ∧
          (∀ b o, s.heap.get? b = some o → h'.get? b = some o)) E) F.called_set.init.plain F.entry_set_init (check_set_init_1 hT ?_)) fun r₂ s₂ hr₂ => ?_
      · obtain ⟨ol, hol, hcl, nl, hdl⟩ := id hl
        obtain ⟨ocls, odict, odata, oslots⟩ := ol
        simp only at hcl hdl
        subst hcl; subst hdl
        have hol' : (s.heap.push (freshSet w)).get? l = some { cls := .type "list", dict := odict, data := .seq items nl, slots := oslots } := Heap.get?_push_of_some _ hol
        have hl1 : (s.heap.push (freshSet w)).IsList l items := ⟨_, hol', rfl, nl, rfl⟩
        have hlS : l < s.heap.objs.size := Heap.lt_size hol
        have hh3 : A.in1.in1.handled = none := hh
        have hsz : (s.heap.push (freshSet w)).objs.size = s.heap.objs.size + 1 := Heap.size_push _ _
        have hsls := F.sub_list_set
        have hslf := F.sub_list_frozenset
        have hne : (Value.type "list" == Value.type "dict") = false := by decide
        unfold Builtin.«set.__init__» noKeywords Builtin.Frozenset.updateFrom
        generalize hPI : pyIter = PI
        have hfs : freshSet w = { cls := .type "set", dict := none, data := .set #[] 0 (.fresh 0 0 (!w.params.followText "set-order")) } := rfl
        rw [hfs] at hol' ⊢
        have hT' : Shared.TypeIs { s with heap := s.heap.push { cls := .type "set", dict := none, data := .set #[] 0 (.fresh 0 0 (!w.params.followText "set-order")) } } (.ref s.heap.objs.size) "set" := hT
        have hS' : (s.heap.push { cls := .type "set", dict := none, data := .set #[] 0 (.fresh 0 0 (!w.params.followText "set-order")) }).get? s.heap.objs.size = some { cls := .type "set", dict := none, data := .set #[] 0 (.fresh 0 0 (!w.params.followText "set-order")) } := hS
        wp_walk
        subst hPI
        refine wpAny_pyIter_list hl1 ?_
        refine wpAny_bind (wpAny_runValue ?_)
        have hI : (s.heap.push (freshSet w)).objs.size ≠ s.heap.objs.size := by rw [hsz]; exact Nat.succ_ne_self _
        have hIl : l ≠ (s.heap.push (freshSet w)).objs.size := by rw [hsz]; exact Nat.ne_of_lt (Nat.lt_succ_of_lt hlS)
        have hold : ∀ b o, s.heap.get? b = some o → ((s.heap.push (freshSet w)).push { cls := .type "list_iterator", data := .fields #[.ref l, .int 0 0] }).get? b = some o := fun b o e => Heap.get?_push_of_some _ (Heap.get?_push_of_some _ e)
        have hbase : ∀ (h'' : Heap), (∀ b o, b ≠ s.heap.objs.size → b ≠ (s.heap.push (freshSet w)).objs.size → s.heap.get? b = some o → h''.get? b = some o) → ∀ b o, s.heap.get? b = some o → h''.get? b = some o := fun h'' hk b o e =>
          hk b o (Nat.ne_of_lt (Heap.lt_size e)) (by rw [hsz]; exact Nat.ne_of_lt (Nat.lt_succ_of_lt (Heap.lt_size e))) e
        refine set_fill hh3 hI.symm (Nat.ne_of_gt hlS) hIl J s.heap frame (fun i v s' hv hJ hk E' Q' hq => step i v s' hv hJ (hbase _ hk) E' Q' hq) (items.size - 0) 0 _ (by omega) (Nat.zero_le _) ?ga ?gb ?gc ?gd ?ge
        case ga => exact ⟨_, Heap.get?_push_size _ rfl, rfl, rfl⟩
        case gb => exact hl1.push _
        case gc => exact start _ (Heap.get?_push_of_some _ hS)
        case gd => exact fun b o _ _ e => hold b o e
        intro h' tk hJ hk
        refine wpAny_pure ?_
        show wpAny _ _ (ret Value.none) _ _ _
        exact wpAny_pure ⟨rfl, h', tk, rfl, hJ, hbase _ hk⟩
      · cases r₂ with
        | error e => exact hr₂
        | ok fl₂ =>
          cases fl₂ with
          | ret r =>
            obtain ⟨rfl, h', tk, rfl, hJ, hk'⟩ := hr₂
            repeat (any_goals (first | assumption | wp_step))
            exact h _ _ hJ hk'
          | _ => exact hr₂.elim
    | _ => exact hr.elim
end
end Mine

end PartJ2g
section PartJ2h
open PySem PySem.W PyProof.Rows
set_option maxRecDepth 100000
set_option maxHeartbeats 1000000
namespace Mine

/-! few tuples in a small set: the search comes to an end -/
theorem road_succ (m k : Nat) (q : Nat × Nat) : road m (k + 1) q = SetTable.leap m (road m k q).1 (road m k q).2 := road_add m k 1 q

def pr (q : Nat × Nat) (k : Nat) : SetTable.Probe := { j := (road 7 k q).1, more := 0, i := (road 7 k q).1, perturb := (road 7 k q).2, dummy := none }
theorem runEnd7 {i : Nat} (h : i ≤ 7) : SetTable.runEnd 7 i - i = 0 := by unfold SetTable.runEnd; split <;> omega
theorem start_pr {t : SetTable} (h : Int) (hm : t.mask = 7) : t.probeStart h = pr (SetTable.bits h % 8, SetTable.bits h) 0 := by
  unfold SetTable.probeStart pr
  rw [hm]
  have hle : SetTable.bits h % (7 + 1) ≤ 7 := by have := Nat.mod_lt (SetTable.bits h) (show 7 + 1 > 0 by omega); omega
  show ({ j := _, more := _, i := _, perturb := _, dummy := none } : SetTable.Probe) = _
  rw [runEnd7 hle]
  rfl
theorem advance_pr {t : SetTable} {q : Nat × Nat} (k : Nat) (hm : t.mask = 7) : t.advance (pr q k) = pr q (k + 1) := by
  unfold SetTable.advance
  rw [if_neg (by show ¬ (0 : Nat) > 0; omega)]
  show ({ j := (SetTable.leap t.mask (road 7 k q).1 (road 7 k q).2).1, more := SetTable.runEnd t.mask (SetTable.leap t.mask (road 7 k q).1 (road 7 k q).2).1 - (SetTable.leap t.mask (road 7 k q).1 (road 7 k q).2).1, i := (SetTable.leap t.mask (road 7 k q).1 (road 7 k q).2).1, perturb := (SetTable.leap t.mask (road 7 k q).1 (road 7 k q).2).2, dummy := none } : SetTable.Probe) = _
  rw [hm, ← road_succ]
  have hle : (road 7 (k + 1) q).1 ≤ 7 := by
    rw [road_succ]
    show (_ % (7 + 1)) ≤ 7
    have := Nat.mod_lt ((road 7 k q).1 * 5 + 1 + (road 7 k q).2 / 32) (show 7 + 1 > 0 by omega)
    omega
  rw [runEnd7 hle]
  rfl

theorem slot_cases {t : SetTable} {n : Nat} (ht : TabOk t n) (j : Nat) : (t.slot j = .empty) ∨ ∃ i, i < n ∧ t.slot j = .live i := by
  unfold SetTable.slot
  dsimp only
  split
  · rename_i h
    right
    refine ⟨_, ?_, rfl⟩
    have h' : t.place[SetTable.below t.place j]? = some j := by simpa using h
    have := (Array.getElem?_eq_some_iff.mp h').1
    rw [← ht.size]; exact this
  · left
    have hh : SetTable.has t.dummies j = false := by rw [ht.nod]; rfl
    rw [hh]; rfl

theorem some_empty {t : SetTable} {n : Nat} (ht : TabOk t n) (hn : n ≤ 7) : ∃ y, y ≤ 7 ∧ t.slot y = .empty := by
  by_cases hall : ∃ y, y ≤ 7 ∧ t.slot y = .empty
  · exact hall
  · exfalso
    have hsub : List.range 8 ⊆ t.place.toList := by
      intro y hy
      rw [List.mem_range] at hy
      rcases slot_cases ht y with h | ⟨i, hi, h⟩
      · exact absurd ⟨y, by omega, h⟩ hall
      · unfold SetTable.slot at h
        dsimp only at h
        split at h
        · rename_i h'
          have h'' : t.place[SetTable.below t.place y]? = some y := by simpa using h'
          exact Array.mem_toList_iff.mpr (Array.mem_of_getElem? h'')
        · split at h <;> cases h
    have := List.nodup_range.length_le_of_subset hsub
    rw [List.length_range, Array.length_toList, ht.size] at this
    omega

theorem end_of_road {t : SetTable} {n : Nat} (ht : TabOk t n) (hn : n ≤ 7) (h : Int) : ∃ K, K ≤ 20 ∧ t.slot (pr (SetTable.bits h % 8, SetTable.bits h) K).j = .empty := by
  obtain ⟨y, hy, he⟩ := some_empty ht hn
  obtain ⟨k, hk, e⟩ := road_all (m := 7) (.inl rfl) (x := SetTable.bits h % 8) (p := SetTable.bits h) (y := y) (by have := Nat.mod_lt (SetTable.bits h) (show 8 > 0 by omega); omega) (bits_lt h) hy
  refine ⟨k, hk, ?_⟩
  show t.slot (road 7 k _).1 = _
  rw [e]; exact he

theorem probe_from {t : SetTable} {n : Nat} (ht : TabOk t n) (hm : t.mask = 7) {q : Nat × Nat} {K : Nat} (hK : t.slot (pr q K).j = .empty) (hashAt : Nat → Int) (h : Int) :
    ∀ (d k fuel : Nat), K - k = d → k ≤ K → d < fuel →
      (∃ j, SetTable.probe.go t hashAt h fuel (pr q k) = some (.empty j none) ∧ t.slot j = .empty) ∨
      (∃ k' j i, SetTable.probe.go t hashAt h fuel (pr q k) = some (.candidate j i (pr q (k' + 1))) ∧ t.slot j = .live i ∧ i < n ∧ k ≤ k' ∧ k' < K ∧ hashAt i = h) := by
  intro d
  induction d with
  | zero =>
    intro k fuel hd hk hf
    have : k = K := by omega
    subst this
    obtain ⟨f, rfl⟩ : ∃ f, fuel = f + 1 := ⟨fuel - 1, by omega⟩
    left
    refine ⟨(pr q k).j, ?_, hK⟩
    unfold SetTable.probe.go
    rw [hK]
    rfl
  | succ d ih =>
    intro k fuel hd hk hf
    obtain ⟨f, rfl⟩ : ∃ f, fuel = f + 1 := ⟨fuel - 1, by omega⟩
    rcases slot_cases ht (pr q k).j with he | ⟨i, hi, hl⟩
    · left
      refine ⟨(pr q k).j, ?_, he⟩
      unfold SetTable.probe.go
      rw [he]
      rfl
    · unfold SetTable.probe.go
      rw [hl]
      dsimp only
      rw [advance_pr k hm]
      by_cases hh : (hashAt i == h) = true
      · rw [if_pos hh]
        right
        exact ⟨k, _, i, rfl, hl, hi, Nat.le_refl _, by omega, by simpa using hh⟩
      · rw [if_neg hh]
        rcases ih (k + 1) f (by omega) (by omega) (by omega) with ⟨j, e, hj⟩ | ⟨k', j, i', e, h1, h2, h3, h4, h5⟩
        · exact .inl ⟨j, e, hj⟩
        · exact .inr ⟨k', j, i', e, h1, h2, by omega, h4, h5⟩

def storedHash (es : Array (Int × Value)) (i : Nat) : Int := (es[i]?.map (·.1)).getD 0
theorem setSearchFrom_eq (a : Addr) (x : Value) (h : Int) (adding : Bool) (fuel : Nat) (stand : Option SetTable.Probe) : setSearchFrom a x h adding (fuel + 1) stand = (do
    let (es, _, t) ← setState a
    if t.gaveWay then unsupported "set:on-a-table-that-gave-way"
    let some met := t.probe (storedHash es) h (stand.getD (t.probeStart h)) | unsupported "internal:set-table-without-an-empty-slot"
    match met with
    | .empty j dummy =>
      match dummy with
      | none => return .free j false
      | some d =>
        if adding && t.slot d != .dummy then rule "set.search.the-dummy-was-taken"; return ← setSearchFrom a x h adding fuel none
        return .free d true
    | .candidate j i next =>
      if !t.led then
        if ← searchCouldBeSeen x ((es.filter (·.1 == h)).toList.map (·.2)) then unsupported "set:the-search-would-show-the-table"
      let some (_, y) := es[i]? | unsupported "internal:set-entry"
      let equal ← holding [y] (eqBool y x)
      let (es', _, t') ← setState a
      if adding && equal then return .there none
      let some same := t'.sameMemory t.moves t.mask | unsupported "set.changed-during-lookup:is-the-new-block-at-the-old-address"
      let still ← match (if same then t'.slot j else .empty) with
        | .live i' => match es'[i']? with
          | some (_, y') => do pure (if ← isSame y' y then some i' else none)
          | none => pure none
        | _ => pure none
      match still with
      | none => rule "set.search.anew"; setSearchFrom a x h adding fuel none
      | some i' => if equal then return .there (some i') else setSearchFrom a x h adding fuel (some next)) := rfl

section
variable {prog : Program} {w : World} {A : Around} {E : Value → Shared → Prop} {s : Shared}

theorem class_false {ks : List (Int ⊕ Str)} {a : Addr} {Q : Bool → Shared → Prop} (hk : IsTupleKey (mixKind prog w) s.heap ks a) (h : Q false s) : wpAny (model prog w) A (ofAClassStatement 8 (.ref a)) Q E s := by
  have hT := hk.typeIs
  obtain ⟨o, items, n, ho, _, hd, hi⟩ := hk
  unfold ofAClassStatement
  refine wpAny_bind (wpAny_typeOf hT ?_)
  dsimp only
  rw [if_pos (by decide)]
  refine wpAny_bind (wpAny_pure ?_)
  simp only [Bool.not_true, Bool.false_eq_true, if_false]
  refine wpAny_bind (wpAny_seqItems ho hd ?_)
  dsimp only
  refine wpAny_bind ?_
  rw [← Array.forIn_toList]
  refine wpAny_forIn_list _ (fun rest r s' => r = (none, ()) ∧ s' = s ∧ ∀ v ∈ rest, carriedByValue v = true) _ ?_ ?_ _ _ ⟨rfl, rfl, hi.byValue⟩
  · rintro v rest r s' ⟨rfl, rfl, hall⟩
    have hv := hall v (List.mem_cons_self ..)
    have e : ofAClassStatement 7 v = pure false := by
      cases v with
      | ref b => simp [carriedByValue] at hv
      | _ => first | rfl | simp [ofAClassStatement]
    rw [e]
    refine wpAny_bind (wpAny_pure ?_)
    simp only [Bool.false_eq_true, if_false]
    exact wpAny_pure ⟨rfl, rfl, fun u hu => hall u (List.mem_cons_of_mem _ hu)⟩
  · rintro r s' ⟨rfl, rfl, _⟩
    exact wpAny_pure h

theorem seen_false {ks : List (Int ⊕ Str)} {a : Addr} {stored : List Value} {Q : Bool → Shared → Prop} (hk : IsTupleKey (mixKind prog w) s.heap ks a)
    (hst : ∀ v ∈ stored, ∃ ks' b, v = .ref b ∧ IsTupleKey (mixKind prog w) s.heap ks' b) (h : Q false s) : wpAny (model prog w) A (searchCouldBeSeen (.ref a) stored) Q E s := by
  unfold searchCouldBeSeen
  refine wpAny_bind ?_
  refine wpAny_forIn_list _ (fun rest r s' => r = (none, ()) ∧ s' = s ∧ ∀ v ∈ rest, ∃ ks' b, v = .ref b ∧ IsTupleKey (mixKind prog w) s.heap ks' b) _ ?_ ?_ _ _ ⟨rfl, rfl, hst⟩
  · rintro v rest r s' ⟨rfl, rfl, hall⟩
    obtain ⟨ks', b, rfl, hb⟩ := hall v (List.mem_cons_self ..)
    have next : ∀ u ∈ rest, ∃ ks' b, u = .ref b ∧ IsTupleKey (mixKind prog w) s'.heap ks' b := fun u hu => hall u (List.mem_cons_of_mem _ hu)
    dsimp only
    split
    · exact wpAny_pure ⟨rfl, rfl, next⟩
    · refine wpAny_bind (wpAny_eqIsQuiet_tuple hk ?_)
      simp only [Bool.not_true, Bool.false_eq_true, if_false]
      refine wpAny_bind (wpAny_eqIsQuiet_tuple hb ?_)
      simp only [Bool.not_true, Bool.false_eq_true, if_false]
      refine wpAny_bind (class_false hk ?_)
      simp only [Bool.false_eq_true, if_false]
      refine wpAny_bind (class_false hb ?_)
      simp only [Bool.false_eq_true, if_false]
      exact wpAny_pure ⟨rfl, rfl, next⟩
  · rintro r s' ⟨rfl, rfl, _⟩
    exact wpAny_pure h


def entT (prog : Program) (w : World) (C : Nds) (j : Nat) : Int × Value := (tupleKeyHash (mixKind prog w) (tkey j), Value.ref (C.ad j))
structure SetTt (prog : Program) (w : World) (C : Nds) (es : Array (Int × Value)) (t : SetTable) (ks : List Nat) : Prop where
  tab : TabOk t es.size
  led : LedOk w t
  hents : es.toList = ks.map (entT prog w C)
  mask : t.mask = 7

theorem SetTt.get {C : Nds} {es : Array (Int × Value)} {t : SetTable} {ks : List Nat} (hI : SetTt prog w C es t ks) {i : Nat} (hi : i < es.size) : ∃ j, j ∈ ks ∧ es[i]? = some (entT prog w C j) := by
  have e : es[i]? = es.toList[i]? := (Array.getElem?_toList).symm
  rw [e, hI.hents, List.getElem?_map]
  have hl : i < ks.length := by
    have := congrArg List.length hI.hents
    rw [List.length_map, Array.length_toList] at this
    omega
  rw [List.getElem?_eq_getElem hl]
  exact ⟨_, List.getElem_mem hl, rfl⟩

theorem search_T {C : Nds} {a : Addr} {es : Array (Int × Value)} {t : SetTable} {ks : List Nat} {j : Nat} {Q : SetFound → Shared → Prop} (hu : A.units < cLine) (x : SetAt s.heap a es t) (hI : SetTt prog w C es t ks)
    (hn : ∀ i ∈ ks, IsTupleKey (mixKind prog w) s.heap (tkey i) (C.ad i)) (hj : IsTupleKey (mixKind prog w) s.heap (tkey j) (C.ad j)) {K : Nat}
    (hK : t.slot (pr (SetTable.bits (tupleKeyHash (mixKind prog w) (tkey j)) % 8, SetTable.bits (tupleKeyHash (mixKind prog w) (tkey j))) K).j = .empty)
    (h1 : j ∈ ks → Q (.there none) s) (h2 : ∀ p, t.slot p = .empty → Q (.free p false) s) :
    ∀ (d k fuel : Nat) (stand : Option SetTable.Probe), K - k = d → k ≤ K → K ≤ 20 → d < fuel →
      stand.getD (t.probeStart (tupleKeyHash (mixKind prog w) (tkey j))) = pr (SetTable.bits (tupleKeyHash (mixKind prog w) (tkey j)) % 8, SetTable.bits (tupleKeyHash (mixKind prog w) (tkey j))) k →
      wpAny (model prog w) A (setSearchFrom a (.ref (C.ad j)) (tupleKeyHash (mixKind prog w) (tkey j)) true fuel stand) Q E s := by
  generalize tupleKeyHash (mixKind prog w) (tkey j) = hsh at *
  intro d
  induction d using Nat.strongRecOn with
  | ind d ih =>
    intro k fuel stand hd hk hK20 hf hst
    obtain ⟨f, rfl⟩ : ∃ f, fuel = f + 1 := ⟨fuel - 1, by omega⟩
    rw [setSearchFrom_eq]
    obtain ⟨o, ep, ho, hx, hdat⟩ := id x
    refine wpAny_bind (wpAny_setState_of ho hdat hI.tab.fits ?_)
    dsimp only
    have hgw : t.gaveWay = false := by unfold SetTable.gaveWay; rw [hI.mask]; rfl
    rw [if_neg (by rw [hgw]; exact Bool.false_ne_true)]
    rw [hst]
    have hn7 : K - k < 10 * SetTable.turns t.mask := by unfold SetTable.turns; omega
    rcases probe_from hI.tab hI.mask hK (storedHash es) hsh (K - k) k (10 * SetTable.turns t.mask) rfl hk hn7 with ⟨p, e, hp⟩ | ⟨k', p, i, e, hl, hi, hkk, hkK, hh⟩
    · have e' : t.probe (storedHash es) hsh (pr (SetTable.bits hsh % 8, SetTable.bits hsh) k) = some (.empty p none) := e
      rw [e']
      exact wpAny_pure (h2 p hp)
    · have e' : t.probe (storedHash es) hsh (pr (SetTable.bits hsh % 8, SetTable.bits hsh) k) = some (.candidate p i (pr (SetTable.bits hsh % 8, SetTable.bits hsh) (k' + 1))) := e
      rw [e']
      dsimp only
      obtain ⟨j', hj', hei⟩ := hI.get hi
      have rest : wpAny (model prog w) A (do
          let some (_, y) := es[i]? | unsupported "internal:set-entry"
          let equal ← holding [y] (eqBool y (.ref (C.ad j)))
          let (es', _, t') ← setState a
          if true && equal then return .there none
          let some same := t'.sameMemory t.moves t.mask | unsupported "set.changed-during-lookup:is-the-new-block-at-the-old-address"
          let still ← match (if same then t'.slot p else .empty) with
            | .live i' => match es'[i']? with
              | some (_, y') => do pure (if ← isSame y' y then some i' else none)
              | none => pure none
            | _ => pure none
          match still with
          | none => rule "set.search.anew"; setSearchFrom a (.ref (C.ad j)) hsh true f none
          | some i' => if equal then return .there (some i') else setSearchFrom a (.ref (C.ad j)) hsh true f (some (pr (SetTable.bits hsh % 8, SetTable.bits hsh) (k' + 1)))) Q E s := by
        rw [hei]
        dsimp only [entT]
        refine wpAny_bind (wpAny_holding (wpAny_eqBool_tuple hu (hn j' hj') hj ?_))
        refine wpAny_bind (wpAny_setState_of ho hdat hI.tab.fits ?_)
        dsimp only
        by_cases hjj : j' = j
        · subst hjj
          rw [decide_eq_true rfl]
          simp only [Bool.and_self, if_true]
          exact wpAny_pure (h1 hj')
        · rw [decide_eq_false (fun q => hjj (tkey_inj q))]
          simp only [Bool.and_false, Bool.false_eq_true, if_false]
          have hsm : t.sameMemory t.moves t.mask = some true := by unfold SetTable.sameMemory; simp
          rw [hsm]
          dsimp only
          simp only [if_true]
          rw [hl]
          dsimp only
          rw [hei]
          dsimp only [entT]
          refine wpAny_bind (wpAny_isSame_ref_self ?_)
          simp only [if_true]
          refine wpAny_bind (wpAny_pure ?_)
          dsimp only
          exact ih (K - (k' + 1)) (by omega) (k' + 1) f (some _) rfl (by omega) hK20 (by omega) rfl
      split
      · refine wpAny_bind (seen_false hj (fun v hv => ?_) ?_)
        · obtain ⟨e1, he1, rfl⟩ := List.mem_map.mp hv
          rw [Array.toList_filter, List.mem_filter, hI.hents] at he1
          obtain ⟨j1, hj1, rfl⟩ := List.mem_map.mp he1.1
          exact ⟨_, _, rfl, hn j1 hj1⟩
        · simp only [Bool.false_eq_true, if_false]
          exact rest
      · exact rest

theorem hashByValue_T {ks : List (Int ⊕ Str)} {a : Addr} {Q : Bool → Shared → Prop} (hk : IsTupleKey (mixKind prog w) s.heap ks a) (h : ∀ b, Q b s) : wpAny (model prog w) A (hashByValue 8 (.ref a)) Q E s := by
  have hT := hk.typeIs
  obtain ⟨o, items, n, ho, _, hd, hi⟩ := hk
  unfold hashByValue
  refine wpAny_bind (wpAny_specialOf hT F.slot_tuple_hash.lookup ?_)
  show wpAny _ _ (seqItems? (.ref a) >>= _) _ _ s
  refine wpAny_bind (wpAny_seqItems ho hd ?_)
  dsimp only
  refine wpAny_bind ?_
  show wpAny _ _ (forIn items _ _) _ _ s
  rw [← Array.forIn_toList]
  refine wpAny_forIn_list _ (fun rest r s' => r = (none, ()) ∧ s' = s ∧ ∀ v ∈ rest, carriedByValue v = true) _ ?_ ?_ _ _ ⟨rfl, rfl, hi.byValue⟩
  · rintro v rest r s' ⟨rfl, rfl, hall⟩
    have hv := hall v (List.mem_cons_self ..)
    have e : ∃ b, hashByValue 7 v = pure b := by
      cases v with
      | ref b => simp [carriedByValue] at hv
      | _ => exact ⟨_, rfl⟩
    obtain ⟨b, e⟩ := e
    rw [e]
    refine wpAny_bind (wpAny_pure ?_)
    cases b with
    | true =>
      simp only [Bool.not_true, Bool.false_eq_true, if_false]
      exact wpAny_pure ⟨rfl, rfl, fun u hu => hall u (List.mem_cons_of_mem _ hu)⟩
    | false =>
      simp only [Bool.not_false, if_true]
      exact wpAny_pure (wpAny_pure (h false))
  · rintro r s' ⟨rfl, rfl, _⟩
    exact wpAny_pure (h true)

theorem add_T {C : Nds} {a : Addr} {es : Array (Int × Value)} {t : SetTable} {ks : List Nat} {j : Nat} {Q : Bool → Shared → Prop} (hu : A.units < cLine) (x : SetAt s.heap a es t) (hI : SetTt prog w C es t ks)
    (hn : ∀ i ∈ ks, IsTupleKey (mixKind prog w) s.heap (tkey i) (C.ad i)) (hj : IsTupleKey (mixKind prog w) s.heap (tkey j) (C.ad j)) (hz : es.size ≤ 3)
    (h : ∀ b h' es' t' ks', SetAt h' a es' t' → SetTt prog w C es' t' ks' → (∀ i, i ∈ ks' ↔ i ∈ ks ∨ i = j) → ks'.length ≤ ks.length + 1 → Heap.SameBut a s.heap h' → Q b { s with heap := h' }) :
    wpAny (model prog w) A (setAddHashed a (.ref (C.ad j)) (tupleKeyHash (mixKind prog w) (tkey j))) Q E s := by
  unfold setAddHashed setAddHashedIn
  refine wpAny_holding (wpAny_bind (setState_at x hI.tab fun ep => ?_))
  dsimp only
  rw [if_neg (by unfold byScan Value.scannable; simp)]
  obtain ⟨K, hK20, hK⟩ := end_of_road hI.tab (by omega) (tupleKeyHash (mixKind prog w) (tkey j))
  refine wpAny_bind (m := setSearch a (.ref (C.ad j)) (tupleKeyHash (mixKind prog w) (tkey j)) true) ?_
  unfold setSearch
  refine search_T hu x hI hn hj hK (fun hmem => ?_) (fun p hp => ?_) (K - 0) 0 100000 none rfl (Nat.zero_le _) hK20 (by omega) (start_pr _ hI.mask)
  · dsimp only
    refine wpAny_pure ?_
    have e : s = { s with heap := s.heap } := by cases s; rfl
    rw [e]
    exact h false s.heap es t ks x hI (fun i => ⟨.inl, fun q => q.elim id fun e => e ▸ hmem⟩) (by omega) (Heap.SameBut.refl _ _)
  · dsimp only
    refine wpAny_bind (setState_at x hI.tab fun ep => ?_)
    dsimp only
    obtain ⟨ht1, hp1, hm1⟩ := hI.tab.put hp (by rw [hI.mask]; omega)
    have fin : ∀ (tn : SetTable), tn.place = (t.put p).1.place → tn.dummies = (t.put p).1.dummies → tn.mask = t.mask → tn.led = t.led → wpAny (model prog w) A (do
        storeSet a (SetTable.insertAt es (t.put p).2 (tupleKeyHash (mixKind prog w) (tkey j), .ref (C.ad j))) tn
        if !false && tn.tooFull then setRelay a (SetTable.grown (es.size + 1))
        return true) Q E s := by
      intro tn e1 e2 e3 e4
      have hsz : (SetTable.insertAt es (t.put p).2 (tupleKeyHash (mixKind prog w) (tkey j), .ref (C.ad j))).size = es.size + 1 := size_insertAt _ _ _
      refine wpAny_bind (storeSet_at x (fun h' x' hs' => ?_) (by rw [hsz]; omega))
      have htn : TabOk tn (es.size + 1) := ⟨by rw [e1]; exact ht1.size, by rw [e2]; exact ht1.nod, by rw [e1]; exact ht1.rise, by rw [e3, hI.mask]; omega⟩
      have hfull : tn.tooFull = false := by
        unfold SetTable.tooFull
        rw [htn.fill, e3, hI.mask]
        simp
        omega
      rw [hfull]
      simp only [Bool.not_false, Bool.and_false, Bool.false_eq_true, if_false]
      refine wpAny_pure ?_
      refine h true h' _ tn (ks.take (t.put p).2 ++ j :: ks.drop (t.put p).2) x' ⟨by rw [hsz]; exact htn, ?_, ?_, by rw [e3]; exact hI.mask⟩ (fun i => ?_) ?_ hs'
      · unfold LedOk; rw [e4]; exact hI.led
      · rw [SetTable.toList_insertAt, hI.hents, List.map_append, List.map_cons, List.map_take, List.map_drop]; rfl
      · rw [List.mem_append, List.mem_cons]
        have : i ∈ ks ↔ i ∈ ks.take (t.put p).2 ∨ i ∈ ks.drop (t.put p).2 := by rw [← List.mem_append, List.take_append_drop]
        rw [this]
        constructor
        · rintro (q | q | q)
          · exact .inl (.inl q)
          · exact .inr q
          · exact .inl (.inr q)
        · rintro ((q | q) | q)
          · exact .inl q
          · exact .inr (.inr q)
          · exact .inr (.inl q)
      · rw [List.length_append, List.length_cons, List.length_take, List.length_drop]
        omega
    split
    · refine wpAny_bind (hashByValue_T hj fun b => ?_)
      cases b with
      | true => simp only [if_true]; exact fin _ rfl rfl rfl rfl
      | false => simp only [Bool.false_eq_true, if_false]; exact fin _ rfl rfl rfl rfl
    · refine wpAny_bind (wpAny_pure ?_)
      simp only [if_true]
      exact fin _ rfl rfl rfl rfl
end
end Mine

end PartJ2h
section PartJ2i0
open PySem PySem.W PyProof.Rows
set_option maxRecDepth 100000
set_option maxHeartbeats 1000000
namespace Mine

theorem slot_setiter_next : Slot "set_iterator" "__next__" "set_iterator.__next__" :=
  .of (owner := "set_iterator") (n := "__next__") (by rw [typeLookup_type, builtinLookup_eq_fast]; kernel_rfl) (by decide +kernel) (by decide +kernel) (by decide +kernel)
    (by first | exact .inl (by decide +kernel) | exact .inr (by decide +kernel)) (by rw [isSubtype_type]; kernel_rfl)
theorem slot_setiter_iter : Slot "set_iterator" "__iter__" "set_iterator.__iter__" :=
  .of (owner := "set_iterator") (n := "__iter__") (by rw [typeLookup_type, builtinLookup_eq_fast]; kernel_rfl) (by decide +kernel) (by decide +kernel) (by decide +kernel)
    (by first | exact .inl (by decide +kernel) | exact .inr (by decide +kernel)) (by rw [isSubtype_type]; kernel_rfl)
theorem entry_setiter_next : entryFor table "set_iterator.__next__" = some Builtin.«set_iterator.__next__» := entryFor_of_tree (by kernel_rfl)
theorem entry_setiter_iter : entryFor table "set_iterator.__iter__" = some Builtin.«dict_keyiterator.__iter__» :=
  entryFor_alias (id' := "dict_keyiterator.__iter__") (by rw [fastTable_eq_tree]; kernel_rfl) rfl (by decide +kernel) (by rw [fastTable_eq_tree]; kernel_rfl)
theorem entry_set_iter : entryFor table "set.__iter__" = some Builtin.«frozenset.__iter__» :=
  entryFor_alias (id' := "frozenset.__iter__") (by rw [fastTable_eq_tree]; kernel_rfl) rfl (by decide +kernel) (by rw [fastTable_eq_tree]; kernel_rfl)
theorem owner_setiter : Manifest.owners.lookup (String.ofList ['r', 'o', 't', 'a', 'r', 'e', 't', 'i', '_', 't', 'e', 's'].reverse) = some Manifest.sig_set_iterator := by kernel_rfl
theorem args_setiter_next (a : Value) : argsOk "set_iterator.__next__" ⟨[a], []⟩ := by
  unfold argsOk; rw [signature?_of (id := "set_iterator.__next__") (n := ['_', '_', 't', 'x', 'e', 'n', '_', '_']) (o := ['r', 'o', 't', 'a', 'r', 'e', 't', 'i', '_', 't', 'e', 's']) (by kernel_rfl) owner_setiter]; kernel_rfl
theorem args_setiter_iter (a : Value) : argsOk "set_iterator.__iter__" ⟨[a], []⟩ := by
  unfold argsOk; rw [signature?_of (id := "set_iterator.__iter__") (n := ['_', '_', 'r', 'e', 't', 'i', '_', '_']) (o := ['r', 'o', 't', 'a', 'r', 'e', 't', 'i', '_', 't', 'e', 's']) (by kernel_rfl) owner_setiter]; kernel_rfl

end Mine

end PartJ2i0
section PartJ2i
open PySem PySem.W PyProof.Rows
set_option maxRecDepth 100000
set_option maxHeartbeats 1000000
namespace Mine

def setObj (es : Array (Int × Value)) (ep : Nat) (t : SetTable) : Data := .set es ep t
def iterObj (vs : Array Value) : Obj := { cls := .type "set_iterator", dict := none, data := .fields vs, slots := #[] }

/-- the ways to go through a set -/
inductive Way (w : World) (a : Addr) (es : Array (Int × Value)) (ep : Nat) (t : SetTable) (tup : Addr) (h : Heap) : (Nat → Value) → List Value → Prop
  | byText : w.params.followText "set-order" = true → Way w a es ep t tup h (fun _ => .int 0 0) ((pickOrder (w.params.setOrder a ep) es).toList.map (·.2))
  | plain : w.params.followText "set-order" = false → (!t.plain && decide (es.size > 1)) = false →
      Way w a es ep t tup h (fun i => .int (if i = 0 then 0 else (t.place.getD (i - 1) 0 + 1 : Nat)) 0) (es.toList.map (·.2))
  | drawn {ps : List Nat} : ps.Perm (List.range es.size) → (∃ o n, h.get? tup = some o ∧ o.data = .seq ((ps.map fun p : Nat => rawInt (p : Int)).toArray) n) →
      Way w a es ep t tup h (fun _ => .ref tup) (ps.map fun p => (es.getD p (0, .none)).2)

theorem Way.perm {w : World} {a : Addr} {es : Array (Int × Value)} {ep : Nat} {t : SetTable} {tup : Addr} {h : Heap} {f : Nat → Value} {vs : List Value} (x : Way w a es ep t tup h f vs) : vs.Perm (es.toList.map (·.2)) := by
  cases x with
  | byText _ => exact (pickOrder_perm _ _).map _
  | plain _ _ => exact List.Perm.refl _
  | drawn hp _ =>
    refine (hp.map _).trans ?_
    have e : (List.range es.size).map (fun p => (es.getD p (0, .none)).2) = es.toList.map (·.2) := by
      apply List.ext_getElem
      · simp
      · intro i h1 h2
        have : i < es.size := by simpa using h1
        simp [Array.getD, this]
    rw [e]

def mblp (es : Array (Int × Value)) (t : SetTable) : Sem Unit := do
  if !t.led && !es.isEmpty then unsupported "set:maker-not-led"
theorem setNext_eq (a : Addr) (slot given epochThen : Nat) : setNext a slot given epochThen = (do
    let (es, epoch, t) ← setState a
    if ← setsByText then
      if epoch != epochThen then unsupported "set_iterator.__next__:elements-changed"
      return ((← setWalk a)[given]?).map fun e => (e.2, slot)
    if !t.plain && es.size > 1 then unsupported "set_iterator.__next__:the-table-is-plain-no-more"
    mblp es t
    let i := SetTable.below t.place slot
    return match es[i]?, t.place[i]? with
      | some (_, x), some j => some (x, j + 1)
      | _, _ => none) := rfl

structure SIter (w : World) (a I tup : Addr) (vs : List Value) (i : Nat) (h : Heap) : Prop where
  ex : ∃ o es ep t f, h.get? a = some o ∧ o.data = .set es ep t ∧ TabOk t es.size ∧ LedOk w t ∧ Way w a es ep t tup h f vs ∧ h.get? I = some (iterObj #[f i, .int i 0, .ref a, .int es.size 0, .int ep 0])
  ne : I ≠ a
  le : i ≤ vs.length

section
variable {prog : Program} {w : World} {A : Around} {E : Value → Shared → Prop} {s : Shared}

theorem raise_stop {α : Type} {Q : α → Shared → Prop} (hh : A.handled = none) (h : ∀ h' e, (∀ b o, s.heap.get? b = some o → h'.get? b = some o) → Shared.TypeIs { s with heap := h' } (.ref e) "StopIteration" → E (.ref e) { s with heap := h' }) :
    wpAny (model prog w) A (newExc (.type "StopIteration") [] >>= fun e => raiseNew e) Q E s := by
  refine wpAny_bind ?_
  simp only [newExc, newTuple]
  refine wpAny_bind (wpAny_newObj_type ?_ (by size_fits))
  refine wpAny_bind (m := firstArgMember _ _) (wpAny_of_eq (a := Value.none) (by first | rfl | (simp only [firstArgMember]; rfl)) ?_)
  refine wpAny_newObj_type ?_ (by size_fits)
  simp only [raiseNew]
  refine wpAny_bind (wpAny_handled ?_)
  rw [hh]
  refine wpAny_bind (wpAny_pure (wpAny_throw ?_))
  exact h _ _ (fun b o e => Heap.get?_push_of_some _ (Heap.get?_push_of_some _ e)) ⟨_, Heap.get?_push_size _ rfl, rfl⟩

theorem SIter.typeIs {a I tup : Addr} {vs : List Value} {i : Nat} (x : SIter w a I tup vs i s.heap) : s.TypeIs (.ref I) "set_iterator" := by
  obtain ⟨_, _, _, _, _, _, _, _, _, _, hI⟩ := x.ex
  exact ⟨_, hI, rfl⟩

/-- the next item of a set that stands still -/
theorem SIter.next {a I tup : Addr} {vs : List Value} {i : Nat} {Q : Option Value → Shared → Prop} (hh : A.handled = none) (x : SIter w a I tup vs i s.heap)
    (hitem : ∀ v h', vs[i]? = some v → SIter w a I tup vs (i + 1) h' → Heap.SameBut I s.heap h' → Q (some v) { s with heap := h' })
    (hend : ∀ h', i = vs.length → (∀ b o, b ≠ I → s.heap.get? b = some o → h'.get? b = some o) → Q none { s with heap := h' }) :
    wpAny (model prog w) A (pyNext (.ref I)) Q E s := by
  have hT := x.typeIs
  have hia := x.ne
  have hile := x.le
  obtain ⟨o, es, ep, t, f, ho, hd, ht, hled, hway, hI⟩ := x.ex
  have hlen : vs.length = es.size := by have := hway.perm.length_eq; simpa using this
  unfold pyNext
  refine wpAny_bind (wpAny_attempt (wpAny_callSpecial?_slot (name := Str.ofString "__next__") hT slot_setiter_next
    (wpAny_call_entry slot_setiter_next hT entry_setiter_next ?_ (args_setiter_next _))))
  show wpAny _ _ (fieldsOf (.ref I) >>= _) _ _ s
  refine wpAny_bind (wpAny_fieldsOf hI rfl ?_)
  dsimp only
  refine wpAny_bind (wpAny_setEntries_of ho hd ht.fits ?_)
  rw [if_neg (by simp)]
  have fields3 : ∀ (vs3 : Array Value), vs3.size = 5 → ∀ (s1 : Shared) (k : Nat) (v : Value) (E1 : Value → Shared → Prop) (Q1 : Unit → Shared → Prop), k < 5 → s1.heap.get? I = some (iterObj vs3) →
      (∀ h', h'.get? I = some (iterObj (vs3.setIfInBounds k v)) → Heap.SameBut I s1.heap h' → Q1 () { s1 with heap := h' }) → wpAny (model prog w) A.in1 (setField (.ref I) k v) Q1 E1 s1 :=
    fun vs3 hz s1 k v E1 Q1 hk hg hq => wpAny_setField_rec hg (by omega) hq
  have ending : ∀ (fl : Array Value) (s1 : Shared), fl.size = 5 → s1.heap.get? I = some (iterObj fl) → (∀ b o, b ≠ I → s.heap.get? b = some o → s1.heap.get? b = some o) → s1 = { s with heap := s1.heap } → i = vs.length →
      wpAny (model prog w) A.in1 (do setField (.ref I) 2 .none; let e ← newExc (.type "StopIteration") []; raiseNew e)
        (fun fin s' => ∃ v, fin = Fin.done (Flow.ret v) ∧ wpAny (model prog w) A (pure (some v)) Q E s')
        (fun e s' => wpAny (model prog w) A (do let b ← isInstance e (Value.type "StopIteration"); if b = true then pure none else throw e) Q E s') s1 := by
    intro fl s1 hz hg hk hs1 hi
    refine wpAny_bind (fields3 fl hz s1 2 .none _ _ (by omega) hg fun h' hg' hs' => ?_)
    refine raise_stop hh fun h'' e hk' hTe => ?_
    refine wpAny_bind (wpAny_isInstance hTe isSubtype_stop ?_)
    simp only [if_true]
    refine wpAny_pure ?_
    rw [hs1]
    exact hend h'' hi fun b o hb e => hk' b o (hs'.extBut b o hb (hk b o hb e))
  cases hway with
  | byText hb =>
    dsimp only
    rw [setNext_eq]
    have hw2 : ∀ (Q2 : Array (Int × Value) → Shared → Prop) (E2 : Value → Shared → Prop), Q2 (pickOrder (w.params.setOrder a ep) es) s → wpAny (model prog w) A.in1 (setWalk a) Q2 E2 s := by
      intro Q2 E2 hq
      rw [setWalk_eq]
      refine wpAny_bind (wpAny_setState_of ho hd ht.fits ?_)
      dsimp only
      refine wpAny_bind (setsByText_is ?_)
      rw [if_pos hb]
      exact wpAny_bind (wpAny_askSetting (wpAny_pure hq))
    refine wpAny_bind (wpAny_bind (wpAny_setState_of ho hd ht.fits ?_))
    dsimp only
    refine wpAny_bind (setsByText_is ?_)
    rw [if_pos hb]
    rw [if_neg (by simp)]
    refine wpAny_bind (hw2 _ _ (wpAny_pure ?_))
    have hv : ((pickOrder (w.params.setOrder a ep) es).toList.map (·.2))[i]? = ((pickOrder (w.params.setOrder a ep) es)[i]?).map (·.2) := by
      rw [List.getElem?_map, Array.getElem?_toList]
    simp only [Int.toNat_natCast]
    cases hx : (pickOrder (w.params.setOrder a ep) es)[i]? with
    | some e =>
      dsimp only [Option.map]
      refine wpAny_bind (fields3 _ rfl s 0 _ _ _ (by omega) hI fun h1 hg1 hs1 => ?_)
      refine wpAny_bind (fields3 _ rfl _ 1 _ _ _ (by omega) hg1 fun h2 hg2 hs2 => ?_)
      refine wpAny_pure ⟨_, rfl, wpAny_pure (hitem e.2 h2 (by rw [hv, hx]; rfl) ⟨⟨o, es, ep, t, _, ?_, hd, ht, hled, .byText hb, hg2⟩, hia, ?_⟩ (hs1.trans hs2))⟩
      · rw [(hs1.trans hs2).2 a hia.symm]; exact ho
      · have := (Array.getElem?_eq_some_iff.mp hx).1
        rw [List.length_map, Array.length_toList]; omega
    | none =>
      dsimp only [Option.map]
      refine ending _ s rfl hI (fun b o _ e => e) (by cases s; rfl) ?_
      have := Array.getElem?_eq_none_iff.mp hx
      rw [List.length_map, Array.length_toList] at hile ⊢
      omega
  | plain hb hpl =>
    dsimp only
    rw [setNext_eq]
    refine wpAny_bind (wpAny_bind (wpAny_setState_of ho hd ht.fits ?_))
    dsimp only
    refine wpAny_bind (setsByText_is ?_)
    rw [if_neg (by rw [hb]; exact Bool.false_ne_true)]
    rw [if_neg (by rw [hpl]; exact Bool.false_ne_true)]
    unfold mblp
    rw [hled.resolve_left (by rw [hb]; exact Bool.false_ne_true)]
    simp only [Bool.not_true, Bool.false_and, Bool.false_eq_true, if_false]
    refine wpAny_bind (wpAny_pure (wpAny_pure ?_))
    have hbel : SetTable.below t.place ((if i = 0 then (0 : Int) else ((t.place.getD (i - 1) 0 + 1 : Nat) : Int))).toNat = i := by
      by_cases hi0 : i = 0
      · subst hi0; exact below_zero ht.rise
      · rw [if_neg hi0, Int.toNat_natCast, below_next ht.rise (by rw [ht.size, ← hlen]; omega)]
        omega
    rw [hbel]
    by_cases hlt : i < es.size
    · have he : es[i]? = some es[i] := by simp [hlt]
      have hp : t.place[i]? = some (t.place.getD i 0) := getElem?_getD (by rw [ht.size]; exact hlt)
      rw [he, hp]
      dsimp only
      refine wpAny_bind (fields3 _ rfl s 0 _ _ _ (by omega) hI fun h1 hg1 hs1 => ?_)
      refine wpAny_bind (fields3 _ rfl _ 1 _ _ _ (by omega) hg1 fun h2 hg2 hs2 => ?_)
      refine wpAny_pure ⟨_, rfl, wpAny_pure (hitem es[i].2 h2 ?_ ⟨⟨o, es, ep, t, _, ?_, hd, ht, hled, .plain hb hpl, ?_⟩, hia, ?_⟩ (hs1.trans hs2))⟩
      · rw [List.getElem?_map, Array.getElem?_toList, he]; rfl
      · rw [(hs1.trans hs2).2 a hia.symm]; exact ho
      · rw [hg2]
        simp [rawInt, iterObj]
      · rw [List.length_map, Array.length_toList]; omega
    · have he : es[i]? = none := by simp; omega
      rw [he]
      dsimp only
      exact ending _ s rfl hI (fun b o _ e => e) (by cases s; rfl) (by omega)
  | @drawn ps hp hex =>
    obtain ⟨ot, nt, hot, hdt⟩ := hex
    dsimp only
    refine wpAny_bind (wpAny_seqItems hot hdt ?_)
    dsimp only
    have hps : ps.length = es.size := by have := hp.length_eq; simpa using this
    simp only [Int.toNat_natCast]
    have hne : tup ≠ I := by
      rintro rfl
      rw [hI] at hot
      injection hot with hot
      rw [← hot] at hdt
      cases hdt
    by_cases hlt : i < ps.length
    · have he : ((ps.map fun p : Nat => rawInt (p : Int)).toArray)[i]? = some (rawInt (ps[i] : Int)) := by simp [hlt]
      rw [he]
      show wpAny _ _ (do
        let x ← setNextDrawn a (Int.toNat (ps[i] : Int)) ep
        setField (.ref I) 1 (rawInt (↑i + 1))
        ret x) _ _ s
      unfold setNextDrawn
      refine wpAny_bind (wpAny_bind (wpAny_setState_of ho hd ht.fits ?_))
      dsimp only
      rw [if_neg (by simp)]
      have hpi : ps[i] < es.size := by
        have := hp.mem_iff.mp (List.getElem_mem hlt)
        rwa [List.mem_range] at this
      have hee : es[(Int.toNat (ps[i] : Int))]? = some es[ps[i]] := by rw [Int.toNat_natCast]; simp [hpi]
      rw [hee]
      refine wpAny_pure ?_
      refine wpAny_bind (fields3 _ rfl s 1 _ _ _ (by omega) hI fun h1 hg1 hs1 => ?_)
      refine wpAny_pure ⟨_, rfl, wpAny_pure (hitem es[ps[i]].2 h1 ?_ ⟨⟨o, es, ep, t, _, ?_, hd, ht, hled, .drawn hp ⟨ot, nt, ?_, hdt⟩, hg1⟩, hia, ?_⟩ hs1)⟩
      · rw [List.getElem?_map, List.getElem?_eq_getElem hlt]
        simp [Array.getD, hpi]
      · rw [hs1.2 a hia.symm]; exact ho
      · rw [hs1.2 tup hne]; exact hot
      · rw [List.length_map]; omega
    · have he : ((ps.map fun p : Nat => rawInt (p : Int)).toArray)[i]? = none := by simp; omega
      rw [he]
      dsimp only
      refine wpAny_bind (fields3 _ rfl s 0 _ _ _ (by omega) hI fun h1 hg1 hs1 => ?_)
      refine ending _ _ ?_ hg1 (fun b o hb e => hs1.extBut b o hb e) rfl (by omega)
      simp

theorem SIter.frame {a I tup : Addr} {vs : List Value} {i : Nat} {h h' : Heap} (x : SIter w a I tup vs i h) (hk : ∀ b ∈ [I, a, tup], ∀ o, h.get? b = some o → h'.get? b = some o) : SIter w a I tup vs i h' := by
  obtain ⟨⟨o, es, ep, t, f, ho, hd, ht, hled, hway, hI⟩, hne, hle⟩ := x
  refine ⟨⟨o, es, ep, t, f, hk a (by simp) o ho, hd, ht, hled, ?_, hk I (by simp) _ hI⟩, hne, hle⟩
  cases hway with
  | byText q => exact .byText q
  | plain q r => exact .plain q r
  | drawn hp ho => obtain ⟨o, n, e, hd⟩ := ho; exact .drawn hp ⟨o, n, hk tup (by simp) o e, hd⟩

theorem SIter.walks {a I tup : Addr} {vs : List Value} (hh : A.handled = none) :
    Walks prog w A I [I, a, tup] [I] vs.length (fun i v => vs[i]? = some v) (fun i h => SIter w a I tup vs i h) where
  sub := fun b hb => by simp at hb; simp [hb]
  frame := fun i h h' st hk => st.frame hk
  item := fun i s Q E hi st hQ => by
    refine st.next hh (fun v h' hv st' hs' => hQ v h' s.toks hv st' fun b o hb e => hs'.extBut b o (fun q => hb (by simp [q])) e) fun h' hl hk => ?_
    omega
  done := fun s Q E st hQ => by
    refine st.next hh (fun v h' hv st' hs' => ?_) fun h' hl hk => hQ h' s.toks fun b o hb e => hk b o (fun q => hb (by simp [q])) e
    simp at hv
  self := fun i s Q E st hQ => by
    refine wpAny_pyIter_slot st.typeIs slot_setiter_iter (wpAny_call_entry slot_setiter_iter st.typeIs entry_setiter_iter ?_ (args_setiter_iter _))
    show wpAny _ _ (ret (.ref I)) _ _ s
    exact wpAny_pure ⟨_, rfl, "set_iterator", _, st.typeIs, slot_setiter_next.lookup, hQ⟩

theorem setDrawn_eq (a : Addr) : setDrawn a = (do
    let (es, _, t) ← setState a
    let byText ← setsByText
    return !byText && (!t.plain && es.size > 1)) := rfl

theorem pyIter_set {a : Addr} {es : Array (Int × Value)} {t : SetTable} {Q : Value → Shared → Prop} (x : SetAt s.heap a es t) (ht : TabOk t es.size) (hl : LedOk w t) (hz : es.size ≤ 4096)
    (h : ∀ I tup vs h' d, s.heap.objs.size ≤ I → I < h'.objs.size → tup < h'.objs.size → (tup = a ∨ s.heap.objs.size ≤ tup) → a < h'.objs.size → SIter w a I tup vs 0 h' → vs.Perm (es.toList.map (·.2)) → (∀ b o, s.heap.get? b = some o → h'.get? b = some o) → Q (.ref I) { s with heap := h', drawn := d }) :
    wpAny (model prog w) A (pyIter (.ref a)) Q E s := by
  have hT := x.typeIs
  obtain ⟨o, ep, ho, hx, hd⟩ := id x
  have hlt := Heap.lt_size ho
  refine wpAny_pyIter_slot hT F.slot_set_iter (wpAny_call_entry F.slot_set_iter hT entry_set_iter ?_ (F.args_set_iter_1 _))
  unfold Builtin.«frozenset.__iter__» Builtin.Frozenset.slot0 slotArgs
  simp only [List.isEmpty_nil, Bool.not_true, Bool.false_eq_true, ↓reduceIte, bind_assoc, List.length_nil, bne_self_eq_false]
  unfold Builtin.Frozenset.addrOf Builtin.Frozenset.sizeOf
  refine wpAny_bind (wpAny_pure ?_)
  try dsimp only
  refine wpAny_bind (wpAny_pure ?_)
  refine wpAny_bind (wpAny_bind (setEntries_at x ht (wpAny_pure ?_)))
  rw [setDrawn_eq]
  refine wpAny_bind (wpAny_bind (setState_at x ht fun _ => ?_))
  dsimp only
  refine wpAny_bind (setsByText_is (wpAny_pure ?_))
  -- the iterator made
  have fin : ∀ (first : Value) (tup : Addr) (f : Nat → Value) (vs : List Value) (s1 : Shared), f 0 = first → (∀ b o, s.heap.get? b = some o → s1.heap.get? b = some o) → s.heap.objs.size ≤ s1.heap.objs.size →
      (s1 = { s with heap := s1.heap, drawn := s1.drawn }) → Way w a es ep t tup (s1.heap.push (iterObj #[first, .int 0 0, .ref a, .int es.size 0, .int ep 0])) f vs → tup < s1.heap.objs.size + 1 → (tup = a ∨ s.heap.objs.size ≤ tup) →
      wpAny (model prog w) A.in1 (do
        let e ← setEpoch a
        let r ← newFields "set_iterator" [first, rawInt 0, .ref a, rawInt (es.size : Int), rawInt (e : Int)]
        ret r) (fun fin s' => ∃ v, fin = Fin.done (Flow.ret v) ∧ ∃ T' r, s'.TypeIs v T' ∧ typeLookup (Value.type T') (Str.ofString "__next__") = pure (some r) ∧ Q v s') E s1 := by
    intro first tup f vs s1 hf hk hsz hs1 hway htl htor
    refine wpAny_bind (wpAny_setEpoch_of (hk a o ho) hd ht.fits ?_)
    refine wpAny_bind (wpAny_newObj_type ?_ (by size_fits))
    refine wpAny_pure ⟨_, rfl, "set_iterator", _, ⟨_, Heap.get?_push_size _ rfl, rfl⟩, slot_setiter_next.lookup, ?_⟩
    have hne : s1.heap.objs.size ≠ a := Nat.ne_of_gt (Heap.lt_size (hk a o ho))
    have hlen : vs.length = es.size := by have := hway.perm.length_eq; simpa using this
    have := h s1.heap.objs.size tup vs (s1.heap.push (iterObj #[first, .int 0 0, .ref a, .int es.size 0, .int ep 0])) s1.drawn hsz (by rw [Heap.size_push]; exact Nat.lt_succ_self _) (by rw [Heap.size_push]; exact htl) htor
      (by rw [Heap.size_push]; exact Nat.lt_succ_of_lt (Heap.lt_size (hk a o ho)))
      ⟨⟨o, es, ep, t, f, Heap.get?_push_of_some _ (hk a o ho), hd, ht, hl, hway, by rw [hf]; exact Heap.get?_push_size _ rfl⟩, hne, Nat.zero_le _⟩ hway.perm (fun b o' e => Heap.get?_push_of_some _ (hk b o' e))
    rw [hs1]
    exact this
  by_cases hb : w.params.followText "set-order" = true
  · rw [hb, if_neg (by simp)]
    refine wpAny_bind (wpAny_pure ?_)
    exact fin (rawInt 0) a (fun _ => .int 0 0) _ s rfl (fun _ _ e => e) (Nat.le_refl _) (by cases s; rfl) (.byText hb) (Nat.lt_succ_of_lt hlt) (.inl rfl)
  · have hb' : w.params.followText "set-order" = false := by simpa using hb
    rw [hb']
    by_cases hdr : (!t.plain && decide (es.size > 1)) = true
    · rw [if_pos (by rw [hdr]; rfl)]
      refine wpAny_bind (drawOrder_perm _ _ _ (by simp) fun ps d hp => ?_)
      refine wpAny_bind (wpAny_newObj_type ?_ ?_)
      · have hpsz : (s.heap.push { cls := .type "tuple", data := .seq (ps.map fun i : Nat => rawInt (i : Int)).toArray }).objs.size = s.heap.objs.size + 1 := Heap.size_push _ _
        refine fin (.ref s.heap.objs.size) s.heap.objs.size (fun _ => .ref s.heap.objs.size) _ { s with heap := s.heap.push { cls := .type "tuple", data := .seq (ps.map fun i : Nat => rawInt (i : Int)).toArray }, drawn := d } rfl (fun b o e => Heap.get?_push_of_some _ e) (by show _ ≤ (s.heap.push _).objs.size; rw [hpsz]; omega) rfl
          (.drawn hp ⟨_, _, Heap.get?_push_of_some _ (Heap.get?_push_size _ rfl), rfl⟩) (by show _ < (s.heap.push _).objs.size + 1; rw [hpsz]; omega) (.inr (Nat.le_refl _))
      · have := hp.length_eq
        rw [List.length_range] at this
        show ((ps.map fun i : Nat => rawInt (i : Int)).toArray).size ≤ sizeLine
        rw [List.size_toArray, List.length_map, this, sizeLine_eq]; omega
    · rw [if_neg (by simpa using hdr)]
      refine wpAny_bind (wpAny_pure ?_)
      exact fin (rawInt 0) a (fun i => .int (if i = 0 then 0 else (t.place.getD (i - 1) 0 + 1 : Nat)) 0) _ s rfl (fun _ _ e => e) (Nat.le_refl _) (by cases s; rfl) (.plain hb' (by simpa using hdr)) (Nat.lt_succ_of_lt hlt) (.inl rfl)
end
end Mine

end PartJ2i
section PartJ3a
open PySem PySem.W PyProof.Rows
set_option maxRecDepth 100000
set_option maxHeartbeats 1000000
namespace Mine

/-! the library's tree of questions sorts -/
def kp {α : Type} (N : Nat) (c : Nat → Nat → Bool) : KasT α → (α → Prop) → Prop
  | .ret a, Q => Q a
  | .ask i j k, Q => i < N ∧ j < N ∧ kp N c (k (c i j)) Q
theorem kp_bind {α β : Type} {N : Nat} {c : Nat → Nat → Bool} {f : α → KasT β} {Q : β → Prop} : ∀ (t : KasT α), kp N c t (fun a => kp N c (f a) Q) → kp N c (t.bind f) Q
  | .ret _, h => h
  | .ask i j k, h => ⟨h.1, h.2.1, kp_bind (k (c i j)) h.2.2⟩
theorem kp_mono {α : Type} {N : Nat} {c : Nat → Nat → Bool} {Q Q' : α → Prop} (hq : ∀ a, Q a → Q' a) : ∀ (t : KasT α), kp N c t Q → kp N c t Q'
  | .ret _, h => hq _ h
  | .ask i j k, h => ⟨h.1, h.2.1, kp_mono hq (k (c i j)) h.2.2⟩
theorem kp_wp {α : Type} {N : Nat} {c : Nat → Nat → Bool} {Q : α → Prop} {cmp : Nat → Nat → (Bool → Shared → Prop) → Shared → Prop} {s : Shared} (hc : ∀ i j C, i < N → j < N → C (c i j) s → cmp i j C s) :
    ∀ (t : KasT α), kp N c t Q → t.kasWp cmp (fun a s' => s' = s ∧ Q a) s
  | .ret _, h => ⟨rfl, h⟩
  | .ask i j k, h => hc i j _ h.1 h.2.1 (kp_wp hc (k (c i j)) h.2.2)

section
variable {N : Nat} {f : Nat → Int}
def PermN (N : Nat) (p : Array Nat) : Prop := p.toList.Perm (List.range N)
def Kf (f : Nat → Int) (p : Array Nat) (i : Nat) : Int := f (p.getD i 0)
def SortedTo' (f : Nat → Int) (p : Array Nat) (k : Nat) : Prop := ∀ i j, i ≤ j → j < k → Kf f p i ≤ Kf f p j
def NonInc' (f : Nat → Int) (p : Array Nat) (k : Nat) : Prop := ∀ i j, i ≤ j → j < k → Kf f p j ≤ Kf f p i
def cf (f : Nat → Int) (i j : Nat) : Bool := decide (f i < f j)

theorem PermN.size {p : Array Nat} (h : PermN N p) : p.size = N := by
  have := h.length_eq; rwa [Array.length_toList, List.length_range] at this
theorem PermN.lt {p : Array Nat} (h : PermN N p) (hN : 0 < N) (i : Nat) : p.getD i 0 < N := by
  by_cases hi : i < p.size
  · have e : p.getD i 0 = p[i] := by simp [Array.getD, hi]
    rw [e]
    exact List.mem_range.mp (h.mem_iff.mp (Array.mem_toList_iff.mpr (Array.getElem_mem hi)))
  · have e : p.getD i 0 = 0 := by simp [Array.getD, hi]
    rw [e]; exact hN
theorem Kf_congr {p q : Array Nat} {i j : Nat} (h : p[i]? = q[j]?) : Kf f p i = Kf f q j := by
  unfold Kf
  have e : ∀ (a : Array Nat) (i : Nat), a.getD i 0 = (a[i]?).getD 0 := fun a i => by by_cases q : i < a.size <;> simp [Array.getD, q]
  rw [e, e, h]
theorem Kf_rev {p : Array Nat} {i j : Nat} (hj : j ≤ p.size) (k : Nat) : Kf f (kas_rev p i j) k = if i ≤ k ∧ k < j then Kf f p (i + j - 1 - k) else Kf f p k := by
  have e := getElem?_mirror_all (xs := p) (i := i) hj k
  unfold kas_rev
  by_cases h : i ≤ k ∧ k < j
  · rw [if_pos h] at e ⊢; exact Kf_congr e
  · rw [if_neg h] at e ⊢; exact Kf_congr e
theorem Kf_bubble {p : Array Nat} {src d : Nat} (hs : src < p.size) (hd : d ≤ src) (k : Nat) :
    Kf f (bubble p src d) k = if k = src - d then Kf f p src else if src - d < k ∧ k ≤ src then Kf f p (k - 1) else Kf f p k := by
  have e := getElem?_bubble hs d hd k
  by_cases h1 : k = src - d
  · rw [if_pos h1] at e ⊢; exact Kf_congr e
  · rw [if_neg h1] at e ⊢
    by_cases h2 : src - d < k ∧ k ≤ src
    · rw [if_pos h2] at e ⊢; exact Kf_congr e
    · rw [if_neg h2] at e ⊢; exact Kf_congr e
theorem PermN.rev {p : Array Nat} (h : PermN N p) (i j : Nat) : PermN N (kas_rev p i j) := (Array.perm_iff_toList_perm.mp (mirror_perm p i j _)).trans h
theorem PermN.bub {p : Array Nat} (h : PermN N p) (i j : Nat) : PermN N (bubble p i j) := (Array.perm_iff_toList_perm.mp (bubble_perm p i j)).trans h
theorem Kf_rev_equal {p : Array Nat} {i j : Nat} (hj : j ≤ p.size) (heq : ∀ k, i ≤ k → k < j → Kf f p k = Kf f p (j - 1)) (k : Nat) : Kf f (kas_rev p i j) k = Kf f p k := by
  rw [Kf_rev hj]
  split
  · rename_i h
    rw [heq _ (by omega) (by omega), heq k h.1 h.2]
  · rfl
theorem cf_iff {p : Array Nat} {i j : Nat} : cf f (p.getD i 0) (p.getD j 0) = true ↔ Kf f p i < Kf f p j := by
  unfold cf Kf; rw [decide_eq_true_eq]

theorem asc_kp {p : Array Nat} (hp : PermN N p) : ∀ (fuel m : Nat), 1 ≤ m → m + fuel ≤ N → SortedTo' f p m →
    kp N (cf f) (kas_asc p fuel m) (fun m' => m ≤ m' ∧ m' ≤ m + fuel ∧ SortedTo' f p m' ∧ (m' = m + fuel ∨ Kf f p m' < Kf f p (m' - 1))) := by
  intro fuel
  induction fuel with
  | zero => intro m h1 h2 hs; exact ⟨Nat.le_refl _, Nat.le_refl _, hs, .inl rfl⟩
  | succ fuel ih =>
    intro m h1 h2 hs
    refine ⟨hp.lt (by omega) _, hp.lt (by omega) _, ?_⟩
    cases hc : cf f (p.getD m 0) (p.getD (m - 1) 0) with
    | true =>
      simp only [if_true]
      exact ⟨Nat.le_refl _, by omega, hs, .inr (cf_iff.mp hc)⟩
    | false =>
      simp only [Bool.false_eq_true, if_false]
      have hc' : Kf f p (m - 1) ≤ Kf f p m := by
        have : ¬ Kf f p m < Kf f p (m - 1) := fun q => by rw [cf_iff.mpr q] at hc; cases hc
        omega
      refine kp_mono (fun m' hm => ?_) _ (ih (m + 1) (by omega) (by omega) (fun i j hij hj => ?_))
      · exact ⟨by omega, by omega, hm.2.2.1, hm.2.2.2.imp (fun e => by omega) id⟩
      · by_cases hjm : j < m
        · exact hs i j hij hjm
        · have : j = m := by omega
          subst this
          by_cases hi : i = j
          · subst hi; exact Int.le_refl _
          · exact Int.le_trans (hs i (j - 1) (by omega) (by omega)) hc'

theorem tail3_kp {p : Array Nat} {n nrem : Nat} (hp : PermN N p) (h1 : 1 ≤ n) (hn : n ≤ nrem) (hN : nrem ≤ N) (hs : NonInc' f p n) :
    kp N (cf f) (kas_tail3 n nrem p) (fun r => 1 ≤ r.1 ∧ r.1 ≤ nrem ∧ PermN N r.2 ∧ SortedTo' f r.2 r.1) := by
  unfold kas_tail3
  have hp' := hp.rev 0 n
  have hsz := hp.size
  refine kp_bind _ (kp_mono (fun m hm => ?_) _ (asc_kp (f := f) hp' (nrem - n) n h1 (by omega) (fun i j hij hj => ?_)))
  · exact ⟨by omega, by omega, hp', hm.2.2.1⟩
  · rw [Kf_rev (by omega), Kf_rev (by omega), if_pos (by omega), if_pos (by omega)]
    exact hs _ _ (by omega) (by omega)

theorem desc_kp : ∀ (fuel m q : Nat) (p : Array Nat), PermN N p → m + fuel ≤ N → NonInc' f p m → q + 1 ≤ m → (∀ i, m - (q + 1) ≤ i → i < m → Kf f p i = Kf f p (m - 1)) →
    kp N (cf f) (kas_desc fuel p m q) (fun r => PermN N r.1 ∧ m ≤ r.2.1 ∧ r.2.1 ≤ m + fuel ∧ NonInc' f r.1 r.2.1 ∧ r.2.2 + 1 ≤ r.2.1 ∧ (∀ i, r.2.1 - (r.2.2 + 1) ≤ i → i < r.2.1 → Kf f r.1 i = Kf f r.1 (r.2.1 - 1))) := by
  intro fuel
  induction fuel with
  | zero => intro m q p hp h2 hs hq he; exact ⟨hp, Nat.le_refl _, Nat.le_refl _, hs, hq, he⟩
  | succ fuel ih =>
    intro m q p hp h2 hs hq he
    have hsz := hp.size
    refine ⟨hp.lt (by omega) _, hp.lt (by omega) _, ?_⟩
    cases hc : cf f (p.getD m 0) (p.getD (m - 1) 0) with
    | true =>
      simp only [if_true]
      have hlt := cf_iff.mp hc
      have step1 : ∀ xs : Array Nat, (∀ k, Kf f xs k = Kf f p k) → NonInc' f xs (m + 1) := by
        intro xs hk i j hij hj
        rw [hk, hk]
        by_cases hjx : j < m
        · exact hs i j hij hjx
        · have : j = m := by omega
          subst this
          by_cases hi : i = j
          · subst hi; exact Int.le_refl _
          · exact Int.le_trans (Int.le_of_lt hlt) (hs i (j - 1) (by omega) (by omega))
      by_cases hq0 : q > 0
      · rw [if_pos hq0]
        refine kp_mono (fun r hr => ?_) _ (ih (m + 1) 0 _ (hp.rev _ _) (by omega) (step1 _ (Kf_rev_equal (by omega) he)) (by omega) (fun i h1 h2 => by congr 1; omega))
        exact ⟨hr.1, by omega, by omega, hr.2.2.2⟩
      · rw [if_neg hq0]
        refine kp_mono (fun r hr => ?_) _ (ih (m + 1) 0 _ hp (by omega) (step1 _ fun _ => rfl) (by omega) (fun i h1 h2 => by congr 1; omega))
        exact ⟨hr.1, by omega, by omega, hr.2.2.2⟩
    | false =>
      simp only [Bool.false_eq_true, if_false]
      refine ⟨hp.lt (by omega) _, hp.lt (by omega) _, ?_⟩
      cases hd : cf f (p.getD (m - 1) 0) (p.getD m 0) with
      | true =>
        simp only [if_true]
        exact ⟨hp, Nat.le_refl _, Nat.le_add_right _ _, hs, hq, he⟩
      | false =>
        simp only [Bool.false_eq_true, if_false]
        have a1 : ¬ Kf f p m < Kf f p (m - 1) := fun q => by rw [cf_iff.mpr q] at hc; cases hc
        have a2 : ¬ Kf f p (m - 1) < Kf f p m := fun q => by rw [cf_iff.mpr q] at hd; cases hd
        have heq : Kf f p m = Kf f p (m - 1) := by omega
        refine kp_mono (fun r hr => ?_) _ (ih (m + 1) (q + 1) p hp (by omega) (fun i j hij hj => ?_) (by omega) (fun i h1 h2 => ?_))
        · exact ⟨hr.1, by omega, by omega, hr.2.2.2⟩
        · by_cases hjx : j < m
          · exact hs i j hij hjx
          · have : j = m := by omega
            subst this
            by_cases hi : i = j
            · subst hi; exact Int.le_refl _
            · rw [heq]; exact hs i (j - 1) (by omega) (by omega)
        · rw [show m + 1 - 1 = m by omega]
          by_cases hi : i = m
          · subst hi; rfl
          · rw [heq]; exact he i (by omega) (by omega)

theorem descPart_kp {p : Array Nat} {n nrem : Nat} (hp : PermN N p) (hn : n + 1 ≤ nrem) (hN : nrem ≤ N) (hs : NonInc' f p (n + 1)) :
    kp N (cf f) (kas_descPart n nrem p) (fun r => 1 ≤ r.1 ∧ r.1 ≤ nrem ∧ PermN N r.2 ∧ SortedTo' f r.2 r.1) := by
  unfold kas_descPart
  refine kp_bind _ (kp_mono (fun r hr => ?_) _ (desc_kp (f := f) (nrem - (n + 1)) (n + 1) 0 p hp (by omega) hs (by omega) (fun i h1 h2 => by congr 1; omega)))
  obtain ⟨h1, h2, h3, h4, h5, h6⟩ := hr
  have hsz := h1.size
  by_cases hq : r.2.2 > 0
  · rw [if_pos hq]
    refine tail3_kp (h1.rev _ _) (by omega) (by omega) hN (fun i j hij hj => ?_)
    rw [Kf_rev_equal (by omega) h6, Kf_rev_equal (by omega) h6]
    exact h4 i j hij hj
  · rw [if_neg hq]
    exact tail3_kp h1 (by omega) (by omega) hN h4

theorem count_kp {p : Array Nat} {nrem : Nat} (hp : PermN N p) (h1 : 1 ≤ nrem) (hN : nrem ≤ N) :
    kp N (cf f) (kas_count nrem p) (fun r => 1 ≤ r.1 ∧ r.1 ≤ nrem ∧ PermN N r.2 ∧ SortedTo' f r.2 r.1) := by
  unfold kas_count
  have hsz := hp.size
  refine kp_bind _ (kp_mono (fun n hn => ?_) _ (asc_kp (f := f) hp (nrem - 1) 1 (Nat.le_refl _) (by omega) (fun i j hij hj => by have : i = j := (by omega); subst this; exact Int.le_refl _)))
  obtain ⟨a1, a2, a3, a4⟩ := hn
  by_cases hnn : n = nrem
  · rw [if_pos (by simpa using hnn)]
    exact ⟨a1, by omega, hp, a3⟩
  · rw [if_neg (by simpa using hnn)]
    have hlt : Kf f p n < Kf f p (n - 1) := a4.resolve_left (by omega)
    by_cases hgt : n > 1
    · rw [if_pos hgt]
      refine ⟨hp.lt (by omega) _, hp.lt (by omega) _, ?_⟩
      cases hc : cf f (p.getD 0 0) (p.getD (n - 1) 0) with
      | true =>
        simp only [if_true]
        exact ⟨a1, by omega, hp, a3⟩
      | false =>
        simp only [Bool.false_eq_true, if_false]
        have hno : ¬ Kf f p 0 < Kf f p (n - 1) := fun q => by rw [cf_iff.mpr q] at hc; cases hc
        have hall : ∀ k, 0 ≤ k → k < n → Kf f p k = Kf f p (n - 1) := by
          intro k _ hk
          have b1 := a3 0 k (by omega) hk
          have b2 := a3 k (n - 1) (by omega) (by omega)
          omega
        refine descPart_kp (hp.rev _ _) (by omega) hN (fun i j hij hj => ?_)
        rw [Kf_rev_equal (by omega) hall, Kf_rev_equal (by omega) hall]
        by_cases hjn : j < n
        · rw [hall i (by omega) (by omega), hall j (by omega) hjn]; exact Int.le_refl _
        · have : j = n := by omega
          subst this
          by_cases hi : i = j
          · subst hi; exact Int.le_refl _
          · rw [hall i (by omega) (by omega)]; exact Int.le_of_lt hlt
    · rw [if_neg hgt]
      have : n = 1 := by omega
      subst this
      refine descPart_kp hp (by omega) hN (fun i j hij hj => ?_)
      by_cases hi : i = j
      · subst hi; exact Int.le_refl _
      · have hi0 : i = 0 := by omega
        have hj1 : j = 1 := by omega
        subst hi0; subst hj1
        exact Int.le_of_lt hlt

theorem place_kp {p : Array Nat} {k : Nat} (hp : PermN N p) (hk : k < N) (hs : SortedTo' f p k) : ∀ (fuel l r : Nat), l ≤ r → r ≤ k → r - l ≤ fuel → (∀ i, i < l → Kf f p i ≤ Kf f p k) → (∀ i, r ≤ i → i < k → Kf f p k < Kf f p i) →
    kp N (cf f) (kas_place p k fuel l r) (fun l' => l' ≤ k ∧ (∀ i, i < l' → Kf f p i ≤ Kf f p k) ∧ (∀ i, l' ≤ i → i < k → Kf f p k < Kf f p i)) := by
  intro fuel
  induction fuel with
  | zero =>
    intro l r h1 h2 h3 h4 h5
    have : l = r := by omega
    subst this
    exact ⟨h2, h4, h5⟩
  | succ fuel ih =>
    intro l r h1 h2 h3 h4 h5
    unfold kas_place
    by_cases hlr : l ≥ r
    · rw [if_pos hlr]
      have : l = r := by omega
      subst this
      exact ⟨h2, h4, h5⟩
    · rw [if_neg hlr]
      refine ⟨hp.lt (by omega) _, hp.lt (by omega) _, ?_⟩
      cases hc : cf f (p.getD k 0) (p.getD ((l + r) / 2) 0) with
      | true =>
        simp only [if_true]
        have hlt := cf_iff.mp hc
        refine ih l ((l + r) / 2) (by omega) (by omega) (by omega) h4 (fun i hi hik => ?_)
        exact Int.lt_of_lt_of_le hlt (hs _ _ hi hik)
      | false =>
        simp only [Bool.false_eq_true, if_false]
        have hno : ¬ Kf f p k < Kf f p ((l + r) / 2) := fun q => by rw [cf_iff.mpr q] at hc; cases hc
        refine ih ((l + r) / 2 + 1) r (by omega) h2 (by omega) (fun i hi => ?_) h5
        exact Int.le_trans (hs i ((l + r) / 2) (by omega) (by omega)) (by omega)

theorem bin_kp : ∀ (fuel k : Nat) (p : Array Nat), PermN N p → k + fuel = N → SortedTo' f p k →
    kp N (cf f) (kas_bin fuel p k) (fun p' => PermN N p' ∧ SortedTo' f p' N) := by
  intro fuel
  induction fuel with
  | zero => intro k p hp hk hs; exact ⟨hp, by rw [← hk]; exact hs⟩
  | succ fuel ih =>
    intro k p hp hk hs
    unfold kas_bin
    have hsz := hp.size
    refine kp_bind _ (kp_mono (fun l hl => ?_) _ (place_kp hp (by omega) hs k 0 k (Nat.zero_le _) (Nat.le_refl _) (by omega) (fun i hi => absurd hi (Nat.not_lt_zero _)) (fun i h1 h2 => by omega)))
    obtain ⟨a1, a2, a3⟩ := hl
    refine ih (k + 1) _ (hp.bub _ _) (by omega) (fun i j hij hj => ?_)
    have hkl : k - (k - l) = l := by omega
    rw [Kf_bubble (by omega) (by omega), Kf_bubble (by omega) (by omega), hkl]
    by_cases i1 : i = l
    · rw [if_pos i1]
      by_cases j1 : j = l
      · rw [if_pos j1]; exact Int.le_refl _
      · rw [if_neg j1, if_pos (by omega)]
        exact Int.le_of_lt (a3 (j - 1) (by omega) (by omega))
    · rw [if_neg i1]
      by_cases i2 : l < i ∧ i ≤ k
      · rw [if_pos i2, if_neg (by omega), if_pos (by omega)]
        exact hs _ _ (by omega) (by omega)
      · rw [if_neg i2]
        by_cases j1 : j = l
        · rw [if_pos j1]; exact a2 i (by omega)
        · rw [if_neg j1]
          by_cases j2 : l < j ∧ j ≤ k
          · rw [if_pos j2]; exact hs _ _ (by omega) (by omega)
          · rw [if_neg j2]; exact hs _ _ hij (by omega)

theorem sort_kp (h2 : 2 ≤ N) : kp N (cf f) (kas_sort N) (fun p' => PermN N p' ∧ SortedTo' f p' N) := by
  unfold kas_sort
  have hp : PermN N (List.toArray (List.range N)) := List.Perm.refl _
  refine kp_bind _ (kp_mono (fun r hr => ?_) _ (count_kp (f := f) hp (by omega) (Nat.le_refl _)))
  obtain ⟨h1, h3, h4, h5⟩ := hr
  by_cases hlt : r.1 < N
  · rw [if_pos hlt]
    have hm : max r.1 1 = r.1 := by omega
    rw [hm]
    exact bin_kp (N - r.1) r.1 r.2 h4 (by omega) h5
  · rw [if_neg hlt]
    have : r.1 = N := by omega
    rw [this] at h5
    exact ⟨h4, h5⟩
end
end Mine

end PartJ3a
section PartJ3b
open PySem PySem.W PyProof.Rows
set_option maxRecDepth 100000
set_option maxHeartbeats 1000000
namespace Mine

/-! sorting nodes and ints -/
theorem nvs_ints {C : Nds} (hk : C.kd = true) {js : List Nat} {vs : List Value} (h : NVs C js vs) : IntsAre vs (js.map fun j : Nat => (j : Int)) := by
  induction h with
  | nil => exact .nil
  | cons a _ ih => obtain ⟨t, rfl⟩ := a.1 hk; exact .cons _ t ih
theorem ints_nvs {C : Nds} (hk : C.kd = true) : ∀ {js : List Nat} {vs : List Value}, IntsAre vs (js.map fun j : Nat => (j : Int)) → NVs C js vs
  | [], _, .nil => .nil
  | j :: js, _, .cons _ t h => .cons ⟨fun _ => ⟨t, rfl⟩, fun e => absurd (hk.symm.trans e) (by decide)⟩ (ints_nvs hk h)

theorem perm_cast {ns : List Int} {js : List Nat} (h : ns.Perm (js.map fun j : Nat => (j : Int))) : ∃ js' : List Nat, ns = js'.map (fun j : Nat => (j : Int)) ∧ js'.Perm js := by
  refine ⟨ns.map Int.toNat, ?_, ?_⟩
  · rw [List.map_map]
    refine (List.map_id ns).symm.trans (List.map_congr_left fun x hx => ?_)
    obtain ⟨j, _, rfl⟩ := List.mem_map.mp (h.mem_iff.mp hx)
    simp
  · have := h.map Int.toNat
    rw [List.map_map] at this
    have e : (Int.toNat ∘ fun j : Nat => (j : Int)) = id := by funext j; simp
    rw [e, List.map_id] at this
    exact this

theorem tup_items {prog : Program} {w : World} {h : Heap} {i : Nat} {a : Addr} (x : IsTupleKey (mixKind prog w) h (tkey i) a) :
    ∃ o items n t u, h.get? a = some o ∧ o.cls = .type "tuple" ∧ o.data = .seq items n ∧ items.toList = [.int (i : Int) t, .str (Str.ofString "n") u] := by
  obtain ⟨o, items, n, ho, hc, hd, hi⟩ := x
  unfold tkey at hi
  generalize hl : items.toList = l at hi
  cases hi with
  | cons h1 r =>
    cases r with
    | cons h2 r2 =>
      cases r2 with
      | nil =>
        obtain ⟨t, rfl⟩ := Value.isInt_shape (show Value.isInt (i : Int) _ = true from h1)
        obtain ⟨u, rfl⟩ := Value.isStrOf_shape (show Value.isStrOf (Str.ofString "n") _ = true from h2)
        exact ⟨o, items, n, t, u, ho, hc, hd, hl⟩

section
variable {prog : Program} {w : World} {A : Around} {E : Value → Shared → Prop} {s : Shared}

theorem nodes_lt {i j : Nat} {a b : Addr} {Q : Bool → Shared → Prop} (ha : IsTupleKey (mixKind prog w) s.heap (tkey i) a) (hb : IsTupleKey (mixKind prog w) s.heap (tkey j) b) (h : Q (decide ((i : Int) < (j : Int))) s) :
    wpAny (model prog w) A (keyLt' (tuples' true) (.ref a) (.ref b)) Q E s := by
  obtain ⟨o, items, n, t, u, ho, _, hd, hi⟩ := tup_items ha
  obtain ⟨o', items', n', t', u', ho', _, hd', hi'⟩ := tup_items hb
  refine kat_lt ho hd ho' hd' ?_
  rw [hi, hi']
  refine kat_cons (wpAny_eqBool_int ?_)
  by_cases hij : i = j
  · subst hij
    rw [show ((i : Int) == (i : Int)) = true by simp]
    refine kat_yes (kat_cons (wpAny_eqBool_str ?_))
    rw [decide_eq_true rfl]
    refine kat_yes (kat_nil ?_)
    have e1 : items.size = 2 := by have := congrArg List.length hi; simpa using this
    have e2 : items'.size = 2 := by have := congrArg List.length hi'; simpa using this
    rw [e1, e2]
    have : decide ((i : Int) < (i : Int)) = decide (2 < 2) := by simp
    rw [← this]; exact h
  · rw [show ((i : Int) == (j : Int)) = false by simp; omega]
    refine kat_no ?_
    show wpAny _ _ (oneLt' true (.int i t) (.int j t')) _ _ _
    exact oneLt_int h

theorem pairwise_of_sorted {f : Nat → Int} {p : Array Nat} {N : Nat} (hp : PermN N p) (hs : SortedTo' f p N) : (p.toList.map f).Pairwise (· ≤ ·) := by
  rw [List.pairwise_iff_getElem]
  intro i j hi hj hij
  have hsz := hp.size
  have hi' : i < p.size := by simpa using hi
  have hj' : j < p.size := by simpa using hj
  have := hs i j (Nat.le_of_lt hij) (by omega)
  unfold Kf at this
  simpa [Array.getD, hi', hj'] using this

theorem nvs_tups {C : Nds} (hk : C.kd = false) {h : Heap} {js : List Nat} {vs : List Value} (hv : NVs C js vs) (hn : ∀ j ∈ js, NodeOk prog w C h j) : ∃ fs, KatTups h vs fs ∧ fs.length = js.length ∧ ∀ v ∈ fs, ∃ i t, v = .int i t := by
  induction hv with
  | nil => exact ⟨[], KatTups.nil, rfl, fun v hv => by cases hv⟩
  | @cons i v js vs a _ ih =>
    obtain ⟨fs, h1, h2, h3⟩ := ih fun j hj => hn j (List.mem_cons_of_mem _ hj)
    obtain rfl := a.2 hk
    obtain ⟨o, items, n, t, u, ho, hc, hd, hi⟩ := tup_items (hn i (List.mem_cons_self ..) hk)
    refine ⟨.int (i : Int) t :: fs, KatTups.cons ho hc hd ?_ h1, by simp [h2], ?_⟩
    · rw [← Array.getElem?_toList, hi]; rfl
    · intro v hv
      rcases List.mem_cons.mp hv with rfl | hv
      · exact ⟨_, _, rfl⟩
      · exact h3 v hv

theorem nvs_getD {C : Nds} (hk : C.kd = false) {js : List Nat} {vs : List Value} (hv : NVs C js vs) {i : Nat} (hi : i < vs.length) : ∃ j, js[i]? = some j ∧ vs.getD i .none = .ref (C.ad j) := by
  have e : vs[i]? = some vs[i] := List.getElem?_eq_getElem hi
  obtain ⟨j, hj, hn⟩ := hv.at' e
  refine ⟨j, hj, ?_⟩
  rw [List.getD_eq_getElem?_getD, e]
  exact hn.2 hk

theorem nvs_pick {C : Nds} {js : List Nat} {vs : List Value} (hv : NVs C js vs) : ∀ (p : List Nat), (∀ i ∈ p, i < vs.length) → NVs C (p.map fun i => js.getD i 0) (p.map fun i => vs.getD i Value.none)
  | [], _ => .nil
  | i :: p, hp => by
    refine .cons ?_ (nvs_pick hv p fun k hk => hp k (List.mem_cons_of_mem _ hk))
    have hi := hp i (List.mem_cons_self ..)
    have e : vs[i]? = some vs[i] := List.getElem?_eq_getElem hi
    obtain ⟨j, hj, hn⟩ := hv.at' e
    show NV C (js.getD i 0) (vs.getD i Value.none)
    rw [List.getD_eq_getElem?_getD, List.getD_eq_getElem?_getD, e, hj]
    exact hn
theorem pick_perm {α : Type} (js : List α) (d : α) {p : List Nat} (hp : p.Perm (List.range js.length)) : (p.map fun i => js.getD i d).Perm js := by
  refine (hp.map _).trans ?_
  have e : (List.range js.length).map (fun i => js.getD i d) = js := by
    apply List.ext_getElem
    · simp
    · intro i h1 h2
      simp [List.getD_eq_getElem?_getD, h2]
  rw [e]

/-- a list of nodes is sorted -/
theorem list_sort_nodes {C : Nds} {a : Addr} {js : List Nat} {vs : List Value} {n : Nat} {P : PySem.Fin → Shared → Prop} (ho : s.heap.get? a = some (seqObj "list" vs.toArray n))
    (hv : NVs C js vs) (hn : ∀ j ∈ js, NodeOk prog w C s.heap j) (h64 : vs.length < 64)
    (h : ∀ (out : List Value) (js' : List Nat), NVs C js' out → js'.Perm js → js'.Pairwise (· ≤ ·) → P (.done (.ret .none)) { s with heap := sortedHeap s.heap a vs out.toArray }) :
    wpAny (model prog w) A (Builtin.«list.sort» ⟨[.ref a], []⟩) P E s := by
  cases hk : C.kd with
  | true =>
    refine list_sort_tree ho (nvs_ints hk hv) h64 fun out ns' h1 h2 h3 => ?_
    obtain ⟨js', rfl, hp⟩ := perm_cast h2
    have h3' : js'.Pairwise (· ≤ ·) := by
      rw [List.pairwise_map] at h3
      exact h3.imp fun q => by omega
    have := h out.toList js' (ints_nvs hk h1) hp h3'
    simpa using this
  | false =>
    have hlen := hv.length
    rw [list_sort_plain]
    have ha : a < s.heap.objs.size := Heap.lt_size ho
    refine wpAny_bind (listItems_at ho rfl ?_)
    refine wpAny_bind (listUpdate_at ho rfl ?_ (by rw [List.size_toArray, sizeLine_eq]; omega) (Nat.zero_le _))
    obtain ⟨e1, ho1⟩ : ∃ e1, (s.heap.update a (Obj.mapSeq fun _ => (#[] : Array Value))).get? a = some (seqObj "list" #[] e1) := ⟨_, get?_update_seq ho fun _ => #[]⟩
    refine wpAny_bind (seqEpoch_at ho1 rfl ?_)
    refine wpAny_bind (wpAny_newTuple ?_ (by show vs.length ≤ _; rw [sizeLine_eq]; omega))
    refine wpAny_bind (wpAny_newList ?_ (Nat.zero_le _))
    refine wpAny_holding ?_
    have ho6 : (((s.heap.update a (Obj.mapSeq fun _ => (#[] : Array Value))).push (seqObj "tuple" vs.toArray 0)).push (seqObj "list" #[] 0)).get? a = some (seqObj "list" #[] e1) :=
      Heap.get?_push_of_some _ (Heap.get?_push_of_some _ ho1)
    have hold : ∀ b o, b ≠ a → s.heap.get? b = some o → (((s.heap.update a (Obj.mapSeq fun _ => (#[] : Array Value))).push (seqObj "tuple" vs.toArray 0)).push (seqObj "list" #[] 0)).get? b = some o := fun b o hb e =>
      Heap.get?_push_of_some _ (Heap.get?_push_of_some _ ((Heap.get?_update_other _ _ (Ne.symm hb)).trans e))
    show wpAny (model prog w) A _ P E { s with heap := ((s.heap.update a (Obj.mapSeq fun _ => (#[] : Array Value))).push (seqObj "tuple" vs.toArray 0)).push (seqObj "list" #[] 0) }
    dsimp only
    have hsz : vs.toArray.size = vs.length := by simp
    -- what was read and what is written back
    have fin : ∀ (st' : SortSt) (p : Array Nat) (s' : Shared), s' = { s with heap := ((s.heap.update a (Obj.mapSeq fun _ => (#[] : Array Value))).push (seqObj "tuple" vs.toArray 0)).push (seqObj "list" #[] 0) } →
        PermN vs.length p → SortedTo' (fun i => (js.getD i 0 : Int)) p vs.length → (arrOf st').map (·.2) = List.toArray (p.toList.map fun i => vs.getD i Value.none) → failedOf st' = none →
        wpAny (model prog w) A (do
          let sorted := (arrOf st').map (·.2)
          let touched := (← seqEpoch a) != e1
          Builtin.List.listUpdate (.ref a) fun _ => sorted
          if let some e := failedOf st' then rule "list.sort.comparison-raised"; throw e
          if touched then rule "list.sort.modified"; raiseError "ValueError" "list modified during sort"
          ret .none) P E s' := by
      rintro st' p _ rfl hp hs har hf
      dsimp only
      refine wpAny_bind (seqEpoch_at ho6 rfl ?_)
      rw [har]
      have hpl : p.toList.length = vs.length := by have := hp.length_eq; simpa using this
      refine wpAny_bind (listUpdate_at ho6 rfl ?_ (Nat.zero_le _) (by rw [List.size_toArray, List.length_map, hpl, sizeLine_eq]; omega))
      rw [hf]
      simp only [bne_self_eq_false, Bool.false_eq_true, if_false]
      have hin : ∀ i ∈ p.toList, i < vs.length := fun i hi => List.mem_range.mp (hp.mem_iff.mp hi)
      refine wpAny_pure (h (p.toList.map fun i => vs.getD i Value.none) (p.toList.map fun i => js.getD i 0) (nvs_pick hv _ hin) (pick_perm js 0 (by rw [hlen]; exact hp)) ?_)
      have := pairwise_of_sorted hp hs
      rw [List.pairwise_map] at this ⊢
      exact this.imp fun q => by omega
    by_cases h2 : vs.toArray.size < 2
    · rw [if_pos h2, if_pos h2]
      refine wpAny_bind (wpAny_pure ?_)
      rw [StateT.run_pure]
      refine wpAny_bind (wpAny_pure ?_)
      refine fin (SortSt.mk' general' (vs.toArray.zip vs.toArray) #[] 7 none) (List.toArray (List.range vs.length)) _ rfl (List.Perm.refl _) (fun i j hij hj => ?_) ?_ rfl
      · have : i = j := by omega
        subst this; exact Int.le_refl _
      · show (vs.toArray.zip vs.toArray).map (·.2) = _
        apply Array.toList_inj.mp
        simp only [Array.toList_map, Array.toList_zip, List.map_snd_zip (Nat.le_refl _)]
        show vs = (List.range vs.length).map fun i => vs.getD i Value.none
        apply List.ext_getElem
        · simp
        · intro i h1 h2
          simp [List.getD_eq_getElem?_getD, h1]
    · rw [if_neg h2, if_neg h2]
      have hnn : ∀ j ∈ js, NodeOk prog w C (((s.heap.update a (Obj.mapSeq fun _ => (#[] : Array Value))).push (seqObj "tuple" vs.toArray 0)).push (seqObj "list" #[] 0)) j := by
        intro j hj hkk
        obtain ⟨o, items, n', ho', hc, hd, hi⟩ := hn j hj hkk
        refine ⟨o, items, n', hold _ o ?_ ho', hc, hd, hi⟩
        intro e
        rw [e, ho] at ho'
        injection ho' with ho'
        rw [← ho'] at hc
        injection hc with hc
        exact absurd hc (by decide)
      obtain ⟨fs, hfs, hfl, hfi⟩ := nvs_tups (prog := prog) (w := w) hk hv hnn
      refine wpAny_bind (kat_kind (T := .type "int") hfs (by omega) (fun v hv => ?_) rfl ?_)
      · obtain ⟨i, t, rfl⟩ := hfi v hv
        exact Looks.of_pure rfl
      · refine wpAny_bind (wpAny_mono (kat_run (ks := vs) (Q := fun st' s' => ∃ p : Array Nat, s' = { s with heap := ((s.heap.update a (Obj.mapSeq fun _ => (#[] : Array Value))).push (seqObj "tuple" vs.toArray 0)).push (seqObj "list" #[] 0) } ∧ PermN vs.length p ∧
          SortedTo' (fun i => (js.getD i 0 : Int)) p vs.length ∧ (arrOf st').map (·.2) = List.toArray (p.toList.map fun i => vs.getD i Value.none) ∧ failedOf st' = none)
          (G := fun p s' => s' = { s with heap := ((s.heap.update a (Obj.mapSeq fun _ => (#[] : Array Value))).push (seqObj "tuple" vs.toArray 0)).push (seqObj "list" #[] 0) } ∧ PermN vs.length p ∧ SortedTo' (fun i => (js.getD i 0 : Int)) p vs.length)
          rfl (by omega) h64 (fun p st' s' a1 a2 a3 a4 => ⟨p, a4.1, a4.2.1, a4.2.2, kat_snds rfl a2, a3⟩) ?_) ?_ fun _ _ e => e)
        · refine kp_wp (fun i j Cc hi hj hq => ?_) _ (sort_kp (f := fun i => (js.getD i 0 : Int)) (by omega))
          obtain ⟨ji, hji, hvi⟩ := nvs_getD hk hv hi
          obtain ⟨jj, hjj, hvj⟩ := nvs_getD hk hv hj
          unfold kas_ask
          rw [hvi, hvj]
          refine nodes_lt (hnn ji (List.mem_of_getElem? hji) hk) (hnn jj (List.mem_of_getElem? hjj) hk) ?_
          have ei : js.getD i 0 = ji := by rw [List.getD_eq_getElem?_getD, hji]; rfl
          have ej : js.getD j 0 = jj := by rw [List.getD_eq_getElem?_getD, hjj]; rfl
          have ec : cf (fun i => (js.getD i 0 : Int)) i j = decide ((ji : Int) < (jj : Int)) := by unfold cf; simp only [ei, ej]
          rw [ec] at hq
          exact hq
        · rintro ⟨⟨⟩, st'⟩ s' ⟨p, hs', hp, hs, har, hf⟩
          exact fin st' p s' hs' hp hs har hf
end
end Mine

end PartJ3b
section PartJ3c
open PySem PySem.W PyProof.Rows
set_option maxRecDepth 100000
set_option maxHeartbeats 1000000
namespace Mine

section
variable {prog : Program} {w : World} {A : Around} {E : Value → Shared → Prop} {s : Shared}

/-- all the items of a set -/
theorem collect_set {a : Addr} {es : Array (Int × Value)} {t : SetTable} {Q : List Value → Shared → Prop} (hh : A.handled = none) (x : SetAt s.heap a es t) (ht : TabOk t es.size) (hl : LedOk w t) (hz : es.size ≤ 4096)
    (h : ∀ vs h' tk d, vs.Perm (es.toList.map (·.2)) → (∀ b o, s.heap.get? b = some o → h'.get? b = some o) → s.heap.objs.size ≤ h'.objs.size → Q vs { s with heap := h', toks := tk, drawn := d }) :
    wpAny (model prog w) A (collect (.ref a)) Q E s := by
  unfold collect
  refine wpAny_bind (wpAny_runValue (codeAny_builtin F.entry_proto_collect ?_))
  rw [Around.under_plainId F.plain_proto_collect _]
  show wpAny _ A.in1 (newList [] >>= fun l => again (.builtin "list.__iadd__" ⟨[l, .ref a], []⟩)) _ _ s
  refine wpAny_bind (wpAny_newObj_type ?_)
  refine wpAny_pure ⟨plainId_quiet F.plain_list_iadd _, codeAny_builtin F.entry_list_iadd ?_⟩
  rw [Around.under_plainId F.plain_list_iadd _]
  have hS₁ : (s.heap.push { cls := .type "list", data := .seq ([] : List Value).toArray }).get? s.heap.objs.size = some { cls := .type "list", data := .seq ([] : List Value).toArray } := Heap.get?_push_size _ rfl
  have x₁ : SetAt (s.heap.push { cls := .type "list", data := .seq ([] : List Value).toArray }) a es t := x.at fun o e => Heap.get?_push_of_some _ e
  have hlt : a < s.heap.objs.size := by obtain ⟨o, _, ho, _⟩ := x; exact Heap.lt_size ho
  have hne : s.heap.objs.size ≠ a := Nat.ne_of_gt hlt
  have hsz1 : (s.heap.push { cls := .type "list", data := .seq ([] : List Value).toArray }).objs.size = s.heap.objs.size + 1 := Heap.size_push _ _
  show wpAny _ A.in1 (Builtin.List.listExtendWith (.ref s.heap.objs.size) (.ref a) (.ref s.heap.objs.size)) _ _ _
  unfold Builtin.List.listExtendWith
  refine wpAny_bind (wpAny_typeOf x₁.typeIs ?_)
  have h1 : Builtin.List.listSameRef (.ref s.heap.objs.size) (.ref a) = false := by simp [Builtin.List.listSameRef, hne]
  have h2 : (Value.type "set" == Value.type "list") = false := by decide
  have h3 : (Value.type "set" == Value.type "tuple") = false := by decide
  simp only [h1, h2, h3, Bool.or_false, Bool.false_eq_true, if_false]
  refine wpAny_bind (pyIter_set (s := { s with heap := s.heap.push { cls := .type "list", data := .seq ([] : List Value).toArray } }) x₁ ht hl hz fun I tup vs h2 d hI1 hI2 htl htor hal hit hperm hk2 => ?_)
  refine wpAny_bind (wpAny_holding ?_)
  have x₂ : SetAt h2 a es t := x₁.at fun o e => hk2 _ _ e
  unfold Builtin.List.listLengthHint
  refine wpAny_bind (wpAny_specialOf (s := { s with heap := h2, drawn := d }) x₂.typeIs F.slot_set_len.lookup ?_)
  dsimp only
  rw [show splitId "set.__len__" = some ("set", "__len__") from by decide +kernel]
  dsimp only
  refine wpAny_bind (wpAny_isInstance (s := { s with heap := h2, drawn := d }) x₂.typeIs sub_set_self ?_)
  rw [if_neg (by decide)]
  rw [if_pos (by decide +kernel)]
  refine wpAny_bind (wpAny_typeOf (s := { s with heap := h2, drawn := d }) x₂.typeIs ?_)
  dsimp only
  refine wpAny_pure ?_
  rw [if_pos (by decide +kernel)]
  refine wpAny_bind (wpAny_rule ?_)
  have hS₂' : h2.get? s.heap.objs.size = some { cls := .type "list", data := .seq ([] : List Value).toArray } := hk2 _ _ hS₁
  refine wpAny_bind ?_
  show wpAny _ A.in1 (updateSeq s.heap.objs.size (·.push .none) >>= fun _ => updateSeq s.heap.objs.size (·.pop)) _ _ _
  refine wpAny_bind (wpAny_updateSeq (s := { s with heap := h2, drawn := d }) hS₂' rfl ?_)
  have hS₃ := Heap.get?_update_self (Obj.mapSeq (·.push Value.none)) hS₂' rfl
  refine wpAny_updateSeq hS₃ rfl ?_
  have hS₄ := Heap.get?_update_self (Obj.mapSeq (·.pop)) hS₃ rfl
  have oth : ∀ b o, b ≠ s.heap.objs.size → h2.get? b = some o → ((h2.update s.heap.objs.size (Obj.mapSeq (·.push Value.none))).update s.heap.objs.size (Obj.mapSeq (·.pop))).get? b = some o :=
    fun b o hb e => (Heap.get?_update_other _ _ (Ne.symm hb)).trans ((Heap.get?_update_other _ _ (Ne.symm hb)).trans e)
  have hlen : vs.length = es.size := by have := hperm.length_eq; simpa using this
  have hSI : s.heap.objs.size ≠ I := fun e => by rw [hsz1] at hI1; omega
  have hSt : s.heap.objs.size ≠ tup := by
    rcases htor with rfl | q
    · exact hne
    · intro e; rw [hsz1] at q; omega
  have hSf : s.heap.objs.size ∉ [I, a, tup] := by
    simp only [List.mem_cons, List.not_mem_nil, or_false, not_or]
    exact ⟨hSI, hne, hSt⟩
  have W := (SIter.walks (prog := prog) (w := w) (A := A.in1) (a := a) (I := I) (tup := tup) (vs := vs) hh).toS
  have hit' : SIter w a I tup vs 0 ((h2.update s.heap.objs.size (Obj.mapSeq (·.push Value.none))).update s.heap.objs.size (Obj.mapSeq (·.pop))) :=
    hit.frame fun b hb o e => oth b o (fun q => hSf (q ▸ hb)) e
  have hszu : ((h2.update s.heap.objs.size (Obj.mapSeq (·.push Value.none))).update s.heap.objs.size (Obj.mapSeq (·.pop))).objs.size = h2.objs.size := by rw [Heap.size_update, Heap.size_update]
  refine wpAny_pure ⟨plainId_quiet F.plain_extend_loop _, codeAny_extend_loopS W (by rw [sizeLine_eq]; omega) _ hSf _ vs.length 0 _ _ _ rfl (Nat.zero_le _) hit' hS₄ (ItemsOf.nil _) fun s' acc' c' hm hS' hacc => ?_⟩
  show wpAny _ A (load s.heap.objs.size >>= _) _ _ s'
  refine wpAny_bind (wpAny_load hS' ?_)
  refine wpAny_pure ?_
  have hvs : acc'.toList = vs := by
    apply List.ext_getElem?
    intro i
    rw [Array.getElem?_toList]
    cases hx : acc'[i]? with
    | some v => exact (hacc.2 i v hx).symm
    | none =>
      have := Array.getElem?_eq_none_iff.mp hx
      rw [hacc.1] at this
      exact (List.getElem?_eq_none this).symm
  have hs' : s' = { s with heap := s'.heap, toks := s'.toks, drawn := d } := by
    obtain ⟨h', g', d', tk', os'⟩ := s'
    have e1 : g' = s.gens := hm.gens
    have e2 : d' = d := hm.drawn
    have e3 : os' = s.os := hm.os
    subst e1; subst e2; subst e3
    rfl
  have hkeep : ∀ b o, s.heap.get? b = some o → s'.heap.get? b = some o := fun b o e => by
    have hb := Heap.lt_size e
    refine hm.heap b o ?_ (oth b o (Nat.ne_of_lt hb) (hk2 b o (Heap.get?_push_of_some _ e)))
    simp only [List.mem_cons, List.not_mem_nil, or_false, not_or]
    have hI1' : s.heap.objs.size ≤ I := by
      have q : (s.heap.push { cls := .type "list", data := .seq ([] : List Value).toArray }).objs.size ≤ I := hI1
      rw [hsz1] at q
      exact Nat.le_of_succ_le q
    exact ⟨Nat.ne_of_lt hb, Nat.ne_of_lt (Nat.lt_of_lt_of_le hb hI1')⟩
  show Q acc'.toList s'
  rw [hvs, hs']
  exact h vs s'.heap s'.toks d hperm hkeep (Nat.le_of_lt (Heap.lt_size hS'))

/-- sorted, from what is collected -/
theorem call_sorted {x : Value} {Q : Value → Shared → Prop}
    (hc : ∀ (A' : Around) (E' : Value → Shared → Prop) (Q' : List Value → Shared → Prop), A'.handled = A.handled → (∀ vs s1, vs.length ≤ 4096 → (∀ (A' : Around) (E' : Value → Shared → Prop) (P : PySem.Fin → Shared → Prop), A'.handled = A.handled →
        (∀ s3, Q (.ref s1.heap.objs.size) s3 → P (.done (.ret .none)) s3) →
        wpAny (model prog w) A' (Builtin.«list.sort» ⟨[.ref s1.heap.objs.size], []⟩) P E' { s1 with heap := s1.heap.push (seqObj "list" vs.toArray 0) }) → Q' vs s1) → wpAny (model prog w) A' (collect x) Q' E' s) :
    wpAny (model prog w) A (call (.builtin "sorted") [x]) Q E s := by
  refine Calls.call_function_entry kind_sorted plain_sorted entry_sorted (args_sorted1 _) ?_
  unfold Builtin.«sorted»
  refine wpAny_bind (m := checkCount "sorted" 1 1 _) (wpAny_pure ?_)
  refine wpAny_bind (hc _ _ _ rfl fun vs s1 hl hsort => ?_)
  refine wpAny_bind (wpAny_newList ?_ (by rw [sizeLine_eq]; omega))
  refine wpAny_bind (wpAny_holding (wpAny_call_entry slot_list_sort ⟨_, Heap.get?_push_size _ rfl, rfl⟩ entry_list_sort ?_ (args_list_sort _)))
  exact hsort _ _ _ rfl fun s3 hq => ⟨_, rfl, wpAny_pure ⟨_, rfl, hq⟩⟩

/-- the list that was sorted -/
theorem sortedHeap_facts {h : Heap} {vs : List Value} {out : Array Value} : (sortedHeap (h.push (seqObj "list" vs.toArray 0)) h.objs.size vs out).IsList h.objs.size out ∧
    ∀ b o, h.get? b = some o → (sortedHeap (h.push (seqObj "list" vs.toArray 0)) h.objs.size vs out).get? b = some o := by
  obtain ⟨e, he⟩ := sortedHeap_at (h := h.push (seqObj "list" vs.toArray 0)) (a := h.objs.size) (vs := vs) (n := 0) (out := out) (Heap.get?_push_size _ rfl)
  refine ⟨⟨_, he, rfl, e, rfl⟩, fun b o q => ?_⟩
  rw [sortedHeap_old (Nat.ne_of_lt (Heap.lt_size q)) (by rw [size_push']; exact Nat.lt_succ_of_lt (Heap.lt_size q))]
  exact Heap.get?_push_of_some _ q

theorem sorted_set_ints {a : Addr} {l : List Int} {Q : Value → Shared → Prop} (hh : A.handled = none) (hs : SetI w s.heap a l) (hl : l.length ≤ 62)
    (h : ∀ D vs ns h' tk d, IntsAre vs ns → ns.Perm l → ns.Pairwise (· ≤ ·) → h'.IsList D vs.toArray → s.heap.objs.size ≤ D → (∀ b o, s.heap.get? b = some o → h'.get? b = some o) → Q (.ref D) { s with heap := h', toks := tk, drawn := d }) :
    wpAny (model prog w) A (call (.builtin "sorted") [.ref a]) Q E s := by
  obtain ⟨es, t, x, hI⟩ := hs
  have hsz := hI.size
  refine call_sorted fun A' E' Q' hA hq => ?_
  refine collect_set (hA.trans hh) x hI.tab hI.led (by omega) fun vs h' tk d hp hk hsize => ?_
  have hlen : vs.length = l.length := by have := hp.length_eq; simpa [hsz] using this
  refine hq vs _ (by omega) fun A'' E'' P hA' hP => ?_
  have hints : IntsAre vs (vs.map numOf) := intsAre_map vs fun v hv => by
    obtain ⟨e, he, rfl⟩ := List.mem_map.mp (hp.mem_iff.mp hv)
    obtain ⟨k, u, rfl⟩ := hI.hints e he
    exact ⟨k, u, rfl⟩
  have hkeys : (vs.map numOf).Perm l := by
    have := hp.map numOf
    rw [List.map_map] at this
    exact this.trans hI.hkeys
  refine list_sort_tree (n := 0) (Heap.get?_push_size _ rfl) hints (by omega) fun out ns' h1 h2 h3 => hP _ ?_
  obtain ⟨f1, f2⟩ := sortedHeap_facts (h := h') (vs := vs) (out := out)
  exact h h'.objs.size out.toList ns' _ _ _ h1 (h2.trans hkeys) h3 (by simpa using f1) hsize fun b o e => f2 b o (hk b o e)

theorem sorted_list_ints {a : Addr} {vs : List Value} {ns : List Int} {Q : Value → Shared → Prop} (hs : s.heap.IsList a vs.toArray) (hi : IntsAre vs ns) (hl : vs.length ≤ 62)
    (h : ∀ D vs' ns' h' tk d, IntsAre vs' ns' → ns'.Perm ns → ns'.Pairwise (· ≤ ·) → h'.IsList D vs'.toArray → s.heap.objs.size ≤ D → (∀ b o, s.heap.get? b = some o → h'.get? b = some o) → Q (.ref D) { s with heap := h', toks := tk, drawn := d }) :
    wpAny (model prog w) A (call (.builtin "sorted") [.ref a]) Q E s := by
  refine call_sorted fun A' E' Q' hA hq => ?_
  refine collect_list hs ?_ (by rw [sizeLine_eq]; omega)
  refine hq vs _ (by omega) fun A'' E'' P hA' hP => ?_
  refine list_sort_tree (n := 0) (Heap.get?_push_size _ rfl) hi (by omega) fun out ns' h1 h2 h3 => hP _ ?_
  obtain ⟨f1, f2⟩ := sortedHeap_facts (h := (s.heap.push (seqObj "list" #[] 0)).update s.heap.objs.size (Obj.mapSeq (· ++ vs.toArray))) (vs := vs) (out := out)
  refine h _ out.toList ns' _ s.toks s.drawn h1 h2 h3 (by simpa using f1) ?_ fun b o e => f2 b o ?_
  · show s.heap.objs.size ≤ ((s.heap.push (seqObj "list" #[] 0)).update s.heap.objs.size (Obj.mapSeq (· ++ vs.toArray))).objs.size
    rw [Heap.size_update, size_push']; exact Nat.le_succ _
  · rw [Heap.get?_update_other _ _ (Nat.ne_of_gt (Heap.lt_size e))]
    exact Heap.get?_push_of_some _ e

theorem sorted_list_nodes {C : Nds} {a : Addr} {vs : List Value} {js : List Nat} {Q : Value → Shared → Prop} (hs : s.heap.IsList a vs.toArray) (hi : NVs C js vs) (hn : ∀ j ∈ js, NodeOk prog w C s.heap j) (hl : vs.length ≤ 62)
    (h : ∀ D vs' js' h' tk d, NVs C js' vs' → js'.Perm js → js'.Pairwise (· ≤ ·) → h'.IsList D vs'.toArray → s.heap.objs.size ≤ D → (∀ b o, s.heap.get? b = some o → h'.get? b = some o) → Q (.ref D) { s with heap := h', toks := tk, drawn := d }) :
    wpAny (model prog w) A (call (.builtin "sorted") [.ref a]) Q E s := by
  refine call_sorted fun A' E' Q' hA hq => ?_
  refine collect_list hs ?_ (by rw [sizeLine_eq]; omega)
  refine hq vs _ (by omega) fun A'' E'' P hA' hP => ?_
  have hold : ∀ b o, s.heap.get? b = some o → ((s.heap.push (seqObj "list" #[] 0)).update s.heap.objs.size (Obj.mapSeq (· ++ vs.toArray))).get? b = some o := fun b o e => by
    rw [Heap.get?_update_other _ _ (Nat.ne_of_gt (Heap.lt_size e))]
    exact Heap.get?_push_of_some _ e
  refine list_sort_nodes (C := C) (js := js) (n := 0) (Heap.get?_push_size _ rfl) hi (fun j hj hk => ?_) (by omega) fun out js' h1 h2 h3 => hP _ ?_
  · obtain ⟨o, items, n, ho, r⟩ := hn j hj hk
    exact ⟨o, items, n, Heap.get?_push_of_some _ (hold _ _ ho), r⟩
  obtain ⟨f1, f2⟩ := sortedHeap_facts (h := (s.heap.push (seqObj "list" #[] 0)).update s.heap.objs.size (Obj.mapSeq (· ++ vs.toArray))) (vs := vs) (out := out.toArray)
  refine h _ out js' _ s.toks s.drawn h1 h2 h3 f1 ?_ fun b o e => f2 b o (hold b o e)
  show s.heap.objs.size ≤ ((s.heap.push (seqObj "list" #[] 0)).update s.heap.objs.size (Obj.mapSeq (· ++ vs.toArray))).objs.size
  rw [Heap.size_update, size_push']; exact Nat.le_succ _
end
end Mine

end PartJ3c
section PartJ3d
open PySem PySem.W PyProof.Rows
set_option maxRecDepth 100000
set_option maxHeartbeats 1000000
namespace Mine

def NSet (prog : Program) (w : World) (C : Nds) (h : Heap) (a : Addr) (js : List Nat) : Prop :=
  (C.kd = true → ∃ l, SetI w h a l ∧ ∀ x, x ∈ l ↔ ∃ j ∈ js, x = ((j : Nat) : Int)) ∧
  (C.kd = false → ∃ es t ks, SetAt h a es t ∧ SetTt prog w C es t ks ∧ (∀ j, j ∈ ks ↔ j ∈ js) ∧ ks.length ≤ js.length)

theorem tkm {prog : Program} {w : World} {h h' : Heap} {ks : List (Int ⊕ Str)} {a : Addr} (x : IsTupleKey (mixKind prog w) h ks a) (k : ∀ b o, h.get? b = some o → h'.get? b = some o) : IsTupleKey (mixKind prog w) h' ks a :=
  let ⟨o, items, n, ho, r⟩ := x; ⟨o, items, n, k _ _ ho, r⟩
theorem NodeOk.mono {prog : Program} {w : World} {C : Nds} {h h' : Heap} {i : Nat} (x : NodeOk prog w C h i) (k : ∀ b o, h.get? b = some o → h'.get? b = some o) : NodeOk prog w C h' i := fun e => tkm (x e) k

theorem unionI_len (l1 l2 : List Int) : (unionI l1 l2).length ≤ l1.length + l2.length := by
  induction l2 generalizing l1 with
  | nil => exact Nat.le_refl _
  | cons k r ih =>
    have h1 : (unionI (ins l1 k) r).length ≤ _ := ih (ins l1 k)
    have h2 := ins_len l1 k
    show (unionI (ins l1 k) r).length ≤ _
    rw [List.length_cons]; omega

section
variable {prog : Program} {w : World} {A : Around} {E : Value → Shared → Prop} {s : Shared}

theorem SetI.new {h : Heap} {a : Addr} (hg : h.get? a = some (freshSet w)) : SetI w h a [] := by
  refine ⟨#[], .fresh 0 0 (!w.params.followText "set-order"), ⟨_, 0, hg, ⟨rfl, rfl, rfl⟩, rfl⟩, ⟨TabOk.fresh _ _ _, ?_, fun e he => by simp at he, List.Perm.refl _, List.nodup_nil, fun _ => .inl rfl⟩⟩
  unfold LedOk
  show _ ∨ (!w.params.followText "set-order") = true
  cases w.params.followText "set-order" <;> simp

theorem call_set_ints {l : Addr} {items : Array Value} {ns : List Int} {Q : Value → Shared → Prop} (hh : A.handled = none) (hl : s.heap.IsList l items) (hi : IntsAre items.toList ns) (hz : ns.length ≤ 62)
    (h : ∀ (h' : Heap) (tk : Nat), SetI w h' s.heap.objs.size (unionI [] ns) → (∀ b o, s.heap.get? b = some o → h'.get? b = some o) → Q (.ref s.heap.objs.size) { s with heap := h', toks := tk }) :
    wpAny (model prog w) A (call (.type "set") [.ref l]) Q E s := by
  have hlen : items.size = ns.length := by have := IntsAre.length hi; simpa using this
  refine call_set_of hh hl (fun i h => SetI w h s.heap.objs.size (unionI [] (ns.take i))) (fun h' hg => SetI.new hg) (fun i h h' x e => x.at e) (fun i v s' hv hJ hk E' Q' hq => ?_) fun h' tk hJ hk => ?_
  · have hlt : i < items.size := (Array.getElem?_eq_some_iff.mp hv).1
    obtain ⟨t, rfl⟩ := IntsAre.int_at hi i v (by rw [Array.getElem?_toList]; exact hv)
    have hni : ns[i]? = some (ns.getD i 0) := by rw [List.getD_eq_getElem?_getD]; rw [List.getElem?_eq_getElem (by omega)]; rfl
    unfold setAdd
    refine wpAny_holding ?_
    refine wpAny_bind ((intKind prog w).pyHash (k := ns.getD i 0) (intKind_is _ _ _ _) ?_)
    obtain ⟨es, tb, x, hI⟩ := hJ
    have hsz := hI.size
    have := unionI_len [] (ns.take i)
    rw [List.length_take] at this
    refine add_I (s := { s' with toks := s'.toks + 1 }) x hI (by simp at this; omega) fun b h' es' t' x' hI' hs' => ?_
    refine hq b h' _ ⟨es', t', x', ?_⟩ hs'
    have e : ns.take (i + 1) = ns.take i ++ [ns.getD i 0] := by
      rw [List.take_add_one, hni]; rfl
    rw [e]
    show SetIt w es' t' (List.foldl ins [] (_ ++ _))
    rw [List.foldl_append]
    exact hI'
  · rw [hlen, List.take_length] at hJ
    exact h h' tk hJ hk

theorem call_set_nodes {C : Nds} {l : Addr} {items : Array Value} {js : List Nat} {Q : Value → Shared → Prop} (hu : A.units + 3 < cLine) (hh : A.handled = none) (hl : s.heap.IsList l items) (hi : NVs C js items.toList) (hn : ∀ j ∈ js, NodeOk prog w C s.heap j) (hz : js.length ≤ 4)
    (h : ∀ (h' : Heap) (tk : Nat), NSet prog w C h' s.heap.objs.size js → (∀ b o, s.heap.get? b = some o → h'.get? b = some o) → Q (.ref s.heap.objs.size) { s with heap := h', toks := tk }) :
    wpAny (model prog w) A (call (.type "set") [.ref l]) Q E s := by
  cases hk : C.kd with
  | true =>
    refine call_set_ints hh hl (nvs_ints hk hi) (by rw [List.length_map]; omega) fun h' tk hs hkeep => h h' tk ⟨fun _ => ⟨_, hs, fun x => ?_⟩, fun e => absurd (hk.symm.trans e) (by decide)⟩ hkeep
    rw [mem_unionI, List.mem_map]
    constructor
    · rintro (q | ⟨j, hj, rfl⟩)
      · cases q
      · exact ⟨j, hj, rfl⟩
    · rintro ⟨j, hj, rfl⟩
      exact .inr ⟨j, hj, rfl⟩
  | false =>
    have hlen : items.size = js.length := by have := hi.length; simpa using this.symm
    refine call_set_of hh hl (fun i h => ∃ es t ks, SetAt h s.heap.objs.size es t ∧ SetTt prog w C es t ks ∧ (∀ j, j ∈ ks ↔ j ∈ js.take i) ∧ ks.length ≤ i) (fun h' hg => ?_) (fun i h h' x e => ?_) (fun i v s' hv hJ hkp E' Q' hq => ?_) fun h' tk hJ hkp => ?_
    · refine ⟨#[], .fresh 0 0 (!w.params.followText "set-order"), [], ⟨_, 0, hg, ⟨rfl, rfl, rfl⟩, rfl⟩, ⟨TabOk.fresh _ _ _, ?_, rfl, rfl⟩, fun j => by simp, Nat.le_refl _⟩
      unfold LedOk
      show _ ∨ (!w.params.followText "set-order") = true
      cases w.params.followText "set-order" <;> simp
    · obtain ⟨es, t, ks, x, r⟩ := x
      exact ⟨es, t, ks, x.at e, r⟩
    · have hlt : i < items.size := (Array.getElem?_eq_some_iff.mp hv).1
      obtain ⟨j, hj, hnv⟩ := hi.at' (k := i) (v := v) (by rw [Array.getElem?_toList]; exact hv)
      obtain rfl := hnv.2 hk
      obtain ⟨es, t, ks, x, hI, hm, hle⟩ := hJ
      have hjm : j ∈ js := List.mem_of_getElem? hj
      have hjt := tkm (hn j hjm hk) hkp
      unfold setAdd
      refine wpAny_holding ?_
      refine wpAny_bind (wpAny_pyHash_tuple (show A.units + 3 < cLine from hu) hjt ?_)
      have hes : es.size = ks.length := by
        have := congrArg List.length hI.hents
        rwa [List.length_map, Array.length_toList] at this
      refine add_T (show A.units + 3 < cLine from hu) (s := { s' with toks := _ }) x hI (fun i' hi' => ?_) hjt (by omega) fun b h' es' t' ks' x' hI' hm' hle' hs' => ?_
      · exact tkm (hn i' (List.mem_of_mem_take ((hm i').mp hi')) hk) hkp
      · refine hq b h' _ ⟨es', t', ks', x', hI', fun j' => ?_, by omega⟩ hs'
        rw [hm', hm, List.take_add_one, hj]
        simp
    · obtain ⟨es, t, ks, x, hI, hm, hle⟩ := hJ
      rw [hlen, List.take_length] at hm
      exact h h' tk ⟨fun e => absurd (hk.symm.trans e) (by decide), fun _ => ⟨es, t, ks, x, hI, hm, by omega⟩⟩ hkp

theorem nvs_of_perm {C : Nds} (hk : C.kd = false) : ∀ {vs : List Value} {ks : List Nat}, vs.Perm (ks.map fun j => Value.ref (C.ad j)) → ∃ js, NVs C js vs ∧ js.Perm ks := by
  intro vs ks h
  generalize hl : (ks.map fun j => Value.ref (C.ad j)) = us at h
  induction h generalizing ks with
  | nil =>
    have : ks = [] := by simpa using hl
    subst this
    exact ⟨[], .nil, List.Perm.refl _⟩
  | cons x h ih =>
    cases ks with
    | nil => cases hl
    | cons k ks =>
      rw [List.map_cons] at hl
      injection hl with h1 h2
      obtain ⟨js, a, b⟩ := ih h2
      exact ⟨k :: js, .cons ⟨fun e => absurd (hk.symm.trans e) (by decide), fun _ => h1.symm⟩ a, b.cons k⟩
  | swap x y r =>
    match ks, hl with
    | k1 :: k2 :: ks, hl =>
      rw [List.map_cons, List.map_cons] at hl
      injection hl with h1 h2
      injection h2 with h2 h3
      subst h3
      refine ⟨k2 :: k1 :: ks, .cons ⟨fun e => absurd (hk.symm.trans e) (by decide), fun _ => h2.symm⟩ (.cons ⟨fun e => absurd (hk.symm.trans e) (by decide), fun _ => h1.symm⟩ ?_), List.Perm.swap _ _ _⟩
      have : ∀ ks : List Nat, NVs C ks (ks.map fun j => Value.ref (C.ad j)) := by
        intro ks
        induction ks with
        | nil => exact .nil
        | cons k ks ih => exact .cons ⟨fun e => absurd (hk.symm.trans e) (by decide), fun _ => rfl⟩ ih
      exact this ks
  | trans h1 h2 ih1 ih2 =>
    obtain ⟨js2, a2, b2⟩ := ih2 hl
    have : ∀ {js : List Nat} {vs : List Value}, NVs C js vs → js.map (fun j => Value.ref (C.ad j)) = vs := by
      intro js vs h
      induction h with
      | nil => rfl
      | cons a _ ih => rw [List.map_cons, ih, a.2 hk]
    obtain ⟨js1, a1, b1⟩ := ih1 (this a2)
    exact ⟨js1, a1, b1.trans b2⟩

theorem sorted_set_nodes {C : Nds} {a : Addr} {js : List Nat} {Q : Value → Shared → Prop} (hh : A.handled = none) (hs : NSet prog w C s.heap a js) (hn : ∀ j ∈ js, NodeOk prog w C s.heap j) (hl : js.length ≤ 4)
    (h : ∀ D vs' js' h' tk d, NVs C js' vs' → (∀ j, j ∈ js' ↔ j ∈ js) → js'.length ≤ js.length → h'.IsList D vs'.toArray → s.heap.objs.size ≤ D → (∀ b o, s.heap.get? b = some o → h'.get? b = some o) → Q (.ref D) { s with heap := h', toks := tk, drawn := d }) :
    wpAny (model prog w) A (call (.builtin "sorted") [.ref a]) Q E s := by
  cases hk : C.kd with
  | true =>
    obtain ⟨l, hI, hm⟩ := hs.1 hk
    have hnd : l.Nodup := by obtain ⟨_, _, _, q⟩ := hI; exact q.nodup
    have hll : l.length ≤ js.length := by
      have : l.length ≤ (js.map fun j : Nat => (j : Int)).length := hnd.length_le_of_subset fun x hx => by
        obtain ⟨j, hj, rfl⟩ := (hm x).mp hx
        exact List.mem_map.mpr ⟨j, hj, rfl⟩
      rwa [List.length_map] at this
    refine sorted_set_ints hh hI (by omega) fun D vs ns h' tk d h1 h2 h3 h4 h5 h6 => ?_
    have hcast : ns = (ns.map Int.toNat).map fun j : Nat => (j : Int) := by
      rw [List.map_map]
      refine (List.map_id ns).symm.trans (List.map_congr_left fun x hx => ?_)
      obtain ⟨j, _, rfl⟩ := (hm x).mp (h2.mem_iff.mp hx)
      simp
    rw [hcast] at h1
    refine h D vs (ns.map Int.toNat) h' tk d (ints_nvs hk h1) (fun j => ?_) (by rw [List.length_map, h2.length_eq]; exact hll) h4 h5 h6
    rw [List.mem_map]
    constructor
    · rintro ⟨x, hx, rfl⟩
      obtain ⟨j, hj, rfl⟩ := (hm x).mp (h2.mem_iff.mp hx)
      simpa using hj
    · intro hj
      exact ⟨(j : Int), h2.mem_iff.mpr ((hm _).mpr ⟨j, hj, rfl⟩), by simp⟩
  | false =>
    obtain ⟨es, t, ks, x, hI, hm, hle⟩ := hs.2 hk
    have hes : es.size = ks.length := by
      have := congrArg List.length hI.hents
      rwa [List.length_map, Array.length_toList] at this
    refine call_sorted fun A' E' Q' hA hq => ?_
    refine collect_set (hA.trans hh) x hI.tab hI.led (by omega) fun vs h' tk d hp hkp hsize => ?_
    have hp' : vs.Perm (ks.map fun j => Value.ref (C.ad j)) := by
      rw [hI.hents, List.map_map] at hp; exact hp
    obtain ⟨js1, hv1, hp1⟩ := nvs_of_perm hk hp'
    have hlen : vs.length ≤ 4 := by have := hp'.length_eq; rw [List.length_map] at this; omega
    refine hq vs _ (by omega) fun A'' E'' P hA' hP => ?_
    refine list_sort_nodes (C := C) (js := js1) (n := 0) (Heap.get?_push_size _ rfl) hv1 (fun j hj hkk => ?_) (by omega) fun out js' h1 h2 h3 => hP _ ?_
    · exact tkm (hn j ((hm j).mp (hp1.mem_iff.mp hj)) hkk) fun b o e => Heap.get?_push_of_some _ (hkp b o e)
    obtain ⟨f1, f2⟩ := sortedHeap_facts (h := h') (vs := vs) (out := out.toArray)
    refine h h'.objs.size out js' _ _ _ h1 (fun j => ?_) ?_ f1 hsize fun b o e => f2 b o (hkp b o e)
    · rw [h2.mem_iff, hp1.mem_iff, hm]
    · rw [h2.length_eq, hp1.length_eq]; exact hle
end
end Mine

end PartJ3d
section PartJ4a
open PySem PySem.W PyProof.Rows
set_option maxRecDepth 100000
set_option maxHeartbeats 1000000
set_option linter.unusedVariables false
namespace Mine

abbrev PW : Program := PySem.Challenge.pw_jo0031_01
def defParts : Stmt → Str × Arguments × List Stmt × Scope
  | .FunctionDef n a b _ _ _ sc _ _ _ => (n, a, b, sc)
  | _ => (⟨#[]⟩, ⟨[], [], none, [], [], none, []⟩, [], default)
def defAt (i : Nat) : Str × Arguments × List Stmt × Scope := match PW.main.body[i]? with
  | some st => defParts st
  | none => defParts (.Pass default)
def tParams : Arguments := (defAt 2).2.1
def tBody : List Stmt := (defAt 2).2.2.1
def tScope : Scope := (defAt 2).2.2.2
def dParams : Arguments := (defAt 1).2.1
def dBody : List Stmt := (defAt 1).2.2.1
def dScope : Scope := (defAt 1).2.2.2

/-! the pure side: the state of a run, and traverse -/
structure St where
  N : Nat → Int
  F : Nat → Option Nat
  S : List Nat
  G : Nat → List Int

def upd {α : Type} (f : Nat → α) (i : Nat) (v : α) : Nat → α := fun j => if j = i then v else f j
theorem upd_self {α : Type} (f : Nat → α) (i : Nat) (v : α) : upd f i v i = v := by unfold upd; rw [if_pos rfl]
theorem upd_ne {α : Type} (f : Nat → α) {i j : Nat} (v : α) (h : j ≠ i) : upd f i v j = f j := by unfold upd; rw [if_neg h]

def lower (x y : Nat) (σ : St) : St := if σ.N y > 0 ∧ σ.N y < σ.N x then { σ with N := upd σ.N x (σ.N y) } else σ
def joinS (x y : Nat) (σ : St) : Option St :=
  match σ.F x, σ.F y with
  | some fx, some fy => some { σ with G := upd σ.G fx (unionI (σ.G fx) (σ.G fy)) }
  | _, _ => none
/-- the part of a turn behind the call -/
def turnB (x y : Nat) (σ : St) : Option St := if σ.N x > 0 ∧ σ.N y ≠ 0 then joinS x y (lower x y σ) else none
def turn (tv : Nat → St → Option St) (x y : Nat) (σ : St) : Option St := (if σ.N y = 0 then tv y σ else some σ).bind (turnB x y)
def turns (tv : Nat → St → Option St) (x : Nat) : List Nat → St → Option St
  | [], σ => some σ
  | y :: ys, σ => (turn tv x y σ).bind (turns tv x ys)
def popTo (x fx : Nat) : List Nat → St → Option St
  | [], _ => none
  | z :: r, σ => if z = x then some { σ with S := r, N := upd σ.N z (-1), F := upd σ.F z (some fx) } else popTo x fx r { σ with S := r, N := upd σ.N z (-1), F := upd σ.F z (some fx) }
def begin' (x : Nat) (σ : St) : St := { σ with S := x :: σ.S, N := upd σ.N x (σ.S.length + 1 : Nat), F := upd σ.F x (some x) }
def close' (x : Nat) (d : Int) (σ : St) : Option St := if σ.N x = d then (match σ.F x with | some fx => if σ.S.length < 200 then popTo x fx σ.S σ else none | none => none) else some σ
def trav (R : Nat → List Nat) : Nat → Nat → St → Option St
  | 0, _, _ => none
  | k + 1, x, σ => if σ.S.length ≥ 100 then none else (turns (trav R k) x (R x) (begin' x σ)).bind (close' x (σ.S.length + 1 : Nat))

/-! the heap side -/
structure Dg where
  C : Nds
  n : Nat
  dN : Addr
  dF : Addr
  lS : Addr
  dR : Addr
  dG : Addr
  gs : Nat → Addr
  lR : Nat → Addr
  R : Nat → List Nat
  ks : List Nat
  pool : List Int
  fT : Addr
  g₀ : Heap

def Mut (D : Dg) (b : Addr) : Prop := b = D.dN ∨ b = D.dF ∨ b = D.lS ∨ ∃ i, i < D.n ∧ b = D.gs i

/-- what stands at the top, as far as it is used -/
structure Tp (fT : Addr) (h : Heap) : Prop where
  ex : ∃ mg mb o pm cd doc, h.Ns mainGlobals mg ∧ h.Ns builtinsNs mb ∧ mg (Str.ofString "len") = none ∧ mb (Str.ofString "len") = some (.builtin "len") ∧
    mg (Str.ofString "traverse") = some (.ref fT) ∧ h.get? fT = some o ∧ o.data = .func (Calls.docDef (Str.ofString "traverse") tParams tBody tScope pm cd doc) ∧ h.CodeRec cd (Str.ofString "traverse")
  nolimit : h.NoLimit

theorem Tp.mono {fT : Addr} {h h' : Heap} (x : Tp fT h) (k : ∀ b o, h.get? b = some o → h'.get? b = some o) : Tp fT h' := by
  obtain ⟨⟨mg, mb, o, pm, cd, doc, h1, h2, h3, h4, h5, h6, h7, h8⟩, hl⟩ := x
  exact ⟨⟨mg, mb, o, pm, cd, doc, h1.keeps k, h2.keeps k, h3, h4, h5, k _ _ h6, h7, h8.keeps k⟩, hl.keeps k⟩

/-- what no run of traverse changes -/
structure Static (prog : Program) (w : World) (D : Dg) (h : Heap) : Prop where
  old : ∀ b o, D.g₀.get? b = some o → h.get? b = some o
  node : ∀ i, i < D.n → NodeOk prog w D.C h i
  dR : RawN prog w D.C h D.dR ((List.range D.n).map fun i => (i, Value.ref (D.lR i)))
  lR : ∀ i, i < D.n → ∃ vs, h.IsList (D.lR i) vs.toArray ∧ NVs D.C (D.R i) vs
  dG : RawN prog w D.C h D.dG ((List.range D.n).map fun i => (i, Value.ref (D.gs i)))

/-- what the heaps of a run have in common -/
structure Frame0 (prog : Program) (w : World) (D : Dg) : Prop where
  tp : Tp D.fT D.g₀
  mut0 : ∀ b, Mut D b → D.g₀.get? b = none
  rlt : ∀ i, i < D.n → ∀ j ∈ D.R i, j < D.n
  rlen : ∀ i, i < D.n → (D.R i).length ≤ 8
  nlt : D.n ≤ 12
  kslt : ∀ i, i ∈ D.ks ↔ i < D.n
  pool : D.pool.length ≤ 62
  nF : D.dN ≠ D.dF
  gsI : ∀ i j, i < D.n → j < D.n → D.gs i = D.gs j → i = j
  iR : ¬ Mut D D.dR
  iG : ¬ Mut D D.dG
  ilR : ∀ i, i < D.n → ¬ Mut D (D.lR i)
  iad : D.C.kd = false → ∀ i, i < D.n → ¬ Mut D (D.C.ad i)

structure Rep (prog : Program) (w : World) (D : Dg) (σ : St) (h : Heap) : Prop where
  hN : ∃ xs, RawN prog w D.C h D.dN xs ∧ xs.map (·.1) = D.ks ∧ ∀ i, i < D.n → ∃ t, valueAt xs i = some (.int (σ.N i) t)
  hF : ∃ xs, RawN prog w D.C h D.dF xs ∧ (∀ i, valueAt xs i = (σ.F i).map fun j => Value.ref (D.gs j)) ∧ ∀ i j, σ.F i = some j → i < D.n ∧ j < D.n
  hS : ∃ vs c, IsL h D.lS (List.toArray vs) c ∧ NVs D.C σ.S.reverse vs ∧ ∀ j ∈ σ.S, j < D.n
  hG : ∀ j, j < D.n → SetI w h (D.gs j) (σ.G j) ∧ ∀ x ∈ σ.G j, x ∈ D.pool

section
variable {prog : Program} {w : World} {D : Dg} {σ : St} {h h' : Heap}

theorem Static.kp (F0 : Frame0 prog w D) (x : Static prog w D h) (k : ∀ b o, ¬ Mut D b → h.get? b = some o → h'.get? b = some o) : Static prog w D h' where
  old := fun b o e => k b o (fun hm => by rw [F0.mut0 b hm] at e; cases e) (x.old b o e)
  node := fun i hi hk => by
    obtain ⟨o, items, n, ho, r⟩ := x.node i hi hk
    exact ⟨o, items, n, k _ _ (F0.iad hk i hi) ho, r⟩
  dR := x.dR.at fun o e => k _ _ F0.iR e
  lR := fun i hi => let ⟨vs, hl, r⟩ := x.lR i hi; ⟨vs, hl.at fun o e => k _ _ (F0.ilR i hi) e, r⟩
  dG := x.dG.at fun o e => k _ _ F0.iG e

theorem Rep.at (x : Rep prog w D σ h) (k : ∀ b o, Mut D b → h.get? b = some o → h'.get? b = some o) : Rep prog w D σ h' where
  hN := let ⟨xs, a, r⟩ := x.hN; ⟨xs, a.at fun o e => k _ _ (.inl rfl) e, r⟩
  hF := let ⟨xs, a, r⟩ := x.hF; ⟨xs, a.at fun o e => k _ _ (.inr (.inl rfl)) e, r⟩
  hS := let ⟨vs, c, e, r⟩ := x.hS; ⟨vs, c, k _ _ (.inr (.inr (.inl rfl))) e, r⟩
  hG := fun j hj => ⟨(x.hG j hj).1.at fun o e => k _ _ (.inr (.inr (.inr ⟨j, hj, rfl⟩))) e, (x.hG j hj).2⟩

theorem Rep.lt (x : Rep prog w D σ h) {b : Addr} (hb : Mut D b) : b < h.objs.size := by
  rcases hb with rfl | rfl | rfl | ⟨i, hi, rfl⟩
  · obtain ⟨_, ⟨o, ho, _⟩, _⟩ := x.hN; exact Heap.lt_size ho
  · obtain ⟨_, ⟨o, ho, _⟩, _⟩ := x.hF; exact Heap.lt_size ho
  · obtain ⟨_, _, ho, _⟩ := x.hS; exact Heap.lt_size ho
  · obtain ⟨⟨_, _, ⟨o, _, ho, _⟩, _⟩, _⟩ := x.hG i hi; exact Heap.lt_size ho

theorem Rep.classes (x : Rep prog w D σ h) : D.dN ≠ D.lS ∧ D.dF ≠ D.lS ∧ (∀ i, i < D.n → D.gs i ≠ D.dN ∧ D.gs i ≠ D.dF ∧ D.gs i ≠ D.lS) := by
  obtain ⟨_, ⟨o1, h1, es1, ep1, _, d1, _⟩, _⟩ := x.hN
  obtain ⟨_, ⟨o2, h2, es2, ep2, _, d2, _⟩, _⟩ := x.hF
  obtain ⟨_, c3, h3, _⟩ := x.hS
  unfold IsL at h3
  refine ⟨fun e => ?_, fun e => ?_, fun i hi => ?_⟩
  · rw [e, h3] at h1; injection h1 with h1; subst h1; cases d1
  · rw [e, h3] at h2; injection h2 with h2; subst h2; cases d2
  · obtain ⟨⟨es, t, ⟨o, ep, ho, _, hd⟩, _⟩, _⟩ := x.hG i hi
    refine ⟨fun e => ?_, fun e => ?_, fun e => ?_⟩
    · rw [e, h1] at ho; injection ho with ho; subst ho; rw [d1] at hd; cases hd
    · rw [e, h2] at ho; injection ho with ho; subst ho; rw [d2] at hd; cases hd
    · rw [e, h3] at ho; injection ho with ho; subst ho; cases hd
end

/-- a frame at work -/
structure Cx (prog : Program) (w : World) (D : Dg) (g kp : Heap) (os : OsState) (L : Addr) (m : Str → Option Value) (σ : St) (s : Shared) : Prop where
  ns : s.heap.Ns L m
  keep : ∀ b o, ¬ Mut D b → g.get? b = some o → s.heap.get? b = some o
  st : Static prog w D g
  rep : Rep prog w D σ s.heap
  gens : s.gens = #[]
  hos : s.os = os
  fresh : g.get? L = none
  hL : ¬ Mut D L
  also : ∀ b o, b ≠ L → ¬ Mut D b → kp.get? b = some o → s.heap.get? b = some o

section
variable {prog : Program} {w : World} {D : Dg} {σ σ' : St} {g kp : Heap} {os : OsState} {L : Addr} {m m' : Str → Option Value} {s : Shared}

theorem Cx.static (F0 : Frame0 prog w D) (x : Cx prog w D g kp os L m σ s) : Static prog w D s.heap := x.st.kp F0 x.keep

/-- an address that no object has yet -/
theorem Cx.new (x : Cx prog w D g kp os L m σ s) {c : Addr} (hc : s.heap.objs.size ≤ c) : c ≠ L ∧ ¬ Mut D c ∧ g.get? c = none ∧ kp.get? c = none := by
  have hcL : c ≠ L := fun e => Nat.lt_irrefl _ (Nat.lt_of_lt_of_le x.ns.lt (e ▸ hc))
  refine ⟨hcL, fun hm => Nat.lt_irrefl _ (Nat.lt_of_lt_of_le (x.rep.lt hm) hc), ?_, ?_⟩
  · cases e : g.get? c with
    | none => rfl
    | some o =>
      have hm : ¬ Mut D c := fun hm => Nat.lt_irrefl _ (Nat.lt_of_lt_of_le (x.rep.lt hm) hc)
      exact absurd (Heap.lt_size (x.keep c o hm e)) (Nat.not_lt.mpr hc)
  · cases e : kp.get? c with
    | none => rfl
    | some o =>
      have hm : ¬ Mut D c := fun hm => Nat.lt_irrefl _ (Nat.lt_of_lt_of_le (x.rep.lt hm) hc)
      exact absurd (Heap.lt_size (x.also c o hcL hm e)) (Nat.not_lt.mpr hc)

/-- a change at an address that is new to the call and no part of the run's state -/
theorem Cx.other (x : Cx prog w D g kp os L m σ s) {c : Addr} {h' : Heap} {tk : Nat} {dr : Drawn} (hc : c ≠ L ∧ ¬ Mut D c ∧ g.get? c = none ∧ kp.get? c = none)
    (hs : ∀ b o, b ≠ c → s.heap.get? b = some o → h'.get? b = some o) : Cx prog w D g kp os L m σ { s with heap := h', toks := tk, drawn := dr } where
  ns := x.ns.at' fun o e => hs L o (Ne.symm hc.1) e
  keep := fun b o hb e => hs b o (fun q => by rw [q, hc.2.2.1] at e; cases e) (x.keep b o hb e)
  also := fun b o hl hb e => hs b o (fun q => by rw [q, hc.2.2.2] at e; cases e) (x.also b o hl hb e)
  st := x.st
  rep := x.rep.at fun b o hb e => hs b o (fun q => hc.2.1 (q ▸ hb)) e
  gens := x.gens
  hos := x.hos
  fresh := x.fresh
  hL := x.hL

theorem Cx.grow (x : Cx prog w D g kp os L m σ s) {h' : Heap} {tk : Nat} {dr : Drawn}
    (hs : ∀ b o, s.heap.get? b = some o → h'.get? b = some o) : Cx prog w D g kp os L m σ { s with heap := h', toks := tk, drawn := dr } where
  ns := x.ns.keeps hs
  keep := fun b o hb e => hs b o (x.keep b o hb e)
  also := fun b o hl hb e => hs b o (x.also b o hl hb e)
  st := x.st
  rep := x.rep.at fun b o _ e => hs b o e
  gens := x.gens
  hos := x.hos
  fresh := x.fresh
  hL := x.hL

theorem Cx.toks (x : Cx prog w D g kp os L m σ s) {tk : Nat} {dr : Drawn} : Cx prog w D g kp os L m σ { s with toks := tk, drawn := dr } := ⟨x.ns, x.keep, x.st, x.rep, x.gens, x.hos, x.fresh, x.hL, x.also⟩

/-- a name stored -/
theorem Cx.name (x : Cx prog w D g kp os L m σ s) {h' : Heap} {tk : Nat} (hn : h'.Ns L m') (hs : Heap.SameBut L s.heap h') : Cx prog w D g kp os L m' σ { s with heap := h', toks := tk } where
  ns := hn
  keep := fun b o hb e => hs.extBut b o (fun q => by rw [q, x.fresh] at e; cases e) (x.keep b o hb e)
  also := fun b o hl hb e => hs.extBut b o hl (x.also b o hl hb e)
  st := x.st
  rep := x.rep.at fun b o hb e => hs.extBut b o (fun q => x.hL (q ▸ hb)) e
  gens := x.gens
  hos := x.hos
  fresh := x.fresh
  hL := x.hL

/-- the run's state changed, the rest kept -/
theorem Cx.run (x : Cx prog w D g kp os L m σ s) {s' : Shared} (hr : Rep prog w D σ' s'.heap) (hk : ∀ b o, ¬ Mut D b → s.heap.get? b = some o → s'.heap.get? b = some o) (hg : s'.gens = #[]) (ho : s'.os = s.os) : Cx prog w D g kp os L m σ' s' where
  ns := x.ns.at' fun o e => hk L o x.hL e
  keep := fun b o hb e => hk b o hb (x.keep b o hb e)
  also := fun b o hl hb e => hk b o hb (x.also b o hl hb e)
  st := x.st
  rep := hr
  gens := hg
  hos := ho.trans x.hos
  fresh := x.fresh
  hL := x.hL
theorem Cx.rebase (x : Cx prog w D g kp os L m σ s) : Cx prog w D g s.heap os L m σ s := ⟨x.ns, x.keep, x.st, x.rep, x.gens, x.hos, x.fresh, x.hL, fun _ _ _ _ e => e⟩
theorem Cx.base (x : Cx prog w D g kp os L m σ s) : Cx prog w D g g os L m σ s := ⟨x.ns, x.keep, x.st, x.rep, x.gens, x.hos, x.fresh, x.hL, fun b o _ hb e => x.keep b o hb e⟩
end
end Mine

end PartJ4a
section PartJ4b
open PySem PySem.W PyProof.Rows
set_option maxRecDepth 100000
set_option maxHeartbeats 1000000
set_option linter.unusedVariables false
namespace Mine

theorem RawN.typeIs {prog : Program} {w : World} {C : Nds} {s : Shared} {d : Addr} {xs : List (Nat × Value)} (x : RawN prog w C s.heap d xs) : s.TypeIs (.ref d) "dict" :=
  let ⟨o, ho, _, _, hx, _⟩ := x; ⟨o, ho, hx.1⟩

theorem bnd_len {l : List Nat} {n : Nat} (hn : l.Nodup) (h : ∀ x ∈ l, x < n) : l.length ≤ n := by
  have := hn.length_le_of_subset (l₂ := List.range n) fun x hx => List.mem_range.mpr (h x hx)
  rwa [List.length_range] at this

theorem valueAt_mem {xs : List (Nat × Value)} {i : Nat} {v : Value} (h : (i, v) ∈ xs) : ∃ u, valueAt xs i = some u := by
  unfold valueAt
  cases e : xs.find? fun kv => decide (kv.1 = i) with
  | some p => exact ⟨p.2, rfl⟩
  | none =>
    rw [List.find?_eq_none] at e
    exact absurd (decide_eq_true rfl) (e _ h)

theorem valueAt_range {f : Nat → Value} {n i : Nat} (hi : i < n) : valueAt ((List.range n).map fun j => (j, f j)) i = some (f i) := by
  unfold valueAt
  have : ∀ l : List Nat, i ∈ l → ((l.map fun j => (j, f j)).find? fun kv => decide (kv.1 = i)).map (·.2) = some (f i) := by
    intro l
    induction l with
    | nil => intro h; cases h
    | cons a r ih =>
      intro h
      rw [List.map_cons, List.find?_cons]
      by_cases e : a = i
      · subst e; simp
      · rw [decide_eq_false e]
        exact ih (by rcases List.mem_cons.mp h with q | q; exact absurd q.symm e; exact q)
  exact this _ (List.mem_range.mpr hi)

section
variable {prog : Program} {w : World} {A : Around} {E : Value → Shared → Prop} {D : Dg} {σ σ' : St} {g kp : Heap} {os : OsState} {L : Addr} {m m' : Str → Option Value} {s : Shared} {env : Env}

theorem Cx.ld {nm : Str} {pos : Pos} {v : Value} {Q : Value → Shared → Prop} (x : Cx prog w D g kp os env.locals m σ s) (hv : m nm = some v) (h : Q v s)
    (hk : env.scope.kind = .function := by rfl) (hl : env.kindOf nm = some .local := by rfl) (hd : (nm == ("__debug__" : Str)) = false := by decide) :
    wpAny (model prog w) A (eval (.Name nm pos) env) Q E s := wpAny_Name (wpAny_loadName_local hk hl x.ns hv h) hd

theorem Cx.sto {nm : Str} {v : Value} {Q : Unit → Shared → Prop} (x : Cx prog w D g kp os env.locals m σ s)
    (h : ∀ s', Cx prog w D g kp os env.locals (fun y => if y = nm then some v else m y) σ s' → Q () s')
    (hl : env.kindOf nm = some .local := by rfl) (hp : (env.scope.kind == .class || (env.scope.kind == .module && env.locals != env.globals)) = false := by rfl) :
    wpAny (model prog w) A (storeName env nm v) Q E s := wpAny_storeName_local hl x.ns (fun _ hn hs => h _ (x.name hn hs)) hp

/-! the tables read -/
theorem Rep.nodeN (F0 : Frame0 prog w D) (hs : Static prog w D s.heap) {xs : List (Nat × Value)} (hx : xs.map (·.1) = D.ks) : ∀ y ∈ xs, NodeOk prog w D.C s.heap y.1 :=
  fun y hy => hs.node _ ((F0.kslt _).mp (hx ▸ List.mem_map_of_mem hy))

theorem Cx.getN (F0 : Frame0 prog w D) (x : Cx prog w D g kp os L m σ s) {i : Nat} (hi : i < D.n) {v : Value} (hv : NV D.C i v) (hu : A.units + 1 < cLine) {Q : Value → Shared → Prop}
    (h : ∀ t s', Cx prog w D g kp os L m σ s' → Q (.int (σ.N i) t) s') : SubscriptOn (model prog w) A (.ref D.dN) v Q E s := by
  obtain ⟨xs, hr, hk, hval⟩ := x.rep.hN
  obtain ⟨t, ht⟩ := hval i hi
  exact ⟨"dict", _, slot_dict_getitem.lookup, hr.typeIs, getItem_N hu hr (Rep.nodeN F0 (x.static F0) hk) ((x.static F0).node i hi) hv ht fun tk => h t _ x.toks⟩

theorem Rep.nodeF (hs : Static prog w D s.heap) {xs : List (Nat × Value)} (hx : ∀ i, valueAt xs i = (σ.F i).map fun j => Value.ref (D.gs j)) (hlt : ∀ i j, σ.F i = some j → i < D.n ∧ j < D.n) : ∀ y ∈ xs, y.1 < D.n := by
  intro y hy
  obtain ⟨u, hu⟩ := valueAt_mem (xs := xs) (i := y.1) (v := y.2) hy
  rw [hx] at hu
  cases e : σ.F y.1 with
  | none => rw [e] at hu; cases hu
  | some j => exact (hlt _ _ e).1

theorem Cx.getF (F0 : Frame0 prog w D) (x : Cx prog w D g kp os L m σ s) {i j : Nat} (hi : i < D.n) (hj : σ.F i = some j) {v : Value} (hv : NV D.C i v) (hu : A.units + 1 < cLine) {Q : Value → Shared → Prop}
    (h : ∀ s', Cx prog w D g kp os L m σ s' → Q (.ref (D.gs j)) s') : SubscriptOn (model prog w) A (.ref D.dF) v Q E s := by
  obtain ⟨xs, hr, hval, hlt⟩ := x.rep.hF
  refine ⟨"dict", _, slot_dict_getitem.lookup, hr.typeIs, getItem_N (v := .ref (D.gs j)) hu hr (fun y hy => (x.static F0).node _ (Rep.nodeF (x.static F0) hval hlt y hy)) ((x.static F0).node i hi) hv ?_ fun tk => h _ x.toks⟩
  rw [hval, hj]; rfl

theorem Cx.getG (F0 : Frame0 prog w D) (x : Cx prog w D g kp os L m σ s) {i : Nat} (hi : i < D.n) {v : Value} (hv : NV D.C i v) (hu : A.units + 1 < cLine) {Q : Value → Shared → Prop}
    (h : ∀ s', Cx prog w D g kp os L m σ s' → Q (.ref (D.gs i)) s') : SubscriptOn (model prog w) A (.ref D.dG) v Q E s := by
  refine ⟨"dict", _, slot_dict_getitem.lookup, (x.static F0).dG.typeIs, getItem_N (v := .ref (D.gs i)) hu (x.static F0).dG (fun y hy => ?_) ((x.static F0).node i hi) hv (valueAt_range (f := fun i => Value.ref (D.gs i)) hi) fun tk => h _ x.toks⟩
  obtain ⟨a, ha, rfl⟩ := List.mem_map.mp hy
  exact (x.static F0).node _ (List.mem_range.mp ha)

theorem Cx.getR (F0 : Frame0 prog w D) (x : Cx prog w D g kp os L m σ s) {i : Nat} (hi : i < D.n) {v : Value} (hv : NV D.C i v) (hu : A.units + 1 < cLine) {Q : Value → Shared → Prop}
    (h : ∀ s', Cx prog w D g kp os L m σ s' → Q (.ref (D.lR i)) s') : SubscriptOn (model prog w) A (.ref D.dR) v Q E s := by
  refine ⟨"dict", _, slot_dict_getitem.lookup, (x.static F0).dR.typeIs, getItem_N (v := .ref (D.lR i)) hu (x.static F0).dR (fun y hy => ?_) ((x.static F0).node i hi) hv (valueAt_range (f := fun i => Value.ref (D.lR i)) hi) fun tk => h _ x.toks⟩
  obtain ⟨a, ha, rfl⟩ := List.mem_map.mp hy
  exact (x.static F0).node _ (List.mem_range.mp ha)

/-! the tables written -/
theorem Rep.kN (x : Rep prog w D σ s.heap) {h' : Heap} (hs : Heap.SameBut D.dN s.heap h') (F0 : Frame0 prog w D) : (∀ b o, Mut D b → b ≠ D.dN → s.heap.get? b = some o → h'.get? b = some o) :=
  fun b o _ hb e => hs.extBut b o hb e

theorem Cx.setN (F0 : Frame0 prog w D) (x : Cx prog w D g kp os L m σ s) {i : Nat} (hi : i < D.n) {v : Value} (hv : NV D.C i v) (hu : A.units + 1 < cLine) {kv : Int} {t : Tok} {Q : Unit → Shared → Prop}
    (h : ∀ s', Cx prog w D g kp os L m { σ with N := upd σ.N i kv } s' → Q () s') : wpAny (model prog w) A (setItem (.ref D.dN) v (.int kv t)) Q E s := by
  obtain ⟨xs, hr, hk, hval⟩ := x.rep.hN
  obtain ⟨c1, c2, c3⟩ := x.rep.classes
  have hlen : xs.length ≤ 12 := by
    have := bnd_len hr.nodup (n := D.n) (fun y hy => (F0.kslt y).mp (hk ▸ hy))
    rw [List.length_map] at this
    exact Nat.le_trans this F0.nlt
  refine setItem_N hu hr (Rep.nodeN F0 (x.static F0) hk) ((x.static F0).node i hi) (by omega) hv fun h' tk hr' hs => h _ (x.run (s' := { s with heap := h', toks := tk }) ?_ (fun b o hb e => hs.extBut b o (fun q => hb (.inl q)) e) x.gens rfl)
  have k : ∀ b o, b ≠ D.dN → s.heap.get? b = some o → h'.get? b = some o := fun b o hb e => hs.extBut b o hb e
  obtain ⟨fs, hf, hfr⟩ := x.rep.hF
  obtain ⟨vs, c, hS, hSr⟩ := x.rep.hS
  refine ⟨⟨_, hr', ?_, fun j hj => ?_⟩, ⟨fs, hf.at fun o e => k _ _ (Ne.symm F0.nF) e, hfr⟩, ⟨vs, c, k _ _ (Ne.symm c1) hS, hSr⟩, fun j hj => ⟨(x.rep.hG j hj).1.at fun o e => k _ _ (c3 j hj).1 e, (x.rep.hG j hj).2⟩⟩
  · rw [stored_keys, if_pos (by rw [hk]; exact (F0.kslt i).mpr hi), hk]
  · rw [valueAt_stored]
    by_cases e : j = i
    · subst e; rw [if_pos rfl]; exact ⟨t, by show _ = some (Value.int (upd σ.N j kv j) t); rw [upd_self]⟩
    · rw [if_neg e]; obtain ⟨t', ht'⟩ := hval j hj; exact ⟨t', by show _ = some (Value.int (upd σ.N i kv j) t'); rw [upd_ne _ _ e]; exact ht'⟩

theorem Cx.setF (F0 : Frame0 prog w D) (x : Cx prog w D g kp os L m σ s) {i j : Nat} (hi : i < D.n) (hj : j < D.n) {v : Value} (hv : NV D.C i v) (hu : A.units + 1 < cLine) {Q : Unit → Shared → Prop}
    (h : ∀ s', Cx prog w D g kp os L m { σ with F := upd σ.F i (some j) } s' → Q () s') : wpAny (model prog w) A (setItem (.ref D.dF) v (.ref (D.gs j))) Q E s := by
  obtain ⟨xs, hr, hval, hlt⟩ := x.rep.hF
  obtain ⟨c1, c2, c3⟩ := x.rep.classes
  have hlt' := Rep.nodeF (x.static F0) hval hlt
  have hlen : xs.length ≤ 12 := by
    have := bnd_len hr.nodup (n := D.n) (fun y hy => by obtain ⟨a, ha, rfl⟩ := List.mem_map.mp hy; exact hlt' a ha)
    rw [List.length_map] at this
    exact Nat.le_trans this F0.nlt
  refine setItem_N hu hr (fun y hy => (x.static F0).node _ (hlt' y hy)) ((x.static F0).node i hi) (by omega) hv fun h' tk hr' hs => h _ (x.run (s' := { s with heap := h', toks := tk }) ?_ (fun b o hb e => hs.extBut b o (fun q => hb (.inr (.inl q))) e) x.gens rfl)
  have k : ∀ b o, b ≠ D.dF → s.heap.get? b = some o → h'.get? b = some o := fun b o hb e => hs.extBut b o hb e
  obtain ⟨fs, hf, hfr⟩ := x.rep.hN
  obtain ⟨vs, c, hS, hSr⟩ := x.rep.hS
  refine ⟨⟨fs, hf.at fun o e => k _ _ F0.nF e, hfr⟩, ⟨_, hr', fun a => ?_, fun a b e => ?_⟩, ⟨vs, c, k _ _ (Ne.symm c2) hS, hSr⟩, fun j hj => ⟨(x.rep.hG j hj).1.at fun o e => k _ _ (c3 j hj).2.1 e, (x.rep.hG j hj).2⟩⟩
  · rw [valueAt_stored]
    by_cases e : a = i
    · subst e; rw [if_pos rfl]; show _ = Option.map _ (upd σ.F a (some j) a); rw [upd_self]; rfl
    · rw [if_neg e, hval]; show _ = Option.map _ (upd σ.F i (some j) a); rw [upd_ne _ _ e]
  · by_cases q : a = i
    · subst q
      have e' : upd σ.F a (some j) a = some b := e
      rw [upd_self] at e'; cases e'; exact ⟨hi, hj⟩
    · have e' : upd σ.F i (some j) a = some b := e
      rw [upd_ne _ _ q] at e'; exact hlt a b e'

theorem Cx.update (F0 : Frame0 prog w D) (x : Cx prog w D g kp os L m σ s) {i j : Nat} (hi : i < D.n) (hj : j < D.n) {Q : Value → Shared → Prop}
    (h : ∀ s', Cx prog w D g kp os L m { σ with G := upd σ.G i (unionI (σ.G i) (σ.G j)) } s' → Q .none s') : wpAny (model prog w) A (call (.builtin "set.update") [.ref (D.gs i), .ref (D.gs j)]) Q E s := by
  obtain ⟨c1, c2, c3⟩ := x.rep.classes
  refine update_I (x.rep.hG i hi).1 (x.rep.hG j hj).1 (x.rep.hG i hi).2 (x.rep.hG j hj).2 F0.pool fun h' d hI hs => h _ (x.run (s' := { s with heap := h', drawn := d }) ?_ (fun b o hb e => hs.extBut b o (fun q => hb (.inr (.inr (.inr ⟨i, hi, q⟩)))) e) x.gens rfl)
  have k : ∀ b o, b ≠ D.gs i → s.heap.get? b = some o → h'.get? b = some o := fun b o hb e => hs.extBut b o hb e
  obtain ⟨fs, hf, hfr⟩ := x.rep.hN
  obtain ⟨xs, hr, hrr⟩ := x.rep.hF
  obtain ⟨vs, c, hS, hSr⟩ := x.rep.hS
  refine ⟨⟨fs, hf.at fun o e => k _ _ (Ne.symm (c3 i hi).1) e, hfr⟩, ⟨xs, hr.at fun o e => k _ _ (Ne.symm (c3 i hi).2.1) e, hrr⟩, ⟨vs, c, k _ _ (Ne.symm (c3 i hi).2.2) hS, hSr⟩, fun a ha => ?_⟩
  by_cases q : a = i
  · subst q
    show SetI w h' (D.gs a) (upd σ.G a (unionI (σ.G a) (σ.G j)) a) ∧ ∀ y ∈ upd σ.G a (unionI (σ.G a) (σ.G j)) a, y ∈ D.pool
    rw [upd_self]
    refine ⟨hI, fun y hy => ?_⟩
    rcases mem_unionI.mp hy with q | q
    · exact (x.rep.hG a hi).2 y q
    · exact (x.rep.hG j hj).2 y q
  · show SetI w h' (D.gs a) (upd σ.G i (unionI (σ.G i) (σ.G j)) a) ∧ ∀ y ∈ upd σ.G i (unionI (σ.G i) (σ.G j)) a, y ∈ D.pool
    rw [upd_ne _ _ q]
    exact ⟨(x.rep.hG a ha).1.at fun o e => k _ _ (fun p => q (F0.gsI a i ha hi p)) e, (x.rep.hG a ha).2⟩

/-! the stack -/
theorem IsL.plainL {h : Heap} {l : Addr} {its : Array Value} {c : Nat} (x : IsL h l its c) : PlainL h l its := ⟨_, c, x, rfl, rfl, rfl⟩

theorem Cx.stack (x : Cx prog w D g kp os L m σ s) {S' : List Nat} {vs : List Value} {c : Nat} {h' : Heap} (hs : Heap.SameBut D.lS s.heap h') (hl : IsL h' D.lS vs.toArray c) (hv : NVs D.C S'.reverse vs) (hlt : ∀ j ∈ S', j < D.n) :
    Cx prog w D g kp os L m { σ with S := S' } { s with heap := h' } := by
  obtain ⟨c1, c2, c3⟩ := x.rep.classes
  refine x.run (s' := { s with heap := h' }) ?_ (fun b o hb e => hs.extBut b o (fun q => hb (.inr (.inr (.inl q)))) e) x.gens rfl
  have k : ∀ b o, b ≠ D.lS → s.heap.get? b = some o → h'.get? b = some o := fun b o hb e => hs.extBut b o hb e
  obtain ⟨fs, hf, hfr⟩ := x.rep.hN
  obtain ⟨xs, hr, hrr⟩ := x.rep.hF
  exact ⟨⟨fs, hf.at fun o e => k _ _ c1 e, hfr⟩, ⟨xs, hr.at fun o e => k _ _ c2 e, hrr⟩, ⟨vs, c, hl, hv, hlt⟩, fun j hj => ⟨(x.rep.hG j hj).1.at fun o e => k _ _ (c3 j hj).2.2 e, (x.rep.hG j hj).2⟩⟩

theorem Cx.append (x : Cx prog w D g kp os L m σ s) {i : Nat} (hi : i < D.n) {v : Value} (hv : NV D.C i v) (hz : σ.S.length < 100) {Q : Value → Shared → Prop}
    (h : ∀ s', Cx prog w D g kp os L m { σ with S := i :: σ.S } s' → Q .none s') : wpAny (model prog w) A (call (.builtin "list.append") [.ref D.lS, v]) Q E s := by
  obtain ⟨vs, c, hS, hSv, hSl⟩ := x.rep.hS
  have hlen : vs.length = σ.S.length := by rw [← hSv.length, List.length_reverse]
  have hlen' : vs.toArray.size ≤ sizeLine := by rw [List.size_toArray, sizeLine_eq]; omega
  refine call_meets slot_list_append hS.isList.typeIs entry_list_append (args_list_append _ _) (list_append D.lS vs.toArray c v hlen') ⟨hS, h _ ?_⟩
  have q := hS.update (fun xs => xs.push v)
  refine x.stack (vs := vs ++ [v]) (Heap.SameBut.update ..) (by rw [← List.push_toArray]; exact q) ?_ ?_
  · rw [List.reverse_cons]; exact hSv.append (.cons hv .nil)
  · intro j hj; rcases List.mem_cons.mp hj with rfl | hj
    · exact hi
    · exact hSl j hj

theorem Cx.pop (x : Cx prog w D g kp os L m σ s) {z : Nat} {r : List Nat} (hS0 : σ.S = z :: r) (hz : σ.S.length < 200) {Q : Value → Shared → Prop}
    (h : ∀ v s', NV D.C z v → Cx prog w D g kp os L m { σ with S := r } s' → Q v s') : wpAny (model prog w) A (call (.builtin "list.pop") [.ref D.lS]) Q E s := by
  obtain ⟨vs, c, hS, hSv, hSl⟩ := x.rep.hS
  have hlen : vs.length = σ.S.length := by rw [← hSv.length, List.length_reverse]
  have hlen' : vs.toArray.size ≤ sizeLine := by rw [List.size_toArray, sizeLine_eq]; omega
  rw [hS0, List.reverse_cons] at hSv
  have split : ∀ (js : List Nat) (z : Nat) (us : List Value), NVs D.C (js ++ [z]) us → ∃ us' v, us = us' ++ [v] ∧ NVs D.C js us' ∧ NV D.C z v := by
    intro js
    induction js with
    | nil => intro z us hu; cases hu with | cons a b => cases b; exact ⟨[], _, rfl, .nil, a⟩
    | cons j js ih =>
      intro z us hu
      cases hu with
      | cons a b =>
        obtain ⟨us', v, rfl, h1, h2⟩ := ih z _ b
        exact ⟨_ :: us', v, rfl, .cons a h1, h2⟩
  obtain ⟨us, v, rfl, h1, h2⟩ := split _ _ _ hSv
  have hne : (us ++ [v]).toArray.size ≠ 0 := by simp
  refine call_meets PySem.F.slot_list_pop hS.isList.typeIs PySem.F.entry_list_pop (PySem.F.args_list_pop_1 _) (PySem.MeetsSeq.list_pop_last D.lS _ c v (by simp) hlen') ⟨hS, h v _ h2 ?_⟩
  have q := hS.update (fun xs => xs.eraseIdxIfInBounds ((us ++ [v]).toArray.size - 1))
  have e : (us ++ [v]).toArray.eraseIdxIfInBounds ((us ++ [v]).toArray.size - 1) = us.toArray := by
    have e1 : (us ++ [v]).toArray = us.toArray.push v := by simp
    rw [e1]
    simp [Array.eraseIdxIfInBounds]
    rw [List.eraseIdx_append_of_length_le (Nat.le_refl _)]
    simp
  rw [e] at q
  exact x.stack (Heap.SameBut.update ..) q h1 fun j hj => hSl j (by rw [hS0]; exact List.mem_cons_of_mem _ hj)

theorem Cx.lenS (x : Cx prog w D g kp os L m σ s) (hz : σ.S.length < 200) {Q : Value → Shared → Prop}
    (h : ∀ t s', Cx prog w D g kp os L m σ s' → Q (.int (σ.S.length : Nat) t) s') : wpAny (model prog w) A (call (.builtin "len") [.ref D.lS]) Q E s := by
  obtain ⟨vs, c, hS, hSv, hSl⟩ := x.rep.hS
  have hlen : vs.length = σ.S.length := by rw [← hSv.length, List.length_reverse]
  refine Calls.call_len_list hS.isList (by rw [List.size_toArray]; omega) ?_
  rw [List.size_toArray, hlen]
  exact h _ _ x.toks

/-! a comparison of two nodes -/
theorem Cx.eqNode (F0 : Frame0 prog w D) (x : Cx prog w D g kp os L m σ s) {i j : Nat} (hi : i < D.n) (hj : j < D.n) {a b : Value} (ha : NV D.C i a) (hb : NV D.C j b) (hu : A.units + 1 < cLine) {Q : Value → Shared → Prop}
    (h : ∀ s', Cx prog w D g kp os L m σ s' → Q (.bool (decide (i = j))) s') : wpAny (model prog w) A (compareOp .Eq a b) Q E s := by
  cases hk : D.C.kd with
  | true =>
    obtain ⟨t, rfl⟩ := ha.1 hk
    obtain ⟨u, rfl⟩ := hb.1 hk
    refine wpAny_eq_int ?_
    have e : ((i : Int) == (j : Int)) = decide (i = j) := by
      by_cases q : i = j
      · subst q; simp
      · rw [decide_eq_false q]; simp; omega
    rw [e]; exact h _ x
  | false =>
    obtain rfl := ha.2 hk
    obtain rfl := hb.2 hk
    have h1 := (x.static F0).node i hi hk
    have h2 := (x.static F0).node j hj hk
    show wpAny _ _ (richCompare .Eq (.ref (D.C.ad i)) (.ref (D.C.ad j))) Q E s
    refine wpAny_richCompare_same_room h1.typeIs h2.typeIs F.slot_tuple_eq (wpAny_call_entry F.slot_tuple_eq h1.typeIs F.entry_tuple_eq (tuple_eq_tree h1 h2 ⟨_, rfl, (fun e => nomatch e), ?_⟩) (F.args_tuple_eq_2 _ _)) (by omega)
    have e : decide (tkey i = tkey j) = decide (i = j) := by
      by_cases q : i = j
      · subst q; simp
      · rw [decide_eq_false q, decide_eq_false fun e => q (tkey_inj e)]
    rw [e]; exact h _ x
end
end Mine

end PartJ4b
section PartJ4c
open PySem PySem.W PyProof.Rows
set_option maxRecDepth 100000
set_option maxHeartbeats 1000000
set_option linter.unusedVariables false
namespace Mine

section
variable {prog : Program} {w : World} {A : Around} {E : Value → Shared → Prop} {s : Shared} {env : Env}
theorem meth1 {o e : Expr} {name : Str} {apos pos : Pos} {Q : Value → Shared → Prop} {T id : String} (pa : PlainAttrs T) (sl : Slot T name id) (hty : typeOf (.builtin id) = pure (.type "method_descriptor"))
    (h : wpAny (model prog w) A (eval o env) (fun ov s₁ => s₁.TypeIs ov T ∧ (∀ a, ov = .ref a → ∃ ob, s₁.heap.get? a = some ob ∧ ob.dict = none) ∧
      wpAny (model prog w) A (eval e env) (fun v s₂ => wpAny (model prog w) A (call (.builtin id) [ov, v]) Q E s₂) E s₁) E s)
    (hbase : attributeBase o name env (eval o env) = eval o env := by rfl) (hline : (apos.endLine == pos.line) = true := by rfl)
    (htrees : backTo pos (starEach [e] env) = [(false, eval e env)] := by rfl) :
    wpAny (model prog w) A (eval (.Call (.Attribute o name apos) [e] [] pos) env) Q E s := by
  refine wpAny_Call_method1_late hbase hline htrees (wpAny_mono h (fun ov s₁ h₁ => ?_) fun _ _ x => x)
  exact ⟨T, id, pa, sl, hty, h₁.1, h₁.2.1, Calls.callWith_builtin rfl (Calls.evalArgs_plain (Calls.spliced_cons (wpAny_mono h₁.2.2 (fun v s₂ h₂ => Calls.spliced_nil h₂) fun _ _ x => x)))⟩
theorem meth0 {o : Expr} {name : Str} {apos pos : Pos} {Q : Value → Shared → Prop} {T id : String} (pa : PlainAttrs T) (sl : Slot T name id) (hty : typeOf (.builtin id) = pure (.type "method_descriptor"))
    (h : wpAny (model prog w) A (eval o env) (fun ov s₁ => s₁.TypeIs ov T ∧ (∀ a, ov = .ref a → ∃ ob, s₁.heap.get? a = some ob ∧ ob.dict = none) ∧
      wpAny (model prog w) A (call (.builtin id) [ov]) Q E s₁) E s)
    (hbase : attributeBase o name env (eval o env) = eval o env := by rfl) (hline : (apos.endLine == pos.line) = true := by rfl) :
    wpAny (model prog w) A (eval (.Call (.Attribute o name apos) [] [] pos) env) Q E s := by
  refine wpAny_Call_method0_late hbase hline (wpAny_mono h (fun ov s₁ h₁ => ?_) fun _ _ x => x)
  exact ⟨T, id, pa, sl, hty, h₁.1, h₁.2.1, Calls.callWith_builtin rfl (PyProof.Rows.evalArgs_none h₁.2.2)⟩
end

def forIn? : Stmt → List Stmt
  | .For _ _ b _ _ => b
  | .If _ b _ _ => b
  | .While _ b _ _ => b
  | _ => []
def tTurn : List Stmt := forIn? (tBody.getD 4 (.Pass default))
def tClose : List Stmt := forIn? (tBody.getD 5 (.Pass default))
def tPop : List Stmt := forIn? (tClose.getD 1 (.Pass default))
def tEnv (L a : Addr) (cd : Value) : Env := envOf (Str.ofString "traverse") tScope L a cd

/-- the names of a frame of traverse -/
structure Loc (D : Dg) (m : Str → Option Value) (xv X : Value) : Prop where
  x : m (Str.ofString "x") = some xv
  S : m (Str.ofString "S") = some (.ref D.lS)
  N : m (Str.ofString "N") = some (.ref D.dN)
  X : m (Str.ofString "X") = some X
  R : m (Str.ofString "R") = some (.ref D.dR)
  G : m (Str.ofString "G") = some (.ref D.dG)
  F : m (Str.ofString "F") = some (.ref D.dF)

def tNames : List Str := [Str.ofString "x", Str.ofString "S", Str.ofString "N", Str.ofString "X", Str.ofString "R", Str.ofString "G", Str.ofString "F"]
theorem Loc.set {D : Dg} {m : Str → Option Value} {xv X v : Value} {nm : Str} (l : Loc D m xv X) (hn : (tNames.all fun y => decide (y ≠ nm)) = true) : Loc D (fun y => if y = nm then some v else m y) xv X := by
  have h : ∀ y ∈ tNames, y ≠ nm := fun y hy => of_decide_eq_true (List.all_eq_true.mp hn y hy)
  unfold tNames at h
  simp only [List.mem_cons, List.not_mem_nil, or_false, forall_eq_or_imp, forall_eq] at h
  obtain ⟨h1, h2, h3, h4, h5, h6, h7⟩ := h
  exact ⟨(if_neg h1).trans l.x, (if_neg h2).trans l.S, (if_neg h3).trans l.N, (if_neg h4).trans l.X, (if_neg h5).trans l.R, (if_neg h6).trans l.G, (if_neg h7).trans l.F⟩

/-- what a call of traverse does -/
def TravOk (prog : Program) (w : World) (D : Dg) (k : Nat) : Prop :=
  ∀ (A : Around) (E : Value → Shared → Prop) (Q : Value → Shared → Prop) (s : Shared) (σ σ' : St) (i : Nat) (v X : Value), trav D.R k i σ = some σ' → i < D.n → NV D.C i v →
    Static prog w D s.heap → Rep prog w D σ s.heap → s.gens = #[] → A.handled = none → A.depth + k < recursionLimit → A.units + 3 * k + 10 < cLine →
    (∀ s', Rep prog w D σ' s'.heap → (∀ b o, ¬ Mut D b → s.heap.get? b = some o → s'.heap.get? b = some o) → s'.gens = #[] → s'.os = s.os → Q .none s') →
    wpAny (model prog w) A (call (.ref D.fT) [v, .ref D.lS, .ref D.dN, X, .ref D.dR, .ref D.dG, .ref D.dF]) Q E s

section
variable {prog : Program} {w : World} {A : Around} {E : Value → Shared → Prop} {D : Dg} {σ σ' : St} {g kp : Heap} {os : OsState} {L : Addr} {m m' : Str → Option Value} {s : Shared} {a : Addr} {cd xv X : Value} {i j k : Nat}

theorem Cx.tp (F0 : Frame0 prog w D) (x : Cx prog w D g kp os L m σ s) : Tp D.fT s.heap := F0.tp.mono fun b o e => (x.static F0).old b o e

/-- N[..] -/
theorem Cx.evN {nm : Str} {p1 p2 p3 : Pos} {v : Value} {Q : Value → Shared → Prop} (F0 : Frame0 prog w D) (x : Cx prog w D g kp os L m σ s) (hN : m (Str.ofString "N") = some (.ref D.dN)) (hm : m nm = some v) (hi : i < D.n) (hv : NV D.C i v) (hu : A.units + 1 < cLine)
    (h : ∀ t s', Cx prog w D g kp os L m σ s' → Q (.int (σ.N i) t) s') (hl : (tEnv L a cd).kindOf nm = some .local := by rfl) (hd : (nm == ("__debug__" : Str)) = false := by decide) :
    wpAny (model prog w) A (eval (.Subscript (.Name (Str.ofString "N") p1) (.Name nm p2) p3) (tEnv L a cd)) Q E s :=
  wpAny_Subscript_Name_late (Cx.ld (env := tEnv L a cd) x hN (Cx.ld (env := tEnv L a cd) x hm (x.getN F0 hi hv hu h) rfl hl hd))
theorem Cx.evF {nm : Str} {p1 p2 p3 : Pos} {v : Value} {Q : Value → Shared → Prop} (F0 : Frame0 prog w D) (x : Cx prog w D g kp os L m σ s) (hN : m (Str.ofString "F") = some (.ref D.dF)) (hm : m nm = some v) (hi : i < D.n) (hv : NV D.C i v) (hj : σ.F i = some j) (hu : A.units + 1 < cLine)
    (h : ∀ s', Cx prog w D g kp os L m σ s' → Q (.ref (D.gs j)) s') (hl : (tEnv L a cd).kindOf nm = some .local := by rfl) (hd : (nm == ("__debug__" : Str)) = false := by decide) :
    wpAny (model prog w) A (eval (.Subscript (.Name (Str.ofString "F") p1) (.Name nm p2) p3) (tEnv L a cd)) Q E s :=
  wpAny_Subscript_Name_late (Cx.ld (env := tEnv L a cd) x hN (Cx.ld (env := tEnv L a cd) x hm (x.getF F0 hi hj hv hu h) rfl hl hd))

theorem turn_walk (F0 : Frame0 prog w D) (H : TravOk prog w D k) (hh : A.handled = none) (hdp : A.depth + k < recursionLimit) (hu : A.units + 3 * k + 10 < cLine)
    (x : Cx prog w D g kp os L m σ s) (l : Loc D m xv X) (hi : i < D.n) (hx : NV D.C i xv) (hj : j < D.n) {yv : Value} (hym : m (Str.ofString "y") = some yv) (hy : NV D.C j yv)
    (ht : turn (trav D.R k) i j σ = some σ') {Q : Flow → Shared → Prop}
    (h : ∀ m' s', Cx prog w D g kp os L m' σ' s' → Loc D m' xv X → m' (Str.ofString "d") = m (Str.ofString "d") → Q .next s') :
    wpAny (model prog w) A (execs tTurn (tEnv L a cd)) Q E s := by
  have rest : ∀ σ₁ s₁, Cx prog w D g kp os L m σ₁ s₁ → turnB i j σ₁ = some σ' → wpAny (model prog w) A (execs tTurn.tail (tEnv L a cd)) Q E s₁ := by
    intro σ₁ s₁ x₁ hB
    unfold turnB at hB
    by_cases hc : σ₁.N i > 0 ∧ σ₁.N j ≠ 0
    case neg => rw [if_neg hc] at hB; cases hB
    rw [if_pos hc] at hB
    -- n_x = N[x]
    refine wpAny_execs_cons (wpAny_Assign_Name (Cx.evN F0 x₁ l.N l.x hi hx (by omega) fun t s₂ x₂ => Cx.sto (env := tEnv L a cd) x₂ fun s₃ x₃ => ?_))
    have l₃ := l.set (v := .int (σ₁.N i) t) (nm := Str.ofString "n_x") (by decide)
    -- assert n_x > 0
    refine wpAny_execs_cons (wpAny_Assert_holds (wpAny_isTrue_Compare1 (Cx.ld (env := tEnv L a cd) x₃ (if_pos rfl) (wpAny_Constant_int (gt_int (wpAny_truthy_bool ⟨by simpa using hc.1, ?_⟩))))))
    have x₄ : Cx prog w D g kp os L _ σ₁ { s₃ with toks := s₃.toks + 1 } := x₃.toks (dr := s₃.drawn)
    -- n_y = N[y]
    refine wpAny_execs_cons (wpAny_Assign_Name (Cx.evN (nm := Str.ofString "y") (i := j) (v := yv) F0 x₄ l₃.N ((if_neg (by decide)).trans hym) hj hy (by omega) fun u s₅ x₅ => Cx.sto (env := tEnv L a cd) x₅ fun s₆ x₆ => ?_))
    have l₆ := l₃.set (v := .int (σ₁.N j) u) (nm := Str.ofString "n_y") (by decide)
    -- assert n_y != 0
    refine wpAny_execs_cons (wpAny_Assert_holds (wpAny_isTrue_Compare1 (Cx.ld (env := tEnv L a cd) x₆ (if_pos rfl) (wpAny_Constant_int (ne_int (wpAny_truthy_bool ⟨by simpa using hc.2, ?_⟩))))))
    have x₇ : Cx prog w D g kp os L _ σ₁ { s₆ with toks := s₆.toks + 1 } := x₆.toks (dr := s₆.drawn)
    generalize hm₇ : (fun y => if y = Str.ofString "n_y" then some (Value.int (σ₁.N j) u) else (fun y => if y = Str.ofString "n_x" then some (Value.int (σ₁.N i) t) else m y) y) = m₇ at x₇ l₆
    have hny : m₇ (Str.ofString "n_y") = some (.int (σ₁.N j) u) := by rw [← hm₇]; rfl
    have hnx : m₇ (Str.ofString "n_x") = some (.int (σ₁.N i) t) := by rw [← hm₇]; rfl
    have hy₇ : m₇ (Str.ofString "y") = some yv := by rw [← hm₇]; exact hym
    have hd₇ : m₇ (Str.ofString "d") = m (Str.ofString "d") := by rw [← hm₇]; rfl
    -- F[x].update(F[y])
    have last : ∀ σ₂ s₂, Cx prog w D g kp os L m₇ σ₂ s₂ → joinS i j σ₂ = some σ' → wpAny (model prog w) A (execs (tTurn.drop 6) (tEnv L a cd)) Q E s₂ := by
      intro σ₂ s₂ x₂ hJ
      unfold joinS at hJ
      cases hfi : σ₂.F i with
      | none => rw [hfi] at hJ; cases hJ
      | some fi =>
        cases hfj : σ₂.F j with
        | none => rw [hfi, hfj] at hJ; cases hJ
        | some fj =>
          rw [hfi, hfj] at hJ
          obtain ⟨xs, _, _, hlt⟩ := x₂.rep.hF
          have hfi' := (hlt _ _ hfi).2
          have hfj' := (hlt _ _ hfj).2
          refine wpAny_execs_cons (wpAny_Expr_any (meth1 F.plainAttrs_set F.slot_set_update F.type_set_update (Cx.evF F0 x₂ l₆.F l₆.x hi hx hfi (by omega) fun s₃ x₃ => ?_)))
          refine ⟨(x₃.rep.hG fi hfi').1.typeIs, (x₃.rep.hG fi hfi').1.noDict, Cx.evF F0 x₃ l₆.F hy₇ hj hy hfj (by omega) fun s₄ x₄ => x₄.update F0 hfi' hfj' fun s₅ x₅ => wpAny_execs_nil (h m₇ _ ?_ l₆ hd₇)⟩
          rw [← Option.some.inj hJ]; exact x₅
    -- if n_y > 0 and n_y < n_x
    refine wpAny_execs_cons (wpAny_If (wpAny_isTrue_BoolOp (wpAny_allTrue_And_cons (wpAny_isTrue_Compare1 (Cx.ld (env := tEnv L a cd) x₇ hny (wpAny_Constant_int (gt_int (wpAny_truthy_bool ?_))))))))
    have x₈ : Cx prog w D g kp os L m₇ σ₁ { s₆ with toks := s₆.toks + 1 + 1 } := x₇.toks (dr := s₆.drawn)
    by_cases hp : σ₁.N j > 0
    · rw [show decide (0 < σ₁.N j) = true from decide_eq_true hp, if_pos rfl]
      refine wpAny_allTrue_And_cons (wpAny_isTrue_Compare1 (Cx.ld (env := tEnv L a cd) x₈ hny (Cx.ld (env := tEnv L a cd) x₈ hnx (wpAny_lt_int (wpAny_truthy_bool ?_)))))
      by_cases hq : σ₁.N j < σ₁.N i
      · rw [decide_eq_true hq, if_pos rfl]
        refine wpAny_allTrue_And_nil ?_
        rw [if_pos rfl]
        refine wpAny_execs_cons (wpAny_Assign_Subscript (Cx.ld (env := tEnv L a cd) x₈ hny (Cx.ld (env := tEnv L a cd) x₈ l₆.N (Cx.ld (env := tEnv L a cd) x₈ l₆.x (x₈.setN F0 hi hx (by omega) fun s₉ x₉ => ?_)))))
        refine wpAny_execs_nil (last _ _ x₉ ?_)
        rw [lower, if_pos ⟨hp, hq⟩] at hB; exact hB
      · rw [decide_eq_false hq, if_neg Bool.false_ne_true, if_neg Bool.false_ne_true]
        refine wpAny_execs_nil (last _ _ x₈ ?_)
        rw [lower, if_neg fun e => hq e.2] at hB; exact hB
    · rw [show decide (0 < σ₁.N j) = false from decide_eq_false hp, if_neg Bool.false_ne_true, if_neg Bool.false_ne_true]
      refine wpAny_execs_nil (last _ _ x₈ ?_)
      rw [lower, if_neg fun e => hp e.1] at hB; exact hB
  -- if N[y] == 0
  refine wpAny_execs_cons (wpAny_If (wpAny_isTrue_Compare1 (Cx.evN F0 x l.N hym hj hy (by omega) fun t s₁ x₁ => wpAny_Constant_int (wpAny_eq_int (wpAny_truthy_bool ?_)))))
  have x₂ : Cx prog w D g kp os L _ σ { s₁ with toks := s₁.toks + 1 } := x₁.toks (dr := s₁.drawn)
  unfold turn at ht
  by_cases hz : σ.N j = 0
  · rw [if_pos hz] at ht
    obtain ⟨σ₁, h1, h2⟩ := Option.bind_eq_some_iff.mp ht
    rw [show (σ.N j == 0) = true by simp [hz], if_pos rfl]
    obtain ⟨⟨mg, mb, o, pm, cdv, doc, t1, t2, t3, t4, t5, t6, t7, t8⟩, hl⟩ := x₂.tp F0
    refine wpAny_execs_cons (wpAny_Expr_any (Call_ (Calls.Name_function_global rfl rfl (Calls.loadGlobal_global t1 t5 (callWith_def t7 ?_)))))
    refine args_cons (Cx.ld (env := tEnv L a cd) x₂ hym (args_cons (Cx.ld (env := tEnv L a cd) x₂ l.S (args_cons (Cx.ld (env := tEnv L a cd) x₂ l.N (args_cons (Cx.ld (env := tEnv L a cd) x₂ l.X
      (args_cons (Cx.ld (env := tEnv L a cd) x₂ l.R (args_cons (Cx.ld (env := tEnv L a cd) x₂ l.G (args_cons (Cx.ld (env := tEnv L a cd) x₂ l.F (args_nil ⟨t6, ?_⟩))))))))))))))
    refine H A _ _ _ σ σ₁ j yv X h1 hj hy (x₂.static F0) x₂.rep x₂.gens hh hdp hu fun s₃ hr hk hg ho => ?_
    exact wpAny_execs_nil (rest _ _ (x₂.run hr hk hg ho) h2)
  · rw [if_neg hz] at ht
    rw [show (σ.N j == 0) = false by simp [hz], if_neg Bool.false_ne_true]
    exact wpAny_execs_nil (rest _ _ x₂ ht)
end
end Mine

end PartJ4c
section PartJ4d
open PySem PySem.W PyProof.Rows
set_option maxRecDepth 100000
set_option maxHeartbeats 1000000
set_option linter.unusedVariables false
namespace Mine

theorem popTo_lt {x fx : Nat} : ∀ {S : List Nat} {σ σ' : St}, popTo x fx S σ = some σ' → S ≠ [] := by
  intro S σ σ' h e; subst e; cases h

section
variable {prog : Program} {w : World} {A : Around} {E : Value → Shared → Prop} {D : Dg} {σ σ' : St} {g kp : Heap} {os : OsState} {L : Addr} {m m' : Str → Option Value} {s : Shared} {a : Addr} {cd xv X : Value} {i j k : Nat}

/-- one turn of the while loop -/
theorem pop_turn (F0 : Frame0 prog w D) (hu : A.units + 10 < cLine) (x : Cx prog w D g kp os L m σ s) (l : Loc D m xv X) (hi : i < D.n) (hx : NV D.C i xv) {fx : Nat} (hfx : fx < D.n)
    (hf : m (Str.ofString "f_x") = some (.ref (D.gs fx))) (hz : σ.S.length < 200) {z : Nat} {r : List Nat} (hS : σ.S = z :: r) {Q : Flow → Shared → Prop}
    (h : ∀ m' s', Cx prog w D g kp os L m' { σ with S := r, N := upd σ.N z (-1), F := upd σ.F z (some fx) } s' → Loc D m' xv X → m' (Str.ofString "f_x") = some (.ref (D.gs fx)) → (if z = i then Q .brk s' else Q .next s')) :
    wpAny (model prog w) A (execs tPop (tEnv L a cd)) Q E s := by
  have hzl : z < D.n := by obtain ⟨_, _, _, _, hl⟩ := x.rep.hS; exact hl z (by rw [hS]; exact .head _)
  -- z = S.pop()
  refine wpAny_execs_cons (wpAny_Assign_Name (meth0 F.plainAttrs_list F.slot_list_pop F.type_list_pop (Cx.ld (env := tEnv L a cd) x l.S ?_)))
  obtain ⟨vs, c, hSl, _⟩ := id x.rep.hS
  refine ⟨hSl.isList.typeIs, fun b e => by injection e with e; subst e; exact ⟨_, hSl, rfl⟩, x.pop hS hz fun v s₁ hv x₁ => ?_⟩
  refine Cx.sto (env := tEnv L a cd) x₁ fun s₂ x₂ => ?_
  have l₂ := l.set (v := v) (nm := Str.ofString "z") (by decide)
  -- N[z] = -1
  refine wpAny_execs_cons (wpAny_Assign_Subscript (UnaryOp_ (wpAny_Constant_int (neg_int ?_))))
  have x₃ : Cx prog w D g kp os L _ { σ with S := r } { s₂ with toks := s₂.toks + 1 + 1 } := x₂.toks (dr := s₂.drawn)
  refine Cx.ld (env := tEnv L a cd) x₃ l₂.N (Cx.ld (env := tEnv L a cd) x₃ (if_pos rfl) (x₃.setN F0 hzl hv (by omega) fun s₄ x₄ => ?_))
  -- F[z] = f_x
  refine wpAny_execs_cons (wpAny_Assign_Subscript (Cx.ld (env := tEnv L a cd) x₄ ((if_neg (by decide)).trans hf) (Cx.ld (env := tEnv L a cd) x₄ l₂.F (Cx.ld (env := tEnv L a cd) x₄ (if_pos rfl) (x₄.setF F0 hzl hfx hv (by omega) fun s₅ x₅ => ?_)))))
  -- if z == x
  refine wpAny_execs_cons (wpAny_If (wpAny_isTrue_Compare1 (Cx.ld (env := tEnv L a cd) x₅ (if_pos rfl) (Cx.ld (env := tEnv L a cd) x₅ l₂.x (x₅.eqNode F0 hzl hi hv hx (by omega) fun s₆ x₆ => wpAny_truthy_bool ?_)))))
  have := h _ s₆ x₆ l₂ ((if_neg (by decide)).trans hf)
  by_cases e : z = i
  · rw [decide_eq_true e, if_pos rfl]
    rw [if_pos e] at this
    exact wpAny_execs_cons (wpAny_Break this)
  · rw [decide_eq_false e, if_neg Bool.false_ne_true]
    rw [if_neg e] at this
    exact wpAny_execs_nil (wpAny_execs_nil this)

/-- if N[x] == d -/
theorem close_walk (F0 : Frame0 prog w D) (hu : A.units + 10 < cLine) (x : Cx prog w D g kp os L m σ s) (l : Loc D m xv X) (hi : i < D.n) (hx : NV D.C i xv) {d : Int} {t : Tok}
    (hd : m (Str.ofString "d") = some (.int d t)) (hc : close' i d σ = some σ') {Q : Flow → Shared → Prop} (h : ∀ m' s', Cx prog w D g kp os L m' σ' s' → Q .next s') :
    wpAny (model prog w) A (execs (tBody.drop 5) (tEnv L a cd)) Q E s := by
  unfold close' at hc
  refine wpAny_execs_cons (wpAny_If (wpAny_isTrue_Compare1 (Cx.evN F0 x l.N l.x hi hx (by omega) fun u s₁ x₁ => Cx.ld (env := tEnv L a cd) x₁ hd (wpAny_eq_int (wpAny_truthy_bool ?_)))))
  by_cases e : σ.N i = d
  case neg =>
    rw [if_neg e] at hc; cases hc
    rw [show (σ.N i == d) = false by simp [e], if_neg Bool.false_ne_true]
    exact wpAny_execs_nil (wpAny_execs_nil (h _ _ x₁))
  rw [if_pos e] at hc
  rw [show (σ.N i == d) = true by simp [e], if_pos rfl]
  cases hf : σ.F i with
  | none => rw [hf] at hc; cases hc
  | some fx =>
    rw [hf] at hc
    dsimp only at hc
    by_cases hz : σ.S.length < 200
    case neg => rw [if_neg hz] at hc; cases hc
    rw [if_pos hz] at hc
    obtain ⟨_, _, _, hlt⟩ := x₁.rep.hF
    have hfx := (hlt _ _ hf).2
    -- f_x = F[x]
    refine wpAny_execs_cons (wpAny_Assign_Name (Cx.evF F0 x₁ l.F l.x hi hx hf (by omega) fun s₂ x₂ => Cx.sto (env := tEnv L a cd) x₂ fun s₃ x₃ => ?_))
    have l₃ := l.set (v := .ref (D.gs fx)) (nm := Str.ofString "f_x") (by decide)
    refine wpAny_execs_cons (wpAny_While (codeAny_whileLoop (fun n s => ∃ σ m, σ.S.length = n ∧ Cx prog w D g kp os L m σ s ∧ Loc D m xv X ∧ m (Str.ofString "f_x") = some (.ref (D.gs fx)) ∧ σ.S.length < 200 ∧ popTo i fx σ.S σ = some σ') ?_ _ ⟨σ, _, rfl, x₃, l₃, if_pos rfl, hz, hc⟩))
    rintro n s ⟨σ, m, rfl, x, l, hf, hz, hc⟩
    refine wpAny_isTrue_value (wpAny_Constant_bool (wpAny_truthy_bool ?_))
    rw [if_pos rfl]
    cases hS : σ.S with
    | nil => rw [hS] at hc; cases hc
    | cons z r =>
      refine pop_turn F0 hu x l hi hx hfx hf hz hS fun m' s' x' l' hf' => ?_
      rw [hS] at hc
      unfold popTo at hc
      by_cases e : z = i
      · rw [if_pos e] at hc ⊢
        cases hc
        exact wpAny_execs_nil (wpAny_execs_nil (h _ _ x'))
      · rw [if_neg e] at hc ⊢
        refine ⟨r.length, by simp, _, m', rfl, x', l', hf', ?_, hc⟩
        show r.length < 200
        rw [hS] at hz; simp at hz; omega
end
end Mine

end PartJ4d
section PartJ4e
open PySem PySem.W PyProof.Rows
set_option maxRecDepth 100000
set_option maxHeartbeats 1000000
set_option linter.unusedVariables false
namespace Mine

section
variable {prog : Program} {w : World} {A : Around} {E : Value → Shared → Prop} {D : Dg} {σ σ' : St} {g kp : Heap} {os : OsState} {L : Addr} {m m' : Str → Option Value} {s : Shared} {a : Addr} {cd xv X : Value} {i j k : Nat}

theorem turns_cons_some {tv : Nat → St → Option St} {x y : Nat} {ys : List Nat} {σ σ' : St} (h : turns tv x (y :: ys) σ = some σ') : ∃ σ₁, turn tv x y σ = some σ₁ ∧ turns tv x ys σ₁ = some σ' := by
  unfold turns at h
  exact Option.bind_eq_some_iff.mp h

theorem for_walk (F0 : Frame0 prog w D) (H : TravOk prog w D k) (hh : A.handled = none) (hdp : A.depth + k < recursionLimit) (hu : A.units + 3 * k + 10 < cLine)
    (x : Cx prog w D g g os L m σ s) (l : Loc D m xv X) (hi : i < D.n) (hx : NV D.C i xv) {dv : Value} (hd : m (Str.ofString "d") = some dv)
    (ht : turns (trav D.R k) i (D.R i) σ = some σ') {Q : Flow → Shared → Prop}
    (h : ∀ m' s', Cx prog w D g g os L m' σ' s' → Loc D m' xv X → m' (Str.ofString "d") = some dv → wpAny (model prog w) A (execs (tBody.drop 5) (tEnv L a cd)) Q E s') :
    wpAny (model prog w) A (execs (tBody.drop 4) (tEnv L a cd)) Q E s := by
  refine wpAny_execs_cons (wpAny_For (wpAny_Subscript_Name_late (Cx.ld (env := tEnv L a cd) x l.R (Cx.ld (env := tEnv L a cd) x l.x (x.getR F0 hi hx (by omega) fun s₁ x₁ => ?_)))))
  obtain ⟨vs, hvs, hnv⟩ := (x₁.static F0).lR i hi
  refine wpAny_pyIter_list hvs ?_
  have hc := x₁.new (Nat.le_refl _)
  have x₂ : Cx prog w D g g os L m σ { s₁ with heap := s₁.heap.push { cls := .type "list_iterator", data := .fields #[.ref (D.lR i), .int 0 0] } } :=
    x₁.grow (tk := s₁.toks) (dr := s₁.drawn) fun b o e => Heap.get?_push_of_some _ e
  have hit : ({ s₁ with heap := s₁.heap.push { cls := .type "list_iterator", data := .fields #[.ref (D.lR i), .int 0 0] } } : Shared).heap.IsListIter s₁.heap.objs.size (D.lR i) 0 := ⟨_, Heap.get?_push_size _ rfl, rfl, rfl⟩
  have hvs₀ : ∀ s' σ m, Cx prog w D g g os L m σ s' → s'.heap.IsList (D.lR i) vs.toArray := by
    intro s' σ₀ m₀ x'
    obtain ⟨vs', h1, _⟩ := x.st.lR i hi
    have h2 := h1.at fun o e => x₁.keep _ o (F0.ilR i hi) e
    have h3 := h1.at fun o e => x'.keep _ o (F0.ilR i hi) e
    obtain ⟨o, ho, hc, n, hd⟩ := h2
    obtain ⟨o', ho', hc', n', hd'⟩ := hvs
    rw [ho] at ho'
    cases ho'
    rw [hd] at hd'
    injection hd' with e1 e2
    rw [← e1]; exact h3
  generalize ({ s₁ with heap := s₁.heap.push { cls := .type "list_iterator", data := .fields #[.ref (D.lR i), .int 0 0] } } : Shared) = s₂ at x₂ hit ⊢
  generalize s₁.heap.objs.size = it at hc hit ⊢
  refine codeAny_forLoop (fun n s => ∃ σ m c, (D.R i).length = n + c ∧ Cx prog w D g g os L m σ s ∧ Loc D m xv X ∧ m (Str.ofString "d") = some dv ∧ s.heap.IsListIter it (D.lR i) c ∧ turns (trav D.R k) i ((D.R i).drop c) σ = some σ')
    ?_ (D.R i).length ⟨σ, m, 0, rfl, x₂, l, hd, hit, ht⟩
  rintro n s ⟨σ, m, c, hn, x, l, hd, hit, ht⟩
  have hlen := hnv.length
  cases hj : (D.R i)[c]? with
  | none =>
    have hc0 : (D.R i).length ≤ c := List.getElem?_eq_none_iff.mp hj
    refine wpAny_pyNext_list_end hh hit (hvs₀ _ _ _ x) (by simp; omega) fun h' he => ?_
    refine wpAny_execs_nil ?_
    have hdr : (D.R i).drop c = [] := List.drop_eq_nil_of_le hc0
    rw [hdr] at ht
    cases ht
    exact h m _ (x.other (tk := s.toks) (dr := s.drawn) hc fun b o hb e => he b o hb e) l hd
  | some j =>
    have hjR : j ∈ D.R i := List.mem_of_getElem? hj
    have hjn := F0.rlt i hi j hjR
    obtain ⟨yv, hyv, hy⟩ := hnv.at hj
    have hcl : c < (D.R i).length := (List.getElem?_eq_some_iff.mp hj).1
    refine wpAny_pyNext_list_item hit (hvs₀ _ _ _ x) (x := yv) (by simpa using hyv) fun h' hit' hs' => ?_
    have x₃ : Cx prog w D g g os L m σ { s with heap := h' } := x.other (tk := s.toks) (dr := s.drawn) hc fun b o hb e => hs'.extBut b o hb e
    refine wpAny_assign_Name (wpAny_storeName_local (env := tEnv L a cd) rfl x₃.ns fun h₄ hn₄ hs₄ => ?_)
    have x₄ : Cx prog w D g g os L _ σ { s with heap := h₄, toks := s.toks + 1 } := x₃.name hn₄ hs₄
    have hit₄ : h₄.IsListIter it (D.lR i) (c + 1) := by
      obtain ⟨o, ho, r⟩ := hit'
      exact ⟨o, hs₄.extBut _ o hc.1 ho, r⟩
    have hdr : (D.R i).drop c = j :: (D.R i).drop (c + 1) := by
      obtain ⟨h1, h2⟩ := List.getElem?_eq_some_iff.mp hj
      rw [List.drop_eq_getElem_cons h1, h2]
    rw [hdr] at ht
    obtain ⟨σ₁, t1, t2⟩ := turns_cons_some ht
    refine turn_walk F0 H hh hdp hu x₄.rebase (l.set (by decide)) hi hx hjn (if_pos rfl) hy t1 fun m' s' x' l' hd' => ?_
    refine ⟨n - 1, by omega, σ₁, m', c + 1, by omega, x'.base, l', hd'.trans ((if_neg (by decide)).trans hd), ?_, t2⟩
    obtain ⟨o, ho, r⟩ := hit₄
    exact ⟨o, x'.also _ o hc.1 hc.2.1 ho, r⟩

theorem trav_walk (F0 : Frame0 prog w D) : ∀ k, TravOk prog w D k := by
  intro k
  induction k with
  | zero => intro A E Q s σ σ' i v X ht; cases ht
  | succ k ih =>
    intro A E Q s σ σ' i v X ht hi hv hst hrep hg hh hdp hu h
    unfold trav at ht
    by_cases hz : σ.S.length ≥ 100
    · rw [if_pos hz] at ht; cases ht
    rw [if_neg hz] at ht
    obtain ⟨σ₁, t1, t2⟩ := Option.bind_eq_some_iff.mp ht
    obtain ⟨⟨mg, mb, o, pm, cdv, doc, e1, e2, e3, e4, e5, e6, e7, e8⟩, hl⟩ := F0.tp.mono hst.old
    refine wpAny_call (call_pos_ret (params := tParams) (body := tBody) (scope := tScope) (by omega) e6 e7 hl e8 rfl (locs rfl) (fun h₁ Fh => ?_) rfl rfl rfl (by decide))
    have x : Cx prog w D s.heap s.heap s.os (tEnv s.heap.objs.size D.fT cdv).locals _ σ { s with heap := h₁, toks := s.toks + 7 } :=
      ⟨Fh.ns, fun b o _ e => Fh.keep b o e, hst, hrep.at fun b o _ e => Fh.keep b o e, hg, rfl, Heap.get?_none_of_le (Nat.le_refl _), fun hm => Nat.lt_irrefl _ (hrep.lt hm), fun b o _ _ e => Fh.keep b o e⟩
    have l : Loc D (fun y => (((tParams.args.map (·.arg)).zip [v, .ref D.lS, .ref D.dN, X, .ref D.dR, .ref D.dG, .ref D.dF]).reverse.lookup y)) v X := ⟨rfl, rfl, rfl, rfl, rfl, rfl, rfl⟩
    generalize (fun y => (((tParams.args.map (·.arg)).zip [v, Value.ref D.lS, .ref D.dN, X, .ref D.dR, .ref D.dG, .ref D.dF]).reverse.lookup y)) = m at x l
    -- S.append(x)
    have hhd : (A.deeper (tEnv s.heap.objs.size D.fT cdv)).handled = none := hh
    have hdd : (A.deeper (tEnv s.heap.objs.size D.fT cdv)).depth + k < recursionLimit := by show A.depth + 1 + k < _; omega
    have hud : (A.deeper (tEnv s.heap.objs.size D.fT cdv)).units + 3 * k + 10 < cLine := by show A.units + 3 + 3 * k + 10 < _; omega
    show wpAny _ (A.deeper (tEnv s.heap.objs.size D.fT cdv)) (execs tBody (tEnv s.heap.objs.size D.fT cdv)) _ _ _
    generalize A.deeper (tEnv s.heap.objs.size D.fT cdv) = A' at hhd hdd hud ⊢
    refine wpAny_execs_cons (wpAny_Expr_any (meth1 F.plainAttrs_list slot_list_append F.type_list_append (Cx.ld (env := tEnv _ _ _) x l.S ?_)))
    obtain ⟨vs, c, hSl, _⟩ := id x.rep.hS
    refine ⟨hSl.isList.typeIs, fun b e => by injection e with e; subst e; exact ⟨_, hSl, rfl⟩, Cx.ld (env := tEnv _ _ _) x l.x (x.append hi hv (by omega) fun s₁ x₁ => ?_)⟩
    -- d = len(S)
    obtain ⟨⟨mg', mb', o', pm', cdv', doc', q1, q2, q3, q4, q5, q6, q7, q8⟩, hl'⟩ := x₁.tp F0
    refine wpAny_execs_cons (wpAny_Assign_Name (Call_ (Calls.Name_function_global rfl rfl (Calls.loadGlobal_builtin q1 q3 q2 q4 (callWith_builtin1 (args_cons (Cx.ld (env := tEnv _ _ _) x₁ l.S (args_nil (x₁.lenS (by show (i :: σ.S).length < 200; simp; omega) fun t s₂ x₂ => ?_)))))))))
    refine Cx.sto (env := tEnv _ _ _) x₂ fun s₃ x₃ => ?_
    have l₃ := l.set (v := .int (((i :: σ.S).length : Nat) : Int) t) (nm := Str.ofString "d") (by decide)
    -- N[x] = d
    refine wpAny_execs_cons (wpAny_Assign_Subscript (Cx.ld (env := tEnv _ _ _) x₃ (if_pos rfl) (Cx.ld (env := tEnv _ _ _) x₃ l₃.N (Cx.ld (env := tEnv _ _ _) x₃ l₃.x (x₃.setN F0 hi hv (by omega) fun s₄ x₄ => ?_)))))
    -- F[x] = G[x]
    refine wpAny_execs_cons (wpAny_Assign_Subscript (wpAny_Subscript_Name_late (Cx.ld (env := tEnv _ _ _) x₄ l₃.G (Cx.ld (env := tEnv _ _ _) x₄ l₃.x (x₄.getG F0 hi hv (by omega) fun s₅ x₅ => Cx.ld (env := tEnv _ _ _) x₅ l₃.F (Cx.ld (env := tEnv _ _ _) x₅ l₃.x (x₅.setF F0 hi hi hv (by omega) fun s₆ x₆ => ?_)))))))
    refine for_walk (σ := begin' i σ) F0 ih hhd hdd hud x₆ l₃ hi hv (if_pos rfl) t1 fun m' s' x' l' hd' => ?_
    refine close_walk F0 (by omega) x' l' hi hv hd' t2 fun m'' s'' x'' => ?_
    exact h _ x''.rep (fun b o hb e => x''.keep b o hb e) x''.gens x''.hos
end
end Mine

end PartJ4e
section PartJ5a
open PySem PySem.W PyProof.Rows
set_option maxRecDepth 100000
set_option maxHeartbeats 1000000
set_option linter.unusedVariables false
namespace Mine

def KeepD (s s' : Shared) : Prop := ∃ h' tk dr, s' = { s with heap := h', toks := tk, drawn := dr } ∧ ∀ b o, s.heap.get? b = some o → h'.get? b = some o
theorem KeepD.refl (s : Shared) : KeepD s s := ⟨s.heap, s.toks, s.drawn, rfl, fun _ _ e => e⟩

theorem stored_new {xs : List (Nat × Value)} {i : Nat} {v : Value} (h : i ∉ xs.map (·.1)) : stored xs i v = xs ++ [(i, v)] := by
  unfold stored
  have e : (xs.any fun kv => decide (kv.1 = i)) = false := by
    rw [Bool.eq_false_iff]
    intro q
    rw [List.any_eq_true] at q
    obtain ⟨x, hx, e⟩ := q
    exact h (List.mem_map.mpr ⟨x, hx, of_decide_eq_true e⟩)
  rw [e]
  simp

section
variable {prog : Program} {w : World} {A : Around} {E : Value → Shared → Prop} {R : Result → Shared → Prop} {s : Shared} {C : Nds} {d : Addr} {xs : List (Nat × Value)} {i : Nat}

theorem dictSet_N {v : Value} {Q : Unit → Shared → Prop} (hu : A.units < cLine) (hm : RawN prog w C s.heap d xs) (hn : ∀ x ∈ xs, NodeOk prog w C s.heap x.1) (hi : NodeOk prog w C s.heap i)
    (hz : xs.length ≤ 4096) {kv : Value} (hkv : NV C i kv)
    (h : ∀ h' tk, RawN prog w C h' d (stored xs i v) → Heap.SameBut d s.heap h' → Q () { s with heap := h', toks := tk }) : wpAny (model prog w) A (dictSet d kv v) Q E s := by
  have hnd := hm.nodup
  cases hk : C.kd with
  | true =>
    have hm' := hm.dictOf hk
    obtain ⟨u, rfl⟩ := hkv.1 hk
    refine wpAny_dictSet_pairs (intKind_is prog w _ _) hm' (fun h' hd' hs' => h h' _ (RawN.of_dictOf (by rw [← stored_fI]; exact hd') (stored_nodup i v hnd) hk) hs') ?_
    rw [List.length_map, sizeLine_eq]; omega
  | false =>
    have hm' := hm.dictOfH hk hn
    obtain rfl := hkv.2 hk
    refine wpAny_dictSet_heap (knd := tupK prog w) (k := tkey i) (show (tupK prog w).room A from ?_) (hi hk) hm' (fun h' hd' hs' => h h' _ (RawN.of_dictOfH (by rw [← storedH_fT]; exact hd') (stored_nodup i v hnd) hk) hs') ?_
    · exact hu
    · rw [List.length_map, sizeLine_eq]; omega
end

section
variable {prog : Program} {w : World} {A : Around} {E : Value → Shared → Prop} {env : Env} {C : Nds}

/-- the values of a dict comprehension are apart from each other -/
def ApartV (us : List Value) : Prop := ∀ (k k' : Nat) (a : Addr), us[k]? = some (Value.ref a) → us[k']? = some (Value.ref a) → k = k'

theorem compD_loop {vx iter : Expr} {x : Str} {pk px : Pos} {scope : Scope} {pos : Pos} {s₂ : Shared} {I D : Addr} {fp wr : List Addr} {js : List Nat} {St : Nat → Heap → Prop} {cenv : Env} {h₀ : Heap} {tk₀ : Nat} {m₀ : Str → Option Value}
    {R : Result → Shared → Prop} {V : Nat → Value → Heap → Prop}
    (W : Walks prog w A I fp wr js.length (fun k v => ∃ i, js[k]? = some i ∧ NV C i v) St) (hu : A.units < cLine)
    (hxl : cenv.kindOf x = some .local) (hp : (cenv.scope.kind == .class || (cenv.scope.kind == .module && cenv.locals != cenv.globals)) = false) (hk : cenv.scope.kind = .function) (hxd : (x == ("__debug__" : Str)) = false)
    (hDC : D ≠ cenv.locals) (hDf : D ∉ fp) (hCf : cenv.locals ∉ fp) (hnd : js.Nodup) (hlen : js.length ≤ 4096)
    (hst : St 0 h₀) (hacc : RawN prog w C h₀ D []) (hn : h₀.Ns cenv.locals m₀) (hold : ∀ b o, s₂.heap.get? b = some o → h₀.get? b = some o) (hDn : s₂.heap.get? D = none) (hCn : s₂.heap.get? cenv.locals = none)
    (hno : ∀ i ∈ js, NodeOk prog w C s₂.heap i) (hwn : ∀ b ∈ wr, ∀ i ∈ js, C.kd = false → C.ad i ≠ b)
    (hV : ∀ i v h h', V i v h → (∀ b o, b ∉ wr → b ≠ D → b ≠ cenv.locals → h.get? b = some o → h'.get? b = some o) → V i v h') (hlive : ∀ i a h, V i (.ref a) h → ∃ o, h.get? a = some o)
    (hval : ∀ i v s₃ m₃ E', i ∈ js → NV C i v → s₃.heap.Ns cenv.locals m₃ → m₃ x = some v → (∀ b o, b ∉ wr → s₂.heap.get? b = some o → s₃.heap.get? b = some o) → s₃.gens = s₂.gens → s₃.os = s₂.os →
      wpAny (model prog w) A (eval vx cenv) (fun y s₄ => V i y s₄.heap ∧ (∀ a, y = .ref a → s₃.heap.get? a = none) ∧ KeepD s₃ s₄) E' s₃)
    (hR : ∀ (h' : Heap) (tk : Nat) (dr : Drawn) (m' : Str → Option Value) (us : List Value), h'.Ns cenv.locals m' → RawN prog w C h' D (js.zip us) → us.length = js.length → (∀ (k i : Nat) (v : Value), js[k]? = some i → us[k]? = some v → V i v h') → ApartV us →
      (∀ b o, b ∉ wr → s₂.heap.get? b = some o → h'.get? b = some o) → R (.ok .next) { s₂ with heap := h', toks := tk, drawn := dr }) :
    codeAny (model prog w) A (.compLoop (.DictComp (.Name x pk) vx [⟨.Name x px, iter, [], 0⟩] scope pos) 0 (.ref I) (.ref D) cenv) R { s₂ with heap := h₀, toks := tk₀ } := by
  have hCw : cenv.locals ∉ wr := fun h => hCf (W.sub _ h)
  have hDw : D ∉ wr := fun h => hDf (W.sub _ h)
  refine codeAny_compLoop_testsD
    (fun k s' => ∃ (h' : Heap) (tk : Nat) (dr : Drawn) (m' : Str → Option Value) (us : List Value), s' = { s₂ with heap := h', toks := tk, drawn := dr } ∧ St us.length h' ∧ us.length ≤ js.length ∧ RawN prog w C h' D ((js.take us.length).zip us) ∧ h'.Ns cenv.locals m' ∧
      (∀ (k i : Nat) (v : Value), js[k]? = some i → us[k]? = some v → V i v h') ∧ ApartV us ∧ (∀ b o, b ∉ wr → s₂.heap.get? b = some o → h'.get? b = some o) ∧ k = js.length - us.length)
    ?_ js.length ⟨h₀, tk₀, s₂.drawn, m₀, [], rfl, hst, Nat.zero_le _, by simpa using hacc, hn, by simp, fun k k' a e => by simp at e, fun b o _ e => hold b o e, rfl⟩
  rintro k s' ⟨h', tk, dr, m', us, rfl, hst', hle, hD, hn', hVs, hap, hkp, rfl⟩
  by_cases hlt : us.length < js.length
  · refine W.item us.length _ _ _ hlt hst' fun v h₁ tk₁ hPv hst₁ hk₁ => ?_
    obtain ⟨i, hi, hv⟩ := hPv
    have him : i ∈ js := List.mem_of_getElem? hi
    refine wpAny_assign_Name (wpAny_storeName_local hxl (hn'.at' fun o e => hk₁ _ o hCw e) (fun h₂ hn₂ hs₂ => ?_) hp)
    rw [List.forIn_nil]
    refine wpAny_pure ?_
    rw [if_pos rfl]
    refine wpAny_Name (wpAny_loadName_local hk hxl hn₂ (if_pos rfl) ?_) hxd
    have k₂ : ∀ b o, b ∉ wr → s₂.heap.get? b = some o → h₂.get? b = some o := fun b o hb e => hs₂.extBut b o (fun q => by rw [q, hCn] at e; cases e) (hk₁ b o hb (hkp b o hb e))
    refine wpAny_mono (hval i v _ _ _ him hv hn₂ (if_pos rfl) k₂ rfl rfl) (fun y s₃ h₃ => ?_) fun _ _ e => e
    obtain ⟨hVy, hfr, h₃, tk₃, dr₃, rfl, hk₃⟩ := h₃
    have k₁₃ : ∀ b o, b ∉ wr → b ≠ cenv.locals → h'.get? b = some o → h₃.get? b = some o := fun b o hb hc e => hk₃ b o (hs₂.extBut b o hc (hk₁ b o hb e))
    have hD₃ : RawN prog w C h₃ D ((js.take us.length).zip us) := hD.at fun o e => k₁₃ _ o hDw hDC e
    have hno₃ : ∀ j ∈ js, NodeOk prog w C h₃ j := fun j hj hkd => by
      obtain ⟨o, items, n, ho, r⟩ := hno j hj hkd
      exact ⟨o, items, n, hk₃ _ _ (k₂ _ _ (fun hb => hwn _ hb j hj hkd rfl) ho), r⟩
    have hz : ((js.take us.length).zip us).map (·.1) = js.take us.length := by
      rw [List.map_fst_zip]; rw [List.length_take]; omega
    have hsub : ∀ y ∈ (js.take us.length).zip us, NodeOk prog w C h₃ y.1 := fun y hy => hno₃ _ (List.mem_of_mem_take (hz ▸ List.mem_map_of_mem hy))
    refine dictSet_N hu hD₃ hsub (hno₃ i him) (by rw [List.length_zip, List.length_take]; omega) hv fun h₄ tk₄ hD₄ hs₄ => ?_
    have htk : js.take (us.length + 1) = js.take us.length ++ [i] := by rw [List.take_succ, hi]; rfl
    have hni : i ∉ ((js.take us.length).zip us).map (·.1) := by
      rw [hz]
      have hnd' : (js.take (us.length + 1)).Nodup := hnd.sublist (List.take_sublist _ _)
      rw [htk] at hnd'
      rw [List.nodup_append] at hnd'
      exact fun hm => hnd'.2.2 _ hm _ (by simp) rfl
    rw [stored_new hni] at hD₄
    have k₁₄ : ∀ b o, b ∉ wr → b ≠ D → b ≠ cenv.locals → h'.get? b = some o → h₄.get? b = some o := fun b o hb hd hc e => hs₄.extBut b o hd (k₁₃ b o hb hc e)
    have hst₄ : St (us.length + 1) h₄ := W.frame _ _ _ hst₁ fun b hb o e => hs₄.extBut b o (fun q => hDf (q ▸ hb)) (hk₃ b o (hs₂.extBut b o (fun q => hCf (q ▸ hb)) e))
    have hlu : (us ++ [y]).length = us.length + 1 := by simp
    refine ⟨js.length - (us.length + 1), by omega, h₄, tk₄, dr₃, _, us ++ [y], rfl, by rw [hlu]; exact hst₄, by rw [hlu]; omega, ?_, (hn₂.keeps hk₃).at' fun o e => hs₄.extBut _ o (Ne.symm hDC) e, ?_, ?_, fun b o hb e => hs₄.extBut b o (fun q => by rw [q, hDn] at e; cases e) (hk₃ b o (k₂ b o hb e)), by rw [hlu]⟩
    · rw [hlu, htk, List.zip_append (by rw [List.length_take]; omega)]; exact hD₄
    · intro k j u hj hu'
      rcases Nat.lt_trichotomy k us.length with h | h | h
      · rw [List.getElem?_append_left h] at hu'
        exact hV j u h' h₄ (hVs k j u hj hu') k₁₄
      · subst h
        rw [List.getElem?_append_right (Nat.le_refl _)] at hu'
        simp at hu'
        subst hu'
        rw [hi] at hj; cases hj
        exact hV _ _ _ _ hVy fun b o _ hd _ e => hs₄.extBut b o hd e
      · rw [List.getElem?_eq_none (by rw [hlu]; omega)] at hu'; cases hu'
    · have hold' : ∀ (k : Nat) (a : Addr), us[k]? = some (Value.ref a) → y ≠ .ref a := by
        intro k a hka hy
        have hklt : k < us.length := (List.getElem?_eq_some_iff.mp hka).1
        have hj : js[k]? = some js[k] := List.getElem?_eq_getElem (by omega)
        have hVa := hVs k _ _ hj hka
        have hVa₂ := hV _ _ _ h₂ hVa fun b o hb _ hc e => hs₂.extBut b o hc (hk₁ b o hb e)
        obtain ⟨o, ho⟩ := hlive _ _ _ hVa₂
        have := hfr a hy
        rw [show _ = some o from ho] at this
        cases this
      intro k k' a e e'
      rcases Nat.lt_or_ge k us.length with h | h
      · rw [List.getElem?_append_left h] at e
        rcases Nat.lt_or_ge k' us.length with h' | h'
        · rw [List.getElem?_append_left h'] at e'
          exact hap k k' a e e'
        · rw [List.getElem?_append_right h'] at e'
          cases hq : k' - us.length with
          | zero => rw [hq] at e'; simp at e'; exact absurd e' (hold' k a e)
          | succ n => rw [hq] at e'; simp at e'
      · rw [List.getElem?_append_right h] at e
        cases hq : k - us.length with
        | succ n => rw [hq] at e; simp at e
        | zero =>
          rw [hq] at e; simp at e
          rcases Nat.lt_or_ge k' us.length with h' | h'
          · rw [List.getElem?_append_left h'] at e'
            exact absurd e (hold' k' a e')
          · rw [List.getElem?_append_right h'] at e'
            cases hq' : k' - us.length with
            | zero => omega
            | succ n => rw [hq'] at e'; simp at e'
  · have hin : us.length = js.length := by omega
    refine W.done _ _ _ (hin ▸ hst') fun h₁ tk₁ hk₁ => ?_
    refine hR h₁ tk₁ dr m' us (hn'.at' fun o e => hk₁ _ o hCw e) ?_ hin (fun k i v h1 h2 => hV i v _ _ (hVs k i v h1 h2) fun b o hb _ _ e => hk₁ b o hb e) hap fun b o hb e => hk₁ b o hb (hkp b o hb e)
    have := hD.at (h' := h₁) fun o e => hk₁ _ o hDw e
    rwa [hin, List.take_length] at this
end
end Mine

end PartJ5a
section PartJ5b
open PySem PySem.W PyProof.Rows
set_option maxRecDepth 100000
set_option maxHeartbeats 1000000
set_option linter.unusedVariables false
namespace Mine

section
variable {prog : Program} {w : World} {A : Around} {E : Value → Shared → Prop} {env : Env} {C : Nds}

theorem compD_block {vx iter : Expr} {x : Str} {pk px : Pos} {scope : Scope} {cl : List (Str × Addr)} {pos : Pos} {s₁ : Shared} {l : Addr} {vs : List Value} {js : List Nat} {V : Nat → Value → Heap → Prop} {RR : Value → Addr → Result → Shared → Prop}
    (hh : A.handled = none) (hu : A.units < cLine) (hcell : ∀ y ∈ scope.names, y.2 ≠ .cell) (hkind : scope.kind = .function) (hx : scope.names.lookup x = some .local) (hxd : (x == ("__debug__" : Str)) = false)
    (hl : s₁.heap.IsList l vs.toArray) (hvs : NVs C js vs) (hnd : js.Nodup) (hlen : js.length ≤ 4096) (hno : ∀ i ∈ js, NodeOk prog w C s₁.heap i)
    (hV : ∀ i v h h', V i v h → (∀ b o, b ≠ s₁.heap.objs.size → b ≠ s₁.heap.objs.size + 1 → b ≠ s₁.heap.objs.size + 2 → h.get? b = some o → h'.get? b = some o) → V i v h') (hlive : ∀ i a h, V i (.ref a) h → ∃ o, h.get? a = some o)
    (hval : ∀ i v s₃ m₃ E', i ∈ js → NV C i v → s₃.heap.Ns (s₁.heap.objs.size + 2) m₃ → m₃ x = some v → (∀ b o, s₁.heap.get? b = some o → s₃.heap.get? b = some o) → s₃.gens = s₁.gens → s₃.os = s₁.os →
      wpAny (model prog w) A (eval vx (compEnvC scope cl (s₁.heap.objs.size + 2) env)) (fun y s₄ => V i y s₄.heap ∧ (∀ a, y = .ref a → s₃.heap.get? a = none) ∧ KeepD s₃ s₄) E' s₃)
    (hRR : ∀ (h' : Heap) (tk : Nat) (dr : Drawn) (m' : Str → Option Value) (us : List Value), h'.Ns (s₁.heap.objs.size + 2) m' → RawN prog w C h' (s₁.heap.objs.size + 1) (js.zip us) → us.length = js.length → (∀ (k i : Nat) (v : Value), js[k]? = some i → us[k]? = some v → V i v h') → ApartV us →
      (∀ b o, s₁.heap.get? b = some o → h'.get? b = some o) → RR (.ref (s₁.heap.objs.size + 1)) (s₁.heap.objs.size + 2) (.ok .next) { s₁ with heap := h', toks := tk, drawn := dr }) :
    wpAny (model prog w) A (pyIter (.ref l)) (fun it s₂ => wpAny (model prog w) A newDict (fun acc s₃ => wpAny (model prog w) A (newFunctionEnv scope env.globals cl [] env.qual none .none (some env)) (fun cenv s₄ =>
      codeAny (model prog w) A (.compStart (.DictComp (.Name x pk) vx [⟨.Name x px, iter, [], 0⟩] scope pos) 0 it acc { cenv with scope := relabel scope env }) (RR acc cenv.locals) s₄) E s₃) E s₂) E s₁ := by
  refine wpAny_pyIter_list hl ?_
  refine wpAny_newObj_type (wpAny_newFunctionEnv hcell (by intro y hy; simp at hy) (fun h₁ hns₁ hsb₁ => ?_) hkind)
  dsimp only at hns₁ hsb₁ ⊢
  have hll : l < s₁.heap.objs.size := by obtain ⟨o, ho, _⟩ := hl; exact Heap.lt_size ho
  generalize hN : s₁.heap.objs.size = n at hV hval hRR hll hns₁ hsb₁ ⊢
  generalize hH1 : s₁.heap.push { cls := .type "list_iterator", data := .fields #[.ref l, .int 0 0] } = H1 at hns₁ hsb₁ ⊢
  have hs1 : H1.objs.size = n + 1 := by rw [← hH1, Heap.size_push, hN]
  have hnew : RawN prog w C (H1.push { cls := .type "dict", dict := none, data := .dict #[] }) (n + 1) [] := by
    refine ⟨_, hs1 ▸ Heap.get?_push_size _ rfl, #[], 0, ⟨rfl, rfl, rfl⟩, rfl, List.nodup_nil, fun _ => ⟨?_, ?_⟩, fun _ => rfl⟩
    · intro e he; simp at he
    · exact .nil
  have hIt : (H1.push { cls := .type "dict", dict := none, data := .dict #[] }).IsListIter n l 0 := ⟨_, Heap.get?_push_of_some _ (hH1 ▸ hN ▸ Heap.get?_push_size _ rfl), rfl, rfl⟩
  have k1 : ∀ b o, s₁.heap.get? b = some o → (H1.push { cls := .type "dict", dict := none, data := .dict #[] }).get? b = some o := fun b o e => Heap.get?_push_of_some _ (hH1 ▸ Heap.get?_push_of_some _ e)
  generalize hH2 : H1.push { cls := .type "dict", dict := none, data := .dict #[] } = H2 at hns₁ hsb₁ hnew hIt k1 ⊢
  have hs2 : H2.objs.size = n + 2 := by rw [← hH2, Heap.size_push, hs1]
  rw [hs2] at hns₁ hsb₁ ⊢
  rw [hs1]
  have fresh : ∀ a, n ≤ a → s₁.heap.get? a = none := fun a ha => Heap.get?_none_of_le (hN ▸ ha)
  have up : ∀ b o, b ≠ n + 2 → H2.get? b = some o → h₁.get? b = some o := fun b o hb e => hsb₁.extBut b o hb (Heap.get?_push_of_some _ e)
  have old : ∀ b o, s₁.heap.get? b = some o → h₁.get? b = some o := fun b o e => up b o (fun q => by rw [fresh b (by rw [q]; exact Nat.le_add_right _ _)] at e; cases e) (k1 b o e)
  have W₀ : Walks prog w A n [n, l] [n] js.length (fun k v => ∃ i, js[k]? = some i ∧ NV C i v) (fun i h => h.IsListIter n l i ∧ h.IsList l vs.toArray) := by
    have W := Walks.list (prog := prog) (w := w) hh n l (Nat.ne_of_lt hll) vs.toArray
    have e : vs.toArray.size = js.length := by rw [List.size_toArray, hvs.length]
    rw [e] at W
    refine ⟨W.sub, W.frame, fun i s Q E hi st hQ => W.item i s Q E hi st fun v h' tk hv => hQ v h' tk ?_, W.done, W.self⟩
    obtain ⟨j, hj, hnv⟩ := hvs.at' (k := i) (v := v) (by simpa using hv)
    exact ⟨j, hj, hnv⟩
  have hCf : n + 2 ∉ [n, l] := by simp; exact Nat.ne_of_gt (Nat.lt_of_lt_of_le hll (Nat.le_add_right _ _))
  have hDf : n + 1 ∉ [n, l] := by simp; exact Nat.ne_of_gt (Nat.lt_of_lt_of_le hll (Nat.le_add_right _ _))
  have nI : ∀ b o, s₁.heap.get? b = some o → b ∉ [n] := fun b o e hb => by simp at hb; rw [fresh b (by rw [hb]; exact Nat.le_refl _)] at e; cases e
  have loop : ∀ tk₀, codeAny (model prog w) A (.compLoop (.DictComp (.Name x pk) vx [⟨.Name x px, iter, [], 0⟩] scope pos) 0 (.ref n) (.ref (n + 1)) (compEnvC scope cl (n + 2) env))
      (RR (.ref (n + 1)) (n + 2)) { s₁ with heap := h₁, toks := tk₀ } := by
    intro tk₀
    refine compD_loop (s₂ := s₁) (C := C) (V := V) (cenv := compEnvC scope cl (n + 2) env) W₀ hu (lookup_relabel_local hx) (by simp [compEnvC, relabel, hkind]) (by simp [compEnvC, relabel, hkind]) hxd
      (Nat.ne_of_lt (Nat.lt_succ_self _)) hDf hCf hnd hlen ?_ (hnew.at fun o e => up _ o (Nat.ne_of_lt (Nat.lt_succ_self _)) e) hns₁ old (fresh _ (Nat.le_add_right _ _)) (fresh _ (Nat.le_add_right _ _)) hno ?_ ?_ hlive ?_ ?_
    · exact ⟨hIt.at fun o e => up _ o (by omega) e, hl.at fun o e => old _ o e⟩
    · intro b hb i hi hkd e
      obtain ⟨o, _, _, ho, _⟩ := hno i hi hkd
      exact nI _ _ ho (e ▸ hb)
    · intro i v h h' hv hk
      exact hV i v h h' hv fun b o h1 h2 h3 e => hk b o (by simpa using h1) h2 h3 e
    · intro i v s₃ m₃ E' hi hv hn hm hk hg ho
      exact hval i v s₃ m₃ E' hi hv hn hm (fun b o e => hk b o (nI b o e) e) hg ho
    · intro h' tk dr m' us hn hr hl' hv hap hk
      exact hRR h' tk dr m' us hn hr hl' hv hap fun b o e => hk b o (nI b o e) e
  exact codeAny_compStart_dict (loop _) (wpAny_pyIter_listiter (hIt.at fun o e => up _ o (by omega) e) (loop _))

/-- what is asked of a list of nodes and of the values for it -/
structure DcOn (prog : Program) (w : World) (A : Around) (env : Env) (C : Nds) (scope : Scope) (cl : List (Str × Addr)) (x : Str) (vx : Expr) (l : Addr) (vs : List Value) (js : List Nat) (V : Nat → Value → Heap → Prop) (s₁ : Shared) : Prop where
  hl : s₁.heap.IsList l vs.toArray
  hvs : NVs C js vs
  hnd : js.Nodup
  hlen : js.length ≤ 4096
  hno : ∀ i ∈ js, NodeOk prog w C s₁.heap i
  hV : ∀ i v h h', V i v h → (∀ b o, b ≠ s₁.heap.objs.size → b ≠ s₁.heap.objs.size + 1 → b ≠ s₁.heap.objs.size + 2 → h.get? b = some o → h'.get? b = some o) → V i v h'
  hlive : ∀ i a h, V i (.ref a) h → ∃ o, h.get? a = some o
  hval : ∀ i v s₃ m₃ E', i ∈ js → NV C i v → s₃.heap.Ns (s₁.heap.objs.size + 2) m₃ → m₃ x = some v → (∀ b o, s₁.heap.get? b = some o → s₃.heap.get? b = some o) → s₃.gens = s₁.gens → s₃.os = s₁.os →
      wpAny (model prog w) A (eval vx (compEnvC scope cl (s₁.heap.objs.size + 2) env)) (fun y s₄ => V i y s₄.heap ∧ (∀ a, y = .ref a → s₃.heap.get? a = none) ∧ KeepD s₃ s₄) E' s₃

theorem DictComp_val {vx iter : Expr} {x : Str} {pk px : Pos} {scope : Scope} {cl : List (Str × Addr)} {pos : Pos} {s : Shared} {Q : Value → Shared → Prop}
    (hh : A.handled = none) (hu : A.units < cLine) (hclos : closureFor scope env = pure cl) (hcell : ∀ y ∈ scope.names, y.2 ≠ .cell) (hkind : scope.kind = .function) (hnames : ∀ y ∈ scope.names, y.2 = .local → scope.names.lookup y.1 = some .local)
    (hx : scope.names.lookup x = some .local) (hxd : (x == ("__debug__" : Str)) = false)
    (h : wpAny (model prog w) A (eval iter env) (fun xv s₁ => ∃ l vs js V, xv = .ref l ∧ DcOn prog w A env C scope cl x vx l vs js V s₁ ∧
      (∀ (D : Addr) (h' : Heap) (tk : Nat) (dr : Drawn) (us : List Value), s₁.heap.get? D = none → RawN prog w C h' D (js.zip us) → us.length = js.length → (∀ (k i : Nat) (v : Value), js[k]? = some i → us[k]? = some v → V i v h') → ApartV us →
        (∀ b o, s₁.heap.get? b = some o → h'.get? b = some o) → Q (.ref D) { s₁ with heap := h', toks := tk, drawn := dr })) E s)
    (hs : ∀ x, foldedSetIterable iter env x = pure x := by intro _; rfl) :
    wpAny (model prog w) A (eval (.DictComp (.Name x pk) vx [⟨.Name x px, iter, [], 0⟩] scope pos) env) Q E s := by
  rw [arm_eval_DictComp]
  refine wpAny_comprehension_free (use := none) rfl hs hclos hkind hnames (wpAny_mono h (fun xv s₁ h₁ => ?_) fun _ _ e => e)
  obtain ⟨l, vs, js, V, rfl, O, hQ⟩ := h₁
  refine compD_block (RR := fun acc C => compPost (model prog w) A E none Q acc C) hh hu hcell hkind hx hxd O.hl O.hvs O.hnd O.hlen O.hno O.hV O.hlive O.hval fun h' tk dr m' us hn hr hl' hv hap hk => ?_
  have fresh : ∀ a, s₁.heap.objs.size ≤ a → s₁.heap.get? a = none := fun a ha => Heap.get?_none_of_le ha
  exact ⟨m', hn, fun h'' hs'' => hQ _ h'' tk dr us (fresh _ (Nat.le_add_right _ _)) (hr.at fun o e => hs''.extBut _ o (Nat.ne_of_lt (Nat.lt_succ_self _)) e) hl'
    (fun k i v h1 h2 => O.hV i v _ _ (hv k i v h1 h2) fun b o _ _ h3 e => hs''.extBut b o h3 e) hap fun b o e => hs''.extBut b o (fun q => by rw [fresh b (by rw [q]; exact Nat.le_add_right _ _)] at e; cases e) (hk b o e)⟩

theorem DictComp_store {vx iter : Expr} {x y : Str} {pk px py : Pos} {scope : Scope} {cl : List (Str × Addr)} {pos spos : Pos} {s : Shared} {Q : Flow → Shared → Prop}
    (hh : A.handled = none) (hu : A.units < cLine) (hsw : swapsWith (.DictComp (.Name x pk) vx [⟨.Name x px, iter, [], 0⟩] scope pos) (some (.Name y py)) spos.line env = pure true)
    (hclos : closureFor scope env = pure cl) (hcell : ∀ y ∈ scope.names, y.2 ≠ .cell) (hkind : scope.kind = .function) (hnames : ∀ y ∈ scope.names, y.2 = .local → scope.names.lookup y.1 = some .local)
    (hx : scope.names.lookup x = some .local) (hxd : (x == ("__debug__" : Str)) = false)
    (hy : env.kindOf y = some .local) (hp : (env.scope.kind == .class || (env.scope.kind == .module && env.locals != env.globals)) = false)
    (h : wpAny (model prog w) A (eval iter env) (fun xv s₁ => ∃ l vs js, ∃ (V : Nat → Value → Prop), ∃ m, xv = .ref l ∧ s₁.heap.Ns env.locals m ∧ DcOn prog w A env C scope cl x vx l vs js (fun i v _ => V i v) s₁ ∧
      (∀ (D : Addr) (h' : Heap) (tk : Nat) (dr : Drawn) (us : List Value), s₁.heap.get? D = none → RawN prog w C h' D (js.zip us) → us.length = js.length → (∀ (k i : Nat) (v : Value), js[k]? = some i → us[k]? = some v → V i v) →
        h'.Ns env.locals (fun z => if z = y then some (.ref D) else m z) → (∀ b o, b ≠ env.locals → s₁.heap.get? b = some o → h'.get? b = some o) → Q .next { s₁ with heap := h', toks := tk, drawn := dr })) E s)
    (hs : ∀ x, foldedSetIterable iter env x = pure x := by intro _; rfl) :
    wpAny (model prog w) A (exec (.Assign [.Name y py] (.DictComp (.Name x pk) vx [⟨.Name x px, iter, [], 0⟩] scope pos) spos) env) Q E s := by
  rw [exec_Assign_Name_used _ _ _ _ hsw]
  refine wpAny_bind (wpAny_standAt (wpAny_bind ?_))
  show wpAny _ A (do let _ ← comprehension (.DictComp (.Name x pk) vx [⟨.Name x px, iter, [], 0⟩] scope pos) scope env _ newDict false (eval iter env) (some (assign (.Name y py) env))) _ _ s
  refine wpAny_bind (wpAny_mono (wpAny_comprehension_free (use := some (assign (.Name y py) env)) (Q := fun _ s' => Q .next s') rfl hs hclos hkind hnames
    (wpAny_mono h (fun xv s₁ h₁ => ?_) fun _ _ e => e)) (fun _ s' hq => wpAny_pure (wpAny_pure hq)) fun _ _ e => e)
  obtain ⟨l, vs, js, V, m, rfl, hm, O, hQ⟩ := h₁
  refine compD_block (RR := fun acc C => compPost (model prog w) A E (some (assign (.Name y py) env)) (fun _ s' => Q .next s') acc C) hh hu hcell hkind hx hxd O.hl O.hvs O.hnd O.hlen O.hno O.hV O.hlive O.hval fun h' tk dr m' us hn hr hl' hv hap hk => ?_
  have fresh : ∀ a, s₁.heap.objs.size ≤ a → s₁.heap.get? a = none := fun a ha => Heap.get?_none_of_le ha
  have hLt := hm.lt
  have hLC : env.locals ≠ s₁.heap.objs.size + 2 := Nat.ne_of_lt (Nat.lt_of_lt_of_le hLt (Nat.le_add_right _ _))
  have hLD : env.locals ≠ s₁.heap.objs.size + 1 := Nat.ne_of_lt (Nat.lt_of_lt_of_le hLt (Nat.le_add_right _ _))
  show wpAny _ A (assign (.Name y py) env (.ref (s₁.heap.objs.size + 1))) _ _ _
  refine wpAny_assign_Name (wpAny_storeName_local hy (hm.at' fun o e => hk _ o e) (fun h₂ hn₂ hs₂ => ?_) hp)
  refine ⟨m', hn.sameBut hs₂ (Ne.symm hLC), fun h₃ hs₃ => ?_⟩
  exact hQ _ h₃ _ dr us (fresh _ (Nat.le_add_right _ _)) (hr.at fun o e => hs₃.extBut _ o (Nat.ne_of_lt (Nat.lt_succ_self _)) (hs₂.extBut _ o (Ne.symm hLD) e)) hl' hv (hn₂.sameBut hs₃ hLC)
    fun b o hb e => hs₃.extBut b o (fun q => by rw [fresh b (by rw [q]; exact Nat.le_add_right _ _)] at e; cases e) (hs₂.extBut b o hb (hk b o e))
end
end Mine

end PartJ5b
section PartJ5c
open PySem PySem.W PyProof.Rows
set_option maxRecDepth 100000
set_option maxHeartbeats 1000000
set_option linter.unusedVariables false
namespace Mine

def digs (R : Nat → List Nat) (K : Nat) : List Nat → St → Option St
  | [], σ => some σ
  | x :: xs, σ => (if σ.N x = 0 then trav R K x σ else some σ).bind (digs R K xs)
def st0 (own : Nat → List Int) : St := ⟨fun _ => 0, fun _ => none, [], own⟩

def dLoop : List Stmt := forIn? (dBody.getD 3 (.Pass default))
def dEnv (L a : Addr) (cd : Value) : Env := envOf (Str.ofString "digraph") dScope L a cd

/-- what digraph is handed -/
structure Dig (prog : Program) (w : World) (D : Dg) (own : Nat → List Int) (lX : Addr) (vX : List Value) (h : Heap) : Prop where
  tp : Tp D.fT D.g₀
  old : ∀ b o, D.g₀.get? b = some o → h.get? b = some o
  gs0 : ∀ i, i < D.n → D.g₀.get? (D.gs i) = none
  rlt : ∀ i, i < D.n → ∀ j ∈ D.R i, j < D.n
  rlen : ∀ i, i < D.n → (D.R i).length ≤ 8
  nlt : D.n ≤ 12
  kslt : ∀ i, i ∈ D.ks ↔ i < D.n
  knd : D.ks.Nodup
  pool : D.pool.length ≤ 62
  gsI : ∀ i j, i < D.n → j < D.n → D.gs i = D.gs j → i = j
  node : ∀ i, i < D.n → NodeOk prog w D.C h i
  dR : RawN prog w D.C h D.dR ((List.range D.n).map fun i => (i, Value.ref (D.lR i)))
  lR : ∀ i, i < D.n → ∃ vs, h.IsList (D.lR i) vs.toArray ∧ NVs D.C (D.R i) vs
  dG : RawN prog w D.C h D.dG ((List.range D.n).map fun i => (i, Value.ref (D.gs i)))
  sets : ∀ j, j < D.n → SetI w h (D.gs j) (own j) ∧ ∀ x ∈ own j, x ∈ D.pool
  lX : h.IsList lX vX.toArray
  vX : NVs D.C D.ks vX

section
variable {prog : Program} {w : World} {A : Around} {E : Value → Shared → Prop} {D : Dg} {σ σ' : St} {g kp : Heap} {os : OsState} {L : Addr} {m m' : Str → Option Value} {s : Shared} {a : Addr} {cd xv X : Value} {i j k : Nat} {own : Nat → List Int} {lX : Addr} {vX : List Value} {h : Heap}

def withN (D : Dg) (dN dF lS : Addr) : Dg := { D with dN := dN, dF := dF, lS := lS }

theorem SetI.objSet {a : Addr} {l : List Int} (x : SetI w h a l) : ∃ o es ep t, h.get? a = some o ∧ o.data = .set es ep t :=
  let ⟨es, t, ⟨o, ep, ho, _, hd⟩, _⟩ := x; ⟨o, es, ep, t, ho, hd⟩
theorem RawN.objDict {C : Nds} {d : Addr} {xs : List (Nat × Value)} (x : RawN prog w C h d xs) : ∃ o es ep, h.get? d = some o ∧ o.data = .dict es ep :=
  let ⟨o, ho, es, ep, _, hd, _⟩ := x; ⟨o, es, ep, ho, hd⟩

theorem Dig.static (x : Dig prog w D own lX vX h) {dN dF lS : Addr} : Static prog w (withN D dN dF lS) h := ⟨x.old, x.node, x.dR, x.lR, x.dG⟩

theorem Dig.frame (x : Dig prog w D own lX vX h) {dN dF lS : Addr} (h1 : h.get? dN = none) (h2 : h.get? dF = none) (h3 : h.get? lS = none) (hne : dN ≠ dF) : Frame0 prog w (withN D dN dF lS) := by
  have live : ∀ {b : Addr} {o : Obj}, h.get? b = some o → b ≠ dN ∧ b ≠ dF ∧ b ≠ lS := fun {b o} e => ⟨fun q => (by rw [q, h1] at e; cases e), fun q => (by rw [q, h2] at e; cases e), fun q => (by rw [q, h3] at e; cases e)⟩
  have notset : ∀ {b : Addr} {o : Obj}, h.get? b = some o → (∀ es ep t, o.data ≠ .set es ep t) → ¬ Mut (withN D dN dF lS) b := by
    intro b o e hd hm
    rcases hm with q | q | q | ⟨i, hi, q⟩
    · exact (live e).1 q
    · exact (live e).2.1 q
    · exact (live e).2.2 q
    · obtain ⟨o', es, ep, t, ho, hd'⟩ := (x.sets i hi).1.objSet
      have q' : b = D.gs i := q
      rw [q', ho] at e; cases e
      exact hd _ _ _ hd'
  refine ⟨x.tp, ?_, x.rlt, x.rlen, x.nlt, x.kslt, x.pool, hne, x.gsI, ?_, ?_, ?_, ?_⟩
  · intro b hm
    cases e : D.g₀.get? b with
    | none => exact e
    | some o =>
      rcases hm with q | q | q | ⟨i, hi, q⟩
      · exact absurd q (live (x.old b o e)).1
      · exact absurd q (live (x.old b o e)).2.1
      · exact absurd q (live (x.old b o e)).2.2
      · have q' : b = D.gs i := q
        rw [q', x.gs0 i hi] at e; cases e
  · obtain ⟨o, es, ep, ho, hd⟩ := x.dR.objDict
    exact notset ho fun _ _ _ e => by rw [hd] at e; cases e
  · obtain ⟨o, es, ep, ho, hd⟩ := x.dG.objDict
    exact notset ho fun _ _ _ e => by rw [hd] at e; cases e
  · intro i hi
    obtain ⟨vs, ⟨o, ho, _, n, hd⟩, _⟩ := x.lR i hi
    exact notset ho fun _ _ _ e => by rw [hd] at e; cases e
  · intro hk i hi
    obtain ⟨o, items, n, ho, _, hd, _⟩ := x.node i hi hk
    exact notset ho fun _ _ _ e => by rw [hd] at e; cases e

/-- the names of digraph's frame -/
structure LocD (D : Dg) (m : Str → Option Value) (lX : Addr) : Prop where
  X : m (Str.ofString "X") = some (.ref lX)
  S : m (Str.ofString "S") = some (.ref D.lS)
  N : m (Str.ofString "N") = some (.ref D.dN)
  R : m (Str.ofString "R") = some (.ref D.dR)
  G : m (Str.ofString "G") = some (.ref D.dG)
  F : m (Str.ofString "F") = some (.ref D.dF)

/-- the loop over X -/
theorem dloop_walk (F0 : Frame0 prog w D) {K : Nat} (hh : A.handled = none) (hdp : A.depth + K < recursionLimit) (hu : A.units + 3 * K + 10 < cLine)
    (x : Cx prog w D g g os L m σ s) (l : LocD D m lX) (hlX : g.IsList lX vX.toArray) (hvX : NVs D.C D.ks vX) (hmX : ¬ Mut D lX)
    (ht : digs D.R K D.ks σ = some σ') {Q : Flow → Shared → Prop}
    (h : ∀ m' s', Cx prog w D g g os L m' σ' s' → LocD D m' lX → wpAny (model prog w) A (execs (dBody.drop 4) (dEnv L a cd)) Q E s') :
    wpAny (model prog w) A (execs (dBody.drop 3) (dEnv L a cd)) Q E s := by
  have hvs₀ : ∀ s' σ m, Cx prog w D g g os L m σ s' → s'.heap.IsList lX vX.toArray := fun s' σ₀ m₀ x' => hlX.at fun o e => x'.keep _ o hmX e
  refine wpAny_execs_cons (wpAny_For (Cx.ld (env := dEnv L a cd) x l.X (wpAny_pyIter_list (hvs₀ _ _ _ x) ?_)))
  have hc := x.new (Nat.le_refl _)
  have x₂ : Cx prog w D g g os L m σ { s with heap := s.heap.push { cls := .type "list_iterator", data := .fields #[.ref lX, .int 0 0] } } :=
    x.grow (tk := s.toks) (dr := s.drawn) fun b o e => Heap.get?_push_of_some _ e
  have hit : ({ s with heap := s.heap.push { cls := .type "list_iterator", data := .fields #[.ref lX, .int 0 0] } } : Shared).heap.IsListIter s.heap.objs.size lX 0 := ⟨_, Heap.get?_push_size _ rfl, rfl, rfl⟩
  generalize ({ s with heap := s.heap.push { cls := .type "list_iterator", data := .fields #[.ref lX, .int 0 0] } } : Shared) = s₂ at x₂ hit ⊢
  generalize s.heap.objs.size = it at hc hit ⊢
  refine codeAny_forLoop (fun n s => ∃ σ m c, D.ks.length = n + c ∧ Cx prog w D g g os L m σ s ∧ LocD D m lX ∧ s.heap.IsListIter it lX c ∧ digs D.R K (D.ks.drop c) σ = some σ')
    ?_ D.ks.length ⟨σ, m, 0, rfl, x₂, l, hit, ht⟩
  rintro n s ⟨σ, m, c, hn, x, l, hit, ht⟩
  have hlen := hvX.length
  cases hj : D.ks[c]? with
  | none =>
    have hc0 : D.ks.length ≤ c := List.getElem?_eq_none_iff.mp hj
    refine wpAny_pyNext_list_end hh hit (hvs₀ _ _ _ x) (by simp; omega) fun h' he => ?_
    refine wpAny_execs_nil ?_
    have hdr : D.ks.drop c = [] := List.drop_eq_nil_of_le hc0
    rw [hdr] at ht
    cases ht
    exact h m _ (x.other (tk := s.toks) (dr := s.drawn) hc fun b o hb e => he b o hb e) l
  | some j =>
    have hjn := (F0.kslt j).mp (List.mem_of_getElem? hj)
    obtain ⟨yv, hyv, hy⟩ := hvX.at hj
    have hcl : c < D.ks.length := (List.getElem?_eq_some_iff.mp hj).1
    refine wpAny_pyNext_list_item hit (hvs₀ _ _ _ x) (x := yv) (by simpa using hyv) fun h' hit' hs' => ?_
    have x₃ : Cx prog w D g g os L m σ { s with heap := h' } := x.other (tk := s.toks) (dr := s.drawn) hc fun b o hb e => hs'.extBut b o hb e
    refine wpAny_assign_Name (wpAny_storeName_local (env := dEnv L a cd) rfl x₃.ns fun h₄ hn₄ hs₄ => ?_)
    have x₄' : Cx prog w D g g os L _ σ { s with heap := h₄, toks := s.toks + 1 } := x₃.name hn₄ hs₄
    have l₄ : LocD D (fun y => if y = Str.ofString "x" then some yv else m y) lX := ⟨l.X, l.S, l.N, l.R, l.G, l.F⟩
    have hit₄ : h₄.IsListIter it lX (c + 1) := by
      obtain ⟨o, ho, r⟩ := hit'
      exact ⟨o, hs₄.extBut _ o hc.1 ho, r⟩
    have hdr : D.ks.drop c = j :: D.ks.drop (c + 1) := by
      obtain ⟨h1, h2⟩ := List.getElem?_eq_some_iff.mp hj
      rw [List.drop_eq_getElem_cons h1, h2]
    rw [hdr] at ht
    unfold digs at ht
    obtain ⟨σ₁, t1, t2⟩ := Option.bind_eq_some_iff.mp ht
    have x₄ := x₄'.rebase
    have fin : ∀ s', Cx prog w D g h₄ os L (fun y => if y = Str.ofString "x" then some yv else m y) σ₁ s' → ∃ m, m < n ∧ ∃ σ m₁ c, D.ks.length = m + c ∧ Cx prog w D g g os L m₁ σ s' ∧ LocD D m₁ lX ∧ s'.heap.IsListIter it lX c ∧ digs D.R K (D.ks.drop c) σ = some σ' := by
      intro s' x'
      refine ⟨n - 1, by omega, σ₁, _, c + 1, by omega, x'.base, l₄, ?_, t2⟩
      obtain ⟨o, ho, r⟩ := hit₄
      exact ⟨o, x'.also _ o hc.1 hc.2.1 ho, r⟩
    refine wpAny_execs_cons (wpAny_If (wpAny_isTrue_Compare1 (wpAny_Subscript_Name_late (Cx.ld (env := dEnv L a cd) x₄ l₄.N (Cx.ld (env := dEnv L a cd) x₄ (if_pos rfl) (x₄.getN F0 hjn hy (by omega) fun t s₁ x₁ => wpAny_Constant_int (wpAny_eq_int (wpAny_truthy_bool ?_))))))))
    have x₂ : Cx prog w D g h₄ os L _ σ { s₁ with toks := s₁.toks + 1 } := x₁.toks (dr := s₁.drawn)
    by_cases hz : σ.N j = 0
    · rw [if_pos hz] at t1
      rw [show (σ.N j == 0) = true by simp [hz], if_pos rfl]
      obtain ⟨⟨mg, mb, o, pm, cdv, doc, q1, q2, q3, q4, q5, q6, q7, q8⟩, hl⟩ := x₂.tp F0
      refine wpAny_execs_cons (wpAny_Expr_any (Call_ (Calls.Name_function_global rfl rfl (Calls.loadGlobal_global q1 q5 (callWith_def q7 ?_)))))
      refine args_cons (Cx.ld (env := dEnv L a cd) x₂ (if_pos rfl) (args_cons (Cx.ld (env := dEnv L a cd) x₂ l₄.S (args_cons (Cx.ld (env := dEnv L a cd) x₂ l₄.N (args_cons (Cx.ld (env := dEnv L a cd) x₂ l₄.X
        (args_cons (Cx.ld (env := dEnv L a cd) x₂ l₄.R (args_cons (Cx.ld (env := dEnv L a cd) x₂ l₄.G (args_cons (Cx.ld (env := dEnv L a cd) x₂ l₄.F (args_nil ⟨q6, ?_⟩))))))))))))))
      refine trav_walk F0 K A _ _ _ σ σ₁ j yv (.ref lX) t1 hjn hy (x₂.static F0) x₂.rep x₂.gens hh hdp hu fun s₃ hr hk hg ho => ?_
      exact wpAny_execs_nil (wpAny_execs_nil (fin _ (x₂.run hr hk hg ho)))
    · rw [if_neg hz] at t1
      cases t1
      rw [show (σ.N j == 0) = false by simp [hz], if_neg Bool.false_ne_true]
      exact wpAny_execs_nil (wpAny_execs_nil (fin _ x₂))

theorem valueAt_zip {js : List Nat} {us : List Value} {i : Nat} {P : Nat → Value → Prop} (hi : i ∈ js) (hl : us.length = js.length) (h : ∀ (k i : Nat) (v : Value), js[k]? = some i → us[k]? = some v → P i v) : ∃ v, valueAt (js.zip us) i = some v ∧ P i v := by
  induction js generalizing us with
  | nil => cases hi
  | cons j js ih =>
    cases us with
    | nil => simp at hl
    | cons u us =>
      unfold valueAt
      rw [List.zip_cons_cons, List.find?_cons]
      by_cases e : j = i
      · subst e
        refine ⟨u, by simp, h 0 j u rfl rfl⟩
      · rw [decide_eq_false e]
        have hi' : i ∈ js := by rcases List.mem_cons.mp hi with q | q; exact absurd q.symm e; exact q
        exact ih hi' (by simpa using hl) fun k i v h1 h2 => h (k + 1) i v (by simpa using h1) (by simpa using h2)

theorem dig_walk {K : Nat} {fD : Addr} {pm doc : Value} {o : Obj} {Q : Value → Shared → Prop} (hh : A.handled = none) (hdp : A.depth + K + 1 < recursionLimit) (hu : A.units + 3 * K + 20 < cLine)
    (x : Dig prog w D own lX vX s.heap) (hg : s.gens = #[]) (ho : s.heap.get? fD = some o) (hd : o.data = .func (Calls.docDef (Str.ofString "digraph") dParams dBody dScope pm cd doc)) (hcd : s.heap.CodeRec cd (Str.ofString "digraph"))
    (ht : digs D.R K D.ks (st0 own) = some σ')
    (h : ∀ s' dN dF lS, Rep prog w (withN D dN dF lS) σ' s'.heap → s.heap.get? dF = none → s.heap.objs.size ≤ dF → (∀ b o, (∀ i, i < D.n → b ≠ D.gs i) → s.heap.get? b = some o → s'.heap.get? b = some o) → s'.gens = #[] → s'.os = s.os → Q (.ref dF) s') :
    wpAny (model prog w) A (call (.ref fD) [.ref lX, .ref D.dR, .ref D.dG]) Q E s := by
  have tp := x.tp.mono x.old
  refine wpAny_call (call_pos_ret (params := dParams) (body := dBody) (scope := dScope) (by omega) ho hd tp.nolimit hcd rfl (locs rfl) (fun h₁ Fh => ?_) rfl rfl rfl (by decide))
  show wpAny _ (A.deeper (dEnv s.heap.objs.size fD cd)) (execs dBody (dEnv s.heap.objs.size fD cd)) _ _ _
  have hhd : (A.deeper (dEnv s.heap.objs.size fD cd)).handled = none := hh
  have hdd : (A.deeper (dEnv s.heap.objs.size fD cd)).depth + K < recursionLimit := by show A.depth + 1 + K < _; omega
  have hud : (A.deeper (dEnv s.heap.objs.size fD cd)).units + 3 * K + 10 < cLine := by show A.units + 3 + 3 * K + 10 < _; omega
  generalize A.deeper (dEnv s.heap.objs.size fD cd) = A' at hhd hdd hud ⊢
  have hX₁ : (((dParams.args.map (·.arg)).zip [Value.ref lX, .ref D.dR, .ref D.dG]).reverse.lookup (Str.ofString "X")) = some (.ref lX) := rfl
  have hR₁ : (((dParams.args.map (·.arg)).zip [Value.ref lX, .ref D.dR, .ref D.dG]).reverse.lookup (Str.ofString "R")) = some (.ref D.dR) := rfl
  have hG₁ : (((dParams.args.map (·.arg)).zip [Value.ref lX, .ref D.dR, .ref D.dG]).reverse.lookup (Str.ofString "G")) = some (.ref D.dG) := rfl
  have Fk := Fh.keep
  have Fn := Fh.ns
  have hLs : s.heap.get? s.heap.objs.size = none := Heap.get?_none_of_le (Nat.le_refl _)
  generalize hLL : s.heap.objs.size = L at Fn hLs ⊢
  generalize hm : (fun y => ((dParams.args.map (·.arg)).zip [Value.ref lX, .ref D.dR, .ref D.dG]).reverse.lookup y) = m at Fn
  have hX : m (Str.ofString "X") = some (.ref lX) := by rw [← hm]; exact hX₁
  have hR : m (Str.ofString "R") = some (.ref D.dR) := by rw [← hm]; exact hR₁
  have hG : m (Str.ofString "G") = some (.ref D.dG) := by rw [← hm]; exact hG₁
  -- F = {}
  refine wpAny_execs_cons (wpAny_Assign_Name (wpAny_Dict_empty ?_))
  have hF₀ : RawN prog w D.C (h₁.push { cls := .type "dict", data := .dict #[] }) h₁.objs.size [] :=
    ⟨_, Heap.get?_push_size _ rfl, #[], 0, ⟨rfl, rfl, rfl⟩, rfl, List.nodup_nil, fun _ => ⟨fun e he => by simp at he, .nil⟩, fun _ => rfl⟩
  have up1 : ∀ b o, h₁.get? b = some o → (h₁.push { cls := .type "dict", data := .dict #[] }).get? b = some o := fun b o e => Heap.get?_push_of_some _ e
  have hFL : h₁.objs.size ≠ L := fun e => Nat.lt_irrefl _ (e ▸ Fn.lt)
  have hFle : s.heap.objs.size ≤ h₁.objs.size := Nat.le_of_lt (Nat.lt_of_le_of_lt (Nat.le_of_eq hLL) Fn.lt)
  have hFs : s.heap.get? h₁.objs.size = none := by
    cases e : s.heap.get? h₁.objs.size with
    | none => rfl
    | some o => exact absurd (Heap.lt_size (Fk _ _ e)) (Nat.lt_irrefl _)
  generalize h₁.objs.size = dF at hF₀ hFL hFs hFle ⊢
  generalize h₁.push { cls := .type "dict", data := .dict #[] } = h₂ at hF₀ up1 ⊢
  refine wpAny_storeName_local (env := dEnv L fD cd) rfl (Fn.keeps up1) fun h₃ hn₃ hs₃ => ?_
  have k₃ : ∀ b o, s.heap.get? b = some o → h₃.get? b = some o := fun b o e => hs₃.extBut b o (fun q => by rw [q] at e; rw [show (dEnv L fD cd).locals = L from rfl, hLs] at e; cases e) (up1 b o (Fk b o e))
  have hF₃ : RawN prog w D.C h₃ dF [] := hF₀.at fun o e => hs₃.extBut _ o hFL e
  -- S = []
  refine wpAny_execs_cons (wpAny_Assign_Name (wpAny_List (args_nil ⟨Nat.zero_le _, ?_⟩)))
  have hS₀ : IsL (h₃.push { cls := .type "list", data := .seq ([] : List Value).toArray }) h₃.objs.size #[] 0 := Heap.get?_push_size _ rfl
  have up2 : ∀ b o, h₃.get? b = some o → (h₃.push { cls := .type "list", data := .seq ([] : List Value).toArray }).get? b = some o := fun b o e => Heap.get?_push_of_some _ e
  have hSL : h₃.objs.size ≠ L := fun e => Nat.lt_irrefl _ (e ▸ hn₃.lt)
  have hSs : s.heap.get? h₃.objs.size = none := by
    cases e : s.heap.get? h₃.objs.size with
    | none => rfl
    | some o => exact absurd (Heap.lt_size (k₃ _ _ e)) (Nat.lt_irrefl _)
  generalize h₃.objs.size = lS at hS₀ hSL hSs ⊢
  generalize h₃.push { cls := .type "list", data := .seq ([] : List Value).toArray } = h₄ at hS₀ up2 ⊢
  refine wpAny_storeName_local (env := dEnv L fD cd) rfl (hn₃.keeps up2) fun h₅ hn₅ hs₅ => ?_
  have k₅ : ∀ b o, s.heap.get? b = some o → h₅.get? b = some o := fun b o e => hs₅.extBut b o (fun q => by rw [q] at e; rw [show (dEnv L fD cd).locals = L from rfl, hLs] at e; cases e) (up2 b o (k₃ b o e))
  have hF₅ : RawN prog w D.C h₅ dF [] := hF₃.at fun o e => hs₅.extBut _ o hFL (up2 _ o e)
  have hS₅ : IsL h₅ lS #[] 0 := hs₅.extBut _ _ hSL hS₀
  -- N = {x: 0 for x in X}
  refine wpAny_execs_cons (DictComp_store (cl := []) (C := D.C) hhd (by omega) rfl (closureFor_none (by decide)) (by decide) rfl (by decide) rfl rfl rfl rfl
    (wpAny_Name (wpAny_loadName_local (env := dEnv L fD cd) rfl rfl hn₅ ((if_neg (by decide)).trans ((if_neg (by decide)).trans hX)) ?_) (by decide)))
  refine ⟨lX, vX, D.ks, fun _ v => ∃ t, v = .int 0 t, _, rfl, hn₅, ⟨x.lX.at fun o e => k₅ _ o e, x.vX, x.knd, ?_, ?_, fun i v h h' hv _ => hv, ?_, ?_⟩, ?_⟩
  · have := bnd_len x.knd fun y hy => (x.kslt y).mp hy
    have := x.nlt
    omega
  · exact fun i hi => (x.node i ((x.kslt i).mp hi)).mono k₅
  · rintro i a h ⟨t, e⟩; cases e
  · intro i v s₃ m₃ E' hi hv hn hm hk hg ho
    exact wpAny_Constant_int ⟨⟨_, rfl⟩, (fun a e => by cases e), s₃.heap, _, s₃.drawn, rfl, fun _ _ e => e⟩
  intro dN h₆ tk dr us hDN hN₆ hlen hus hn₆ hk₆
  have k₆ : ∀ b o, s.heap.get? b = some o → h₆.get? b = some o := fun b o e => hk₆ b o (fun q => by rw [q] at e; rw [show (dEnv L fD cd).locals = L from rfl, hLs] at e; cases e) (k₅ b o e)
  have hNs : s.heap.get? dN = none := by
    cases e : s.heap.get? dN with
    | none => rfl
    | some o => rw [k₅ _ _ e] at hDN; cases hDN
  have hNF : dN ≠ dF := by
    rintro rfl
    obtain ⟨o, ho, _⟩ := hF₅
    rw [show h₅.get? dN = some o from ho] at hDN; cases hDN
  have hNS : dN ≠ lS := by
    rintro rfl
    rw [show h₅.get? dN = _ from hS₅] at hDN; cases hDN
  have hF₆ : RawN prog w D.C h₆ dF [] := hF₅.at fun o e => hk₆ _ o hFL e
  have hS₆ : IsL h₆ lS #[] 0 := hk₆ _ _ hSL hS₅
  have F0 := x.frame (dN := dN) (dF := dF) (lS := lS) hNs hFs hSs hNF
  have hrep : Rep prog w (withN D dN dF lS) (st0 own) h₆ := by
    refine ⟨⟨_, hN₆, ?_, ?_⟩, ⟨[], hF₆, fun i => rfl, fun i j e => by cases e⟩, ⟨[], 0, hS₆, .nil, fun j hj => by cases hj⟩, fun j hj => ⟨(x.sets j hj).1.at fun o e => k₆ _ o e, (x.sets j hj).2⟩⟩
    · rw [List.map_fst_zip (by omega)]; rfl
    · intro i hi
      obtain ⟨v, h1, t, h2⟩ := valueAt_zip (i := i) (P := fun _ v => ∃ t, v = Value.int 0 t) ((x.kslt i).mpr hi) hlen hus
      exact ⟨t, by rw [h1, h2]; rfl⟩
  have hLm : ¬ Mut (withN D dN dF lS) L := by
    intro hm
    rcases hm with q | q | q | ⟨i, hi, q⟩
    · obtain ⟨o, _, _, ho, _⟩ := hn₅
      have q' : L = dN := q
      rw [← q', show h₅.get? L = some o from ho] at hDN; cases hDN
    · exact hFL q.symm
    · exact hSL q.symm
    · obtain ⟨o, _, _, _, ho, _⟩ := (x.sets i hi).1.objSet
      have q' : L = D.gs i := q
      rw [q', ho] at hLs; cases hLs
  have xc : Cx prog w (withN D dN dF lS) s.heap s.heap s.os (dEnv L fD cd).locals _ (st0 own) { s with heap := h₆, toks := tk, drawn := dr } :=
    ⟨hn₆, fun b o _ e => k₆ b o e, x.static, hrep, hg, rfl, hLs, hLm, fun b o _ _ e => k₆ b o e⟩
  have lc : LocD (withN D dN dF lS) (fun z => if z = Str.ofString "N" then some (.ref dN) else (fun x => if x = Str.ofString "S" then some (Value.ref lS) else (fun x => if x = Str.ofString "F" then some (Value.ref dF) else m x) x) z) lX :=
    ⟨hX, rfl, rfl, hR, hG, rfl⟩
  refine dloop_walk F0 hhd hdd hud xc lc x.lX x.vX ?_ ht fun m' s' x' l' => ?_
  · intro hm
    obtain ⟨o, ho, _, n, hdd'⟩ := x.lX
    rcases hm with q | q | q | ⟨i, hi, q⟩
    · have q' : lX = dN := q
      rw [q', hNs] at ho; cases ho
    · have q' : lX = dF := q
      rw [q', hFs] at ho; cases ho
    · have q' : lX = lS := q
      rw [q', hSs] at ho; cases ho
    · obtain ⟨o', _, _, _, ho', hd'⟩ := (x.sets i hi).1.objSet
      have q' : lX = D.gs i := q
      rw [q', ho'] at ho; cases ho
      rw [hd'] at hdd'; cases hdd'
  refine wpAny_execs_cons (wpAny_Return_some (Cx.ld (env := dEnv L fD cd) x' l'.F ?_))
  refine h s' dN dF lS x'.rep hFs hFle (fun b o hb e => x'.keep b o (fun hm => ?_) e) x'.gens x'.hos
  rcases hm with q | q | q | ⟨i, hi, q⟩
  · have q' : b = dN := q
    rw [q', hNs] at e; cases e
  · have q' : b = dF := q
    rw [q', hFs] at e; cases e
  · have q' : b = lS := q
    rw [q', hSs] at e; cases e
  · exact hb i hi q
end
end Mine

end PartJ5c
section PartJ6a
open PySem PySem.W PyProof.Rows
set_option maxRecDepth 100000
set_option maxHeartbeats 1000000
set_option linter.unusedVariables false
namespace Mine

section
variable {prog : Program} {w : World} {A : Around} {E : Value → Shared → Prop} {env : Env}

theorem append_IsL {s : Shared} {l : Addr} {us : List Value} {c : Nat} {y : Value} {Q : Value → Shared → Prop} (hl : IsL s.heap l us.toArray c) (hz : us.length ≤ 65536)
    (h : ∀ h' c', IsL h' l (us ++ [y]).toArray c' → Heap.SameBut l s.heap h' → Q .none { s with heap := h' }) : wpAny (model prog w) A (call (.builtin "list.append") [.ref l, y]) Q E s := by
  have hlen' : us.toArray.size ≤ sizeLine := by rw [List.size_toArray, sizeLine_eq]; omega
  have q := hl.update (fun xs => xs.push y)
  refine call_meets slot_list_append hl.isList.typeIs entry_list_append (args_list_append _ _) (list_append l us.toArray c y hlen') ⟨hl, h _ _ (by rw [← List.push_toArray]; exact q) (Heap.SameBut.update ..)⟩

theorem compL_loop {elt iter : Expr} {x : Str} {px : Pos} {ifs : List Expr} {scope : Scope} {pos : Pos} {s₂ : Shared} {I D : Addr} {fp wr : List Addr} {n : Nat} {P : Nat → Value → Prop} {St : Nat → Heap → Prop} {cenv : Env} {h₀ : Heap} {tk₀ : Nat} {m₀ : Str → Option Value}
    {R : Result → Shared → Prop} {J : Nat → List Value → Heap → Prop}
    (W : Walks prog w A I fp wr n P St) (hlen : n ≤ 4096)
    (hxl : cenv.kindOf x = some .local) (hp : (cenv.scope.kind == .class || (cenv.scope.kind == .module && cenv.locals != cenv.globals)) = false)
    (hDC : D ≠ cenv.locals) (hDf : D ∉ fp) (hCf : cenv.locals ∉ fp)
    (hst : St 0 h₀) (hacc : IsL h₀ D #[] 0) (hn : h₀.Ns cenv.locals m₀) (hold : ∀ b o, s₂.heap.get? b = some o → h₀.get? b = some o) (hDn : s₂.heap.get? D = none) (hCn : s₂.heap.get? cenv.locals = none)
    (hJ0 : J 0 [] h₀) (hJ : ∀ k us h h', J k us h → (∀ b o, b ∉ wr → b ≠ D → b ≠ cenv.locals → h.get? b = some o → h'.get? b = some o) → J k us h')
    (turn : ∀ k v us s₃ m₃ E', P k v → J k us s₃.heap → s₃.heap.Ns cenv.locals m₃ → m₃ x = some v → (∀ b o, b ∉ wr → s₂.heap.get? b = some o → s₃.heap.get? b = some o) → s₃.gens = s₂.gens → s₃.os = s₂.os →
      wpAny (model prog w) A (forIn ifs true fun c r => if r = true then do let ok ← isTrue c cenv (eval c cenv); pure (ForInStep.yield ok) else pure (ForInStep.yield r))
        (fun ok s₄ => KeepD s₃ s₄ ∧ if ok = true then wpAny (model prog w) A (eval elt cenv) (fun y s₅ => KeepD s₄ s₅ ∧ J (k + 1) (us ++ [y]) s₅.heap) E' s₄ else J (k + 1) us s₄.heap) E' s₃)
    (hR : ∀ (h' : Heap) (tk : Nat) (dr : Drawn) (m' : Str → Option Value) (us : List Value) (c : Nat), h'.Ns cenv.locals m' → IsL h' D us.toArray c → us.length ≤ n → J n us h' →
      (∀ b o, b ∉ wr → s₂.heap.get? b = some o → h'.get? b = some o) → R (.ok .next) { s₂ with heap := h', toks := tk, drawn := dr }) :
    codeAny (model prog w) A (.compLoop (.ListComp elt [⟨.Name x px, iter, ifs, 0⟩] scope pos) 0 (.ref I) (.ref D) cenv) R { s₂ with heap := h₀, toks := tk₀ } := by
  have hCw : cenv.locals ∉ wr := fun h => hCf (W.sub _ h)
  have hDw : D ∉ wr := fun h => hDf (W.sub _ h)
  refine codeAny_compLoop_tests
    (fun q s' => ∃ (h' : Heap) (tk : Nat) (dr : Drawn) (m' : Str → Option Value) (us : List Value) (k c : Nat), s' = { s₂ with heap := h', toks := tk, drawn := dr } ∧ St k h' ∧ k ≤ n ∧ us.length ≤ k ∧ IsL h' D us.toArray c ∧ h'.Ns cenv.locals m' ∧
      J k us h' ∧ (∀ b o, b ∉ wr → s₂.heap.get? b = some o → h'.get? b = some o) ∧ q = n - k)
    ?_ n ⟨h₀, tk₀, s₂.drawn, m₀, [], 0, 0, rfl, hst, Nat.zero_le _, Nat.le_refl _, hacc, hn, hJ0, fun b o _ e => hold b o e, rfl⟩
  rintro q s' ⟨h', tk, dr, m', us, k, c, rfl, hst', hle, hul, hD, hn', hJs, hkp, rfl⟩
  by_cases hlt : k < n
  · refine W.item k _ _ _ hlt hst' fun v h₁ tk₁ hPv hst₁ hk₁ => ?_
    refine wpAny_assign_Name (wpAny_storeName_local hxl (hn'.at' fun o e => hk₁ _ o hCw e) (fun h₂ hn₂ hs₂ => ?_) hp)
    have k₂ : ∀ b o, b ∉ wr → s₂.heap.get? b = some o → h₂.get? b = some o := fun b o hb e => hs₂.extBut b o (fun q => by rw [q, hCn] at e; cases e) (hk₁ b o hb (hkp b o hb e))
    have hJ₂ := hJ k us _ h₂ hJs fun b o hb _ hc e => hs₂.extBut b o hc (hk₁ b o hb e)
    refine wpAny_mono (turn k v us _ _ _ hPv hJ₂ hn₂ (if_pos rfl) k₂ rfl rfl) (fun ok s₄ h₄ => ?_) fun _ _ e => e
    obtain ⟨⟨h₄, tk₄, dr₄, rfl, hk₄⟩, hrest⟩ := h₄
    have k₁₄ : ∀ b o, b ∉ wr → b ≠ cenv.locals → h'.get? b = some o → h₄.get? b = some o := fun b o hb hc e => hk₄ b o (hs₂.extBut b o hc (hk₁ b o hb e))
    have hD₄ : IsL h₄ D us.toArray c := k₁₄ _ _ hDw hDC hD
    have hst₄ : St (k + 1) h₄ := W.frame _ _ _ hst₁ fun b hb o e => hk₄ b o (hs₂.extBut b o (fun q => hCf (q ▸ hb)) e)
    cases ok with
    | false =>
      rw [if_neg Bool.false_ne_true] at hrest ⊢
      exact ⟨n - (k + 1), by omega, h₄, tk₄, dr₄, _, us, k + 1, c, rfl, hst₄, hlt, Nat.le_succ_of_le hul, hD₄, hn₂.keeps hk₄, hrest, fun b o hb e => hk₄ b o (k₂ b o hb e), rfl⟩
    | true =>
      rw [if_pos rfl] at hrest ⊢
      refine wpAny_mono hrest (fun y s₅ h₅ => ?_) fun _ _ e => e
      obtain ⟨⟨h₅, tk₅, dr₅, rfl, hk₅⟩, hJ₅⟩ := h₅
      have hD₅ : IsL h₅ D us.toArray c := hk₅ _ _ hD₄
      refine append_IsL hD₅ (by omega) fun h₆ c' hD₆ hs₆ => ?_
      have hst₆ : St (k + 1) h₆ := W.frame _ _ _ hst₄ fun b hb o e => hs₆.extBut b o (fun q => hDf (q ▸ hb)) (hk₅ b o e)
      exact ⟨n - (k + 1), by omega, h₆, tk₅, dr₅, _, us ++ [y], k + 1, c', rfl, hst₆, hlt, by simp; exact hul, hD₆, ((hn₂.keeps hk₄).keeps hk₅).at' fun o e => hs₆.extBut _ o (Ne.symm hDC) e,
        hJ _ _ _ _ hJ₅ fun b o _ hd _ e => hs₆.extBut b o hd e, fun b o hb e => hs₆.extBut b o (fun q => by rw [q, hDn] at e; cases e) (hk₅ b o (hk₄ b o (k₂ b o hb e))), rfl⟩
  · have hin : k = n := by omega
    subst hin
    refine W.done _ _ _ hst' fun h₁ tk₁ hk₁ => ?_
    exact hR h₁ tk₁ dr m' us c (hn'.at' fun o e => hk₁ _ o hCw e) (hk₁ _ _ hDw hD) hul (hJ _ _ _ _ hJs fun b o hb _ _ e => hk₁ b o hb e) fun b o hb e => hk₁ b o hb (hkp b o hb e)

structure LcOn (prog : Program) (w : World) (A : Around) (env : Env) (scope : Scope) (cl : List (Str × Addr)) (x : Str) (ifs : List Expr) (elt : Expr) (wr : List Addr) (P : Nat → Value → Prop) (J : Nat → List Value → Heap → Prop) (s₂ : Shared) : Prop where
  J0 : J 0 [] s₂.heap
  stable : ∀ k us h h', J k us h → (∀ b o, b ∉ wr → b ≠ s₂.heap.objs.size → b ≠ s₂.heap.objs.size + 1 → h.get? b = some o → h'.get? b = some o) → J k us h'
  turn : ∀ k v us s₃ m₃ E', P k v → J k us s₃.heap → s₃.heap.Ns (s₂.heap.objs.size + 1) m₃ → m₃ x = some v → (∀ b o, b ∉ wr → s₂.heap.get? b = some o → s₃.heap.get? b = some o) → s₃.gens = s₂.gens → s₃.os = s₂.os →
      wpAny (model prog w) A (forIn ifs true fun c r => if r = true then do let ok ← isTrue c (compEnvC scope cl (s₂.heap.objs.size + 1) env) (eval c (compEnvC scope cl (s₂.heap.objs.size + 1) env)); pure (ForInStep.yield ok) else pure (ForInStep.yield r))
        (fun ok s₄ => KeepD s₃ s₄ ∧ if ok = true then wpAny (model prog w) A (eval elt (compEnvC scope cl (s₂.heap.objs.size + 1) env)) (fun y s₅ => KeepD s₄ s₅ ∧ J (k + 1) (us ++ [y]) s₅.heap) E' s₄ else J (k + 1) us s₄.heap) E' s₃

theorem ListComp_val {elt iter : Expr} {x : Str} {px : Pos} {ifs : List Expr} {scope : Scope} {cl : List (Str × Addr)} {pos : Pos} {s : Shared} {Q : Value → Shared → Prop}
    (hclos : closureFor scope env = pure cl) (hcell : ∀ y ∈ scope.names, y.2 ≠ .cell) (hkind : scope.kind = .function) (hnames : ∀ y ∈ scope.names, y.2 = .local → scope.names.lookup y.1 = some .local)
    (hx : scope.names.lookup x = some .local)
    (h : wpAny (model prog w) A (eval iter env) (fun xv s₁ => wpAny (model prog w) A (pyIter xv) (fun it s₂ => ∃ I fp wr n P St J, it = .ref I ∧ Walks prog w A I fp wr n P St ∧ n ≤ 4096 ∧ St 0 s₂.heap ∧ (∀ b ∈ fp, b < s₂.heap.objs.size) ∧
      LcOn prog w A env scope cl x ifs elt wr P J s₂ ∧
      (∀ (D : Addr) (h' : Heap) (tk : Nat) (dr : Drawn) (us : List Value) (c : Nat), s₂.heap.get? D = none → IsL h' D us.toArray c → us.length ≤ n → J n us h' →
        (∀ b o, b ∉ wr → s₂.heap.get? b = some o → h'.get? b = some o) → Q (.ref D) { s₂ with heap := h', toks := tk, drawn := dr })) E s₁) E s)
    (hs : ∀ x, foldedSetIterable iter env x = pure x := by intro _; rfl) :
    wpAny (model prog w) A (eval (.ListComp elt [⟨.Name x px, iter, ifs, 0⟩] scope pos) env) Q E s := by
  rw [eval_ListComp]
  refine wpAny_comprehension_free (use := none) rfl hs hclos hkind hnames (wpAny_mono h (fun xv s₁ h₁ => wpAny_mono h₁ (fun it s₂ h₂ => ?_) fun _ _ e => e) fun _ _ e => e)
  obtain ⟨I, fp, wr, n, P, St, J, rfl, W, hlen, hst, hfp, O, hQ⟩ := h₂
  refine wpAny_newObj_type (wpAny_newFunctionEnv hcell (by intro y hy; simp at hy) (fun h₁ hns₁ hsb₁ => ?_) hkind)
  dsimp only at hns₁ hsb₁ ⊢
  have oJ0 := O.J0
  have ostable := O.stable
  have oturn := O.turn
  generalize hN : s₂.heap.objs.size = N at ostable oturn hns₁ hsb₁ ⊢
  have hnew : IsL (s₂.heap.push { cls := .type "list", dict := none, data := .seq ([] : List Value).toArray }) N #[] 0 := hN ▸ Heap.get?_push_size _ rfl
  have k1 : ∀ b o, s₂.heap.get? b = some o → (s₂.heap.push { cls := .type "list", dict := none, data := .seq ([] : List Value).toArray }).get? b = some o := fun b o e => Heap.get?_push_of_some _ e
  have hs1 : (s₂.heap.push { cls := .type "list", dict := none, data := .seq ([] : List Value).toArray }).objs.size = N + 1 := by rw [Heap.size_push, hN]
  generalize s₂.heap.push { cls := .type "list", dict := none, data := .seq ([] : List Value).toArray } = H1 at hns₁ hsb₁ hnew k1 hs1 ⊢
  rw [hs1] at hns₁ hsb₁ ⊢
  have fresh : ∀ a, N ≤ a → s₂.heap.get? a = none := fun a ha => Heap.get?_none_of_le (hN ▸ ha)
  have up : ∀ b o, b ≠ N + 1 → H1.get? b = some o → h₁.get? b = some o := fun b o hb e => hsb₁.extBut b o hb (Heap.get?_push_of_some _ e)
  have old : ∀ b o, s₂.heap.get? b = some o → h₁.get? b = some o := fun b o e => up b o (fun q => by rw [fresh b (by rw [q]; exact Nat.le_succ _)] at e; cases e) (k1 b o e)
  have hDf : N ∉ fp := fun hm => by have := hfp _ hm; rw [hN] at this; exact Nat.lt_irrefl _ this
  have hCf : N + 1 ∉ fp := fun hm => by have := hfp _ hm; rw [hN] at this; exact Nat.lt_irrefl _ (Nat.lt_of_succ_lt this)
  have hDC : N ≠ N + 1 := Nat.ne_of_lt (Nat.lt_succ_self _)
  have hst₁ : St 0 h₁ := W.frame _ _ _ hst fun b _ o e => old b o e
  have loop : ∀ tk₀, codeAny (model prog w) A (.compLoop (.ListComp elt [⟨.Name x px, iter, ifs, 0⟩] scope pos) 0 (.ref I) (.ref N) (compEnvC scope cl (N + 1) env)) (compPost (model prog w) A E none Q (.ref N) (N + 1)) { s₂ with heap := h₁, toks := tk₀ } := by
    intro tk₀
    refine compL_loop (s₂ := s₂) (J := J) (cenv := compEnvC scope cl (N + 1) env) W hlen (lookup_relabel_local hx) (by simp [compEnvC, relabel, hkind])
      hDC hDf hCf hst₁ (up _ _ hDC hnew) hns₁ old (fresh _ (Nat.le_refl _)) (fresh _ (Nat.le_succ _)) (ostable _ _ _ _ oJ0 fun b o _ _ _ e => old b o e) ostable oturn ?_
    intro h' tk dr m' us c hn hl hul hJ hk
    exact ⟨m', hn, fun h'' hs'' => hQ _ h'' tk dr us c (fresh _ (Nat.le_refl _)) (hs''.extBut _ _ hDC hl) hul (ostable _ _ _ _ hJ fun b o _ _ hb e => hs''.extBut b o hb e)
      fun b o hb e => hs''.extBut b o (fun q => by rw [fresh b (by rw [q]; exact Nat.le_succ _)] at e; cases e) (hk b o hb e)⟩
  exact codeAny_compStart_list (loop _) (W.self 0 _ _ _ hst₁ (loop _))
end
end Mine

end PartJ6a
section PartJ6b
open PySem PySem.W PyProof.Rows
set_option maxRecDepth 100000
set_option maxHeartbeats 1000000
set_option linter.unusedVariables false
namespace Mine

def lParams : Arguments := (defAt 4).2.1
def lBody : List Stmt := (defAt 4).2.2.1
def lScope : Scope := (defAt 4).2.2.2
def lEnv (L a : Addr) (cd : Value) : Env := envOfC (Str.ofString "law") lScope L a cd
def lCells (L : Addr) : List (Str × Addr) := cellsFrom (L + 1) lScope.names []

/-- what stands at the top, as far as the law uses it -/
structure TpL (fT fD : Addr) (h : Heap) : Prop where
  tp : Tp fT h
  ex : ∃ mg mb o pm cd doc, h.Ns mainGlobals mg ∧ h.Ns builtinsNs mb ∧
    (mg (Str.ofString "len") = none ∧ mb (Str.ofString "len") = some (.builtin "len")) ∧
    (mg (Str.ofString "range") = none ∧ mb (Str.ofString "range") = some (.type "range")) ∧
    (mg (Str.ofString "sorted") = none ∧ mb (Str.ofString "sorted") = some (.builtin "sorted")) ∧
    (mg (Str.ofString "set") = none ∧ mb (Str.ofString "set") = some (.type "set")) ∧
    mg (Str.ofString "digraph") = some (.ref fD) ∧ h.get? fD = some o ∧ o.data = .func (Calls.docDef (Str.ofString "digraph") dParams dBody dScope pm cd doc) ∧ h.CodeRec cd (Str.ofString "digraph")

theorem TpL.mono {fT fD : Addr} {h h' : Heap} (x : TpL fT fD h) (k : ∀ b o, h.get? b = some o → h'.get? b = some o) : TpL fT fD h' := by
  obtain ⟨t, mg, mb, o, pm, cd, doc, h1, h2, a1, a2, a3, a4, a5, a6, a7, a8⟩ := x
  exact ⟨t.mono k, mg, mb, o, pm, cd, doc, h1.keeps k, h2.keeps k, a1, a2, a3, a4, a5, k _ _ a6, a7, a8.keeps k⟩

def Own (L b : Addr) : Prop := b = L ∨ ∃ n, (n, b) ∈ lCells L

structure Lx (g₀ base : Heap) (ex : Addr → Prop) (os : OsState) (L : Addr) (m cm : Str → Option Value) (s : Shared) : Prop where
  F : Fr g₀ L s.heap m
  C : Cl L (lCells L) s.heap cm
  keep : ∀ b o, ¬ ex b → ¬ Own L b → base.get? b = some o → s.heap.get? b = some o
  gens : s.gens = #[]
  hos : s.os = os

section
variable {prog : Program} {w : World} {A : Around} {E : Value → Shared → Prop} {g₀ base : Heap} {ex : Addr → Prop} {os : OsState} {L : Addr} {m m' cm cm' : Str → Option Value} {s : Shared} {a : Addr} {cd : Value}

theorem Lx.own (x : Lx g₀ base ex os L m cm s) {b : Addr} (hb : Own L b) : g₀.get? b = none := by
  refine Heap.get?_none_of_le (Nat.le_trans x.F.above ?_)
  rcases hb with rfl | ⟨n, hn⟩
  · exact Nat.le_refl _
  · exact Nat.le_of_lt (x.C.above n b hn)

theorem Lx.ownLive (x : Lx g₀ base ex os L m cm s) {b : Addr} (hb : Own L b) : ∃ o, s.heap.get? b = some o := by
  rcases hb with rfl | ⟨n, hn⟩
  · obtain ⟨o, _, _, ho, _⟩ := x.F.ns; exact ⟨o, ho⟩
  · have : ∀ {l : List (Str × Addr)}, (n, b) ∈ l → ∃ c, l.lookup n = some c := by
      intro l
      induction l with
      | nil => intro h; cases h
      | cons p r ih =>
        intro h
        obtain ⟨k, v⟩ := p
        rw [List.lookup_cons]
        cases e : n == k with
        | true => exact ⟨v, rfl⟩
        | false =>
          rcases List.mem_cons.mp h with q | q
          · cases q; simp at e
          · exact ih q
    -- the names are apart: the cell found is the cell meant
    obtain ⟨c, hc⟩ := this hn
    have hcell : ∀ {n : Str} {b : Addr}, (n, b) ∈ lCells L → (lCells L).lookup n = some b := by
      intro n b hb
      unfold lCells at hb ⊢
      have e : cellsFrom (L + 1) lScope.names [] = [(Str.ofString "come", L + 7), (Str.ofString "place", L + 6), (Str.ofString "own", L + 5), (Str.ofString "leads", L + 4), (Str.ofString "numbers", L + 3), (Str.ofString "nodes", L + 2), (Str.ofString "head", L + 1)] := rfl
      rw [e] at hb ⊢
      simp only [List.mem_cons, Prod.mk.injEq, List.not_mem_nil, or_false] at hb
      rcases hb with ⟨rfl, rfl⟩ | ⟨rfl, rfl⟩ | ⟨rfl, rfl⟩ | ⟨rfl, rfl⟩ | ⟨rfl, rfl⟩ | ⟨rfl, rfl⟩ | ⟨rfl, rfl⟩ <;> rfl
    obtain ⟨o, ho, _⟩ := x.C.cell n b (hcell hn)
    exact ⟨o, ho⟩

theorem Lx.new (x : Lx g₀ base ex os L m cm s) {c : Addr} (hc : s.heap.get? c = none) : g₀.get? c = none ∧ ¬ Own L c ∧ (ex c ∨ base.get? c = none) := by
  have hO : ¬ Own L c := fun h => by obtain ⟨o, ho⟩ := x.ownLive h; rw [hc] at ho; cases ho
  refine ⟨?_, hO, ?_⟩
  · cases e : g₀.get? c with
    | none => rfl
    | some o => rw [x.F.keep c o e] at hc; cases hc
  · by_cases hx : ex c
    · exact .inl hx
    · refine .inr ?_
      cases e : base.get? c with
      | none => rfl
      | some o => rw [x.keep c o hx hO e] at hc; cases hc
theorem Lx.grow (x : Lx g₀ base ex os L m cm s) {h' : Heap} {tk : Nat} {dr : Drawn} (hs : ∀ b o, s.heap.get? b = some o → h'.get? b = some o) : Lx g₀ base ex os L m cm { s with heap := h', toks := tk, drawn := dr } :=
  ⟨⟨x.F.ns.keeps hs, fun b o e => hs b o (x.F.keep b o e), x.F.above⟩, x.C.keeps hs, fun b o h1 h2 e => hs b o (x.keep b o h1 h2 e), x.gens, x.hos⟩
theorem Lx.toks (x : Lx g₀ base ex os L m cm s) {tk : Nat} {dr : Drawn} : Lx g₀ base ex os L m cm { s with toks := tk, drawn := dr } := ⟨x.F, x.C, x.keep, x.gens, x.hos⟩
theorem Lx.keepD (x : Lx g₀ base ex os L m cm s) {s' : Shared} (h : KeepD s s') : Lx g₀ base ex os L m cm s' := by
  obtain ⟨h', tk, dr, rfl, hk⟩ := h
  exact x.grow hk
theorem Lx.rebase (x : Lx g₀ base ex os L m cm s) (ex' : Addr → Prop) : Lx g₀ s.heap ex' os L m cm s := ⟨x.F, x.C, fun _ _ _ _ e => e, x.gens, x.hos⟩
/-- a change at one address outside the frame -/
theorem Lx.other (x : Lx g₀ base ex os L m cm s) {c : Addr} {h' : Heap} {tk : Nat} {dr : Drawn} (h0 : g₀.get? c = none) (hc : ¬ Own L c) (hb : ex c ∨ base.get? c = none) (hs : ∀ b o, b ≠ c → s.heap.get? b = some o → h'.get? b = some o) :
    Lx g₀ base ex os L m cm { s with heap := h', toks := tk, drawn := dr } := by
  have hL : L ≠ c := fun q => hc (.inl q.symm)
  refine ⟨⟨x.F.ns.at' fun o e => hs L o hL e, fun b o e => hs b o (fun q => by rw [q, h0] at e; cases e) (x.F.keep b o e), x.F.above⟩, ⟨fun n c' e => ?_, x.C.apart, x.C.above⟩, fun b o h1 h2 e => hs b o (fun q => ?_) (x.keep b o h1 h2 e), x.gens, x.hos⟩
  · obtain ⟨o, ho, hd⟩ := x.C.cell n c' e
    exact ⟨o, hs c' o (fun q => hc (.inr ⟨n, q ▸ mem_of_lookup e⟩)) ho, hd⟩
  · rcases hb with hb | hb
    · exact h1 (q ▸ hb)
    · rw [q, hb] at e; cases e

theorem Lx.ld {nm : Str} {pos : Pos} {v : Value} {Q : Value → Shared → Prop} (x : Lx g₀ base ex os L m cm s) (hv : m nm = some v) (h : Q v s)
    (hl : (lEnv L a cd).kindOf nm = some .local := by rfl) (hd : (nm == ("__debug__" : Str)) = false := by decide) : wpAny (model prog w) A (eval (.Name nm pos) (lEnv L a cd)) Q E s := ldLoc x.F hv h rfl hl hd
theorem Lx.ldc {nm : Str} {pos : Pos} {c : Addr} {v : Value} {Q : Value → Shared → Prop} (x : Lx g₀ base ex os L m cm s) (hv : cm nm = some v) (h : Q v s)
    (hc : (lCells L).lookup nm = some c := by rfl) (hl : (lEnv L a cd).kindOf nm = some .cell := by rfl) (hd : (nm == ("__debug__" : Str)) = false := by decide) : wpAny (model prog w) A (eval (.Name nm pos) (lEnv L a cd)) Q E s := ldC x.C hc hv h rfl hl hd
theorem Lx.sto {nm : Str} {v : Value} {Q : Unit → Shared → Prop} (x : Lx g₀ base ex os L m cm s)
    (h : ∀ s', Lx g₀ base ex os L (fun y => if y = nm then some v else m y) cm s' → (∀ b o, b ≠ L → s.heap.get? b = some o → s'.heap.get? b = some o) → Q () s') (hl : (lEnv L a cd).kindOf nm = some .local := by rfl) : wpAny (model prog w) A (storeName (lEnv L a cd) nm v) Q E s :=
  wpAny_storeName_local (env := lEnv L a cd) hl x.F.ns (fun h' hn hs => h _ ⟨x.F.set hn hs, x.C.sameBut hs (Nat.le_refl _), fun b o h1 h2 e => hs.extBut b o (fun q => h2 (.inl q)) (x.keep b o h1 h2 e), x.gens, x.hos⟩ fun b o hb e => hs.extBut b o hb e) rfl
theorem Lx.stoc {nm : Str} {c : Addr} {v : Value} {Q : Unit → Shared → Prop} (x : Lx g₀ base ex os L m cm s)
    (h : ∀ s', Lx g₀ base ex os L m (fun y => if y = nm then some v else cm y) s' → (∀ b o, ¬ Own L b → s.heap.get? b = some o → s'.heap.get? b = some o) → Q () s') (hc : (lCells L).lookup nm = some c := by rfl) (hl : (lEnv L a cd).kindOf nm = some .cell := by rfl) : wpAny (model prog w) A (storeName (lEnv L a cd) nm v) Q E s := by
  have hLc : L < c := x.C.above nm c (mem_of_lookup hc)
  refine wpAny_storeName_cell (env := lEnv L a cd) rfl hl hc (x.C.cell nm c hc) fun h' hv hs => h _ ⟨⟨x.F.ns.sameBut hs (Nat.ne_of_lt hLc), fun b o e => hs.extBut b o (fun q => ?_) (x.F.keep b o e), x.F.above⟩, ⟨fun n c' e => ?_, x.C.apart, x.C.above⟩, fun b o h1 h2 e => hs.extBut b o (fun q => h2 (.inr ⟨nm, q ▸ mem_of_lookup hc⟩)) (x.keep b o h1 h2 e), x.gens, x.hos⟩
    fun b o hb e => hs.extBut b o (fun q => hb (.inr ⟨nm, q ▸ mem_of_lookup hc⟩)) e
  · rw [x.own (b := b) (.inr ⟨nm, q ▸ mem_of_lookup hc⟩)] at e; cases e
  · by_cases hn : n = nm
    · subst hn; rw [hc] at e; cases e; simpa using hv
    · have hcc : c' ≠ c := fun q => hn (name_of_addr x.C.apart (mem_of_lookup e) (q ▸ mem_of_lookup hc))
      simpa [hn] using (x.C.cell n c' e).sameBut hs hcc

/-- a cell in a comprehension -/
theorem ldCc {env : Env} {nm : Str} {pos : Pos} {c : Addr} {v : Value} {Q : Value → Shared → Prop} (hv : s.heap.IsCell c (some v)) (h : Q v s) (hk : env.scope.kind = .function := by rfl) (hc : env.cells.lookup nm = some c := by rfl)
    (hl : env.kindOf nm = some .cell := by rfl) (hd : (nm == ("__debug__" : Str)) = false := by decide) : wpAny (model prog w) A (eval (.Name nm pos) env) Q E s := wpAny_Name (wpAny_loadName_cell hk hl hc hv h) hd
theorem ldCl {env : Env} {nm : Str} {pos : Pos} {mm : Str → Option Value} {v : Value} {Q : Value → Shared → Prop} (hn : s.heap.Ns env.locals mm) (hv : mm nm = some v) (h : Q v s) (hk : env.scope.kind = .function := by rfl)
    (hl : env.kindOf nm = some .local := by rfl) (hd : (nm == ("__debug__" : Str)) = false := by decide) : wpAny (model prog w) A (eval (.Name nm pos) env) Q E s := wpAny_Name (wpAny_loadName_local hk hl hn hv h) hd

/-- a builtin's name -/
theorem ldB {fT fD : Addr} {env : Env} {pos : Pos} {Q : Value → Shared → Prop} (T : TpL fT fD s.heap) (h : Q (.builtin "len") s) (hk : env.scope.kind = .function := by rfl) (hx : env.kindOf (Str.ofString "len") = some .globalImplicit := by rfl)
    (hg : env.globals = mainGlobals := by rfl) (hb : env.builtins = builtinsNs := by rfl) : wpAny (model prog w) A (eval (.Name (Str.ofString "len") pos) env) Q E s := by
  obtain ⟨_, mg, mb, o, pm, cd, doc, h1, h2, a1, _⟩ := T
  exact Calls.Name_function_global hk hx (Calls.loadGlobal_builtin (hg ▸ h1) a1.1 (hb ▸ h2) a1.2 h)
theorem ldRange {fT fD : Addr} {env : Env} {pos : Pos} {Q : Value → Shared → Prop} (T : TpL fT fD s.heap) (h : Q (.type "range") s) (hk : env.scope.kind = .function := by rfl) (hx : env.kindOf (Str.ofString "range") = some .globalImplicit := by rfl)
    (hg : env.globals = mainGlobals := by rfl) (hb : env.builtins = builtinsNs := by rfl) : wpAny (model prog w) A (eval (.Name (Str.ofString "range") pos) env) Q E s := by
  obtain ⟨_, mg, mb, o, pm, cd, doc, h1, h2, _, a1, _⟩ := T
  exact Calls.Name_function_global hk hx (Calls.loadGlobal_builtin (hg ▸ h1) a1.1 (hb ▸ h2) a1.2 h)
theorem ldSorted {fT fD : Addr} {env : Env} {pos : Pos} {Q : Value → Shared → Prop} (T : TpL fT fD s.heap) (h : Q (.builtin "sorted") s) (hk : env.scope.kind = .function := by rfl) (hx : env.kindOf (Str.ofString "sorted") = some .globalImplicit := by rfl)
    (hg : env.globals = mainGlobals := by rfl) (hb : env.builtins = builtinsNs := by rfl) : wpAny (model prog w) A (eval (.Name (Str.ofString "sorted") pos) env) Q E s := by
  obtain ⟨_, mg, mb, o, pm, cd, doc, h1, h2, _, _, a1, _⟩ := T
  exact Calls.Name_function_global hk hx (Calls.loadGlobal_builtin (hg ▸ h1) a1.1 (hb ▸ h2) a1.2 h)
theorem ldSet {fT fD : Addr} {env : Env} {pos : Pos} {Q : Value → Shared → Prop} (T : TpL fT fD s.heap) (h : Q (.type "set") s) (hk : env.scope.kind = .function := by rfl) (hx : env.kindOf (Str.ofString "set") = some .globalImplicit := by rfl)
    (hg : env.globals = mainGlobals := by rfl) (hb : env.builtins = builtinsNs := by rfl) : wpAny (model prog w) A (eval (.Name (Str.ofString "set") pos) env) Q E s := by
  obtain ⟨_, mg, mb, o, pm, cd, doc, h1, h2, _, _, _, a1, _⟩ := T
  exact Calls.Name_function_global hk hx (Calls.loadGlobal_builtin (hg ▸ h1) a1.1 (hb ▸ h2) a1.2 h)

/-- len(e) of a list -/
theorem evLen {fT fD : Addr} {env : Env} {e : Expr} {p1 pos : Pos} {Q : Value → Shared → Prop} (T : TpL fT fD s.heap)
    (h : wpAny (model prog w) A (eval e env) (fun v s₁ => ∃ l vs, v = .ref l ∧ s₁.heap.IsList l (List.toArray vs) ∧ vs.length ≤ 65536 ∧ ∀ tk u, Q (.int (vs.length : Nat) u) { s₁ with toks := tk }) E s)
    (hk : env.scope.kind = .function := by rfl) (hx : env.kindOf (Str.ofString "len") = some .globalImplicit := by rfl)
    (hg : env.globals = mainGlobals := by rfl) (hb : env.builtins = builtinsNs := by rfl)
    (he : eval (.Call (.Name (Str.ofString "len") p1) [e] [] pos) env = (do callWith pos (← eval (.Name (Str.ofString "len") p1) env) [] (backTo pos (starEach [e] env)) (backToKw pos (keywordEach [] env))) := by rfl)
    (he' : starEach [e] env = (false, eval e env) :: starEach [] env := by rfl) :
    wpAny (model prog w) A (eval (.Call (.Name (Str.ofString "len") p1) [e] [] pos) env) Q E s := by
  refine Call_ (ldB T ?_ hk hx hg hb) he
  refine callWith_builtin1 (args_cons (wpAny_mono h (fun v s₁ h₁ => args_nil ?_) fun _ _ e => e) he') he'
  obtain ⟨l, vs, rfl, hl, hz, hQ⟩ := h₁
  refine Calls.call_len_list hl (by rw [List.size_toArray]; omega) ?_
  rw [List.size_toArray]; exact hQ _ _
end
end Mine

end PartJ6b
section PartJ6c
open PySem PySem.W PyProof.Rows
set_option maxRecDepth 100000
set_option maxHeartbeats 1000000
set_option linter.unusedVariables false
namespace Mine

def hdOf (ns : List Int) : Int := ns.headD 5
def nOf (hd : Int) : Nat := (1 + (hd.fdiv 2).fmod 12).toNat
def kdOf (hd : Int) : Bool := hd.fmod 3 == 0
def numsOf (ns : List Int) : List Int := if 1 < ns.length then ns.drop 1 else [2, 3, 4]

theorem nOf_bounds (hd : Int) : 1 ≤ nOf hd ∧ nOf hd ≤ 12 ∧ 1 + (hd.fdiv 2).fmod 12 = (nOf hd : Int) := by
  have h1 := Int.fmod_nonneg_of_pos (hd.fdiv 2) (b := 12) (by decide)
  have h2 := Int.fmod_lt_of_pos (hd.fdiv 2) (b := 12) (by decide)
  unfold nOf
  omega

section
variable {prog : Program} {w : World} {A : Around} {E : Value → Shared → Prop} {env : Env} {s : Shared}

/-- the end of a subscript, whatever the base is -/
theorem subEnd {value slice : Expr} {o i : Value} {T id : String} {ops : List Value} {Q : Value → Shared → Prop} (hT : s.TypeIs o T) (hl : typeLookup (.type T) "__getitem__" = pure (some (.builtin id)))
    (hs : subscripted slice false o i = operate ops (getItem o i)) (h : wpAny (model prog w) A (getItem o i) Q E s) : wpAny (model prog w) A (subscriptTail value slice o i) Q E s := by
  have last : wpAny (model prog w) A (subscripted slice false o i >>= fun r => letTemporaryGo value o r >>= fun _ => pure r) Q E s := by
    rw [hs]
    exact wpAny_bind (wpAny_operating (wpAny_mono h (fun r s' hr => wpAny_bind (wpAny_letTemporaryGo (wpAny_pure hr))) fun _ _ e => e))
  show wpAny _ _ (getitemInPython o >>= fun b => subscripted slice b o i >>= fun r => letTemporaryGo value o r >>= fun _ => pure r) Q E s
  rw [getitemInPython_of_ne hT.not_modules]
  refine wpAny_bind (wpAny_bind (wpAny_specialOf hT hl ?_))
  exact wpAny_pure last

theorem evSlice {value : Expr} {lo up st : Option Expr} {p pos : Pos} {Q : Value → Shared → Prop} (ops : Value → Value → List Value)
    (h : wpAny (model prog w) A (eval value env) (fun o s₁ => ∃ l, o = .ref l ∧ wpAny (model prog w) A (evalPart lo env) (fun a s₂ => wpAny (model prog w) A (evalPart up env) (fun b s₃ => wpAny (model prog w) A (evalPart st env) (fun c s₄ =>
      ∃ items lo' up' st', s₄.heap.IsList l items ∧ items.size ≤ 65536 ∧ IsPart a lo' ∧ IsPart b up' ∧ IsPart c st' ∧ st' ≠ some 0 ∧
        (∀ h' D c', IsL h' D (slicePick items lo' up' st') c' → s₄.heap.get? D = none → s₄.heap.objs.size ≤ D → (∀ b o, s₄.heap.get? b = some o → h'.get? b = some o) → Q (.ref D) { s₄ with heap := h' })) E s₃) E s₂) E s₁) E s)
    (hs : ∀ o i, subscripted (.Slice lo up st p) false o i = operate (ops o i) (getItem o i) := by intro _ _; with_unfolding_all rfl) :
    wpAny (model prog w) A (eval (.Subscript value (.Slice lo up st p) pos) env) Q E s := by
  refine Subscript_ (wpAny_mono h (fun o s₁ h₁ => ?_) fun _ _ e => e)
  obtain ⟨l, rfl, h₁⟩ := h₁
  refine wpAny_Slice (wpAny_mono h₁ (fun a s₂ h₂ => wpAny_mono h₂ (fun b s₃ h₃ => wpAny_mono h₃ (fun c s₄ h₄ => ?_) fun _ _ e => e) fun _ _ e => e) fun _ _ e => e)
  obtain ⟨items, lo', up', st', hl, hz, pa, pb, pc, h0, hQ⟩ := h₄
  refine subEnd (Heap.IsList.typeIs (s := { s₄ with heap := s₄.heap.push { cls := .type "slice", data := .fields #[a, b, c] } }) (hl.push _)) list_getitem_lookup (hs _ _)
    (wpAny_getItem_list_slice (hl.push _) (Heap.IsSliceOf.new ..) pa pb pc h0 ?_ (by rw [sizeLine_eq]; omega))
  refine hQ _ _ 0 (Heap.get?_push_size _ rfl) ?_ (by rw [Heap.size_push]; exact Nat.le_succ _) fun b o e => Heap.get?_push_of_some _ (Heap.get?_push_of_some _ e)
  exact Heap.get?_none_of_le (by rw [Heap.size_push]; exact Nat.le_succ _)

/-- an item of a list by a number -/
theorem evItem {value slice : Expr} {pos : Pos} {Q : Value → Shared → Prop}
    (h : wpAny (model prog w) A (eval value env) (fun o s₁ => ∃ l, o = .ref l ∧ wpAny (model prog w) A (eval slice env) (fun i s₂ => ∃ (vs : List Value) (k : Nat) (u : Tok) (x : Value), i = .int (k : Int) u ∧ s₂.heap.IsList l vs.toArray ∧ k < 65536 ∧ vs[k]? = some x ∧ Q x s₂) E s₁) E s)
    (hs : ∀ o i, subscripted slice false o i = operate [o, i] (getItem o i) := by intro _ _; with_unfolding_all rfl)
    (hg : ∀ l r, letTemporaryGo value (.ref l) r = pure () := by intro _ _; with_unfolding_all rfl) :
    wpAny (model prog w) A (eval (.Subscript value slice pos) env) Q E s := by
  refine Subscript_ (wpAny_mono h (fun o s₁ h₁ => ?_) fun _ _ e => e)
  obtain ⟨l, rfl, h₁⟩ := h₁
  refine wpAny_mono h₁ (fun i s₂ h₂ => ?_) fun _ _ e => e
  obtain ⟨vs, k, u, x, rfl, hl, hk, hx, hQ⟩ := h₂
  exact item_listL hl (by omega) (by omega) (by simpa using hx) hQ (hs _ _) (hg _)

theorem headStmt {g₀ base : Heap} {ex : Addr → Prop} {os : OsState} {L : Addr} {m cm : Str → Option Value} {a : Addr} {cd : Value} {scr : Addr} {vs : List Value} {ns : List Int} {Q : Flow → Shared → Prop}
    (x : Lx g₀ base ex os L m cm s) (hm : m (Str.ofString "script") = some (.ref scr)) (hscr : g₀.IsList scr vs.toArray) (hi : IntsAre vs ns) (hn : ns.length ≤ 63)
    (h : ∀ s' t, Lx g₀ base ex os L m (fun y => if y = Str.ofString "head" then some (.int (hdOf ns) t) else cm y) s' → wpAny (model prog w) A (execs (lBody.drop 1) (lEnv L a cd)) Q E s') :
    wpAny (model prog w) A (execs lBody (lEnv L a cd)) Q E s := by
  refine wpAny_execs_cons (wpAny_Assign_Name (wpAny_IfExp (wpAny_isTrue_value (x.ld hm (wpAny_truthy_list (hscr.at fun o e => x.F.keep _ _ e) (by rw [List.size_toArray, hi.length]; omega) ?_)))))
  cases hi with
  | nil =>
    rw [show (!(#[] : Array Value).isEmpty) = false from rfl, if_neg Bool.false_ne_true]
    refine wpAny_Constant_int ?_
    exact (Lx.toks (tk := s.toks + 1 + 1 + 1) (dr := s.drawn) x).stoc (a := a) (cd := cd) fun s' x' _ => h s' _ x'
  | @cons n t vs ns hi =>
    rw [show (!((Value.int n t :: vs).toArray).isEmpty) = true by simp, if_pos rfl]
    have x₁ : Lx g₀ base ex os L m cm { s with toks := s.toks + 1 + 1 } := x.toks (dr := s.drawn)
    refine evItem (x₁.ld hm ⟨scr, rfl, wpAny_Constant_int ⟨_, 0, _, .int n t, rfl, hscr.at fun o e => x.F.keep _ _ e, by decide, rfl, ?_⟩⟩)
    exact (Lx.toks (tk := s.toks + 1 + 1 + 1) (dr := s.drawn) x).stoc (a := a) (cd := cd) fun s' x' _ => h s' _ x'
end
end Mine

end PartJ6c
section PartJ6d
open PySem PySem.W PyProof.Rows
set_option maxRecDepth 100000
set_option maxHeartbeats 1000000
set_option linter.unusedVariables false
namespace Mine

section
variable {prog : Program} {w : World} {A : Around} {E : Value → Shared → Prop} {env : Env} {s : Shared} {fT fD : Addr}

theorem evRange {e : Expr} {p1 pos : Pos} {Q : Value → Shared → Prop} (T : TpL fT fD s.heap)
    (h : wpAny (model prog w) A (eval e env) (fun v s₁ => ∃ (n : Nat) (u : Tok), v = .int (n : Int) u ∧ n ≤ 4096 ∧ ∀ (I : Addr) (h' : Heap) (tk : Nat), I < h'.objs.size → s₁.heap.get? I = none →
      IsRangeIter h' I ((0 : Int) + ((0 : Nat) : Int) * 1) ((n : Int) - ((0 : Nat) : Int)) 1 → (∀ b o, s₁.heap.get? b = some o → h'.get? b = some o) → Q (.ref I) { s₁ with heap := h', toks := tk }) E s)
    (hk : env.scope.kind = .function := by rfl) (hx : env.kindOf (Str.ofString "range") = some .globalImplicit := by rfl)
    (hg : env.globals = mainGlobals := by rfl) (hb : env.builtins = builtinsNs := by rfl)
    (he : eval (.Call (.Name (Str.ofString "range") p1) [e] [] pos) env = (do callWith pos (← eval (.Name (Str.ofString "range") p1) env) [] (backTo pos (starEach [e] env)) (backToKw pos (keywordEach [] env))) := by rfl)
    (he' : starEach [e] env = (false, eval e env) :: starEach [] env := by rfl) :
    wpAny (model prog w) A (eval (.Call (.Name (Str.ofString "range") p1) [e] [] pos) env) (fun xv s₁ => wpAny (model prog w) A (pyIter xv) Q E s₁) E s := by
  refine Call_ (ldRange T ?_ hk hx hg hb) he
  refine PyProof.Rows.callWith_type1 (args_cons (wpAny_mono h (fun v s₁ h₁ => args_nil ?_) fun _ _ e => e) he') he'
  obtain ⟨n, u, rfl, hn, hQ⟩ := h₁
  refine call_range_1 ?_
  have hr := IsRange.new s₁.heap 0 (n : Int) 1 s₁.toks u (s₁.toks + 1)
  refine wpAny_pyIter_range hr (small_one (by decide) (by decide) (by omega) (by omega)) ?_
  refine hQ _ _ _ (by rw [Heap.size_push (h := s₁.heap.push _)]; exact Nat.lt_succ_self _) ?_ ?_ fun b o e => Heap.get?_push_of_some _ (Heap.get?_push_of_some _ e)
  · exact Heap.get?_none_of_le (by rw [Heap.size_push]; exact Nat.le_succ _)
  · have e2 : Builtin.Range.rangeSize 0 (n : Int) 1 = (n : Int) := by rw [rangeSize_one]; split <;> omega
    have e3 : ((0 : Int) + ((0 : Nat) : Int) * 1) = 0 := by simp
    have e4 : ((n : Int) - ((0 : Nat) : Int)) = (n : Int) := by simp
    rw [e2, e3, e4]
    exact Heap.get?_push_size _ rfl

def NodeV (prog : Program) (w : World) (kd : Bool) (lo : Nat) (h : Heap) (i : Nat) (v : Value) : Prop :=
  (kd = true → ∃ t, v = .int (i : Int) t) ∧ (kd = false → ∃ a : Addr, v = .ref a ∧ lo ≤ a ∧ IsTupleKey (mixKind prog w) h (tkey i) a)

def ndsOf (kd : Bool) (us : List Value) : Nds := ⟨kd, fun i => match us[i]? with | some (.ref a) => a | _ => 0⟩

theorem nvs_pointwise {C : Nds} : ∀ {js : List Nat} {us : List Value}, js.length = us.length → (∀ (k j : Nat) (v : Value), js[k]? = some j → us[k]? = some v → NV C j v) → NVs C js us
  | [], [], _, _ => .nil
  | j :: js, v :: us, hl, h => .cons (h 0 j v rfl rfl) (nvs_pointwise (by simpa using hl) fun k j v h1 h2 => h (k + 1) j v (by simpa using h1) (by simpa using h2))
  | [], _ :: _, hl, _ => by simp at hl
  | _ :: _, [], hl, _ => by simp at hl

theorem nodesStmt {g₀ base : Heap} {ex : Addr → Prop} {os : OsState} {L : Addr} {m cm : Str → Option Value} {a : Addr} {cd : Value} {hd : Int} {t : Tok} {Q : Flow → Shared → Prop} (T : TpL fT fD g₀) (hh : A.handled = none)
    (x : Lx g₀ base ex os L m cm s) (hc : cm (Str.ofString "head") = some (.int hd t))
    (h : ∀ s' C lN vN, Lx g₀ base ex os L m (fun y => if y = Str.ofString "nodes" then some (.ref lN) else cm y) s' → C.kd = kdOf hd → s'.heap.IsList lN (List.toArray vN) → NVs C (List.range (nOf hd)) vN → (∀ i, i < nOf hd → NodeOk prog w C s'.heap i) → ¬ Own L lN →
      wpAny (model prog w) A (execs (lBody.drop 2) (lEnv L a cd)) Q E s') :
    wpAny (model prog w) A (execs (lBody.drop 1) (lEnv L a cd)) Q E s := by
  have hT := T.mono x.F.keep
  refine wpAny_execs_cons (wpAny_Assign_Name (ListComp_val (cl := [(Str.ofString "head", L + 1)]) rfl (by decide) rfl (by decide) rfl (evRange hT ?_)))
  have x₀ : Lx g₀ base ex os L m cm { s with toks := s.toks + 1 } := x.toks (dr := s.drawn)
  refine wpAny_BinOp (wpAny_Constant_int (wpAny_BinOp (wpAny_BinOp (x₀.ldc (c := L + 1) hc (wpAny_Constant_int ?_)))))
  refine floordiv_int (by decide) ?_ (Or.inl (PyProof.noPylong_of_log2 (by decide +kernel)))
  refine wpAny_Constant_int ?_
  refine PyProof.Rows.mod_int (by decide) ?_
  refine PyProof.Rows.add_int ?_
  obtain ⟨hn1, hn2, hn3⟩ := nOf_bounds hd
  refine ⟨nOf hd, _, by rw [← hn3], by omega, fun I h' tk hI hIn hit hk' => ?_⟩
  have hIs : s.heap.get? I = none := hIn
  have hIo : ∀ b o, s.heap.get? b = some o → b ≠ I := fun b o e q => by rw [q, hIs] at e; cases e
  have hInew := x.new hIs
  have x₁ : Lx g₀ base ex os L m cm { s with heap := h', toks := tk } := x.grow (dr := s.drawn) fun b o e => hk' b o e
  generalize hS : ({ s with heap := h', toks := tk } : Shared) = s₁ at x₁ ⊢
  have hh' : h' = s₁.heap := by rw [← hS]
  rw [hh'] at hI hit hk'
  refine ⟨I, [I], [I], nOf hd, _, _, fun k us h => us.length = k ∧ ∀ (i : Nat) (v : Value), us[i]? = some v → NodeV prog w (kdOf hd) (s₁.heap.objs.size + 2) h i v, rfl, Walks.range hh I 0 1 (nOf hd), by omega, hit, ?_, ?_, ?_⟩
  · intro b hb; simp at hb; subst hb; exact hI
  · refine ⟨⟨rfl, fun i v e => by simp at e⟩, ?_, ?_⟩
    · rintro k us h h' ⟨hl, hu⟩ hk
      refine ⟨hl, fun i v e => ?_⟩
      obtain ⟨h1, h2⟩ := hu i v e
      refine ⟨h1, fun hkd => ?_⟩
      obtain ⟨a', rfl, hlo, o, items, n, ho, r⟩ := h2 hkd
      refine ⟨a', rfl, hlo, o, items, n, hk a' o ?_ (Nat.ne_of_gt (Nat.lt_of_lt_of_le (by omega) hlo)) (Nat.ne_of_gt (Nat.lt_of_lt_of_le (by omega) hlo)) ho, r⟩
      simp only [List.mem_singleton]
      exact Nat.ne_of_gt (Nat.lt_of_lt_of_le (Nat.lt_trans hI (by omega)) hlo)
    · rintro k v us s₃ m₃ E' ⟨u, rfl⟩ ⟨hl, hu⟩ hn₃ hm₃ hk₃ hg₃ ho₃
      refine wpAny_tests_nil ⟨KeepD.refl _, ?_⟩
      rw [if_pos rfl]
      have hcell : s₃.heap.IsCell (L + 1) (some (.int hd t)) := by
        obtain ⟨o, ho, hd'⟩ := x.C.cell (Str.ofString "head") (L + 1) rfl
        rw [hc] at hd'
        exact ⟨o, hk₃ _ o (by simp only [List.mem_singleton]; exact hIo _ _ ho) (hk' _ _ ho), hd'⟩
      refine wpAny_IfExp (wpAny_isTrue_Compare1 (wpAny_BinOp (ldCc hcell (wpAny_Constant_int (PyProof.Rows.mod_int (by decide) (wpAny_Constant_int (PyProof.Rows.eq_int (wpAny_truthy_bool ?_))))))))
      have hlast : ∀ (h₅ : Heap) (y : Value), (∀ b o, s₃.heap.get? b = some o → h₅.get? b = some o) → NodeV prog w (kdOf hd) (s₁.heap.objs.size + 2) h₅ k y →
          (us ++ [y]).length = k + 1 ∧ ∀ (i : Nat) (v : Value), (us ++ [y])[i]? = some v → NodeV prog w (kdOf hd) (s₁.heap.objs.size + 2) h₅ i v := by
        intro h₅ y hk₅ hy
        refine ⟨by simp [hl], fun i v e => ?_⟩
        rcases Nat.lt_trichotomy i us.length with q | q | q
        · rw [List.getElem?_append_left q] at e
          obtain ⟨h1, h2⟩ := hu i v e
          refine ⟨h1, fun hkd => ?_⟩
          obtain ⟨a', rfl, hlo, ht⟩ := h2 hkd
          exact ⟨a', rfl, hlo, tkm ht hk₅⟩
        · rw [List.getElem?_append_right (Nat.le_of_eq q.symm), q, Nat.sub_self] at e
          simp at e; subst e
          rw [q, hl]; exact hy
        · rw [List.getElem?_eq_none (by simp; omega)] at e; cases e
      cases hkd : (hd.fmod 3 == 0) with
      | true =>
        rw [if_pos rfl]
        refine ldCl (mm := m₃) hn₃ hm₃ ⟨⟨s₃.heap, _, s₃.drawn, rfl, fun _ _ e => e⟩, ?_⟩
        refine hlast _ _ (fun _ _ e => e) ⟨fun _ => ⟨u, by simp⟩, fun q => ?_⟩
        rw [show kdOf hd = true from hkd] at q; cases q
      | false =>
        rw [if_neg Bool.false_ne_true]
        refine wpAny_Tuple (args_cons (ldCl (mm := m₃) hn₃ hm₃ (args_cons (wpAny_Constant_str (args_nil ⟨by show 2 ≤ sizeLine; rw [sizeLine_eq]; omega, ?_⟩)))))
        refine ⟨⟨_, _, s₃.drawn, rfl, fun b o e => Heap.get?_push_of_some _ e⟩, ?_⟩
        refine hlast _ _ (fun b o e => Heap.get?_push_of_some _ e) ⟨fun q => ?_, fun _ => ⟨_, rfl, ?_, _, _, 0, Heap.get?_push_size _ rfl, rfl, rfl, ?_⟩⟩
        · rw [show kdOf hd = false from hkd] at q; cases q
        · exact hn₃.lt
        · refine .cons ?_ (.cons ?_ .nil)
          · show Value.isInt (k : Int) (.int (0 + (k : Int) * 1) u) = true
            simp [Value.isInt]
          · simp [mixKind, mixIs, Value.isStrOf]
  · rintro D h₂ tk₂ dr₂ us c hD hl hle ⟨hlen, hu⟩ hk₂
    have x₂ : Lx g₀ base ex os L m cm { s₁ with heap := h₂, toks := tk₂, drawn := dr₂ } := x₁.other hInew.1 hInew.2.1 hInew.2.2 fun b o hb e => hk₂ b o (by simpa using hb) e
    have hDo : ¬ Own L D := (x₁.new hD).2.1
    refine x₂.stoc (a := a) (cd := cd) fun s₃ x₃ hk₃ => ?_
    have hown : ∀ b, Own L b → b < s₁.heap.objs.size := fun b hb => by obtain ⟨o, ho⟩ := x₁.ownLive hb; exact Heap.lt_size ho
    have hnode : ∀ (i : Nat) (v : Value), us[i]? = some v → NV (ndsOf (kdOf hd) us) i v ∧ NodeOk prog w (ndsOf (kdOf hd) us) s₃.heap i := by
      intro i v e
      obtain ⟨h1, h2⟩ := hu i v e
      refine ⟨⟨h1, fun hkd => ?_⟩, fun hkd => ?_⟩
      · obtain ⟨a', rfl, _⟩ := h2 hkd
        show Value.ref a' = .ref (match us[i]? with | some (.ref a) => a | _ => 0)
        rw [e]
      · obtain ⟨a', rfl, hlo, o, items, n, ho, r⟩ := h2 hkd
        have e' : (ndsOf (kdOf hd) us).ad i = a' := by
          show (match us[i]? with | some (.ref a) => a | _ => 0) = a'
          rw [e]
        rw [e']
        exact ⟨o, items, n, hk₃ _ _ (fun hb => Nat.lt_irrefl _ (Nat.lt_of_lt_of_le (hown _ hb) (Nat.le_trans (Nat.le_add_right _ 2) hlo))) ho, r⟩
    refine h s₃ (ndsOf (kdOf hd) us) D us x₃ rfl ?_ ?_ ?_ hDo
    · exact hl.isList.at fun o e => hk₃ _ o hDo e
    · refine nvs_pointwise (by rw [List.length_range, hlen]) fun k j v h1 h2 => ?_
      obtain ⟨q1, q2⟩ := List.getElem?_eq_some_iff.mp h1
      rw [List.getElem_range] at q2
      subst q2
      exact (hnode k v h2).1
    · intro i hi
      obtain ⟨v, hv⟩ : ∃ v, us[i]? = some v := ⟨us[i], List.getElem?_eq_getElem (by omega)⟩
      exact (hnode i v hv).2
end
end Mine

end PartJ6d
section PartJ6e
open PySem PySem.W PyProof.Rows
set_option maxRecDepth 100000
set_option maxHeartbeats 1000000
set_option linter.unusedVariables false
namespace Mine

section
variable {prog : Program} {w : World} {A : Around} {E : Value → Shared → Prop} {env : Env} {s : Shared} {fT fD : Addr}
variable {g₀ base : Heap} {ex : Addr → Prop} {os : OsState} {L : Addr} {m cm : Str → Option Value} {a : Addr} {cd : Value}

theorem numsStmt {scr : Addr} {vs : List Value} {ns : List Int} {Q : Flow → Shared → Prop} (T : TpL fT fD g₀)
    (x : Lx g₀ base ex os L m cm s) (hm : m (Str.ofString "script") = some (.ref scr)) (hscr : g₀.IsList scr vs.toArray) (hi : IntsAre vs ns) (hn : ns.length ≤ 63)
    (h : ∀ s' lM vM, Lx g₀ base ex os L m (fun y => if y = Str.ofString "numbers" then some (.ref lM) else cm y) s' → s'.heap.IsList lM (List.toArray vM) → IntsAre vM (numsOf ns) → ¬ Own L lM → s.heap.get? lM = none →
      (∀ b o, ¬ Own L b → s.heap.get? b = some o → s'.heap.get? b = some o) → wpAny (model prog w) A (execs (lBody.drop 3) (lEnv L a cd)) Q E s') :
    wpAny (model prog w) A (execs (lBody.drop 2) (lEnv L a cd)) Q E s := by
  have hT := T.mono x.F.keep
  have hl : s.heap.IsList scr vs.toArray := hscr.at fun o e => x.F.keep _ _ e
  have hlen := hi.length
  have fin : ∀ (s₁ : Shared) (D : Addr) (us : List Value) (c : Nat) (h' : Heap) (tk : Nat), s.heap.get? D = none → IsL h' D us.toArray c → IntsAre us (numsOf ns) → (∀ b o, s.heap.get? b = some o → h'.get? b = some o) →
      wpAny (model prog w) A (storeName (lEnv L a cd) (Str.ofString "numbers") (.ref D)) (fun _ s' => wpAny (model prog w) A (execs (lBody.drop 3) (lEnv L a cd)) Q E s') E { s with heap := h', toks := tk } := by
    intro s₁ D us c h' tk hD hl' hi' hk
    have x' : Lx g₀ base ex os L m cm { s with heap := h', toks := tk } := x.grow (dr := s.drawn) hk
    have hO := (x.new hD).2.1
    refine x'.stoc (a := a) (cd := cd) fun s₂ x₂ hk₂ => ?_
    exact h s₂ D us x₂ (hl'.isList.at fun o e => hk₂ _ o hO e) hi' hO hD fun b o hb e => hk₂ b o hb (hk b o e)
  refine wpAny_execs_cons (wpAny_Assign_Name (wpAny_IfExp (wpAny_isTrue_Compare1 (evLen hT (x.ld hm ⟨scr, vs, rfl, hl, by omega, fun tk u => wpAny_Constant_int (PyProof.Rows.gt_int (wpAny_truthy_bool ?_))⟩)))))
  by_cases hb : 1 < ns.length
  · rw [show decide ((1 : Int) < ((vs.length : Nat) : Int)) = true from decide_eq_true (by omega), if_pos rfl]
    have x₁ : Lx g₀ base ex os L m cm { s with toks := tk + 1 } := x.toks (dr := s.drawn)
    refine evSlice (fun o i => [i, o]) (x₁.ld hm ⟨scr, rfl, ?_⟩)
    rw [evalPart_some]
    refine wpAny_Constant_int ?_
    rw [evalPart_none]
    refine wpAny_pure (wpAny_pure ⟨vs.toArray, some 1, none, none, hl, by rw [List.size_toArray]; omega, .int 1 _, .none, .none, by simp, fun h' D c' hD' hDn _ hk => ?_⟩)
    refine fin s D (slicePick vs.toArray (some 1) none none).toList c' h' _ hDn (by rw [Array.toArray_toList]; exact hD') ?_ hk
    have := slice_ints_from hi (x := 1) (by decide) (by omega)
    unfold numsOf
    rw [if_pos hb]
    exact this
  · rw [show decide ((1 : Int) < ((vs.length : Nat) : Int)) = false from decide_eq_false (by omega), if_neg Bool.false_ne_true]
    refine wpAny_List (args_cons (wpAny_Constant_int (args_cons (wpAny_Constant_int (args_cons (wpAny_Constant_int (args_nil ⟨by show 3 ≤ sizeLine; rw [sizeLine_eq]; omega, ?_⟩)))))))
    refine fin s _ _ 0 _ _ (Heap.get?_none_of_le (Nat.le_refl _)) (Heap.get?_push_size _ rfl) ?_ fun b o e => Heap.get?_push_of_some _ e
    unfold numsOf
    rw [if_neg hb]
    exact .cons 2 _ (.cons 3 _ (.cons 4 _ .nil))

theorem RawN.empty (C : Nds) (h : Heap) : RawN prog w C (h.push { cls := .type "dict", data := .dict #[] }) h.objs.size [] :=
  ⟨_, Heap.get?_push_size _ rfl, #[], 0, ⟨rfl, rfl, rfl⟩, rfl, List.nodup_nil, fun _ => ⟨fun e he => by simp at he, .nil⟩, fun _ => rfl⟩

theorem pairStmt {Q : Flow → Shared → Prop} (C : Nds) (hh : A.handled = none) (x : Lx g₀ base ex os L m cm s)
    (h : ∀ s' dL dO t, Lx g₀ base ex os L m (fun y => if y = Str.ofString "place" then some (.int 0 t) else if y = Str.ofString "own" then some (.ref dO) else if y = Str.ofString "leads" then some (.ref dL) else cm y) s' →
      RawN prog w C s'.heap dL [] → RawN prog w C s'.heap dO [] → dL ≠ dO → s.heap.get? dL = none → s.heap.get? dO = none → (∀ b o, ¬ Own L b → s.heap.get? b = some o → s'.heap.get? b = some o) →
      wpAny (model prog w) A (execs (lBody.drop 5) (lEnv L a cd)) Q E s') :
    wpAny (model prog w) A (execs (lBody.drop 3) (lEnv L a cd)) Q E s := by
  refine wpAny_execs_cons (Assign_Tuple (wpAny_Tuple (args_cons (wpAny_Dict_empty (args_cons (wpAny_Dict_empty (args_nil ⟨by show 2 ≤ sizeLine; rw [sizeLine_eq]; omega, ?_⟩)))))))
  dsimp only
  have h1 := RawN.empty (prog := prog) (w := w) C s.heap
  have k1 : ∀ b o, s.heap.get? b = some o → (s.heap.push { cls := .type "dict", data := .dict #[] }).get? b = some o := fun b o e => Heap.get?_push_of_some _ e
  have hs1 : (s.heap.push { cls := .type "dict", data := .dict #[] }).objs.size = s.heap.objs.size + 1 := Heap.size_push ..
  have hd1 : s.heap.get? s.heap.objs.size = none := Heap.get?_none_of_le (Nat.le_refl _)
  generalize s.heap.push { cls := .type "dict", data := .dict #[] } = H1 at h1 k1 hs1 ⊢
  have h2 := RawN.empty (prog := prog) (w := w) C H1
  have k2 : ∀ b o, H1.get? b = some o → (H1.push { cls := .type "dict", data := .dict #[] }).get? b = some o := fun b o e => Heap.get?_push_of_some _ e
  have hd2 : s.heap.get? H1.objs.size = none := Heap.get?_none_of_le (by rw [hs1]; exact Nat.le_succ _)
  have hne : s.heap.objs.size ≠ H1.objs.size := by rw [hs1]; exact Nat.ne_of_lt (Nat.lt_succ_self _)
  generalize H1.push { cls := .type "dict", data := .dict #[] } = H2 at h2 k2 ⊢
  generalize s.heap.objs.size = dL at h1 hd1 hne ⊢
  generalize H1.objs.size = dO at h2 hd2 hne ⊢
  have ht : IsTup (H2.push { cls := .type "tuple", data := .seq [Value.ref dL, .ref dO].toArray }) H2.objs.size #[.ref dL, .ref dO] := ⟨_, Heap.get?_push_size _ rfl, rfl, 0, rfl⟩
  have k3 : ∀ b o, H2.get? b = some o → (H2.push { cls := .type "tuple", data := .seq [Value.ref dL, .ref dO].toArray }).get? b = some o := fun b o e => Heap.get?_push_of_some _ e
  refine assign_Tuple_tuple hh ht rfl rfl fun h₄ he₄ => ?_
  have k4 : ∀ b o, s.heap.get? b = some o → h₄.get? b = some o := fun b o e => by
    have e3 := k3 b o (k2 b o (k1 b o e))
    exact he₄ b o (Nat.ne_of_lt (Heap.lt_size e3)) e3
  have r1 : RawN prog w C h₄ dL [] := h1.at fun o e => by
    have e3 := k3 _ o (k2 _ o e)
    exact he₄ _ o (Nat.ne_of_lt (Heap.lt_size e3)) e3
  have r2 : RawN prog w C h₄ dO [] := h2.at fun o e => by
    have e3 := k3 _ o e
    exact he₄ _ o (Nat.ne_of_lt (Heap.lt_size e3)) e3
  have x₄ : Lx g₀ base ex os L m cm { s with heap := h₄ } := x.grow (tk := s.toks) (dr := s.drawn) k4
  have o1 := (x.new hd1).2.1
  have o2 := (x.new hd2).2.1
  refine assignInOrder_cons (PyProof.Rows.assign_Name (x₄.stoc (a := a) (cd := cd) fun s₅ x₅ hk₅ => ?_))
  refine assignInOrder_cons (PyProof.Rows.assign_Name (x₅.stoc (a := a) (cd := cd) fun s₆ x₆ hk₆ => ?_))
  refine assignInOrder_nil ?_
  refine wpAny_execs_cons (wpAny_Assign_Name (wpAny_Constant_int ?_))
  have x₇ : Lx g₀ base ex os L m _ { s₆ with toks := s₆.toks + 1 } := x₆.toks (dr := s₆.drawn)
  refine x₇.stoc (a := a) (cd := cd) fun s₈ x₈ hk₈ => ?_
  have k8 : ∀ b o, ¬ Own L b → h₄.get? b = some o → s₈.heap.get? b = some o := fun b o hb e => hk₈ b o hb (hk₆ b o hb (hk₅ b o hb e))
  exact h s₈ dL dO _ x₈ (r1.at fun o e => k8 _ o o1 e) (r2.at fun o e => k8 _ o o2 e) hne hd1 hd2 fun b o hb e => k8 b o hb (k4 b o e)
end
end Mine

end PartJ6e
section PartJ6f
open PySem PySem.W PyProof.Rows
set_option maxRecDepth 100000
set_option maxHeartbeats 1000000
set_option linter.unusedVariables false
namespace Mine

/-- an expression that is an int and changes nothing -/
def EvI (prog : Program) (w : World) (A : Around) (env : Env) (s : Shared) (e : Expr) (k : Int) : Prop :=
  ∀ (E : Value → Shared → Prop) (tk : Nat) (Q : Value → Shared → Prop), (∀ tk' u, Q (.int k u) { s with toks := tk' }) → wpAny (model prog w) A (eval e env) Q E { s with toks := tk }
def EvV (prog : Program) (w : World) (A : Around) (env : Env) (s : Shared) (e : Expr) (v : Value) : Prop :=
  ∀ (E : Value → Shared → Prop) (tk : Nat) (Q : Value → Shared → Prop), (∀ tk', Q v { s with toks := tk' }) → wpAny (model prog w) A (eval e env) Q E { s with toks := tk }

section
variable {prog : Program} {w : World} {A : Around} {E : Value → Shared → Prop} {env : Env} {s : Shared} {fT fD : Addr}

theorem EvI.const {i : Int} {k : Nat} {pos : Pos} : EvI prog w A env s (.Constant (.int i) k pos) i := fun E tk Q h => wpAny_Constant_int (h _ _)
theorem EvI.add {e1 e2 : Expr} {a b : Int} {pos : Pos} (h1 : EvI prog w A env s e1 a) (h2 : EvI prog w A env s e2 b) : EvI prog w A env s (.BinOp e1 .Add e2 pos) (a + b) :=
  fun E tk Q h => wpAny_BinOp (h1 _ _ _ fun tk1 u => h2 _ _ _ fun tk2 v => PyProof.Rows.add_int (h _ _))
theorem EvI.mod {e1 e2 : Expr} {a b : Int} {pos : Pos} (h1 : EvI prog w A env s e1 a) (h2 : EvI prog w A env s e2 b) (hb : b ≠ 0) : EvI prog w A env s (.BinOp e1 .Mod e2 pos) (a.fmod b) :=
  fun E tk Q h => wpAny_BinOp (h1 _ _ _ fun tk1 u => h2 _ _ _ fun tk2 v => PyProof.Rows.mod_int hb (h _ _))
theorem EvI.name {nm : Str} {pos : Pos} {k : Int} {u : Tok} (h : EvV prog w A env s (.Name nm pos) (.int k u)) : EvI prog w A env s (.Name nm pos) k := fun E tk Q hQ => h _ _ _ fun tk' => hQ _ _
theorem EvV.cell {nm : Str} {pos : Pos} {c : Addr} {v : Value} (hv : s.heap.IsCell c (some v)) (hk : env.scope.kind = .function := by rfl) (hc : env.cells.lookup nm = some c := by rfl)
    (hl : env.kindOf nm = some .cell := by rfl) (hd : (nm == ("__debug__" : Str)) = false := by decide) : EvV prog w A env s (.Name nm pos) v := fun E tk Q hQ => wpAny_Name (wpAny_loadName_cell hk hl hc hv (hQ _)) hd
theorem EvV.loc {nm : Str} {pos : Pos} {mm : Str → Option Value} {v : Value} (hn : s.heap.Ns env.locals mm) (hv : mm nm = some v) (hk : env.scope.kind = .function := by rfl)
    (hl : env.kindOf nm = some .local := by rfl) (hd : (nm == ("__debug__" : Str)) = false := by decide) : EvV prog w A env s (.Name nm pos) v := fun E tk Q hQ => wpAny_Name (wpAny_loadName_local hk hl hn hv (hQ _)) hd
theorem EvI.len {e : Expr} {p1 pos : Pos} {l : Addr} {vs : List Value} (T : TpL fT fD s.heap) (h1 : EvV prog w A env s e (.ref l)) (hl : s.heap.IsList l vs.toArray) (hz : vs.length ≤ 65536)
    (hk : env.scope.kind = .function := by rfl) (hx : env.kindOf (Str.ofString "len") = some .globalImplicit := by rfl)
    (hg : env.globals = mainGlobals := by rfl) (hb : env.builtins = builtinsNs := by rfl)
    (he : eval (.Call (.Name (Str.ofString "len") p1) [e] [] pos) env = (do callWith pos (← eval (.Name (Str.ofString "len") p1) env) [] (backTo pos (starEach [e] env)) (backToKw pos (keywordEach [] env))) := by rfl)
    (he' : starEach [e] env = (false, eval e env) :: starEach [] env := by rfl) : EvI prog w A env s (.Call (.Name (Str.ofString "len") p1) [e] [] pos) (vs.length : Nat) :=
  fun E tk Q h => evLen T (h1 _ _ _ fun tk1 => ⟨l, vs, rfl, hl, hz, fun tk u => h _ _⟩) hk hx hg hb he he'
theorem EvV.item {nm : Str} {p pos : Pos} {slice : Expr} {l : Addr} {vs : List Value} {k : Nat} {v : Value} (h1 : EvV prog w A env s (.Name nm p) (.ref l)) (h2 : EvI prog w A env s slice (k : Int)) (hl : s.heap.IsList l vs.toArray) (hk : k < 65536) (hv : vs[k]? = some v)
    (hs : ∀ o i, subscripted slice false o i = operate [o, i] (getItem o i) := by intro _ _; with_unfolding_all rfl) (hg : ∀ l r, letTemporaryGo (.Name nm p) (.ref l) r = pure () := by intro _ _; with_unfolding_all rfl) :
    EvV prog w A env s (.Subscript (.Name nm p) slice pos) v :=
  fun E tk Q h => evItem (h1 _ _ _ fun tk1 => ⟨l, rfl, h2 _ _ _ fun tk2 u => ⟨vs, k, u, v, rfl, hl, hk, hv, h _⟩⟩) hs hg
theorem EvI.item {nm : Str} {p pos : Pos} {slice : Expr} {l : Addr} {vs : List Value} {ns : List Int} {k : Nat} {n : Int} (h1 : EvV prog w A env s (.Name nm p) (.ref l)) (h2 : EvI prog w A env s slice (k : Int)) (hl : s.heap.IsList l vs.toArray) (hi : IntsAre vs ns) (hk : k < 65536) (hv : ns[k]? = some n)
    (hs : ∀ o i, subscripted slice false o i = operate [o, i] (getItem o i) := by intro _ _; with_unfolding_all rfl) (hg : ∀ l r, letTemporaryGo (.Name nm p) (.ref l) r = pure () := by intro _ _; with_unfolding_all rfl) :
    EvI prog w A env s (.Subscript (.Name nm p) slice pos) n := by
  obtain ⟨t, ht⟩ := hi.get k n hv
  exact fun E tk Q h => EvV.item h1 h2 hl hk ht hs hg E tk Q fun tk' => h _ _

theorem walksLt {I : Addr} {fp wr : List Addr} {n : Nat} {P : Nat → Value → Prop} {St : Nat → Heap → Prop} (W : Walks prog w A I fp wr n P St) : Walks prog w A I fp wr n (fun k v => k < n ∧ P k v) St :=
  ⟨W.sub, W.frame, fun i s Q E hi st hQ => W.item i s Q E hi st fun v h' tk hv => hQ v h' tk ⟨hi, hv⟩, W.done, W.self⟩

def Sub (h h' : Heap) : Prop := ∀ b o, h.get? b = some o → h'.get? b = some o

/-- a comprehension over range(e), which reads but does not write -/
theorem rangeComp {elt e : Expr} {x : Str} {p1 p2 px : Pos} {scope : Scope} {cl : List (Str × Addr)} {pos : Pos} {n : Nat} {Q : Value → Shared → Prop} (T : TpL fT fD s.heap) (hh : A.handled = none) (J : Nat → List Value → Prop)
    (hclos : closureFor scope env = pure cl) (hcell : ∀ y ∈ scope.names, y.2 ≠ .cell) (hkind : scope.kind = .function) (hnames : ∀ y ∈ scope.names, y.2 = .local → scope.names.lookup y.1 = some .local)
    (hx : scope.names.lookup x = some .local) (he : EvI prog w A env s e (n : Int)) (hn : n ≤ 4096) (J0 : J 0 [])
    (turn : ∀ (k : Nat) (us : List Value) (s₃ : Shared) (mm : Str → Option Value) (u : Tok) (C : Addr), k < n → J k us → s₃.heap.Ns C mm → mm x = some (.int (k : Int) u) → Sub s.heap s₃.heap →
      ∃ y, EvV prog w A (compEnvC scope cl C env) s₃ elt y ∧ J (k + 1) (us ++ [y]))
    (h : ∀ (D : Addr) (h' : Heap) (tk : Nat) (dr : Drawn) (us : List Value) (c : Nat), s.heap.get? D = none → IsL h' D us.toArray c → us.length ≤ n → J n us → Sub s.heap h' → Q (.ref D) { s with heap := h', toks := tk, drawn := dr })
    (hs : ∀ z, foldedSetIterable (.Call (.Name (Str.ofString "range") p1) [e] [] p2) env z = pure z := by intro _; rfl)
    (hk : env.scope.kind = .function := by rfl) (hxx : env.kindOf (Str.ofString "range") = some .globalImplicit := by rfl)
    (hg : env.globals = mainGlobals := by rfl) (hb : env.builtins = builtinsNs := by rfl)
    (he1 : eval (.Call (.Name (Str.ofString "range") p1) [e] [] p2) env = (do callWith p2 (← eval (.Name (Str.ofString "range") p1) env) [] (backTo p2 (starEach [e] env)) (backToKw p2 (keywordEach [] env))) := by rfl)
    (he' : starEach [e] env = (false, eval e env) :: starEach [] env := by rfl) :
    wpAny (model prog w) A (eval (.ListComp elt [⟨.Name x px, .Call (.Name (Str.ofString "range") p1) [e] [] p2, [], 0⟩] scope pos) env) Q E s := by
  refine ListComp_val hclos hcell hkind hnames hx (evRange T (he _ _ _ fun tk1 u => ?_) hk hxx hg hb he1 he') hs
  refine ⟨n, u, rfl, hn, fun I h' tk hI hIn hit hk' => ?_⟩
  have hIs : s.heap.get? I = none := hIn
  refine ⟨I, [I], [I], n, _, _, fun k us h => k ≤ n ∧ J k us, rfl, walksLt (Walks.range hh I 0 1 n), hn, hit, ?_, ⟨⟨Nat.zero_le _, J0⟩, fun k us h h' hJ _ => hJ, ?_⟩, ?_⟩
  · intro b hb; simp at hb; subst hb; exact hI
  · rintro k v us s₃ m₃ E' ⟨hlt, u', rfl⟩ ⟨hkn, hJ⟩ hn₃ hm₃ hk₃ hg₃ ho₃
    obtain ⟨y, hy, hJ'⟩ := turn k us s₃ m₃ u' _ hlt hJ hn₃ (by rw [hm₃]; simp) (fun b o e => hk₃ b o (fun q => by simp only [List.mem_singleton] at q; rw [q, hIs] at e; cases e) (hk' b o e))
    refine wpAny_tests_nil ⟨KeepD.refl _, ?_⟩
    rw [if_pos rfl]
    exact hy _ s₃.toks _ fun tk' => ⟨⟨s₃.heap, tk', s₃.drawn, rfl, fun _ _ e => e⟩, hlt, hJ'⟩
  · rintro D h₂ tk₂ dr₂ us c hD hl hle ⟨_, hJ⟩ hk₂
    refine h D h₂ tk₂ dr₂ us c ?_ hl hle hJ fun b o e => hk₂ b o (fun q => by simp only [List.mem_singleton] at q; rw [q, hIs] at e; cases e) (hk' b o e)
    cases e : s.heap.get? D with
    | none => rfl
    | some o => have := hk' D o e; rw [show h'.get? D = none from hD] at this; cases this
end
end Mine

end PartJ6f
section PartJ6g
open PySem PySem.W PyProof.Rows
set_option maxRecDepth 100000
set_option maxHeartbeats 1000000
set_option linter.unusedVariables false
namespace Mine

/-! the pure side of the first loop -/
def num (M : List Int) (i : Nat) : Int := M.getD (i % M.length) 0
def cnt (M : List Int) (k : Int) (p : Nat) : Nat := ((num M p).fmod k).toNat
def leadAt (M : List Int) (n p : Nat) : List Nat := (List.range (cnt M 5 p)).map fun k => ((num M (p + 1 + k)).fmod (n : Int)).toNat
def pl1 (M : List Int) (p : Nat) : Nat := p + 1 + cnt M 5 p
def ownAt (M : List Int) (p : Nat) : List Int := (List.range (cnt M 4 (pl1 M p))).map fun k => num M (pl1 M p + 1 + k)
def pl2 (M : List Int) (p : Nat) : Nat := pl1 M p + 1 + cnt M 4 (pl1 M p)

theorem fmod_nat (a b : Nat) : (a : Int).fmod (b : Int) = ((a % b : Nat) : Int) := by
  rw [Int.fmod_eq_emod_of_nonneg _ (by omega)]; omega
theorem num_get {M : List Int} (h : 1 ≤ M.length) (i : Nat) : M[i % M.length]? = some (num M i) := by
  have hl : i % M.length < M.length := Nat.mod_lt _ (by omega)
  unfold num
  rw [List.getD_eq_getElem?_getD, List.getElem?_eq_getElem hl]; rfl
theorem cnt_lt (M : List Int) {k : Int} (hk : 0 < k) (p : Nat) : ((num M p).fmod k) = (cnt M k p : Int) ∧ (cnt M k p : Int) < k := by
  have h1 := Int.fmod_nonneg_of_pos (num M p) hk
  have h2 := Int.fmod_lt_of_pos (num M p) hk
  unfold cnt; omega

def KeepSeq (h h' : Heap) : Prop := ∀ b o its n, h.get? b = some o → o.data = .seq its n → h'.get? b = some o
theorem KeepSeq.refl (h : Heap) : KeepSeq h h := fun _ _ _ _ e _ => e
theorem KeepSeq.trans {h h' h'' : Heap} (x : KeepSeq h h') (y : KeepSeq h' h'') : KeepSeq h h'' := fun b o i n e d => y b o i n (x b o i n e d) d
theorem Sub.seq {h h' : Heap} (x : Sub h h') : KeepSeq h h' := fun b o _ _ e _ => x b o e
theorem KeepSeq.list {h h' : Heap} (x : KeepSeq h h') {l : Addr} {items : Array Value} (hl : h.IsList l items) : h'.IsList l items := by
  obtain ⟨o, ho, hc, n, hd⟩ := hl
  exact ⟨o, x l o _ _ ho hd, hc, n, hd⟩
theorem KeepSeq.node {prog : Program} {w : World} {C : Nds} {h h' : Heap} (x : KeepSeq h h') {i : Nat} (hn : NodeOk prog w C h i) : NodeOk prog w C h' i := fun hk => by
  obtain ⟨o, items, n, ho, hc, hd, r⟩ := hn hk
  exact ⟨o, items, n, x _ o _ _ ho hd, hc, hd, r⟩

structure Facts (prog : Program) (w : World) (C : Nds) (n : Nat) (M : List Int) (lN lM : Addr) (vN vM : List Value) (h : Heap) : Prop where
  nodes : h.IsList lN vN.toArray
  nvs : NVs C (List.range n) vN
  ok : ∀ i, i < n → NodeOk prog w C h i
  nums : h.IsList lM vM.toArray
  mInts : IntsAre vM M
  n1 : 1 ≤ n
  n12 : n ≤ 12
  M1 : 1 ≤ M.length
  M62 : M.length ≤ 62

theorem Facts.seq {prog : Program} {w : World} {C : Nds} {n : Nat} {M : List Int} {lN lM : Addr} {vN vM : List Value} {h h' : Heap} (x : Facts prog w C n M lN lM vN vM h) (k : KeepSeq h h') : Facts prog w C n M lN lM vN vM h' :=
  ⟨k.list x.nodes, x.nvs, fun i hi => k.node (x.ok i hi), k.list x.nums, x.mInts, x.n1, x.n12, x.M1, x.M62⟩

structure Cm (lN lM dL dO : Addr) (p : Int) (cm : Str → Option Value) : Prop where
  nodes : cm (Str.ofString "nodes") = some (.ref lN)
  numbers : cm (Str.ofString "numbers") = some (.ref lM)
  leads : cm (Str.ofString "leads") = some (.ref dL)
  own : cm (Str.ofString "own") = some (.ref dO)
  place : ∃ t, cm (Str.ofString "place") = some (.int p t)

section
variable {prog : Program} {w : World} {A : Around} {E : Value → Shared → Prop} {s s₀ : Shared} {fT fD : Addr}
variable {g₀ base base₀ : Heap} {ex ex₀ : Addr → Prop} {os : OsState} {L : Addr} {m m₀ cm cm₀ : Str → Option Value} {a : Addr} {cd : Value}
variable {C : Nds} {n : Nat} {M : List Int} {lN lM dL dO : Addr} {vN vM : List Value} {p : Nat}

theorem Lx.ownKind (x : Lx g₀ base ex os L m cm s) {b : Addr} (hb : Own L b) : ∃ o, s.heap.get? b = some o ∧ ((∃ es ep, o.data = .dict es ep) ∨ ∃ v, o.data = .cell v) := by
  rcases hb with rfl | ⟨n, hn⟩
  · obtain ⟨o, es, ep, ho, hd, _⟩ := x.F.ns; exact ⟨o, ho, .inl ⟨es, ep, hd⟩⟩
  · obtain ⟨o, ho⟩ := x.ownLive (.inr ⟨n, hn⟩)
    have hcell : ∀ {n : Str} {b : Addr}, (n, b) ∈ lCells L → (lCells L).lookup n = some b := by
      intro n b hb
      unfold lCells at hb ⊢
      have e : cellsFrom (L + 1) lScope.names [] = [(Str.ofString "come", L + 7), (Str.ofString "place", L + 6), (Str.ofString "own", L + 5), (Str.ofString "leads", L + 4), (Str.ofString "numbers", L + 3), (Str.ofString "nodes", L + 2), (Str.ofString "head", L + 1)] := rfl
      rw [e] at hb ⊢
      simp only [List.mem_cons, Prod.mk.injEq, List.not_mem_nil, or_false] at hb
      rcases hb with ⟨rfl, rfl⟩ | ⟨rfl, rfl⟩ | ⟨rfl, rfl⟩ | ⟨rfl, rfl⟩ | ⟨rfl, rfl⟩ | ⟨rfl, rfl⟩ | ⟨rfl, rfl⟩ <;> rfl
    obtain ⟨o', ho', hd'⟩ := x.C.cell n b (hcell hn)
    exact ⟨o', ho', .inr ⟨_, hd'⟩⟩

theorem Lx.notOwnSeq (x : Lx g₀ base ex os L m cm s) {b : Addr} {o : Obj} {its : Array Value} {k : Nat} (ho : s.heap.get? b = some o) (hd : o.data = .seq its k) : ¬ Own L b := fun hb => by
  obtain ⟨o', ho', hk⟩ := x.ownKind hb
  rw [ho] at ho'; cases ho'
  rcases hk with ⟨es, ep, q⟩ | ⟨v, q⟩ <;> rw [hd] at q <;> cases q

theorem Lx.keepSeq (x₀ : Lx g₀ base₀ ex₀ os L m₀ cm₀ s₀) (hex : ∀ b, ex b → ∃ o es ep, s₀.heap.get? b = some o ∧ o.data = .dict es ep) (x : Lx g₀ s₀.heap ex os L m cm s) : KeepSeq s₀.heap s.heap := fun b o its k ho hd =>
  x.keep b o (fun hb => by obtain ⟨o', es, ep, ho', hd'⟩ := hex b hb; rw [ho] at ho'; cases ho'; rw [hd] at hd'; cases hd') (x₀.notOwnSeq ho hd) ho

theorem Lx.isCell (x : Lx g₀ base ex os L m cm s) {nm : Str} {c : Addr} {v : Value} (hv : cm nm = some v) (hc : (lCells L).lookup nm = some c := by rfl) : s.heap.IsCell c (some v) := hv ▸ x.C.cell nm c hc

theorem EvI.to {env : Env} {e : Expr} {a b : Int} (h : EvI prog w A env s e a) (q : a = b) : EvI prog w A env s e b := q ▸ h

theorem EvI.run {env : Env} {e : Expr} {k : Int} {Q : Value → Shared → Prop} (h : EvI prog w A env s e k) (hQ : ∀ tk u, Q (.int k u) { s with toks := tk }) : wpAny (model prog w) A (eval e env) Q E s := h E s.toks Q hQ

/-- numbers[.. % len(numbers)], wherever the cell lies -/
theorem evNum {env : Env} {p1 p2 p3 p4 p5 p6 : Pos} {eI : Expr} {q : Nat} {cM : Addr} (T : TpL fT fD s.heap) (fx : Facts prog w C n M lN lM vN vM s.heap) (hM : s.heap.IsCell cM (some (.ref lM))) (hI : EvI prog w A env s eI (q : Int))
    (hk : env.scope.kind = .function := by rfl) (hc : env.cells.lookup (Str.ofString "numbers") = some cM := by rfl) (hl : env.kindOf (Str.ofString "numbers") = some .cell := by rfl)
    (hx : env.kindOf (Str.ofString "len") = some .globalImplicit := by rfl) (hg : env.globals = mainGlobals := by rfl) (hb : env.builtins = builtinsNs := by rfl)
    (he : eval (.Call (.Name (Str.ofString "len") p3) [.Name (Str.ofString "numbers") p4] [] p5) env = (do callWith p5 (← eval (.Name (Str.ofString "len") p3) env) [] (backTo p5 (starEach [.Name (Str.ofString "numbers") p4] env)) (backToKw p5 (keywordEach [] env))) := by rfl)
    (he' : starEach [.Name (Str.ofString "numbers") p4] env = (false, eval (.Name (Str.ofString "numbers") p4) env) :: starEach [] env := by rfl) :
    EvI prog w A env s (.Subscript (.Name (Str.ofString "numbers") p1) (.BinOp eI .Mod (.Call (.Name (Str.ofString "len") p3) [.Name (Str.ofString "numbers") p4] [] p5) p2) p6) (num M q) := by
  have hlen := fx.mInts.length
  have h1 : EvI prog w A env s (.BinOp eI .Mod (.Call (.Name (Str.ofString "len") p3) [.Name (Str.ofString "numbers") p4] [] p5) p2) (((q % M.length : Nat)) : Int) := by
    refine (hI.mod (EvI.len T (EvV.cell hM hk hc hl (by decide)) fx.nums (by have := fx.M62; omega) hk hx hg hb he he') (by have := fx.M1; omega)).to ?_
    rw [fmod_nat, hlen]
  refine EvI.item (EvV.cell hM hk hc hl (by decide)) h1 fx.nums fx.mInts ?_ (num_get fx.M1 q)
  have : q % M.length < M.length := Nat.mod_lt _ (by have := fx.M1; omega)
  have := fx.M62
  omega
end
end Mine

end PartJ6g
section PartJ6h
open PySem PySem.W PyProof.Rows
set_option maxRecDepth 100000
set_option maxHeartbeats 1000000
set_option linter.unusedVariables false
namespace Mine

def lFill : List Stmt := forIn? (lBody.getD 5 (.Pass default))

theorem range_snoc (f : Nat → α) (k : Nat) : (List.range (k + 1)).map f = (List.range k).map f ++ [f k] := by
  rw [List.range_succ, List.map_append]; rfl

section
variable {prog : Program} {w : World} {A : Around} {E : Value → Shared → Prop} {s s₀ : Shared} {fT fD : Addr}
variable {g₀ base base₀ : Heap} {ex ex₀ : Addr → Prop} {os : OsState} {L : Addr} {m m₀ cm cm₀ : Str → Option Value} {a : Addr} {cd : Value}
variable {C : Nds} {n : Nat} {M : List Int} {lN lM dL dO : Addr} {vN vM : List Value} {p : Nat}

theorem IntsAre.snoc {vs : List Value} {ns : List Int} (h : IntsAre vs ns) (k : Int) (t : Tok) : IntsAre (vs ++ [.int k t]) (ns ++ [k]) := by
  induction h with
  | nil => exact .cons k t .nil
  | cons n u _ ih => exact .cons n u ih

/-- count = numbers[place % len(numbers)] % k -/
theorem evCount {p1 p2 p3 p4 p5 p6 p7 p8 p9 : Pos} {kk : Nat} {k : Int} (hk0 : 0 < k) (T : TpL fT fD g₀) (x : Lx g₀ base ex os L m cm s) (fx : Facts prog w C n M lN lM vN vM s.heap) (hc : Cm lN lM dL dO (p : Int) cm) :
    EvI prog w A (lEnv L a cd) s (.BinOp (.Subscript (.Name (Str.ofString "numbers") p1) (.BinOp (.Name (Str.ofString "place") p7) .Mod (.Call (.Name (Str.ofString "len") p3) [.Name (Str.ofString "numbers") p4] [] p5) p2) p6) .Mod (.Constant (.int k) kk p8) p9) (cnt M k p : Int) := by
  obtain ⟨t, hp⟩ := hc.place
  refine ((evNum (T.mono x.F.keep) fx (x.isCell (c := L + 3) hc.numbers) (EvI.name (EvV.cell (c := L + 6) (x.isCell hp)))).mod EvI.const (by omega)).to ?_
  exact (cnt_lt M hk0 p).1

theorem fill_turn (T : TpL fT fD g₀) (hh : A.handled = none) (hu : A.units + 1 < cLine) (x : Lx g₀ s.heap (fun b => b = dL ∨ b = dO) os L m cm s) (fx : Facts prog w C n M lN lM vN vM s.heap) (hc : Cm lN lM dL dO (p : Int) cm)
    (hgL : g₀.get? dL = none) (hgO : g₀.get? dO = none) (hoL : ¬ Own L dL) (hoO : ¬ Own L dO) (hne : dL ≠ dO)
    {i : Nat} (hi : i < n) {xv : Value} (hxm : m (Str.ofString "x") = some xv) (hx : NV C i xv) {xl xo : List (Nat × Value)} (rL : RawN prog w C s.heap dL xl) (rO : RawN prog w C s.heap dO xo) (kL : ∀ y ∈ xl, y.1 < i) (kO : ∀ y ∈ xo, y.1 < i) {Q : Flow → Shared → Prop}
    (h : ∀ s' m' cm' la oa vs us, Lx g₀ s.heap (fun b => b = dL ∨ b = dO) os L m' cm' s' → Cm lN lM dL dO (pl2 M p : Nat) cm' → cm' (Str.ofString "head") = cm (Str.ofString "head") → RawN prog w C s'.heap dL (xl ++ [(i, .ref la)]) → RawN prog w C s'.heap dO (xo ++ [(i, .ref oa)]) →
      s'.heap.IsList la (List.toArray vs) → NVs C (leadAt M n p) vs → s'.heap.IsList oa (List.toArray us) → IntsAre us (ownAt M p) → KeepSeq s.heap s'.heap → Q .next s') :
    wpAny (model prog w) A (execs lFill (lEnv L a cd)) Q E s := by
  have hex : ∀ b, (b = dL ∨ b = dO) → ∃ o es ep, s.heap.get? b = some o ∧ o.data = .dict es ep := by
    rintro b (rfl | rfl)
    · exact rL.objDict
    · exact rO.objDict
  -- count
  refine wpAny_execs_cons (wpAny_Assign_Name ((evCount (k := 5) (by decide) T x fx hc).run fun tk u => ?_))
  have x₁ : Lx g₀ s.heap (fun b => b = dL ∨ b = dO) os L m cm { s with toks := tk } := x.toks (dr := s.drawn)
  refine x₁.sto (a := a) (cd := cd) fun s₂ x₂ hk₂ => ?_
  have hxm₂ : (fun y => if y = Str.ofString "count" then some (Value.int (cnt M 5 p : Int) u) else m y) (Str.ofString "x") = some xv := hxm
  have rL₂ : RawN prog w C s₂.heap dL xl := rL.at fun o e => hk₂ _ o (fun q => hoL (.inl q)) e
  have rO₂ : RawN prog w C s₂.heap dO xo := rO.at fun o e => hk₂ _ o (fun q => hoO (.inl q)) e
  have q₂ : KeepSeq s.heap s₂.heap := x.keepSeq hex x₂
  have hcnt := (cnt_lt M (k := 5) (by decide) p).2
  -- leads[x] = [...]
  refine wpAny_execs_cons (wpAny_Assign_Subscript (rangeComp (cl := [(Str.ofString "place", L + 6), (Str.ofString "numbers", L + 3), (Str.ofString "nodes", L + 2)]) (n := cnt M 5 p) (T.mono x₂.F.keep) hh
    (fun k us => NVs C ((List.range k).map fun k => ((num M (p + 1 + k)).fmod (n : Int)).toNat) us) rfl (by decide) rfl (by decide) rfl
    (EvI.name (EvV.loc (env := lEnv L a cd) x₂.F.ns (if_pos rfl))) (by omega) .nil ?_ ?_))
  · intro k us s₃ mm u' Cc hk hJ hn₃ hm₃ hsub
    have fx₃ := fx.seq (q₂.trans (Sub.seq hsub))
    obtain ⟨tp, hp⟩ := hc.place
    have cell : ∀ {nm : Str} {c : Addr} {v : Value}, cm nm = some v → (lCells L).lookup nm = some c → s₃.heap.IsCell c (some v) := by
      intro nm c v hv hl
      obtain ⟨o, ho, hd⟩ := x₂.isCell hv hl
      exact ⟨o, hsub _ _ ho, hd⟩
    have hn12 := fx.n12
    have hn0 : 0 < (n : Int) := by have := fx.n1; omega
    have b1 := Int.fmod_nonneg_of_pos (num M (p + 1 + k)) hn0
    have b2 := Int.fmod_lt_of_pos (num M (p + 1 + k)) hn0
    have hlen := fx.nvs.length
    rw [List.length_range] at hlen
    obtain ⟨v, hv, hnv⟩ := fx.nvs.at (k := ((num M (p + 1 + k)).fmod (n : Int)).toNat) (j := ((num M (p + 1 + k)).fmod (n : Int)).toNat) (by rw [List.getElem?_range (by omega)])
    refine ⟨v, EvV.item (EvV.cell (c := L + 2) (cell hc.nodes rfl)) (EvI.to (EvI.mod (evNum (q := p + 1 + k) ((T.mono x₂.F.keep).mono hsub) fx₃ (cell hc.numbers (c := L + 3) rfl)
      (EvI.to (EvI.add (EvI.add (EvI.name (EvV.cell (c := L + 6) (cell hp rfl))) EvI.const) (EvI.name (EvV.loc hn₃ hm₃))) (by push_cast; rfl))) (EvI.len ((T.mono x₂.F.keep).mono hsub) (EvV.cell (c := L + 2) (cell hc.nodes rfl)) fx₃.nodes (by omega)) (by omega)) ?_) fx₃.nodes (by omega) hv, ?_⟩
    · rw [← hlen]; omega
    · rw [range_snoc]; exact hJ.append (.cons hnv .nil)
  intro la h₃ tk₃ dr₃ us c₃ hla hl₃ hle₃ hJ₃ hsub₃
  have x₃ : Lx g₀ s.heap (fun b => b = dL ∨ b = dO) os L _ cm { s₂ with heap := h₃, toks := tk₃, drawn := dr₃ } := x₂.grow hsub₃
  have q₃ : KeepSeq s.heap h₃ := q₂.trans (Sub.seq hsub₃)
  have nodesOk : ∀ {h' : Heap}, KeepSeq s.heap h' → ∀ j, j < n → NodeOk prog w C h' j := fun k j hj => k.node (fx.ok j hj)
  have rL₃ : RawN prog w C h₃ dL xl := rL₂.at fun o e => hsub₃ _ o e
  have rO₃ : RawN prog w C h₃ dO xo := rO₂.at fun o e => hsub₃ _ o e
  have len12 : ∀ {xs : List (Nat × Value)} {h' : Heap} {d : Addr}, RawN prog w C h' d xs → (∀ y ∈ xs, y.1 < i) → xs.length ≤ 4096 := by
    intro xs h' d hr hk
    have := bnd_len hr.nodup (n := i) (fun y hy => by obtain ⟨z, hz, rfl⟩ := List.mem_map.mp hy; exact hk z hz)
    rw [List.length_map] at this
    have := fx.n12
    omega
  have fresh_i : ∀ {xs : List (Nat × Value)}, (∀ y ∈ xs, y.1 < i) → i ∉ xs.map (·.1) := fun hk hm => by obtain ⟨z, hz, e⟩ := List.mem_map.mp hm; have := hk z hz; omega
  refine x₃.ldc (c := L + 4) hc.leads (x₃.ld hxm₂ ?_)
  refine setItem_N hu rL₃ (fun y hy => nodesOk q₃ _ (Nat.lt_trans (kL y hy) hi)) (nodesOk q₃ i hi) (len12 rL₃ kL) hx fun h₄ tk₄ rL₄ hs₄ => ?_
  rw [stored_new (fresh_i kL)] at rL₄
  have x₄ : Lx g₀ s.heap (fun b => b = dL ∨ b = dO) os L _ cm { s₂ with heap := h₄, toks := tk₄, drawn := dr₃ } := x₃.other hgL hoL (.inl (.inl rfl)) fun b o hb e => hs₄.extBut b o hb e
  have hl₄ : h₄.IsList la us.toArray := hl₃.isList.at fun o e => hs₄.extBut _ o (fun q => by obtain ⟨o', _, _, ho', _⟩ := rL₂.objDict; rw [q, ho'] at hla; cases hla) e
  have rO₄ : RawN prog w C h₄ dO xo := rO₃.at fun o e => hs₄.extBut _ o (Ne.symm hne) e
  -- place = place + 1 + count
  obtain ⟨tp, hp⟩ := hc.place
  refine wpAny_execs_cons (wpAny_Assign_Name ((EvI.add (EvI.add (EvI.name (EvV.cell (env := lEnv L a cd) (c := L + 6) (x₄.isCell hp))) EvI.const) (EvI.name (EvV.loc (env := lEnv L a cd) x₄.F.ns (if_pos rfl)))).run fun tk₅ u₅ => ?_))
  have x₅ : Lx g₀ s.heap (fun b => b = dL ∨ b = dO) os L _ cm { s₂ with heap := h₄, toks := tk₅, drawn := dr₃ } := x₄.toks
  refine x₅.stoc (a := a) (cd := cd) fun s₆ x₆ hk₆ => ?_
  have e1 : (p : Int) + 1 + (cnt M 5 p : Int) = ((pl1 M p : Nat) : Int) := by unfold pl1; push_cast; rfl
  rw [e1] at x₆
  have hc₆ : Cm lN lM dL dO ((pl1 M p : Nat) : Int) (fun y => if y = Str.ofString "place" then some (Value.int ((pl1 M p : Nat) : Int) u₅) else cm y) := ⟨hc.nodes, hc.numbers, hc.leads, hc.own, _, rfl⟩
  have rL₆ := rL₄.at (h' := s₆.heap) fun o e => hk₆ _ o hoL e
  have rO₆ := rO₄.at (h' := s₆.heap) fun o e => hk₆ _ o hoO e
  have q₆ : KeepSeq s.heap s₆.heap := x.keepSeq hex x₆
  have hl₆ : s₆.heap.IsList la us.toArray := by
    obtain ⟨o, ho, hcl, k, hd⟩ := hl₄
    exact ⟨o, hk₆ _ _ (x₅.notOwnSeq ho hd) ho, hcl, k, hd⟩
  -- count
  refine wpAny_execs_cons (wpAny_Assign_Name ((evCount (k := 4) (by decide) T x₆ (fx.seq q₆) hc₆).run fun tk₇ u₇ => ?_))
  have x₇ : Lx g₀ s.heap (fun b => b = dL ∨ b = dO) os L _ _ { s₆ with toks := tk₇ } := x₆.toks (dr := s₆.drawn)
  refine x₇.sto (a := a) (cd := cd) fun s₈ x₈ hk₈ => ?_
  have rL₈ := rL₆.at (h' := s₈.heap) fun o e => hk₈ _ o (fun q => hoL (.inl q)) e
  have rO₈ := rO₆.at (h' := s₈.heap) fun o e => hk₈ _ o (fun q => hoO (.inl q)) e
  have q₈ : KeepSeq s.heap s₈.heap := x.keepSeq hex x₈
  have hl₈ : s₈.heap.IsList la us.toArray := by
    obtain ⟨o, ho, hcl, k, hd⟩ := hl₆
    exact ⟨o, hk₈ _ _ (fun q => x₇.notOwnSeq ho hd (.inl q)) ho, hcl, k, hd⟩
  have hcnt₈ := (cnt_lt M (k := 4) (by decide) (pl1 M p)).2
  -- own[x] = [...]
  refine wpAny_execs_cons (wpAny_Assign_Subscript (rangeComp (cl := [(Str.ofString "place", L + 6), (Str.ofString "numbers", L + 3)]) (n := cnt M 4 (pl1 M p)) (T.mono x₈.F.keep) hh
    (fun k us => IntsAre us ((List.range k).map fun k => num M (pl1 M p + 1 + k))) rfl (by decide) rfl (by decide) rfl
    (EvI.name (EvV.loc (env := lEnv L a cd) x₈.F.ns (if_pos rfl))) (by omega) .nil ?_ ?_))
  · intro k us s₃ mm u' Cc hk hJ hn₃ hm₃ hsub
    have fx₃ := fx.seq (q₈.trans (Sub.seq hsub))
    have cell : ∀ {nm : Str} {c : Addr} {v : Value}, (fun y => if y = Str.ofString "place" then some (Value.int ((pl1 M p : Nat) : Int) u₅) else cm y) nm = some v → (lCells L).lookup nm = some c → s₃.heap.IsCell c (some v) := by
      intro nm c v hv hl
      obtain ⟨o, ho, hd⟩ := x₈.isCell hv hl
      exact ⟨o, hsub _ _ ho, hd⟩
    have hlt : (pl1 M p + 1 + k) % M.length < M.length := Nat.mod_lt _ (by have := fx.M1; omega)
    obtain ⟨tv, hv⟩ := fx₃.mInts.get ((pl1 M p + 1 + k) % M.length) _ (num_get fx.M1 _)
    have hlen := fx.mInts.length
    refine ⟨.int (num M (pl1 M p + 1 + k)) tv, EvV.item (k := (pl1 M p + 1 + k) % M.length) (EvV.cell (c := L + 3) (cell hc₆.numbers rfl)) (EvI.to (EvI.mod (EvI.add (EvI.add (EvI.name (EvV.cell (c := L + 6) (cell (nm := Str.ofString "place") (v := .int ((pl1 M p : Nat) : Int) u₅) rfl rfl))) EvI.const) (EvI.name (EvV.loc hn₃ hm₃)))
      (EvI.len ((T.mono x₈.F.keep).mono hsub) (EvV.cell (c := L + 3) (cell hc₆.numbers rfl)) fx₃.nums (by have := fx.M62; omega)) (by have := fx.M1; omega)) ?_) fx₃.nums (by have := fx.M62; omega) hv, ?_⟩
    · rw [← hlen, ← fmod_nat]; push_cast; rfl
    · rw [range_snoc]; exact IntsAre.snoc hJ _ _
  intro oa h₉ tk₉ dr₉ ws c₉ hoa hl₉ hle₉ hJ₉ hsub₉
  have x₉ : Lx g₀ s.heap (fun b => b = dL ∨ b = dO) os L _ _ { s₈ with heap := h₉, toks := tk₉, drawn := dr₉ } := x₈.grow hsub₉
  have q₉ : KeepSeq s.heap h₉ := q₈.trans (Sub.seq hsub₉)
  have rL₉ := rL₈.at (h' := h₉) fun o e => hsub₉ _ o e
  have rO₉ := rO₈.at (h' := h₉) fun o e => hsub₉ _ o e
  refine x₉.ldc (c := L + 5) hc₆.own (x₉.ld (v := xv) hxm ?_)
  refine setItem_N hu rO₉ (fun y hy => nodesOk q₉ _ (Nat.lt_trans (kO y hy) hi)) (nodesOk q₉ i hi) (len12 rO₉ kO) hx fun h₁₀ tk₁₀ rO₁₀ hs₁₀ => ?_
  rw [stored_new (fresh_i kO)] at rO₁₀
  have x₁₀ : Lx g₀ s.heap (fun b => b = dL ∨ b = dO) os L _ _ { s₈ with heap := h₁₀, toks := tk₁₀, drawn := dr₉ } := x₉.other hgO hoO (.inl (.inr rfl)) fun b o hb e => hs₁₀.extBut b o hb e
  have k₁₀ : ∀ b o its k, h₉.get? b = some o → o.data = .seq its k → h₁₀.get? b = some o := fun b o its k ho hd => hs₁₀.extBut b o (fun q => by
    obtain ⟨o', _, _, ho', hd'⟩ := rO₉.objDict
    rw [q, ho'] at ho; cases ho; rw [hd] at hd'; cases hd') ho
  have hl₁₀ : h₁₀.IsList la us.toArray := KeepSeq.list k₁₀ (KeepSeq.list (Sub.seq hsub₉) hl₈)
  have ho₁₀ : h₁₀.IsList oa ws.toArray := KeepSeq.list k₁₀ hl₉.isList
  have rL₁₀ := rL₉.at (h' := h₁₀) fun o e => hs₁₀.extBut _ o hne e
  -- place
  refine wpAny_execs_cons (wpAny_Assign_Name ((EvI.add (EvI.add (EvI.name (EvV.cell (env := lEnv L a cd) (c := L + 6) (x₁₀.isCell (nm := Str.ofString "place") (v := .int ((pl1 M p : Nat) : Int) u₅) rfl))) EvI.const) (EvI.name (EvV.loc (env := lEnv L a cd) x₁₀.F.ns (if_pos rfl)))).run fun tk₁₁ u₁₁ => ?_))
  have x₁₁ : Lx g₀ s.heap (fun b => b = dL ∨ b = dO) os L _ _ { s₈ with heap := h₁₀, toks := tk₁₁, drawn := dr₉ } := x₁₀.toks
  refine x₁₁.stoc (a := a) (cd := cd) fun s' x' hk' => ?_
  have e2 : ((pl1 M p : Nat) : Int) + 1 + (cnt M 4 (pl1 M p) : Int) = ((pl2 M p : Nat) : Int) := by unfold pl2; push_cast; rfl
  rw [e2] at x'
  refine wpAny_execs_nil (h s' _ _ la oa us ws x' ⟨hc.nodes, hc.numbers, hc.leads, hc.own, _, rfl⟩ rfl (rL₁₀.at fun o e => hk' _ o hoL e) (rO₁₀.at fun o e => hk' _ o hoO e) ?_ hJ₃ ?_ hJ₉ (x.keepSeq hex x'))
  · obtain ⟨o, ho, hcl, k, hd⟩ := hl₁₀
    exact ⟨o, hk' _ _ (x₁₁.notOwnSeq ho hd) ho, hcl, k, hd⟩
  · obtain ⟨o, ho, hcl, k, hd⟩ := ho₁₀
    exact ⟨o, hk' _ _ (x₁₁.notOwnSeq ho hd) ho, hcl, k, hd⟩
end
end Mine

end PartJ6h
section PartJ6i
open PySem PySem.W PyProof.Rows
set_option maxRecDepth 100000
set_option maxHeartbeats 1000000
set_option linter.unusedVariables false
namespace Mine

def plc (M : List Int) : Nat → Nat
  | 0 => 0
  | i + 1 => pl2 M (plc M i)
def leadOf (M : List Int) (n i : Nat) : List Nat := leadAt M n (plc M i)
def ownOf (M : List Int) (i : Nat) : List Int := ownAt M (plc M i)

section
variable {prog : Program} {w : World} {A : Around} {E : Value → Shared → Prop} {s s₀ : Shared} {fT fD : Addr}
variable {g₀ base base₀ : Heap} {ex ex₀ : Addr → Prop} {os : OsState} {L : Addr} {m m₀ cm cm₀ : Str → Option Value} {a : Addr} {cd : Value}
variable {C : Nds} {n : Nat} {M : List Int} {lN lM dL dO : Addr} {vN vM : List Value} {p : Nat}

/-- the two dicts, filled up to c -/
structure Filled (prog : Program) (w : World) (C : Nds) (n : Nat) (M : List Int) (dL dO : Addr) (c : Nat) (la oa : Nat → Addr) (h : Heap) : Prop where
  rL : RawN prog w C h dL ((List.range c).map fun j => (j, Value.ref (la j)))
  rO : RawN prog w C h dO ((List.range c).map fun j => (j, Value.ref (oa j)))
  lL : ∀ j, j < c → ∃ vs, h.IsList (la j) (List.toArray vs) ∧ NVs C (leadOf M n j) vs
  lO : ∀ j, j < c → ∃ us, h.IsList (oa j) (List.toArray us) ∧ IntsAre us (ownOf M j)

def exF (dL dO b : Addr) : Prop := b = dL ∨ b = dO

theorem Lx.it (x : Lx g₀ base ex os L m cm s) {it : Addr} {h' : Heap} {tk : Nat} {dr : Drawn} (hg : g₀.get? it = none) (ho : ¬ Own L it) (ex' : Addr → Prop) (hs : ∀ b o, b ≠ it → s.heap.get? b = some o → h'.get? b = some o) : Lx g₀ h' ex' os L m cm { s with heap := h', toks := tk, drawn := dr } :=
  ((x.rebase fun _ => True).other hg ho (.inl trivial) hs).rebase ex'

theorem fill_walk (T : TpL fT fD g₀) (hh : A.handled = none) (hu : A.units + 1 < cLine) (x : Lx g₀ s.heap (fun b => b = dL ∨ b = dO) os L m cm s) (fx : Facts prog w C n M lN lM vN vM s.heap) (hc : Cm lN lM dL dO 0 cm)
    (hgL : g₀.get? dL = none) (hgO : g₀.get? dO = none) (hoL : ¬ Own L dL) (hoO : ¬ Own L dO) (hne : dL ≠ dO)
    (rL : RawN prog w C s.heap dL []) (rO : RawN prog w C s.heap dO []) {Q : Flow → Shared → Prop}
    (h : ∀ s' m' cm' la oa p, Lx g₀ s'.heap (fun b => b = dL ∨ b = dO) os L m' cm' s' → Cm lN lM dL dO p cm' → cm' (Str.ofString "head") = cm (Str.ofString "head") → Facts prog w C n M lN lM vN vM s'.heap → Filled prog w C n M dL dO n la oa s'.heap →
      wpAny (model prog w) A (execs (lBody.drop 6) (lEnv L a cd)) Q E s') :
    wpAny (model prog w) A (execs (lBody.drop 5) (lEnv L a cd)) Q E s := by
  have hlen := fx.nvs.length
  rw [List.length_range] at hlen
  obtain ⟨vh, hvh⟩ : ∃ v, cm (Str.ofString "head") = v := ⟨_, rfl⟩
  refine wpAny_execs_cons (wpAny_For (x.ldc (c := L + 2) hc.nodes (wpAny_pyIter_list fx.nodes ?_)))
  have hit0 : s.heap.get? s.heap.objs.size = none := Heap.get?_none_of_le (Nat.le_refl _)
  obtain ⟨itg, ito, _⟩ := x.new hit0
  have itL : s.heap.objs.size ≠ dL := fun e => by obtain ⟨o, _, _, ho, _⟩ := rL.objDict; rw [← e, hit0] at ho; cases ho
  have itO : s.heap.objs.size ≠ dO := fun e => by obtain ⟨o, _, _, ho, _⟩ := rO.objDict; rw [← e, hit0] at ho; cases ho
  have hit : (s.heap.push { cls := .type "list_iterator", data := .fields #[.ref lN, .int 0 0] }).IsListIter s.heap.objs.size lN 0 := ⟨_, Heap.get?_push_size _ rfl, rfl, rfl⟩
  have up : Sub s.heap (s.heap.push { cls := .type "list_iterator", data := .fields #[.ref lN, .int 0 0] }) := fun b o e => Heap.get?_push_of_some _ e
  have x₁ : Lx g₀ (s.heap.push { cls := .type "list_iterator", data := .fields #[.ref lN, .int 0 0] }) (fun b => b = dL ∨ b = dO) os L m cm { s with heap := s.heap.push { cls := .type "list_iterator", data := .fields #[.ref lN, .int 0 0] } } :=
    (x.grow (tk := s.toks) (dr := s.drawn) up).rebase _
  generalize s.heap.push { cls := .type "list_iterator", data := .fields #[.ref lN, .int 0 0] } = H at hit up x₁ ⊢
  generalize s.heap.objs.size = it at hit itg ito itL itO ⊢
  refine codeAny_forLoop (fun q s => ∃ m cm la oa c, n = q + c ∧ Lx g₀ s.heap (fun b => b = dL ∨ b = dO) os L m cm s ∧ Cm lN lM dL dO (plc M c : Nat) cm ∧ cm (Str.ofString "head") = vh ∧ Facts prog w C n M lN lM vN vM s.heap ∧ Filled prog w C n M dL dO c la oa s.heap ∧ s.heap.IsListIter it lN c)
    ?_ n ⟨m, cm, fun _ => 0, fun _ => 0, 0, rfl, x₁, hc, ?_, fx.seq (Sub.seq up), ⟨rL.at fun o e => up _ o e, rO.at fun o e => up _ o e, fun j hj => absurd hj (Nat.not_lt_zero _), fun j hj => absurd hj (Nat.not_lt_zero _)⟩, hit⟩
  rotate_left
  · exact hvh
  rintro q s ⟨m₁, cm₁, la, oa, c, hq, x, hc, hhd, fx, fl, hit⟩
  by_cases hcn : c < n
  · have hjr : (List.range n)[c]? = some c := List.getElem?_range hcn
    obtain ⟨xv, hxv, hx⟩ := fx.nvs.at hjr
    refine wpAny_pyNext_list_item hit fx.nodes (x := xv) (by simpa using hxv) fun h' hit' hs' => ?_
    have x₂ : Lx g₀ h' (fun b => b = dL ∨ b = dO) os L m₁ cm₁ { s with heap := h' } := x.it (tk := s.toks) (dr := s.drawn) itg ito _ fun b o hb e => hs'.extBut b o hb e
    refine PyProof.Rows.assign_Name (x₂.sto (a := a) (cd := cd) fun s₃ x₃ hk₃ => ?_)
    have k₃ : ∀ b o, b ≠ L → b ≠ it → s.heap.get? b = some o → s₃.heap.get? b = some o := fun b o h1 h2 e => hk₃ b o h1 (hs'.extBut b o h2 e)
    have q₃ : KeepSeq s.heap s₃.heap := fun b o its k ho hd => k₃ b o (fun q => x.notOwnSeq ho hd (.inl q)) (fun q => by
      obtain ⟨o', ho', _, hd'⟩ := hit; rw [q, ho'] at ho; cases ho; rw [hd] at hd'; cases hd') ho
    have rL₃ := fl.rL.at (h' := s₃.heap) fun o e => k₃ _ o (fun q => hoL (.inl q)) (Ne.symm itL) e
    have rO₃ := fl.rO.at (h' := s₃.heap) fun o e => k₃ _ o (fun q => hoO (.inl q)) (Ne.symm itO) e
    have hkeys : ∀ {f : Nat → Addr}, ∀ y ∈ (List.range c).map (fun j => (j, Value.ref (f j))), y.1 < c := fun y hy => by obtain ⟨z, hz, rfl⟩ := List.mem_map.mp hy; exact List.mem_range.mp hz
    refine fill_turn T hh hu (x₃.rebase _) (fx.seq q₃) hc hgL hgO hoL hoO hne hcn (if_pos rfl) hx rL₃ rO₃ hkeys hkeys fun s' m' cm' la' oa' vs us x' hc' hhd' rL' rO' hvs hnv hus hiu q' => ?_
    have hit₃ : s₃.heap.IsListIter it lN (c + 1) := by
      obtain ⟨o, ho, r⟩ := hit'
      exact ⟨o, hk₃ _ o (fun q => ito (.inl q)) ho, r⟩
    have hit₄ : s'.heap.IsListIter it lN (c + 1) := by
      obtain ⟨o, ho, r⟩ := hit₃
      refine ⟨o, x'.keep _ o ?_ ito ho, r⟩
      rintro (q | q)
      · exact itL q
      · exact itO q
    have ext : ∀ (f : Nat → Addr) (b : Addr), ((List.range (c + 1)).map fun j => (j, Value.ref (if j = c then b else f j))) = ((List.range c).map fun j => (j, Value.ref (f j))) ++ [(c, Value.ref b)] := by
      intro f b
      rw [range_snoc, if_pos rfl]
      congr 1
      apply List.map_congr_left
      intro j hj
      rw [if_neg (by have := List.mem_range.mp hj; omega)]
    refine ⟨q - 1, by omega, m', cm', fun j => if j = c then la' else la j, fun j => if j = c then oa' else oa j, c + 1, by omega, x'.rebase _, hc', hhd'.trans hhd, fx.seq (q₃.trans q'), ⟨?_, ?_, ?_, ?_⟩, hit₄⟩
    · rw [ext]; exact rL'
    · rw [ext]; exact rO'
    · intro j hj
      by_cases e : j = c
      · subst e; exact ⟨vs, by rw [if_pos rfl]; exact hvs, hnv⟩
      · obtain ⟨ws, h1, h2⟩ := fl.lL j (by omega)
        exact ⟨ws, by rw [if_neg e]; exact (q₃.trans q').list h1, h2⟩
    · intro j hj
      by_cases e : j = c
      · subst e; exact ⟨us, by rw [if_pos rfl]; exact hus, hiu⟩
      · obtain ⟨ws, h1, h2⟩ := fl.lO j (by omega)
        exact ⟨ws, by rw [if_neg e]; exact (q₃.trans q').list h1, h2⟩
  · have hcn' : c = n := by omega
    subst hcn'
    refine wpAny_pyNext_list_end hh hit fx.nodes (by simp; omega) fun h' he => ?_
    refine wpAny_execs_nil ?_
    have x₂ : Lx g₀ h' (fun b => b = dL ∨ b = dO) os L m₁ cm₁ { s with heap := h' } := x.it (tk := s.toks) (dr := s.drawn) itg ito _ fun b o hb e => he b o hb e
    have q₂ : KeepSeq s.heap h' := fun b o its k ho hd => he b o (fun q => by
      obtain ⟨o', ho', _, hd'⟩ := hit; rw [q, ho'] at ho; cases ho; rw [hd] at hd'; cases hd') ho
    exact h _ m₁ cm₁ la oa _ x₂ hc (hhd.trans hvh.symm) (fx.seq q₂) ⟨fl.rL.at fun o e => he _ o (Ne.symm itL) e, fl.rO.at fun o e => he _ o (Ne.symm itO) e, fun j hj => by obtain ⟨ws, h1, h2⟩ := fl.lL j hj; exact ⟨ws, q₂.list h1, h2⟩, fun j hj => by obtain ⟨ws, h1, h2⟩ := fl.lO j hj; exact ⟨ws, q₂.list h1, h2⟩⟩
end
end Mine

end PartJ6i
section PartJ6j
open PySem PySem.W PyProof.Rows
set_option maxRecDepth 100000
set_option maxHeartbeats 1000000
set_option linter.unusedVariables false
namespace Mine

theorem NVs.reverse {C : Nds} {js : List Nat} {vs : List Value} (h : NVs C js vs) : NVs C js.reverse vs.reverse := by
  induction h with
  | nil => exact .nil
  | cons a _ ih => rw [List.reverse_cons, List.reverse_cons]; exact ih.append (.cons a .nil)

def ksOf (hd : Int) (n : Nat) : List Nat := if hd.fmod 2 == 0 then List.range n else (List.range n).reverse

section
variable {prog : Program} {w : World} {A : Around} {E : Value → Shared → Prop} {s s₀ : Shared} {fT fD : Addr}
variable {g₀ base base₀ : Heap} {ex ex₀ : Addr → Prop} {os : OsState} {L : Addr} {m m₀ cm cm₀ : Str → Option Value} {a : Addr} {cd : Value}
variable {C : Nds} {n : Nat} {M : List Int} {lN lM dL dO : Addr} {vN vM : List Value} {p : Int} {la oa : Nat → Addr} {c : Nat}

theorem Filled.mono {h h' : Heap} (x : Filled prog w C n M dL dO c la oa h) (k : Sub h h') : Filled prog w C n M dL dO c la oa h' :=
  ⟨x.rL.at fun o e => k _ o e, x.rO.at fun o e => k _ o e, fun j hj => let ⟨vs, h1, h2⟩ := x.lL j hj; ⟨vs, (Sub.seq k).list h1, h2⟩, fun j hj => let ⟨vs, h1, h2⟩ := x.lO j hj; ⟨vs, (Sub.seq k).list h1, h2⟩⟩

theorem ndsRange (fx : Facts prog w C n M lN lM vN vM h) : ∀ y ∈ (List.range n).map (fun j => (j, Value.ref (la j))), NodeOk prog w C h y.1 := fun y hy => by
  obtain ⟨z, hz, rfl⟩ := List.mem_map.mp hy; exact fx.ok z (List.mem_range.mp hz)

/-- nodes[:] or nodes[::-1] -/
theorem argX {p1 p2 p3 p4 p5 p6 p7 p8 p9 p10 p11 p12 p13 p14 : Pos} {k1 k2 k3 : Nat} {hd : Int} {t : Tok} {Q : Value → Shared → Prop} (x : Lx g₀ base ex os L m cm s) (fx : Facts prog w C n M lN lM vN vM s.heap) (hc : Cm lN lM dL dO p cm) (hh : cm (Str.ofString "head") = some (.int hd t))
    (h : ∀ D h' tk vX, s.heap.get? D = none → h'.IsList D (List.toArray vX) → NVs C (ksOf hd n) vX → Sub s.heap h' → Q (.ref D) { s with heap := h', toks := tk }) :
    wpAny (model prog w) A (eval (.IfExp (.Compare (.BinOp (.Name (Str.ofString "head") p1) .Mod (.Constant (.int 2) k1 p2) p3) [.Eq] [.Constant (.int 0) k2 p4] p5) (.Subscript (.Name (Str.ofString "nodes") p6) (.Slice none none none p7) p8)
      (.Subscript (.Name (Str.ofString "nodes") p9) (.Slice none none (some (.UnaryOp .USub (.Constant (.int 1) k3 p10) p11)) p12) p13) p14) (lEnv L a cd)) Q E s := by
  refine wpAny_IfExp (wpAny_isTrue_Compare1 ((EvI.mod (EvI.name (EvV.cell (env := lEnv L a cd) (c := L + 1) (x.isCell hh))) EvI.const (by decide)).run fun tk u => wpAny_Constant_int (PyProof.Rows.eq_int (wpAny_truthy_bool ?_))))
  have x₁ : Lx g₀ base ex os L m cm { s with toks := tk + 1 } := x.toks (dr := s.drawn)
  have hsz : vN.toArray.size ≤ 65536 := by
    have := fx.nvs.length
    have := fx.n12
    rw [List.length_range] at *
    rw [List.size_toArray]; omega
  cases hb : (hd.fmod 2 == 0) with
  | true =>
    rw [if_pos rfl]
    refine evSlice (fun o i => [i, o]) (x₁.ldc (c := L + 2) hc.nodes ⟨lN, rfl, ?_⟩)
    rw [evalPart_none]
    refine wpAny_pure (wpAny_pure (wpAny_pure ⟨vN.toArray, none, none, none, fx.nodes, hsz, .none, .none, .none, by simp, fun h' D c' hD' hDn _ hk => ?_⟩))
    refine h D h' _ vN hDn ?_ ?_ hk
    · rw [slicePick_all] at hD'; exact hD'.isList
    · unfold ksOf; rw [hb]; exact fx.nvs
  | false =>
    rw [if_neg Bool.false_ne_true]
    refine evSlice (fun o i => [o, i]) (x₁.ldc (c := L + 2) hc.nodes ⟨lN, rfl, ?_⟩)
    rw [evalPart_none, evalPart_some]
    refine wpAny_pure (wpAny_pure (UnaryOp_ (wpAny_Constant_int (PySem.P.neg_int ⟨vN.toArray, none, none, some (-1), fx.nodes, hsz, .none, .none, .int (-1) _, by simp, fun h' D c' hD' hDn _ hk => ?_⟩))))
    refine h D h' _ vN.reverse hDn ?_ ?_ hk
    · rw [krv_pick] at hD'; exact hD'.isList
    · unfold ksOf; rw [hb]; exact fx.nvs.reverse

/-- {x: leads[x][:] for x in nodes} -/
theorem argR {p1 p2 p3 p4 p5 p6 p7 p8 p9 : Pos} {scope : Scope} {Q : Value → Shared → Prop} (hh : A.handled = none) (hu : A.units + 1 < cLine) (x : Lx g₀ base ex os L m cm s) (fx : Facts prog w C n M lN lM vN vM s.heap) (hc : Cm lN lM dL dO p cm) (fl : Filled prog w C n M dL dO n la oa s.heap)
    (hscope : scope = { kind := .function, names := [(Str.ofString ".0", .local), (Str.ofString "x", .local), (Str.ofString "leads", .free)], isGenerator := false, isCoroutine := false, more := [] })
    (h : ∀ D h' tk dr (ra : Nat → Addr), s.heap.get? D = none → RawN prog w C h' D ((List.range n).map fun i => (i, Value.ref (ra i))) → (∀ i, i < n → ∃ vs, h'.IsList (ra i) (List.toArray vs) ∧ NVs C (leadOf M n i) vs) → Sub s.heap h' → Q (.ref D) { s with heap := h', toks := tk, drawn := dr }) :
    wpAny (model prog w) A (eval (.DictComp (.Name (Str.ofString "x") p1) (.Subscript (.Subscript (.Name (Str.ofString "leads") p2) (.Name (Str.ofString "x") p3) p4) (.Slice none none none p5) p6) [⟨.Name (Str.ofString "x") p7, .Name (Str.ofString "nodes") p8, [], 0⟩] scope p9) (lEnv L a cd)) Q E s := by
  subst hscope
  refine DictComp_val (C := C) (cl := [(Str.ofString "leads", L + 4)]) hh (by omega) rfl (by decide) rfl (by decide) rfl rfl (x.ldc (c := L + 2) hc.nodes ?_)
  refine ⟨lN, vN, List.range n, fun i v h => ∃ a' : Addr, v = .ref a' ∧ s.heap.objs.size + 3 ≤ a' ∧ ∃ vs, h.IsList a' (List.toArray vs) ∧ NVs C (leadOf M n i) vs, rfl,
    ⟨fx.nodes, fx.nvs, List.nodup_range, by rw [List.length_range]; have := fx.n12; omega, fun i hi => fx.ok i (List.mem_range.mp hi), ?_, ?_, ?_⟩, ?_⟩
  · rintro i v h h' ⟨a', rfl, hlo, vs, hl, hv⟩ hk
    refine ⟨a', rfl, hlo, vs, hl.at fun o e => hk a' o ?_ ?_ ?_ e, hv⟩
    · exact Nat.ne_of_gt (Nat.lt_of_lt_of_le (by omega) hlo)
    · exact Nat.ne_of_gt (Nat.lt_of_lt_of_le (by omega) hlo)
    · exact Nat.ne_of_gt (Nat.lt_of_lt_of_le (by omega) hlo)
  · rintro i b h ⟨a', e, _, vs, ⟨o, ho, _⟩, _⟩
    cases e; exact ⟨o, ho⟩
  · intro i v s₃ m₃ E' hi hv hn₃ hm₃ hk₃ hg₃ ho₃
    have hi' := List.mem_range.mp hi
    have fx₃ := fx.seq (Sub.seq hk₃)
    have fl₃ := fl.mono hk₃
    have hcell : s₃.heap.IsCell (L + 4) (some (.ref dL)) := by
      obtain ⟨o, ho, hd⟩ := x.isCell (c := L + 4) hc.leads
      exact ⟨o, hk₃ _ _ ho, hd⟩
    refine evSlice (fun o i => [i, o]) (wpAny_Subscript_Name_late (ldCc hcell (ldCl (mm := m₃) hn₃ hm₃ ⟨"dict", _, slot_dict_getitem.lookup, fl₃.rL.typeIs, getItem_N (v := .ref (la i)) hu fl₃.rL (ndsRange fx₃) (fx₃.ok i hi') hv (valueAt_range (f := fun j => Value.ref (la j)) hi') fun tk => ?_⟩)))
    obtain ⟨vs, hl, hnv⟩ := fl₃.lL i hi'
    refine ⟨la i, rfl, ?_⟩
    rw [evalPart_none]
    have hlen := hnv.length
    have hlen2 : (leadOf M n i).length ≤ 5 := by
      unfold leadOf leadAt; rw [List.length_map, List.length_range]
      have := (cnt_lt M (k := 5) (by decide) (plc M i)).2; omega
    refine wpAny_pure (wpAny_pure (wpAny_pure ⟨vs.toArray, none, none, none, hl, by rw [List.size_toArray]; omega, .none, .none, .none, by simp, fun h' D c' hD' hDn hDs hk => ?_⟩))
    rw [slicePick_all] at hD'
    refine ⟨⟨D, rfl, Nat.le_trans hn₃.lt hDs, vs, hD'.isList, hnv⟩, fun b e => by cases e; exact hDn, h', _, s₃.drawn, rfl, hk⟩
  · intro D h' tk dr us hD hr hl hV hap hk
    have hz : (List.range n).zip us = (List.range n).map fun i => (i, Value.ref (match us[i]? with | some (Value.ref b) => b | _ => 0)) := by
      apply List.ext_getElem
      · rw [List.length_zip, List.length_map, hl, Nat.min_self]
      · intro k h1 h2
        rw [List.getElem_zip, List.getElem_map, List.getElem_range]
        have hk' : k < us.length := by rw [List.length_zip] at h1; omega
        obtain ⟨a', e, _⟩ := hV k k us[k] (by rw [List.getElem?_range (by rw [List.length_map, List.length_range] at h2; exact h2)]) (List.getElem?_eq_getElem hk')
        rw [List.getElem?_eq_getElem hk', e]
    refine h D h' tk dr (fun i => match us[i]? with | some (Value.ref b) => b | _ => 0) hD (by rw [← hz]; exact hr) (fun i hi => ?_) hk
    have hk' : i < us.length := by rw [hl, List.length_range]; exact hi
    obtain ⟨a', e, _, vs, h1, h2⟩ := hV i i us[i] (by rw [List.getElem?_range hi]) (List.getElem?_eq_getElem hk')
    refine ⟨vs, ?_, h2⟩
    show h'.IsList (match us[i]? with | some (Value.ref b) => b | _ => 0) vs.toArray
    rw [List.getElem?_eq_getElem hk', e]; exact h1
end
end Mine

end PartJ6j
section PartJ6k
open PySem PySem.W PyProof.Rows
set_option maxRecDepth 100000
set_option maxHeartbeats 1000000
set_option linter.unusedVariables false
namespace Mine

def ownS (M : List Int) (i : Nat) : List Int := unionI [] (ownOf M i)

theorem getD_mem {M : List Int} {i : Nat} (h : 1 ≤ M.length) : num M i ∈ M := List.mem_of_getElem? (num_get h i)
theorem ownOf_mem {M : List Int} {i : Nat} (h : 1 ≤ M.length) : ∀ x ∈ ownOf M i, x ∈ M := by
  intro x hx
  unfold ownOf ownAt at hx
  obtain ⟨k, _, rfl⟩ := List.mem_map.mp hx
  exact getD_mem h
theorem ownOf_len (M : List Int) (i : Nat) : (ownOf M i).length ≤ 4 := by
  unfold ownOf ownAt; rw [List.length_map, List.length_range]
  have := (cnt_lt M (k := 4) (by decide) (pl1 M (plc M i))).2; omega
theorem leadOf_len (M : List Int) (n i : Nat) : (leadOf M n i).length ≤ 4 := by
  unfold leadOf leadAt; rw [List.length_map, List.length_range]
  have := (cnt_lt M (k := 5) (by decide) (plc M i)).2; omega
theorem leadOf_lt {M : List Int} {n i : Nat} (hn : 1 ≤ n) : ∀ j ∈ leadOf M n i, j < n := by
  intro j hj
  unfold leadOf leadAt at hj
  obtain ⟨k, _, rfl⟩ := List.mem_map.mp hj
  have hn0 : 0 < (n : Int) := by omega
  have b1 := Int.fmod_nonneg_of_pos (num M (plc M i + 1 + k)) hn0
  have b2 := Int.fmod_lt_of_pos (num M (plc M i + 1 + k)) hn0
  omega
theorem ksOf_mem {hd : Int} {n i : Nat} : i ∈ ksOf hd n ↔ i < n := by
  unfold ksOf; split
  · exact List.mem_range
  · rw [List.mem_reverse]; exact List.mem_range
theorem ksOf_nodup {hd : Int} {n : Nat} : (ksOf hd n).Nodup := by
  unfold ksOf; split
  · exact List.nodup_range
  · exact List.pairwise_reverse.mpr (List.Pairwise.imp (fun h => Ne.symm h) List.nodup_range)

section
variable {prog : Program} {w : World} {A : Around} {E : Value → Shared → Prop} {s s₀ : Shared} {fT fD : Addr}
variable {g₀ base base₀ : Heap} {ex ex₀ : Addr → Prop} {os : OsState} {L : Addr} {m m₀ cm cm₀ : Str → Option Value} {a : Addr} {cd : Value}
variable {C : Nds} {n : Nat} {M : List Int} {lN lM dL dO : Addr} {vN vM : List Value} {p : Int} {la oa : Nat → Addr} {c : Nat}

/-- {x: set(own[x]) for x in nodes} -/
theorem argG {p1 p2 p3 p4 p5 p6 p7 p8 p9 : Pos} {scope : Scope} {Q : Value → Shared → Prop} (T : TpL fT fD g₀) (hh : A.handled = none) (hu : A.units + 1 < cLine) (x : Lx g₀ base ex os L m cm s) (fx : Facts prog w C n M lN lM vN vM s.heap) (hc : Cm lN lM dL dO p cm) (fl : Filled prog w C n M dL dO n la oa s.heap)
    (hscope : scope = { kind := .function, names := [(Str.ofString ".0", .local), (Str.ofString "x", .local), (Str.ofString "set", .globalImplicit), (Str.ofString "own", .free)], isGenerator := false, isCoroutine := false, more := [] })
    (h : ∀ D h' tk dr (ga : Nat → Addr), s.heap.get? D = none → RawN prog w C h' D ((List.range n).map fun i => (i, Value.ref (ga i))) → (∀ i, i < n → SetI w h' (ga i) (ownS M i)) → (∀ i, i < n → s.heap.get? (ga i) = none) → (∀ i j, i < n → j < n → ga i = ga j → i = j) → Sub s.heap h' → Q (.ref D) { s with heap := h', toks := tk, drawn := dr }) :
    wpAny (model prog w) A (eval (.DictComp (.Name (Str.ofString "x") p1) (.Call (.Name (Str.ofString "set") p2) [.Subscript (.Name (Str.ofString "own") p3) (.Name (Str.ofString "x") p4) p5] [] p6) [⟨.Name (Str.ofString "x") p7, .Name (Str.ofString "nodes") p8, [], 0⟩] scope p9) (lEnv L a cd)) Q E s := by
  subst hscope
  refine DictComp_val (C := C) (cl := [(Str.ofString "own", L + 5)]) hh (by omega) rfl (by decide) rfl (by decide) rfl rfl (x.ldc (c := L + 2) hc.nodes ?_)
  refine ⟨lN, vN, List.range n, fun i v h => ∃ a' : Addr, v = .ref a' ∧ s.heap.objs.size + 3 ≤ a' ∧ SetI w h a' (ownS M i), rfl,
    ⟨fx.nodes, fx.nvs, List.nodup_range, by rw [List.length_range]; have := fx.n12; omega, fun i hi => fx.ok i (List.mem_range.mp hi), ?_, ?_, ?_⟩, ?_⟩
  · rintro i v h h' ⟨a', rfl, hlo, hs⟩ hk
    refine ⟨a', rfl, hlo, hs.at fun o e => hk a' o ?_ ?_ ?_ e⟩
    · exact Nat.ne_of_gt (Nat.lt_of_lt_of_le (by omega) hlo)
    · exact Nat.ne_of_gt (Nat.lt_of_lt_of_le (by omega) hlo)
    · exact Nat.ne_of_gt (Nat.lt_of_lt_of_le (by omega) hlo)
  · rintro i b h ⟨a', e, _, hs⟩
    cases e
    obtain ⟨o, _, _, _, ho, _⟩ := hs.objSet
    exact ⟨o, ho⟩
  · intro i v s₃ m₃ E' hi hv hn₃ hm₃ hk₃ hg₃ ho₃
    have hi' := List.mem_range.mp hi
    have fx₃ := fx.seq (Sub.seq hk₃)
    have fl₃ := fl.mono hk₃
    have hcell : s₃.heap.IsCell (L + 5) (some (.ref dO)) := by
      obtain ⟨o, ho, hd⟩ := x.isCell (c := L + 5) hc.own
      exact ⟨o, hk₃ _ _ ho, hd⟩
    obtain ⟨us, hl, hiu⟩ := fl₃.lO i hi'
    refine Call_ (ldSet ((T.mono x.F.keep).mono hk₃) (PyProof.Rows.callWith_type1 (args_cons (wpAny_Subscript_Name_late (ldCc hcell (ldCl (mm := m₃) hn₃ hm₃ ⟨"dict", _, slot_dict_getitem.lookup, fl₃.rO.typeIs, getItem_N (v := .ref (oa i)) hu fl₃.rO (ndsRange fx₃) (fx₃.ok i hi') hv (valueAt_range (f := fun j => Value.ref (oa j)) hi') fun tk => args_nil ?_⟩))))))
    refine call_set_ints hh hl hiu (by have := ownOf_len M i; omega) fun h' tk' hs' hk' => ?_
    exact ⟨⟨_, rfl, hn₃.lt, hs'⟩, fun b e => by cases e; exact Heap.get?_none_of_le (Nat.le_refl _), h', tk', s₃.drawn, rfl, hk'⟩
  · intro D h' tk dr us hD hr hl hV hap hk
    have hz : (List.range n).zip us = (List.range n).map fun i => (i, Value.ref (match us[i]? with | some (Value.ref b) => b | _ => 0)) := by
      apply List.ext_getElem
      · rw [List.length_zip, List.length_map, hl, Nat.min_self]
      · intro k h1 h2
        rw [List.getElem_zip, List.getElem_map, List.getElem_range]
        have hk' : k < us.length := by rw [List.length_zip] at h1; omega
        obtain ⟨a', e, _⟩ := hV k k us[k] (by rw [List.getElem?_range (by rw [List.length_map, List.length_range] at h2; exact h2)]) (List.getElem?_eq_getElem hk')
        rw [List.getElem?_eq_getElem hk', e]
    have hga : ∀ i, i < n → ∃ a' : Addr, us[i]? = some (.ref a') ∧ (match us[i]? with | some (Value.ref b) => b | _ => 0) = a' ∧ s.heap.objs.size + 3 ≤ a' ∧ SetI w h' a' (ownS M i) := by
      intro i hi
      have hk' : i < us.length := by rw [hl, List.length_range]; exact hi
      obtain ⟨a', e, h1, h2⟩ := hV i i us[i] (by rw [List.getElem?_range hi]) (List.getElem?_eq_getElem hk')
      have e' : us[i]? = some (.ref a') := by rw [List.getElem?_eq_getElem hk', e]
      exact ⟨a', e', by rw [e'], h1, h2⟩
    refine h D h' tk dr (fun i => match us[i]? with | some (Value.ref b) => b | _ => 0) hD (by rw [← hz]; exact hr) (fun i hi => ?_) (fun i hi => ?_) (fun i j hi hj e => ?_) hk
    · obtain ⟨a', _, e2, _, hs⟩ := hga i hi
      show SetI w h' (match us[i]? with | some (Value.ref b) => b | _ => 0) _
      rw [e2]; exact hs
    · obtain ⟨a', _, e2, hlo, _⟩ := hga i hi
      show s.heap.get? (match us[i]? with | some (Value.ref b) => b | _ => 0) = none
      rw [e2]; exact Heap.get?_none_of_le (Nat.le_trans (Nat.le_add_right _ 3) hlo)
    · obtain ⟨a1, e1, e2, _⟩ := hga i hi
      obtain ⟨b1, f1, f2, _⟩ := hga j hj
      have e' : (match us[i]? with | some (Value.ref b) => b | _ => 0) = (match us[j]? with | some (Value.ref b) => b | _ => 0) := e
      rw [e2, f2] at e'
      subst e'
      exact hap i j a1 e1 f1

/-- what digraph gave -/
structure Told (prog : Program) (w : World) (C : Nds) (n : Nat) (M : List Int) (dT : Addr) (σ : St) (gs : Nat → Addr) (h : Heap) : Prop where
  rT : ∃ xs, RawN prog w C h dT xs ∧ (∀ i, valueAt xs i = (σ.F i).map fun j => Value.ref (gs j)) ∧ ∀ i j, σ.F i = some j → i < n ∧ j < n
  sets : ∀ j, j < n → SetI w h (gs j) (σ.G j) ∧ ∀ x ∈ σ.G j, x ∈ M

theorem Told.mono {dT : Addr} {σ : St} {gs : Nat → Addr} {h h' : Heap} (x : Told prog w C n M dT σ gs h) (k : Sub h h') : Told prog w C n M dT σ gs h' :=
  ⟨let ⟨xs, h1, h2⟩ := x.rT; ⟨xs, h1.at fun o e => k _ o e, h2⟩, fun j hj => ⟨(x.sets j hj).1.at fun o e => k _ o e, (x.sets j hj).2⟩⟩

theorem toldStmt {σ' : St} {hd : Int} {t : Tok} {Q : Flow → Shared → Prop} (T : TpL fT fD g₀) (hh : A.handled = none) (hdp : A.depth + 13 + 1 < recursionLimit) (hu : A.units + 3 * 13 + 20 < cLine)
    (x : Lx g₀ base ex os L m cm s) (fx : Facts prog w C n M lN lM vN vM s.heap) (hc : Cm lN lM dL dO p cm) (fl : Filled prog w C n M dL dO n la oa s.heap) (hhd : cm (Str.ofString "head") = some (.int hd t))
    (hoL : ¬ Own L dL) (hoO : ¬ Own L dO) (ht : digs (leadOf M n) 13 (ksOf hd n) (st0 (ownS M)) = some σ')
    (h : ∀ s' dT gs, Lx g₀ s'.heap (fun _ => False) os L (fun y => if y = Str.ofString "told" then some (.ref dT) else m y) cm s' → Facts prog w C n M lN lM vN vM s'.heap → Filled prog w C n M dL dO n la oa s'.heap → Told prog w C n M dT σ' gs s'.heap → (dT == sysModules) = false → ¬ Own L dT →
      wpAny (model prog w) A (execs (lBody.drop 7) (lEnv L a cd)) Q E s') :
    wpAny (model prog w) A (execs (lBody.drop 6) (lEnv L a cd)) Q E s := by
  obtain ⟨tp, mg, mb, o, pm, cdv, doc, h1, h2, _, _, _, _, a5, a6, a7, a8⟩ := T.mono x.F.keep
  refine wpAny_execs_cons (wpAny_Assign_Name (Call_ (Calls.Name_function_global rfl rfl (Calls.loadGlobal_global h1 a5 (callWith_def a7 (args_cons (argX x fx hc hhd ?_)))))))
  intro lX h₁ tk₁ vX hX hlX hvX k₁
  have x₁ : Lx g₀ base ex os L m cm { s with heap := h₁, toks := tk₁ } := x.grow (dr := s.drawn) k₁
  refine args_cons (argR hh (by omega) x₁ (fx.seq (Sub.seq k₁)) hc (fl.mono k₁) rfl ?_)
  intro dR h₂ tk₂ dr₂ ra hR rR lR k₂
  have x₂ : Lx g₀ base ex os L m cm { s with heap := h₂, toks := tk₂, drawn := dr₂ } := x₁.grow k₂
  have k₁₂ : Sub s.heap h₂ := fun b o e => k₂ b o (k₁ b o e)
  refine args_cons (argG T hh (by omega) x₂ (fx.seq (Sub.seq k₁₂)) hc (fl.mono k₁₂) rfl ?_)
  intro dG h₃ tk₃ dr₃ ga hG rG sG gG iG k₃
  have k₁₃ : Sub s.heap h₃ := fun b o e => k₃ b o (k₁₂ b o e)
  have x₃ : Lx g₀ base ex os L m cm { s with heap := h₃, toks := tk₃, drawn := dr₃ } := x₂.grow k₃
  refine args_nil ⟨k₁₃ _ _ a6, ?_⟩
  have fx₃ := fx.seq (Sub.seq k₁₃)
  have hgs0 : ∀ i, i < n → g₀.get? (ga i) = none := fun i hi => by
    cases e : g₀.get? (ga i) with
    | none => rfl
    | some o => have q := x₂.F.keep _ _ e; rw [show h₂.get? (ga i) = none from gG i hi] at q; cases q
  refine dig_walk (D := ⟨C, n, 0, 0, 0, dR, dG, ga, ra, leadOf M n, ksOf hd n, M, fT, g₀⟩) (own := ownS M) (lX := lX) (vX := vX) (K := 13) hh hdp hu
    ⟨T.tp, x₃.F.keep, hgs0, fun i hi => leadOf_lt fx.n1, fun i hi => Nat.le_trans (leadOf_len M n i) (by decide), fx.n12, fun i => ksOf_mem, ksOf_nodup, fx.M62, iG, fx₃.ok, rR.at fun o e => k₃ _ o e, fun i hi => ?_, rG, fun j hj => ⟨sG j hj, fun y hy => ?_⟩, ?_, hvX⟩
    x.gens (k₁₃ _ _ a6) a7 (a8.keeps k₁₃) ht ?_
  · obtain ⟨vs, q1, q2⟩ := lR i hi
    exact ⟨vs, (Sub.seq k₃).list q1, q2⟩
  · unfold ownS at hy
    rcases mem_unionI.mp hy with q | q
    · cases q
    · exact ownOf_mem fx.M1 y q
  · exact (Sub.seq k₃).list ((Sub.seq k₂).list hlX)
  intro s' dN dF lS hrep hdF hdFle hk hg ho
  have hset : ∀ i, i < n → ∃ o es ep t, h₃.get? (ga i) = some o ∧ o.data = .set es ep t := fun i hi => (sG i hi).objSet
  have notga : ∀ b o, h₃.get? b = some o → (∀ es ep t, o.data ≠ .set es ep t) → ∀ i, i < n → b ≠ ga i := fun b o e hd i hi q => by
    obtain ⟨o', es, ep, t, ho', hd'⟩ := hset i hi
    rw [q, ho'] at e; cases e
    exact hd _ _ _ hd'
  have hOwn : ∀ b, Own L b → ∀ o, h₃.get? b = some o → s'.heap.get? b = some o := fun b hb o e => hk b o (notga b o e fun es ep t q => by
    obtain ⟨o', ho', hkd⟩ := x₃.ownKind hb
    rw [show h₃.get? b = some o from e] at ho'; cases ho'
    rcases hkd with ⟨_, _, r⟩ | ⟨_, r⟩ <;> rw [q] at r <;> cases r) e
  have x₄ : Lx g₀ s'.heap (fun _ => False) os L m cm s' := by
    refine ⟨⟨x₃.F.ns.at' fun o e => hOwn L (.inl rfl) o e, fun b o e => hk b o (fun i hi q => by rw [q, hgs0 i hi] at e; cases e) (x₃.F.keep b o e), x₃.F.above⟩, ⟨fun nm c e => ?_, x₃.C.apart, x₃.C.above⟩, fun b o _ _ e => e, hg, ho.trans x.hos⟩
    obtain ⟨o, ho', hd'⟩ := x₃.C.cell nm c e
    exact ⟨o, hOwn c (.inr ⟨nm, mem_of_lookup e⟩) o ho', hd'⟩
  have q₄ : KeepSeq h₃ s'.heap := fun b o its k ho' hd' => hk b o (notga b o ho' fun _ _ _ q => by rw [hd'] at q; cases q) ho'
  have dk : ∀ {d : Addr} {xs : List (Nat × Value)}, RawN prog w C h₃ d xs → RawN prog w C s'.heap d xs := fun {d xs} r => r.at fun o e => hk d o (notga d o e fun _ _ _ q => by
    obtain ⟨o', es, ep, ho', hd'⟩ := r.objDict
    rw [ho'] at e; cases e; rw [hd'] at q; cases q) e
  have fl₃ := fl.mono k₁₃
  have fx₄ := fx₃.seq q₄
  have fl₄ : Filled prog w C n M dL dO n la oa s'.heap := ⟨dk fl₃.rL, dk fl₃.rO, fun j hj => by obtain ⟨vs, r1, r2⟩ := fl₃.lL j hj; exact ⟨vs, q₄.list r1, r2⟩, fun j hj => by obtain ⟨vs, r1, r2⟩ := fl₃.lO j hj; exact ⟨vs, q₄.list r1, r2⟩⟩
  have told₄ : Told prog w C n M dF σ' ga s'.heap := ⟨hrep.hF, fun j hj => hrep.hG j hj⟩
  have hdFL : dF ≠ L := fun q => by
    obtain ⟨o', _, _, ho', _⟩ := x₃.F.ns
    rw [q, show h₃.get? L = some o' from ho'] at hdF; cases hdF
  refine x₄.sto (a := a) (cd := cd) fun s₆ x₆ hk₆ => ?_
  have q₆ : KeepSeq s'.heap s₆.heap := fun b o its k e hd => hk₆ b o (fun q => x₄.notOwnSeq e hd (.inl q)) e
  have hdF1 : (dF == sysModules) = false := by
    have h3 : mainGlobals < h₃.objs.size := (h1.keeps k₁₃).lt
    have h4 : (3 : Nat) < dF := Nat.lt_of_lt_of_le h3 hdFle
    have h5 : dF ≠ 1 := Nat.ne_of_gt (Nat.lt_trans (by decide) h4)
    exact beq_false_of_ne h5
  refine h s₆ dF ga (x₆.rebase _) (fx₄.seq q₆) ⟨fl₄.rL.at fun o e => hk₆ _ o (fun q => hoL (.inl q)) e, fl₄.rO.at fun o e => hk₆ _ o (fun q => hoO (.inl q)) e, fun j hj => ?_, fun j hj => ?_⟩ ⟨?_, fun j hj => ⟨(told₄.sets j hj).1.at fun o e => hk₆ _ o (fun q => ?_) e, (told₄.sets j hj).2⟩⟩ hdF1 (x₃.new hdF).2.1
  · obtain ⟨vs, r1, r2⟩ := fl₄.lL j hj; exact ⟨vs, q₆.list r1, r2⟩
  · obtain ⟨vs, r1, r2⟩ := fl₄.lO j hj; exact ⟨vs, q₆.list r1, r2⟩
  · obtain ⟨xs, r1, r2⟩ := told₄.rT
    exact ⟨xs, r1.at fun o e => hk₆ _ o hdFL e, r2⟩
  · obtain ⟨o', es, ep, t', ho', hd'⟩ := (told₄.sets j hj).1.objSet
    obtain ⟨o'', _, _, ho'', hd'', _⟩ := x₄.F.ns
    rw [q, ho''] at ho'; cases ho'; rw [hd''] at hd'; cases hd'
end
end Mine

end PartJ6k
section PartJ6l
open PySem PySem.W PyProof.Rows
set_option maxRecDepth 100000
set_option maxHeartbeats 1000000
set_option linter.unusedVariables false
namespace Mine

/-- a dict as it stands, whatever its keys -/
def DRaw (h : Heap) (d : Addr) (es : Array DictEntry) (ep : Nat) : Prop := ∃ o, h.get? d = some o ∧ o.ExactDict ∧ o.data = .dict es ep

section
variable {prog : Program} {w : World} {A : Around} {E : Value → Shared → Prop} {s : Shared} {d it : Addr} {es : Array DictEntry} {ep i : Nat}

theorem DRaw.typeIs (x : DRaw s.heap d es ep) : s.TypeIs (.ref d) "dict" := let ⟨o, ho, hx, _⟩ := x; ⟨o, ho, hx.1⟩

theorem iter_raw {Q : Value → Shared → Prop} (hd : (d == sysModules) = false) (hm : DRaw s.heap d es ep)
    (hQ : Q (.ref s.heap.objs.size) { s with heap := s.heap.push { cls := .type "dict_keyiterator", data := .fields #[.ref d, .int 0 0, .int es.size 0, .int ep 0] } }) :
    wpAny (model prog w) A (pyIter (.ref d)) Q E s := by
  have hT := hm.typeIs
  obtain ⟨o, ho, hc, hdat⟩ := id hm
  refine wpAny_pyIter_slot hT F.slot_dict_iter (wpAny_call_entry F.slot_dict_iter hT F.entry_dict_iter ?_ (F.args_dict_iter_1 _))
  unfold Builtin.«dict.__iter__» Builtin.Dict.dictSlotNone
  refine wpAny_bind (wpAny_bind (wpAny_notOrdered_dict hT (wpAny_pure (a := Value.ref d) ?_)))
  show wpAny _ _ (Builtin.Dict.showsAll d >>= _) _ _ s
  unfold Builtin.Dict.showsAll
  rw [hd]
  refine wpAny_bind (wpAny_pure (wpAny_bind (wpAny_dictEntries ho hdat (wpAny_bind (wpAny_dictEpoch ho hdat (wpAny_bind (wpAny_newObj_type (wpAny_pure ⟨_, rfl, "dict_keyiterator", _, ⟨_, Heap.get?_push_size _ rfl, rfl⟩, F.slot_dict_keyiterator_next.lookup, ?_⟩))))))))
  exact hQ

/-- the next key, or the end -/
theorem next_raw {Q : Option Value → Shared → Prop} (hh : A.handled = none) (hit : s.heap.IsKeyIter it d i es.size ep) (hm : DRaw s.heap d es ep)
    (hitem : ∀ e h', es[i]? = some e → h'.IsKeyIter it d (i + 1) es.size ep → Heap.SameBut it s.heap h' → Q (some e.key) { s with heap := h' })
    (hend : ∀ h', es[i]? = none → Heap.ExtBut it s.heap h' → Q none { s with heap := h' }) : wpAny (model prog w) A (pyNext (.ref it)) Q E s := by
  obtain ⟨o, ho, hc, hd⟩ := id hit
  obtain ⟨od, hod, hcd, hdd⟩ := id hm
  have tn : ∀ {A : Around} {E : Value → Shared → Prop} {P : String → Shared → Prop}, P "dict_keyiterator" s → wpAny (model prog w) A (typeNameOfWhole (.ref it)) P E s := fun h => wpAny_typeNameOfWhole_keyiter hit.typeIs h
  unfold pyNext
  refine wpAny_bind (wpAny_attempt (wpAny_callSpecial?_slot (name := Str.ofString "__next__") hit.typeIs F.slot_dict_keyiterator_next
    (wpAny_call_entry F.slot_dict_keyiterator_next hit.typeIs F.entry_dict_keyiterator_next ?_ (F.args_dict_keyiterator_next_1 _))))
  refine wpAny_bind (wpAny_pure (wpAny_bind (wpAny_bind ?_)))
  first | refine wpAny_bind (tn (wpAny_pure ?_)) | refine wpAny_bind (wpAny_typeNameOf_keyiter hit.typeIs (wpAny_pure ?_))
  refine wpAny_bind (wpAny_fieldsOf ho hd ?_)
  simp only [show Builtin.Dict_items.ownsTuple "dict_keyiterator" = false by decide, Bool.false_eq_true, if_false]
  show wpAny _ _ (if (Value.ref d == Value.none) = true then _ else _) _ _ s
  rw [if_neg (show ¬ ((Value.ref d == Value.none) = true) from Bool.false_ne_true)]
  refine wpAny_bind (wpAny_pure (wpAny_bind (wpAny_dictEntries hod hdd ?_)))
  rw [if_neg (by simp)]
  refine wpAny_bind (wpAny_pure (wpAny_bind (wpAny_dictEpoch hod hdd ?_)))
  rw [if_neg (by simp)]
  refine wpAny_pure ?_
  cases he : es[i]? with
  | some e =>
    simp only [show ¬ ((i : Int) < 0) from by omega, if_false, Int.toNat_natCast, he]
    refine wpAny_bind ?_
    first | refine wpAny_bind (tn (wpAny_pure ?_)) | refine wpAny_bind (wpAny_typeNameOf_keyiter hit.typeIs (wpAny_pure ?_))
    refine wpAny_bind (wpAny_isOneOf_keyiter hit.typeIs ?_)
    show wpAny _ _ (setField (.ref it) 1 (rawInt ((i : Int) + 1)) >>= _) _ _ s
    refine wpAny_bind (wpAny_setField ho hd (by simp) ?_)
    have hit' : (s.heap.update it (Obj.mapFields (·.setIfInBounds 1 (rawInt ((i : Int) + 1))))).IsKeyIter it d (i + 1) es.size ep :=
      ⟨_, Heap.get?_update_self _ ho (Obj.isFreed_of_fields (Obj.data_mapFields hd _)), (Obj.cls_mapFields ..).trans hc, by rw [Obj.data_mapFields hd]; simp [rawInt]⟩
    refine wpAny_bind (wpAny_holding (wpAny_bind (wpAny_isOneOf_keyiter (s := { s with heap := s.heap.update it (Obj.mapFields (·.setIfInBounds 1 (rawInt ((i : Int) + 1)))) }) hit'.typeIs ?_)))
    show wpAny _ _ (pure e.key) _ _ _
    exact wpAny_pure (wpAny_pure ⟨_, rfl, wpAny_pure (hitem e _ he hit' (Heap.SameBut.update ..))⟩)
  | none =>
    simp only [show ¬ ((i : Int) < 0) from by omega, if_false, Int.toNat_natCast, he]
    refine wpAny_bind ?_
    first | refine wpAny_bind (tn (wpAny_pure ?_)) | refine wpAny_bind (wpAny_typeNameOf_keyiter hit.typeIs (wpAny_pure ?_))
    show wpAny _ _ (setField (.ref it) 0 .none >>= _) _ _ s
    refine wpAny_bind (wpAny_setField ho hd (by simp) ?_)
    show wpAny _ _ (newExc (.type "StopIteration") [] >>= _) _ _ _
    refine wpAny_bind ?_
    simp only [newExc, newTuple]
    refine wpAny_bind (wpAny_newObj_type ?_ (by size_fits))
    refine wpAny_bind (m := firstArgMember _ _) (wpAny_of_eq (a := Value.none) (by first | rfl | (simp only [firstArgMember]; rfl)) ?_)
    refine wpAny_newObj_type ?_ (by size_fits)
    simp only [raiseNew]
    refine wpAny_bind (wpAny_handled ?_)
    rw [show A.in1.handled = none from hh]
    refine wpAny_bind (wpAny_pure (wpAny_throw ?_))
    refine wpAny_bind (wpAny_isInstance (T := "StopIteration") (b := true) ⟨_, Heap.get?_push_size _ rfl, rfl⟩ isSubtype_stop ?_)
    exact wpAny_pure (hend _ he (((Heap.SameBut.update ..).extBut.push _).push _))

theorem walksRaw (hh : A.handled = none) (hne : d ≠ it) :
    Walks prog w A it [it, d] [it] es.size (fun k v => ∃ e, es[k]? = some e ∧ v = e.key) (fun k h => h.IsKeyIter it d k es.size ep ∧ DRaw h d es ep) where
  sub := fun b hb => by simp at hb; simp [hb]
  frame := fun _ _ _ st hk => ⟨st.1.at fun o e => hk it (by simp) o e, let ⟨o, ho, r⟩ := st.2; ⟨o, hk d (by simp) o ho, r⟩⟩
  item := fun k s Q E hi st hQ => by
    refine next_raw hh st.1 st.2 (fun e h' he hit hs => hQ e.key h' s.toks ⟨e, he, rfl⟩ ⟨hit, ?_⟩ fun b o hb e => hs.extBut b o (fun h => hb (by simp [h])) e) fun h' he _ => ?_
    · obtain ⟨o, ho, r⟩ := st.2; exact ⟨o, hs.extBut _ o hne ho, r⟩
    · rw [Array.getElem?_eq_getElem hi] at he; cases he
  done := fun s Q E st hQ => by
    refine next_raw hh st.1 st.2 (fun e h' he _ _ => ?_) fun h' _ hx => hQ h' s.toks fun b o hb e => hx b o (fun h => hb (by simp [h])) e
    rw [Array.getElem?_eq_none (Nat.le_refl _)] at he; cases he
  self := fun _ _ _ _ st hQ => wpAny_pyIter_keyiter st.1 hQ

/-- the keys of a dict keyed by nodes -/
theorem RawN.raw {C : Nds} {h : Heap} {xs : List (Nat × Value)} (x : RawN prog w C h d xs) : ∃ es ep, DRaw h d es ep ∧ es.size = xs.length ∧ ∀ (k : Nat) (e : DictEntry), es[k]? = some e → ∃ j, (xs.map (·.1))[k]? = some j ∧ NV C j e.key := by
  obtain ⟨o, ho, es, ep, hx, hd, hnd, h1, h2⟩ := x
  refine ⟨es, ep, ⟨o, ho, hx, hd⟩, ?_, ?_⟩
  · cases hk : C.kd with
    | true => have := (h1 hk).2.length; rw [List.length_map] at this; simpa using this
    | false => have := congrArg List.length (h2 hk); rw [List.length_map] at this; simpa using this
  · intro k e he
    cases hk : C.kd with
    | true =>
      have hl := (h1 hk).2.length
      rw [List.length_map] at hl
      have hke : k < es.size := (Array.getElem?_eq_some_iff.mp he).1
      have hkx : k < xs.length := by rw [← hl]; simpa using hke
      have hq := (h1 hk).2.get? (i := k) (e := e) (k := (xs[k].1 : Int)) (v := xs[k].2) (by rw [Array.getElem?_toList]; exact he) (by rw [List.getElem?_map, List.getElem?_eq_getElem hkx]; rfl)
      refine ⟨xs[k].1, by rw [List.getElem?_map, List.getElem?_eq_getElem hkx]; rfl, fun _ => Value.isInt_shape hq.1, fun q => by rw [hk] at q; cases q⟩
    | false =>
      have hke : es.toList[k]? = some e := by rw [Array.getElem?_toList]; exact he
      rw [h2 hk, List.getElem?_map] at hke
      obtain ⟨y, hy, hye⟩ := Option.map_eq_some_iff.mp hke
      refine ⟨y.1, by rw [List.getElem?_map, hy]; rfl, fun q => by (rw [hk] at q; cases q), fun _ => ?_⟩
      rw [← hye]; rfl
end
end Mine

end PartJ6l
section PartJ6m
open PySem PySem.W PyProof.Rows PySem.Spec PySem.SeqAt
set_option maxRecDepth 100000
set_option maxHeartbeats 1000000
set_option linter.unusedVariables false
namespace Mine

/-- a node as data -/
def ndData (kd : Bool) (i : Nat) : PyData := if kd then .int (i : Int) else .tuple [.int (i : Int), .str (Str.ofString "n")]

theorem nd_canLay (kd : Bool) : ∀ js : List Nat, PyData.canLayAll0 (js.map (ndData kd)) = true
  | [] => by simp [PyData.canLayAll0]
  | j :: r => by
    cases kd
    · simp only [List.map_cons, ndData, PyData.canLayAll0, PyData.canLay0, Bool.false_eq_true, if_false]
      rw [Bool.and_eq_true]
      exact ⟨by decide +kernel, nd_canLay _ r⟩
    · simp only [List.map_cons, ndData, PyData.canLayAll0, PyData.canLay0, if_true]
      rw [Bool.and_eq_true]
      exact ⟨rfl, nd_canLay _ r⟩
theorem nd_depth (kd : Bool) : ∀ js : List Nat, PyData.depthAll (js.map (ndData kd)) ≤ 4
  | [] => by simp [PyData.depthAll]
  | j :: r => by
    have ih := nd_depth kd r
    simp only [List.map_cons, PyData.depthAll]
    cases kd <;> simp [ndData, PyData.depthAll, PyData.depth] at ih ⊢ <;> omega
theorem nd_shaped (kd : Bool) (js : List Nat) : shaped (.list (js.map (ndData kd))) = true := by
  have h1 := nd_depth kd js
  show (PyData.canLay0 (.list (js.map (ndData kd))) && decide (PyData.depth (.list (js.map (ndData kd))) ≤ 64)) = true
  rw [Bool.and_eq_true]
  exact ⟨by simp only [PyData.canLay0]; exact nd_canLay kd js, decide_eq_true (by simp only [PyData.depth]; omega)⟩
theorem nd_noMix (kd : Bool) : ∀ js : List Nat, noMixAll (js.map (ndData kd)) (js.map (ndData kd)) = true
  | [] => by simp [noMixAll]
  | j :: r => by
    have ih := nd_noMix kd r
    simp only [List.map_cons, noMixAll, ih, Bool.and_true]
    cases kd <;> simp [ndData, noMix, noMixAll]
theorem nd_same (kd : Bool) : ∀ js : List Nat, PySem.Spec.sameAll (js.map (ndData kd)) (js.map (ndData kd)) = true
  | [] => by simp [PySem.Spec.sameAll]
  | j :: r => by
    have ih := nd_same kd r
    simp only [List.map_cons, PySem.Spec.sameAll, ih, Bool.and_true]
    cases kd <;> simp [ndData, PySem.Spec.same, PySem.Spec.sameAll]

section
variable {prog : Program} {w : World} {A : Around} {E : Value → Shared → Prop} {s s₀ : Shared} {fT fD : Addr}
variable {g₀ base base₀ : Heap} {ex ex₀ : Addr → Prop} {os : OsState} {L : Addr} {m m₀ cm cm₀ : Str → Option Value} {a : Addr} {cd : Value}
variable {C : Nds} {n : Nat} {M : List Int} {lN lM dL dO : Addr} {vN vM : List Value} {p : Int} {la oa : Nat → Addr} {c : Nat}

theorem nd_reads {h : Heap} {vs : List Value} {js : List Nat} (hv : NVs C js vs) (hn : ∀ j ∈ js, NodeOk prog w C h j) : ReadsAll h vs (js.map (ndData C.kd)) [] := by
  induction hv with
  | nil => exact .nil
  | @cons i v js vs hv _ ih =>
    have ih := ih fun j hj => hn j (List.mem_cons_of_mem _ hj)
    have h1 : Reads h v (ndData C.kd i) [] := by
      cases hk : C.kd with
      | true =>
        obtain ⟨t, rfl⟩ := hv.1 hk
        exact .int _ _
      | false =>
        rw [hv.2 hk]
        obtain ⟨o, items, k, ho, hc, hd, hi⟩ := hn i (.head _) hk
        refine .tuple ho hc hd ?_
        unfold tkey at hi
        cases hit : items.toList with
        | nil => rw [hit] at hi; cases hi
        | cons a r =>
          rw [hit] at hi
          cases hi with
          | cons q1 hi =>
            cases hi with
            | cons q2 hi =>
              cases hi
              obtain ⟨t, rfl⟩ := Value.isInt_shape q1
              obtain ⟨u, rfl⟩ := Value.isStrOf_shape q2
              exact ReadsAll.cons (as := []) (.int _ _) (ReadsAll.cons (as := []) (.str _ _) .nil)
    have := ReadsAll.cons h1 ih
    simpa using this

theorem ne_nodes {l1 l2 : Addr} {vs us : List Value} {js : List Nat} {Q : Value → Shared → Prop} (hu : A.units + 64 < cLine) (h1 : s.heap.IsList l1 vs.toArray) (h2 : s.heap.IsList l2 us.toArray) (hv : NVs C js vs) (hu' : NVs C js us) (hn : ∀ j ∈ js, NodeOk prog w C s.heap j)
    (h : Q (.bool false) s) : wpAny (model prog w) A (compareOp .NotEq (.ref l1) (.ref l2)) Q E s := by
  obtain ⟨o1, ho1, hc1, n1, hd1⟩ := h1
  obtain ⟨o2, ho2, hc2, n2, hd2⟩ := h2
  refine ne_dataH_same (Reads.list ho1 hc1 hd1 (by simpa using nd_reads hv hn)) (Reads.list ho2 hc2 hd2 (by simpa using nd_reads hu' hn)) (nd_shaped C.kd js) (nd_shaped C.kd js) hu (by simp only [noMix]; exact nd_noMix C.kd js) ?_
  simp only [PySem.Spec.same]
  rw [nd_same]
  exact h

theorem sorted_range {js : List Nat} {n : Nat} (hn : js.Nodup) (h : ∀ i, i ∈ js ↔ i < n) {js' : List Nat} (hp : js'.Perm js) (hs : js'.Pairwise (· ≤ ·)) : js' = List.range n := by
  refine List.Perm.eq_of_pairwise (le := (· ≤ ·)) (fun a b _ _ h1 h2 => Nat.le_antisymm h1 h2) hs ?_ (hp.trans ?_)
  · exact List.Pairwise.imp Nat.le_of_lt List.pairwise_lt_range
  · exact (List.perm_ext_iff_of_nodup hn List.nodup_range).mpr fun x => by rw [h x, List.mem_range]

/-- sorted(e) by name -/
theorem evSorted {env : Env} {e : Expr} {p1 pos : Pos} {Q : Value → Shared → Prop} (T : TpL fT fD s.heap)
    (h : wpAny (model prog w) A (eval e env) (fun v s₁ => wpAny (model prog w) A (call (.builtin "sorted") [v]) Q E s₁) E s)
    (hk : env.scope.kind = .function := by rfl) (hx : env.kindOf (Str.ofString "sorted") = some .globalImplicit := by rfl)
    (hg : env.globals = mainGlobals := by rfl) (hb : env.builtins = builtinsNs := by rfl)
    (he : eval (.Call (.Name (Str.ofString "sorted") p1) [e] [] pos) env = (do callWith pos (← eval (.Name (Str.ofString "sorted") p1) env) [] (backTo pos (starEach [e] env)) (backToKw pos (keywordEach [] env))) := by rfl)
    (he' : starEach [e] env = (false, eval e env) :: starEach [] env := by rfl) :
    wpAny (model prog w) A (eval (.Call (.Name (Str.ofString "sorted") p1) [e] [] pos) env) Q E s :=
  Call_ (ldSorted T (callWith_builtin1 (args_cons (wpAny_mono h (fun v s₁ h₁ => args_nil h₁) fun _ _ e => e) he') he') hk hx hg hb) he

/-- if sorted([x for x in told]) != nodes -/
theorem keysStmt {dT : Addr} {σ : St} {gs : Nat → Addr} {Q : Flow → Shared → Prop} (T : TpL fT fD g₀) (hh : A.handled = none) (hu : A.units + 64 < cLine)
    (x : Lx g₀ base ex os L m cm s) (fx : Facts prog w C n M lN lM vN vM s.heap) (hc : Cm lN lM dL dO p cm) (told : Told prog w C n M dT σ gs s.heap) (hsys : (dT == sysModules) = false) (hT : m (Str.ofString "told") = some (.ref dT))
    (hall : ∀ i, i < n → ∃ j, σ.F i = some j)
    (h : ∀ s', Lx g₀ base ex os L m cm s' → KeepD s s' → wpAny (model prog w) A (execs (lBody.drop 8) (lEnv L a cd)) Q E s') :
    wpAny (model prog w) A (execs (lBody.drop 7) (lEnv L a cd)) Q E s := by
  have hTp := T.mono x.F.keep
  obtain ⟨xs, rT, hval, hlt⟩ := told.rT
  have hkeys : ∀ i, i ∈ xs.map (·.1) ↔ i < n := by
    intro i
    constructor
    · intro hm
      obtain ⟨y, hy, rfl⟩ := List.mem_map.mp hm
      obtain ⟨u, hu'⟩ := valueAt_mem (xs := xs) (i := y.1) (v := y.2) hy
      rw [hval] at hu'
      cases e : σ.F y.1 with
      | none => rw [e] at hu'; cases hu'
      | some j => exact (hlt _ _ e).1
    · intro hi
      obtain ⟨j, hj⟩ := hall i hi
      have hv := hval i
      rw [hj] at hv
      unfold valueAt at hv
      cases e : xs.find? fun kv => decide (kv.1 = i) with
      | none => rw [e] at hv; cases hv
      | some y =>
        have h1 := List.find?_some e
        have h2 := List.mem_of_find?_eq_some e
        exact List.mem_map.mpr ⟨y, h2, of_decide_eq_true h1⟩
  have hlen : xs.length ≤ 12 := by
    have := bnd_len rT.nodup (n := n) (fun y hy => (hkeys y).mp hy)
    rw [List.length_map] at this
    have := fx.n12
    omega
  obtain ⟨es, ep, hraw, hsz, hent⟩ := rT.raw
  refine wpAny_execs_cons (wpAny_If (wpAny_isTrue_Compare1 (evSorted hTp (ListComp_val (cl := []) (closureFor_none (by decide)) (by decide) rfl (by decide) rfl (x.ld hT (iter_raw hsys hraw ?_))))))
  have x₁ : Lx g₀ base ex os L m cm { s with heap := s.heap.push { cls := .type "dict_keyiterator", data := .fields #[.ref dT, .int 0 0, .int es.size 0, .int ep 0] } } := x.grow (tk := s.toks) (dr := s.drawn) fun b o e => Heap.get?_push_of_some _ e
  have up : Sub s.heap (s.heap.push { cls := .type "dict_keyiterator", data := .fields #[.ref dT, .int 0 0, .int es.size 0, .int ep 0] }) := fun b o e => Heap.get?_push_of_some _ e
  have hit : (s.heap.push { cls := .type "dict_keyiterator", data := .fields #[.ref dT, .int 0 0, .int es.size 0, .int ep 0] }).IsKeyIter s.heap.objs.size dT 0 es.size ep := ⟨_, Heap.get?_push_size _ rfl, rfl, rfl⟩
  have hit0 : s.heap.get? s.heap.objs.size = none := Heap.get?_none_of_le (Nat.le_refl _)
  have hitlt : s.heap.objs.size < (s.heap.push { cls := .type "dict_keyiterator", data := .fields #[.ref dT, .int 0 0, .int es.size 0, .int ep 0] }).objs.size := by rw [Heap.size_push]; exact Nat.lt_succ_self _
  have hdT : dT < s.heap.objs.size := by obtain ⟨o, ho, _⟩ := hraw; exact Heap.lt_size ho
  generalize s.heap.push { cls := .type "dict_keyiterator", data := .fields #[.ref dT, .int 0 0, .int es.size 0, .int ep 0] } = H at x₁ up hit hitlt ⊢
  have hne : dT ≠ s.heap.objs.size := Nat.ne_of_lt hdT
  generalize s.heap.objs.size = it at hit hit0 hitlt hdT hne ⊢
  have hraw' : DRaw H dT es ep := by obtain ⟨o, ho, r⟩ := hraw; exact ⟨o, up _ o ho, r⟩
  refine ⟨it, [it, dT], [it], es.size, _, _, fun k us h => us.length = k ∧ ∀ (i : Nat) (v : Value), us[i]? = some v → ∃ j, (xs.map (·.1))[i]? = some j ∧ NV C j v, rfl, walksRaw hh hne, by omega, ⟨hit, hraw'⟩, ?_,
    ⟨⟨rfl, fun i v e => by simp at e⟩, fun k us h h' hJ _ => hJ, ?_⟩, ?_⟩
  · intro b hb; simp at hb; rcases hb with rfl | rfl
    · exact hitlt
    · exact Nat.lt_trans hdT hitlt
  · rintro k v us s₃ m₃ E' ⟨e, he, rfl⟩ ⟨hl, hu'⟩ hn₃ hm₃ hk₃ hg₃ ho₃
    refine wpAny_tests_nil ⟨KeepD.refl _, ?_⟩
    rw [if_pos rfl]
    refine ldCl (mm := m₃) hn₃ hm₃ ⟨KeepD.refl _, by simp [hl], fun i v hv => ?_⟩
    rcases Nat.lt_trichotomy i us.length with q | q | q
    · rw [List.getElem?_append_left q] at hv; exact hu' i v hv
    · rw [List.getElem?_append_right (Nat.le_of_eq q.symm), q, Nat.sub_self] at hv
      simp at hv; subst hv
      rw [q, hl]; exact hent k e he
    · rw [List.getElem?_eq_none (by simp; omega)] at hv; cases hv
  rintro D h₂ tk₂ dr₂ us c hD hl hle ⟨hlen', hus⟩ hk₂
  have k₂ : Sub s.heap h₂ := fun b o e => hk₂ b o (fun q => by simp at q; rw [q, hit0] at e; cases e) (up b o e)
  have x₂ : Lx g₀ base ex os L m cm { s with heap := h₂, toks := tk₂, drawn := dr₂ } := x.grow k₂
  have fx₂ := fx.seq (Sub.seq k₂)
  have hnv : NVs C (xs.map (·.1)) us := nvs_pointwise (by rw [List.length_map, hlen', hsz]) fun k j v h1 h2 => by
    obtain ⟨j', h3, h4⟩ := hus k v h2
    rw [h1] at h3; cases h3; exact h4
  refine sorted_list_nodes (s := { s with heap := h₂, toks := tk₂, drawn := dr₂ }) hl.isList hnv (fun j hj => fx₂.ok j ((hkeys j).mp hj)) (by omega) fun D' vs' js' h₃ tk₃ d₃ hv' hp hs' hl' hDs hk₃ => ?_
  have hjs := sorted_range rT.nodup hkeys hp hs'
  subst hjs
  have k₃ : Sub s.heap h₃ := fun b o e => hk₃ b o (k₂ b o e)
  have x₃ : Lx g₀ base ex os L m cm { s with heap := h₃, toks := tk₃, drawn := d₃ } := x.grow k₃
  have fx₃ := fx.seq (Sub.seq k₃)
  refine x₃.ldc (c := L + 2) hc.nodes (ne_nodes hu hl' fx₃.nodes hv' fx₃.nvs (fun j hj => fx₃.ok j (List.mem_range.mp hj)) (wpAny_truthy_bool ?_))
  rw [if_neg Bool.false_ne_true]
  exact wpAny_execs_nil (h _ x₃ ⟨h₃, tk₃, d₃, rfl, k₃⟩)
end
end Mine

end PartJ6m
section PartJ6n
open PySem PySem.W PyProof.Rows PySem.Spec PySem.SeqAt
set_option maxRecDepth 100000
set_option maxHeartbeats 1000000
set_option linter.unusedVariables false
namespace Mine

theorem itemsAny {prog prog' : Program} {w w' : World} {ks : List (Int ⊕ Str)} {vs : List Value} (h : ItemsAre (mixKind prog w) ks vs) : ItemsAre (mixKind prog' w') ks vs := by
  induction h with
  | nil => exact .nil
  | cons h1 _ ih => exact .cons h1 ih
theorem tkAny {prog prog' : Program} {w w' : World} {h : Heap} {ks : List (Int ⊕ Str)} {a : Addr} (x : IsTupleKey (mixKind prog w) h ks a) : IsTupleKey (mixKind prog' w') h ks a :=
  let ⟨o, items, n, ho, hc, hd, hi⟩ := x; ⟨o, items, n, ho, hc, hd, itemsAny hi⟩
theorem tk_inj {prog : Program} {w : World} {h : Heap} {i j : Nat} {a : Addr} (x : IsTupleKey (mixKind prog w) h (tkey i) a) (y : IsTupleKey (mixKind prog w) h (tkey j) a) : i = j := by
  obtain ⟨o, items, n, ho, hc, hd, hi⟩ := x
  obtain ⟨o', items', n', ho', hc', hd', hi'⟩ := y
  rw [ho] at ho'; cases ho'
  rw [hd] at hd'
  injection hd' with e1 e2
  subst e1
  exact tkey_inj (hi.inj hi')

section
variable {prog : Program} {w : World} {A : Around} {E : Value → Shared → Prop} {s : Shared} {C : Nds}

theorem nv_inj {h : Heap} {i j : Nat} {v : Value} (hi : NodeOk prog w C h i) (hj : NodeOk prog w C h j) (h1 : NV C i v) (h2 : NV C j v) : i = j := by
  cases hk : C.kd with
  | true =>
    obtain ⟨t, e1⟩ := h1.1 hk
    obtain ⟨u, e2⟩ := h2.1 hk
    rw [e1] at e2
    injection e2 with e3 _
    exact Int.ofNat.inj e3
  | false =>
    have e1 := h1.2 hk
    have e2 := h2.2 hk
    rw [e1] at e2
    injection e2 with e3
    have hj' := hj hk
    rw [← e3] at hj'
    exact tk_inj (hi hk) hj'

theorem eqAt_nodes {i j : Nat} {y v : Value} (hu : A.units + 1 < cLine) (hi : NodeOk prog w C s.heap i) (hj : NodeOk prog w C s.heap j) (h1 : NV C i y) (h2 : NV C j v) : EqAt A s y v (decide (i = j)) := by
  cases hk : C.kd with
  | true =>
    obtain ⟨t, rfl⟩ := h1.1 hk
    obtain ⟨u, rfl⟩ := h2.1 hk
    intro prog' w' E Q hq
    refine wpAny_eqBool_int ?_
    have e : ((i : Int) == (j : Int)) = decide (i = j) := by
      by_cases q : i = j
      · subst q; simp
      · rw [decide_eq_false q]; simp; omega
    rw [e]; exact hq
  | false =>
    obtain rfl := h1.2 hk
    obtain rfl := h2.2 hk
    have t1 := hi hk
    have t2 := hj hk
    by_cases q : i = j
    · subst q
      rw [decide_eq_true rfl]
      exact EqAt.same _
    · rw [decide_eq_false q]
      refine EqAt.of_refs (fun e => q (tk_inj t1 (e ▸ t2))) fun prog' w' E Q hq => ?_
      have t1' := tkAny (prog' := prog') (w' := w') t1
      have t2' := tkAny (prog' := prog') (w' := w') t2
      refine wpAny_richCompare_same_room t1'.typeIs t2'.typeIs F.slot_tuple_eq (wpAny_call_entry F.slot_tuple_eq t1'.typeIs F.entry_tuple_eq (tuple_eq_tree t1' t2' ⟨_, rfl, (fun e => nomatch e), ?_⟩) (F.args_tuple_eq_2 _ _)) (by omega)
      rw [decide_eq_false fun e => q (tkey_inj e)]
      exact hq

open Classical in
theorem notIn_nodes {l : Addr} {vs : List Value} {js : List Nat} {j : Nat} {v : Value} {Q : Value → Shared → Prop} (hu : A.units + 2 < cLine) (hl : s.heap.IsList l vs.toArray) (hv : NVs C js vs) (hn : ∀ i ∈ js, NodeOk prog w C s.heap i) (hj : NodeOk prog w C s.heap j) (hx : NV C j v)
    (h : Q (.bool (decide (j ∉ js))) s) : wpAny (model prog w) A (compareOp .NotIn v (.ref l)) Q E s := by
  refine notIn_listAt (fun y => decide (NV C j y)) hl (fun y hy => ?_) ?_
  · obtain ⟨k, hk⟩ := List.mem_iff_getElem?.mp (show y ∈ vs by simpa using hy)
    obtain ⟨i, hi, hnv⟩ := hv.at' hk
    have hi' := hn i (List.mem_of_getElem? hi)
    have e : decide (NV C j y) = decide (i = j) := by
      by_cases q : i = j
      · subst q; rw [decide_eq_true hnv, decide_eq_true rfl]
      · rw [decide_eq_false q, decide_eq_false fun h => q (nv_inj hi' hj hnv h)]
    rw [e]
    exact eqAt_nodes (show A.units + 1 + 1 < cLine from by omega) hi' hj hnv hx
  · have e : (!(vs.toArray.any fun y => decide (NV C j y))) = decide (j ∉ js) := by
      by_cases q : j ∈ js
      · rw [decide_eq_false (not_not_intro q)]
        obtain ⟨k, hk⟩ := List.mem_iff_getElem?.mp q
        obtain ⟨y, hy, hnv⟩ := hv.at hk
        have : (vs.toArray.any fun y => decide (NV C j y)) = true := by
          rw [List.any_toArray, List.any_eq_true]
          exact ⟨y, List.mem_of_getElem? hy, decide_eq_true hnv⟩
        rw [this]; rfl
      · rw [decide_eq_true q]
        have : (vs.toArray.any fun y => decide (NV C j y)) = false := by
          rw [List.any_toArray, List.any_eq_false]
          intro y hy hd
          obtain ⟨k, hk⟩ := List.mem_iff_getElem?.mp hy
          obtain ⟨i, hi, hnv⟩ := hv.at' hk
          have hij := nv_inj (hn i (List.mem_of_getElem? hi)) hj hnv (of_decide_eq_true hd)
          exact q (hij ▸ List.mem_of_getElem? hi)
        rw [this]; rfl
    rw [e]; exact h

/-- a list added to a list -/
theorem add_two {l b : Addr} {vs ws : List Value} {Q : Value → Shared → Prop} (hl : s.heap.IsList l vs.toArray) (hb : s.heap.IsList b ws.toArray) (hz : vs.length + ws.length ≤ 65536)
    (h : ∀ h' D c, IsL h' D (vs ++ ws).toArray c → s.heap.get? D = none → (∀ b o, s.heap.get? b = some o → h'.get? b = some o) → Q (.ref D) { s with heap := h' }) : wpAny (model prog w) A (binaryOp .Add (.ref l) (.ref b)) Q E s := by
  obtain ⟨⟨cls, dd, data, sl⟩, ho, hc, n, hd⟩ := id hl
  obtain ⟨⟨cls2, dd2, data2, sl2⟩, ho2, hc2, n2, hd2⟩ := id hb
  simp only at hc hd hc2 hd2
  subst hc hd hc2 hd2
  refine concat_meets ⟨_, ho, rfl⟩ ⟨_, ho2, rfl⟩ noFill_list_add seq_list_add F.slot_list_add F.entry_list_add (F.args_list_add_2 _ _) (list_addW l b vs.toArray ws.toArray n n2 dd dd2 sl sl2 (by simp only [List.size_toArray]; rw [sizeLine_eq]; omega)) ⟨ho, ho2, ?_⟩
  refine h _ _ 0 ?_ (Heap.get?_none_of_le (Nat.le_refl _)) fun b o e => Heap.get?_push_of_some _ e
  have e : vs.toArray ++ ws.toArray = (vs ++ ws).toArray := by simp
  rw [← e]
  exact Heap.get?_push_size _ rfl

/-- set(list) where the numbers come out of a pool -/
theorem call_set_pool {l : Addr} {items : Array Value} {ns pool : List Int} {Q : Value → Shared → Prop} (hh : A.handled = none) (hl : s.heap.IsList l items) (hi : IntsAre items.toList ns) (hp : ∀ x ∈ ns, x ∈ pool) (hz : pool.length ≤ 62)
    (h : ∀ (h' : Heap) (tk : Nat), SetI w h' s.heap.objs.size (unionI [] ns) → (∀ b o, s.heap.get? b = some o → h'.get? b = some o) → Q (.ref s.heap.objs.size) { s with heap := h', toks := tk }) :
    wpAny (model prog w) A (call (.type "set") [.ref l]) Q E s := by
  have hlen : items.size = ns.length := by have := IntsAre.length hi; simpa using this
  have hb : ∀ i, (unionI [] (ns.take i)).length ≤ 62 := fun i => by
    refine Nat.le_trans ((unionI_nodup List.nodup_nil).length_le_of_subset fun x hx => ?_) hz
    rcases mem_unionI.mp hx with q | q
    · cases q
    · exact hp x (List.mem_of_mem_take q)
  refine call_set_of hh hl (fun i h => SetI w h s.heap.objs.size (unionI [] (ns.take i))) (fun h' hg => SetI.new hg) (fun i h h' x e => x.at e) (fun i v s' hv hJ hk E' Q' hq => ?_) fun h' tk hJ hk => ?_
  · have hlt : i < items.size := (Array.getElem?_eq_some_iff.mp hv).1
    have hni : ns[i]? = some ns[i] := List.getElem?_eq_getElem (by omega)
    obtain ⟨t, e⟩ := hi.get i _ hni
    rw [Array.getElem?_toList, hv] at e
    cases e
    unfold setAdd
    refine wpAny_holding (wpAny_bind ((intKind prog w).pyHash (k := ns[i]) (intKind_is _ _ _ _) ?_))
    obtain ⟨es, tb, x, hI⟩ := hJ
    have hsz := hI.size
    have := hb i
    refine add_I (s := { s' with toks := s'.toks + 1 }) x hI (by omega) fun b h' es' t' x' hI' hs' => hq b h' _ ⟨es', t', x', ?_⟩ hs'
    rw [List.take_add_one, hni]
    show SetIt w es' t' (List.foldl ins [] (_ ++ _))
    rw [List.foldl_append]
    exact hI'
  · rw [hlen, List.take_length] at hJ
    exact h h' tk hJ hk

/-- an item of a dict of nodes, the key by any expression -/
theorem evDict {env : Env} {value slice : Expr} {pos : Pos} {Q : Value → Shared → Prop} (hu : A.units + 1 < cLine)
    (h : wpAny (model prog w) A (eval value env) (fun o s₁ => wpAny (model prog w) A (eval slice env) (fun i s₂ => ∃ d xs j v, o = .ref d ∧ RawN prog w C s₂.heap d xs ∧ (∀ x ∈ xs, NodeOk prog w C s₂.heap x.1) ∧ NodeOk prog w C s₂.heap j ∧ NV C j i ∧ valueAt xs j = some v ∧ ∀ tk, Q v { s₂ with toks := tk }) E s₁) E s)
    (hs : ∀ o i, subscripted slice false o i = operate [o, i] (getItem o i) := by intro _ _; with_unfolding_all rfl) :
    wpAny (model prog w) A (eval (.Subscript value slice pos) env) Q E s := by
  refine Subscript_ (wpAny_mono h (fun o s₁ h₁ => wpAny_mono h₁ (fun i s₂ h₂ => ?_) fun _ _ e => e) fun _ _ e => e)
  obtain ⟨d, xs, j, v, rfl, hr, hn, hj, hi, hv, hQ⟩ := h₂
  exact subEnd hr.typeIs slot_dict_getitem.lookup (hs _ _) (getItem_N hu hr hn hj hi hv hQ)
end
end Mine

end PartJ6n
section PartJ6o
open PySem PySem.W PyProof.Rows PySem.Spec PySem.SeqAt
set_option maxRecDepth 100000
set_option maxHeartbeats 1000000
set_option linter.unusedVariables false
namespace Mine

inductive Reach (R : Nat → List Nat) (i : Nat) : Nat → Prop
  | refl : Reach R i i
  | step {j k : Nat} : Reach R i j → k ∈ R j → Reach R i k

def dc (n : Nat) (come : List Nat) : Nat := (List.range n).countP fun z => decide (z ∈ come)

theorem countP_strict {p q : Nat → Bool} : ∀ {l : List Nat}, (∀ z, p z = true → q z = true) → (∃ z ∈ l, q z = true ∧ p z = false) → l.countP p + 1 ≤ l.countP q
  | [], _, ⟨z, hz, _⟩ => by cases hz
  | a :: r, h, ⟨z, hz, hq, hp⟩ => by
    have mono : r.countP p ≤ r.countP q := List.countP_mono_left fun x _ hx => h x hx
    rw [List.countP_cons, List.countP_cons]
    rcases List.mem_cons.mp hz with rfl | hz
    · simp [hq, hp]; omega
    · have ih := countP_strict h ⟨z, hz, hq, hp⟩
      by_cases hpa : p a = true
      · simp [hpa, h a hpa]; omega
      · simp [hpa]; split <;> omega

structure ComeInv (R : Nat → List Nat) (n i : Nat) (come : List Nat) (k : Nat) : Prop where
  start : i ∈ come
  reach : ∀ j ∈ come, j < n ∧ Reach R i j
  done : ∀ t, t < k → ∀ j, come[t]? = some j → ∀ l ∈ R j, l ∈ come
  le : k ≤ come.length
  len : come.length ≤ 4 * dc n come

theorem dc_le (n : Nat) (come : List Nat) : dc n come ≤ n := by
  unfold dc
  have := List.countP_le_length (p := fun z => decide (z ∈ come)) (l := List.range n)
  rwa [List.length_range] at this

theorem ComeInv.init {R : Nat → List Nat} {n i : Nat} (hi : i < n) : ComeInv R n i [i] 0 := by
  refine ⟨.head _, fun j hj => ?_, fun t ht => absurd ht (Nat.not_lt_zero _), Nat.zero_le _, ?_⟩
  · rw [List.mem_singleton] at hj; subst hj; exact ⟨hi, .refl⟩
  · have : 1 ≤ dc n [i] := by
      unfold dc
      rw [Nat.one_le_iff_ne_zero, ← Nat.pos_iff_ne_zero, List.countP_pos_iff]
      exact ⟨i, List.mem_range.mpr hi, by simp⟩
    simp; omega

theorem ComeInv.next {R : Nat → List Nat} {n i : Nat} (hR : ∀ j, j < n → ∀ l ∈ R j, l < n) {come : List Nat} {k : Nat} (x : ComeInv R n i come k) {j : Nat} (hj : come[k]? = some j) {new : List Nat} (hn : ∀ z, z ∈ new ↔ z ∈ R j ∧ z ∉ come) (hl : new.length ≤ 4) :
    ComeInv R n i (come ++ new) (k + 1) ∧ 5 * (n - dc n (come ++ new)) + ((come ++ new).length - (k + 1)) < 5 * (n - dc n come) + (come.length - k) := by
  have hk : k < come.length := (List.getElem?_eq_some_iff.mp hj).1
  have hjm := List.mem_of_getElem? hj
  obtain ⟨hjn, hjr⟩ := x.reach j hjm
  have mono : dc n come ≤ dc n (come ++ new) := List.countP_mono_left fun z _ hz => decide_eq_true (List.mem_append_left _ (of_decide_eq_true hz))
  have hle := dc_le n (come ++ new)
  have strict : new ≠ [] → dc n come + 1 ≤ dc n (come ++ new) := by
    intro hne
    obtain ⟨z, hz⟩ := List.exists_mem_of_ne_nil _ hne
    obtain ⟨h1, h2⟩ := (hn z).mp hz
    refine countP_strict (fun y hy => decide_eq_true (List.mem_append_left _ (of_decide_eq_true hy))) ⟨z, List.mem_range.mpr (hR j hjn z h1), decide_eq_true (List.mem_append_right _ hz), decide_eq_false h2⟩
  refine ⟨⟨List.mem_append_left _ x.start, fun l hl' => ?_, fun t ht l hl' q hq => ?_, by rw [List.length_append]; omega, ?_⟩, ?_⟩
  · rcases List.mem_append.mp hl' with q | q
    · exact x.reach l q
    · obtain ⟨h1, _⟩ := (hn l).mp q
      exact ⟨hR j hjn l h1, hjr.step h1⟩
  · have htl : t < come.length := by omega
    rw [List.getElem?_append_left htl] at hl'
    rcases Nat.lt_or_ge t k with h | h
    · exact List.mem_append_left _ (x.done t h l hl' q hq)
    · have : t = k := by omega
      subst this
      rw [hj] at hl'; cases hl'
      by_cases hc : q ∈ come
      · exact List.mem_append_left _ hc
      · exact List.mem_append_right _ ((hn q).mpr ⟨hq, hc⟩)
  · rw [List.length_append]
    have := x.len
    by_cases he : new = []
    · subst he; simp; simpa using this
    · have := strict he; omega
  · rw [List.length_append]
    by_cases he : new = []
    · subst he; simp; omega
    · have := strict he; omega

def lCheck : List Stmt := forIn? (lBody.getD 8 (.Pass default))
def lGrow : List Stmt := forIn? (lCheck.getD 2 (.Pass default))

structure W5 (prog : Program) (w : World) (C : Nds) (n : Nat) (M : List Int) (lN lM dL dO dT : Addr) (vN vM : List Value) (la oa : Nat → Addr) (σ : St) (gs : Nat → Addr) (h : Heap) : Prop where
  fx : Facts prog w C n M lN lM vN vM h
  fl : Filled prog w C n M dL dO n la oa h
  told : Told prog w C n M dT σ gs h

structure LocL (m : Str → Option Value) (dT : Addr) (xv : Value) : Prop where
  told : m (Str.ofString "told") = some (.ref dT)
  x : m (Str.ofString "x") = some xv

section
variable {prog : Program} {w : World} {A : Around} {E : Value → Shared → Prop} {s s₀ : Shared} {fT fD : Addr}
variable {g₀ base base₀ : Heap} {ex ex₀ : Addr → Prop} {os : OsState} {L : Addr} {m m₀ cm cm₀ : Str → Option Value} {a : Addr} {cd : Value}
variable {C : Nds} {n : Nat} {M : List Int} {lN lM dL dO dT : Addr} {vN vM : List Value} {p : Int} {la oa gs : Nat → Addr} {σ : St} {xv : Value}

theorem W5.keep (y : W5 prog w C n M lN lM dL dO dT vN vM la oa σ gs s₀.heap) (x₀ : Lx g₀ base₀ ex₀ os L m₀ cm₀ s₀) (hoL : ¬ Own L dL) (hoO : ¬ Own L dO) (hoT : ¬ Own L dT) {h' : Heap}
    (k : ∀ b o, ¬ Own L b → s₀.heap.get? b = some o → h'.get? b = some o) : W5 prog w C n M lN lM dL dO dT vN vM la oa σ gs h' := by
  have q : KeepSeq s₀.heap h' := fun b o its c ho hd => k b o (x₀.notOwnSeq ho hd) ho
  refine ⟨y.fx.seq q, ⟨y.fl.rL.at fun o e => k _ o hoL e, y.fl.rO.at fun o e => k _ o hoO e, fun j hj => ?_, fun j hj => ?_⟩, ⟨?_, fun j hj => ⟨(y.told.sets j hj).1.at fun o e => k _ o (fun hb => ?_) e, (y.told.sets j hj).2⟩⟩⟩
  · obtain ⟨vs, h1, h2⟩ := y.fl.lL j hj; exact ⟨vs, q.list h1, h2⟩
  · obtain ⟨vs, h1, h2⟩ := y.fl.lO j hj; exact ⟨vs, q.list h1, h2⟩
  · obtain ⟨xs, h1, h2⟩ := y.told.rT; exact ⟨xs, h1.at fun o e => k _ o hoT e, h2⟩
  · obtain ⟨o1, es, ep, t, ho1, hd1⟩ := (y.told.sets j hj).1.objSet
    obtain ⟨o2, ho2, hk⟩ := x₀.ownKind hb
    rw [ho1] at ho2; cases ho2
    rcases hk with ⟨_, _, r⟩ | ⟨_, r⟩ <;> rw [hd1] at r <;> cases r

theorem W5.mono {h h' : Heap} (y : W5 prog w C n M lN lM dL dO dT vN vM la oa σ gs h) (k : Sub h h') : W5 prog w C n M lN lM dL dO dT vN vM la oa σ gs h' := ⟨y.fx.seq (Sub.seq k), y.fl.mono k, y.told.mono k⟩

/-- one turn: come = come + sorted(set([..])); step = step + 1 -/
theorem grow_turn (T : TpL fT fD g₀) (hh : A.handled = none) (hu : A.units + 64 < cLine) (x : Lx g₀ base ex os L m cm s) (y : W5 prog w C n M lN lM dL dO dT vN vM la oa σ gs s.heap) (hc : Cm lN lM dL dO p cm) {come : List Nat} {k j : Nat} {lC : Addr} {vC : List Value} {t : Tok}
    (hcome : cm (Str.ofString "come") = some (.ref lC)) (hstep : m (Str.ofString "step") = some (.int (k : Int) t)) (hl : s.heap.IsList lC vC.toArray) (hv : NVs C come vC) (hlt : ∀ j ∈ come, j < n) (hj : come[k]? = some j) (hz : come.length ≤ 4096) {Q : Flow → Shared → Prop}
    (h : ∀ s' lC' vC' new t', Lx g₀ base ex os L (fun y => if y = Str.ofString "step" then some (.int ((k + 1 : Nat) : Int) t') else m y) (fun y => if y = Str.ofString "come" then some (.ref lC') else cm y) s' → s'.heap.IsList lC' (List.toArray vC') → NVs C (come ++ new) vC' →
      (∀ z, z ∈ new ↔ z ∈ leadOf M n j ∧ z ∉ come) → new.length ≤ 4 → Q .next s') :
    wpAny (model prog w) A (execs lGrow (lEnv L a cd)) Q E s := by
  classical
  have hTp := T.mono x.F.keep
  have hjn := hlt j (List.mem_of_getElem? hj)
  obtain ⟨jv, hjv, hnj⟩ := hv.at hj
  have hk : k < come.length := (List.getElem?_eq_some_iff.mp hj).1
  refine wpAny_execs_cons (wpAny_Assign_Name (wpAny_BinOp (x.ldc (c := L + 7) hcome (evSorted hTp ?_))))
  refine Call_ (ldSet hTp (PyProof.Rows.callWith_type1 (args_cons (ListComp_val (cl := [(Str.ofString "come", L + 7)]) rfl (by decide) rfl (by decide) rfl ?_))))
  refine evDict (C := C) (by omega) (x.ldc (c := L + 4) hc.leads (evItem (x.ldc (c := L + 7) hcome ⟨lC, rfl, x.ld hstep ⟨vC, k, t, jv, rfl, hl, by omega, hjv, ?_⟩⟩)))
  refine ⟨dL, _, j, .ref (la j), rfl, y.fl.rL, ndsRange y.fx, y.fx.ok j hjn, hnj, valueAt_range (f := fun i => Value.ref (la i)) hjn, fun tk => ?_⟩
  obtain ⟨ws, hws, hnw⟩ := y.fl.lL j hjn
  have hwl := hnw.length
  have hw4 := leadOf_len M n j
  refine wpAny_pyIter_list (s := { s with toks := tk }) hws ?_
  have up : Sub s.heap (s.heap.push { cls := .type "list_iterator", data := .fields #[.ref (la j), .int 0 0] }) := fun b o e => Heap.get?_push_of_some _ e
  have hit : (s.heap.push { cls := .type "list_iterator", data := .fields #[.ref (la j), .int 0 0] }).IsListIter s.heap.objs.size (la j) 0 := ⟨_, Heap.get?_push_size _ rfl, rfl, rfl⟩
  have hit0 : s.heap.get? s.heap.objs.size = none := Heap.get?_none_of_le (Nat.le_refl _)
  have hitlt : s.heap.objs.size < (s.heap.push { cls := .type "list_iterator", data := .fields #[.ref (la j), .int 0 0] }).objs.size := by rw [Heap.size_push]; exact Nat.lt_succ_self _
  have hll : la j < s.heap.objs.size := by obtain ⟨o, ho, _⟩ := hws; exact Heap.lt_size ho
  have hnew := x.new hit0
  dsimp only
  generalize s.heap.push { cls := .type "list_iterator", data := .fields #[.ref (la j), .int 0 0] } = H at up hit hitlt ⊢
  generalize s.heap.objs.size = it at hit hit0 hitlt hll hnew ⊢
  have W := Walks.list (prog := prog) (w := w) (A := A) hh it (la j) (Nat.ne_of_lt hll) ws.toArray
  refine ⟨it, [it, la j], [it], ws.toArray.size, _, _, fun c us _ => NVs C (((leadOf M n j).take c).filter fun z => decide (z ∉ come)) us, rfl, W, by simp; omega, ⟨hit, hws.at fun o e => up _ o e⟩, ?_, ⟨.nil, fun c us h h' hJ _ => hJ, ?_⟩, ?_⟩
  · intro b hb; simp at hb; rcases hb with rfl | rfl
    · exact hitlt
    · exact Nat.lt_trans hll hitlt
  · intro c v us s₃ m₃ E' hcv hJ hn₃ hm₃ hk₃ hg₃ ho₃
    have sub₃ : Sub s.heap s₃.heap := fun b o e => hk₃ b o (fun q => by simp at q; rw [q, hit0] at e; cases e) (up b o e)
    obtain ⟨z, hz', hnz⟩ := hnw.at' (k := c) (v := v) (by simpa using hcv)
    have hzn : z < n := leadOf_lt y.fx.n1 z (List.mem_of_getElem? hz')
    have fx₃ := y.fx.seq (Sub.seq sub₃)
    have hcell : s₃.heap.IsCell (L + 7) (some (.ref lC)) := by
      obtain ⟨o, ho, hd⟩ := x.isCell (c := L + 7) hcome
      exact ⟨o, sub₃ _ _ ho, hd⟩
    have htake : (leadOf M n j).take (c + 1) = (leadOf M n j).take c ++ [z] := by rw [List.take_add_one, hz']; rfl
    refine wpAny_tests_one (wpAny_isTrue_Compare1 (ldCl (mm := m₃) hn₃ hm₃ (ldCc hcell ?_)))
    refine notIn_nodes (by omega) ((Sub.seq sub₃).list hl) hv (fun i hi => fx₃.ok i (hlt i hi)) (fx₃.ok z hzn) hnz (wpAny_truthy_bool ⟨KeepD.refl _, ?_⟩)
    rw [htake, List.filter_append]
    by_cases hq : z ∉ come
    · rw [if_pos (decide_eq_true hq)]
      refine ldCl (mm := m₃) hn₃ hm₃ ⟨KeepD.refl _, ?_⟩
      rw [List.filter_cons, if_pos (decide_eq_true hq)]
      exact hJ.append (.cons hnz .nil)
    · rw [if_neg (by rw [decide_eq_false hq]; exact Bool.false_ne_true)]
      rw [List.filter_cons, if_neg (by rw [decide_eq_false hq]; exact Bool.false_ne_true)]
      simpa using hJ
  rintro D h₂ tk₂ dr₂ us c hD hlD hle hJ hk₂
  have sub₂ : Sub s.heap h₂ := fun b o e => hk₂ b o (fun q => by simp at q; rw [q, hit0] at e; cases e) (up b o e)
  have x₂ : Lx g₀ base ex os L m cm { s with heap := h₂, toks := tk₂, drawn := dr₂ } := x.grow sub₂
  have hJ' : NVs C ((leadOf M n j).filter fun z => decide (z ∉ come)) us := by
    have e : (leadOf M n j).take ws.toArray.size = leadOf M n j := by rw [List.size_toArray, ← hwl, List.take_length]
    rwa [e] at hJ
  have fx₂ := y.fx.seq (Sub.seq sub₂)
  have hfl : ((leadOf M n j).filter fun z => decide (z ∉ come)).length ≤ 4 := Nat.le_trans (List.length_filter_le _ _) hw4
  refine args_nil (call_set_nodes (s := { s with heap := h₂, toks := tk₂, drawn := dr₂ }) (by omega) hh hlD.isList (by simpa using hJ') (fun z hz' => fx₂.ok z (leadOf_lt y.fx.n1 z (List.mem_filter.mp hz').1)) hfl fun h₃ tk₃ hs₃ sub₃ => ?_)
  refine sorted_set_nodes (s := { s with heap := h₃, toks := tk₃, drawn := dr₂ }) hh hs₃ (fun z hz' => (fx₂.ok z (leadOf_lt y.fx.n1 z (List.mem_filter.mp hz').1)).mono sub₃) hfl fun D' vs' new h₄ tk₄ d₄ hv' hmem hnl hl' hDs sub₄ => ?_
  have sub₀₄ : Sub s.heap h₄ := fun b o e => sub₄ b o (sub₃ b o (sub₂ b o e))
  have hvl := hv.length
  have hvl' := hv'.length
  refine add_two (s := { s with heap := h₄, toks := tk₄, drawn := d₄ }) ((Sub.seq sub₀₄).list hl) hl' (by omega) fun h₅ D₅ c₅ hl₅ hD₅ sub₅ => ?_
  have x₅ : Lx g₀ base ex os L m cm { s with heap := h₅, toks := tk₄, drawn := d₄ } := x.grow fun b o e => sub₅ b o (sub₀₄ b o e)
  refine x₅.stoc (a := a) (cd := cd) fun s₆ x₆ hk₆ => ?_
  have hl₆ : s₆.heap.IsList D₅ (vC ++ vs').toArray := by
    obtain ⟨o, ho, hcl, q, hd⟩ := hl₅.isList
    exact ⟨o, hk₆ _ _ (x₅.notOwnSeq ho hd) ho, hcl, q, hd⟩
  -- step = step + 1
  refine wpAny_execs_cons (wpAny_Assign_Name ((EvI.add (EvI.name (EvV.loc (env := lEnv L a cd) x₆.F.ns hstep)) EvI.const).run fun tk₇ u₇ => ?_))
  have x₇ : Lx g₀ base ex os L m _ { s₆ with toks := tk₇ } := x₆.toks (dr := s₆.drawn)
  refine x₇.sto (a := a) (cd := cd) fun s₈ x₈ hk₈ => ?_
  have e8 : (k : Int) + 1 = ((k + 1 : Nat) : Int) := by push_cast; rfl
  rw [e8] at x₈
  refine wpAny_execs_nil (h s₈ D₅ (vC ++ vs') new u₇ x₈ ?_ (hv.append hv') (fun z => ?_) (Nat.le_trans hnl hfl))
  · obtain ⟨o, ho, hcl, q, hd⟩ := hl₆
    exact ⟨o, hk₈ _ _ (fun hb => x₇.notOwnSeq ho hd (.inl hb)) ho, hcl, q, hd⟩
  · rw [hmem, List.mem_filter]
    exact ⟨fun hz => ⟨hz.1, of_decide_eq_true hz.2⟩, fun hz => ⟨hz.1, decide_eq_true hz.2⟩⟩
end
end Mine

end PartJ6o
section PartJ6p
open PySem PySem.W PyProof.Rows PySem.Spec PySem.SeqAt
set_option maxRecDepth 100000
set_option maxHeartbeats 1000000
set_option linter.unusedVariables false
namespace Mine

section
variable {prog : Program} {w : World} {A : Around} {E : Value → Shared → Prop} {R : Result → Shared → Prop} {s : Shared} {env : Env}

theorem turn_two0 (elt t1 i1 t2 i2 : Expr) (scope : Scope) (pos : Pos) (it acc : Value) (env : Env) :
    compTurn (.ListComp elt [⟨t1, i1, [], 0⟩, ⟨t2, i2, [], 0⟩] scope pos) 0 it acc env = (standAt i1.pos >>= fun _ => pyNext it >>= fun r => match r with
      | none => pure (.done .next)
      | some v => letOwnedTupleGo t1 it v >>= fun _ => assign t1 env v >>= fun _ =>
        (eval i2 env >>= fun x => standAt i2.pos >>= fun _ => foldedSetIterable i2 env x >>= fun x => holding [x] (pyIter x) >>= fun j =>
          runOwn (.compStart (.ListComp elt [⟨t1, i1, [], 0⟩, ⟨t2, i2, [], 0⟩] scope pos) 1 j acc env) env >>= fun _ =>
          again (.compLoop (.ListComp elt [⟨t1, i1, [], 0⟩, ⟨t2, i2, [], 0⟩] scope pos) 0 it acc env))) := by rfl
theorem turn_two1 (elt t1 i1 t2 i2 : Expr) (scope : Scope) (pos : Pos) (it acc : Value) (env : Env) :
    compTurn (.ListComp elt [⟨t1, i1, [], 0⟩, ⟨t2, i2, [], 0⟩] scope pos) 1 it acc env = (standAt i2.pos >>= fun _ => pyNext it >>= fun r => match r with
      | none => pure (.done .next)
      | some v => letOwnedTupleGo t2 it v >>= fun _ => assign t2 env v >>= fun _ =>
        (eval elt env >>= fun x => call (.builtin "list.append") [acc, x] >>= fun _ => pure ()) >>= fun _ =>
          again (.compLoop (.ListComp elt [⟨t1, i1, [], 0⟩, ⟨t2, i2, [], 0⟩] scope pos) 1 it acc env)) := by rfl

theorem start_two {elt t1 i1 t2 i2 : Expr} {scope : Scope} {pos : Pos} {d : Nat} {it acc : Value} (hd : d = 0 ∨ d = 1)
    (h0 : codeAny (model prog w) A (.compLoop (.ListComp elt [⟨t1, i1, [], 0⟩, ⟨t2, i2, [], 0⟩] scope pos) d it acc env) R s)
    (h : wpAny (model prog w) A (pyIter it) (fun it' s' => codeAny (model prog w) A (.compLoop (.ListComp elt [⟨t1, i1, [], 0⟩, ⟨t2, i2, [], 0⟩] scope pos) d it' acc env) R s') (notedBy (model prog w) A env fun x s' => R (.error x) s') s) :
    codeAny (model prog w) A (.compStart (.ListComp elt [⟨t1, i1, [], 0⟩, ⟨t2, i2, [], 0⟩] scope pos) d it acc env) R s := by
  have go : ∀ p : Pos, wpAny (model prog w) A (standAt p >>= fun _ => (pyIter it >>= fun j => again (.compLoop (.ListComp elt [⟨t1, i1, [], 0⟩, ⟨t2, i2, [], 0⟩] scope pos) d j acc env)))
      (fun fin s' => match fin with | .done f => R (.ok f) s' | .again c' => c'.quiet = true ∧ codeAny (model prog w) A c' R s') (notedBy (model prog w) A env fun x s' => R (.error x) s') s := fun p =>
    wpAny_bind (wpAny_standAt (wpAny_bind (wpAny_mono h (fun j s' hj => wpAny_pure ⟨rfl, hj⟩) fun _ _ e => e)))
  refine codeAny_of_tree ?_
  show wpAny _ _ ((compStart (.ListComp elt [⟨t1, i1, [], 0⟩, ⟨t2, i2, [], 0⟩] scope pos) d it acc env).onRaise (fun x => do noteFrame x env; standAt theWindowsPlace)) _ _ s
  refine wpAny_notedAt ?_
  rcases hd with rfl | rfl
  · unfold compStart
    show wpAny _ _ (ask >>= _) _ _ s
    refine wpAny_bind (wpAny_askSetting (wpAny_ite ?_))
    split
    · first
        | exact wpAny_bind (wpAny_pure (wpAny_pure ⟨rfl, h0⟩))
        | exact wpAny_pure ⟨rfl, h0⟩
    · exact wpAny_bind (wpAny_rule (go _))
  · unfold compStart
    show wpAny _ _ (ask >>= _) _ _ s
    refine wpAny_bind (wpAny_askSetting (wpAny_ite ?_))
    split
    · first
        | exact wpAny_bind (wpAny_pure (wpAny_pure ⟨rfl, h0⟩))
        | exact wpAny_pure ⟨rfl, h0⟩
    · exact wpAny_bind (wpAny_rule (go _))

theorem inner_two {i1 i2 : Expr} {x1 x2 : Str} {p1 p2 p3 : Pos} {scope : Scope} {pos : Pos} {I2 l D : Addr} {us ws : List Value} {c₀ : Nat} {m₀ : Str → Option Value} (hh : A.handled = none)
    (hx : env.kindOf x2 = some .local) (hk : env.scope.kind = .function) (hd : (x2 == ("__debug__" : Str)) = false)
    (hit : s.heap.IsListIter I2 l 0) (hl : s.heap.IsList l ws.toArray) (hD : IsL s.heap D us.toArray c₀) (hn : s.heap.Ns env.locals m₀) (hz : us.length + ws.length ≤ 65536)
    (n1 : I2 ≠ l) (n2 : I2 ≠ D) (n3 : I2 ≠ env.locals) (n4 : l ≠ D) (n5 : l ≠ env.locals) (n6 : D ≠ env.locals)
    (hR : ∀ (h' : Heap) (tk : Nat) (m' : Str → Option Value) (c : Nat), IsL h' D (us ++ ws).toArray c → h'.Ns env.locals m' → (∀ b o, b ≠ I2 → b ≠ D → b ≠ env.locals → s.heap.get? b = some o → h'.get? b = some o) → R (.ok .next) { s with heap := h', toks := tk }) :
    codeAny (model prog w) A (.compStart (.ListComp (.Name x2 p3) [⟨.Name x1 p1, i1, [], 0⟩, ⟨.Name x2 p2, i2, [], 0⟩] scope pos) 1 (.ref I2) (.ref D) env) R s := by
  have loop : codeAny (model prog w) A (.compLoop (.ListComp (.Name x2 p3) [⟨.Name x1 p1, i1, [], 0⟩, ⟨.Name x2 p2, i2, [], 0⟩] scope pos) 1 (.ref I2) (.ref D) env) R s := by
    refine codeAny_loop rfl (fun q s' => ∃ (h' : Heap) (tk : Nat) (m' : Str → Option Value) (c k : Nat), s' = { s with heap := h', toks := tk } ∧ k ≤ ws.length ∧ h'.IsListIter I2 l k ∧ h'.IsList l ws.toArray ∧ IsL h' D (us ++ ws.take k).toArray c ∧ h'.Ns env.locals m' ∧
      (∀ b o, b ≠ I2 → b ≠ D → b ≠ env.locals → s.heap.get? b = some o → h'.get? b = some o) ∧ q = ws.length - k) ?_ ws.length ⟨s.heap, s.toks, m₀, c₀, 0, rfl, Nat.zero_le _, hit, hl, by simpa using hD, hn, fun b o _ _ _ e => e, rfl⟩
    rintro q s' ⟨h', tk, m', c, k, rfl, hk', hit, hl, hD, hn, hkp, rfl⟩
    show wpAny _ A ((compTurn (.ListComp (.Name x2 p3) [⟨.Name x1 p1, i1, [], 0⟩, ⟨.Name x2 p2, i2, [], 0⟩] scope pos) 1 (.ref I2) (.ref D) env).onRaise (fun x => do noteFrame x env; theTreesLotGoes x)) _ _ _
    refine wpAny_noted ?_
    rw [turn_two1]
    refine wpAny_bind (wpAny_standAt (wpAny_bind ?_))
    cases hw : ws[k]? with
    | none =>
      have hke : ws.length ≤ k := List.getElem?_eq_none_iff.mp hw
      refine wpAny_pyNext_list_end hh hit hl (by simp; omega) fun h₁ he => wpAny_pure ?_
      have e : k = ws.length := by omega
      rw [e, List.take_length] at hD
      exact hR h₁ tk m' c (he _ _ (Ne.symm n2) hD) (hn.extBut he (Ne.symm n3)) fun b o h1 h2 h3 q => he b o h1 (hkp b o h1 h2 h3 q)
    | some v =>
      have hke : k < ws.length := (List.getElem?_eq_some_iff.mp hw).1
      refine wpAny_pyNext_list_item hit hl (x := v) (by simpa using hw) fun h₁ hit₁ hs₁ => ?_
      refine wpAny_bind (wpAny_of_eq rfl (wpAny_bind ?_))
      refine wpAny_assign_Name (wpAny_storeName_local hx (hn.sameBut hs₁ (Ne.symm n3)) (fun h₂ hn₂ hs₂ => ?_) (by simp [hk]))
      refine wpAny_bind (wpAny_bind (wpAny_Name (wpAny_loadName_local hk hx hn₂ (if_pos rfl) ?_) hd))
      have hD₂ : IsL h₂ D (us ++ ws.take k).toArray c := hs₂.extBut _ _ n6 (hs₁.extBut _ _ (Ne.symm n2) hD)
      refine wpAny_bind (append_IsL hD₂ (by rw [List.length_append, List.length_take]; omega) fun h₃ c' hD₃ hs₃ => wpAny_pure (wpAny_pure ⟨rfl, ws.length - (k + 1), by omega, h₃, _, _, c', k + 1, rfl, hke, ?_, ?_, ?_, hn₂.sameBut hs₃ (Ne.symm n6), ?_, rfl⟩))
      · obtain ⟨o, ho, r⟩ := hit₁
        exact ⟨o, hs₃.extBut _ o n2 (hs₂.extBut _ o n3 ho), r⟩
      · exact ((hl.extBut hs₁.extBut (Ne.symm n1)).extBut hs₂.extBut n5).extBut hs₃.extBut n4
      · rw [List.take_add_one, hw, ← List.append_assoc]; exact hD₃
      · exact fun b o h1 h2 h3 q => hs₃.extBut b o h2 (hs₂.extBut b o h3 (hs₁.extBut b o h1 (hkp b o h1 h2 h3 q)))
  exact start_two (.inr rfl) loop (wpAny_pyIter_listiter hit loop)
end
end Mine

end PartJ6p
section PartJ6q
open PySem PySem.W PyProof.Rows PySem.Spec PySem.SeqAt
set_option maxRecDepth 100000
set_option maxHeartbeats 1000000
set_option linter.unusedVariables false
namespace Mine

section
variable {prog : Program} {w : World} {A : Around} {E : Value → Shared → Prop} {R : Result → Shared → Prop} {s : Shared} {env : Env}

/-- [n for one in .. for n in ..], both out of lists that stand already -/
theorem comp2_val {i1 i2 : Expr} {x1 x2 : Str} {p1 p2 p3 : Pos} {scope : Scope} {cl : List (Str × Addr)} {pos : Pos} {Q : Value → Shared → Prop} (hh : A.handled = none)
    (hclos : closureFor scope env = pure cl) (hcell : ∀ y ∈ scope.names, y.2 ≠ .cell) (hkind : scope.kind = .function) (hnames : ∀ y ∈ scope.names, y.2 = .local → scope.names.lookup y.1 = some .local)
    (hx1 : scope.names.lookup x1 = some .local) (hx2 : scope.names.lookup x2 = some .local) (hd : (x2 == ("__debug__" : Str)) = false)
    (h : wpAny (model prog w) A (eval i1 env) (fun xv s₁ => ∃ (l : Addr) (vs : List Value) (G J : Nat → List Value → Prop), xv = .ref l ∧ s₁.heap.IsList l vs.toArray ∧ vs.length ≤ 512 ∧ J 0 [] ∧ (∀ k us ws, J k us → G k ws → J (k + 1) (us ++ ws)) ∧
      (∀ (k : Nat) (v : Value) (s₃ : Shared) (m₃ : Str → Option Value) (E' : Value → Shared → Prop) (Q' : Value → Shared → Prop), vs[k]? = some v → s₃.heap.Ns (s₁.heap.objs.size + 2) m₃ → m₃ x1 = some v → (∀ b o, s₁.heap.get? b = some o → s₃.heap.get? b = some o) →
        (∀ (l2 : Addr) (ws : List Value) (tk : Nat), s₁.heap.IsList l2 ws.toArray → ws.length ≤ 64 → G k ws → Q' (.ref l2) { s₃ with toks := tk }) → wpAny (model prog w) A (eval i2 (compEnvC scope cl (s₁.heap.objs.size + 2) env)) Q' E' s₃) ∧
      (∀ (D : Addr) (h' : Heap) (tk : Nat) (us : List Value) (c : Nat), s₁.heap.get? D = none → IsL h' D us.toArray c → us.length ≤ 64 * vs.length → J vs.length us → (∀ b o, s₁.heap.get? b = some o → h'.get? b = some o) → Q (.ref D) { s₁ with heap := h', toks := tk })) E s)
    (hs : ∀ x, foldedSetIterable i1 env x = pure x := by intro _; rfl) (hs2 : ∀ (e' : Env) (x : Value), foldedSetIterable i2 e' x = pure x := by intro _ _; rfl) :
    wpAny (model prog w) A (eval (.ListComp (.Name x2 p3) [⟨.Name x1 p1, i1, [], 0⟩, ⟨.Name x2 p2, i2, [], 0⟩] scope pos) env) Q E s := by
  rw [eval_ListComp]
  refine wpAny_comprehension_free (use := none) rfl hs hclos hkind hnames (wpAny_mono h (fun xv s₁ h₁ => ?_) fun _ _ e => e)
  obtain ⟨l, vs, G, J, rfl, hl, hlen, J0, Jstep, hit2, hQ⟩ := h₁
  refine wpAny_pyIter_list hl ?_
  refine wpAny_newObj_type (wpAny_newFunctionEnv hcell (by intro y hy; simp at hy) (fun h₁ hns₁ hsb₁ => ?_) hkind)
  dsimp only at hns₁ hsb₁ ⊢
  have hll : l < s₁.heap.objs.size := by obtain ⟨o, ho, _⟩ := hl; exact Heap.lt_size ho
  generalize hN : s₁.heap.objs.size = n at hit2 hll hns₁ hsb₁ ⊢
  generalize hH1 : s₁.heap.push { cls := .type "list_iterator", data := .fields #[.ref l, .int 0 0] } = H1 at hns₁ hsb₁ ⊢
  have hs1 : H1.objs.size = n + 1 := by rw [← hH1, Heap.size_push, hN]
  have hnew : IsL (H1.push { cls := .type "list", dict := none, data := .seq ([] : List Value).toArray }) (n + 1) #[] 0 := hs1 ▸ Heap.get?_push_size _ rfl
  have hIt : (H1.push { cls := .type "list", dict := none, data := .seq ([] : List Value).toArray }).IsListIter n l 0 := ⟨_, Heap.get?_push_of_some _ (hH1 ▸ hN ▸ Heap.get?_push_size _ rfl), rfl, rfl⟩
  have k1 : ∀ b o, s₁.heap.get? b = some o → (H1.push { cls := .type "list", dict := none, data := .seq ([] : List Value).toArray }).get? b = some o := fun b o e => Heap.get?_push_of_some _ (hH1 ▸ Heap.get?_push_of_some _ e)
  generalize hH2 : H1.push { cls := .type "list", dict := none, data := .seq ([] : List Value).toArray } = H2 at hns₁ hsb₁ hnew hIt k1 ⊢
  have hs2' : H2.objs.size = n + 2 := by rw [← hH2, Heap.size_push, hs1]
  rw [hs2'] at hns₁ hsb₁ ⊢
  rw [hs1]
  have fresh : ∀ a, n ≤ a → s₁.heap.get? a = none := fun a ha => Heap.get?_none_of_le (hN ▸ ha)
  have up : ∀ b o, b ≠ n + 2 → H2.get? b = some o → h₁.get? b = some o := fun b o hb e => hsb₁.extBut b o hb (Heap.get?_push_of_some _ e)
  have old : ∀ b o, s₁.heap.get? b = some o → h₁.get? b = some o := fun b o e => up b o (fun q => by rw [fresh b (by rw [q]; exact Nat.le_add_right _ _)] at e; cases e) (k1 b o e)
  have ne12 : n + 1 ≠ n + 2 := Nat.ne_of_lt (Nat.lt_succ_self _)
  have ne01 : n ≠ n + 1 := Nat.ne_of_lt (Nat.lt_succ_self _)
  have ne02 : n ≠ n + 2 := Nat.ne_of_lt (by omega)
  have loop : ∀ tk₀, codeAny (model prog w) A (.compLoop (.ListComp (.Name x2 p3) [⟨.Name x1 p1, i1, [], 0⟩, ⟨.Name x2 p2, i2, [], 0⟩] scope pos) 0 (.ref n) (.ref (n + 1)) (compEnvC scope cl (n + 2) env))
      (compPost (model prog w) A E none Q (.ref (n + 1)) (n + 2)) { s₁ with heap := h₁, toks := tk₀ } := by
    intro tk₀
    refine codeAny_loop rfl (fun q s' => ∃ (h' : Heap) (tk : Nat) (m' : Str → Option Value) (us : List Value) (c k : Nat), s' = { s₁ with heap := h', toks := tk } ∧ k ≤ vs.length ∧ h'.IsListIter n l k ∧ IsL h' (n + 1) us.toArray c ∧ h'.Ns (n + 2) m' ∧ J k us ∧ us.length ≤ 64 * k ∧
      (∀ b o, s₁.heap.get? b = some o → h'.get? b = some o) ∧ q = vs.length - k) ?_ vs.length ⟨h₁, tk₀, _, [], 0, 0, rfl, Nat.zero_le _, hIt.at fun o e => up _ o ne02 e, up _ _ ne12 hnew, hns₁, J0, Nat.le_refl _, old, rfl⟩
    rintro q s' ⟨h', tk, m', us, c, k, rfl, hk', hit, hD, hn, hJ, hul, hkp, rfl⟩
    show wpAny _ A ((compTurn (.ListComp (.Name x2 p3) [⟨.Name x1 p1, i1, [], 0⟩, ⟨.Name x2 p2, i2, [], 0⟩] scope pos) 0 (.ref n) (.ref (n + 1)) (compEnvC scope cl (n + 2) env)).onRaise (fun x => do noteFrame x (compEnvC scope cl (n + 2) env); theTreesLotGoes x)) _ _ _
    refine wpAny_noted ?_
    rw [turn_two0]
    refine wpAny_bind (wpAny_standAt (wpAny_bind ?_))
    have hl' : h'.IsList l vs.toArray := hl.at fun o e => hkp _ o e
    cases hw : vs[k]? with
    | none =>
      have hke : vs.length ≤ k := List.getElem?_eq_none_iff.mp hw
      refine wpAny_pyNext_list_end hh hit hl' (by simp; omega) fun h₂ he => wpAny_pure ?_
      have e : k = vs.length := by omega
      subst e
      refine ⟨m', hn.extBut he (Ne.symm ne02), fun h'' hs'' => hQ (n + 1) h'' tk us c (fresh _ (Nat.le_succ _)) (hs''.extBut _ _ ne12 (he _ _ (Ne.symm ne01) hD)) hul hJ fun b o e => ?_⟩
      exact hs''.extBut b o (fun q => by rw [fresh b (by rw [q]; exact Nat.le_add_right _ _)] at e; cases e) (he b o (fun q => by rw [fresh b (by rw [q]; exact Nat.le_refl _)] at e; cases e) (hkp b o e))
    | some v =>
      have hke : k < vs.length := (List.getElem?_eq_some_iff.mp hw).1
      refine wpAny_pyNext_list_item hit hl' (x := v) (by simpa using hw) fun h₂ hit₂ hs₂ => ?_
      refine wpAny_bind (wpAny_of_eq rfl (wpAny_bind ?_))
      refine wpAny_assign_Name (wpAny_storeName_local (env := compEnvC scope cl (n + 2) env) (lookup_relabel_local hx1) (hn.sameBut hs₂ (Ne.symm ne02)) (fun h₃ hn₃ hs₃ => ?_) (by simp [compEnvC, relabel, hkind]))
      have k₃ : ∀ b o, b ≠ n → b ≠ n + 2 → h'.get? b = some o → h₃.get? b = some o := fun b o h1 h2 e => hs₃.extBut b o h2 (hs₂.extBut b o h1 e)
      have kp₃ : ∀ b o, s₁.heap.get? b = some o → h₃.get? b = some o := fun b o e => k₃ b o (fun q => by rw [fresh b (by rw [q]; exact Nat.le_refl _)] at e; cases e) (fun q => by rw [fresh b (by rw [q]; exact Nat.le_add_right _ _)] at e; cases e) (hkp b o e)
      refine wpAny_bind (hit2 k v _ _ _ _ hw hn₃ (if_pos rfl) kp₃ fun l2 ws tk₄ hl2 hws hG => ?_)
      refine wpAny_bind (wpAny_standAt (wpAny_bind (wpAny_of_eq (hs2 _ _) (wpAny_bind (wpAny_holding (wpAny_pyIter_list (hl2.at fun o e => kp₃ _ o e) ?_))))))
      dsimp only
      have hsz : ∀ b o, h₃.get? b = some o → b < h₃.objs.size := fun b o e => Heap.lt_size e
      have hl2lt : l2 < n := by obtain ⟨o, ho, _⟩ := hl2; rw [← hN]; exact Heap.lt_size ho
      have hC3 : n + 2 < h₃.objs.size := hn₃.lt
      have hit₅ : (h₃.push { cls := .type "list_iterator", data := .fields #[.ref l2, .int 0 0] }).IsListIter h₃.objs.size l2 0 := ⟨_, Heap.get?_push_size _ rfl, rfl, rfl⟩
      have up₅ : ∀ b o, h₃.get? b = some o → (h₃.push { cls := .type "list_iterator", data := .fields #[.ref l2, .int 0 0] }).get? b = some o := fun b o e => Heap.get?_push_of_some _ e
      generalize h₃.push { cls := .type "list_iterator", data := .fields #[.ref l2, .int 0 0] } = h₅ at hit₅ up₅ ⊢
      generalize hI2 : h₃.objs.size = I2 at hit₅ hC3 ⊢
      have hI2l : ∀ b, b ≤ n + 2 → I2 ≠ b := fun b hb => Nat.ne_of_gt (Nat.lt_of_le_of_lt hb hC3)
      refine wpAny_bind (wpAny_runOwn (inner_two (us := us) (ws := ws) (c₀ := c) hh (lookup_relabel_local hx2) (by simp [compEnvC, relabel, hkind]) hd hit₅ ((hl2.at fun o e => kp₃ _ o e).at fun o e => up₅ _ o e) (up₅ _ _ (k₃ _ _ (Ne.symm ne01) ne12 hD)) (hn₃.keeps up₅) (by omega)
        (hI2l _ (Nat.le_trans (Nat.le_of_lt hl2lt) (Nat.le_add_right n 2))) (hI2l _ (Nat.le_succ _)) (hI2l _ (Nat.le_refl _)) (Nat.ne_of_lt (Nat.lt_of_lt_of_le hl2lt (Nat.le_add_right n 1))) (Nat.ne_of_lt (Nat.lt_of_lt_of_le hl2lt (Nat.le_add_right n 2))) ne12 fun h₆ tk₆ m₆ c₆ hD₆ hn₆ hk₆ => ?_))
      refine wpAny_pure ⟨rfl, vs.length - (k + 1), by omega, h₆, tk₆, m₆, us ++ ws, c₆, k + 1, rfl, hke, ?_, hD₆, hn₆, Jstep k us ws hJ hG, by rw [List.length_append]; omega, fun b o e => ?_, rfl⟩
      · obtain ⟨o, ho, r⟩ := hit₂
        exact ⟨o, hk₆ _ o (Ne.symm (hI2l n (Nat.le_add_right n 2))) ne01 ne02 (up₅ _ o (hs₃.extBut _ o ne02 ho)), r⟩
      · have hb : b < n := by rw [← hN]; exact Heap.lt_size e
        exact hk₆ b o (Ne.symm (hI2l b (Nat.le_trans (Nat.le_of_lt hb) (Nat.le_add_right n 2)))) (Nat.ne_of_lt (Nat.lt_of_lt_of_le hb (Nat.le_add_right n 1))) (Nat.ne_of_lt (Nat.lt_of_lt_of_le hb (Nat.le_add_right n 2))) (up₅ b o (kp₃ b o e))
  exact start_two (.inl rfl) (loop _) (wpAny_pyIter_listiter (hIt.at fun o e => up _ o ne02 e) (loop _))
end
end Mine

end PartJ6q
section PartJ6r
open PySem PySem.W PyProof.Rows PySem.Spec PySem.SeqAt
set_option maxRecDepth 100000
set_option maxHeartbeats 1000000
set_option linter.unusedVariables false
namespace Mine

section
variable {prog : Program} {w : World} {A : Around} {E : Value → Shared → Prop} {s s₀ : Shared} {fT fD : Addr}
variable {g₀ base base₀ : Heap} {ex ex₀ : Addr → Prop} {os : OsState} {L : Addr} {m m₀ cm cm₀ : Str → Option Value} {a : Addr} {cd : Value}
variable {C : Nds} {n : Nat} {M : List Int} {lN lM dL dO dT : Addr} {vN vM : List Value} {p : Int} {la oa gs : Nat → Addr} {σ : St} {xv : Value}

/-- the while loop -/
theorem grow_walk (T : TpL fT fD g₀) (hh : A.handled = none) (hu : A.units + 64 < cLine) (x₀ : Lx g₀ base₀ ex₀ os L m₀ cm₀ s₀) (y : W5 prog w C n M lN lM dL dO dT vN vM la oa σ gs s₀.heap)
    (hoL : ¬ Own L dL) (hoO : ¬ Own L dO) (hoT : ¬ Own L dT) {i : Nat} (hi : i < n) (x : Lx g₀ s₀.heap (fun _ => False) os L m cm s) (hc : Cm lN lM dL dO p cm) (l : LocL m dT xv) {lC : Addr} {vC : List Value} {t : Tok}
    (hcome : cm (Str.ofString "come") = some (.ref lC)) (hstep : m (Str.ofString "step") = some (.int 0 t)) (hl : s.heap.IsList lC vC.toArray) (hv : NVs C [i] vC) {Q : Flow → Shared → Prop}
    (h : ∀ s' m' cm' lC' vC' come, Lx g₀ s₀.heap (fun _ => False) os L m' cm' s' → Cm lN lM dL dO p cm' → LocL m' dT xv → cm' (Str.ofString "come") = some (.ref lC') → s'.heap.IsList lC' (List.toArray vC') → NVs C come vC' → ComeInv (leadOf M n) n i come come.length →
      wpAny (model prog w) A (execs (lCheck.drop 3) (lEnv L a cd)) Q E s') :
    wpAny (model prog w) A (execs (lCheck.drop 2) (lEnv L a cd)) Q E s := by
  have up5 : ∀ {s' m' cm'}, Lx g₀ s₀.heap (fun _ => False) os L m' cm' s' → W5 prog w C n M lN lM dL dO dT vN vM la oa σ gs s'.heap := fun x' => y.keep x₀ hoL hoO hoT fun b o hb e => x'.keep b o (fun f => f) hb e
  have hn1 := y.fx.n1
  have hn12 := y.fx.n12
  refine wpAny_execs_cons (wpAny_While (codeAny_whileLoop (fun q s => ∃ m cm come k lC vC t, q = 5 * (n - dc n come) + (come.length - k) ∧ Lx g₀ s₀.heap (fun _ => False) os L m cm s ∧ Cm lN lM dL dO p cm ∧ LocL m dT xv ∧ cm (Str.ofString "come") = some (.ref lC) ∧ m (Str.ofString "step") = some (.int (k : Nat) t) ∧
    s.heap.IsList lC (List.toArray vC) ∧ NVs C come vC ∧ ComeInv (leadOf M n) n i come k) ?_ _ ⟨m, cm, [i], 0, lC, vC, t, rfl, x, hc, l, hcome, hstep, hl, hv, ComeInv.init hi⟩))
  rintro q s ⟨m, cm, come, k, lC, vC, t, rfl, x, hc, l, hcome, hstep, hl, hv, inv⟩
  have hcl : come.length ≤ 48 := by have := inv.len; have := dc_le n come; omega
  have hvl := hv.length
  refine wpAny_isTrue_Compare1 (x.ld hstep (evLen (T.mono x.F.keep) (x.ldc (c := L + 7) hcome ⟨lC, vC, rfl, hl, by omega, fun tk u => PyProof.Rows.lt_int (wpAny_truthy_bool ?_)⟩)))
  have x₁ : Lx g₀ s₀.heap (fun _ => False) os L m cm { s with toks := tk } := x.toks (dr := s.drawn)
  by_cases hk : k < come.length
  · rw [show decide ((k : Int) < ((vC.length : Nat) : Int)) = true from decide_eq_true (by omega), if_pos rfl]
    have hj : come[k]? = some come[k] := List.getElem?_eq_getElem hk
    refine grow_turn T hh hu x₁ (up5 x₁) hc hcome hstep hl hv (fun j hj => (inv.reach j hj).1) hj (by omega) fun s' lC' vC' new t' x' hl' hv' hnew hnl => ?_
    obtain ⟨inv', hlt⟩ := inv.next (fun j _ => leadOf_lt hn1) hj hnew hnl
    exact ⟨_, hlt, _, _, come ++ new, k + 1, lC', vC', t', rfl, x', ⟨hc.nodes, hc.numbers, hc.leads, hc.own, hc.place⟩, ⟨l.told, l.x⟩, rfl, rfl, hl', hv', inv'⟩
  · rw [show decide ((k : Int) < ((vC.length : Nat) : Int)) = false from decide_eq_false (by omega), if_neg Bool.false_ne_true]
    have e : k = come.length := Nat.le_antisymm inv.le (Nat.le_of_not_lt hk)
    subst e
    exact wpAny_execs_nil (h _ m cm lC vC come x₁ hc l hcome hl hv inv)

theorem ints_flat {us ws : List Value} {come : List Nat} {k j : Nat} (h : IntsAre us ((come.take k).flatMap (ownOf M))) (hj : come[k]? = some j) (hw : IntsAre ws (ownOf M j)) : IntsAre (us ++ ws) ((come.take (k + 1)).flatMap (ownOf M)) := by
  have e : come.take (k + 1) = come.take k ++ [j] := by rw [List.take_add_one, hj]; rfl
  rw [e, List.flatMap_append]
  simp only [List.flatMap_cons, List.flatMap_nil, List.append_nil]
  exact h.append hw

/-- due = sorted(set([n for one in come for n in own[one]])) -/
theorem dueStmt (T : TpL fT fD g₀) (hh : A.handled = none) (hu : A.units + 64 < cLine) (x : Lx g₀ base ex os L m cm s) (y : W5 prog w C n M lN lM dL dO dT vN vM la oa σ gs s.heap) (hc : Cm lN lM dL dO p cm) {lC : Addr} {vC : List Value} {come : List Nat}
    (hcome : cm (Str.ofString "come") = some (.ref lC)) (hl : s.heap.IsList lC vC.toArray) (hv : NVs C come vC) (hlt : ∀ j ∈ come, j < n) (hz : come.length ≤ 48) {Q : Flow → Shared → Prop}
    (h : ∀ s' lU vU ns, Lx g₀ base ex os L (fun y => if y = Str.ofString "due" then some (.ref lU) else m y) cm s' → s'.heap.IsList lU (List.toArray vU) → IntsAre vU ns → ns.Perm (unionI [] (come.flatMap (ownOf M))) → ns.Pairwise (· ≤ ·) → ns.length ≤ 62 → wpAny (model prog w) A (execs (lCheck.drop 4) (lEnv L a cd)) Q E s') :
    wpAny (model prog w) A (execs (lCheck.drop 3) (lEnv L a cd)) Q E s := by
  have hTp := T.mono x.F.keep
  have hvl := hv.length
  refine wpAny_execs_cons (wpAny_Assign_Name (evSorted hTp (Call_ (ldSet hTp (PyProof.Rows.callWith_type1 (args_cons (comp2_val (cl := [(Str.ofString "own", L + 5)]) hh rfl (by decide) rfl (by decide) rfl rfl rfl (x.ldc (c := L + 7) hcome ?_))))))))
  refine ⟨lC, vC, fun k ws => ∃ j, come[k]? = some j ∧ IntsAre ws (ownOf M j), fun k us => IntsAre us ((come.take k).flatMap (ownOf M)), rfl, hl, by omega, .nil, fun k us ws hJ ⟨j, hj, hw⟩ => ints_flat hJ hj hw, ?_, ?_⟩
  · intro k v s₃ m₃ E' Q' hk hn₃ hm₃ hk₃ hQ'
    obtain ⟨j, hj, hnv⟩ := hv.at' hk
    have hjn := hlt j (List.mem_of_getElem? hj)
    have y₃ := y.mono hk₃
    have hcell : s₃.heap.IsCell (L + 5) (some (.ref dO)) := by
      obtain ⟨o, ho, hd⟩ := x.isCell (c := L + 5) hc.own
      exact ⟨o, hk₃ _ _ ho, hd⟩
    obtain ⟨ws, hw1, hw2⟩ := y.fl.lO j hjn
    have hwl := hw2.length
    have hw4 := ownOf_len M j
    exact wpAny_Subscript_Name_late (ldCc hcell (ldCl (mm := m₃) hn₃ hm₃ ⟨"dict", _, slot_dict_getitem.lookup, y₃.fl.rO.typeIs, getItem_N (v := .ref (oa j)) (by omega) y₃.fl.rO (ndsRange y₃.fx) (y₃.fx.ok j hjn) hnv (valueAt_range (f := fun j => Value.ref (oa j)) hjn) fun tk => hQ' (oa j) ws tk hw1 (by omega) ⟨j, hj, hw2⟩⟩))
  intro D h₁ tk₁ us c hD hlD hul hJ sub₁
  have e : come.take vC.length = come := by rw [← hvl, List.take_length]
  rw [e] at hJ
  have x₁ : Lx g₀ base ex os L m cm { s with heap := h₁, toks := tk₁ } := x.grow (dr := s.drawn) sub₁
  have hpool : ∀ z ∈ come.flatMap (ownOf M), z ∈ M := fun z hz => by
    obtain ⟨j, _, hj⟩ := List.mem_flatMap.mp hz
    exact ownOf_mem y.fx.M1 z hj
  refine args_nil (call_set_pool (s := { s with heap := h₁, toks := tk₁ }) hh hlD.isList (by simpa using hJ) hpool y.fx.M62 fun h₂ tk₂ hs₂ sub₂ => ?_)
  have hlen : (unionI [] (come.flatMap (ownOf M))).length ≤ 62 := by
    refine Nat.le_trans ((unionI_nodup List.nodup_nil).length_le_of_subset fun z hz => ?_) y.fx.M62
    rcases mem_unionI.mp hz with q | q
    · cases q
    · exact hpool z q
  refine sorted_set_ints (s := { s with heap := h₂, toks := tk₂ }) hh hs₂ hlen fun D' vs ns h₃ tk₃ d₃ hi hp hso hl₃ hDs sub₃ => ?_
  have x₃ : Lx g₀ base ex os L m cm { s with heap := h₃, toks := tk₃, drawn := d₃ } := x.grow fun b o e => sub₃ b o (sub₂ b o (sub₁ b o e))
  refine x₃.sto (a := a) (cd := cd) fun s₄ x₄ hk₄ => ?_
  refine h s₄ D' vs ns x₄ ?_ hi hp hso (by rw [hp.length_eq]; exact hlen)
  obtain ⟨o, ho, hcl, q, hd⟩ := hl₃
  exact ⟨o, hk₄ _ _ (fun hb => x₃.notOwnSeq ho hd (.inl hb)) ho, hcl, q, hd⟩
end
end Mine

end PartJ6r
section PartJ6s
open PySem PySem.W PyProof.Rows PySem.Spec PySem.SeqAt
set_option maxRecDepth 100000
set_option maxHeartbeats 1000000
set_option linter.unusedVariables false
namespace Mine

theorem sorted_eq {l1 l2 : List Int} (h1 : l1.Nodup) (h2 : l2.Nodup) (hm : ∀ x, x ∈ l1 ↔ x ∈ l2) {s1 s2 : List Int} (p1 : s1.Perm l1) (p2 : s2.Perm l2) (o1 : s1.Pairwise (· ≤ ·)) (o2 : s2.Pairwise (· ≤ ·)) : s1 = s2 := by
  refine List.Perm.eq_of_pairwise (le := (· ≤ ·)) (fun a b _ _ q1 q2 => Int.le_antisymm q1 q2) o1 o2 ?_
  exact p1.trans (((List.perm_ext_iff_of_nodup h1 h2).mpr hm).trans p2.symm)

/-- what the law asks of one node -/
def Right (M : List Int) (n : Nat) (σ : St) (i : Nat) : Prop := ∃ j, σ.F i = some j ∧ (σ.G j).Nodup ∧ ∀ x, x ∈ σ.G j ↔ ∃ k, Reach (leadOf M n) i k ∧ x ∈ ownOf M k

section
variable {prog : Program} {w : World} {A : Around} {E : Value → Shared → Prop} {s s₀ : Shared} {fT fD : Addr}
variable {g₀ base base₀ : Heap} {ex ex₀ : Addr → Prop} {os : OsState} {L : Addr} {m m₀ cm cm₀ : Str → Option Value} {a : Addr} {cd : Value}
variable {C : Nds} {n : Nat} {M : List Int} {lN lM dL dO dT : Addr} {vN vM : List Value} {p : Int} {la oa gs : Nat → Addr} {σ : St} {xv : Value}

/-- told[x] -/
theorem evTold {p1 p2 p3 : Pos} {Q : Value → Shared → Prop} (hu : A.units + 64 < cLine) (x : Lx g₀ base ex os L m cm s) (y : W5 prog w C n M lN lM dL dO dT vN vM la oa σ gs s.heap) (l : LocL m dT xv) {i j : Nat} (hi : i < n) (hx : NV C i xv) (hj : σ.F i = some j)
    (h : ∀ tk, Q (.ref (gs j)) { s with toks := tk }) : wpAny (model prog w) A (eval (.Subscript (.Name (Str.ofString "told") p1) (.Name (Str.ofString "x") p2) p3) (lEnv L a cd)) Q E s := by
  obtain ⟨xs, rT, hval, hlt⟩ := y.told.rT
  have hxs : ∀ z ∈ xs, NodeOk prog w C s.heap z.1 := fun z hz => by
    obtain ⟨u, hu'⟩ := valueAt_mem (xs := xs) (i := z.1) (v := z.2) hz
    rw [hval] at hu'
    cases e : σ.F z.1 with
    | none => rw [e] at hu'; cases hu'
    | some q => exact y.fx.ok _ (hlt _ _ e).1
  exact wpAny_Subscript_Name_late (x.ld l.told (x.ld l.x ⟨"dict", _, slot_dict_getitem.lookup, rT.typeIs, getItem_N (v := .ref (gs j)) (by omega) rT hxs (y.fx.ok i hi) hx (by rw [hval, hj]; rfl) h⟩))

/-- the list of a set's numbers -/
theorem evSetList {p1 p2 p3 p4 p5 p6 : Pos} {scope : Scope} {Q : Value → Shared → Prop} (hh : A.handled = none) (hu : A.units + 64 < cLine) (x : Lx g₀ base ex os L m cm s) (y : W5 prog w C n M lN lM dL dO dT vN vM la oa σ gs s.heap) (l : LocL m dT xv) {i j : Nat} (hi : i < n) (hx : NV C i xv) (hj : σ.F i = some j)
    (hscope : scope = { kind := .function, names := [(Str.ofString ".0", .local), (Str.ofString "n", .local)], isGenerator := false, isCoroutine := false, more := [] })
    (h : ∀ D h' tk dr us ns, h'.IsList D (List.toArray us) → IntsAre us ns → ns.Perm (σ.G j) → Sub s.heap h' → Q (.ref D) { s with heap := h', toks := tk, drawn := dr }) :
    wpAny (model prog w) A (eval (.ListComp (.Name (Str.ofString "n") p1) [⟨.Name (Str.ofString "n") p2, .Subscript (.Name (Str.ofString "told") p3) (.Name (Str.ofString "x") p4) p5, [], 0⟩] scope p6) (lEnv L a cd)) Q E s := by
  subst hscope
  obtain ⟨xs, rT, hval, hlt⟩ := y.told.rT
  have hjn := (hlt _ _ hj).2
  obtain ⟨⟨es, t, hat, hI⟩, hpool⟩ := y.told.sets j hjn
  have hsz := hI.size
  have hlen : (σ.G j).length ≤ 62 := Nat.le_trans (hI.nodup.length_le_of_subset hpool) y.fx.M62
  refine ListComp_val (cl := []) (closureFor_none (by decide)) (by decide) rfl (by decide) rfl (evTold hu x y l hi hx hj fun tk => ?_)
  refine pyIter_set (s := { s with toks := tk }) hat hI.tab hI.led (by omega) fun I tup vs h' d hI1 hI2 htup htupa hah hst hperm hk => ?_
  have hIs : s.heap.get? I = none := Heap.get?_none_of_le hI1
  have hvl : vs.length = (σ.G j).length := by have := hperm.length_eq; simpa [hsz] using this
  refine ⟨I, [I, gs j, tup], [I], vs.length, _, _, fun k us _ => us = vs.take k, rfl, SIter.walks hh, by omega, hst, ?_, ⟨by simp, fun k us h h' hJ _ => hJ, ?_⟩, ?_⟩
  · intro b hb; simp at hb; rcases hb with rfl | rfl | rfl
    · exact hI2
    · exact hah
    · exact htup
  · intro k v us s₃ m₃ E' hv hJ hn₃ hm₃ hk₃ hg₃ ho₃
    refine wpAny_tests_nil ⟨KeepD.refl _, ?_⟩
    rw [if_pos rfl]
    refine ldCl (mm := m₃) hn₃ hm₃ ⟨KeepD.refl _, ?_⟩
    rw [hJ, List.take_add_one, hv]; rfl
  rintro D h₂ tk₂ dr₂ us c hD hlD hle hJ hk₂
  rw [List.take_length] at hJ
  subst hJ
  have hints : IntsAre us (us.map numOf) := intsAre_map us fun v hv => by
    obtain ⟨e, he, rfl⟩ := List.mem_map.mp (hperm.mem_iff.mp hv)
    obtain ⟨k, u, rfl⟩ := hI.hints e he
    exact ⟨k, u, rfl⟩
  have hkeys : (us.map numOf).Perm (σ.G j) := by
    have := hperm.map numOf
    rw [List.map_map] at this
    exact this.trans hI.hkeys
  exact h D h₂ tk₂ dr₂ us _ hlD.isList hints hkeys fun b o e => hk₂ b o (fun q => by simp at q; rw [q, hIs] at e; cases e) (hk b o e)

/-- the last question -/
theorem askStmt (T : TpL fT fD g₀) (hh : A.handled = none) (hu : A.units + 64 < cLine) (x : Lx g₀ base ex os L m cm s) (y : W5 prog w C n M lN lM dL dO dT vN vM la oa σ gs s.heap) (l : LocL m dT xv) {i : Nat} (hi : i < n) (hx : NV C i xv) (hR : Right M n σ i)
    {lU : Addr} {vU : List Value} {ns : List Int} {come : List Nat} (hdue : m (Str.ofString "due") = some (.ref lU)) (hlU : s.heap.IsList lU vU.toArray) (hiU : IntsAre vU ns) (hp : ns.Perm (unionI [] (come.flatMap (ownOf M)))) (hso : ns.Pairwise (· ≤ ·)) (hn62 : ns.length ≤ 62) (inv : ComeInv (leadOf M n) n i come come.length) {Q : Flow → Shared → Prop}
    (h : ∀ s', Lx g₀ base ex os L m cm s' → Q .next s') :
    wpAny (model prog w) A (execs (lCheck.drop 4) (lEnv L a cd)) Q E s := by
  obtain ⟨j, hj, hnd, hmem⟩ := hR
  have hreach : ∀ k, Reach (leadOf M n) i k → k ∈ come := by
    intro k hk
    induction hk with
    | refl => exact inv.start
    | @step a b _ hb ih =>
      obtain ⟨q, hq⟩ := List.mem_iff_getElem?.mp ih
      exact inv.done q (List.getElem?_eq_some_iff.mp hq).1 a hq b hb
  have hsame : ∀ z, z ∈ σ.G j ↔ z ∈ unionI [] (come.flatMap (ownOf M)) := by
    intro z
    rw [hmem, mem_unionI]
    constructor
    · rintro ⟨k, hk, hz⟩
      exact .inr (List.mem_flatMap.mpr ⟨k, hreach k hk, hz⟩)
    · rintro (q | q)
      · cases q
      · obtain ⟨k, hk, hz⟩ := List.mem_flatMap.mp q
        exact ⟨k, (inv.reach k hk).2, hz⟩
  have hnU := unionI_nodup (l2 := come.flatMap (ownOf M)) (l1 := []) List.nodup_nil
  have hlenEq : (σ.G j).length = vU.length := by
    rw [hiU.length, hp.length_eq]
    exact ((List.perm_ext_iff_of_nodup hnd hnU).mpr hsame).length_eq
  have hTp := T.mono x.F.keep
  obtain ⟨xs, rT, hval, hlt⟩ := y.told.rT
  have hjn := (hlt _ _ hj).2
  have hvU := hiU.length
  refine wpAny_execs_cons (wpAny_If (wpAny_isTrue_BoolOp (wpAny_allTrue_Or_cons (wpAny_isTrue_Compare1 (Call_ (ldB hTp (callWith_builtin1 (args_cons (evTold hu x y l hi hx hj fun tk => args_nil (len_I (s := { s with toks := tk }) (y.told.sets j hjn).1 (by omega) fun tk₁ u₁ => ?_))))))))))
  have x₁ : Lx g₀ base ex os L m cm { s with toks := tk₁ } := x.toks (dr := s.drawn)
  refine evLen (s := { s with toks := tk₁ }) hTp (x₁.ld hdue ⟨lU, vU, rfl, hlU, by omega, fun tk₂ u₂ => PyProof.Rows.ne_int (wpAny_truthy_bool ?_)⟩)
  have x₂ : Lx g₀ base ex os L m cm { s with toks := tk₂ } := x.toks (dr := s.drawn)
  rw [show ((((σ.G j).length : Nat) : Int) != ((vU.length : Nat) : Int)) = false by rw [hlenEq]; simp, if_neg Bool.false_ne_true]
  refine wpAny_allTrue_Or_cons (wpAny_isTrue_Compare1 (evSorted (s := { s with toks := tk₂ }) hTp (evSetList hh hu x₂ y l hi hx hj rfl fun D h₃ tk₃ dr₃ us ms hlD hiD hpD sub₃ => ?_)))
  have hml := hiD.length
  refine sorted_list_ints (s := { s with heap := h₃, toks := tk₃, drawn := dr₃ }) hlD hiD (by rw [hml, hpD.length_eq]; omega) fun D' vs' ns' h₄ tk₄ d₄ hi' hp' hso' hl' hDs sub₄ => ?_
  have hns : ns' = ns := sorted_eq hnd hnU hsame (hp'.trans hpD) hp hso' hso
  subst hns
  have sub₀₄ : Sub s.heap h₄ := fun b o e => sub₄ b o (sub₃ b o e)
  have x₄ : Lx g₀ base ex os L m cm { s with heap := h₄, toks := tk₄, drawn := d₄ } := x.grow sub₀₄
  refine x₄.ld hdue (ne_intsK (s := { s with heap := h₄, toks := tk₄, drawn := d₄ }) hl' hi' ((Sub.seq sub₀₄).list hlU) hiU hu (wpAny_truthy_bool ?_))
  rw [show (!decide (ns' = ns')) = false by simp, if_neg Bool.false_ne_true]
  refine wpAny_allTrue_Or_nil ?_
  rw [if_neg Bool.false_ne_true]
  exact wpAny_execs_nil (wpAny_execs_nil (h _ x₄))

/-- one node checked -/
theorem check_turn (T : TpL fT fD g₀) (hh : A.handled = none) (hu : A.units + 64 < cLine) (x : Lx g₀ s.heap (fun _ => False) os L m cm s) (y : W5 prog w C n M lN lM dL dO dT vN vM la oa σ gs s.heap) (hc : Cm lN lM dL dO p cm)
    (hoL : ¬ Own L dL) (hoO : ¬ Own L dO) (hoT : ¬ Own L dT) (l : LocL m dT xv) {i : Nat} (hi : i < n) (hx : NV C i xv) (hR : Right M n σ i) {Q : Flow → Shared → Prop}
    (h : ∀ s' m' cm', Lx g₀ s.heap (fun _ => False) os L m' cm' s' → Cm lN lM dL dO p cm' → LocL m' dT xv → Q .next s') :
    wpAny (model prog w) A (execs lCheck (lEnv L a cd)) Q E s := by
  have up5 : ∀ {s' m' cm'}, Lx g₀ s.heap (fun _ => False) os L m' cm' s' → W5 prog w C n M lN lM dL dO dT vN vM la oa σ gs s'.heap := fun x' => y.keep x hoL hoO hoT fun b o hb e => x'.keep b o (fun f => f) hb e
  -- come = [x]
  refine wpAny_execs_cons (wpAny_Assign_Name (wpAny_List (args_cons (x.ld l.x (args_nil ⟨by show 1 ≤ sizeLine; rw [sizeLine_eq]; omega, ?_⟩)))))
  have x₁ : Lx g₀ s.heap (fun _ => False) os L m cm { s with heap := s.heap.push { cls := .type "list", data := .seq [xv].toArray } } := x.grow (tk := s.toks) (dr := s.drawn) fun b o e => Heap.get?_push_of_some _ e
  have hl₁ : (s.heap.push { cls := .type "list", data := .seq [xv].toArray }).IsList s.heap.objs.size [xv].toArray := ⟨_, Heap.get?_push_size _ rfl, rfl, 0, rfl⟩
  refine x₁.stoc (a := a) (cd := cd) fun s₂ x₂ hk₂ => ?_
  have hl₂ : s₂.heap.IsList s.heap.objs.size [xv].toArray := by
    obtain ⟨o, ho, hcl, q, hd⟩ := hl₁
    exact ⟨o, hk₂ _ _ (x₁.notOwnSeq ho hd) ho, hcl, q, hd⟩
  -- step = 0
  refine wpAny_execs_cons (wpAny_Assign_Name (wpAny_Constant_int ?_))
  have x₃ : Lx g₀ s.heap (fun _ => False) os L m _ { s₂ with toks := s₂.toks + 1 } := x₂.toks (dr := s₂.drawn)
  refine x₃.sto (a := a) (cd := cd) fun s₄ x₄ hk₄ => ?_
  have hl₄ : s₄.heap.IsList s.heap.objs.size [xv].toArray := by
    obtain ⟨o, ho, hcl, q, hd⟩ := hl₂
    exact ⟨o, hk₄ _ _ (fun hb => x₃.notOwnSeq ho hd (.inl hb)) ho, hcl, q, hd⟩
  refine grow_walk T hh hu x y hoL hoO hoT hi x₄ ⟨hc.nodes, hc.numbers, hc.leads, hc.own, hc.place⟩ ⟨l.told, l.x⟩ rfl rfl hl₄ (.cons hx .nil) fun s₅ m₅ cm₅ lC vC come x₅ hc₅ l₅ hcome hlC hvC inv => ?_
  have hcl : come.length ≤ 48 := by have := inv.len; have := dc_le n come; have := y.fx.n12; omega
  refine dueStmt T hh hu x₅ (up5 x₅) hc₅ hcome hlC hvC (fun j hj => (inv.reach j hj).1) hcl fun s₆ lU vU ns x₆ hlU hiU hp hso hn62 => ?_
  exact askStmt T hh hu x₆ (up5 x₆) ⟨l₅.told, l₅.x⟩ hi hx hR rfl hlU hiU hp hso hn62 inv fun s' x' => h s' _ _ x' hc₅ ⟨l₅.told, l₅.x⟩
end
end Mine

end PartJ6s
section PartJ6t
open PySem PySem.W PyProof.Rows PySem.Spec PySem.SeqAt
set_option maxRecDepth 100000
set_option maxHeartbeats 1000000
set_option linter.unusedVariables false
namespace Mine

section
variable {prog : Program} {w : World} {A : Around} {E : Value → Shared → Prop} {s s₀ : Shared} {fT fD : Addr}
variable {g₀ base base₀ : Heap} {ex ex₀ : Addr → Prop} {os : OsState} {L : Addr} {m m₀ cm cm₀ : Str → Option Value} {a : Addr} {cd : Value}
variable {C : Nds} {n : Nat} {M : List Int} {lN lM dL dO dT : Addr} {vN vM : List Value} {p : Int} {la oa gs : Nat → Addr} {σ : St} {xv : Value}

theorem W5.iter {h h' : Heap} (y : W5 prog w C n M lN lM dL dO dT vN vM la oa σ gs h) {it l : Addr} {c : Nat} (hit : h.IsListIter it l c) (k : ∀ b o, b ≠ it → h.get? b = some o → h'.get? b = some o) : W5 prog w C n M lN lM dL dO dT vN vM la oa σ gs h' := by
  obtain ⟨oi, hoi, _, hdi⟩ := hit
  have nd : ∀ {d : Addr} {xs : List (Nat × Value)}, RawN prog w C h d xs → RawN prog w C h' d xs := fun {d xs} r => r.at fun o e => k d o (fun q => by
    obtain ⟨o', es, ep, ho', hd'⟩ := r.objDict
    rw [q, hoi] at ho'; cases ho'; rw [hdi] at hd'; cases hd') e
  have q : KeepSeq h h' := fun b o its c ho hd => k b o (fun q => by rw [q, hoi] at ho; cases ho; rw [hdi] at hd; cases hd) ho
  refine ⟨y.fx.seq q, ⟨nd y.fl.rL, nd y.fl.rO, fun j hj => ?_, fun j hj => ?_⟩, ⟨?_, fun j hj => ⟨(y.told.sets j hj).1.at fun o e => k _ o (fun hb => ?_) e, (y.told.sets j hj).2⟩⟩⟩
  · obtain ⟨vs, h1, h2⟩ := y.fl.lL j hj; exact ⟨vs, q.list h1, h2⟩
  · obtain ⟨vs, h1, h2⟩ := y.fl.lO j hj; exact ⟨vs, q.list h1, h2⟩
  · obtain ⟨xs, h1, h2⟩ := y.told.rT; exact ⟨xs, nd h1, h2⟩
  · obtain ⟨o1, es, ep, t, ho1, hd1⟩ := (y.told.sets j hj).1.objSet
    rw [hb, hoi] at ho1; cases ho1; rw [hdi] at hd1; cases hd1

theorem check_walk (T : TpL fT fD g₀) (hh : A.handled = none) (hu : A.units + 64 < cLine) (x : Lx g₀ s.heap (fun _ => False) os L m cm s) (y : W5 prog w C n M lN lM dL dO dT vN vM la oa σ gs s.heap) (hc : Cm lN lM dL dO p cm)
    (hoL : ¬ Own L dL) (hoO : ¬ Own L dO) (hoT : ¬ Own L dT) (htold : m (Str.ofString "told") = some (.ref dT)) (hR : ∀ i, i < n → Right M n σ i) {Q : Flow → Shared → Prop}
    (h : ∀ s' m', Fr g₀ L s'.heap m' → s'.gens = #[] → s'.os = os → Q (.ret (.bool true)) s') :
    wpAny (model prog w) A (execs (lBody.drop 8) (lEnv L a cd)) Q E s := by
  have hlen := y.fx.nvs.length
  rw [List.length_range] at hlen
  refine wpAny_execs_cons (wpAny_For (x.ldc (c := L + 2) hc.nodes (wpAny_pyIter_list y.fx.nodes ?_)))
  have hit0 : s.heap.get? s.heap.objs.size = none := Heap.get?_none_of_le (Nat.le_refl _)
  obtain ⟨itg, ito, _⟩ := x.new hit0
  have hit : (s.heap.push { cls := .type "list_iterator", data := .fields #[.ref lN, .int 0 0] }).IsListIter s.heap.objs.size lN 0 := ⟨_, Heap.get?_push_size _ rfl, rfl, rfl⟩
  have up : Sub s.heap (s.heap.push { cls := .type "list_iterator", data := .fields #[.ref lN, .int 0 0] }) := fun b o e => Heap.get?_push_of_some _ e
  have x₁ : Lx g₀ (s.heap.push { cls := .type "list_iterator", data := .fields #[.ref lN, .int 0 0] }) (fun _ => False) os L m cm { s with heap := s.heap.push { cls := .type "list_iterator", data := .fields #[.ref lN, .int 0 0] } } :=
    (x.grow (tk := s.toks) (dr := s.drawn) up).rebase _
  generalize s.heap.push { cls := .type "list_iterator", data := .fields #[.ref lN, .int 0 0] } = H at hit up x₁ ⊢
  generalize s.heap.objs.size = it at hit itg ito ⊢
  refine codeAny_forLoop (fun q s => ∃ m cm c, n = q + c ∧ Lx g₀ s.heap (fun _ => False) os L m cm s ∧ Cm lN lM dL dO p cm ∧ m (Str.ofString "told") = some (.ref dT) ∧ W5 prog w C n M lN lM dL dO dT vN vM la oa σ gs s.heap ∧ s.heap.IsListIter it lN c)
    ?_ n ⟨m, cm, 0, rfl, x₁, hc, htold, y.mono up, hit⟩
  rintro q s ⟨m, cm, c, hq, x, hc, htold, y, hit⟩
  by_cases hcn : c < n
  · have hjr : (List.range n)[c]? = some c := List.getElem?_range hcn
    obtain ⟨xv, hxv, hx⟩ := y.fx.nvs.at hjr
    refine wpAny_pyNext_list_item hit y.fx.nodes (x := xv) (by simpa using hxv) fun h' hit' hs' => ?_
    have x₂ : Lx g₀ h' (fun _ => False) os L m cm { s with heap := h' } := x.it (tk := s.toks) (dr := s.drawn) itg ito _ fun b o hb e => hs'.extBut b o hb e
    have y₂ : W5 prog w C n M lN lM dL dO dT vN vM la oa σ gs h' := y.iter hit fun b o hb e => hs'.extBut b o hb e
    refine PyProof.Rows.assign_Name (x₂.sto (a := a) (cd := cd) fun s₃ x₃ hk₃ => ?_)
    have y₃ : W5 prog w C n M lN lM dL dO dT vN vM la oa σ gs s₃.heap := W5.keep (s₀ := { s with heap := h' }) y₂ x₂ hoL hoO hoT fun b o hb e => hk₃ b o (fun q => hb (.inl q)) e
    have hit₃ : s₃.heap.IsListIter it lN (c + 1) := by
      obtain ⟨o, ho, r⟩ := hit'
      exact ⟨o, hk₃ _ o (fun q => ito (.inl q)) ho, r⟩
    have x₃' := x₃.rebase (fun _ => False)
    refine check_turn T hh hu x₃' y₃ hc hoL hoO hoT ⟨htold, if_pos rfl⟩ hcn hx (hR c hcn) fun s' m' cm' x' hc' l' => ?_
    refine ⟨q - 1, by omega, m', cm', c + 1, by omega, x'.rebase _, hc', l'.told, y₃.keep x₃' hoL hoO hoT fun b o hb e => x'.keep b o (fun f => f) hb e, ?_⟩
    obtain ⟨o, ho, r⟩ := hit₃
    exact ⟨o, x'.keep _ o (fun f => f) ito ho, r⟩
  · refine wpAny_pyNext_list_end hh hit y.fx.nodes (by simp; omega) fun h' he => ?_
    refine wpAny_execs_nil ?_
    have x₂ : Lx g₀ h' (fun _ => False) os L m cm { s with heap := h' } := x.it (tk := s.toks) (dr := s.drawn) itg ito _ fun b o hb e => he b o hb e
    exact wpAny_execs_cons (wpAny_Return_some (wpAny_Constant_bool (h _ _ x₂.F x₂.gens x₂.hos)))

/-- the whole law -/
theorem law_walk {scr : Addr} {vs : List Value} {ns : List Int} (T : TpL fT fD g₀) (hh : A.handled = none) (hdp : A.depth + 13 + 1 < recursionLimit) (hu : A.units + 100 < cLine)
    (F : Fr g₀ L s.heap m) (X : Cl L (lCells L) s.heap cm) (hg : s.gens = #[]) (hm : m (Str.ofString "script") = some (.ref scr)) (hscr : g₀.IsList scr vs.toArray) (hi : IntsAre vs ns) (hn : ns.length ≤ 63)
    (hpure : ∀ (M : List Int) (hd : Int) (n : Nat), 1 ≤ n → n ≤ 12 → 1 ≤ M.length → ∃ σ, digs (leadOf M n) 13 (ksOf hd n) (st0 (ownS M)) = some σ ∧ ∀ i, i < n → Right M n σ i) {Q : Flow → Shared → Prop}
    (h : ∀ s' m', Fr g₀ L s'.heap m' → s'.gens = #[] → s'.os = s.os → Q (.ret (.bool true)) s') :
    wpAny (model prog w) A (execs lBody (lEnv L a cd)) Q E s := by
  have x : Lx g₀ s.heap (fun _ => False) s.os L m cm s := ⟨F, X, fun _ _ _ _ e => e, hg, rfl⟩
  generalize s.os = os at x h
  refine headStmt x hm hscr hi hn fun s₁ t₁ x₁ => ?_
  refine nodesStmt T hh x₁ rfl fun s₂ C lN vN x₂ hkd hlN hvN hok hoN => ?_
  refine numsStmt T x₂ hm hscr hi hn fun s₃ lM vM x₃ hlM hiM hoM hM0 hk₃ => ?_
  obtain ⟨n1, n12, _⟩ := nOf_bounds (hdOf ns)
  have hM1 : 1 ≤ (numsOf ns).length := by unfold numsOf; split <;> simp; omega
  have hM62 : (numsOf ns).length ≤ 62 := by unfold numsOf; split <;> simp; omega
  have q₃ : KeepSeq s₂.heap s₃.heap := fun b o its c ho hd => hk₃ b o (x₂.notOwnSeq ho hd) ho
  have fx₃ : Facts prog w C (nOf (hdOf ns)) (numsOf ns) lN lM vN vM s₃.heap := ⟨q₃.list hlN, hvN, fun i hi => q₃.node (hok i hi), hlM, hiM, n1, n12, hM1, hM62⟩
  refine pairStmt C hh x₃ fun s₄ dL dO t₄ x₄ rL rO hne hdL hdO hk₄ => ?_
  have q₄ : KeepSeq s₃.heap s₄.heap := fun b o its c ho hd => hk₄ b o (x₃.notOwnSeq ho hd) ho
  have nL := x₃.new hdL
  have nO := x₃.new hdO
  refine fill_walk T hh (by omega) (x₄.rebase _) (fx₃.seq q₄) ⟨rfl, rfl, rfl, rfl, _, rfl⟩ nL.1 nO.1 nL.2.1 nO.2.1 hne rL rO fun s₅ m₅ cm₅ la oa p x₅ hc₅ hhd₅ fx₅ fl₅ => ?_
  obtain ⟨σ, hσ, hR⟩ := hpure (numsOf ns) (hdOf ns) (nOf (hdOf ns)) n1 n12 hM1
  refine toldStmt T hh hdp (by omega) x₅ fx₅ hc₅ fl₅ (hhd₅.trans rfl) nL.2.1 nO.2.1 hσ fun s₆ dT gs x₆ fx₆ fl₆ told₆ hsys hoT => ?_
  refine keysStmt T hh (by omega) x₆ fx₆ hc₅ told₆ hsys rfl (fun i hi => ?_) fun s₇ x₇ hk₇ => ?_
  · obtain ⟨j, hj, _⟩ := hR i hi; exact ⟨j, hj⟩
  obtain ⟨h₇, tk₇, dr₇, rfl, sub₇⟩ := hk₇
  exact check_walk T hh (by omega) (x₇.rebase _) ⟨fx₆.seq (Sub.seq sub₇), fl₆.mono sub₇, told₆.mono sub₇⟩ hc₅ nL.2.1 nO.2.1 hoT rfl hR h
end
end Mine

end PartJ6t
section PartJ7a
set_option maxRecDepth 100000
set_option maxHeartbeats 1000000
set_option linter.unusedVariables false
namespace Mine

theorem Reach.trans {R : Nat → List Nat} {i j k : Nat} (h1 : Reach R i j) (h2 : Reach R j k) : Reach R i k := by
  induction h2 with
  | refl => exact h1
  | step _ hk ih => exact ih.step hk

def UU (R : Nat → List Nat) (own : Nat → List Int) (y : Nat) (v : Int) : Prop := ∃ k, Reach R y k ∧ v ∈ own k

structure Inv (R : Nat → List Nat) (own : Nat → List Int) (n : Nat) (σ : St) : Prop where
  nd : σ.S.Nodup
  lt : ∀ y ∈ σ.S, y < n
  st : ∀ y, y < n → (y ∈ σ.S ↔ 0 < σ.N y)
  dn : ∀ y, y < n → σ.N y ≤ 0 → σ.N y = 0 ∨ σ.N y = -1
  B : ∀ A y B, σ.S = A ++ y :: B → σ.N y ≤ ((B.length + 1 : Nat) : Int)
  D : ∀ y ∈ σ.S, ∃ A z B, σ.S = A ++ z :: B ∧ ((B.length + 1 : Nat) : Int) ≤ σ.N y ∧ Reach R y z
  fS : ∀ y ∈ σ.S, σ.F y = some y
  sS : ∀ y ∈ σ.S, ∀ v ∈ σ.G y, UU R own y v
  w0 : ∀ y, y < n → σ.N y = 0 → σ.G y = own y
  d1 : ∀ y, y < n → σ.N y = -1 → ∃ j, σ.F y = some j ∧ j < n ∧ σ.N j = -1 ∧ ∀ v, v ∈ σ.G j ↔ UU R own y v
  gn : ∀ y, (σ.G y).Nodup

structure Ext (n : Nat) (σ σ' : St) (T : List Nat) : Prop where
  S : σ'.S = T ++ σ.S
  old : ∀ y ∈ σ.S, σ'.N y = σ.N y ∧ σ'.G y = σ.G y
  done : ∀ y, y < n → σ.N y = -1 → σ'.N y = -1 ∧ σ'.F y = σ.F y ∧ σ'.G y = σ.G y
  white : ∀ y, y < n → σ'.N y = 0 → σ.N y = 0

theorem Ext.trans {n : Nat} {σ σ' σ'' : St} {T T' : List Nat} (x : Ext n σ σ' T) (y : Ext n σ' σ'' T') : Ext n σ σ'' (T' ++ T) where
  S := by rw [y.S, x.S, List.append_assoc]
  old := fun z hz => by
    have h1 := x.old z hz
    have h2 := y.old z (by rw [x.S]; exact List.mem_append_right _ hz)
    exact ⟨h2.1.trans h1.1, h2.2.trans h1.2⟩
  done := fun z hn hz => by
    have h1 := x.done z hn hz
    have h2 := y.done z hn h1.1
    exact ⟨h2.1, h2.2.1.trans h1.2.1, h2.2.2.trans h1.2.2⟩
  white := fun z hn hz => x.white z hn (y.white z hn hz)
theorem Ext.refl (n : Nat) (σ : St) : Ext n σ σ [] := ⟨rfl, fun _ _ => ⟨rfl, rfl⟩, fun _ _ h => ⟨h, rfl, rfl⟩, fun _ _ h => h⟩

/-- what an edge out of the part above S leads to -/
def Edge (R : Nat → List Nat) (own : Nat → List Int) (σ : St) (x : Nat) (T S : List Nat) (y : Nat) : Prop :=
  (σ.N y = -1 ∧ ∀ v, UU R own y v → v ∈ σ.G x) ∨ y ∈ T ∨ (y ∈ S ∧ σ.N x ≤ σ.N y)

/-- the part of the stack that a call leaves -/
structure Seg (R : Nat → List Nat) (own : Nat → List Int) (σ : St) (x : Nat) (T S : List Nat) : Prop where
  both : ∀ z ∈ T, Reach R x z ∧ Reach R z x
  edge : ∀ z ∈ T, ∀ y ∈ R z, Edge R own σ x T S y
  owns : ∀ z ∈ T, ∀ v ∈ own z, v ∈ σ.G x

def Post (R : Nat → List Nat) (own : Nat → List Int) (n : Nat) (σ σ' : St) (x : Nat) : Prop :=
  ∃ T, Inv R own n σ' ∧ Ext n σ σ' T ∧ ((T = [] ∧ σ'.N x = -1) ∨ (x ∈ T ∧ (∃ z ∈ σ.S, Reach R x z) ∧ Seg R own σ' x T σ.S))

section
variable {R : Nat → List Nat} {own : Nat → List Int} {n : Nat} {σ σ' : St} {x y : Nat}

/-- one node's number and set changed -/
theorem Inv.change (h : Inv R own n σ) (hx : x ∈ σ.S) {v : Int} {g : List Int} (hv : 0 < v) (hvx : v ≤ σ.N x) (hD : ∃ A z B, σ.S = A ++ z :: B ∧ ((B.length + 1 : Nat) : Int) ≤ v ∧ Reach R x z) (hg : g.Nodup) (hs : ∀ u ∈ g, UU R own x u) :
    Inv R own n { σ with N := upd σ.N x v, G := upd σ.G x g } := by
  have hxn := h.lt x hx
  have hNx := (h.st x hxn).mp hx
  refine ⟨h.nd, h.lt, fun y hy => ?_, fun y hy => ?_, fun A y B e => ?_, fun y hy => ?_, h.fS, fun y hy => ?_, fun y hy => ?_, fun y hy => ?_, fun y => ?_⟩
  · show y ∈ σ.S ↔ 0 < upd σ.N x v y
    by_cases e : y = x
    · subst e; rw [upd_self]; exact ⟨fun _ => hv, fun _ => hx⟩
    · rw [upd_ne _ _ e]; exact h.st y hy
  · show upd σ.N x v y ≤ 0 → upd σ.N x v y = 0 ∨ upd σ.N x v y = -1
    by_cases e : y = x
    · subst e; rw [upd_self]; intro q; omega
    · rw [upd_ne _ _ e]; exact h.dn y hy
  · show upd σ.N x v y ≤ _
    have := h.B A y B e
    by_cases q : y = x
    · subst q; rw [upd_self]; omega
    · rw [upd_ne _ _ q]; exact this
  · show ∃ A z B, σ.S = A ++ z :: B ∧ ((B.length + 1 : Nat) : Int) ≤ upd σ.N x v y ∧ Reach R y z
    by_cases q : y = x
    · subst q; rw [upd_self]; exact hD
    · rw [upd_ne _ _ q]; exact h.D y hy
  · show ∀ u ∈ upd σ.G x g y, _
    by_cases q : y = x
    · subst q; rw [upd_self]; exact hs
    · rw [upd_ne _ _ q]; exact h.sS y hy
  · show upd σ.N x v y = 0 → upd σ.G x g y = own y
    by_cases q : y = x
    · subst q; rw [upd_self]; intro e; omega
    · rw [upd_ne _ _ q, upd_ne _ _ q]; exact h.w0 y hy
  · show upd σ.N x v y = -1 → ∃ j, σ.F y = some j ∧ j < n ∧ upd σ.N x v j = -1 ∧ ∀ u, u ∈ upd σ.G x g j ↔ UU R own y u
    by_cases q : y = x
    · subst q; rw [upd_self]; intro e; omega
    · rw [upd_ne _ _ q]
      intro e
      obtain ⟨j, h1, h2, h3, h4⟩ := h.d1 y hy e
      have hj : j ≠ x := fun q => by subst q; omega
      exact ⟨j, h1, h2, by rw [upd_ne _ _ hj]; exact h3, fun u => by rw [upd_ne _ _ hj]; exact h4 u⟩
  · show (upd σ.G x g y).Nodup
    by_cases q : y = x
    · subst q; rw [upd_self]; exact hg
    · rw [upd_ne _ _ q]; exact h.gn y

/-- the loop's state: T1 stands above x, P of the edges of x are done with -/
structure Lp (R : Nat → List Nat) (own : Nat → List Int) (n : Nat) (σ σ1 : St) (x : Nat) (T1 P : List Nat) : Prop where
  inv : Inv R own n σ1
  ext : Ext n σ σ1 (T1 ++ [x])
  both : ∀ z ∈ T1, Reach R x z ∧ Reach R z x
  edge : ∀ z ∈ T1, ∀ y ∈ R z, Edge R own σ1 x (T1 ++ [x]) σ.S y
  edgeX : ∀ y ∈ P, Edge R own σ1 x (T1 ++ [x]) σ.S y
  owns : ∀ z ∈ T1 ++ [x], ∀ v ∈ own z, v ∈ σ1.G x
  sub : ∀ y ∈ P, y ∈ R x

/-- a turn, behind the call -/
theorem turn_pure (hR : ∀ j, j < n → ∀ l ∈ R j, l < n) {σ1 σ2 : St} {T1 P T2 : List Nat} (hxn : x < n) (hyx : y ∈ R x) (L : Lp R own n σ σ1 x T1 P) (i2 : Inv R own n σ2) (e2 : Ext n σ1 σ2 T2)
    (hy : (T2 = [] ∧ σ2.N y ≠ 0) ∨ (y ∈ T2 ∧ (∃ z ∈ σ1.S, Reach R y z) ∧ Seg R own σ2 y T2 σ1.S)) (hpre : ∀ z ∈ σ.S, Reach R z x) :
    ∃ σ3, turnB x y σ2 = some σ3 ∧ Lp R own n σ σ3 x (T2 ++ T1) (P ++ [y]) := by
  have hyn := hR x hxn y hyx
  have hS1 : σ1.S = T1 ++ [x] ++ σ.S := L.ext.S
  have hx1 : x ∈ σ1.S := by rw [hS1]; simp
  have hx2 : x ∈ σ2.S := by rw [e2.S]; exact List.mem_append_right _ hx1
  have hNx := (i2.st x hxn).mp hx2
  have hNy : σ2.N y ≠ 0 := by
    rcases hy with ⟨_, h⟩ | ⟨h, _, _⟩
    · exact h
    · have := (i2.st y hyn).mp (by rw [e2.S]; exact List.mem_append_left _ h); omega
  have hedge : Reach R x y := Reach.step .refl hyx
  have hFx := i2.fS x hx2
  -- the owner of y's set, and what is in it
  obtain ⟨fy, hFy, hsound, hfyx⟩ : ∃ fy, σ2.F y = some fy ∧ (∀ u ∈ σ2.G fy, UU R own x u) ∧ ((σ2.N y = -1 ∧ ∀ v, UU R own y v → v ∈ σ2.G fy) ∨ (0 < σ2.N y ∧ fy = y)) := by
    by_cases hp : 0 < σ2.N y
    · have hyS := (i2.st y hyn).mpr hp
      refine ⟨y, i2.fS y hyS, fun u hu => ?_, .inr ⟨hp, rfl⟩⟩
      obtain ⟨k, hk, hu'⟩ := i2.sS y hyS u hu
      exact ⟨k, hedge.trans hk, hu'⟩
    · have hd : σ2.N y = -1 := by rcases i2.dn y hyn (by omega) with h | h; exact absurd h hNy; exact h
      obtain ⟨j, h1, h2, h3, h4⟩ := i2.d1 y hyn hd
      refine ⟨j, h1, fun u hu => ?_, .inl ⟨hd, fun v hv => (h4 v).mpr hv⟩⟩
      obtain ⟨k, hk, hu'⟩ := (h4 u).mp hu
      exact ⟨k, hedge.trans hk, hu'⟩
  -- the new number of x
  have hlow : ∃ v, (lower x y σ2) = { σ2 with N := upd σ2.N x v } ∧ 0 < v ∧ v ≤ σ2.N x ∧ (0 < σ2.N y → v ≤ σ2.N y) ∧ (∃ A z B, σ2.S = A ++ z :: B ∧ ((B.length + 1 : Nat) : Int) ≤ v ∧ Reach R x z) := by
    unfold lower
    by_cases hc : σ2.N y > 0 ∧ σ2.N y < σ2.N x
    · rw [if_pos hc]
      obtain ⟨A, z, B, h1, h2, h3⟩ := i2.D y ((i2.st y hyn).mpr hc.1)
      exact ⟨σ2.N y, rfl, hc.1, by omega, fun _ => Int.le_refl _, A, z, B, h1, h2, hedge.trans h3⟩
    · rw [if_neg hc]
      refine ⟨σ2.N x, ?_, hNx, Int.le_refl _, fun h => by omega, i2.D x hx2⟩
      have : upd σ2.N x (σ2.N x) = σ2.N := by
        funext q
        by_cases e : q = x
        · subst e; rw [upd_self]
        · rw [upd_ne _ _ e]
      rw [this]
  obtain ⟨v, hl, hv0, hvx, hvy, hvD⟩ := hlow
  refine ⟨{ σ2 with N := upd σ2.N x v, G := upd σ2.G x (unionI (σ2.G x) (σ2.G fy)) }, ?_, ?_⟩
  · unfold turnB
    rw [if_pos ⟨hNx, hNy⟩, hl]
    unfold joinS
    show (match σ2.F x, σ2.F y with | some fx, some fy => _ | _, _ => _) = _
    rw [hFx, hFy]
  have hsx := i2.sS x hx2
  have i3 := i2.change hx2 hv0 hvx hvD (g := unionI (σ2.G x) (σ2.G fy)) (unionI_nodup (i2.gn x)) fun u hu => by
    rcases mem_unionI.mp hu with q | q
    · exact hsx u q
    · exact hsound u q
  have hxS : x ∉ σ.S := by
    have := L.inv.nd
    rw [hS1, List.append_assoc, List.nodup_append] at this
    have h2 := this.2.1
    simp only [List.singleton_append, List.nodup_cons] at h2
    exact h2.1
  have hGx : ∀ u ∈ σ2.G x, u ∈ unionI (σ2.G x) (σ2.G fy) := fun u hu => mem_unionI.mpr (.inl hu)
  have hx1G : σ2.G x = σ1.G x := (e2.old x hx1).2
  have hx1N : σ2.N x = σ1.N x := (e2.old x hx1).1
  have hne : ∀ z ∈ σ.S, z ≠ x := fun z hz e => hxS (e ▸ hz)
  -- N of a node other than x
  have N3 : ∀ z, z ≠ x → upd σ2.N x v z = σ2.N z := fun z hz => upd_ne _ _ hz
  have doneNe : ∀ z, σ2.N z = -1 → z ≠ x := fun z hz e => by subst e; omega
  -- edges of σ1 are edges of the new state
  have lift : ∀ z, z < n → Edge R own σ1 x (T1 ++ [x]) σ.S z → Edge R own { σ2 with N := upd σ2.N x v, G := upd σ2.G x (unionI (σ2.G x) (σ2.G fy)) } x (T2 ++ T1 ++ [x]) σ.S z := by
    intro z hzn hz
    rcases hz with ⟨h1, h2⟩ | h | ⟨h1, h2⟩
    · obtain ⟨q1, _, _⟩ := e2.done z hzn h1
      refine .inl ⟨?_, fun u hu => ?_⟩
      · show upd σ2.N x v z = -1
        rw [N3 z (doneNe z q1)]; exact q1
      · show u ∈ upd σ2.G x _ x
        rw [upd_self]; exact hGx u (by rw [hx1G]; exact h2 u hu)
    · exact .inr (.inl (by rw [List.append_assoc]; exact List.mem_append_right _ h))
    · refine .inr (.inr ⟨h1, ?_⟩)
      show upd σ2.N x v x ≤ upd σ2.N x v z
      rw [upd_self, N3 z (hne z h1)]
      have := (e2.old z (by rw [hS1]; exact List.mem_append_right _ h1)).1
      rw [this]
      omega
  refine ⟨i3, ?_, ?_, ?_, ?_, ?_, ?_⟩
  · -- ext
    have e12 := L.ext.trans e2
    refine ⟨by show σ2.S = _; rw [e12.S]; simp, fun z hz => ?_, fun z hzn hz => ?_, fun z hzn hz => ?_⟩
    · show upd σ2.N x v z = σ.N z ∧ upd σ2.G x _ z = σ.G z
      rw [upd_ne _ _ (hne z hz), upd_ne _ _ (hne z hz)]; exact e12.old z hz
    · obtain ⟨q1, q2, q3⟩ := e12.done z hzn hz
      have := doneNe z q1
      show upd σ2.N x v z = -1 ∧ σ2.F z = σ.F z ∧ upd σ2.G x _ z = σ.G z
      rw [upd_ne _ _ this, upd_ne _ _ this]
      exact ⟨q1, q2, q3⟩
    · have hz' : upd σ2.N x v z = 0 := hz
      by_cases q : z = x
      · subst q; rw [upd_self] at hz'; omega
      · rw [upd_ne _ _ q] at hz'; exact e12.white z hzn hz'
  · -- both
    intro z hz
    rcases List.mem_append.mp hz with h | h
    · rcases hy with ⟨h0, _⟩ | ⟨_, ⟨q, hq1, hq2⟩, sg⟩
      · subst h0; cases h
      · obtain ⟨b1, b2⟩ := sg.both z h
        refine ⟨hedge.trans b1, b2.trans (hq2.trans ?_)⟩
        rw [hS1] at hq1
        rcases List.mem_append.mp hq1 with r | r
        · rcases List.mem_append.mp r with r | r
          · exact (L.both q r).2
          · rw [List.mem_singleton] at r; subst r; exact .refl
        · exact hpre q r
    · exact L.both z h
  · -- edges
    intro z hz q hq
    rcases List.mem_append.mp hz with h | h
    · rcases hy with ⟨h0, _⟩ | ⟨hyT, _, sg⟩
      · subst h0; cases h
      · have hyp : 0 < σ2.N y := (i2.st y hyn).mp (by rw [e2.S]; exact List.mem_append_left _ hyT)
        have hfe : fy = y := by rcases hfyx with ⟨h, _⟩ | ⟨_, h⟩; omega; exact h
        have hvy' := hvy hyp
        rcases sg.edge z h q hq with ⟨h1, h2⟩ | h1 | ⟨h1, h2⟩
        · refine .inl ⟨?_, fun u hu => ?_⟩
          · show upd σ2.N x v q = -1
            rw [N3 q (doneNe q h1)]; exact h1
          · show u ∈ upd σ2.G x _ x
            rw [upd_self, hfe]; exact mem_unionI.mpr (.inr (h2 u hu))
        · exact .inr (.inl (by rw [List.append_assoc]; exact List.mem_append_left _ h1))
        · rw [hS1] at h1
          rcases List.mem_append.mp h1 with r | r
          · exact .inr (.inl (by rw [List.append_assoc]; exact List.mem_append_right _ r))
          · refine .inr (.inr ⟨r, ?_⟩)
            show upd σ2.N x v x ≤ upd σ2.N x v q
            rw [upd_self, N3 q (hne q r)]
            omega
    · exact lift q (hR z (L.inv.lt z (by rw [hS1]; simp [h])) q hq) (L.edge z h q hq)
  · -- edges of x
    intro q hq
    rcases List.mem_append.mp hq with h | h
    · have hqn : q < n := hR x hxn q (L.sub q h)
      exact lift q hqn (L.edgeX q h)
    · rw [List.mem_singleton] at h
      subst h
      rcases hfyx with ⟨h1, h2⟩ | ⟨h1, h2⟩
      · refine .inl ⟨?_, fun u hu => ?_⟩
        · show upd σ2.N x v q = -1
          rw [N3 q (doneNe q h1)]; exact h1
        · show u ∈ upd σ2.G x _ x
          rw [upd_self]; exact mem_unionI.mpr (.inr (h2 u hu))
      · have hyS := (i2.st q hyn).mpr h1
        rw [e2.S, hS1] at hyS
        rcases List.mem_append.mp hyS with r | r
        · exact .inr (.inl (by rw [List.append_assoc]; exact List.mem_append_left _ r))
        · rcases List.mem_append.mp r with r | r
          · exact .inr (.inl (by rw [List.append_assoc]; exact List.mem_append_right _ r))
          · refine .inr (.inr ⟨r, ?_⟩)
            show upd σ2.N x v x ≤ upd σ2.N x v q
            rw [upd_self, N3 q (hne q r)]
            exact hvy h1
  · -- own sets
    intro z hz u hu
    show u ∈ upd σ2.G x _ x
    rw [upd_self]
    rw [List.append_assoc] at hz
    rcases List.mem_append.mp hz with h | h
    · rcases hy with ⟨h0, _⟩ | ⟨hyT, _, sg⟩
      · subst h0; cases h
      · have hyp : 0 < σ2.N y := (i2.st y hyn).mp (by rw [e2.S]; exact List.mem_append_left _ hyT)
        have hfe : fy = y := by rcases hfyx with ⟨h, _⟩ | ⟨_, h⟩; omega; exact h
        rw [hfe]
        exact mem_unionI.mpr (.inr (sg.owns z h u hu))
    · exact hGx u (by rw [hx1G]; exact L.owns z h u hu)
  · intro q hq
    rcases List.mem_append.mp hq with h | h
    · exact L.sub q h
    · rw [List.mem_singleton] at h; subst h; exact hyx
end
end Mine

end PartJ7a
section PartJ7b
set_option maxRecDepth 100000
set_option maxHeartbeats 1000000
set_option linter.unusedVariables false
namespace Mine

section
variable {R : Nat → List Nat} {own : Nat → List Int} {n : Nat} {σ σ' σ1 : St} {x y : Nat}

theorem Inv.begin (h : Inv R own n σ) (hxn : x < n) (hx : σ.N x = 0) : Inv R own n (begin' x σ) ∧ x ∉ σ.S := by
  have hxS : x ∉ σ.S := fun hm => by have := (h.st x hxn).mp hm; omega
  have hne : ∀ y ∈ σ.S, y ≠ x := fun y hy e => hxS (e ▸ hy)
  refine ⟨⟨?_, ?_, fun y hy => ?_, fun y hy => ?_, fun A y B e => ?_, fun y hy => ?_, fun y hy => ?_, fun y hy => ?_, fun y hy => ?_, fun y hy => ?_, h.gn⟩, hxS⟩
  · show (x :: σ.S).Nodup
    rw [List.nodup_cons]; exact ⟨hxS, h.nd⟩
  · intro y hy
    rcases List.mem_cons.mp hy with e | e
    · subst e; exact hxn
    · exact h.lt y e
  · show y ∈ x :: σ.S ↔ 0 < upd σ.N x ((σ.S.length + 1 : Nat) : Int) y
    by_cases e : y = x
    · subst e; rw [upd_self]; simp
    · rw [upd_ne _ _ e, List.mem_cons]
      exact ⟨fun q => (h.st y hy).mp (q.resolve_left e), fun q => .inr ((h.st y hy).mpr q)⟩
  · show upd σ.N x ((σ.S.length + 1 : Nat) : Int) y ≤ 0 → upd σ.N x ((σ.S.length + 1 : Nat) : Int) y = 0 ∨ upd σ.N x ((σ.S.length + 1 : Nat) : Int) y = -1
    by_cases e : y = x
    · subst e; rw [upd_self]; intro q; omega
    · rw [upd_ne _ _ e]; exact h.dn y hy
  · show upd σ.N x ((σ.S.length + 1 : Nat) : Int) y ≤ _
    have e' : x :: σ.S = A ++ y :: B := e
    cases A with
    | nil =>
      simp only [List.nil_append, List.cons.injEq] at e'
      obtain ⟨rfl, rfl⟩ := e'
      rw [upd_self]; exact Int.le_refl _
    | cons a A =>
      simp only [List.cons_append, List.cons.injEq] at e'
      have hy : y ∈ σ.S := by rw [e'.2]; simp
      rw [upd_ne _ _ (hne y hy)]
      exact h.B A y B e'.2
  · show ∃ A z B, x :: σ.S = A ++ z :: B ∧ ((B.length + 1 : Nat) : Int) ≤ upd σ.N x ((σ.S.length + 1 : Nat) : Int) y ∧ Reach R y z
    by_cases e : y = x
    · subst e; rw [upd_self]; exact ⟨[], y, σ.S, rfl, Int.le_refl _, .refl⟩
    · rw [upd_ne _ _ e]
      obtain ⟨A, z, B, h1, h2, h3⟩ := h.D y ((List.mem_cons.mp hy).resolve_left e)
      exact ⟨x :: A, z, B, by rw [h1]; rfl, h2, h3⟩
  · show upd σ.F x (some x) y = some y
    by_cases e : y = x
    · subst e; rw [upd_self]
    · rw [upd_ne _ _ e]; exact h.fS y ((List.mem_cons.mp hy).resolve_left e)
  · show ∀ v ∈ σ.G y, UU R own y v
    by_cases e : y = x
    · subst e
      intro v hv
      rw [h.w0 y hxn hx] at hv
      exact ⟨y, .refl, hv⟩
    · exact h.sS y ((List.mem_cons.mp hy).resolve_left e)
  · show upd σ.N x ((σ.S.length + 1 : Nat) : Int) y = 0 → σ.G y = own y
    by_cases e : y = x
    · subst e; intro _; exact h.w0 y hxn hx
    · rw [upd_ne _ _ e]; exact h.w0 y hy
  · show upd σ.N x ((σ.S.length + 1 : Nat) : Int) y = -1 → ∃ j, upd σ.F x (some x) y = some j ∧ j < n ∧ upd σ.N x ((σ.S.length + 1 : Nat) : Int) j = -1 ∧ ∀ v, v ∈ σ.G j ↔ UU R own y v
    by_cases e : y = x
    · subst e; rw [upd_self]; intro q; omega
    · rw [upd_ne _ _ e, upd_ne _ _ e]
      intro q
      obtain ⟨j, h1, h2, h3, h4⟩ := h.d1 y hy q
      have hj : j ≠ x := fun e => by subst e; omega
      exact ⟨j, h1, h2, by rw [upd_ne _ _ hj]; exact h3, h4⟩

theorem Lp.init (h : Inv R own n σ) (hxn : x < n) (hx : σ.N x = 0) : Lp R own n σ (begin' x σ) x [] [] := by
  obtain ⟨hi, hxS⟩ := h.begin hxn hx
  have hne : ∀ y ∈ σ.S, y ≠ x := fun y hy e => hxS (e ▸ hy)
  refine ⟨hi, ⟨rfl, fun y hy => ⟨upd_ne _ _ (hne y hy), rfl⟩, fun y hy hd => ?_, fun y hy hw => ?_⟩, by simp, by simp, by simp, fun z hz v hv => ?_, by simp⟩
  · have e : y ≠ x := fun e => by subst e; omega
    exact ⟨(upd_ne _ _ e).trans hd, upd_ne _ _ e, rfl⟩
  · have hw' : upd σ.N x ((σ.S.length + 1 : Nat) : Int) y = 0 := hw
    by_cases e : y = x
    · subst e; exact hx
    · rwa [upd_ne _ _ e] at hw'
  · simp at hz; subst hz
    show v ∈ σ.G z
    rw [h.w0 z hxn hx]; exact hv

def whites (n : Nat) (σ : St) : Nat := (List.range n).countP fun y => decide (σ.N y = 0)
theorem whites_mono (h : ∀ y, y < n → σ'.N y = 0 → σ.N y = 0) : whites n σ' ≤ whites n σ := by
  unfold whites
  refine List.countP_mono_left fun y hy q => decide_eq_true (h y (List.mem_range.mp hy) (of_decide_eq_true q))

def TravP (R : Nat → List Nat) (own : Nat → List Int) (n k : Nat) : Prop := ∀ σ x, Inv R own n σ → x < n → σ.N x = 0 → (∀ z ∈ σ.S, Reach R z x) → whites n σ ≤ k → ∃ σ', trav R k x σ = some σ' ∧ Post R own n σ σ' x

theorem turns_pure (hR : ∀ j, j < n → ∀ l ∈ R j, l < n) {k : Nat} (H : TravP R own n k) (hxn : x < n) (hpre : ∀ z ∈ σ.S, Reach R z x) :
    ∀ (ys : List Nat) (σ1 : St) (T1 P : List Nat), (∀ y ∈ ys, y ∈ R x) → Lp R own n σ σ1 x T1 P → whites n σ1 ≤ k → ∃ σ2 T2, turns (trav R k) x ys σ1 = some σ2 ∧ Lp R own n σ σ2 x T2 (P ++ ys)
  | [], σ1, T1, P, _, L, _ => ⟨σ1, T1, rfl, by rw [List.append_nil]; exact L⟩
  | y :: ys, σ1, T1, P, hys, L, hw => by
    have hyx := hys y (.head _)
    have hyn := hR x hxn y hyx
    have hS1 : σ1.S = T1 ++ [x] ++ σ.S := L.ext.S
    have hex : Reach R x y := Reach.step .refl hyx
    have hgo : ∃ σ2 T2, (if σ1.N y = 0 then trav R k y σ1 else some σ1) = some σ2 ∧ Inv R own n σ2 ∧ Ext n σ1 σ2 T2 ∧ ((T2 = [] ∧ σ2.N y ≠ 0) ∨ (y ∈ T2 ∧ (∃ z ∈ σ1.S, Reach R y z) ∧ Seg R own σ2 y T2 σ1.S)) := by
      by_cases hz : σ1.N y = 0
      · rw [if_pos hz]
        obtain ⟨σ2, h1, T2, h2, h3, h4⟩ := H σ1 y L.inv hyn hz (fun z hz => by
          rw [hS1] at hz
          rcases List.mem_append.mp hz with q | q
          · rcases List.mem_append.mp q with q | q
            · exact (L.both z q).2.trans hex
            · rw [List.mem_singleton] at q; subst q; exact hex
          · exact (hpre z q).trans hex) hw
        refine ⟨σ2, T2, h1, h2, h3, ?_⟩
        rcases h4 with ⟨q1, q2⟩ | q
        · exact .inl ⟨q1, by omega⟩
        · exact .inr q
      · rw [if_neg hz]
        exact ⟨σ1, [], rfl, L.inv, Ext.refl n σ1, .inl ⟨rfl, hz⟩⟩
    obtain ⟨σ2, T2, h1, i2, e2, h4⟩ := hgo
    obtain ⟨σ3, h5, L3⟩ := turn_pure hR hxn hyx L i2 e2 h4 hpre
    have hw3 : whites n σ3 ≤ k := by
      refine Nat.le_trans (whites_mono fun z hz q => ?_) hw
      have q' : σ3.N z = 0 := q
      -- through turnB the numbers that are 0 stay so
      refine e2.white z hz ?_
      unfold turnB at h5
      by_cases hc : σ2.N x > 0 ∧ σ2.N y ≠ 0
      · rw [if_pos hc] at h5
        unfold joinS at h5
        have hlN : σ3.N = (lower x y σ2).N := by
          cases hf : (lower x y σ2).F x with
          | none => rw [hf] at h5; cases h5
          | some a =>
            cases hg : (lower x y σ2).F y with
            | none => rw [hf, hg] at h5; cases h5
            | some b => rw [hf, hg] at h5; cases h5; rfl
        rw [hlN] at q'
        unfold lower at q'
        by_cases hd : σ2.N y > 0 ∧ σ2.N y < σ2.N x
        · rw [if_pos hd] at q'
          have q'' : upd σ2.N x (σ2.N y) z = 0 := q'
          by_cases e : z = x
          · subst e; rw [upd_self] at q''; omega
          · rwa [upd_ne _ _ e] at q''
        · rwa [if_neg hd] at q'
      · rw [if_neg hc] at h5; cases h5
    obtain ⟨σ4, T4, h6, L4⟩ := turns_pure hR H hxn hpre ys σ3 (T2 ++ T1) (P ++ [y]) (fun z hz => hys z (List.mem_cons_of_mem _ hz)) L3 hw3
    refine ⟨σ4, T4, ?_, by rw [List.append_assoc] at L4; exact L4⟩
    unfold turns turn
    rw [h1]
    show ((turnB x y σ2).bind (turns (trav R k) x ys)) = _
    rw [h5]; exact h6

theorem popTo_spec {fx : Nat} {S0 : List Nat} : ∀ {T1 : List Nat} {σ : St}, x ∉ T1 → ∃ σ', popTo x fx (T1 ++ x :: S0) σ = some σ' ∧ σ'.S = S0 ∧ σ'.G = σ.G ∧ (∀ z, σ'.N z = if z ∈ T1 ++ [x] then -1 else σ.N z) ∧ (∀ z, σ'.F z = if z ∈ T1 ++ [x] then some fx else σ.F z)
  | [], σ, _ => by
    refine ⟨{ σ with S := S0, N := upd σ.N x (-1), F := upd σ.F x (some fx) }, by simp [popTo], rfl, rfl, fun z => ?_, fun z => ?_⟩
    · show upd σ.N x (-1) z = _
      unfold upd; simp
    · show upd σ.F x (some fx) z = _
      unfold upd; simp
  | a :: T1, σ, h => by
    have ha : a ≠ x := fun e => h (by simp [e])
    have hc : a :: T1 ++ [x] = a :: (T1 ++ [x]) := rfl
    obtain ⟨σ', h1, h2, h3, h4, h5⟩ := popTo_spec (fx := fx) (S0 := S0) (T1 := T1) (σ := { σ with S := T1 ++ x :: S0, N := upd σ.N a (-1), F := upd σ.F a (some fx) }) (fun hm => h (List.mem_cons_of_mem _ hm))
    refine ⟨σ', ?_, h2, h3, fun z => ?_, fun z => ?_⟩
    · rw [List.cons_append]; unfold popTo; rw [if_neg ha]; exact h1
    · rw [h4 z, hc]
      show (if z ∈ T1 ++ [x] then (-1 : Int) else upd σ.N a (-1) z) = _
      by_cases q : z ∈ T1 ++ [x]
      · rw [if_pos q, if_pos (List.mem_cons_of_mem _ q)]
      · rw [if_neg q]
        by_cases e : z = a
        · subst e; rw [upd_self, if_pos (.head _)]
        · rw [upd_ne _ _ e, if_neg fun hm => (List.mem_cons.mp hm).elim e q]
    · rw [h5 z, hc]
      show (if z ∈ T1 ++ [x] then some fx else upd σ.F a (some fx) z) = _
      by_cases q : z ∈ T1 ++ [x]
      · rw [if_pos q, if_pos (List.mem_cons_of_mem _ q)]
      · rw [if_neg q]
        by_cases e : z = a
        · subst e; rw [upd_self, if_pos (.head _)]
        · rw [upd_ne _ _ e, if_neg fun hm => (List.mem_cons.mp hm).elim e q]
end
end Mine

end PartJ7b
section PartJ7c
set_option maxRecDepth 100000
set_option maxHeartbeats 1000000
set_option linter.unusedVariables false
namespace Mine

section
variable {R : Nat → List Nat} {own : Nat → List Int} {n : Nat} {σ σ' σ1 : St} {x y : Nat}

theorem suffix_split {A0 S A B : List Nat} {z : Nat} (h : A0 ++ S = A ++ z :: B) (hl : B.length + 1 ≤ S.length) : ∃ A', S = A' ++ z :: B := by
  have h1 : S <:+ (A0 ++ S) := ⟨A0, rfl⟩
  have h2 : (z :: B) <:+ (A0 ++ S) := ⟨A, h.symm⟩
  obtain ⟨A', hA⟩ := List.suffix_of_suffix_length_le h2 h1 (by simpa using hl)
  exact ⟨A', hA.symm⟩

theorem mem_split {S : List Nat} (h : y ∈ S) : ∃ A B, S = A ++ y :: B := List.append_of_mem h

/-- the number of a node in the lower part is low -/
theorem Inv.low (h : Inv R own n σ1) {A0 S : List Nat} (e : σ1.S = A0 ++ S) (hy : y ∈ S) : σ1.N y ≤ (S.length : Int) := by
  obtain ⟨A, B, hS⟩ := mem_split hy
  have := h.B (A0 ++ A) y B (by rw [e, hS, List.append_assoc])
  rw [hS, List.length_append, List.length_cons]
  omega

theorem close_pure (hn : n ≤ 12) (hxn : x < n) {T1 : List Nat} (L : Lp R own n σ σ1 x T1 (R x)) (hpre : ∀ z ∈ σ.S, Reach R z x) : ∃ σ', close' x ((σ.S.length + 1 : Nat) : Int) σ1 = some σ' ∧ Post R own n σ σ' x := by
  have i := L.inv
  have hS1 : σ1.S = (T1 ++ [x]) ++ σ.S := L.ext.S
  have hx1 : x ∈ σ1.S := by rw [hS1]; simp
  have hxT : x ∈ T1 ++ [x] := by simp
  have hnd : ((T1 ++ [x]) ++ σ.S).Nodup := hS1 ▸ i.nd
  have hdis : ∀ z ∈ T1 ++ [x], z ∉ σ.S := fun z hz hz' => (List.nodup_append.mp hnd).2.2 z hz z hz' rfl
  have hxT1 : x ∉ T1 := fun hm => by
    have := (List.nodup_append.mp hnd).1
    exact (List.nodup_append.mp this).2.2 x hm x (by simp) rfl
  have hpos : ∀ z ∈ T1 ++ [x], 0 < σ1.N z := fun z hz => (i.st z (i.lt z (by rw [hS1]; exact List.mem_append_left _ hz))).mp (by rw [hS1]; exact List.mem_append_left _ hz)
  have hboth : ∀ z ∈ T1 ++ [x], Reach R x z ∧ Reach R z x := fun z hz => by
    rcases List.mem_append.mp hz with q | q
    · exact L.both z q
    · rw [List.mem_singleton] at q; subst q; exact ⟨.refl, .refl⟩
  have hedge : ∀ z ∈ T1 ++ [x], ∀ q ∈ R z, Edge R own σ1 x (T1 ++ [x]) σ.S q := fun z hz q hq => by
    rcases List.mem_append.mp hz with r | r
    · exact L.edge z r q hq
    · rw [List.mem_singleton] at r; subst r; exact L.edgeX q hq
  have hNle : σ1.N x ≤ ((σ.S.length + 1 : Nat) : Int) := i.B T1 x σ.S (by rw [hS1, List.append_assoc]; rfl)
  have hFx := i.fS x hx1
  have hlen : σ1.S.length ≤ 12 := Nat.le_trans (bnd_len i.nd fun z hz => i.lt z hz) hn
  unfold close'
  by_cases hd : σ1.N x = ((σ.S.length + 1 : Nat) : Int)
  case neg =>
    rw [if_neg hd]
    refine ⟨σ1, rfl, T1 ++ [x], i, L.ext, .inr ⟨hxT, ?_, ⟨hboth, hedge, L.owns⟩⟩⟩
    obtain ⟨A, z, B, h1, h2, h3⟩ := i.D x hx1
    obtain ⟨A', hA'⟩ := suffix_split (hS1.symm.trans h1) (by omega)
    exact ⟨z, by rw [hA']; simp, h3⟩
  rw [if_pos hd, hFx]
  dsimp only
  rw [if_pos (by omega)]
  obtain ⟨σ', hp, hS', hG', hN', hF'⟩ := popTo_spec (x := x) (fx := x) (S0 := σ.S) (T1 := T1) (σ := σ1) hxT1
  refine ⟨σ', by rw [show popTo x x σ1.S σ1 = popTo x x (T1 ++ x :: σ.S) σ1 by rw [hS1, List.append_assoc]; rfl]; exact hp, [], ?_, ?_, .inl ⟨rfl, by rw [hN' x, if_pos hxT]⟩⟩
  · -- what can be come to from x
    have hcompl : ∀ k, Reach R x k → k ∈ T1 ++ [x] ∨ ∃ q, (∀ v, UU R own q v → v ∈ σ1.G x) ∧ Reach R q k := by
      intro k hk
      induction hk with
      | refl => exact .inl hxT
      | @step a b _ hb ih =>
        rcases ih with h | ⟨q, h1, h2⟩
        · rcases hedge a h b hb with ⟨_, h2⟩ | h2 | ⟨h2, h3⟩
          · exact .inr ⟨b, h2, .refl⟩
          · exact .inl h2
          · exfalso
            have := i.low hS1 h2
            omega
        · exact .inr ⟨q, h1, h2.step hb⟩
    have hGx : ∀ v, v ∈ σ1.G x ↔ UU R own x v := fun v => ⟨i.sS x hx1 v, fun ⟨k, hk, hv⟩ => by
      rcases hcompl k hk with h | ⟨q, h1, h2⟩
      · exact L.owns k h v hv
      · exact h1 v ⟨k, h2, hv⟩⟩
    have Nold : ∀ z, z ∉ T1 ++ [x] → σ'.N z = σ1.N z := fun z hz => by rw [hN' z, if_neg hz]
    have Fold : ∀ z, z ∉ T1 ++ [x] → σ'.F z = σ1.F z := fun z hz => by rw [hF' z, if_neg hz]
    have notT : ∀ z ∈ σ.S, z ∉ T1 ++ [x] := fun z hz hz' => hdis z hz' hz
    have inS1 : ∀ z ∈ σ.S, z ∈ σ1.S := fun z hz => by rw [hS1]; exact List.mem_append_right _ hz
    refine ⟨?_, fun z hz => ?_, fun z hz => ?_, fun z hz => ?_, fun A z B e => ?_, fun z hz => ?_, fun z hz => ?_, fun z hz => ?_, fun z hz => ?_, fun z hz => ?_, fun z => by rw [hG']; exact i.gn z⟩
    · rw [hS']; exact (List.nodup_append.mp hnd).2.1
    · rw [hS'] at hz; exact i.lt z (inS1 z hz)
    · rw [hS']
      by_cases h : z ∈ T1 ++ [x]
      · rw [hN' z, if_pos h]
        exact ⟨fun q => absurd q (hdis z h), fun q => by omega⟩
      · rw [Nold z h]
        constructor
        · intro q; exact (i.st z hz).mp (inS1 z q)
        · intro q
          have := (i.st z hz).mpr q
          rw [hS1] at this
          exact (List.mem_append.mp this).resolve_left h
    · by_cases h : z ∈ T1 ++ [x]
      · rw [hN' z, if_pos h]; intro _; exact .inr rfl
      · rw [Nold z h]; exact i.dn z hz
    · rw [hS'] at e
      have hz : z ∈ σ.S := by rw [e]; simp
      rw [Nold z (notT z hz)]
      exact i.B ((T1 ++ [x]) ++ A) z B (by rw [hS1, e, List.append_assoc (T1 ++ [x])])
    · rw [hS'] at hz ⊢
      rw [Nold z (notT z hz)]
      obtain ⟨A, q, B, h1, h2, h3⟩ := i.D z (inS1 z hz)
      have hlow := i.low hS1 hz
      obtain ⟨A', hA'⟩ := suffix_split (hS1.symm.trans h1) (by omega)
      exact ⟨A', q, B, hA', h2, h3⟩
    · rw [hS'] at hz
      rw [Fold z (notT z hz)]; exact i.fS z (inS1 z hz)
    · rw [hS'] at hz
      rw [hG']; exact i.sS z (inS1 z hz)
    · by_cases h : z ∈ T1 ++ [x]
      · rw [hN' z, if_pos h]; intro q; omega
      · rw [Nold z h, hG']; exact i.w0 z hz
    · by_cases h : z ∈ T1 ++ [x]
      · intro _
        refine ⟨x, by rw [hF' z, if_pos h], hxn, by rw [hN' x, if_pos hxT], fun v => ?_⟩
        rw [hG', hGx v]
        obtain ⟨b1, b2⟩ := hboth z h
        exact ⟨fun ⟨k, hk, hv⟩ => ⟨k, b2.trans hk, hv⟩, fun ⟨k, hk, hv⟩ => ⟨k, b1.trans hk, hv⟩⟩
      · rw [Nold z h, Fold z h]
        intro q
        obtain ⟨j, h1, h2, h3, h4⟩ := i.d1 z hz q
        have hj : j ∉ T1 ++ [x] := fun hm => by have := hpos j hm; omega
        exact ⟨j, h1, h2, by rw [Nold j hj]; exact h3, fun v => by rw [hG']; exact h4 v⟩
  · refine ⟨by rw [hS']; rfl, fun z hz => ?_, fun z hzn hz => ?_, fun z hzn hz => ?_⟩
    · have hzT : z ∉ T1 ++ [x] := fun h => hdis z h hz
      rw [hN' z, if_neg hzT, hG']
      exact L.ext.old z hz
    · obtain ⟨q1, q2, q3⟩ := L.ext.done z hzn hz
      have hzT : z ∉ T1 ++ [x] := fun h => by have := hpos z h; omega
      rw [hN' z, if_neg hzT, hF' z, if_neg hzT, hG']
      exact ⟨q1, q2, q3⟩
    · by_cases h : z ∈ T1 ++ [x]
      · rw [hN' z, if_pos h] at hz; omega
      · rw [hN' z, if_neg h] at hz; exact L.ext.white z hzn hz

theorem trav_pure (hn : n ≤ 12) (hR : ∀ j, j < n → ∀ l ∈ R j, l < n) : ∀ k, TravP R own n k
  | 0 => fun σ x hi hxn hx hpre hw => by
    exfalso
    have : 0 < whites n σ := by
      unfold whites
      rw [List.countP_pos_iff]
      exact ⟨x, List.mem_range.mpr hxn, by simp [hx]⟩
    omega
  | k + 1 => fun σ x hi hxn hx hpre hw => by
    have L := Lp.init hi hxn hx
    have hw' : whites n (begin' x σ) ≤ k := by
      have : whites n (begin' x σ) + 1 ≤ whites n σ := by
        unfold whites
        refine countP_strict (fun y hy => ?_) ⟨x, List.mem_range.mpr hxn, by simp [hx], ?_⟩
        · have hy' : upd σ.N x ((σ.S.length + 1 : Nat) : Int) y = 0 := of_decide_eq_true hy
          by_cases e : y = x
          · subst e; exact decide_eq_true hx
          · rw [upd_ne _ _ e] at hy'; exact decide_eq_true hy'
        · refine decide_eq_false ?_
          show ¬ upd σ.N x ((σ.S.length + 1 : Nat) : Int) x = 0
          rw [upd_self]; omega
      omega
    obtain ⟨σ1, T1, h1, L1⟩ := turns_pure hR (trav_pure hn hR k) hxn hpre (R x) (begin' x σ) [] [] (fun y hy => hy) L hw'
    obtain ⟨σ', h2, hP⟩ := close_pure hn hxn (by simpa using L1) hpre
    refine ⟨σ', ?_, hP⟩
    unfold trav
    have hlen : σ.S.length ≤ 12 := Nat.le_trans (bnd_len hi.nd fun z hz => hi.lt z hz) hn
    rw [if_neg (by omega), h1]
    exact h2

theorem digs_pure (hn : n ≤ 12) (hR : ∀ j, j < n → ∀ l ∈ R j, l < n) : ∀ (ks : List Nat) (σ : St), (∀ x ∈ ks, x < n) → Inv R own n σ → σ.S = [] →
    ∃ σ', digs R 13 ks σ = some σ' ∧ Inv R own n σ' ∧ σ'.S = [] ∧ (∀ y, y < n → σ.N y = -1 → σ'.N y = -1) ∧ ∀ x ∈ ks, σ'.N x = -1
  | [], σ, _, hi, hS => ⟨σ, rfl, hi, hS, fun _ _ h => h, by simp⟩
  | x :: ks, σ, hk, hi, hS => by
    have hxn := hk x (.head _)
    have hgo : ∃ σ1, (if σ.N x = 0 then trav R 13 x σ else some σ) = some σ1 ∧ Inv R own n σ1 ∧ σ1.S = [] ∧ σ1.N x = -1 ∧ ∀ y, y < n → σ.N y = -1 → σ1.N y = -1 := by
      by_cases hz : σ.N x = 0
      · rw [if_pos hz]
        have hw : whites n σ ≤ 13 := by
          have := List.countP_le_length (p := fun y => decide (σ.N y = 0)) (l := List.range n)
          rw [List.length_range] at this
          exact Nat.le_trans this (by omega)
        obtain ⟨σ1, h1, T, i1, e1, h4⟩ := trav_pure hn hR 13 σ x hi hxn hz (by rw [hS]; simp) hw
        rcases h4 with ⟨q1, q2⟩ | ⟨_, ⟨z, hz', _⟩, _⟩
        · exact ⟨σ1, h1, i1, by rw [e1.S, q1, hS]; rfl, q2, fun y hy h => (e1.done y hy h).1⟩
        · rw [hS] at hz'; cases hz'
      · rw [if_neg hz]
        have hnp : ¬ 0 < σ.N x := fun h => by have := (hi.st x hxn).mpr h; rw [hS] at this; cases this
        refine ⟨σ, rfl, hi, hS, ?_, fun _ _ h => h⟩
        rcases hi.dn x hxn (by omega) with h | h
        · exact absurd h hz
        · exact h
    obtain ⟨σ1, h1, i1, hS1, hx1, hd1⟩ := hgo
    obtain ⟨σ', h2, i2, hS2, hd2, hall⟩ := digs_pure hn hR ks σ1 (fun z hz => hk z (List.mem_cons_of_mem _ hz)) i1 hS1
    refine ⟨σ', ?_, i2, hS2, fun y hy h => hd2 y hy (hd1 y hy h), fun z hz => ?_⟩
    · unfold digs; rw [h1]; exact h2
    · rcases List.mem_cons.mp hz with e | e
      · subst e; exact hd2 z hxn hx1
      · exact hall z e

theorem inv_start (hg : ∀ y, (own y).Nodup) : Inv R own n (st0 own) := by
  refine ⟨List.nodup_nil, by simp [st0], fun y _ => by simp [st0], fun y _ _ => .inl rfl, fun A y B e => ?_, by simp [st0], by simp [st0], by simp [st0], fun _ _ _ => rfl, fun y _ h => ?_, hg⟩
  · have e' : ([] : List Nat) = A ++ y :: B := e
    simp at e'
  · exact absurd h (by simp [st0])
end

theorem pure_law (M : List Int) (hd : Int) (n : Nat) (h1 : 1 ≤ n) (h12 : n ≤ 12) (hM : 1 ≤ M.length) : ∃ σ, digs (leadOf M n) 13 (ksOf hd n) (st0 (ownS M)) = some σ ∧ ∀ i, i < n → Right M n σ i := by
  have hg : ∀ y, (ownS M y).Nodup := fun y => unionI_nodup List.nodup_nil
  obtain ⟨σ, h2, hi, _, _, hall⟩ := digs_pure (R := leadOf M n) (own := ownS M) h12 (fun j _ => leadOf_lt h1) (ksOf hd n) (st0 (ownS M)) (fun x hx => ksOf_mem.mp hx) (inv_start hg) rfl
  refine ⟨σ, h2, fun i hin => ?_⟩
  obtain ⟨j, q1, q2, q3, q4⟩ := hi.d1 i hin (hall i (ksOf_mem.mpr hin))
  refine ⟨j, q1, hi.gn j, fun v => ?_⟩
  rw [q4 v]
  unfold UU
  refine exists_congr fun k => and_congr_right fun _ => ?_
  unfold ownS
  rw [mem_unionI]
  simp
end Mine

end PartJ7c
section PartJHead
open PySem PySem.W PyProof.Rows
set_option maxRecDepth 100000
set_option maxHeartbeats 8000000
namespace Mine
open_top hd for PySem.Challenge.rw_jo0031_01
end Mine

end PartJHead
section PartJ8
open PySem PySem.W PyProof.Rows
set_option maxRecDepth 100000
set_option maxHeartbeats 8000000
set_option linter.unusedVariables false
namespace Mine

theorem TpL.ofGlob {N : Nat} {mg mb : Str → Option Value} {defs : List DefItem} {consts : List (Str × PyData)} {objs : List (Str × (Obj → Prop))} {names : List Str} {h : Heap} {p1 p2 : Pos} (G : Glob N mg mb defs consts objs names h)
    (ht : (⟨Str.ofString "traverse", tParams, tBody, tScope, p1⟩ : DefItem) ∈ defs) (hd : (⟨Str.ofString "digraph", dParams, dBody, dScope, p2⟩ : DefItem) ∈ defs)
    (n1 : Str.ofString "len" ∉ names) (n2 : Str.ofString "range" ∉ names) (n3 : Str.ofString "sorted" ∉ names) (n4 : Str.ofString "set" ∉ names) : ∃ fT fD, TpL fT fD h := by
  obtain ⟨f, c', o, pm, doc, _, _, h3, h4, h5, h6⟩ := (G.made _ ht).plain rfl
  obtain ⟨f2, c2, o2, pm2, doc2, _, _, k3, k4, k5, k6⟩ := (G.made _ hd).plain rfl
  have bi : ∀ (x : Str) (v : Value), bootBuiltins x = some v → x ∉ names → x ∉ bootMainNames → x ≠ "__name__" → mg x = none ∧ mb x = some v := fun x v hv h1 h2 h3 => ⟨G.free x h1 h2, (G.builtins x h3).trans hv⟩
  have b1 := bi (Str.ofString "len") (.builtin "len") (by rfl) n1 (by decide) (by decide)
  have b2 := bi (Str.ofString "range") (.type "range") (by rfl) n2 (by decide) (by decide)
  have b3 := bi (Str.ofString "sorted") (.builtin "sorted") (by rfl) n3 (by decide) (by decide)
  have b4 := bi (Str.ofString "set") (.type "set") (by rfl) n4 (by decide) (by decide)
  exact ⟨f, f2, ⟨⟨mg, mb, o, pm, .ref c', doc, G.g, G.b, b1.1, b1.2, h3, h4, h5, h6⟩, G.nolimit⟩, mg, mb, o2, pm2, .ref c2, doc2, G.g, G.b, b1, b2, b3, b4, k3, k4, k5, k6⟩

theorem callerDepth (e : Env) : (callerA.deeper e).depth + 13 + 1 < recursionLimit := by
  show 1 + claimMargin + 1 + 13 + 1 < recursionLimit
  decide
theorem callerUnits (e : Env) : (callerA.deeper e).units + 100 < cLine := by
  show 4 + 3 + 100 < cLine
  decide
theorem lCells_eq (L : Addr) : lCells L = [(Str.ofString "come", L + 7), (Str.ofString "place", L + 6), (Str.ofString "own", L + 5), (Str.ofString "leads", L + 4), (Str.ofString "numbers", L + 3), (Str.ofString "nodes", L + 2), (Str.ofString "head", L + 1)] := rfl
theorem lCells_apart (L : Addr) : (lCells L).Pairwise fun x y => x.2 ≠ y.2 := by
  have h : ∀ a b : Nat, a ≠ b → (L + a : Nat) ≠ L + b := fun a b hab e => hab (Nat.add_left_cancel e)
  rw [lCells_eq]
  simp only [List.pairwise_cons, List.mem_cons, List.not_mem_nil, or_false, forall_eq_or_imp, forall_eq, List.Pairwise.nil, and_true, false_imp_iff, implies_true]
  refine ⟨⟨?_, ?_, ?_, ?_, ?_, ?_⟩, ⟨?_, ?_, ?_, ?_, ?_⟩, ⟨?_, ?_, ?_, ?_⟩, ⟨?_, ?_, ?_⟩, ⟨?_, ?_⟩, ?_⟩ <;> exact h _ _ (by decide)
theorem lCells_above (L : Addr) : ∀ n c, (n, c) ∈ lCells L → L < c := by
  intro n c h
  rw [lCells_eq] at h
  simp only [List.mem_cons, Prod.mk.injEq, List.not_mem_nil, or_false] at h
  rcases h with ⟨_, rfl⟩ | ⟨_, rfl⟩ | ⟨_, rfl⟩ | ⟨_, rfl⟩ | ⟨_, rfl⟩ | ⟨_, rfl⟩ | ⟨_, rfl⟩ <;> exact Nat.lt_add_of_pos_right (by decide)
end Mine

end PartJ8
open PySem PySem.W PyProof.Rows
set_option maxRecDepth 100000 in
set_option maxHeartbeats 8000000 in
theorem PySem.Challenge.cw_jo0031_01_holds : PySem.Challenge.rw_jo0031_01.Holds :=
  Mine.hd (by
  k_go0
  rename_i w0 s0 s1 mg mb G Y fa o pm doc ho hg KX X V GL T B TE TW w16 w15 M w14 w13 hcd ns hs hlay0 hL1 hr1 hl2 w11 w10 scr vs w7 hL ra w1 r0 hI hr hc1 hc0 K0 hD h1 tk1 F c6 c5 c4 c3 c2 c1 c0 l5 l4 l3 l2 l1 l0 r0' N0 X0
  obtain ⟨fT, fD, TL⟩ := Mine.TpL.ofGlob (p1 := ⟨10, 0, 32, 21⟩) (p2 := ⟨2, 0, 9, 12⟩) GL (List.mem_of_getElem? (i := 1) rfl) (List.mem_of_getElem? (i := 0) rfl) (by decide) (by decide) (by decide) (by decide)
  have X' : Cl s1.heap.objs.size (Mine.lCells s1.heap.objs.size) h1 _ := Cl.of_news (own := []) N0 X0 (Mine.lCells_apart _) (Mine.lCells_above _)
  refine Mine.law_walk (s := { s1 with heap := h1, toks := tk1 }) (L := s1.heap.objs.size) TL rfl (Mine.callerDepth _) (Mine.callerUnits _) F X' hg rfl hL hI (by omega) Mine.pure_law fun s' m' F' hg' ho' => ?_
  kc_bool
  refine goodW_bool F' hg' (raisesW_false ?_) ?_ ho'
  · wrow_none_raised
  · kc_post)
