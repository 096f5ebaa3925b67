import PyProof.Rows.All
import Wide.All
import OpenK.AllK
import Wide.FinOn
import PySem.Challenge.RW_sw0008_01
set_option Elab.async false
set_option bootstrap.genMatcherCode false
set_option compiler.extract_closed false
set_option linter.unusedVariables false
set_option linter.unusedSimpArgs false
set_option linter.unusedSectionVars false
section
open PySem PySem.W PyProof.Rows
set_option maxRecDepth 100000
set_option maxHeartbeats 0
namespace Mine
open_top hd for PySem.Challenge.rw_sw0008_01
end Mine
end
section
open PySem PySem.W PyProof.Rows PySem.Calls PySem.Spec
set_option maxRecDepth 10000
namespace Mine

/-- pure data -/
inductive D where
  | none
  | bool (b : Bool)
  | int (i : Int)
  | str (x : Str)
  | list (ds : List D)
  | tup (ds : List D)
  | dict (kvs : List (Str × D))

/-- what is fixed for the whole law: the ground heap and what is known of it -/
structure Cx where
  prog : Program
  w : World
  K : Frag
  h₀ : Heap
  mg : Str → Option Value
  mb : Str → Option Value
  inK : K.In h₀
  g : h₀.Ns mainGlobals mg
  b : h₀.Ns builtinsNs mb
  nolimit : h₀.NoLimit
  bi : ∀ x : Str, x ≠ "__name__" → mb x = bootBuiltins x

noncomputable def listO (vs : List Value) (n : Nat) : Obj := { cls := .type "list", data := .seq vs.toArray n }
noncomputable def tupO (vs : List Value) (n : Nat) : Obj := { cls := .type "tuple", data := .seq vs.toArray n }

section
variable (C : Cx)
noncomputable abbrev Cx.dictOf (h : Heap) (a : Addr) (kvs : List (Str × Value)) : Prop := h.DictOf (PySem.strKind C.prog C.w) a kvs

mutual
/-- the value bears the datum, by objects that lie outside X -/
inductive Rep (X : List Addr) (h : Heap) : Value → D → Prop
  | none : Rep X h .none .none
  | bool (b : Bool) : Rep X h (.bool b) (.bool b)
  | int (i : Int) (t : Tok) : Rep X h (.int i t) (.int i)
  | str (x : Str) (t : Tok) : PyData.strOk x = true → Rep X h (.str x t) (.str x)
  | list {a : Addr} {vs : List Value} {n : Nat} {ds : List D} : a ∉ X → h.get? a = some (listO vs n) → RepL X h vs ds → Rep X h (.ref a) (.list ds)
  | tup {a : Addr} {vs : List Value} {n : Nat} {ds : List D} : a ∉ X → h.get? a = some (tupO vs n) → RepL X h vs ds → Rep X h (.ref a) (.tup ds)
  | dict {a : Addr} {kvs : List (Str × Value)} {ds : List (Str × D)} : a ∉ X → a ≠ sysModules → C.dictOf h a kvs → RepD X h kvs ds → Rep X h (.ref a) (.dict ds)
inductive RepL (X : List Addr) (h : Heap) : List Value → List D → Prop
  | nil : RepL X h [] []
  | cons {v : Value} {d : D} {vs : List Value} {ds : List D} : Rep X h v d → RepL X h vs ds → RepL X h (v :: vs) (d :: ds)
inductive RepD (X : List Addr) (h : Heap) : List (Str × Value) → List (Str × D) → Prop
  | nil : RepD X h [] []
  | cons {k : Str} {v : Value} {d : D} {vs : List (Str × Value)} {ds : List (Str × D)} : Rep X h v d → RepD X h vs ds → RepD X h ((k, v) :: vs) ((k, d) :: ds)
end
end

/-- the change of heap that data outside X live through -/
structure Keep (X X' : List Addr) (h h' : Heap) : Prop where
  get : ∀ b o, b ∉ X → h.get? b = some o → h'.get? b = some o
  sub : ∀ b o, h.get? b = some o → b ∈ X' → b ∈ X

theorem Keep.all {X : List Addr} {h h' : Heap} (k : ∀ b o, h.get? b = some o → h'.get? b = some o) : Keep X X h h' := ⟨fun b o _ e => k b o e, fun _ _ _ m => m⟩

theorem dictOf_at {C : Cx} {h h' : Heap} {a : Addr} {kvs : List (Str × Value)} (x : C.dictOf h a kvs) (e : ∀ o, h.get? a = some o → h'.get? a = some o) : C.dictOf h' a kvs :=
  let ⟨o, es, ep, ho, r⟩ := x; ⟨o, es, ep, e o ho, r⟩
theorem dictOf_get {C : Cx} {h : Heap} {a : Addr} {kvs : List (Str × Value)} (x : C.dictOf h a kvs) : ∃ o, h.get? a = some o := let ⟨o, _, _, ho, _⟩ := x; ⟨o, ho⟩

section
variable {C : Cx} {X X' : List Addr} {h h' : Heap}
theorem Rep.fold {P : Value → D → Prop} {Q : List Value → List D → Prop} {R : List (Str × Value) → List (Str × D) → Prop} (h0 : P .none .none) (h1 : ∀ b, P (.bool b) (.bool b)) (h2 : ∀ i t, P (.int i t) (.int i)) (h3 : ∀ x t, PyData.strOk x = true → P (.str x t) (.str x))
    (h4 : ∀ {a : Addr} {vs : List Value} {n : Nat} {ds : List D}, a ∉ X → h.get? a = some (listO vs n) → Q vs ds → P (.ref a) (.list ds)) (h5 : ∀ {a : Addr} {vs : List Value} {n : Nat} {ds : List D}, a ∉ X → h.get? a = some (tupO vs n) → Q vs ds → P (.ref a) (.tup ds))
    (h6 : ∀ {a : Addr} {kvs : List (Str × Value)} {ds : List (Str × D)}, a ∉ X → a ≠ sysModules → C.dictOf h a kvs → R kvs ds → P (.ref a) (.dict ds)) (n1 : Q [] []) (c1 : ∀ {v d vs ds}, P v d → Q vs ds → Q (v :: vs) (d :: ds)) (n2 : R [] []) (c2 : ∀ {k v d vs ds}, P v d → R vs ds → R ((k, v) :: vs) ((k, d) :: ds)) :
    (∀ {v d}, Rep C X h v d → P v d) ∧ (∀ {vs ds}, RepL C X h vs ds → Q vs ds) ∧ (∀ {vs ds}, RepD C X h vs ds → R vs ds) :=
  ⟨fun r => Rep.rec (motive_1 := fun v d _ => P v d) (motive_2 := fun v d _ => Q v d) (motive_3 := fun v d _ => R v d) h0 h1 h2 h3 (fun a b _ q => h4 a b q) (fun a b _ q => h5 a b q) (fun a b c _ q => h6 a b c q) n1 (fun _ _ a b => c1 a b) n2 (fun _ _ a b => c2 a b) r,
    fun r => RepL.rec (motive_1 := fun v d _ => P v d) (motive_2 := fun v d _ => Q v d) (motive_3 := fun v d _ => R v d) h0 h1 h2 h3 (fun a b _ q => h4 a b q) (fun a b _ q => h5 a b q) (fun a b c _ q => h6 a b c q) n1 (fun _ _ a b => c1 a b) n2 (fun _ _ a b => c2 a b) r,
    fun r => RepD.rec (motive_1 := fun v d _ => P v d) (motive_2 := fun v d _ => Q v d) (motive_3 := fun v d _ => R v d) h0 h1 h2 h3 (fun a b _ q => h4 a b q) (fun a b _ q => h5 a b q) (fun a b c _ q => h6 a b c q) n1 (fun _ _ a b => c1 a b) n2 (fun _ _ a b => c2 a b) r⟩
theorem Rep.keeps (k : Keep X X' h h') : (∀ {v : Value} {d : D}, Rep C X h v d → Rep C X' h' v d) ∧ (∀ {vs : List Value} {ds : List D}, RepL C X h vs ds → RepL C X' h' vs ds) ∧ (∀ {vs : List (Str × Value)} {ds : List (Str × D)}, RepD C X h vs ds → RepD C X' h' vs ds) :=
  Rep.fold .none .bool .int .str (fun ha e q => .list (fun m => ha (k.sub _ _ e m)) (k.get _ _ ha e) q) (fun ha e q => .tup (fun m => ha (k.sub _ _ e m)) (k.get _ _ ha e) q)
    (fun ha hs e q => .dict (fun m => ha (let ⟨o, ho⟩ := dictOf_get e; k.sub _ o ho m)) hs (dictOf_at e fun o ho => k.get _ _ ha ho) q) .nil .cons .nil .cons
theorem Rep.keep (k : Keep X X' h h') {v : Value} {d : D} (r : Rep C X h v d) : Rep C X' h' v d := (Rep.keeps k).1 r
theorem RepL.keep (k : Keep X X' h h') {vs : List Value} {ds : List D} (r : RepL C X h vs ds) : RepL C X' h' vs ds := (Rep.keeps k).2.1 r
theorem RepD.keep (k : Keep X X' h h') {vs : List (Str × Value)} {ds : List (Str × D)} (r : RepD C X h vs ds) : RepD C X' h' vs ds := (Rep.keeps k).2.2 r
theorem RepL.length {vs : List Value} {ds : List D} (r : RepL C X h vs ds) : vs.length = ds.length := by
  induction vs generalizing ds with
  | nil => cases r; rfl
  | cons v vs ih => cases r with | cons _ r => rw [List.length_cons, List.length_cons, ih r]
theorem RepL.inv0 {vs : List Value} (r : RepL C X h vs []) : vs = [] := by cases r; rfl
theorem RepL.invC {vs : List Value} {d : D} {ds : List D} (r : RepL C X h vs (d :: ds)) : ∃ v ws, vs = v :: ws ∧ Rep C X h v d ∧ RepL C X h ws ds := by
  cases r with | cons a q => exact ⟨_, _, rfl, a, q⟩
theorem RepL.inv1 {vs : List Value} {d : D} (r : RepL C X h vs [d]) : ∃ v, vs = [v] ∧ Rep C X h v d := by
  obtain ⟨v, ws, rfl, a, q⟩ := r.invC
  exact ⟨v, congrArg _ q.inv0, a⟩
theorem RepL.inv2 {vs : List Value} {d e : D} (r : RepL C X h vs [d, e]) : ∃ v w, vs = [v, w] ∧ Rep C X h v d ∧ Rep C X h w e := by
  obtain ⟨v, ws, rfl, a, q⟩ := r.invC
  obtain ⟨w, rfl, b⟩ := q.inv1
  exact ⟨v, w, rfl, a, b⟩
theorem RepL.inv3 {vs : List Value} {d e f : D} (r : RepL C X h vs [d, e, f]) : ∃ v w x, vs = [v, w, x] ∧ Rep C X h v d ∧ Rep C X h w e ∧ Rep C X h x f := by
  obtain ⟨v, ws, rfl, a, q⟩ := r.invC
  obtain ⟨w, x, rfl, b, c⟩ := q.inv2
  exact ⟨v, w, x, rfl, a, b, c⟩
theorem Rep.invI {v : Value} {i : Int} (r : Rep C X h v (.int i)) : ∃ t, v = .int i t := by cases r with | int _ t => exact ⟨t, rfl⟩
theorem Rep.invS {v : Value} {x : Str} (r : Rep C X h v (.str x)) : ∃ t, v = .str x t ∧ PyData.strOk x = true := by cases r with | str _ t q => exact ⟨t, rfl, q⟩
theorem Rep.invL {v : Value} {ds : List D} (r : Rep C X h v (.list ds)) : ∃ a vs n, v = .ref a ∧ a ∉ X ∧ h.get? a = some (listO vs n) ∧ RepL C X h vs ds := by cases r with | list ha e q => exact ⟨_, _, _, rfl, ha, e, q⟩
theorem Rep.invT {v : Value} {ds : List D} (r : Rep C X h v (.tup ds)) : ∃ a vs n, v = .ref a ∧ a ∉ X ∧ h.get? a = some (tupO vs n) ∧ RepL C X h vs ds := by cases r with | tup ha e q => exact ⟨_, _, _, rfl, ha, e, q⟩
theorem Rep.invB {v : Value} {b : Bool} (r : Rep C X h v (.bool b)) : v = .bool b := by cases r; rfl
theorem allN {α : Type} {P : α → Prop} : ∀ x ∈ ([] : List α), P x := fun _ h => nomatch h
theorem allC {α : Type} {P : α → Prop} {a : α} {l : List α} (h : P a) (t : ∀ x ∈ l, P x) : ∀ x ∈ a :: l, P x := fun x m => (List.mem_cons.mp m).elim (fun e => e ▸ h) (t x)
theorem RepL.append {vs ws : List Value} {ds es : List D} (r : RepL C X h vs ds) (q : RepL C X h ws es) : RepL C X h (vs ++ ws) (ds ++ es) := by
  induction vs generalizing ds with
  | nil => cases r; exact q
  | cons v vs ih => cases r with | cons a r => exact .cons a (ih r)
theorem RepL.get {vs : List Value} {ds : List D} (r : RepL C X h vs ds) {i : Nat} {d : D} (e : ds[i]? = some d) : ∃ v, vs[i]? = some v ∧ Rep C X h v d := by
  induction vs generalizing ds i with
  | nil => cases r; simp at e
  | cons v vs ih =>
    cases r with
    | cons a r =>
      cases i with
      | zero => simp at e; subst e; exact ⟨v, rfl, a⟩
      | succ i => exact ih r (by simpa using e)
theorem RepL.get' {vs : List Value} {ds : List D} (r : RepL C X h vs ds) {i : Nat} {v : Value} (e : vs[i]? = some v) : ∃ d, ds[i]? = some d ∧ Rep C X h v d := by
  induction vs generalizing ds i with
  | nil => simp at e
  | cons v vs ih =>
    cases r with
    | cons a r =>
      cases i with
      | zero => simp at e; subst e; exact ⟨_, rfl, a⟩
      | succ i => exact ih r (by simpa using e)
theorem RepL.take {vs : List Value} {ds : List D} (r : RepL C X h vs ds) (n : Nat) : RepL C X h (vs.take n) (ds.take n) := by
  induction vs generalizing ds n with
  | nil => cases r; simpa using RepL.nil
  | cons v vs ih =>
    cases r with
    | cons a r =>
      cases n with
      | zero => exact .nil
      | succ n => exact .cons a (ih r n)
theorem RepL.drop {vs : List Value} {ds : List D} (r : RepL C X h vs ds) (n : Nat) : RepL C X h (vs.drop n) (ds.drop n) := by
  induction vs generalizing ds n with
  | nil => cases r; simpa using RepL.nil
  | cons v vs ih =>
    cases r with
    | cons a r =>
      cases n with
      | zero => exact .cons a r
      | succ n => exact ih r n
theorem RepL.set {vs : List Value} {ds : List D} (r : RepL C X h vs ds) (i : Nat) {v : Value} {d : D} (q : Rep C X h v d) : RepL C X h (vs.set i v) (ds.set i d) := by
  induction vs generalizing ds i with
  | nil => cases r; exact .nil
  | cons w vs ih =>
    cases r with
    | cons a r =>
      cases i with
      | zero => exact .cons q r
      | succ i => exact .cons a (ih r i)

noncomputable def dget (kvs : List (Str × D)) (k : Str) : Option D := (kvs.find? fun kv => kv.1 = k).map (·.2)
noncomputable def dput (kvs : List (Str × D)) (k : Str) (v : D) : List (Str × D) :=
  if kvs.any (fun kv => kv.1 = k) then kvs.map (fun kv => if kv.1 = k then (kv.1, v) else kv) else kvs ++ [(k, v)]
theorem RepD.length {vs : List (Str × Value)} {ds : List (Str × D)} (r : RepD C X h vs ds) : vs.length = ds.length := by
  induction vs generalizing ds with
  | nil => cases r; rfl
  | cons v vs ih => cases r with | cons _ r => rw [List.length_cons, List.length_cons, ih r]
theorem RepD.any {vs : List (Str × Value)} {ds : List (Str × D)} (r : RepD C X h vs ds) (k : Str) : vs.any (fun kv => kv.1 = k) = ds.any (fun kv => kv.1 = k) := by
  induction vs generalizing ds with
  | nil => cases r; rfl
  | cons v vs ih => cases r with | cons _ r => rw [List.any_cons, List.any_cons, ih r]
theorem RepD.find {vs : List (Str × Value)} {ds : List (Str × D)} (r : RepD C X h vs ds) (k : Str) :
    match dget ds k with
    | some d => ∃ v, valueAt vs k = some v ∧ Rep C X h v d
    | none => valueAt vs k = none := by
  induction vs generalizing ds with
  | nil => cases r; rfl
  | cons v vs ih =>
    cases r with
    | @cons k' v d _ ds a r =>
      have ih := ih r
      by_cases e : k' = k
      · simp only [dget, valueAt, List.find?_cons, e, decide_true, Option.map_some]
        exact ⟨v, rfl, a⟩
      · simpa only [dget, valueAt, List.find?_cons, e, decide_false] using ih
theorem RepD.store {vs : List (Str × Value)} {ds : List (Str × D)} (r : RepD C X h vs ds) (k : Str) {v : Value} {d : D} (q : Rep C X h v d) :
    RepD C X h (vs.map (fun kv => if kv.1 = k then (kv.1, v) else kv)) (ds.map (fun kv => if kv.1 = k then (kv.1, d) else kv)) := by
  induction vs generalizing ds with
  | nil => cases r; exact .nil
  | cons w vs ih =>
    cases r with
    | @cons k' w d' _ ds a r =>
      simp only [List.map_cons]
      by_cases e : k' = k
      · simp only [e, if_true]; exact .cons q (ih r)
      · simp only [e, if_false]; exact .cons a (ih r)
theorem RepD.snoc {vs : List (Str × Value)} {ds : List (Str × D)} (r : RepD C X h vs ds) (k : Str) {v : Value} {d : D} (q : Rep C X h v d) : RepD C X h (vs ++ [(k, v)]) (ds ++ [(k, d)]) := by
  induction vs generalizing ds with
  | nil => cases r; exact .cons q .nil
  | cons w vs ih => cases r with | cons a r => exact .cons a (ih r)
theorem RepD.put {vs : List (Str × Value)} {ds : List (Str × D)} (r : RepD C X h vs ds) (k : Str) {v : Value} {d : D} (q : Rep C X h v d) : RepD C X h (stored vs k v) (dput ds k d) := by
  unfold stored dput
  rw [r.any k]
  split
  · exact r.store k q
  · exact r.snoc k q
end

mutual
/-- the same, but the top k levels are objects of one's own (their addresses: T) -/
inductive RepO (C : Cx) (X : List Addr) (h : Heap) : Nat → Value → D → List Addr → Prop
  | sh {v : Value} {d : D} : Rep C X h v d → RepO C X h 0 v d []
  | list {k : Nat} {a : Addr} {vs : List Value} {n : Nat} {ds : List D} {T : List Addr} : h.get? a = some (listO vs n) → RepOL C X h k vs ds T → RepO C X h (k + 1) (.ref a) (.list ds) (a :: T)
  | dict {k : Nat} {a : Addr} {kvs : List (Str × Value)} {ds : List (Str × D)} {T : List Addr} : a ≠ sysModules → C.dictOf h a kvs → RepOD C X h k kvs ds T → RepO C X h (k + 1) (.ref a) (.dict ds) (a :: T)
inductive RepOL (C : Cx) (X : List Addr) (h : Heap) : Nat → List Value → List D → List Addr → Prop
  | nil {k : Nat} : RepOL C X h k [] [] []
  | cons {k : Nat} {v : Value} {d : D} {vs : List Value} {ds : List D} {T T' : List Addr} : RepO C X h k v d T → RepOL C X h k vs ds T' → RepOL C X h k (v :: vs) (d :: ds) (T ++ T')
inductive RepOD (C : Cx) (X : List Addr) (h : Heap) : Nat → List (Str × Value) → List (Str × D) → List Addr → Prop
  | nil {k : Nat} : RepOD C X h k [] [] []
  | cons {k : Nat} {x : Str} {v : Value} {d : D} {vs : List (Str × Value)} {ds : List (Str × D)} {T T' : List Addr} : RepO C X h k v d T → RepOD C X h k vs ds T' → RepOD C X h k ((x, v) :: vs) ((x, d) :: ds) (T ++ T')
end
section
variable {C : Cx} {X X' : List Addr} {h h' : Heap}
theorem RepO.invL {k : Nat} {v : Value} {ds : List D} {T : List Addr} (r : RepO C X h (k + 1) v (.list ds) T) : ∃ a vs n T', v = .ref a ∧ T = a :: T' ∧ h.get? a = some (listO vs n) ∧ RepOL C X h k vs ds T' := by
  cases r with | list e q => exact ⟨_, _, _, _, rfl, rfl, e, q⟩
theorem RepO.invD {k : Nat} {v : Value} {ds : List (Str × D)} {T : List Addr} (r : RepO C X h (k + 1) v (.dict ds) T) : ∃ a vs T', v = .ref a ∧ T = a :: T' ∧ a ≠ sysModules ∧ C.dictOf h a vs ∧ RepOD C X h k vs ds T' := by
  cases r with | dict hz e q => exact ⟨_, _, _, rfl, rfl, hz, e, q⟩
theorem RepO.fold {P : Nat → Value → D → List Addr → Prop} {Q : Nat → List Value → List D → List Addr → Prop} {R : Nat → List (Str × Value) → List (Str × D) → List Addr → Prop} (h0 : ∀ {v d}, Rep C X h v d → P 0 v d [])
    (h1 : ∀ {k : Nat} {a : Addr} {vs : List Value} {n : Nat} {ds : List D} {T : List Addr}, h.get? a = some (listO vs n) → Q k vs ds T → P (k + 1) (.ref a) (.list ds) (a :: T))
    (h2 : ∀ {k : Nat} {a : Addr} {kvs : List (Str × Value)} {ds : List (Str × D)} {T : List Addr}, a ≠ sysModules → C.dictOf h a kvs → R k kvs ds T → P (k + 1) (.ref a) (.dict ds) (a :: T))
    (n1 : ∀ {k}, Q k [] [] []) (c1 : ∀ {k v d vs ds T T'}, P k v d T → Q k vs ds T' → Q k (v :: vs) (d :: ds) (T ++ T')) (n2 : ∀ {k}, R k [] [] []) (c2 : ∀ {k x v d vs ds T T'}, P k v d T → R k vs ds T' → R k ((x, v) :: vs) ((x, d) :: ds) (T ++ T')) :
    (∀ {n v d T}, RepO C X h n v d T → P n v d T) ∧ (∀ {n v d T}, RepOL C X h n v d T → Q n v d T) ∧ (∀ {n v d T}, RepOD C X h n v d T → R n v d T) :=
  ⟨fun r => RepO.rec (motive_1 := fun n v d T _ => P n v d T) (motive_2 := fun n v d T _ => Q n v d T) (motive_3 := fun n v d T _ => R n v d T) h0 (fun a _ q => h1 a q) (fun a b _ q => h2 a b q) n1 (fun _ _ a b => c1 a b) n2 (fun _ _ a b => c2 a b) r,
    fun r => RepOL.rec (motive_1 := fun n v d T _ => P n v d T) (motive_2 := fun n v d T _ => Q n v d T) (motive_3 := fun n v d T _ => R n v d T) h0 (fun a _ q => h1 a q) (fun a b _ q => h2 a b q) n1 (fun _ _ a b => c1 a b) n2 (fun _ _ a b => c2 a b) r,
    fun r => RepOD.rec (motive_1 := fun n v d T _ => P n v d T) (motive_2 := fun n v d T _ => Q n v d T) (motive_3 := fun n v d T _ => R n v d T) h0 (fun a _ q => h1 a q) (fun a b _ q => h2 a b q) n1 (fun _ _ a b => c1 a b) n2 (fun _ _ a b => c2 a b) r⟩
theorem RepO.keeps (k : Keep X X' h h') : (∀ {n v d T}, RepO C X h n v d T → (∀ b ∈ T, ∀ o, h.get? b = some o → h'.get? b = some o) → RepO C X' h' n v d T) ∧ (∀ {n v d T}, RepOL C X h n v d T → (∀ b ∈ T, ∀ o, h.get? b = some o → h'.get? b = some o) → RepOL C X' h' n v d T) ∧ (∀ {n v d T}, RepOD C X h n v d T → (∀ b ∈ T, ∀ o, h.get? b = some o → h'.get? b = some o) → RepOD C X' h' n v d T) :=
  RepO.fold (fun r _ => .sh (r.keep k)) (fun e q t => .list (t _ (List.mem_cons_self ..) _ e) (q fun b hb => t b (List.mem_cons_of_mem _ hb))) (fun hs e q t => .dict hs (dictOf_at e (t _ (List.mem_cons_self ..))) (q fun b hb => t b (List.mem_cons_of_mem _ hb)))
    (fun _ => .nil) (fun p q t => .cons (p fun b hb => t b (List.mem_append_left _ hb)) (q fun b hb => t b (List.mem_append_right _ hb))) (fun _ => .nil) (fun p q t => .cons (p fun b hb => t b (List.mem_append_left _ hb)) (q fun b hb => t b (List.mem_append_right _ hb)))
theorem RepO.keep (k : Keep X X' h h') {n : Nat} {v : Value} {d : D} {T : List Addr} (r : RepO C X h n v d T) (t : ∀ b ∈ T, ∀ o, h.get? b = some o → h'.get? b = some o) : RepO C X' h' n v d T := (RepO.keeps k).1 r t
theorem RepOL.keep (k : Keep X X' h h') {n : Nat} {v : List Value} {d : List D} {T : List Addr} (r : RepOL C X h n v d T) (t : ∀ b ∈ T, ∀ o, h.get? b = some o → h'.get? b = some o) : RepOL C X' h' n v d T := (RepO.keeps k).2.1 r t
theorem RepO.zero {v : Value} {d : D} {T : List Addr} (r : RepO C X h 0 v d T) : Rep C X h v d ∧ T = [] := by
  cases r with | sh r => exact ⟨r, rfl⟩
theorem RepOL.zero {v : List Value} {d : List D} {T : List Addr} (r : RepOL C X h 0 v d T) : RepL C X h v d ∧ T = [] := by
  induction v generalizing d T with
  | nil => cases r; exact ⟨.nil, rfl⟩
  | cons a v ih =>
    cases r with
    | cons r s => obtain ⟨q, rfl⟩ := r.zero; obtain ⟨z, rfl⟩ := ih s; exact ⟨.cons q z, rfl⟩
theorem RepOD.zero {v : List (Str × Value)} {d : List (Str × D)} {T : List Addr} (r : RepOD C X h 0 v d T) : RepD C X h v d ∧ T = [] := by
  induction v generalizing d T with
  | nil => cases r; exact ⟨.nil, rfl⟩
  | cons a v ih =>
    cases r with
    | cons r s => obtain ⟨q, rfl⟩ := r.zero; obtain ⟨z, rfl⟩ := ih s; exact ⟨.cons q z, rfl⟩
theorem RepL.toO {v : List Value} {d : List D} (r : RepL C X h v d) : RepOL C X h 0 v d [] := by
  induction v generalizing d with
  | nil => cases r; exact .nil
  | cons a v ih => cases r with | cons r s => exact .cons (.sh r) (ih s)
theorem RepD.toO {v : List (Str × Value)} {d : List (Str × D)} (r : RepD C X h v d) : RepOD C X h 0 v d [] := by
  induction v generalizing d with
  | nil => cases r; exact .nil
  | cons a v ih => cases r with | cons r s => exact .cons (.sh r) (ih s)
theorem RepO.lives : (∀ {n v d T}, RepO C X h n v d T → ∀ b ∈ T, ∃ o, h.get? b = some o) ∧ (∀ {n v d T}, RepOL C X h n v d T → ∀ b ∈ T, ∃ o, h.get? b = some o) ∧ (∀ {n v d T}, RepOD C X h n v d T → ∀ b ∈ T, ∃ o, h.get? b = some o) :=
  RepO.fold (P := fun _ _ _ T => ∀ b ∈ T, ∃ o, h.get? b = some o) (Q := fun _ _ _ T => ∀ b ∈ T, ∃ o, h.get? b = some o) (R := fun _ _ _ T => ∀ b ∈ T, ∃ o, h.get? b = some o) (fun _ _ hb => nomatch hb) (fun e q b hb => (List.mem_cons.mp hb).elim (fun z => z ▸ ⟨_, e⟩) (q b)) (fun _ e q b hb => (List.mem_cons.mp hb).elim (fun z => z ▸ dictOf_get e) (q b))
    (fun _ hb => nomatch hb) (fun p q b hb => (List.mem_append.mp hb).elim (p b) (q b)) (fun _ hb => nomatch hb) (fun p q b hb => (List.mem_append.mp hb).elim (p b) (q b))
theorem RepO.live {n : Nat} {v : Value} {d : D} {T : List Addr} (r : RepO C X h n v d T) : ∀ b ∈ T, ∃ o, h.get? b = some o := RepO.lives.1 r
theorem RepO.shares {Y : List Addr} (hs : ∀ b ∈ Y, b ∈ X) : (∀ {n v d T}, RepO C X h n v d T → (∀ b ∈ T, b ∉ Y) → Rep C Y h v d) ∧ (∀ {n v d T}, RepOL C X h n v d T → (∀ b ∈ T, b ∉ Y) → RepL C Y h v d) ∧ (∀ {n v d T}, RepOD C X h n v d T → (∀ b ∈ T, b ∉ Y) → RepD C Y h v d) :=
  RepO.fold (fun r _ => r.keep ⟨fun _ _ _ e => e, fun b _ _ m => hs b m⟩) (fun e q t => .list (t _ (List.mem_cons_self ..)) e (q fun b hb => t b (List.mem_cons_of_mem _ hb))) (fun hz e q t => .dict (t _ (List.mem_cons_self ..)) hz e (q fun b hb => t b (List.mem_cons_of_mem _ hb)))
    (fun _ => .nil) (fun p q t => .cons (p fun b hb => t b (List.mem_append_left _ hb)) (q fun b hb => t b (List.mem_append_right _ hb))) (fun _ => .nil) (fun p q t => .cons (p fun b hb => t b (List.mem_append_left _ hb)) (q fun b hb => t b (List.mem_append_right _ hb)))
theorem RepO.share {Y : List Addr} (hs : ∀ b ∈ Y, b ∈ X) {n : Nat} {v : Value} {d : D} {T : List Addr} (r : RepO C X h n v d T) (t : ∀ b ∈ T, b ∉ Y) : Rep C Y h v d := (RepO.shares hs).1 r t
end
end Mine
end
section
open PySem PySem.W PyProof.Rows PySem.Calls PySem.Spec
set_option maxRecDepth 10000
namespace Mine

noncomputable abbrev Names := List (Str × NameKind)
/-- what stands in a frame's names: by place; none: not bound, or of no interest -/
noncomputable abbrev Rho := List (Option (Nat × D))

structure EnvOk (nm : Names) (env : Env) : Prop where
  kind : env.scope.kind = .function
  globals : env.globals = mainGlobals
  builtins : env.builtins = builtinsNs
  nodup : (nm.map (·.1)).Nodup
  plain : ∀ p ∈ nm, (p.1 == ("__debug__" : Str)) = false ∧ (p.1 == ("__classdict__" : Str)) = false
  loc : ∀ x, nm.lookup x = some .local → env.kindOf x = some .local
  cell : ∀ x, nm.lookup x = some .cell → env.kindOf x = some .cell
  free : ∀ x, nm.lookup x = some .free → env.kindOf x = some .free ∨ env.kindOf x = some .cell
  glob : ∀ x, nm.lookup x = some .globalImplicit → env.kindOf x = some .globalImplicit
  has : ∀ x, nm.lookup x = some .cell ∨ nm.lookup x = some .free → ∃ c, env.cells.lookup x = some c

theorem lookup_at {α : Type} : ∀ {nm : List (Str × α)} {i : Nat} {x : Str} {k : α}, (nm.map (·.1)).Nodup → nm[i]? = some (x, k) → nm.lookup x = some k
  | [], _, _, _, _, h => by simp at h
  | (y, c) :: r, 0, x, k, _, h => by
    simp at h; obtain ⟨rfl, rfl⟩ := h; simp [List.lookup_cons]
  | (y, c) :: r, i + 1, x, k, hn, h => by
    have hr : r[i]? = some (x, k) := by simpa using h
    rw [List.map_cons, List.nodup_cons] at hn
    have hne : ¬ x = y := fun e => hn.1 (e ▸ List.mem_map.mpr ⟨(x, k), List.mem_of_getElem? hr, rfl⟩)
    have hb : (x == y) = false := by simpa using hne
    rw [List.lookup_cons, hb]
    exact lookup_at hn.2 hr

inductive VarAt (env : Env) (h : Heap) (x : Str) : NameKind → Value → Prop
  | loc {m : Str → Option Value} {v : Value} : h.Ns env.locals m → m x = some v → VarAt env h x .local v
  | cell {c : Addr} {v : Value} : env.cells.lookup x = some c → h.IsCell c (some v) → VarAt env h x .cell v
  | free {c : Addr} {v : Value} : env.cells.lookup x = some c → h.IsCell c (some v) → VarAt env h x .free v
theorem VarAt.keeps {env : Env} {h h' : Heap} {x : Str} {k : NameKind} {v : Value} (k' : ∀ b o, h.get? b = some o → h'.get? b = some o) : VarAt env h x k v → VarAt env h' x k v
  | .loc n e => .loc (n.keeps k') e
  | .cell a b => .cell a (b.keeps k')
  | .free a b => .free a (b.keeps k')

/-- the names' values -/
noncomputable def VarsOk (C : Cx) (nm : Names) (env : Env) (X : List Addr) (ρ : Rho) (h : Heap) : Prop :=
  ∀ (i : Nat) (k : Nat) (d : D), ρ[i]? = some (some (k, d)) → ∃ x kd v T, nm[i]? = some (x, kd) ∧ VarAt env h x kd v ∧ RepO C X h k v d T

/-- what an expression may do to the state -/
noncomputable def Kp (s s' : Shared) : Prop := Keeps s s' ∧ s.toks ≤ s'.toks
theorem kGet {s s' : Shared} (a : Kp s s') : ∀ b o, s.heap.get? b = some o → s'.heap.get? b = some o := by
  obtain ⟨⟨h, t, rfl, k⟩, _⟩ := a; exact k
theorem kRefl (s : Shared) : Kp s s := ⟨⟨s.heap, s.toks, rfl, fun _ _ e => e⟩, Nat.le_refl _⟩
theorem kTrans {s s' s'' : Shared} (a : Kp s s') (b : Kp s' s'') : Kp s s'' := by
  obtain ⟨⟨h, t, rfl, k⟩, l⟩ := a
  obtain ⟨⟨h', t', rfl, k'⟩, l'⟩ := b
  exact ⟨⟨h', t', rfl, fun b o e => k' b o (k b o e)⟩, Nat.le_trans l l'⟩
theorem kToks {s : Shared} {t : Nat} (l : s.toks ≤ t) : Kp s { s with toks := t } := ⟨⟨s.heap, t, rfl, fun _ _ e => e⟩, l⟩
theorem kPush {s : Shared} {t : Nat} (o : Obj) (l : s.toks ≤ t) : Kp s { s with heap := s.heap.push o, toks := t } := ⟨⟨_, t, rfl, fun _ _ e => Heap.get?_push_of_some o e⟩, l⟩
theorem kHeap {s : Shared} {t : Nat} {h : Heap} (k : ∀ b o, s.heap.get? b = some o → h.get? b = some o) (l : s.toks ≤ t) : Kp s { s with heap := h, toks := t } := ⟨⟨h, t, rfl, k⟩, l⟩

/-- the ground, and what must not be met -/
structure Gr (C : Cx) (X : List Addr) (s : Shared) : Prop where
  old : ∀ b o, C.h₀.get? b = some o → s.heap.get? b = some o
  live : ∀ a ∈ X, ∃ o, s.heap.get? a = some o
  toks : 1 ≤ s.toks
theorem Gr.keeps {C : Cx} {X : List Addr} {s s' : Shared} (k : Kp s s') (x : Gr C X s) : Gr C X s' :=
  ⟨fun b o e => kGet k b o (x.old b o e), fun a m => let ⟨o, e⟩ := x.live a m; ⟨o, kGet k a o e⟩, Nat.le_trans x.toks k.2⟩
structure Pre (C : Cx) (nm : Names) (env : Env) (X : List Addr) (ρ : Rho) (s : Shared) : Prop where
  gr : Gr C X s
  vars : VarsOk C nm env X ρ s.heap
  lc : ∀ x c, (nm.lookup x = some .cell ∨ nm.lookup x = some .free) → env.cells.lookup x = some c → ∃ o, s.heap.get? c = some o
theorem VarsOk.keeps {C : Cx} {nm : Names} {env : Env} {X : List Addr} {ρ : Rho} {h h' : Heap} (k : ∀ b o, h.get? b = some o → h'.get? b = some o) (x : VarsOk C nm env X ρ h) : VarsOk C nm env X ρ h' :=
  fun i n d e => let ⟨y, kd, v, T, a, b, c⟩ := x i n d e; ⟨y, kd, v, T, a, b.keeps k, c.keep (.all k) fun b _ o => k b o⟩
theorem Pre.keeps {C : Cx} {nm : Names} {env : Env} {X : List Addr} {ρ : Rho} {s s' : Shared} (k : Kp s s') (x : Pre C nm env X ρ s) : Pre C nm env X ρ s' := ⟨x.gr.keeps k, x.vars.keeps (kGet k), fun y c a b => let ⟨o, e⟩ := x.lc y c a b; ⟨o, kGet k c o e⟩⟩

/-- room for n more calls -/
structure Ok (n : Nat) (A : Around) : Prop where
  handled : A.handled = none
  depth : A.depth + n ≤ 900
  units : A.units + 8 * n ≤ 9000
theorem Ok.room {n : Nat} {A : Around} (x : Ok n A) : A.depth < recursionLimit := by have := x.depth; simp only [recursionLimit]; omega
theorem Ok.deeper {n : Nat} {A : Around} (x : Ok (n + 1) A) (env : Env) : Ok n (A.deeper env) :=
  ⟨x.handled, by have := x.depth; show A.depth + 1 + n ≤ 900; omega, by have := x.units; show A.units + 3 + 8 * n ≤ 9000; omega⟩

theorem new_off {X : List Addr} {h : Heap} (l : ∀ a ∈ X, ∃ o, h.get? a = some o) : h.objs.size ∉ X := fun m => let ⟨_, e⟩ := l _ m; Nat.lt_irrefl _ (Heap.lt_size e)

noncomputable abbrev NoE : Value → Shared → Prop := fun _ _ => False
noncomputable abbrev Wp {α : Type} (C : Cx) (A : Around) (t : Sem α) (Q : α → Shared → Prop) (s : Shared) : Prop := wpAny (model C.prog C.w) A t Q NoE s

/-- the end of an expression: a value that bears d -/
noncomputable def Gives (C : Cx) (X : List Addr) (k : Nat) (d : D) (s : Shared) (v : Value) (s' : Shared) : Prop := Kp s s' ∧ ∃ T, RepO C X s'.heap k v d T
noncomputable def GivesB (b : Bool) (s : Shared) (c : Bool) (s' : Shared) : Prop := Kp s s' ∧ c = b
/-- the end of an expression: just what the names' frame is told -/
structure Ev (C : Cx) (n : Nat) (nm : Names) (ρ : Rho) (e : Expr) (k : Nat) (d : D) : Prop where
  go : ∀ (A : Around) (env : Env) (X : List Addr) (s : Shared), Ok n A → EnvOk nm env → Pre C nm env X ρ s → Wp C A (eval e env) (Gives C X k d s) s
/-- a test -/
structure Tst (C : Cx) (n : Nat) (nm : Names) (ρ : Rho) (e : Expr) (b : Bool) : Prop where
  go : ∀ (A : Around) (env : Env) (X : List Addr) (s : Shared), Ok n A → EnvOk nm env → Pre C nm env X ρ s → Wp C A (isTrue e env (eval e env)) (GivesB b s) s

section
variable {C : Cx} {n : Nat} {nm : Names} {ρ : Rho} {A : Around} {env : Env} {X : List Addr} {s : Shared}
theorem Gives.mk {d : D} {v : Value} {s' : Shared} (k : Kp s s') (r : Rep C X s'.heap v d) : Gives C X 0 d s v s' := ⟨k, [], .sh r⟩
theorem wp_mono {α : Type} {t : Sem α} {Q Q' : α → Shared → Prop} (h : Wp C A t Q s) (hq : ∀ a s', Q a s' → Q' a s') : Wp C A t Q' s := wpAny_mono h hq fun _ _ x => x
theorem wp_up {α : Type} {t : Sem α} {Q : α → Shared → Prop} (h : Wp C A t (fun v s' => s.toks ≤ s'.toks → Q v s') s) : Wp C A t Q s :=
  wpAny_with_toks (Nat.le_refl _) (wpAny_mono h (fun _ _ x => x) fun _ _ x => x.elim)
/-- one expression, then the rest -/
theorem Ev.then {e : Expr} {k : Nat} {d : D} {Q : Value → Shared → Prop} (h : Ev C n nm ρ e k d) (o : Ok n A) (ok : EnvOk nm env) (p : Pre C nm env X ρ s)
    (hq : ∀ v s', Kp s s' → Pre C nm env X ρ s' → (∃ T, RepO C X s'.heap k v d T) → Q v s') : Wp C A (eval e env) Q s :=
  wp_mono (h.go A env X s o ok p) fun v s' ⟨k, r⟩ => hq v s' k (p.keeps k) r
theorem Ev.then0 {e : Expr} {d : D} {Q : Value → Shared → Prop} (h : Ev C n nm ρ e 0 d) (o : Ok n A) (ok : EnvOk nm env) (p : Pre C nm env X ρ s)
    (hq : ∀ v s', Kp s s' → Pre C nm env X ρ s' → Rep C X s'.heap v d → Q v s') : Wp C A (eval e env) Q s :=
  h.then o ok p fun v s' k p ⟨_, r⟩ => hq v s' k p r.zero.1
theorem Tst.then {e : Expr} {b : Bool} {Q : Bool → Shared → Prop} (h : Tst C n nm ρ e b) (o : Ok n A) (ok : EnvOk nm env) (p : Pre C nm env X ρ s)
    (hq : ∀ s', Kp s s' → Pre C nm env X ρ s' → Q b s') : Wp C A (isTrue e env (eval e env)) Q s :=
  wp_mono (h.go A env X s o ok p) fun v s' ⟨k, r⟩ => by subst r; exact hq s' k (p.keeps k)

theorem Ev.int {i : Int} {k : Nat} {pos : Pos} : Ev C n nm ρ (.Constant (.int i) k pos) 0 (.int i) := .mk fun A env X s o ok p => wpAny_Constant_int (.mk (kToks (Nat.le_succ _)) (.int _ _))
theorem Ev.str {x : Str} {k : Nat} {pos : Pos} (h : PyData.strOk x = true) : Ev C n nm ρ (.Constant (.str x) k pos) 0 (.str x) := .mk fun A env X s o ok p => wpAny_Constant_str (.mk (kToks (Nat.le_succ _)) (.str _ _ h))
theorem Ev.bool {b : Bool} {k : Nat} {pos : Pos} : Ev C n nm ρ (.Constant (.bool b) k pos) 0 (.bool b) := .mk fun A env X s o ok p => wpAny_Constant_bool (.mk (kRefl _) (.bool _))
theorem Ev.none {k : Nat} {pos : Pos} : Ev C n nm ρ (.Constant .none k pos) 0 .none := .mk fun A env X s o ok p => wpAny_Constant_none (.mk (kRefl _) .none)

theorem load_var {x : Str} {kd : NameKind} {v : Value} {Q : Value → Shared → Prop} (ok : EnvOk nm env) {i : Nat} (hi : nm[i]? = some (x, kd)) (hv : VarAt env s.heap x kd v) (h : Q v s) : Wp C A (loadName env x) Q s := by
  have hl := lookup_at ok.nodup hi
  have hp := ok.plain _ (List.mem_of_getElem? hi)
  cases hv with
  | loc a b => exact wpAny_loadName_local ok.kind (ok.loc x hl) a b h
  | cell a b => exact wpAny_loadName_cell ok.kind (ok.cell x hl) a b h
  | free a b =>
    rcases ok.free x hl with q | q
    · exact wpAny_loadName_free ok.kind q a b h hp.2
    · exact wpAny_loadName_cell ok.kind q a b h
theorem Ev.name (i : Nat) {x : Str} {kd : NameKind} {k : Nat} {d : D} {pos : Pos} (hi : nm[i]? = some (x, kd)) (hρ : ρ[i]? = some (some (k, d))) : Ev C n nm ρ (.Name x pos) k d := .mk fun A env X s o ok p => by
  obtain ⟨y, kd', v, T, a, b, c⟩ := p.vars i k d hρ
  rw [hi] at a; cases a
  exact wpAny_Name (load_var ok hi b ⟨kRefl _, T, c⟩) (ok.plain _ (List.mem_of_getElem? hi)).1

theorem load_glob {x : Str} {v : Value} {Q : Value → Shared → Prop} (ok : EnvOk nm env) (p : Pre C nm env X ρ s) (hx : nm.lookup x = some .globalImplicit) (e : nsIn C.K mainGlobals x = some (some v)) (h : Q v s) (hd : (x == ("__debug__" : Str)) = false) (pos : Pos) :
    Wp C A (eval (.Name x pos) env) Q s :=
  Calls.Name_function_global ok.kind (ok.glob x hx) (Calls.loadGlobal_global (env := env) (by rw [ok.globals]; exact C.g.keeps p.gr.old) (mg_of C.inK C.g e) h) hd
theorem load_boot {x : Str} {v : Value} {Q : Value → Shared → Prop} (ok : EnvOk nm env) (p : Pre C nm env X ρ s) (hx : nm.lookup x = some .globalImplicit) (e : nsIn C.K mainGlobals x = some none) (hb : bootBuiltins x = some v) (hn : x ≠ "__name__")
    (h : Q v s) (hd : (x == ("__debug__" : Str)) = false) (pos : Pos) : Wp C A (eval (.Name x pos) env) Q s :=
  Calls.Name_function_global ok.kind (ok.glob x hx) (Calls.loadGlobal_builtin (env := env) (by rw [ok.globals]; exact C.g.keeps p.gr.old) (mg_none_of C.inK C.g e) (by rw [ok.builtins]; exact C.b.keeps p.gr.old) ((C.bi x hn).trans hb) h) hd
end
end Mine
end
section
open PySem PySem.W PyProof.Rows PySem.Calls PySem.Spec
set_option maxRecDepth 10000
namespace Mine

mutual
/-- the datum in the library's words (a dict: none; it is never compared) -/
noncomputable def D.py : D → PyData
  | .none => .none
  | .bool b => .bool b
  | .int i => .int i
  | .str x => .str x
  | .list ds => .list (pys ds)
  | .tup ds => .tuple (pys ds)
  | .dict _ => .none
noncomputable def pys : List D → List PyData
  | [] => []
  | d :: ds => d.py :: pys ds
end
mutual
/-- no dict in it, and no deeper than n -/
noncomputable def D.flat : Nat → D → Bool
  | _, .none => true
  | _, .bool _ => true
  | _, .int _ => true
  | _, .str _ => true
  | n + 1, .list ds => flats n ds
  | n + 1, .tup ds => flats n ds
  | _, _ => false
noncomputable def flats : Nat → List D → Bool
  | _, [] => true
  | n, d :: ds => d.flat n && flats n ds
end
theorem flats_iff (n : Nat) (ds : List D) : flats n ds = true ↔ ∀ d ∈ ds, d.flat n = true := by
  induction ds with
  | nil => exact ⟨fun _ => allN, fun _ => rfl⟩
  | cons d ds ih => simp [flats, ih]

section
variable {C : Cx} {X : List Addr} {h : Heap}
theorem Rep.readss : (∀ {v : Value} {d : D}, Rep C X h v d → ∀ n, d.flat n = true → (∃ as, Reads h v d.py as) ∧ d.py.canLay0 = true ∧ d.py.depth ≤ n) ∧ (∀ {v : List Value} {d : List D}, RepL C X h v d → ∀ n, flats n d = true → (∃ as, ReadsAll h v (pys d) as) ∧ PyData.canLayAll0 (pys d) = true ∧ PyData.depthAll (pys d) ≤ n) ∧ (∀ {v : List (Str × Value)} {d : List (Str × D)}, RepD C X h v d → True) := by
  refine Rep.fold (R := fun _ _ => True) (fun n _ => ?_) (fun b n _ => ?_) (fun i t n _ => ?_) (fun x t q n _ => ?_) (fun ha e q n hf => ?_) (fun ha e q n hf => ?_) (fun _ _ _ _ n hf => ?_) (fun n _ => ?_) (fun p q n hf => ?_) trivial (fun _ _ => trivial)
  · exact ⟨⟨_, .none⟩, rfl, Nat.zero_le _⟩
  · exact ⟨⟨_, .bool b⟩, rfl, Nat.zero_le _⟩
  · exact ⟨⟨_, .int i t⟩, rfl, Nat.zero_le _⟩
  · exact ⟨⟨_, .str x t⟩, q, Nat.zero_le _⟩
  · cases n with
    | zero => exact absurd hf Bool.false_ne_true
    | succ n =>
      have hf : flats n _ = true := hf
      obtain ⟨⟨as, q⟩, c, l⟩ := q n hf
      exact ⟨⟨_, reads_list_at e rfl rfl (by simpa [listO] using q)⟩, c, Nat.succ_le_succ l⟩
  · cases n with
    | zero => exact absurd hf Bool.false_ne_true
    | succ n =>
      have hf : flats n _ = true := hf
      obtain ⟨⟨as, q⟩, c, l⟩ := q n hf
      exact ⟨⟨_, reads_tuple_at e rfl rfl (by simpa [tupO] using q)⟩, c, Nat.succ_le_succ l⟩
  · cases n <;> exact absurd hf Bool.false_ne_true
  · exact ⟨⟨_, .nil⟩, rfl, Nat.zero_le _⟩
  · have hf : (D.flat n _ && flats n _) = true := hf
    rw [Bool.and_eq_true] at hf
    obtain ⟨⟨as, q1⟩, c, l⟩ := p n hf.1
    obtain ⟨⟨bs, q'⟩, c', l'⟩ := q n hf.2
    refine ⟨⟨_, .cons q1 q'⟩, ?_, Nat.max_le.mpr ⟨l, l'⟩⟩
    show (PyData.canLay0 _ && PyData.canLayAll0 _) = true
    rw [c, c']; rfl
theorem Rep.reads {n : Nat} {v : Value} {d : D} (r : Rep C X h v d) (hf : d.flat n = true) : (∃ as, Reads h v d.py as) ∧ d.py.canLay0 = true ∧ d.py.depth ≤ n := Rep.readss.1 r n hf
end

/-- == of two data -/
noncomputable def eqD (a b : D) : Bool := PyData.eqv a.py b.py

/-- a binary operation: from any state -/
structure Bin (C : Cx) (op : Operator) (d₁ d₂ d : D) : Prop where
  go : ∀ (n : Nat) (A : Around) (X : List Addr) (s : Shared) (v₁ v₂ : Value), Ok n A → Gr C X s → Rep C X s.heap v₁ d₁ → Rep C X s.heap v₂ d₂ → Wp C A (binaryOp op v₁ v₂) (Gives C X 0 d s) s
/-- a comparison -/
structure Cmp (C : Cx) (op : CmpOp) (k₁ : Nat) (d₁ : D) (k₂ : Nat) (d₂ : D) (b : Bool) : Prop where
  go : ∀ (n : Nat) (A : Around) (X : List Addr) (s : Shared) (v₁ v₂ : Value) (T₁ T₂ : List Addr), Ok n A → Gr C X s → RepO C X s.heap k₁ v₁ d₁ T₁ → RepO C X s.heap k₂ v₂ d₂ T₂ → Wp C A (compareOp op v₁ v₂) (fun v s' => Kp s s' ∧ v = .bool b) s
/-- truth -/
structure Tru (C : Cx) (k : Nat) (d : D) (b : Bool) : Prop where
  go : ∀ (n : Nat) (A : Around) (X : List Addr) (s : Shared) (v : Value) (T : List Addr), Ok n A → Gr C X s → RepO C X s.heap k v d T → Wp C A (truthy v) (GivesB b s) s

theorem strOk_append {x y : Str} (a : PyData.strOk x = true) (b : PyData.strOk y = true) : PyData.strOk (x ++ y) = true := by
  have e : (x ++ y).cps = x.cps ++ y.cps := rfl
  simp only [PyData.strOk, e, Array.all_append, Bool.and_eq_true] at *
  exact ⟨a, b⟩

section
variable {C : Cx} {n : Nat} {nm : Names} {ρ : Rho} {A : Around} {env : Env} {X : List Addr} {s : Shared}
theorem Ev.bin {l r : Expr} {op : Operator} {pos : Pos} {d₁ d₂ d : D} (a : Ev C n nm ρ l 0 d₁) (b : Ev C n nm ρ r 0 d₂) (c : Bin C op d₁ d₂ d) : Ev C n nm ρ (.BinOp l op r pos) 0 d := .mk fun A env X s o ok p =>
  wpAny_BinOp (a.then0 o ok p fun v s' k p r => b.then0 o ok p fun u s'' k' p' r' => wp_mono (c.go n A X s'' v u o p'.gr (r.keep (.all (kGet k'))) r') fun w z g => ⟨kTrans k (kTrans k' g.1), g.2⟩)

theorem Bin.add_int {a b : Int} : Bin C .Add (.int a) (.int b) (.int (a + b)) := .mk fun n A X s v₁ v₂ o g r₁ r₂ => by
  obtain ⟨_, rfl⟩ := r₁.invI; obtain ⟨_, rfl⟩ := r₂.invI; exact P.add_int (.mk (kToks (Nat.le_succ _)) (.int _ _))
theorem Bin.sub_int {a b : Int} : Bin C .Sub (.int a) (.int b) (.int (a - b)) := .mk fun n A X s v₁ v₂ o g r₁ r₂ => by
  obtain ⟨_, rfl⟩ := r₁.invI; obtain ⟨_, rfl⟩ := r₂.invI; exact P.sub_int (.mk (kToks (Nat.le_succ _)) (.int _ _))
theorem Bin.mul_int {a b : Int} (h : IntMulOk a b) : Bin C .Mult (.int a) (.int b) (.int (a * b)) := .mk fun n A X s v₁ v₂ o g r₁ r₂ => by
  obtain ⟨_, rfl⟩ := r₁.invI; obtain ⟨_, rfl⟩ := r₂.invI; exact P.mul_int (.mk (kToks (Nat.le_succ _)) (.int _ _)) h
theorem Bin.fdiv_int {a b : Int} (hb : 0 < b) (hb' : b < 1073741824) : Bin C .FloorDiv (.int a) (.int b) (.int (a.fdiv b)) := .mk fun n A X s v₁ v₂ o g r₁ r₂ => by
  obtain ⟨_, rfl⟩ := r₁.invI; obtain ⟨_, rfl⟩ := r₂.invI; exact floordiv_int (by omega) (.mk (kToks (Nat.le_succ _)) (.int _ _)) (.inl (PyProof.noPylong_small (by omega)))
theorem Bin.mod_int {a b : Int} (hb : b ≠ 0) : Bin C .Mod (.int a) (.int b) (.int (a.fmod b)) := .mk fun n A X s v₁ v₂ o g r₁ r₂ => by
  obtain ⟨_, rfl⟩ := r₁.invI; obtain ⟨_, rfl⟩ := r₂.invI; exact mod_int' hb (.mk (kToks (Nat.le_succ _)) (.int _ _))
theorem Bin.pow_int {a b : Int} (hb : 0 ≤ b) (hs : (Builtin.Int.intBits a : Int) * b ≤ 2 ^ 27) : Bin C .Pow (.int a) (.int b) (.int (a ^ b.toNat)) := .mk fun n A X s v₁ v₂ o g r₁ r₂ => by
  obtain ⟨_, rfl⟩ := r₁.invI; obtain ⟨_, rfl⟩ := r₂.invI; exact PyProof.Rows.pow_int hb hs (.mk (kToks (Nat.le_succ _)) (.int _ _))
theorem Bin.and_int {a b : Int} : Bin C .BitAnd (.int a) (.int b) (.int (Builtin.bitAnd a b)) := .mk fun n A X s v₁ v₂ o g r₁ r₂ => by
  obtain ⟨_, rfl⟩ := r₁.invI; obtain ⟨_, rfl⟩ := r₂.invI; exact PyProof.Rows.and_int (.mk (kToks (Nat.le_succ _)) (.int _ _))
theorem Bin.add_str {a b : Str} (h : a.length + b.length ≤ sizeLine) : Bin C .Add (.str a) (.str b) (.str (a ++ b)) := .mk fun n A X s v₁ v₂ o g r₁ r₂ => by
  obtain ⟨_, rfl, q⟩ := r₁.invS; obtain ⟨_, rfl, q'⟩ := r₂.invS; exact wp_up (PyProof.Rows.add_str (fun t tk l => .mk (kToks l) (.str _ _ (strOk_append q q'))) h)

theorem listO_isList {h : Heap} {a : Addr} {vs : List Value} {m : Nat} (e : h.get? a = some (listO vs m)) : h.IsList a vs.toArray := ⟨_, e, rfl, m, rfl⟩
theorem Bin.add_list {ds es : List D} (hz : ds.length + es.length ≤ sizeLine) : Bin C .Add (.list ds) (.list es) (.list (ds ++ es)) := .mk fun n A X s v₁ v₂ o g r₁ r₂ => by
  cases r₁ with
  | list ha e r =>
    cases r₂ with
    | list hb e' r' =>
      rename_i a vs m b ws m'
      have hsz : vs.toArray.size + ws.toArray.size ≤ sizeLine := by simpa [r.length, r'.length] using hz
      refine concat_meets ⟨_, e, rfl⟩ ⟨_, e', rfl⟩ noFill_list_add seq_list_add PySem.F.slot_list_add PySem.F.entry_list_add (PySem.F.args_list_add_2 _ _) (list_addW a b vs.toArray ws.toArray m m' none none #[] #[] hsz) ⟨e, e', ?_⟩
      refine .mk (kPush _ (Nat.le_refl _)) ?_
      have e2 : vs.toArray ++ ws.toArray = (vs ++ ws).toArray := by simp
      rw [e2]
      have kk := kGet (kPush (s := s) (listO (vs ++ ws) 0) (Nat.le_refl _))
      exact .list (new_off g.live) (Heap.get?_push_size _ rfl) ((r.append r').keep (.all kk))
end
end Mine
end
section
open PySem PySem.W PyProof.Rows PySem.Calls PySem.Spec
set_option maxRecDepth 100000
namespace Mine

section
open PySem.Builtin PySem.Builtin.Str
end

section
variable {C : Cx}


theorem strOk_mul {x : Str} {k : Int} (h : PyData.strOk x = true) : PyData.strOk (Txt.mul x k) = true := by
  unfold Txt.mul
  split
  · decide +kernel
  · split
    · exact h
    · have all : ∀ (n : Nat) (acc : Array Nat), acc.all (· < 0x110000) = true → (List.foldl (· ++ ·) acc (List.replicate n x.cps)).all (· < 0x110000) = true := by
        intro n
        induction n with
        | zero => intro acc ha; simpa using ha
        | succ n ih =>
          intro acc ha
          rw [List.replicate_succ, List.foldl_cons]
          refine ih _ ?_
          rw [Array.all_append, ha]
          exact h
      exact all _ _ (by simp)
theorem Bin.mul_str {x : Str} {k : Int} (h0 : 0 ≤ k) (hk : k ≤ 100) (hx : x.length ≤ 1000) : Bin C .Mult (.str x) (.int k) (.str (Txt.mul x k)) := .mk fun n A X s v₁ v₂ o g r₁ r₂ => by
  obtain ⟨t, rfl, q⟩ := r₁.invS
  obtain ⟨u, rfl⟩ := r₂.invI
  refine wp_up (SB.mul ⟨by simp; omega, fun h1 h2 => ?_, fun h1 h2 => ?_⟩ fun t' tk l => .mk (kToks l) (.str _ _ (strOk_mul q)))
  · intro h3
    have hk1 : 1 ≤ k := by omega
    have h4 : (2 ^ 63 - 1 : Int) < (x.length : Int) * k := by
      have := Int.lt_mul_of_ediv_lt (by omega : 0 < k) h3
      omega
    have h5 : (x.length : Int) * k ≤ 1000 * 100 := Int.mul_le_mul (by omega) hk (by omega) (by omega)
    omega
  · have : x.length * k.toNat ≤ 1000 * 100 := Nat.mul_le_mul hx (by omega)
    unfold Builtin.Str.tooLong sizeLine
    exact decide_eq_false (by omega)
end
end Mine
end
section
open PySem PySem.W PyProof.Rows PySem.Calls PySem.Spec
set_option maxRecDepth 100000
namespace Mine
/-- an expression that is no starred one -/
noncomputable def plainE : Expr → Bool
  | .Constant .. | .Name .. | .BinOp .. | .Call .. | .Subscript .. | .List .. | .Tuple .. | .ListComp .. | .Compare .. | .BoolOp .. | .UnaryOp .. | .IfExp .. | .JoinedStr .. | .Dict .. => true
  | _ => false
theorem ns_all {e : Expr} {es : List Expr} (h : plainE e = true) (env : Env) : starEach (e :: es) env = (false, eval e env) :: starEach es env := by
  cases e <;> first | rfl | exact absurd h Bool.false_ne_true
theorem n1_all {e : Expr} (h : plainE e = true) (env : Env) : starEach [e] env = [(false, eval e env)] := ns_all h env
/-- one whose value is asked for its truth -/
noncomputable def valE : Expr → Bool
  | .Name .. | .BinOp .. | .Call .. | .Subscript .. | .List .. | .Tuple .. | .ListComp .. | .Dict .. => true
  | _ => false
theorem it_all {e : Expr} (h : valE e = true) (env : Env) (whole : Sem Value) : isTrue e env whole = (do let v ← whole; standAt e.pos; holding [v] (truthy v)) := by
  cases e <;> first | rfl | exact absurd h Bool.false_ne_true
theorem ns_Constant {c : Const} {k : Nat} {p : Pos} {es : List Expr} (env : Env) : starEach ((.Constant c k p) :: es) env = (false, eval (.Constant c k p) env) :: starEach es env := rfl
theorem ns_Name {x : Str} {p : Pos} {es : List Expr} (env : Env) : starEach ((.Name x p) :: es) env = (false, eval (.Name x p) env) :: starEach es env := rfl
theorem ns_BinOp {l r : Expr} {o : Operator} {p : Pos} {es : List Expr} (env : Env) : starEach ((.BinOp l o r p) :: es) env = (false, eval (.BinOp l o r p) env) :: starEach es env := rfl
theorem ns_Subscript {a b : Expr} {p : Pos} {es : List Expr} (env : Env) : starEach ((.Subscript a b p) :: es) env = (false, eval (.Subscript a b p) env) :: starEach es env := rfl
theorem ns_Tuple {a : List Expr} {k : Nat} {p : Pos} {es : List Expr} (env : Env) : starEach ((.Tuple a k p) :: es) env = (false, eval (.Tuple a k p) env) :: starEach es env := rfl
theorem ns_ListComp {a : Expr} {g : List Comprehension} {s : Scope} {p : Pos} {es : List Expr} (env : Env) : starEach ((.ListComp a g s p) :: es) env = (false, eval (.ListComp a g s p) env) :: starEach es env := rfl
theorem ns_Compare {a : Expr} {o : List CmpOp} {b : List Expr} {p : Pos} {es : List Expr} (env : Env) : starEach ((.Compare a o b p) :: es) env = (false, eval (.Compare a o b p) env) :: starEach es env := rfl
theorem ns_UnaryOp {o : UnaryOp} {a : Expr} {p : Pos} {es : List Expr} (env : Env) : starEach ((.UnaryOp o a p) :: es) env = (false, eval (.UnaryOp o a p) env) :: starEach es env := rfl
theorem n1_Name {x : Str} {p : Pos} (env : Env) : starEach [(.Name x p)] env = [(false, eval (.Name x p) env)] := rfl
theorem n1_BinOp {l r : Expr} {o : Operator} {p : Pos} (env : Env) : starEach [(.BinOp l o r p)] env = [(false, eval (.BinOp l o r p) env)] := rfl
section
variable {C : Cx}
theorem Cmp.eq {d e : D} (hd : d.flat 60 = true) (he : e.flat 60 = true) : Cmp C .Eq 0 d 0 e (eqD d e) := .mk fun n A X s v₁ v₂ T₁ T₂ o g r₁ r₂ => by
  obtain ⟨⟨as, ra⟩, ca, la⟩ := r₁.zero.1.reads hd
  obtain ⟨⟨bs, rb⟩, cb, lb⟩ := r₂.zero.1.reads he
  exact eq_dataH ra rb (by unfold SeqAt.shaped; rw [ca, Bool.true_and]; exact decide_eq_true (by omega)) (by unfold SeqAt.shaped; rw [cb, Bool.true_and]; exact decide_eq_true (by omega)) (by have := o.units; simp only [cLine]; omega) ⟨kRefl _, rfl⟩
theorem Cmp.ne {d e : D} (hd : d.flat 60 = true) (he : e.flat 60 = true) : Cmp C .NotEq 0 d 0 e (!eqD d e) := .mk fun n A X s v₁ v₂ T₁ T₂ o g r₁ r₂ => by
  obtain ⟨⟨as, ra⟩, ca, la⟩ := r₁.zero.1.reads hd
  obtain ⟨⟨bs, rb⟩, cb, lb⟩ := r₂.zero.1.reads he
  exact ne_dataH ra rb (by unfold SeqAt.shaped; rw [ca, Bool.true_and]; exact decide_eq_true (by omega)) (by unfold SeqAt.shaped; rw [cb, Bool.true_and]; exact decide_eq_true (by omega)) (by have := o.units; simp only [cLine]; omega) ⟨kRefl _, rfl⟩
theorem Cmp.lt {a b : Int} : Cmp C .Lt 0 (.int a) 0 (.int b) (decide (a < b)) := .mk fun n A X s v₁ v₂ T₁ T₂ o g r₁ r₂ => by
  obtain ⟨_, rfl⟩ := r₁.zero.1.invI; obtain ⟨_, rfl⟩ := r₂.zero.1.invI; exact P.lt_int ⟨kRefl _, rfl⟩
theorem Cmp.gt {a b : Int} : Cmp C .Gt 0 (.int a) 0 (.int b) (decide (a > b)) := .mk fun n A X s v₁ v₂ T₁ T₂ o g r₁ r₂ => by
  obtain ⟨_, rfl⟩ := r₁.zero.1.invI; obtain ⟨_, rfl⟩ := r₂.zero.1.invI; exact P.gt_int ⟨kRefl _, rfl⟩
theorem Cmp.ge {a b : Int} : Cmp C .GtE 0 (.int a) 0 (.int b) (decide (a ≥ b)) := .mk fun n A X s v₁ v₂ T₁ T₂ o g r₁ r₂ => by
  obtain ⟨_, rfl⟩ := r₁.zero.1.invI; obtain ⟨_, rfl⟩ := r₂.zero.1.invI; exact P.ge_int ⟨kRefl _, rfl⟩

noncomputable def anyEq (ds : List D) (d : D) : Bool := ds.any fun e => eqD e d
theorem any_pys (d : D) : ∀ ds : List D, ((pys ds).any fun y => PyData.eqv y d.py) = anyEq ds d
  | [] => rfl
  | e :: ds => by simp only [pys, List.any_cons, any_pys d ds, anyEq, eqD]
theorem Cmp.in_list {d : D} {ds : List D} (hd : d.flat 50 = true) (hs : flats 50 ds = true) : Cmp C .In 0 d 0 (.list ds) (anyEq ds d) := .mk fun n A X s v₁ v₂ T₁ T₂ o g r₁ r₂ => by
  obtain ⟨⟨as, ra⟩, ca, la⟩ := r₁.zero.1.reads hd
  obtain ⟨⟨bs, rb⟩, cb, lb⟩ := r₂.zero.1.reads (n := 51) (d := .list ds) hs
  simp only [D.py, PyData.canLay0, PyData.depth] at rb cb lb
  have := o.units
  exact SeqAt.in_list_reads rb ra cb ca (by simp only [cLine]; omega) (by rw [any_pys]; exact ⟨kRefl _, rfl⟩)
theorem Cmp.notin_list {d : D} {ds : List D} (hd : d.flat 50 = true) (hs : flats 50 ds = true) : Cmp C .NotIn 0 d 0 (.list ds) (!anyEq ds d) := .mk fun n A X s v₁ v₂ T₁ T₂ o g r₁ r₂ => by
  obtain ⟨⟨as, ra⟩, ca, la⟩ := r₁.zero.1.reads hd
  obtain ⟨⟨bs, rb⟩, cb, lb⟩ := r₂.zero.1.reads (n := 51) (d := .list ds) hs
  simp only [D.py, PyData.canLay0, PyData.depth] at rb cb lb
  have := o.units
  exact SeqAt.notIn_list_reads rb ra cb ca (by simp only [cLine]; omega) (by rw [any_pys]; exact ⟨kRefl _, rfl⟩)
theorem Cmp.notin_tup {d : D} {ds : List D} (hd : d.flat 50 = true) (hs : flats 50 ds = true) : Cmp C .NotIn 0 d 0 (.tup ds) (!anyEq ds d) := .mk fun n A X s v₁ v₂ T₁ T₂ o g r₁ r₂ => by
  obtain ⟨⟨as, ra⟩, ca, la⟩ := r₁.zero.1.reads hd
  obtain ⟨⟨bs, rb⟩, cb, lb⟩ := r₂.zero.1.reads (n := 51) (d := .tup ds) hs
  simp only [D.py, PyData.canLay0, PyData.depth] at rb cb lb
  have := o.units
  exact SeqAt.notIn_tuple_reads rb ra cb ca (by simp only [cLine]; omega) (by rw [any_pys]; exact ⟨kRefl _, rfl⟩)

theorem sysOff {a : Addr} (h : a ≠ sysModules) : (a == sysModules) = false := by simpa using h
theorem isSome_find {X : List Addr} {h : Heap} {vs : List (Str × Value)} {ds : List (Str × D)} (r : RepD C X h vs ds) (k : Str) : (valueAt vs k).isSome = (dget ds k).isSome := by
  have := r.find k
  cases e : dget ds k with
  | none => rw [e] at this; rw [this]; rfl
  | some d => rw [e] at this; obtain ⟨v, hv, _⟩ := this; rw [hv]; rfl
theorem dict_of {X : List Addr} {h : Heap} {k : Nat} {v : Value} {ds : List (Str × D)} {T : List Addr} (hk : k ≤ 1) (r : RepO C X h k v (.dict ds) T) :
    ∃ a kvs, v = .ref a ∧ a ≠ sysModules ∧ C.dictOf h a kvs ∧ RepD C X h kvs ds := by
  cases r with
  | sh r => cases r with | dict _ hs e r => exact ⟨_, _, rfl, hs, e, r⟩
  | dict hs e r =>
    rename_i k _ _ _
    have : k = 0 := by omega
    subst this
    exact ⟨_, _, rfl, hs, e, r.zero.1⟩
theorem Cmp.notin_dict {k : Nat} {x : Str} {ds : List (Str × D)} (hk : k ≤ 1) : Cmp C .NotIn 0 (.str x) k (.dict ds) (!(dget ds x).isSome) := .mk fun n A X s v₁ v₂ T₁ T₂ o g r₁ r₂ => by
  obtain ⟨a, kvs, rfl, hs, e, r⟩ := dict_of hk r₂
  obtain ⟨t, rfl, _⟩ := r₁.zero.1.invS
  exact wpAny_notIn_of (strKind_is _ _ x t) (sysOff hs) e.mapOf (by rw [isSome_find r]; exact ⟨kToks (Nat.le_succ _), rfl⟩)
theorem Cmp.notin_str {x y : Str} : Cmp C .NotIn 0 (.str x) 0 (.str y) (!Txt.contains y x) := .mk fun n A X s v₁ v₂ T₁ T₂ o g r₁ r₂ => by
  obtain ⟨_, rfl, _⟩ := r₁.zero.1.invS; obtain ⟨_, rfl, _⟩ := r₂.zero.1.invS; exact SB.notContains ⟨kRefl _, rfl⟩

/-- is: with None or a bool on one side -/
noncomputable def isD : D → D → Bool
  | .none, .none => true
  | .bool a, .bool b => a == b
  | _, _ => false
noncomputable def smallD : D → Bool
  | .none => true
  | .bool _ => true
  | _ => false
theorem isD_plain {X : List Addr} {h : Heap} {v u : Value} {d e : D} (he : smallD e = true) (r : Rep C X h v d) (q : Rep C X h u e) : plainIs v u = true ∧ (v == u) = isD d e := by
  cases q <;> first | (exfalso; simp [smallD] at he; done) | skip
  · cases r <;> exact ⟨rfl, rfl⟩
  · cases r <;> first | exact ⟨rfl, rfl⟩ | (rename_i x y; refine ⟨rfl, ?_⟩; cases x <;> cases y <;> decide)
theorem Cmp.is {d e : D} (he : smallD e = true) : Cmp C .Is 0 d 0 e (isD d e) := .mk fun n A X s v₁ v₂ T₁ T₂ o g r₁ r₂ => by
  obtain ⟨a, b⟩ := isD_plain he r₁.zero.1 r₂.zero.1
  exact wpAny_is_plain a ⟨kRefl _, by rw [b]⟩
theorem Cmp.isnot {d e : D} (he : smallD e = true) : Cmp C .IsNot 0 d 0 e (!isD d e) := .mk fun n A X s v₁ v₂ T₁ T₂ o g r₁ r₂ => by
  obtain ⟨a, b⟩ := isD_plain he r₁.zero.1 r₂.zero.1
  exact wpAny_isNot_plain a ⟨kRefl _, by rw [b]⟩

theorem Tru.bool {b : Bool} : Tru C 0 (.bool b) b := .mk fun n A X s v T o g r => by rw [r.zero.1.invB]; exact wpAny_truthy_bool ⟨kRefl _, rfl⟩
theorem Tru.none : Tru C 0 .none false := .mk fun n A X s v T o g r => by cases r.zero.1; exact truthy_none ⟨kRefl _, rfl⟩
theorem Tru.list {ds : List D} (h : ds.length ≤ 1000000) : Tru C 0 (.list ds) (!ds.isEmpty) := .mk fun n A X s v T o g r => by
  obtain ⟨_, _, _, rfl, ha, e, r⟩ := r.zero.1.invL
  refine wpAny_truthy_list (listO_isList e) (by simp [r.length]; omega) ⟨kToks (by omega), ?_⟩
  cases r with
  | nil => rfl
  | cons _ _ => simp
end

section
variable {C : Cx} {n : Nat} {nm : Names} {ρ : Rho}
/-- what a test asks of any expression whose truth is its value's truth -/
theorem Tst.value {e : Expr} {k : Nat} {d : D} {b : Bool} (h : Ev C n nm ρ e k d) (t : Tru C k d b)
    (he : ∀ (env : Env) (whole : Sem Value), isTrue e env whole = (do let v ← whole; standAt e.pos; holding [v] (truthy v)) := by exact it_all rfl) : Tst C n nm ρ e b := .mk fun A env X s o ok p =>
  wpAny_isTrue_value (h.then o ok p fun v s' k p' ⟨T, r⟩ => wp_mono (t.go n A X s' v T o p'.gr r) fun c s'' g => ⟨kTrans k g.1, g.2⟩) (he env _)
theorem Tst.cmp {l r : Expr} {op : CmpOp} {pos : Pos} {k₁ k₂ : Nat} {d₁ d₂ : D} {b : Bool} (a : Ev C n nm ρ l k₁ d₁) (c : Ev C n nm ρ r k₂ d₂) (m : Cmp C op k₁ d₁ k₂ d₂ b) (hm : behindInMarks op r = false := by with_unfolding_all rfl) :
    Tst C n nm ρ (.Compare l [op] [r] pos) b := .mk fun A env X s o ok p =>
  wpAny_isTrue_Compare1 (a.then o ok p fun v s' k p' ⟨T, q⟩ => c.then o ok p' fun u s'' k' p'' ⟨T', q'⟩ =>
    wp_mono (m.go n A X s'' v u T T' o p''.gr (q.keep (.all (kGet k')) fun b _ o => kGet k' b o) q') fun w z g => by
      obtain ⟨g1, rfl⟩ := g
      exact wpAny_truthy_bool ⟨kTrans k (kTrans k' g1), rfl⟩) hm
theorem Ev.cmp {l r : Expr} {op : CmpOp} {pos : Pos} {k₁ k₂ : Nat} {d₁ d₂ : D} {b : Bool} (a : Ev C n nm ρ l k₁ d₁) (c : Ev C n nm ρ r k₂ d₂) (m : Cmp C op k₁ d₁ k₂ d₂ b) (hm : behindInMarks op r = false := by with_unfolding_all rfl) :
    Ev C n nm ρ (.Compare l [op] [r] pos) 0 (.bool b) := .mk fun A env X s o ok p =>
  wpAny_Compare1 (a.then o ok p fun v s' k p' ⟨T, q⟩ => c.then o ok p' fun u s'' k' p'' ⟨T', q'⟩ =>
    wp_mono (m.go n A X s'' v u T T' o p''.gr (q.keep (.all (kGet k')) fun b _ o => kGet k' b o) q') fun w z g => by
      obtain ⟨g1, rfl⟩ := g
      exact .mk (kTrans k (kTrans k' g1)) (.bool b)) hm
theorem Tst.not {x : Expr} {pos : Pos} {b : Bool} (h : Tst C n nm ρ x b) : Tst C n nm ρ (.UnaryOp .Not x pos) (!b) := .mk fun A env X s o ok p =>
  wpAny_isTrue_Not (h.then o ok p fun s' k p' => ⟨k, rfl⟩)
/-- a row of tests under and | or -/
inductive TstAll (C : Cx) (n : Nat) (nm : Names) (ρ : Rho) : BoolOp → List Expr → Bool → Prop
  | andNil : TstAll C n nm ρ .And [] true
  | orNil : TstAll C n nm ρ .Or [] false
  | andCons {e : Expr} {es : List Expr} {b c : Bool} : Tst C n nm ρ e b → (b = true → TstAll C n nm ρ .And es c) → TstAll C n nm ρ .And (e :: es) (b && c)
  | orCons {e : Expr} {es : List Expr} {b c : Bool} : Tst C n nm ρ e b → (b = false → TstAll C n nm ρ .Or es c) → TstAll C n nm ρ .Or (e :: es) (b || c)
theorem TstAll.run {op : BoolOp} : ∀ {es : List Expr} {b : Bool}, TstAll C n nm ρ op es b → ∀ (A : Around) (env : Env) (X : List Addr) (s : Shared), Ok n A → EnvOk nm env → Pre C nm env X ρ s → Wp C A (allTrue op es env) (GivesB b s) s
  | _, _, .andNil, A, env, X, s, o, ok, p => wpAny_allTrue_And_nil ⟨kRefl _, rfl⟩
  | _, _, .orNil, A, env, X, s, o, ok, p => wpAny_allTrue_Or_nil ⟨kRefl _, rfl⟩
  | _, _, .andCons (b := b) h r, A, env, X, s, o, ok, p => wpAny_allTrue_And_cons (h.then o ok p fun s' k p' => by
      cases b with
      | false => exact ⟨k, rfl⟩
      | true => exact wp_mono (TstAll.run (r rfl) A env X s' o ok p') fun c s'' g => ⟨kTrans k g.1, g.2⟩)
  | _, _, .orCons (b := b) h r, A, env, X, s, o, ok, p => wpAny_allTrue_Or_cons (h.then o ok p fun s' k p' => by
      cases b with
      | true => exact ⟨k, rfl⟩
      | false => exact wp_mono (TstAll.run (r rfl) A env X s' o ok p') fun c s'' g => ⟨kTrans k g.1, g.2⟩)
theorem Tst.all {op : BoolOp} {es : List Expr} {pos : Pos} {b : Bool} (h : TstAll C n nm ρ op es b) : Tst C n nm ρ (.BoolOp op es pos) b := .mk fun A env X s o ok p => wpAny_isTrue_BoolOp (h.run A env X s o ok p)
theorem Ev.and2 {x y : Expr} {pos : Pos} {d d' : D} {b : Bool} (h : Ev C n nm ρ x 0 d) (t : Tru C 0 d b) (h' : b = true → Ev C n nm ρ y 0 d') : Ev C n nm ρ (.BoolOp .And [x, y] pos) 0 (if b then d' else d) := .mk fun A env X s o ok p =>
  wpAny_And2 (h.then o ok p fun v s' k p' ⟨T, r⟩ => wp_mono (t.go n A X s' v T o p'.gr r) fun c s'' g => by
    obtain ⟨g1, rfl⟩ := g
    cases c with
    | true => exact wp_mono ((h' rfl).go A env X s'' o ok (p'.keeps g1)) fun u z q => ⟨kTrans k (kTrans g1 q.1), q.2⟩
    | false => exact ⟨kTrans k g1, T, r.keep (.all (kGet g1)) fun b _ o => kGet g1 b o⟩)
theorem Ev.or2 {x y : Expr} {pos : Pos} {d d' : D} {b : Bool} (h : Ev C n nm ρ x 0 d) (t : Tru C 0 d b) (h' : b = false → Ev C n nm ρ y 0 d') : Ev C n nm ρ (.BoolOp .Or [x, y] pos) 0 (if b then d else d') := .mk fun A env X s o ok p =>
  wpAny_Or2 (h.then o ok p fun v s' k p' ⟨T, r⟩ => wp_mono (t.go n A X s' v T o p'.gr r) fun c s'' g => by
    obtain ⟨g1, rfl⟩ := g
    cases c with
    | false => exact wp_mono ((h' rfl).go A env X s'' o ok (p'.keeps g1)) fun u z q => ⟨kTrans k (kTrans g1 q.1), q.2⟩
    | true => exact ⟨kTrans k g1, T, r.keep (.all (kGet g1)) fun b _ o => kGet g1 b o⟩)
theorem Ev.ifexp {t x y : Expr} {pos : Pos} {b : Bool} {d : D} (h : Tst C n nm ρ t b) (h1 : b = true → Ev C n nm ρ x 0 d) (h2 : b = false → Ev C n nm ρ y 0 d) : Ev C n nm ρ (.IfExp t x y pos) 0 d := .mk fun A env X s o ok p =>
  wpAny_IfExp (h.then o ok p fun s' k p' => by
    cases b with
    | true => exact wp_mono ((h1 rfl).go A env X s' o ok p') fun u z q => ⟨kTrans k q.1, q.2⟩
    | false => exact wp_mono ((h2 rfl).go A env X s' o ok p') fun u z q => ⟨kTrans k q.1, q.2⟩)

/-- a row of expressions -/
inductive Evs (C : Cx) (n : Nat) (nm : Names) (ρ : Rho) : List Expr → List D → Prop
  | nil : Evs C n nm ρ [] []
  | cons {e : Expr} {es : List Expr} {d : D} {ds : List D} : Ev C n nm ρ e 0 d → (∀ env : Env, starEach (e :: es) env = (false, eval e env) :: starEach es env) → Evs C n nm ρ es ds → Evs C n nm ρ (e :: es) (d :: ds)
theorem Evs.run {pos : Pos} : ∀ {es : List Expr} {ds : List D}, Evs C n nm ρ es ds → ∀ (A : Around) (env : Env) (X : List Addr) (s : Shared), Ok n A → EnvOk nm env → Pre C nm env X ρ s →
    Wp C A (spliced (backTo pos (starEach es env))) (fun vs s' => Kp s s' ∧ RepL C X s'.heap vs ds) s
  | _, _, .nil, A, env, X, s, o, ok, p => args_nil ⟨kRefl _, .nil⟩
  | _, _, .cons h he r, A, env, X, s, o, ok, p => args_cons (h.then0 o ok p fun v s' k p' q => wp_mono (Evs.run r A env X s' o ok p') fun vs s'' ⟨k', q'⟩ => ⟨kTrans k k', .cons (q.keep (.all (kGet k'))) q'⟩) (he env)
theorem Ev.list {es : List Expr} {ds : List D} {pos : Pos} (h : Evs C n nm ρ es ds) (hz : ds.length ≤ 1000) : Ev C n nm ρ (.List es pos) 0 (.list ds) := .mk fun A env X s o ok p =>
  wpAny_List_spliced (wp_mono (h.run A env X s o ok p) fun vs s' ⟨k, q⟩ => ⟨by simp only [sizeLine]; rw [q.length]; omega,
    .mk (kTrans k (kPush _ (Nat.le_refl _))) (.list (vs := vs) (n := 0) (new_off (p.keeps k).gr.live) (Heap.get?_push_size _ rfl) (q.keep (.all fun b o e => Heap.get?_push_of_some _ e)))⟩)
theorem Ev.tup {es : List Expr} {ds : List D} {x1 : Nat} {pos : Pos} (h : Evs C n nm ρ es ds) (hz : ds.length ≤ 1000) : Ev C n nm ρ (.Tuple es x1 pos) 0 (.tup ds) := .mk fun A env X s o ok p =>
  wpAny_Tuple_spliced (wp_mono (h.run A env X s o ok p) fun vs s' ⟨k, q⟩ => ⟨by simp only [sizeLine]; rw [q.length]; omega,
    .mk (kTrans k (kPush _ (Nat.le_refl _))) (.tup (vs := vs) (n := 0) (new_off (p.keeps k).gr.live) (Heap.get?_push_size _ rfl) (q.keep (.all fun b o e => Heap.get?_push_of_some _ e)))⟩)
end
end Mine
end
section
open PySem PySem.W PyProof.Rows PySem.Calls PySem.Spec
set_option maxRecDepth 100000
namespace Mine

/-- reading an item: from any state -/
structure Itm (C : Cx) (k : Nat) (d₁ d₂ : D) (k' : Nat) (d : D) : Prop where
  go : ∀ (n : Nat) (A : Around) (X : List Addr) (s : Shared) (v₁ v₂ : Value) (T₁ : List Addr), Ok n A → Gr C X s → RepO C X s.heap k v₁ d₁ T₁ → Rep C X s.heap v₂ d₂ →
    ∃ T id, s.TypeIs v₁ T ∧ typeLookup (.type T) "__getitem__" = pure (some (.builtin id)) ∧ Wp C A (getItem v₁ v₂) (Gives C X k' d s) s

theorem RepOL.get {C : Cx} {X : List Addr} {h : Heap} {k : Nat} {vs : List Value} {ds : List D} {T : List Addr} (r : RepOL C X h k vs ds T) {i : Nat} {d : D} (e : ds[i]? = some d) : ∃ v T', vs[i]? = some v ∧ RepO C X h k v d T' ∧ ∀ b ∈ T', b ∈ T := by
  induction vs generalizing ds i T with
  | nil => cases r; simp at e
  | cons v vs ih =>
    cases r with
    | cons a r =>
      cases i with
      | zero => simp at e; subst e; exact ⟨v, _, rfl, a, fun b hb => by simp [hb]⟩
      | succ i => obtain ⟨w, T', h1, h2, h3⟩ := ih r (by simpa using e); exact ⟨w, T', h1, h2, fun b hb => by simp [h3 b hb]⟩

section
variable {C : Cx}
theorem strOk_one {c : Nat} {x : Str} (h : PyData.strOk x = true) (m : c ∈ x.cps) : PyData.strOk ⟨#[c]⟩ = true := by
  unfold PyData.strOk at *
  rw [Array.all_eq_true'] at h
  have := h c m
  simp only [List.all_toArray, List.all_cons, List.all_nil, Bool.and_true]
  exact this
theorem Itm.list {ds : List D} {i : Int} {d : D} (h0 : 0 ≤ i) (hi : i < 1000000) (e : ds[i.toNat]? = some d) : Itm C 0 (.list ds) (.int i) 0 d := .mk fun n A X s v₁ v₂ T₁ o g r₁ r₂ => by
  obtain ⟨u, rfl⟩ := r₂.invI
  obtain ⟨_, _, _, rfl, ha, e', r⟩ := r₁.zero.1.invL
  obtain ⟨v, hv, q⟩ := r.get e
  exact ⟨"list", _, (listO_isList e').typeIs, PySem.slot_list_getitem.lookup, wpAny_getItem_list (listO_isList e') h0 (by omega) (by simpa using hv) (.mk (kRefl _) q)⟩
theorem Itm.own {ds : List D} {k : Nat} {i : Int} {d : D} (h0 : 0 ≤ i) (hi : i < 1000000) (e : ds[i.toNat]? = some d) : Itm C (k + 1) (.list ds) (.int i) k d := .mk fun n A X s v₁ v₂ T₁ o g r₁ r₂ => by
  obtain ⟨u, rfl⟩ := r₂.invI
  obtain ⟨_, _, _, _, rfl, _, e', r⟩ := r₁.invL
  obtain ⟨v, T', hv, q, _⟩ := r.get e
  exact ⟨"list", _, (listO_isList e').typeIs, PySem.slot_list_getitem.lookup, wpAny_getItem_list (listO_isList e') h0 (by omega) (by simpa using hv) ⟨kRefl _, T', q⟩⟩
theorem Itm.tup {ds : List D} {i : Int} {d : D} (h0 : 0 ≤ i) (hi : i < 1000000) (e : ds[i.toNat]? = some d) : Itm C 0 (.tup ds) (.int i) 0 d := .mk fun n A X s v₁ v₂ T₁ o g r₁ r₂ => by
  obtain ⟨u, rfl⟩ := r₂.invI
  obtain ⟨a, vs, m, rfl, ha, e', r⟩ := r₁.zero.1.invT
  obtain ⟨v, hv, q⟩ := r.get e
  have ht : IsTup s.heap a vs.toArray := ⟨_, e', rfl, m, rfl⟩
  have hl : i.toNat < vs.length := (List.getElem?_eq_some_iff.mp hv).1
  refine ⟨"tuple", _, ht.typeIs, PyProof.Rows.slot_tuple_getitem.lookup, getItem_tuple (j := i.toNat) ht (by omega) (by omega) ?_ (by simpa using hv) (.mk (kRefl _) q)⟩
  unfold seqIndex?
  simp only [List.size_toArray]
  have h1 : ¬ i < 0 := by omega
  have h2 : i < (vs.length : Int) := by omega
  simp [h1, h0, h2]
theorem Itm.dict {k : Nat} {ds : List (Str × D)} {x : Str} {d : D} (hk : k ≤ 1) (e : dget ds x = some d) : Itm C k (.dict ds) (.str x) 0 d := .mk fun n A X s v₁ v₂ T₁ o g r₁ r₂ => by
  obtain ⟨a, kvs, rfl, hs, e', r⟩ := dict_of hk r₁
  obtain ⟨t, rfl, _⟩ := r₂.invS
  have := r.find x
  rw [e] at this
  obtain ⟨v, hv, q⟩ := this
  exact ⟨"dict", _, e'.typeIs, PySem.slot_dict_getitem.lookup, wpAny_getItem_of (strKind_is _ _ x t) e'.mapOf hv (.mk (kToks (Nat.le_succ _)) q)⟩
theorem Itm.str {x : Str} {i : Int} {c : Nat} (h0 : -1000000 < i) (hi : i < 1000000) (e : Txt.charAt x i = some c) : Itm C 0 (.str x) (.int i) 0 (.str ⟨#[c]⟩) := .mk fun n A X s v₁ v₂ T₁ o g r₁ r₂ => by
  obtain ⟨u, rfl⟩ := r₂.invI
  obtain ⟨t, rfl, q⟩ := r₁.zero.1.invS
  have hit : Txt.item x i = ⟨#[c]⟩ := by unfold Txt.item; rw [e]; rfl
  have hm : c ∈ x.cps := by
    unfold Txt.charAt at e
    cases hj : seqIndex? i x.length with
    | none => rw [hj] at e; cases e
    | some j => rw [hj] at e; exact Array.mem_of_getElem? e
  refine ⟨"str", _, typeIs_str _ _ _, F.slot_str_getitem.lookup, SB.getItem (by simp only [PySem.fitsSsize]; simp; omega) (by rw [e]; rfl) ?_⟩
  rw [hit]
  exact .mk (kToks (Nat.le_succ _)) (.str _ _ (strOk_one q hm))
end

section
variable {C : Cx} {n : Nat} {nm : Names} {ρ : Rho}
theorem Ev.sub {value slice : Expr} {pos : Pos} {k k' : Nat} {d₁ d₂ d : D} (a : Ev C n nm ρ value k d₁) (b : Ev C n nm ρ slice 0 d₂) (c : Itm C k d₁ d₂ k' d)
    (hs : ∀ o i, subscripted slice false o i = operate [o, i] (getItem o i) := by intro _ _; rfl) : Ev C n nm ρ (.Subscript value slice pos) k' d := .mk fun A env X s o ok p =>
  Subscript_ (a.then o ok p fun v s' k p' ⟨T, q⟩ => b.then0 o ok p' fun u s'' k' p'' q' => by
    obtain ⟨T', id, hT, hl, hg⟩ := c.go n A X s'' v u T o p''.gr (q.keep (.all (kGet k')) fun b _ o => kGet k' b o) q'
    exact tail_any hT hl (wp_mono hg fun w z g => ⟨kTrans k (kTrans k' g.1), g.2⟩) (hs v u))

/-- a slice's end: an int or nothing -/
inductive EvPart (C : Cx) (n : Nat) (nm : Names) (ρ : Rho) : Option Expr → Option Int → Prop
  | none : EvPart C n nm ρ none none
  | some {e : Expr} {i : Int} : Ev C n nm ρ e 0 (.int i) → EvPart C n nm ρ (some e) (some i)
theorem EvPart.then {A : Around} {env : Env} {X : List Addr} {s : Shared} {e : Option Expr} {i : Option Int} {Q : Value → Shared → Prop} (h : EvPart C n nm ρ e i) (o : Ok n A) (ok : EnvOk nm env) (p : Pre C nm env X ρ s)
    (hq : ∀ v s', Kp s s' → Pre C nm env X ρ s' → IsPart v i → Q v s') : Wp C A (evalPart e env) Q s := by
  cases h with
  | none => exact evalPart_none_step (hq _ _ (kRefl _) p .none)
  | some h => exact evalPart_some_step (h.then0 o ok p fun v s' k p' q => by cases q; exact hq _ _ k p' (.int _ _))

/-- xs[a:b] for ends that are not negative -/
noncomputable def cut {α : Type} (xs : List α) (lo hi : Option Int) : List α := (xs.take (hi.elim xs.length (·.toNat))).drop (lo.elim 0 (·.toNat))
theorem slicePick_cut (vs : List Value) (lo hi : Option Int) (h0 : ∀ a, lo = some a → 0 ≤ a) (h1 : ∀ a, hi = some a → 0 ≤ a) : slicePick vs.toArray lo hi none = (cut vs lo hi).toArray := by
  rw [slicePick_plain]
  congr 1
  unfold cut
  simp only [List.size_toArray]
  have cl : ∀ a : Int, 0 ≤ a → clipAt vs.length a = min a.toNat vs.length := fun a ha => by
    have := clipAt_nat vs.length a.toNat
    rwa [Int.toNat_of_nonneg ha] at this
  have tk : ∀ k : Nat, vs.take (min k vs.length) = vs.take k := fun k => by
    rcases Nat.le_total k vs.length with h | h
    · rw [Nat.min_eq_left h]
    · rw [Nat.min_eq_right h, List.take_of_length_le h, List.take_of_length_le (Nat.le_refl _)]
  cases lo with
  | none =>
    cases hi with
    | none => simp
    | some b => simp only [Option.elim, cl b (h1 b rfl), List.drop_zero, Nat.sub_zero, tk]
  | some a =>
    cases hi with
    | none =>
      simp only [Option.elim, cl a (h0 a rfl), List.take_length]
      rcases Nat.le_total a.toNat vs.length with h | h
      · rw [Nat.min_eq_left h, List.take_of_length_le (by simp)]
      · rw [Nat.min_eq_right h, List.drop_of_length_le h]; simp
    | some b =>
      simp only [Option.elim, cl a (h0 a rfl), cl b (h1 b rfl), List.drop_take]
      rcases Nat.le_total a.toNat vs.length with h | h
      · rw [Nat.min_eq_left h]
        rcases Nat.le_total b.toNat vs.length with h' | h'
        · rw [Nat.min_eq_left h']
        · rw [Nat.min_eq_right h', List.take_of_length_le (by simp), List.take_of_length_le (by simp; omega)]
      · rw [Nat.min_eq_right h, List.drop_of_length_le h, List.drop_of_length_le (Nat.le_refl _)]; simp
theorem RepL.cut {X : List Addr} {h : Heap} {vs : List Value} {ds : List D} (r : RepL C X h vs ds) (lo hi : Option Int) : RepL C X h (cut vs lo hi) (cut ds lo hi) := by
  unfold Mine.cut
  rw [r.length]
  exact (r.take _).drop _
theorem Ev.slice_list {value : Expr} {lower upper : Option Expr} {p pos : Pos} {ds : List D} {lo hi : Option Int} (a : Ev C n nm ρ value 0 (.list ds)) (b : EvPart C n nm ρ lower lo) (c : EvPart C n nm ρ upper hi)
    (h0 : ∀ a, lo = some a → 0 ≤ a) (h1 : ∀ a, hi = some a → 0 ≤ a) (hz : ds.length ≤ 1000000) (ht : ∀ o r, letTemporaryGo value o r = pure () := by intro _ _; rfl) :
    Ev C n nm ρ (.Subscript value (.Slice lower upper Option.none p) pos) 0 (.list (cut ds lo hi)) := .mk fun A env X s o ok p =>
  Subscript_Slice (a.then0 o ok p fun v s' k p' q => wpAny_Slice (b.then o ok p' fun vl s₁ k₁ p₁ q₁ => c.then o ok p₁ fun vu s₂ k₂ p₂ q₂ => evalPart_none_step (by
    cases q with
    | list ha e r =>
      rename_i l vs m
      have e₂ := kGet k₂ _ _ (kGet k₁ _ _ e)
      have r₂ := r.keep (.all (kGet (kTrans k₁ k₂)))
      have kk := kTrans k (kTrans k₁ k₂)
      have pp : Kp s₂ { s₂ with heap := s₂.heap.push { cls := .type "slice", data := .fields #[vl, vu, .none] } } := kPush _ (Nat.le_refl _)
      refine ⟨"list", _, list_getitem_lookup, (listO_isList (kGet pp _ _ e₂)).typeIs, wpAny_getItem_list_slice ((listO_isList e₂).push _) (Heap.IsSliceOf.new ..) q₁ q₂ .none (by simp) ?_ (by simp only [sizeLine, List.size_toArray]; rw [r.length]; omega)⟩
      rw [slicePick_cut _ _ _ h0 h1]
      exact .mk (kTrans kk (kTrans pp (kPush _ (Nat.le_refl _)))) (.list (vs := cut vs lo hi) (n := 0) (new_off (p₂.keeps pp).gr.live) (Heap.get?_push_size _ rfl)
        ((r₂.cut lo hi).keep (.all fun b o e => Heap.get?_push_of_some _ (Heap.get?_push_of_some _ e))))))) ht

theorem strOk_slice {x : Str} (h : PyData.strOk x = true) (l u : Option Int) : PyData.strOk (Txt.slice x l u) = true := by
  unfold Txt.slice
  split
  · exact h
  · unfold PyData.strOk at *
    rw [Array.all_eq_true'] at *
    intro c hc
    simp only [List.mem_toArray, List.mem_filterMap] at hc
    obtain ⟨i, _, hi⟩ := hc
    exact h c (Array.mem_of_getElem? hi)
theorem Ev.slice_str {value : Expr} {lower upper : Option Expr} {p pos : Pos} {x : Str} {lo hi : Option Int} (a : Ev C n nm ρ value 0 (.str x)) (b : EvPart C n nm ρ lower lo) (c : EvPart C n nm ρ upper hi)
    (hz : x.length ≤ 1000000) (ht : ∀ o r, letTemporaryGo value o r = pure () := by intro _ _; rfl) :
    Ev C n nm ρ (.Subscript value (.Slice lower upper Option.none p) pos) 0 (.str (Txt.slice x lo hi)) := .mk fun A env X s o ok p => wp_up (
  Subscript_Slice (a.then0 o ok p fun v s' k p' q => wpAny_Slice (b.then o ok p' fun vl s₁ k₁ p₁ q₁ => c.then o ok p₁ fun vu s₂ k₂ p₂ q₂ => evalPart_none_step (by
    obtain ⟨t, rfl, ho⟩ := q.invS
    have hs : x.length ≤ sizeLine := by simp only [sizeLine]; omega
    have kk := kTrans k (kTrans k₁ k₂)
    have hk : KeptByPush (fun z => Keeps s z) := fun z ob tk hz => by obtain ⟨h, t, rfl, k⟩ := hz; exact ⟨_, tk, rfl, fun b o e' => Heap.get?_push_of_some _ (k b o e')⟩
    have fin : ∀ z t', Keeps s z → s.toks ≤ z.toks → Gives C X 0 (.str (Txt.slice x lo hi)) s (.str (Txt.slice x lo hi) t') z := fun z t' k l => .mk ⟨k, l⟩ (.str _ _ (strOk_slice ho _ _))
    cases q₁ <;> cases q₂
    · exact SBG.sliceItem_nn hk kk.1 (fun z t' k l => fin z t' k l) hs
    · exact SBG.sliceItem_ns hk kk.1 (fun z t' k l => fin z t' k l) hs
    · exact SBG.sliceItem_sn hk kk.1 (fun z t' k l => fin z t' k l) hs
    · exact SBG.sliceItem_ss hk kk.1 (fun z t' k l => fin z t' k l) hs))) ht)
theorem Ev.neg {x : Expr} {pos : Pos} {i : Int} (h : Ev C n nm ρ x 0 (.int i)) : Ev C n nm ρ (.UnaryOp .USub x pos) 0 (.int (-i)) := .mk fun A env X s o ok p => by
  rw [arm_eval_UnaryOp]
  exact wpAny_bind (h.then0 o ok p fun v s' k p' q => wpAny_bind (wpAny_standAt (wpAny_holding (by cases q; exact P.neg_int (.mk (kTrans k (kToks (Nat.le_succ _))) (.int _ _))))))
end
end Mine
end
section
open PySem PySem.W PyProof.Rows PySem.Calls PySem.Spec
set_option maxRecDepth 100000
namespace Mine

/-- all but the moved is kept -/
noncomputable def KpB (Mv : List Addr) (s s' : Shared) : Prop := (∃ h t, s' = { s with heap := h, toks := t }) ∧ s.toks ≤ s'.toks ∧ ∀ b o, b ∉ Mv → s.heap.get? b = some o → s'.heap.get? b = some o
theorem KpB.get {Mv : List Addr} {s s' : Shared} (k : KpB Mv s s') : ∀ b o, b ∉ Mv → s.heap.get? b = some o → s'.heap.get? b = some o := k.2.2
theorem KpB.of {Mv : List Addr} {s s' : Shared} (k : Kp s s') : KpB Mv s s' := by
  obtain ⟨⟨h, t, rfl, k⟩, l⟩ := k; exact ⟨⟨h, t, rfl⟩, l, fun b o _ e => k b o e⟩
theorem KpB.to {s s' : Shared} (k : KpB [] s s') : Kp s s' := by
  obtain ⟨⟨h, t, rfl⟩, l, k⟩ := k; exact ⟨⟨h, t, rfl, fun b o e => k b o (by simp) e⟩, l⟩
theorem KpB.trans {Mv : List Addr} {s s' s'' : Shared} (a : KpB Mv s s') (b : KpB Mv s' s'') : KpB Mv s s'' := by
  obtain ⟨⟨h, t, rfl⟩, l, k⟩ := a
  obtain ⟨⟨h', t', rfl⟩, l', k'⟩ := b
  exact ⟨⟨h', t', rfl⟩, Nat.le_trans l l', fun b o m e => k' b o m (k b o m e)⟩
/-- what is changed is one's own, or moved -/
theorem KpB.own {Mv M : List Addr} {s s' s'' : Shared} (a : KpB Mv s s') (b : KpB M s' s'') (n : ∀ x ∈ M, x ∉ Mv → s.heap.get? x = none) : KpB Mv s s'' := by
  obtain ⟨⟨h, t, rfl⟩, l, k⟩ := a
  obtain ⟨⟨h', t', rfl⟩, l', k'⟩ := b
  exact ⟨⟨h', t', rfl⟩, Nat.le_trans l l', fun b o m e => k' b o (fun hb => by rw [n b hb m] at e; cases e) (k b o m e)⟩
theorem KpB.refl {Mv : List Addr} (s : Shared) : KpB Mv s s := .of (kRefl s)

structure Frm (C : Cx) (nm : Names) (env : Env) (s₀ : Shared) (Mv Xc M : List Addr) (T : Nat → List Addr) (ρ : Rho) (s : Shared) : Prop where
  kp : KpB Mv s₀ s
  gr : Gr C (M ++ Xc) s
  new : ∀ b ∈ M, b ∉ Mv → s₀.heap.get? b = none
  off : ∀ b ∈ M, C.h₀.get? b = none
  dis : ∀ b ∈ M, b ∉ Xc
  loc : env.locals ∈ M
  ns : ∃ m, s.heap.Ns env.locals m
  cel : ∀ x, nm.lookup x = some .cell → ∃ c v, env.cells.lookup x = some c ∧ s.heap.IsCell c v ∧ c ∈ M
  one : ∀ x y c, nm.lookup x = some .cell → env.cells.lookup x = some c → env.cells.lookup y = some c → y = x
  fre : ∀ x c, nm.lookup x = some .free → env.cells.lookup x = some c → c ∉ M ∧ ∃ o, s.heap.get? c = some o
  vars : ∀ (i k : Nat) (d : D), ρ[i]? = some (some (k, d)) → ∃ x kd v, nm[i]? = some (x, kd) ∧ VarAt env s.heap x kd v ∧ RepO C (M ++ Xc) s.heap k v d (T i)
  ownM : ∀ i, ∀ b ∈ T i, b ∈ M
  ownL : ∀ i, env.locals ∉ T i
  ownC : ∀ x c, nm.lookup x = some .cell → env.cells.lookup x = some c → ∀ i, c ∉ T i
  apart : ∀ i j, i ≠ j → ∀ b ∈ T i, b ∉ T j
  nodup : ∀ i, (T i).Nodup
  mv : ∀ b ∈ Mv, b ∈ M

theorem ns_not_cell {h : Heap} {a : Addr} {m : Str → Option Value} {v : Option Value} (n : h.Ns a m) (c : h.IsCell a v) : False := by
  obtain ⟨o, es, ep, ho, hd, _⟩ := n
  obtain ⟨o', ho', hd'⟩ := c
  rw [ho] at ho'; cases ho'; rw [hd] at hd'; cases hd'

section
variable {C : Cx} {nm : Names} {env : Env} {s₀ s s' : Shared} {Mv Xc M : List Addr} {T : Nat → List Addr} {ρ : Rho}
theorem Frm.pre (f : Frm C nm env s₀ Mv Xc M T ρ s) : Pre C nm env (M ++ Xc) ρ s :=
  ⟨f.gr, fun i k d e => let ⟨x, kd, v, a, b, c⟩ := f.vars i k d e; ⟨x, kd, v, T i, a, b, c⟩, fun x c h e => by
    rcases h with h | h
    · obtain ⟨c', v, a, ⟨o, b, _⟩, _⟩ := f.cel x h
      rw [e] at a; cases a; exact ⟨o, b⟩
    · exact (f.fre x c h e).2⟩
theorem Frm.keeps (f : Frm C nm env s₀ Mv Xc M T ρ s) (k : Kp s s') : Frm C nm env s₀ Mv Xc M T ρ s' where
  kp := f.kp.trans (.of k)
  gr := f.gr.keeps k
  new := f.new
  off := f.off
  dis := f.dis
  loc := f.loc
  ns := let ⟨m, n⟩ := f.ns; ⟨m, n.keeps (kGet k)⟩
  cel := fun x h => let ⟨c, v, a, b, d⟩ := f.cel x h; ⟨c, v, a, b.keeps (kGet k), d⟩
  one := f.one
  fre := fun x c a b => let ⟨n, o, e⟩ := f.fre x c a b; ⟨n, o, kGet k c o e⟩
  vars := fun i n d e => let ⟨x, kd, v, a, b, c⟩ := f.vars i n d e; ⟨x, kd, v, a, b.keeps (kGet k), c.keep (.all (kGet k)) fun b _ o => kGet k b o⟩
  ownM := f.ownM
  ownL := f.ownL
  ownC := f.ownC
  apart := f.apart
  nodup := f.nodup
  mv := f.mv
/-- new objects of one's own -/
theorem Frm.grow (f : Frm C nm env s₀ Mv Xc M T ρ s) (k : Kp s s') {N : List Addr} (hn : ∀ b ∈ N, s.heap.get? b = none) (hl : ∀ b ∈ N, ∃ o, s'.heap.get? b = some o) : Frm C nm env s₀ Mv Xc (N ++ M) T ρ s' where
  kp := f.kp.trans (.of k)
  gr := ⟨(f.gr.keeps k).old, fun a m => by
    rcases List.mem_append.mp m with m | m
    · rcases List.mem_append.mp m with m | m
      · exact hl a m
      · exact (f.gr.keeps k).live a (List.mem_append.mpr (.inl m))
    · exact (f.gr.keeps k).live a (List.mem_append.mpr (.inr m)), (f.gr.keeps k).toks⟩
  new := fun b m hb => by
    rcases List.mem_append.mp m with m | m
    · cases e : s₀.heap.get? b with
      | none => rfl
      | some o => have := f.kp.get b o hb e; rw [hn b m] at this; cases this
    · exact f.new b m hb
  off := fun b m => by
    rcases List.mem_append.mp m with m | m
    · cases e : C.h₀.get? b with
      | none => rfl
      | some o => have := f.gr.old b o e; rw [hn b m] at this; cases this
    · exact f.off b m
  dis := fun b m hX => by
    rcases List.mem_append.mp m with m | m
    · obtain ⟨o, e⟩ := f.gr.live b (List.mem_append.mpr (.inr hX))
      rw [hn b m] at e; cases e
    · exact f.dis b m hX
  loc := List.mem_append.mpr (.inr f.loc)
  ns := let ⟨m, n⟩ := f.ns; ⟨m, n.keeps (kGet k)⟩
  cel := fun x h => let ⟨c, v, a, b, d⟩ := f.cel x h; ⟨c, v, a, b.keeps (kGet k), List.mem_append.mpr (.inr d)⟩
  one := f.one
  fre := fun x c a b => by
    obtain ⟨n, o, e⟩ := f.fre x c a b
    refine ⟨fun m => ?_, o, kGet k c o e⟩
    rcases List.mem_append.mp m with m | m
    · rw [hn c m] at e; cases e
    · exact n m
  vars := fun i n d e => by
    obtain ⟨x, kd, v, a, b, c⟩ := f.vars i n d e
    refine ⟨x, kd, v, a, b.keeps (kGet k), c.keep ⟨fun b o _ => kGet k b o, fun b o e m => ?_⟩ fun b _ o => kGet k b o⟩
    rw [List.append_assoc] at m
    rcases List.mem_append.mp m with m | m
    · rw [hn b m] at e; cases e
    · exact m
  ownM := fun i b m => List.mem_append.mpr (.inr (f.ownM i b m))
  ownL := f.ownL
  ownC := f.ownC
  apart := f.apart
  nodup := f.nodup
  mv := fun b m => List.mem_append.mpr (.inr (f.mv b m))

/-- a change of the one object a, of one's own -/
structure Chg (a : Addr) (s s' : Shared) : Prop where
  same : ∃ h t, s' = { s with heap := h, toks := t }
  toks : s.toks ≤ s'.toks
  but : ∀ b, b ≠ a → ∀ o, s.heap.get? b = some o → s'.heap.get? b = some o
theorem Chg.of {a : Addr} {s : Shared} {h : Heap} {t : Nat} (b : Heap.SameBut a s.heap h) (l : s.toks ≤ t) : Chg a s { s with heap := h, toks := t } := ⟨⟨h, t, rfl⟩, l, fun x hx o e => (b.2 x hx).trans e⟩
theorem Chg.kpB {a : Addr} {Mv : List Addr} (c : Chg a s s') (ha : a ∈ Mv) : KpB Mv s s' := ⟨c.same, c.toks, fun b o hb e => c.but b (fun h => hb (h ▸ ha)) o e⟩
theorem Chg.kp {a : Addr} (f : Frm C nm env s₀ Mv Xc M T ρ s) (c : Chg a s s') (ha : a ∈ M) : KpB Mv s₀ s' := f.kp.own (c.kpB ha) f.new
theorem Chg.keep {a : Addr} {X : List Addr} (c : Chg a s s') (ha : a ∈ X) : Keep X X s.heap s'.heap := ⟨fun b o hb e => c.but b (fun h => hb (h ▸ ha)) o e, fun _ _ _ m => m⟩
theorem Chg.gr {a : Addr} {X : List Addr} (g : Gr C X s) (c : Chg a s s') (h0 : C.h₀.get? a = none) (hl : ∃ o, s'.heap.get? a = some o) : Gr C X s' :=
  ⟨fun b o e => c.but b (fun h => by subst h; rw [h0] at e; cases e) o (g.old b o e), fun b m => by
    by_cases h : b = a
    · subst h; exact hl
    · obtain ⟨o, e⟩ := g.live b m; exact ⟨o, c.but b h o e⟩, Nat.le_trans g.toks c.toks⟩

/-- what a change of one's own object a leaves of the frame -/
theorem Frm.chg {a : Addr} (f : Frm C nm env s₀ Mv Xc M T ρ s) (c : Chg a s s') (ha : a ∈ M) (hl : ∃ o, s'.heap.get? a = some o)
    (hns : ∃ m, s'.heap.Ns env.locals m) (hcel : ∀ x c, nm.lookup x = some .cell → env.cells.lookup x = some c → ∃ v, s'.heap.IsCell c v)
    {ρ' : Rho} {T' : Nat → List Addr} (hvars : ∀ (i k : Nat) (d : D), ρ'[i]? = some (some (k, d)) → ∃ x kd v, nm[i]? = some (x, kd) ∧ VarAt env s'.heap x kd v ∧ RepO C (M ++ Xc) s'.heap k v d (T' i))
    (hT : ∀ i, T' i = T i ∨ T' i = []) : Frm C nm env s₀ Mv Xc M T' ρ' s' where
  kp := Chg.kp f c ha
  gr := Chg.gr f.gr c (f.off a ha) hl
  new := f.new
  off := f.off
  dis := f.dis
  loc := f.loc
  ns := hns
  cel := fun x h => by obtain ⟨k, v, e, _, m⟩ := f.cel x h; obtain ⟨v', q⟩ := hcel x k h e; exact ⟨k, v', e, q, m⟩
  one := f.one
  fre := fun x k h e => by
    obtain ⟨n, o, q⟩ := f.fre x k h e
    exact ⟨n, o, c.but k (fun h => n (h ▸ ha)) o q⟩
  vars := hvars
  ownM := fun i b m => by rcases hT i with e | e <;> rw [e] at m; exact f.ownM i b m; cases m
  ownL := fun i m => by rcases hT i with e | e <;> rw [e] at m; exact f.ownL i m; cases m
  ownC := fun x k h e i m => by rcases hT i with e' | e' <;> rw [e'] at m; exact f.ownC x k h e i m; cases m
  apart := fun i j h b m m' => by
    rcases hT i with e | e <;> rw [e] at m
    · rcases hT j with e' | e' <;> rw [e'] at m'
      · exact f.apart i j h b m m'
      · cases m'
    · cases m
  nodup := fun i => by rcases hT i with e | e <;> rw [e]; exact f.nodup i; exact List.nodup_nil
  mv := f.mv

theorem names_at (h : (nm.map (·.1)).Nodup) {i j : Nat} {x : Str} {k k' : NameKind} (a : nm[i]? = some (x, k)) (b : nm[j]? = some (x, k')) : i = j := by
  have hi : i < (nm.map (·.1)).length := by simpa using (List.getElem?_eq_some_iff.mp a).1
  have hj : j < (nm.map (·.1)).length := by simpa using (List.getElem?_eq_some_iff.mp b).1
  have e1 : (nm.map (·.1))[i]? = some x := by rw [List.getElem?_map, a]; rfl
  have e2 : (nm.map (·.1))[j]? = some x := by rw [List.getElem?_map, b]; rfl
  exact (List.getElem?_inj hi h).mp (e1.trans e2.symm)

theorem set_some {ρ : Rho} {i : Nat} {e : Option (Nat × D)} {j : Nat} {k : Nat} {d : D} (h : (ρ.set i e)[j]? = some (some (k, d))) : (j = i ∧ e = some (k, d)) ∨ (j ≠ i ∧ ρ[j]? = some (some (k, d))) := by
  rw [List.getElem?_set] at h
  by_cases hij : i = j
  · subst hij
    rw [if_pos rfl] at h
    split at h
    · left; exact ⟨rfl, by simpa using h⟩
    · cases h
  · rw [if_neg hij] at h; exact .inr ⟨fun e => hij e.symm, h⟩

/-- a name is bound to a value that is shared -/
theorem Frm.store (f : Frm C nm env s₀ Mv Xc M T ρ s) (ok : EnvOk nm env) {A : Around} {i : Nat} {x : Str} {kd : NameKind} (hi : nm[i]? = some (x, kd)) (hk : kd = .local ∨ kd = .cell) {v : Value} {k : Nat} {d : D} {N : List Addr}
    (r : RepO C (M ++ Xc) s.heap k v d N) (hN : N = [] ∨ (∀ b ∈ N, b ∈ M) ∧ env.locals ∉ N ∧ (∀ x c, nm.lookup x = some .cell → env.cells.lookup x = some c → c ∉ N) ∧ (∀ j, j ≠ i → ∀ b ∈ N, b ∉ T j) ∧ N.Nodup) {Q : Unit → Shared → Prop}
    (h : ∀ s', Frm C nm env s₀ Mv Xc M (fun j => if j = i then N else T j) (ρ.set i (some (k, d))) s' → (∃ a, a ∈ M ∧ Chg a s s') → Q () s') : Wp C A (storeName env x v) Q s := by
  have hx := lookup_at ok.nodup hi
  obtain ⟨m, hm⟩ := f.ns
  have other : ∀ {j : Nat} {y : Str} {kd' : NameKind}, nm[j]? = some (y, kd') → j ≠ i → y ≠ x := fun hj hne e => hne (names_at ok.nodup (e ▸ hj) hi)
  have fin : ∀ (a : Addr) (s' : Shared), a ∈ M → Chg a s s' → (∀ b ∈ N, b ≠ a) → (∀ j, a ∉ T j) → (∃ o, s'.heap.get? a = some o) → (∃ m, s'.heap.Ns env.locals m) → (∀ x c, nm.lookup x = some .cell → env.cells.lookup x = some c → ∃ v, s'.heap.IsCell c v) →
      VarAt env s'.heap x kd v → (∀ j y kd' u, nm[j]? = some (y, kd') → j ≠ i → VarAt env s.heap y kd' u → VarAt env s'.heap y kd' u) → Q () s' := fun a s' ha c hNa hTa hl hns hcel hv hvs => by
    have kk := c.keep (X := M ++ Xc) (List.mem_append.mpr (.inl ha))
    have hvars : ∀ (j k' : Nat) (d' : D), (ρ.set i (some (k, d)))[j]? = some (some (k', d')) → ∃ y kd' u, nm[j]? = some (y, kd') ∧ VarAt env s'.heap y kd' u ∧ RepO C (M ++ Xc) s'.heap k' u d' ((fun j => if j = i then N else T j) j) := fun j k' d' e => by
      rcases set_some e with ⟨rfl, e'⟩ | ⟨hne, e⟩
      · cases e'
        refine ⟨x, kd, v, hi, hv, ?_⟩
        simp only [if_true]
        exact r.keep kk fun b hb o e => c.but b (hNa b hb) o e
      · obtain ⟨y, kd', u, a1, a2, a3⟩ := f.vars j k' d' e
        refine ⟨y, kd', u, a1, hvs j y kd' u a1 hne a2, ?_⟩
        simp only [if_neg hne]
        exact a3.keep kk fun b hb o e => c.but b (fun h => hTa j (h ▸ hb)) o e
    refine h s' ?_ ⟨a, ha, c⟩
    have f1 : Frm C nm env s₀ Mv Xc M (fun j => if j = i then [] else T j) (ρ.set i none) s' :=
      f.chg c ha hl hns hcel (fun j k' d' e => by
        rcases set_some e with ⟨rfl, e'⟩ | ⟨hne, e⟩
        · cases e'
        · obtain ⟨y, kd', u, a1, a2, a3⟩ := f.vars j k' d' e
          refine ⟨y, kd', u, a1, hvs j y kd' u a1 hne a2, ?_⟩
          simp only [if_neg hne]
          exact a3.keep kk fun b hb o e => c.but b (fun h => hTa j (h ▸ hb)) o e) fun j => by by_cases h : j = i <;> simp [h]
    rcases hN with rfl | ⟨n1, n2, n3, n4, n5⟩
    · exact { f1 with vars := hvars }
    · exact { f1 with
        vars := hvars
        ownM := fun j b hb => by
          by_cases e : j = i
          · simp only [e, if_true] at hb; exact n1 b hb
          · simp only [e, if_false] at hb; exact f.ownM j b hb
        ownL := fun j hb => by
          by_cases e : j = i
          · simp only [e, if_true] at hb; exact n2 hb
          · simp only [e, if_false] at hb; exact f.ownL j hb
        ownC := fun y c hy hc j hb => by
          by_cases e : j = i
          · simp only [e, if_true] at hb; exact n3 y c hy hc hb
          · simp only [e, if_false] at hb; exact f.ownC y c hy hc j hb
        apart := fun j j' hne b hb hb' => by
          by_cases e : j = i
          · subst e
            simp only [if_true] at hb
            simp only [Ne.symm hne, if_false] at hb'
            exact n4 j' (Ne.symm hne) b hb hb'
          · simp only [e, if_false] at hb
            by_cases e' : j' = i
            · subst e'
              simp only [if_true] at hb'
              exact n4 j e b hb' hb
            · simp only [e', if_false] at hb'
              exact f.apart j j' hne b hb hb'
        nodup := fun j => by
          by_cases e : j = i
          · simp only [e, if_true]; exact n5
          · simp only [e, if_false]; exact f.nodup j }
  have hNL : env.locals ∉ N := by rcases hN with rfl | hN; simp; exact hN.2.1
  rcases hk with rfl | rfl
  · refine wpAny_storeName_local (ok.loc x hx) hm (fun h' hn' hs' => ?_) (by rw [ok.kind]; rfl)
    have c : Chg env.locals s { s with heap := h', toks := s.toks + 1 } := .of hs' (Nat.le_succ _)
    refine fin env.locals _ f.loc c (fun b hb e => hNL (e ▸ hb)) f.ownL (by obtain ⟨o, _, _, e, _⟩ := hn'; exact ⟨o, e⟩) ⟨_, hn'⟩ (fun y k hy hk' => ?_) (.loc hn' (by simp)) ?_
    · obtain ⟨k', w, e, q, _⟩ := f.cel y hy
      rw [hk'] at e; cases e
      exact ⟨w, q.sameBut hs' fun e => ns_not_cell hm (e ▸ q)⟩
    · intro j y kd' u hj hne hv
      cases hv with
      | loc a b =>
        refine .loc (m := fun z => if z = x then some v else m z) hn' ?_
        have : m y = some u := by
          obtain ⟨o, es, ep, e1, e2, e3, e4⟩ := a
          obtain ⟨o', es', ep', e1', e2', e3', e4'⟩ := hm
          rw [e1] at e1'; cases e1'; rw [e2] at e2'; cases e2'
          rw [← e4', e4, b]
        simp only [other hj hne, if_false, this]
      | cell a b => exact .cell a (b.sameBut hs' fun e => ns_not_cell hm (e ▸ b))
      | free a b => exact .free a (b.sameBut hs' fun e => ns_not_cell hm (e ▸ b))
  · obtain ⟨k₀, w, hc, hq, hM⟩ := f.cel x hx
    refine wpAny_storeName_cell ok.kind (ok.cell x hx) hc hq fun h' hc' hs' => ?_
    have c : Chg k₀ s { s with heap := h' } := .of (t := s.toks) hs' (Nat.le_refl _)
    have hLk : env.locals ≠ k₀ := fun e => ns_not_cell hm (e ▸ hq)
    refine fin k₀ _ hM c (fun b hb e => ?_) (f.ownC x k₀ hx hc) (by obtain ⟨o, e, _⟩ := hc'; exact ⟨o, e⟩) ⟨m, hm.sameBut hs' hLk⟩ (fun y k hy hk' => ?_) (.cell hc hc') ?_
    · subst e
      rcases hN with rfl | hN
      · cases hb
      · exact hN.2.2.1 x b hx hc hb
    · obtain ⟨k', w', e, q, _⟩ := f.cel y hy
      rw [hk'] at e; cases e
      by_cases e : k = k₀
      · subst e; exact ⟨_, hc'⟩
      · exact ⟨w', q.sameBut hs' e⟩
    · intro j y kd' u hj hne hv
      cases hv with
      | loc a b => exact .loc (a.sameBut hs' hLk) b
      | cell a b => exact .cell a (b.sameBut hs' fun e => other hj hne (f.one x y k₀ hx hc (e ▸ a)))
      | free a b => exact .free a (b.sameBut hs' fun e => (f.fre y _ (lookup_at ok.nodup hj) a).1 (e ▸ hM))
end
end Mine
end
section
open PySem PySem.W PyProof.Rows PySem.Calls PySem.Spec
set_option maxRecDepth 100000
namespace Mine
section
variable {C : Cx} {nm : Names} {env : Env} {s₀ s s' : Shared} {Mv Xc M M' : List Addr} {T T' : Nat → List Addr} {ρ ρ' : Rho}
theorem Frm.growX (f : Frm C nm env s₀ Mv Xc M T ρ s) (k : Kp s s') {N : List Addr} (hn : ∀ b ∈ N, s.heap.get? b = none) (hl : ∀ b ∈ N, ∃ o, s'.heap.get? b = some o) : Frm C nm env s₀ Mv (N ++ Xc) M T ρ s' :=
  let f' := f.keeps k
  { f' with
    dis := fun b m hX => by
      rcases List.mem_append.mp hX with hX | hX
      · obtain ⟨o, e⟩ := f.gr.live b (List.mem_append.mpr (.inl m))
        rw [hn b hX] at e; cases e
      · exact f.dis b m hX
    gr := ⟨f'.gr.old, fun a m => by
      rcases List.mem_append.mp m with m | m
      · exact f'.gr.live a (List.mem_append.mpr (.inl m))
      · rcases List.mem_append.mp m with m | m
        · exact hl a m
        · exact f'.gr.live a (List.mem_append.mpr (.inr m)), f'.gr.toks⟩
    vars := fun i n d e => by
      obtain ⟨x, kd, v, a, b, c⟩ := f.vars i n d e
      refine ⟨x, kd, v, a, b.keeps (kGet k), c.keep ⟨fun b o _ => kGet k b o, fun b o e m => ?_⟩ fun b _ o => kGet k b o⟩
      rcases List.mem_append.mp m with m | m
      · exact List.mem_append.mpr (.inl m)
      · rcases List.mem_append.mp m with m | m
        · rw [hn b m] at e; cases e
        · exact List.mem_append.mpr (.inr m) }
theorem Frm.shrinkX {N : List Addr} (f : Frm C nm env s₀ Mv (N ++ Xc) M T ρ s) : Frm C nm env s₀ Mv Xc M T ρ s :=
  { f with
    dis := fun b m hX => f.dis b m (List.mem_append.mpr (.inr hX))
    gr := ⟨f.gr.old, fun a m => f.gr.live a (by rcases List.mem_append.mp m with m | m <;> simp [m]), f.gr.toks⟩
    vars := fun i n d e => by
      obtain ⟨x, kd, v, a, b, c⟩ := f.vars i n d e
      exact ⟨x, kd, v, a, b, c.keep ⟨fun b o _ e => e, fun b o e m => by rcases List.mem_append.mp m with m | m <;> simp [m]⟩ fun b _ o e => e⟩ }
/-- only objects of W change -/
structure Touch (W : List Addr) (s s' : Shared) : Prop where
  same : ∃ h t, s' = { s with heap := h, toks := t }
  toks : s.toks ≤ s'.toks
  but : ∀ b o, b ∉ W → s.heap.get? b = some o → s'.heap.get? b = some o
theorem Frm.touchY {W Xd : List Addr} (f : Frm C nm env s₀ Mv Xc M T ρ s) (ok : EnvOk nm env) (t : Touch W s s') (hX : ∀ b ∈ W, b ∈ Xc) (h0 : ∀ b ∈ W, s₀.heap.get? b = none) (h00 : ∀ b ∈ W, C.h₀.get? b = none)
    (hd : ∀ b ∈ Xd, b ∈ Xc) (hl : ∀ b ∈ W, b ∈ Xd → ∃ o, s'.heap.get? b = some o) (hf : ∀ x c, nm.lookup x = some .free → env.cells.lookup x = some c → c ∉ W) : Frm C nm env s₀ Mv Xd M T ρ s' :=
  have hM : ∀ b ∈ W, b ∉ M := fun b hb m => f.dis b m (hX b hb)
{ kp := f.kp.own (M := W) ⟨t.same, t.toks, t.but⟩ fun b m _ => h0 b m
  gr := ⟨fun b o e => t.but b o (fun m => by rw [h00 b m] at e; cases e) (f.gr.old b o e), fun a m => by
    by_cases h : a ∈ W
    · rcases List.mem_append.mp m with m | m
      · exact absurd m (hM a h)
      · exact hl a h m
    · obtain ⟨o, e⟩ := f.gr.live a (by
        rcases List.mem_append.mp m with m | m
        · exact List.mem_append.mpr (.inl m)
        · exact List.mem_append.mpr (.inr (hd a m)))
      exact ⟨o, t.but a o h e⟩, Nat.le_trans f.gr.toks t.toks⟩
  new := f.new
  off := f.off
  dis := fun b m hx => f.dis b m (hd b hx)
  loc := f.loc
  ns := by
    obtain ⟨m, n⟩ := f.ns
    exact ⟨m, n.at' fun o e => t.but _ o (fun m => hM _ m f.loc) e⟩
  cel := fun x h => by
    obtain ⟨c, v, a, b, d⟩ := f.cel x h
    obtain ⟨o, e, q⟩ := b
    exact ⟨c, v, a, ⟨o, t.but c o (fun m => hM _ m d) e, q⟩, d⟩
  one := f.one
  fre := fun x c a b => let ⟨n, o, e⟩ := f.fre x c a b; ⟨n, o, t.but c o (hf x c a b) e⟩
  vars := fun i n d e => by
    obtain ⟨x, kd, v, a, b, c⟩ := f.vars i n d e
    refine ⟨x, kd, v, a, ?_, c.keep ⟨fun b o hb e => t.but b o (fun m => hb (List.mem_append.mpr (.inr (hX b m)))) e, fun b o _ m => by
      rcases List.mem_append.mp m with m | m
      · exact List.mem_append.mpr (.inl m)
      · exact List.mem_append.mpr (.inr (hd b m))⟩ fun b hb o e => t.but b o (fun m => hM b m (f.ownM i b hb)) e⟩
    cases b with
    | loc p q => exact .loc (p.at' fun o e => t.but _ o (fun m => hM _ m f.loc) e) q
    | cell p q =>
      obtain ⟨o, e, q⟩ := q
      refine .cell p ⟨o, t.but _ o (fun m => hM _ m ?_) e, q⟩
      obtain ⟨c', v', a', b', d'⟩ := f.cel x (lookup_at ok.nodup a)
      rw [p] at a'; cases a'; exact d'
    | free p q =>
      obtain ⟨o, e, q⟩ := q
      exact .free p ⟨o, t.but _ o (hf x _ (lookup_at ok.nodup a) p) e, q⟩
  ownM := f.ownM
  ownL := f.ownL
  ownC := f.ownC
  apart := f.apart
  nodup := f.nodup
  mv := f.mv }
theorem Frm.rebase (f : Frm C nm env s₀ Mv Xc M T ρ s) : Frm C nm env s M Xc M T ρ s := { f with kp := .refl s, new := fun b m h => absurd m h, mv := fun _ m => m }
theorem Frm.unbase {Xd : List Addr} (f : Frm C nm env s₀ Mv Xd M T ρ s) (f' : Frm C nm env s M Xc M' T' ρ' s') : Frm C nm env s₀ Mv Xc M' T' ρ' s' :=
  { f' with
    kp := f.kp.own f'.kp f.new
    mv := fun b m => f'.mv b (f.mv b m)
    new := fun b m h => by
      by_cases hb : b ∈ M
      · exact f.new b hb h
      · cases e : s₀.heap.get? b with
        | none => rfl
        | some o => have := f.kp.get b o h e; rw [f'.new b m hb] at this; cases this }
/-- less is known -/
noncomputable def Less (ρ' ρ : Rho) : Prop := ∀ (i : Nat) (e : Nat × D), ρ'[i]? = some (some e) → ρ[i]? = some (some e)
theorem Frm.less (f : Frm C nm env s₀ Mv Xc M T ρ s) (l : Less ρ' ρ) : Frm C nm env s₀ Mv Xc M T ρ' s := { f with vars := fun i k d e => f.vars i k d (l i _ e) }

theorem Chg.isCell {a c : Addr} {v : Option Value} (g : Chg a s s') (h : c ≠ a) (x : s.heap.IsCell c v) : s'.heap.IsCell c v := let ⟨o, e, q⟩ := x; ⟨o, g.but c h o e, q⟩
/-- an object of the variable at i is changed -/
theorem Frm.mutate (f : Frm C nm env s₀ Mv Xc M T ρ s) (ok : EnvOk nm env) {a : Addr} (c : Chg a s s') {i K : Nat} {D₀ D' : D} (hi : ρ[i]? = some (some (K, D₀))) (ha : a ∈ T i) (hl : ∃ o, s'.heap.get? a = some o)
    (hr : ∃ x kd v, nm[i]? = some (x, kd) ∧ VarAt env s.heap x kd v ∧ RepO C (M ++ Xc) s'.heap K v D' (T i)) : Frm C nm env s₀ Mv Xc M T (ρ.set i (some (K, D'))) s' := by
  have haM := f.ownM i a ha
  have hL : env.locals ≠ a := fun e => f.ownL i (e ▸ ha)
  have hC : ∀ x k, nm.lookup x = some .cell → env.cells.lookup x = some k → k ≠ a := fun x k h e h' => f.ownC x k h e i (h' ▸ ha)
  have hv : ∀ {j : Nat} {x : Str} {kd : NameKind} {v : Value}, nm[j]? = some (x, kd) → VarAt env s.heap x kd v → VarAt env s'.heap x kd v := fun hj hv => by
    have hx := lookup_at ok.nodup hj
    cases hv with
    | loc p q => exact .loc (p.at' fun o e => c.but _ hL o e) q
    | cell p q => exact .cell p (c.isCell (hC _ _ hx p) q)
    | free p q => exact .free p (c.isCell (fun e => (f.fre _ _ hx p).1 (e ▸ haM)) q)
  refine f.chg (T' := T) c haM hl ?_ (fun x k h e => ?_) (fun j k d e => ?_) fun _ => .inl rfl
  · obtain ⟨m, n⟩ := f.ns
    exact ⟨m, n.at' fun o e => c.but _ hL o e⟩
  · obtain ⟨k', v, e', q, _⟩ := f.cel x h
    rw [e] at e'; cases e'
    exact ⟨v, c.isCell (hC x k h e) q⟩
  · rcases set_some e with ⟨rfl, e'⟩ | ⟨hne, e⟩
    · cases e'
      obtain ⟨x, kd, v, a1, a2, a3⟩ := hr
      exact ⟨x, kd, v, a1, hv a1 a2, a3⟩
    · obtain ⟨x, kd, v, a1, a2, a3⟩ := f.vars j k d e
      exact ⟨x, kd, v, a1, hv a1 a2, a3.keep (c.keep (List.mem_append.mpr (.inl haM))) fun b hb o e => c.but b (fun h => f.apart i j (Ne.symm hne) a ha (h ▸ hb)) o e⟩

/-- what a statement comes to -/
inductive Out where
  | next (ρ : Rho)
  | ret (d : D)
noncomputable def OutOk (C : Cx) (nm : Names) (env : Env) (s₀ : Shared) (Mv Xc : List Addr) (o : Out) (f : Flow) (s : Shared) : Prop :=
  match o with
  | .next ρ => f = .next ∧ ∃ M T, Frm C nm env s₀ Mv Xc M T ρ s
  | .ret d => ∃ v, f = .ret v ∧ KpB Mv s₀ s ∧ Rep C Xc s.heap v d ∧ Gr C Xc s
/-- statements, run in a frame -/
structure Ex (C : Cx) (n : Nat) (nm : Names) (ρ : Rho) (ss : List Stmt) (o : Out) : Prop where
  go : ∀ (A : Around) (env : Env) (s₀ : Shared) (Mv Xc M : List Addr) (T : Nat → List Addr) (s : Shared), Ok n A → EnvOk nm env → Frm C nm env s₀ Mv Xc M T ρ s → Wp C A (execs ss env) (OutOk C nm env s₀ Mv Xc o) s
structure Ex1 (C : Cx) (n : Nat) (nm : Names) (ρ : Rho) (st : Stmt) (o : Out) : Prop where
  go : ∀ (A : Around) (env : Env) (s₀ : Shared) (Mv Xc M : List Addr) (T : Nat → List Addr) (s : Shared), Ok n A → EnvOk nm env → Frm C nm env s₀ Mv Xc M T ρ s → Wp C A (exec st env) (OutOk C nm env s₀ Mv Xc o) s
end
section
variable {C : Cx} {n : Nat} {nm : Names} {ρ ρ' ρ₁ : Rho}
theorem Ex.nil : Ex C n nm ρ [] (.next ρ) := .mk fun A env s₀ Mv Xc M T s o ok f => wpAny_execs_nil ⟨rfl, M, T, f⟩
theorem Ex.seq {st : Stmt} {ss : List Stmt} {o : Out} (a : Ex1 C n nm ρ st (.next ρ₁)) (b : Ex C n nm ρ₁ ss o) : Ex C n nm ρ (st :: ss) o := .mk fun A env s₀ Mv Xc M T s o ok f =>
  wpAny_execs_cons (wp_mono (a.go A env s₀ Mv Xc M T s o ok f) fun fl s' h => by
    obtain ⟨rfl, M', T', f'⟩ := h
    exact b.go A env s₀ Mv Xc M' T' s' o ok f')
theorem Ex.stop {st : Stmt} {ss : List Stmt} {d : D} (a : Ex1 C n nm ρ st (.ret d)) : Ex C n nm ρ (st :: ss) (.ret d) := .mk fun A env s₀ Mv Xc M T s o ok f =>
  wpAny_execs_cons (wp_mono (a.go A env s₀ Mv Xc M T s o ok f) fun fl s' h => by
    obtain ⟨v, rfl, h⟩ := h
    exact ⟨v, rfl, h⟩)
theorem Ex.less {ss : List Stmt} {o : Out} (a : Ex C n nm ρ' ss o) (l : Less ρ' ρ) : Ex C n nm ρ ss o := .mk fun A env s₀ Mv Xc M T s o ok f => a.go A env s₀ Mv Xc M T s o ok (f.less l)
theorem Ex1.less {ss : Stmt} {o : Out} (a : Ex1 C n nm ρ' ss o) (l : Less ρ' ρ) : Ex1 C n nm ρ ss o := .mk fun A env s₀ Mv Xc M T s o ok f => a.go A env s₀ Mv Xc M T s o ok (f.less l)
theorem Ex.most {ss : List Stmt} (a : Ex C n nm ρ ss (.next ρ₁)) (l : Less ρ' ρ₁) : Ex C n nm ρ ss (.next ρ') := .mk fun A env s₀ Mv Xc M T s o ok f =>
  wp_mono (a.go A env s₀ Mv Xc M T s o ok f) fun fl s' ⟨h, M', T', f'⟩ => ⟨h, M', T', f'.less l⟩

theorem Ex1.assign (i : Nat) {x : Str} {kd : NameKind} {px pos : Pos} {e : Expr} {d : D} (hi : nm[i]? = some (x, kd)) (h : Ev C n nm ρ e 0 d) (hk : kd = .local ∨ kd = .cell := by first | exact .inl rfl | exact .inr rfl)
    (hs : ∀ env, EnvOk nm env → swapsWith e (some (.Name x px)) pos.line env = pure false := by intro _ _; rfl) : Ex1 C n nm ρ (.Assign [.Name x px] e pos) (.next (ρ.set i (some (0, d)))) := .mk fun A env s₀ Mv Xc M T s o ok f =>
  wpAny_Assign_Name (h.then0 o ok f.pre fun v s' k p r => (f.keeps k).store ok hi hk (.sh r) (.inl rfl) fun s'' f' _ => ⟨rfl, M, _, f'⟩) (hs env ok)
/-- a fresh object of one's own -/
structure EvF (C : Cx) (n : Nat) (nm : Names) (ρ : Rho) (e : Expr) (k : Nat) (d : D) : Prop where
  go : ∀ (A : Around) (env : Env) (X : List Addr) (s : Shared), Ok n A → EnvOk nm env → Pre C nm env X ρ s → Wp C A (eval e env) (fun v s' => Kp s s' ∧ ∃ N, RepO C (N ++ X) s'.heap k v d N ∧ (∀ b ∈ N, s.heap.get? b = none) ∧ N.Nodup) s
theorem Frm.fresh {C : Cx} {nm : Names} {env : Env} {s₀ s : Shared} {Mv Xc M : List Addr} {T : Nat → List Addr} {ρ : Rho} (f : Frm C nm env s₀ Mv Xc M T ρ s) {N : List Addr} (hn : ∀ b ∈ N, s.heap.get? b = none) :
    env.locals ∉ N ∧ (∀ x c, nm.lookup x = some .cell → env.cells.lookup x = some c → c ∉ N) ∧ ∀ j, ∀ b ∈ N, b ∉ T j := by
  refine ⟨fun m => ?_, fun x c h e m => ?_, fun j b m m' => ?_⟩
  · obtain ⟨_, o, _, _, e, _⟩ := f.ns
    rw [hn _ m] at e; cases e
  · obtain ⟨c', v, e', ⟨o, q, _⟩, _⟩ := f.cel x h
    rw [e] at e'; cases e'
    rw [hn _ m] at q; cases q
  · obtain ⟨o, e⟩ := f.gr.live b (List.mem_append.mpr (.inl (f.ownM j b m')))
    rw [hn _ m] at e; cases e
theorem Ex1.assignF (i : Nat) {x : Str} {kd : NameKind} {px pos : Pos} {e : Expr} {k : Nat} {d : D} (hi : nm[i]? = some (x, kd)) (h : EvF C n nm ρ e k d) (hk : kd = .local ∨ kd = .cell := by first | exact .inl rfl | exact .inr rfl)
    (hs : ∀ env, EnvOk nm env → swapsWith e (some (.Name x px)) pos.line env = pure false := by intro _ _; rfl) : Ex1 C n nm ρ (.Assign [.Name x px] e pos) (.next (ρ.set i (some (k, d)))) := .mk fun A env s₀ Mv Xc M T s o ok f =>
  wpAny_Assign_Name (wp_mono (h.go A env (M ++ Xc) s o ok f.pre) fun v s' ⟨k, N, r, hn, nd⟩ => by
    obtain ⟨f1, f2, f3⟩ := f.fresh hn
    exact (f.grow k hn r.live).store ok hi hk (by rw [List.append_assoc]; exact r) (.inr ⟨fun b m => List.mem_append.mpr (.inl m), f1, f2, fun j _ => f3 j, nd⟩) fun s'' f' _ => ⟨rfl, _, _, f'⟩) (hs env ok)
theorem Ex1.if_ {t : Expr} {a b : List Stmt} {pos : Pos} {c : Bool} {o : Out} (h : Tst C n nm ρ t c) (h1 : c = true → Ex C n nm ρ a o) (h0 : c = false → Ex C n nm ρ b o) : Ex1 C n nm ρ (.If t a b pos) o := .mk fun A env s₀ Mv Xc M T s oo ok f =>
  wpAny_If (h.then oo ok f.pre fun s' k p => by
    cases c with
    | true => exact (h1 rfl).go A env s₀ Mv Xc M T s' oo ok (f.keeps k)
    | false => exact (h0 rfl).go A env s₀ Mv Xc M T s' oo ok (f.keeps k))
theorem Ex1.skip {t : Expr} {a b : List Stmt} {pos : Pos} {o : Out} (h : Tst C n nm ρ t false) (h0 : Ex C n nm ρ b o) : Ex1 C n nm ρ (.If t a b pos) o := .if_ h (fun e => nomatch e) fun _ => h0
theorem Ex1.take {t : Expr} {a b : List Stmt} {pos : Pos} {o : Out} (h : Tst C n nm ρ t true) (h1 : Ex C n nm ρ a o) : Ex1 C n nm ρ (.If t a b pos) o := .if_ h (fun _ => h1) fun e => nomatch e
theorem Frm.out {C : Cx} {nm : Names} {env : Env} {s₀ s : Shared} {Mv Xc M : List Addr} {T : Nat → List Addr} {ρ : Rho} (f : Frm C nm env s₀ Mv Xc M T ρ s) : Gr C Xc s := ⟨f.gr.old, fun a m => f.gr.live a (List.mem_append.mpr (.inr m)), f.gr.toks⟩
theorem Ex1.ret {e : Expr} {pos : Pos} {d : D} (h : Ev C n nm ρ e 0 d) : Ex1 C n nm ρ (.Return (some e) pos) (.ret d) := .mk fun A env s₀ Mv Xc M T s o ok f =>
  wpAny_Return_some (h.then0 o ok f.pre fun v s' k p r => ⟨v, rfl, f.kp.trans (.of k), r.keep ⟨fun b o _ e => e, fun b o e m => List.mem_append.mpr (.inr m)⟩, (f.keeps k).out⟩)
end
end Mine
end
section
open PySem PySem.W PyProof.Rows PySem.Calls PySem.Spec
set_option maxRecDepth 100000
namespace Mine
section
variable {C : Cx} {n : Nat} {nm : Names} {ρ ρ' ρ₁ : Rho}
/-- a variable of one's own is given back -/
theorem Ex1.retName (i : Nat) {x : Str} {kd : NameKind} {px pos : Pos} {k : Nat} {d : D} (hi : nm[i]? = some (x, kd)) (hρ : ρ[i]? = some (some (k, d))) : Ex1 C n nm ρ (.Return (some (.Name x px)) pos) (.ret d) := .mk fun A env s₀ Mv Xc M T s o ok f => by
  obtain ⟨y, kd', v, a, b, c⟩ := f.vars i k d hρ
  rw [hi] at a; cases a
  exact wpAny_Return_some (wpAny_Name (load_var ok hi b ⟨v, rfl, f.kp, c.share (fun b m => List.mem_append.mpr (.inr m)) (fun b m => f.dis b (f.ownM i b m)), f.out⟩) (ok.plain _ (List.mem_of_getElem? hi)).1)

/-- a place: an object of one's own that is changed -/
structure Plc (C : Cx) (n : Nat) (nm : Names) (ρ : Rho) (o : Expr) (i K k : Nat) (d : D) (up : D → D) : Prop where
  go : ∀ (A : Around) (env : Env) (s₀ : Shared) (Mv Xc M : List Addr) (T : Nat → List Addr) (s : Shared), Ok n A → EnvOk nm env → Frm C nm env s₀ Mv Xc M T ρ s →
    Wp C A (eval o env) (fun ov s' => Kp s s' ∧ ∃ T', RepO C (M ++ Xc) s'.heap k ov d T' ∧ (∀ b ∈ T', b ∈ T i) ∧ T'.Nodup ∧
      ∀ s₁ s₂ a d', Kp s' s₁ → Chg a s₁ s₂ → a ∈ T' → (∃ o, s₂.heap.get? a = some o) → RepO C (M ++ Xc) s₂.heap k ov d' T' → Frm C nm env s₀ Mv Xc M T (ρ.set i (some (K, up d'))) s₂ ∧
        ∃ x kd v, nm[i]? = some (x, kd) ∧ VarAt env s₁.heap x kd v ∧ RepO C (M ++ Xc) s₂.heap K v (up d') (T i)) s
theorem Plc.name (i : Nat) {x : Str} {kd : NameKind} {px : Pos} {k : Nat} {d : D} (hi : nm[i]? = some (x, kd)) (hρ : ρ[i]? = some (some (k, d))) : Plc C n nm ρ (.Name x px) i k k d id := .mk fun A env s₀ Mv Xc M T s o ok f => by
  obtain ⟨y, kd', v, a, b, c⟩ := f.vars i k d hρ
  rw [hi] at a; cases a
  refine wpAny_Name (load_var ok hi b ⟨kRefl _, T i, c, fun _ m => m, f.nodup i, fun s₁ s₂ a d' kk cc ha hl r => ?_⟩) (ok.plain _ (List.mem_of_getElem? hi)).1
  have hv := b.keeps (kGet kk)
  exact ⟨(f.keeps kk).mutate ok cc hρ ha hl ⟨x, kd, v, hi, hv, r⟩, x, kd, v, hi, hv, r⟩

theorem RepOL.putAt {C : Cx} {X : List Addr} {h : Heap} {k : Nat} {vs : List Value} {ds : List D} {T : List Addr} (r : RepOL C X h k vs ds T) {j : Nat} {d : D} (e : ds[j]? = some d) (nd : T.Nodup) :
    ∃ v T', vs[j]? = some v ∧ RepO C X h k v d T' ∧ (∀ b ∈ T', b ∈ T) ∧ T'.Nodup ∧
      ∀ h' d', Keep X X h h' → (∀ b ∈ T, b ∉ T' → ∀ o, h.get? b = some o → h'.get? b = some o) → RepO C X h' k v d' T' → RepOL C X h' k vs (ds.set j d') T := by
  induction vs generalizing ds j T with
  | nil => cases r; simp at e
  | cons v vs ih =>
    cases r with
    | @cons _ v d₁ vs ds T₁ T₂ a r =>
      have n1 := (List.nodup_append.mp nd).1
      have n2 := (List.nodup_append.mp nd).2.1
      have n3 := (List.nodup_append.mp nd).2.2
      cases j with
      | zero =>
        simp at e; subst e
        refine ⟨v, T₁, rfl, a, fun b hb => by simp [hb], n1, fun h' d' kk hk rr => .cons rr (r.keep kk fun b hb o e => hk b (by simp [hb]) (fun hb' => n3 b hb' b hb rfl) o e)⟩
      | succ j =>
        obtain ⟨w, T', h1, h2, h3, h4, h5⟩ := ih r (by simpa using e) n2
        refine ⟨w, T', h1, h2, fun b hb => by simp [h3 b hb], h4, fun h' d' kk hk rr => .cons (a.keep kk fun b hb o e => hk b (by simp [hb]) (fun hb' => n3 b hb b (h3 b hb') rfl) o e) (h5 h' d' kk (fun b hb hb' o e => hk b (by simp [hb]) hb' o e) rr)⟩
theorem Plc.sub {o ix : Expr} {p : Pos} {i K k : Nat} {ds : List D} {up : D → D} {j : Int} {d : D} (P : Plc C n nm ρ o i K (k + 1) (.list ds) up) (b : Ev C n nm ρ ix 0 (.int j)) (h0 : 0 ≤ j) (hj : j < 1000000) (e : ds[j.toNat]? = some d)
    (hs : ∀ o i, subscripted ix false o i = operate [o, i] (getItem o i) := by intro _ _; rfl) : Plc C n nm ρ (.Subscript o ix p) i K k d (fun d' => up (.list (ds.set j.toNat d'))) := .mk fun A env s₀ Mv Xc M T s oo ok f =>
  Subscript_ (wp_mono (P.go A env s₀ Mv Xc M T s oo ok f) fun ov s' ⟨k1, T', r, h1, nd, hup⟩ => b.then0 oo ok (f.keeps k1).pre fun iv s'' k2 p2 q => by
    obtain ⟨u, rfl⟩ := q.invI
    have r2 := r.keep (.all (kGet k2)) fun b _ o => kGet k2 b o
    obtain ⟨a, vs, m, Tl, rfl, rfl, e', rl⟩ := r2.invL
    obtain ⟨w, Tw, hw, rw', hsub, ndw, hput⟩ := rl.putAt e (List.nodup_cons.mp nd).2
    have haT : a ∉ Tl := (List.nodup_cons.mp nd).1
    refine tail_any (listO_isList e').typeIs PySem.slot_list_getitem.lookup (wpAny_getItem_list (listO_isList e') h0 (by omega) (by simpa using hw) ?_) (hs _ _)
    refine ⟨kTrans k1 k2, Tw, rw', fun b hb => h1 b (by simp [hsub b hb]), ndw, fun s₁ s₂ a' d' kk cc ha hl rr => ?_⟩
    have haM : a' ∈ M ++ Xc := List.mem_append.mpr (.inl (f.ownM i a' (h1 a' (by simp [hsub a' ha]))))
    have hne : a ≠ a' := fun h => haT (h ▸ hsub a' ha)
    have K1 : Keep (M ++ Xc) (M ++ Xc) s''.heap s₂.heap := ⟨fun b o hb e => cc.but b (fun h => hb (h ▸ haM)) o (kGet kk b o e), fun _ _ _ m => m⟩
    exact hup s₁ s₂ a' (.list (ds.set j.toNat d')) (kTrans k2 kk) cc (by simp [hsub a' ha]) hl
      (.list (cc.but a hne _ (kGet kk a _ e')) (hput _ d' K1 (fun b hb hb' o e => cc.but b (fun h => hb' (h ▸ ha)) o (kGet kk b o e)) rr)))

theorem setItem_listO {A : Around} {s : Shared} {l : Addr} {vs : List Value} {m : Nat} {k : Int} {t : Tok} {v : Value} {Q : Unit → Shared → Prop} (ho : s.heap.get? l = some (listO vs m)) (h0 : 0 ≤ k) (hk : k < 1000000) (hn : k < vs.length)
    (hQ : ∀ h' m', h'.get? l = some (listO (vs.set k.toNat v) m') → Heap.SameBut l s.heap h' → Q () { s with heap := h' }) : Wp C A (setItem (.ref l) (.int k t) v) Q s := by
  have hl := listO_isList ho
  unfold setItem
  refine wpAny_holding ?_
  refine wpAny_bind (wpAny_sequenceKey hl.typeIs (by decide) ?_)
  refine wpAny_bind (wpAny_callSpecial?_slot (name := Str.ofString "__setitem__") hl.typeIs slot_list_setitem
    (wpAny_call_entry slot_list_setitem hl.typeIs entry_list_setitem ?_ (args_list_setitem _ _ _)))
  show wpAny _ _ (Builtin.List.listSubscript? (.int k t) >>= _) _ _ s
  refine wpAny_bind (wpAny_listSubscript_int (fitsIndex_of h0 (by omega)) ?_)
  obtain ⟨j, rfl⟩ := Int.eq_ofNat_of_zero_le h0
  have hj : j < vs.toArray.size := by simp; omega
  have hx' : vs.toArray[j]? = some vs.toArray[j] := Array.getElem?_eq_getElem hj
  show wpAny _ _ ((seqItemAt l j >>= fun r => pure (r.map (j, ·))) >>= _) _ _ s
  refine wpAny_bind (wpAny_bind (wpAny_seqItemAt ho rfl (wpAny_pure ?_)))
  rw [hx']
  show wpAny _ _ (setSeqItemAt l j v >>= _) _ _ s
  have e1 : Obj.mapSeq (·.setIfInBounds j v) (listO vs m) = listO (vs.set j v) m := by simp [Obj.mapSeq, listO]
  have hfin : (s.heap.update l (Obj.mapSeq (·.setIfInBounds j v))).get? l = some (listO (vs.set j v) m) := by
    rw [Heap.get?_update_self _ ho (by rw [e1]; rfl), e1]
  refine wpAny_bind (wpAny_setSeqItemAt ho rfl ?_)
  first
    | exact wpAny_bind (wpAny_pure (wpAny_pure ⟨.none, rfl, wpAny_pure (hQ _ _ hfin (Heap.SameBut.update ..))⟩))
    | exact wpAny_pure ⟨.none, rfl, wpAny_pure (hQ _ _ hfin (Heap.SameBut.update ..))⟩

theorem Ex1.put_list {o ix value : Expr} {p pos : Pos} {i K : Nat} {ds : List D} {up : D → D} {j : Int} {d : D} (P : Plc C n nm ρ o i K 1 (.list ds) up) (b : Ev C n nm ρ ix 0 (.int j)) (v : Ev C n nm ρ value 0 d) (h0 : 0 ≤ j) (hj : j < 1000000) (hn : j < ds.length)
    (hs : ∀ env, swapsWith value (some (.Subscript o ix p)) pos.line env = pure false := by intro _; rfl) : Ex1 C n nm ρ (.Assign [.Subscript o ix p] value pos) (.next (ρ.set i (some (K, up (.list (ds.set j.toNat d)))))) := .mk fun A env s₀ Mv Xc M T s oo ok f =>
  wpAny_Assign_Subscript (v.then0 oo ok f.pre fun vv s' k1 p1 q1 => wp_mono (P.go A env s₀ Mv Xc M T s' oo ok (f.keeps k1)) fun ov s₂ ⟨k2, T', r, h1, nd, hup⟩ => b.then0 oo ok ((f.keeps k1).keeps k2).pre fun iv s₃ k3 p3 q3 => by
    obtain ⟨u, rfl⟩ := q3.invI
    have r2 := r.keep (.all (kGet k3)) fun b _ o => kGet k3 b o
    obtain ⟨a, vs, m, Tl, rfl, rfl, e', rl⟩ := r2.invL
    obtain ⟨rz, rfl⟩ := rl.zero
    have haM : a ∈ M ++ Xc := List.mem_append.mpr (.inl (f.ownM i a (h1 a (by simp))))
    refine setItem_listO e' h0 hj (by rw [rz.length]; exact hn) fun h' m' e2 sb => ?_
    have cc : Chg a s₃ { s₃ with heap := h' } := .of (t := s₃.toks) sb (Nat.le_refl _)
    have K1 := cc.keep haM
    refine ⟨rfl, M, T, (hup s₃ _ a (.list (ds.set j.toNat d)) k3 cc (by simp) ⟨_, e2⟩ (.list e2 (RepL.toO ?_))).1⟩
    exact (rz.keep K1).set _ ((q1.keep (.all (kGet (kTrans k2 k3)))).keep K1)) (hs env)
theorem Ex1.put_dict {o ix value : Expr} {p pos : Pos} {i K : Nat} {ds : List (Str × D)} {up : D → D} {x : Str} {d : D} (P : Plc C n nm ρ o i K 1 (.dict ds) up) (b : Ev C n nm ρ ix 0 (.str x)) (v : Ev C n nm ρ value 0 d) (hn : ds.length ≤ 1000)
    (hs : ∀ env, swapsWith value (some (.Subscript o ix p)) pos.line env = pure false := by intro _; rfl) : Ex1 C n nm ρ (.Assign [.Subscript o ix p] value pos) (.next (ρ.set i (some (K, up (.dict (dput ds x d)))))) := .mk fun A env s₀ Mv Xc M T s oo ok f =>
  wpAny_Assign_Subscript (v.then0 oo ok f.pre fun vv s' k1 p1 q1 => wp_mono (P.go A env s₀ Mv Xc M T s' oo ok (f.keeps k1)) fun ov s₂ ⟨k2, T', r, h1, nd, hup⟩ => b.then0 oo ok ((f.keeps k1).keeps k2).pre fun iv s₃ k3 p3 q3 => by
    obtain ⟨u, rfl, _⟩ := q3.invS
    have r2 := r.keep (.all (kGet k3)) fun b _ o => kGet k3 b o
    obtain ⟨a, kvs, Tl, rfl, rfl, hz, e', rl⟩ := r2.invD
    obtain ⟨rz, rfl⟩ := rl.zero
    have haM : a ∈ M ++ Xc := List.mem_append.mpr (.inl (f.ownM i a (h1 a (by simp))))
    refine wpAny_setItem_pairs (strKind_is _ _ x u) e' (fun h' e2 sb => ?_) (by rw [rz.length]; simp only [sizeLine]; omega)
    have cc : Chg a s₃ { s₃ with heap := h', toks := s₃.toks + 1 } := .of sb (Nat.le_succ _)
    have K1 := cc.keep haM
    refine ⟨rfl, M, T, (hup s₃ _ a (.dict (dput ds x d)) k3 cc (by simp) (dictOf_get e2) (.dict hz e2 (RepD.toO ?_))).1⟩
    exact (rz.keep K1).put _ ((q1.keep (.all (kGet (kTrans k2 k3)))).keep K1)) (hs env)
theorem Ex1.append {o e : Expr} {apos cpos pos : Pos} {i K : Nat} {ds : List D} {up : D → D} {d : D} (P : Plc C n nm ρ o i K 1 (.list ds) up) (v : Ev C n nm ρ e 0 d) (hn : ds.length ≤ 1000)
    (hbase : ∀ env, attributeBase o "append" env (eval o env) = eval o env := by intro _; rfl) (hst : ∀ env, starEach [e] env = [(false, eval e env)] := by exact n1_all rfl) (hline : (apos.endLine == cpos.line) = true := by rfl)
    (hi : ∀ env : Env, EnvOk nm env → interactive env = false) : Ex1 C n nm ρ (.Expr (.Call (.Attribute o "append" apos) [e] [] cpos) pos) (.next (ρ.set i (some (K, up (.list (ds ++ [d])))))) := .mk fun A env s₀ Mv Xc M T s oo ok f =>
  wpAny_Expr (Call_method1 (hbase env) (hst env) hline (wp_mono (P.go A env s₀ Mv Xc M T s oo ok f) fun ov s₂ ⟨k2, T', r, h1, nd, hup⟩ => by
    obtain ⟨a, vs, m, Tl, rfl, rfl, e', rl⟩ := r.invL
    obtain ⟨rz, rfl⟩ := rl.zero
    have haM : a ∈ M ++ Xc := List.mem_append.mpr (.inl (f.ownM i a (h1 a (by simp))))
    refine ⟨"list", _, F.plainAttrs_list, PySem.slot_list_append, PySem.type_list_append, (listO_isList e').typeIs, (fun _ h => by cases h; exact ⟨_, e', rfl⟩), callWith_builtin rfl (evalArgs_plain (spliced_cons (v.then0 oo ok (f.keeps k2).pre fun vv s₃ k3 p3 q3 => spliced_nil ?_)))⟩
    have e3 := kGet k3 _ _ e'
    refine wpAny_list_append_plain ⟨m, e3⟩ (fun h' pl sb => ?_) (by simp only [sizeLine, List.size_toArray]; rw [rz.length]; omega)
    obtain ⟨m', e4⟩ := pl
    have cc : Chg a s₃ { s₃ with heap := h' } := .of (t := s₃.toks) sb (Nat.le_refl _)
    have K1 := cc.keep haM
    have e5 : h'.get? a = some (listO (vs ++ [vv]) m') := by rw [e4]; simp [listO]
    refine ⟨rfl, M, T, (hup s₃ _ a (.list (ds ++ [d])) k3 cc (by simp) ⟨_, e5⟩ (.list e5 (RepL.toO ?_))).1⟩
    exact (((rz.keep (.all (kGet k3))).keep K1).append (.cons (q3.keep K1) .nil)))) (hi env ok) rfl
end
end Mine
end
section
open PySem PySem.W PyProof.Rows PySem.Calls PySem.Spec
set_option maxRecDepth 100000
namespace Mine

theorem Touch.of {W : List Addr} {s : Shared} {h : Heap} {t : Nat} (l : s.toks ≤ t) (k : ∀ b o, b ∉ W → s.heap.get? b = some o → h.get? b = some o) : Touch W s { s with heap := h, toks := t } := ⟨⟨h, t, rfl⟩, l, k⟩
theorem Touch.keep {W X : List Addr} {s s' : Shared} (t : Touch W s s') (h : ∀ b ∈ W, b ∈ X) : Keep X X s.heap s'.heap := ⟨fun b o hb e => t.but b o (fun m => hb (h b m)) e, fun _ _ _ m => m⟩

/-- a walk over data -/
structure Walk1 (C : Cx) (A : Around) (I : Addr) (wr : List Addr) (ds : List D) (Ph : Nat → List Addr → Heap → Prop) : Prop where
  next : ∀ i X s d (Q : Option Value → Shared → Prop), Ph i X s.heap → ds[i]? = some d → (∀ v s', Touch wr s s' → Rep C X s'.heap v d → Ph (i + 1) X s'.heap → Q (some v) s') → Wp C A (pyNext (.ref I)) Q s
  done : ∀ X s (Q : Option Value → Shared → Prop), Ph ds.length X s.heap → (∀ s', Touch wr s s' → Q none s') → Wp C A (pyNext (.ref I)) Q s
  self : ∀ i X s (Q : Value → Shared → Prop), Ph i X s.heap → Q (.ref I) s → Wp C A (pyIter (.ref I)) Q s
  stay : ∀ i X X' h h', Ph i X h → Keep X X' h h' → (∀ b ∈ wr, ∀ o, h.get? b = some o → h'.get? b = some o) → (∀ b ∈ wr, b ∈ X') → Ph i X' h'
  live : ∀ i X h, Ph i X h → ∀ b ∈ wr, ∃ o, h.get? b = some o
/-- a walk over pairs -/
structure Walk2 (C : Cx) (A : Around) (I : Addr) (wr : List Addr) (ds : List (D × D)) (Ph : Nat → List Addr → Heap → Prop) : Prop where
  next : ∀ i X s d (Q : Option Value → Shared → Prop), Ph i X s.heap → ds[i]? = some d →
    (∀ T v₁ v₂ s' (Md : Heap → Prop), Touch wr s s' → IsTup s'.heap T #[v₁, v₂] → T ∉ wr → Rep C X s'.heap v₁ d.1 → Rep C X s'.heap v₂ d.2 → Md s'.heap →
      (∀ elts k pos s'' (Q' : Unit → Shared → Prop), Md s''.heap → (∀ s₃, Touch wr s'' s₃ → Ph (i + 1) X s₃.heap → Q' () s₃) → Wp C A (letOwnedTupleGo (.Tuple elts k pos) (.ref I) (.ref T)) Q' s'') → Q (some (.ref T)) s') → Wp C A (pyNext (.ref I)) Q s
  done : ∀ X s (Q : Option Value → Shared → Prop), Ph ds.length X s.heap → (∀ s', Touch wr s s' → Q none s') → Wp C A (pyNext (.ref I)) Q s
  self : ∀ i X s (Q : Value → Shared → Prop), Ph i X s.heap → Q (.ref I) s → Wp C A (pyIter (.ref I)) Q s
  stay : ∀ i X X' h h', Ph i X h → Keep X X' h h' → (∀ b ∈ wr, ∀ o, h.get? b = some o → h'.get? b = some o) → (∀ b ∈ wr, b ∈ X') → Ph i X' h'
  live : ∀ i X h, Ph i X h → ∀ b ∈ wr, ∃ o, h.get? b = some o

section
variable {C : Cx} {A : Around} {I : Addr} {fp wr : List Addr} {n : Nat}
/-- the state of a walk of the library's, and the data -/
structure PhOf (C : Cx) (fp wr : List Addr) (St : Nat → Heap → Prop) (Rp : List Addr → Heap → Prop) (i : Nat) (X : List Addr) (h : Heap) : Prop where
  st : St i h
  hw : ∀ b ∈ wr, b ∈ X
  hf : ∀ b ∈ fp, b ∈ wr ∨ b ∉ X
  rp : Rp X h
theorem PhOf.stay {St : Nat → Heap → Prop} {Rp : List Addr → Heap → Prop} (frame : ∀ i h h', St i h → (∀ b ∈ fp, ∀ o, h.get? b = some o → h'.get? b = some o) → St i h')
    (live : ∀ i h, St i h → ∀ b ∈ fp, ∃ o, h.get? b = some o) (rp : ∀ X X' h h', Keep X X' h h' → Rp X h → Rp X' h') :
    ∀ i X X' h h', PhOf C fp wr St Rp i X h → Keep X X' h h' → (∀ b ∈ wr, ∀ o, h.get? b = some o → h'.get? b = some o) → (∀ b ∈ wr, b ∈ X') → PhOf C fp wr St Rp i X' h' := fun i X X' h h' p k hw hX =>
  ⟨frame i h h' p.st fun b hb o e => by
      rcases p.hf b hb with m | m
      · exact hw b m o e
      · exact k.get b o m e, hX, fun b hb => by
      rcases p.hf b hb with m | m
      · exact .inl m
      · obtain ⟨o, e⟩ := live i h p.st b hb
        exact .inr fun m' => m (k.sub b o e m'), rp X X' h h' k p.rp⟩
theorem Walk1.of {P : Nat → Value → Prop} {St : Nat → Heap → Prop} (W : Walks C.prog C.w A I fp wr n P St) (ds : List D) (hn : ds.length = n) (live : ∀ i h, St i h → ∀ b ∈ fp, ∃ o, h.get? b = some o) :
    Walk1 C A I wr ds (PhOf C fp wr St fun X h => ∀ i v d, P i v → ds[i]? = some d → Rep C X h v d) where
  next := fun i X s d Q p hd hQ => by
    have hi : i < n := by rw [← hn]; exact (List.getElem?_eq_some_iff.mp hd).1
    refine wp_up (W.item i s _ _ hi p.st fun v h' tk hP hst hk l => ?_)
    have t : Touch wr s { s with heap := h', toks := tk } := .of l hk
    have K := t.keep p.hw
    exact hQ v _ t ((p.rp i v d hP hd).keep K) ⟨hst, p.hw, p.hf, fun j u e a b => (p.rp j u e a b).keep K⟩
  done := fun X s Q p hQ => by
    rw [hn] at p
    exact wp_up (W.done s _ _ p.st fun h' tk hk l => hQ _ (.of l hk))
  self := fun i X s Q p hQ => W.self i s Q _ p.st hQ
  stay := PhOf.stay W.frame live fun X X' h h' k r i v d a b => (r i v d a b).keep k
  live := fun i X h p b hb => live i h p.st b (W.sub b hb)
theorem Walk2.of {P : Nat → Array Value → Prop} {St : Nat → Heap → Prop} {Mid : Nat → Addr → Heap → Prop} (W : WalksU C.prog C.w A I fp wr n P St Mid) (ds : List (D × D)) (hn : ds.length = n) (live : ∀ i h, St i h → ∀ b ∈ fp, ∃ o, h.get? b = some o) :
    Walk2 C A I wr ds (PhOf C fp wr St fun X h => ∀ i vs d, P i vs → ds[i]? = some d → ∃ v₁ v₂, vs = #[v₁, v₂] ∧ Rep C X h v₁ d.1 ∧ Rep C X h v₂ d.2) where
  next := fun i X s d Q p hd hQ => by
    have hi : i < n := by rw [← hn]; exact (List.getElem?_eq_some_iff.mp hd).1
    refine wp_up (W.item i s _ _ hi p.st fun T vs h' tk hP hT hm hk l => ?_)
    have t : Touch wr s { s with heap := h', toks := tk } := .of l hk
    have K := t.keep p.hw
    obtain ⟨v₁, v₂, rfl, r₁, r₂⟩ := p.rp i vs d hP hd
    refine hQ T v₁ v₂ _ (fun h => Mid i T h ∧ ∀ i vs d, P i vs → ds[i]? = some d → ∃ v₁ v₂, vs = #[v₁, v₂] ∧ Rep C X h v₁ d.1 ∧ Rep C X h v₂ d.2) t hT (W.apart i T _ hm) (r₁.keep K) (r₂.keep K)
      ⟨hm, fun j us e a b => let ⟨u₁, u₂, x, y, z⟩ := p.rp j us e a b; ⟨u₁, u₂, x, y.keep K, z.keep K⟩⟩ fun elts k pos s'' Q' md hQ' => ?_
    refine W.go elts k pos i T s'' _ _ md.1 fun h₃ hst hk₃ => ?_
    have t₃ : Touch wr s'' { s'' with heap := h₃ } := .of (t := s''.toks) (Nat.le_refl _) hk₃
    have K₃ := t₃.keep p.hw
    exact hQ' _ t₃ ⟨hst, p.hw, p.hf, fun j us e a b => let ⟨u₁, u₂, x, y, z⟩ := md.2 j us e a b; ⟨u₁, u₂, x, y.keep K₃, z.keep K₃⟩⟩
  done := fun X s Q p hQ => by
    rw [hn] at p
    exact wp_up (W.done s _ _ p.st fun h' tk hk l => hQ _ (.of l hk))
  self := fun i X s Q p hQ => W.self i s Q _ p.st hQ
  stay := PhOf.stay W.frame live fun X X' h h' k r i v d a b => let ⟨u₁, u₂, x, y, z⟩ := r i v d a b; ⟨u₁, u₂, x, y.keep k, z.keep k⟩
  live := fun i X h p b hb => live i h p.st b (W.sub b hb)
end

/-- an expression to walk over -/
structure Src1 (C : Cx) (n : Nat) (nm : Names) (ρ : Rho) (e : Expr) (ds : List D) : Prop where
  go : ∀ (A : Around) (env : Env) (X : List Addr) (s : Shared), Ok n A → EnvOk nm env → Pre C nm env X ρ s → Wp C A (eval e env) (fun xv s₁ => Wp C A (pyIter xv) (fun it s₂ => Kp s s₂ ∧ ∃ I wr Ph, it = .ref I ∧ (∀ b ∈ wr, s.heap.get? b = none) ∧ Walk1 C A I wr ds Ph ∧ Ph 0 (wr ++ X) s₂.heap) s₁) s
structure Src2 (C : Cx) (n : Nat) (nm : Names) (ρ : Rho) (e : Expr) (ds : List (D × D)) : Prop where
  go : ∀ (A : Around) (env : Env) (X : List Addr) (s : Shared), Ok n A → EnvOk nm env → Pre C nm env X ρ s → Wp C A (eval e env) (fun xv s₁ => Wp C A (pyIter xv) (fun it s₂ => Kp s s₂ ∧ ∃ I wr Ph, it = .ref I ∧ (∀ b ∈ wr, s.heap.get? b = none) ∧ Walk2 C A I wr ds Ph ∧ Ph 0 (wr ++ X) s₂.heap) s₁) s

/-- what the iterators must keep off -/
structure Apt (C : Cx) (nm : Names) (env : Env) (s₀ : Shared) (wr Xc : List Addr) : Prop where
  sub : ∀ b ∈ wr, b ∈ Xc
  new : ∀ b ∈ wr, s₀.heap.get? b = none
  off : ∀ b ∈ wr, C.h₀.get? b = none
  fre : ∀ x c, nm.lookup x = some .free → env.cells.lookup x = some c → c ∉ wr
/-- a turn of a loop: the next item, and the names bound to it -/
structure Trn (C : Cx) (A : Around) (nm : Names) (tgt : Expr) (I : Addr) (wr : List Addr) (n : Nat) (bind : Nat → Rho → Rho) (Ph : Nat → List Addr → Heap → Prop) : Prop where
  turn : ∀ env s₀ Mv Xc M T ρ s i (Q : Shared → Prop), EnvOk nm env → Frm C nm env s₀ Mv Xc M T ρ s → Apt C nm env s₀ wr Xc → i < n → Ph i (M ++ Xc) s.heap →
    (∀ s₂ T₂, Frm C nm env s₀ Mv Xc M T₂ (bind i ρ) s₂ → Ph (i + 1) (M ++ Xc) s₂.heap → KpB (wr ++ M) s s₂ → Q s₂) →
    Wp C A (pyNext (.ref I)) (fun r s₁ => ∃ v, r = some v ∧ Wp C A (letOwnedTupleGo tgt (.ref I) v) (fun _ s₁' => Wp C A (assign tgt env v) (fun _ s₂ => Q s₂) s₁') s₁) s
  done : ∀ X s (Q : Option Value → Shared → Prop), Ph n X s.heap → (∀ s', Touch wr s s' → Q none s') → Wp C A (pyNext (.ref I)) Q s
  self : ∀ i X s (Q : Value → Shared → Prop), Ph i X s.heap → Q (.ref I) s → Wp C A (pyIter (.ref I)) Q s
  stay : ∀ i X X' h h', Ph i X h → Keep X X' h h' → (∀ b ∈ wr, ∀ o, h.get? b = some o → h'.get? b = some o) → (∀ b ∈ wr, b ∈ X') → Ph i X' h'
  live : ∀ i X h, Ph i X h → ∀ b ∈ wr, ∃ o, h.get? b = some o

section
variable {C : Cx} {A : Around} {nm : Names} {I : Addr} {wr : List Addr} {Ph : Nat → List Addr → Heap → Prop}
theorem touch_frm {env : Env} {s₀ s s' : Shared} {Mv Xc M : List Addr} {T : Nat → List Addr} {ρ : Rho} (f : Frm C nm env s₀ Mv Xc M T ρ s) (ok : EnvOk nm env) (a : Apt C nm env s₀ wr Xc) (t : Touch wr s s') (hl : ∀ b ∈ wr, ∃ o, s'.heap.get? b = some o) : Frm C nm env s₀ Mv Xc M T ρ s' :=
  f.touchY ok t a.sub a.new a.off (fun _ m => m) (fun b m _ => hl b m) a.fre
theorem Touch.kpB {W M : List Addr} {s s' : Shared} (t : Touch W s s') : KpB (W ++ M) s s' := ⟨t.same, t.toks, fun b o h e => t.but b o (fun m => h (by simp [m])) e⟩
noncomputable def getD (ds : List D) (i : Nat) : D := (ds[i]?).getD .none
noncomputable def getD2 (ds : List (D × D)) (i : Nat) : D × D := (ds[i]?).getD (.none, .none)
theorem Trn.of1 {ds : List D} (W : Walk1 C A I wr ds Ph) {p : Nat} {x : Str} {kd : NameKind} {px : Pos} (hp : nm[p]? = some (x, kd)) (hk : kd = .local ∨ kd = .cell) :
    Trn C A nm (.Name x px) I wr ds.length (fun i ρ => ρ.set p (some (0, getD ds i))) Ph where
  turn := fun env s₀ Mv Xc M T ρ s i Q ok f a hi ph hQ => by
    have hd : ds[i]? = some (getD ds i) := by unfold getD; rw [List.getElem?_eq_getElem hi]; rfl
    refine W.next i _ s _ _ ph hd fun v s' t r ph' => ⟨v, rfl, ?_⟩
    show wpAny _ A (pure ()) _ _ _
    refine wpAny_pure ?_
    have f' := touch_frm f ok a t (W.live _ _ _ ph')
    have hM : ∀ b ∈ wr, b ∉ M := fun b hb m => f.dis b m (a.sub b hb)
    refine wpAny_assign_Name (f'.store ok hp hk (.sh r) (.inl rfl) fun s₂ f₂ ⟨z, hz, c⟩ => hQ s₂ _ f₂ (W.stay _ _ _ _ _ ph' (c.keep (List.mem_append.mpr (.inl hz))) (fun b hb o e => c.but b (fun h => hM b hb (h ▸ hz)) o e) fun b hb => List.mem_append.mpr (.inr (a.sub b hb))) ?_)
    exact t.kpB.trans (c.kpB (List.mem_append.mpr (.inr hz)))
  done := W.done
  self := W.self
  stay := W.stay
  live := W.live
theorem Trn.of2 (hA : A.handled = none) {ds : List (D × D)} (W : Walk2 C A I wr ds Ph) {p q : Nat} {x y : Str} {kd kd' : NameKind} {px py tp : Pos} {k : Nat} (hp : nm[p]? = some (x, kd)) (hk : kd = .local ∨ kd = .cell) (hq : nm[q]? = some (y, kd')) (hk' : kd' = .local ∨ kd' = .cell) :
    Trn C A nm (.Tuple [.Name x px, .Name y py] k tp) I wr ds.length (fun i ρ => (ρ.set p (some (0, (getD2 ds i).1))).set q (some (0, (getD2 ds i).2))) Ph where
  turn := fun env s₀ Mv Xc M T ρ s i Q ok f a hi ph hQ => by
    have hd : ds[i]? = some (getD2 ds i) := by unfold getD2; rw [List.getElem?_eq_getElem hi]; rfl
    have hM : ∀ b ∈ wr, b ∉ M := fun b hb m => f.dis b m (a.sub b hb)
    have hX : ∀ b ∈ wr, b ∈ M ++ Xc := fun b hb => List.mem_append.mpr (.inr (a.sub b hb))
    refine W.next i _ s _ _ ph hd fun tu v₁ v₂ s' Md t ht hTw r₁ r₂ md go => ⟨_, rfl, go _ _ _ s' _ md fun s₃ t₃ ph₃ => ?_⟩
    have ht₃ : IsTup s₃.heap tu #[v₁, v₂] := by obtain ⟨o, e, r⟩ := ht; exact ⟨o, t₃.but _ o hTw e, r⟩
    refine assign_Tuple_tuple hA ht₃ rfl rfl fun h₅ he => ?_
    have k₅ : Kp s₃ { s₃ with heap := h₅ } := kHeap (t := s₃.toks) (fun b o e => he b o (Nat.ne_of_lt (Heap.lt_size e)) e) (Nat.le_refl _)
    have K₃ := t₃.keep hX
    have tt : Touch wr s s₃ := by
      obtain ⟨h1, t1, rfl⟩ := t.same
      obtain ⟨h2, t2, rfl⟩ := t₃.same
      exact ⟨⟨h2, t2, rfl⟩, Nat.le_trans t.toks t₃.toks, fun b o hb e => t₃.but b o hb (t.but b o hb e)⟩
    have f₃ := (touch_frm f ok a tt (W.live _ _ _ ph₃)).keeps k₅
    have ph₅ := W.stay _ _ _ _ _ ph₃ (.all (kGet k₅)) (fun b _ o e => kGet k₅ b o e) hX
    refine assignInOrder_cons (wpAny_assign_Name (f₃.store ok hp hk (.sh ((r₁.keep K₃).keep (.all (kGet k₅)))) (.inl rfl) fun s₆ f₆ ⟨z, hz, c⟩ => ?_))
    have K₆ := c.keep (X := M ++ Xc) (List.mem_append.mpr (.inl hz))
    refine assignInOrder_cons (wpAny_assign_Name (f₆.store ok hq hk' (.sh (((r₂.keep K₃).keep (.all (kGet k₅))).keep K₆)) (.inl rfl) fun s₇ f₇ ⟨z', hz', c'⟩ => assignInOrder_nil ?_))
    have ph₆ := W.stay _ _ _ _ _ ph₅ K₆ (fun b hb o e => c.but b (fun h => hM b hb (h ▸ hz)) o e) hX
    exact hQ s₇ _ f₇ (W.stay _ _ _ _ _ ph₆ (c'.keep (List.mem_append.mpr (.inl hz'))) (fun b hb o e => c'.but b (fun h => hM b hb (h ▸ hz')) o e) hX)
      (tt.kpB.trans ((KpB.of k₅).trans ((c.kpB (List.mem_append.mpr (.inr hz))).trans (c'.kpB (List.mem_append.mpr (.inr hz'))))))
  done := W.done
  self := W.self
  stay := W.stay
  live := W.live
end
end Mine
end
section
open PySem PySem.W PyProof.Rows PySem.Calls PySem.Spec
set_option maxRecDepth 100000
namespace Mine

/-- the turns of a for, from the i-th on -/
inductive ForRun (C : Cx) (n : Nat) (nm : Names) (bind : Nat → Rho → Rho) (body : List Stmt) (N : Nat) : Nat → Rho → Out → Prop
  | done {ρ : Rho} : ForRun C n nm bind body N N ρ (.next ρ)
  | turn {i : Nat} {ρ ρ₁ : Rho} {o : Out} : i < N → Ex C n nm (bind i ρ) body (.next ρ₁) → ForRun C n nm bind body N (i + 1) ρ₁ o → ForRun C n nm bind body N i ρ o
  | ret {i : Nat} {ρ : Rho} {d : D} : i < N → Ex C n nm (bind i ρ) body (.ret d) → ForRun C n nm bind body N i ρ (.ret d)

section
variable {C : Cx} {n : Nat} {nm : Names} {ρ : Rho}
theorem OutOk.rebase {env : Env} {s₀ s s' : Shared} {Mv Xc Xd M : List Addr} {T : Nat → List Addr} {ρ : Rho} {d : D} {fl : Flow} (f : Frm C nm env s₀ Mv Xc M T ρ s) (h : OutOk C nm env s M Xd (.ret d) fl s') (hd : ∀ b ∈ Xc, b ∈ Xd) : OutOk C nm env s₀ Mv Xc (.ret d) fl s' := by
  obtain ⟨v, rfl, k, r, g⟩ := h
  exact ⟨v, rfl, f.kp.own k f.new, r.keep ⟨fun b o _ e => e, fun b o _ m => hd b m⟩, g.old, fun a m => g.live a (hd a m), g.toks⟩
structure Src (C : Cx) (n : Nat) (nm : Names) (ρ : Rho) (iter : Expr) (nm' : Names) (tgt : Expr) (N : Nat) (bind : Nat → Rho → Rho) : Prop where
  go : ∀ (A : Around) (env : Env) (X : List Addr) (s : Shared), Ok n A → EnvOk nm env → Pre C nm env X ρ s → Wp C A (eval iter env) (fun xv s₁ => Wp C A (pyIter xv) (fun it s₂ => Kp s s₂ ∧ ∃ I wr Ph, it = .ref I ∧ (∀ b ∈ wr, s.heap.get? b = none) ∧ Trn C A nm' tgt I wr N bind Ph ∧ Ph 0 (wr ++ X) s₂.heap) s₁) s
theorem Src.of1 {e : Expr} {ds : List D} (h : Src1 C n nm ρ e ds) {nm' : Names} (p : Nat) {x : Str} {kd : NameKind} {px : Pos} (hp : nm'[p]? = some (x, kd)) (hk : kd = .local ∨ kd = .cell := by first | exact .inl rfl | exact .inr rfl) :
    Src C n nm ρ e nm' (.Name x px) ds.length (fun i ρ => ρ.set p (some (0, getD ds i))) := .mk fun A env X s o ok pr =>
  wp_mono (h.go A env X s o ok pr) fun xv s₁ h₁ => wp_mono h₁ fun it s₂ ⟨k, I, wr, Ph, e, n, W, ph⟩ => ⟨k, I, wr, Ph, e, n, .of1 W hp hk, ph⟩
theorem Src.of2 {e : Expr} {ds : List (D × D)} (h : Src2 C n nm ρ e ds) {nm' : Names} (p q : Nat) {x y : Str} {kd kd' : NameKind} {px py tp : Pos} {k : Nat} (hp : nm'[p]? = some (x, kd)) (hq : nm'[q]? = some (y, kd')) (hk : kd = .local ∨ kd = .cell := by first | exact .inl rfl | exact .inr rfl) (hk' : kd' = .local ∨ kd' = .cell := by first | exact .inl rfl | exact .inr rfl) :
    Src C n nm ρ e nm' (.Tuple [.Name x px, .Name y py] k tp) ds.length (fun i ρ => (ρ.set p (some (0, (getD2 ds i).1))).set q (some (0, (getD2 ds i).2))) := .mk fun A env X s o ok pr =>
  wp_mono (h.go A env X s o ok pr) fun xv s₁ h₁ => wp_mono h₁ fun it s₂ ⟨k, I, wr, Ph, e, n, W, ph⟩ => ⟨k, I, wr, Ph, e, n, .of2 o.handled W hp hk hq hk', ph⟩

theorem Ex1.for_ {tgt iter : Expr} {body : List Stmt} {pos : Pos} {N : Nat} {bind : Nat → Rho → Rho} {out : Out} (src : Src C n nm ρ iter nm tgt N bind) (run : ForRun C n nm bind body N 0 ρ out)
    (hs : ∀ env x, foldedSetIterable iter env x = pure x := by intro _ _; rfl) : Ex1 C n nm ρ (.For tgt iter body [] pos) out := .mk fun A env s₀ Mv Xc M T s oo ok f =>
  wpAny_For (wp_mono (src.go A env (M ++ Xc) s oo ok f.pre) fun xv s₁ h₁ => wp_mono h₁ fun it s₂ h => by
    obtain ⟨k, I, wr, Ph, rfl, hn, W, ph⟩ := h
    have f1 := f.rebase
    have f2 : Frm C nm env s M (wr ++ Xc) M T ρ s₂ := f1.growX k hn (W.live _ _ _ ph)
    have hoff : ∀ b ∈ wr, C.h₀.get? b = none := fun b hb => by
      cases e : C.h₀.get? b with
      | none => rfl
      | some o => have := f.gr.old b o e; rw [hn b hb] at this; cases this
    have hfre : ∀ x c, nm.lookup x = some .free → env.cells.lookup x = some c → c ∉ wr := fun x c hx hc hb => by
      obtain ⟨_, o, e⟩ := f.fre x c hx hc
      rw [hn c hb] at e; cases e
    have apt : Apt C nm env s wr (wr ++ Xc) := ⟨fun b hb => List.mem_append.mpr (.inl hb), hn, hoff, hfre⟩
    have ph2 : Ph 0 (M ++ (wr ++ Xc)) s₂.heap := W.stay _ _ _ _ _ ph ⟨fun b o _ e => e, fun b o _ m => by simp only [List.mem_append] at m ⊢; rcases m with m | m | m <;> simp [m]⟩ (fun _ _ _ e => e) fun b hb => by simp [hb]
    refine codeAny_forLoop_any (fun k' s' => ∃ i ρ' M' T', k' = N + 1 - i ∧ i ≤ N ∧ ForRun C n nm bind body N i ρ' out ∧ Frm C nm env s M (wr ++ Xc) M' T' ρ' s' ∧ Ph i (M' ++ (wr ++ Xc)) s'.heap) ?_ (N + 1) ⟨0, ρ, M, T, rfl, Nat.zero_le _, run, f2, ph2⟩
    rintro _ s' ⟨i, ρ', M', T', rfl, hi, rn, f', ph'⟩
    have body_ok : ∀ {out' : Out}, i < N → Ex C n nm (bind i ρ') body out' → (∀ fl s₃ s₄ T₃, Frm C nm env s M (wr ++ Xc) M' T₃ (bind i ρ') s₃ → Ph (i + 1) (M' ++ (wr ++ Xc)) s₃.heap → OutOk C nm env s₃ M' (wr ++ Xc) out' fl s₄ →
        (match fl with
            | .next | .cont => ∃ m, m < N + 1 - i ∧ ∃ i' ρ' M' T', m = N + 1 - i' ∧ i' ≤ N ∧ ForRun C n nm bind body N i' ρ' out ∧ Frm C nm env s M (wr ++ Xc) M' T' ρ' s₄ ∧ Ph i' (M' ++ (wr ++ Xc)) s₄.heap
            | .brk => OutOk C nm env s₀ Mv Xc out .next s₄
            | .ret v => OutOk C nm env s₀ Mv Xc out (.ret v) s₄)) →
        wpAny (model C.prog C.w) A (pyNext (.ref I)) (fun r s₁ => match r with
      | none => wpAny (model C.prog C.w) A (execs [] env) (fun f s₃ => OutOk C nm env s₀ Mv Xc out f s₃) (notedBy (model C.prog C.w) A env fun e s' => cameBackBy (model C.prog C.w) A env NoE e s') s₁
      | some v => wpAny (model C.prog C.w) A (letOwnedTupleGo tgt (.ref I) v) (fun _ s₁' =>
          wpAny (model C.prog C.w) A (PySem.assign tgt env v) (fun _ s₂ => wpAny (model C.prog C.w) A (execs body env) (fun f s₃ => match f with
            | .next | .cont => ∃ m, m < N + 1 - i ∧ ∃ i' ρ' M' T', m = N + 1 - i' ∧ i' ≤ N ∧ ForRun C n nm bind body N i' ρ' out ∧ Frm C nm env s M (wr ++ Xc) M' T' ρ' s₃ ∧ Ph i' (M' ++ (wr ++ Xc)) s₃.heap
            | .brk => OutOk C nm env s₀ Mv Xc out .next s₃
            | .ret v => OutOk C nm env s₀ Mv Xc out (.ret v) s₃) (notedBy (model C.prog C.w) A env fun e s' => cameBackBy (model C.prog C.w) A env NoE e s') s₂) (notedBy (model C.prog C.w) A env fun e s' => cameBackBy (model C.prog C.w) A env NoE e s') s₁') (notedBy (model C.prog C.w) A env fun e s' => cameBackBy (model C.prog C.w) A env NoE e s') s₁) (notedBy (model C.prog C.w) A env fun e s' => cameBackBy (model C.prog C.w) A env NoE e s') s' := fun {out'} hlt hex hfin => by
      refine wpAny_mono (W.turn env s M (wr ++ Xc) M' T' ρ' s' i (fun s₃ => Wp C A (execs body env) (fun fl s₄ => ∃ T₃, Frm C nm env s M (wr ++ Xc) M' T₃ (bind i ρ') s₃ ∧ Ph (i + 1) (M' ++ (wr ++ Xc)) s₃.heap ∧ OutOk C nm env s₃ M' (wr ++ Xc) out' fl s₄) s₃)
        ok f' apt hlt ph' fun s₃ T₃ f₃ ph₃ _ => wp_mono (hex.go A env s₃ M' (wr ++ Xc) M' T₃ s₃ oo ok f₃.rebase) fun fl s₄ h => ⟨T₃, f₃, ph₃, h⟩) (fun r s₁ h => ?_) fun _ _ x => x.elim
      obtain ⟨v, rfl, h⟩ := h
      exact wpAny_mono h (fun _ _ h => wpAny_mono h (fun _ _ h => wpAny_mono h (fun fl s₄ ⟨T₃, a, b, c⟩ => hfin fl _ s₄ T₃ a b c) fun _ _ x => x.elim) fun _ _ x => x.elim) fun _ _ x => x.elim
    cases rn with
    | done =>
      refine wpAny_mono (W.done _ _ (fun r s₁ => r = none ∧ Touch wr s' s₁) ph' fun s₁ t => ⟨rfl, t⟩) (fun r s₁ h => ?_) fun _ _ x => x.elim
      obtain ⟨rfl, t⟩ := h
      refine wpAny_execs_nil ⟨rfl, M', T', f.unbase (f'.touchY ok t apt.sub apt.new apt.off (fun b hb => List.mem_append.mpr (.inr hb)) (fun b hb hx => ?_) apt.fre)⟩
      obtain ⟨o, e⟩ := f.gr.live b (List.mem_append.mpr (.inr hx))
      rw [hn b hb] at e; cases e
    | @turn _ _ ρ₁ _ hlt hex rest =>
      refine body_ok hlt hex fun fl s₃ s₄ T₃ f₃ ph₃ h => ?_
      obtain ⟨rfl, M₄, T₄, f₄⟩ := h
      refine ⟨N + 1 - (i + 1), by omega, i + 1, ρ₁, M₄, T₄, rfl, hlt, rest, f₃.unbase f₄, ?_⟩
      refine W.stay _ _ _ _ _ ph₃ ⟨fun b o hb e => f₄.kp.get b o (fun m => hb (List.mem_append.mpr (.inl m))) e, fun b o e m => ?_⟩ (fun b hb o e => f₄.kp.get b o (fun m => f₃.dis b m (apt.sub b hb)) e) fun b hb => by simp [hb]
      rcases List.mem_append.mp m with m | m
      · by_cases hb : b ∈ M'
        · exact List.mem_append.mpr (.inl hb)
        · have := f₄.new b m hb; rw [e] at this; cases this
      · exact List.mem_append.mpr (.inr m)
    | @ret _ _ d hlt hex =>
      refine body_ok hlt hex fun fl s₃ s₄ T₃ f₃ ph₃ h => ?_
      have h2 := OutOk.rebase (f.unbase f₃).shrinkX h fun b hb => List.mem_append.mpr (.inr hb)
      obtain ⟨v, rfl, _⟩ := h
      exact h2) (hs env)

end
end Mine
end
section
open PySem PySem.W PyProof.Rows PySem.Calls PySem.Spec
set_option maxRecDepth 100000
namespace Mine

/-- a function's promise for data -/
structure Fn (C : Cx) (n : Nat) (a : Addr) (ds : List D) (d : D) : Prop where
  go : ∀ (A : Around) (X : List Addr) (s : Shared) (vs : List Value), Ok n A → Gr C X s → RepL C X s.heap vs ds → Wp C A (call (.ref a) vs) (Gives C X 0 d s) s

theorem lookup_cellsFrom_acc : ∀ {names : List (Str × NameKind)} {n : Nat} {acc : List (Str × Addr)} {x : Str}, (∃ c, acc.lookup x = some c) → ∃ c, (cellsFrom n names acc).lookup x = some c
  | [], _, _, _, h => h
  | (y, k) :: r, n, acc, x, ⟨c, h⟩ => by
    unfold cellsFrom
    split
    · refine lookup_cellsFrom_acc ?_
      rw [List.lookup_cons]
      cases x == y with
      | true => exact ⟨_, rfl⟩
      | false => exact ⟨c, h⟩
    · exact lookup_cellsFrom_acc ⟨c, h⟩
theorem lookup_cellsFrom : ∀ {names : List (Str × NameKind)} {n : Nat} {acc : List (Str × Addr)} {x : Str}, (x, NameKind.cell) ∈ names → ∃ c, (cellsFrom n names acc).lookup x = some c
  | (y, k) :: r, n, acc, x, h => by
    unfold cellsFrom
    rcases List.mem_cons.mp h with e | h
    · cases e
      rw [if_pos (by rfl)]
      exact lookup_cellsFrom_acc ⟨n, by simp [List.lookup_cons]⟩
    · split
      · exact lookup_cellsFrom h
      · exact lookup_cellsFrom h

theorem bindL_off {kindOf : Str → Option NameKind} : ∀ {binds : List (Str × Value)} {m : Str → Option Value} {x : Str}, x ∉ binds.map (·.1) → bindL kindOf binds m x = m x
  | [], _, _, _ => rfl
  | (y, v) :: r, m, x, h => by
    unfold bindL
    simp only [List.map_cons, List.mem_cons, not_or] at h
    rw [bindL_off h.2]
    split
    · simp only [if_neg h.1]
    · rfl
theorem bindC_off {kindOf : Str → Option NameKind} : ∀ {binds : List (Str × Value)} {m : Str → Option Value} {x : Str}, x ∉ binds.map (·.1) → bindC kindOf binds m x = m x
  | [], _, _, _ => rfl
  | (y, v) :: r, m, x, h => by
    unfold bindC
    simp only [List.map_cons, List.mem_cons, not_or] at h
    rw [bindC_off h.2]
    split
    · rfl
    · simp only [if_neg h.1]
theorem bindL_at {kindOf : Str → Option NameKind} : ∀ {binds : List (Str × Value)} {m : Str → Option Value} {x : Str} {v : Value}, (binds.map (·.1)).Nodup → (x, v) ∈ binds → kindOf x = some .local → bindL kindOf binds m x = some v
  | (y, u) :: r, m, x, v, nd, h, hk => by
    rw [List.map_cons, List.nodup_cons] at nd
    unfold bindL
    rcases List.mem_cons.mp h with e | h
    · cases e
      rw [bindL_off nd.1, if_pos hk, if_pos rfl]
    · exact bindL_at nd.2 h hk
theorem bindC_at {kindOf : Str → Option NameKind} : ∀ {binds : List (Str × Value)} {m : Str → Option Value} {x : Str} {v : Value}, (binds.map (·.1)).Nodup → (x, v) ∈ binds → kindOf x = some .cell → bindC kindOf binds m x = some v
  | (y, u) :: r, m, x, v, nd, h, hk => by
    rw [List.map_cons, List.nodup_cons] at nd
    unfold bindC
    rcases List.mem_cons.mp h with e | h
    · cases e
      rw [bindC_off nd.1, if_neg (by rw [hk]; decide), if_pos rfl]
    · exact bindC_at nd.2 h hk

/-- the names' values at a call -/
noncomputable def rho0 (nm : Names) (ds : List D) : Rho := ds.map (fun d => some (0, d)) ++ List.replicate (nm.length - ds.length) none
theorem rho0_at {nm : Names} {ds : List D} {i k : Nat} {d : D} (h : (rho0 nm ds)[i]? = some (some (k, d))) : k = 0 ∧ ds[i]? = some d := by
  unfold rho0 at h
  rw [List.getElem?_append] at h
  split at h
  · rw [List.getElem?_map] at h
    cases e : ds[i]? with
    | none => rw [e] at h; cases h
    | some d' => rw [e] at h; cases h; exact ⟨rfl, rfl⟩
  · have := List.mem_of_getElem? h
    have := List.eq_of_mem_replicate this
    cases this

/-- what is asked of a names' list: to be decided -/
structure NmOk (nm : Names) (k : Nat) : Prop where
  nodup : (nm.map (·.1)).Nodup
  plain : ∀ p ∈ nm, (p.1 == ("__debug__" : Str)) = false ∧ (p.1 == ("__classdict__" : Str)) = false
  nofree : ∀ p ∈ nm, p.2 ≠ .free
  params : ∀ p ∈ nm.take k, p.2 = .local ∨ p.2 = .cell


theorem Frm.begin {C : Cx} {nm : Names} {env : Env} {s s₁ : Shared} {X : List Addr} {vs : List Value} {ds : List D} {names : Names} {L : Addr} (g : Gr C X s) (hr : RepL C X s.heap vs ds) (hlen : ds.length ≤ nm.length) (q : NmOk nm ds.length)
    (hL : env.locals = L) (hsc : env.scope.names = nm) (hcs : env.cells = cellsFrom (L + 1) nm [])
    (x : InCallC s env.locals (bindL env.kindOf (((nm.take ds.length).map (·.1)).zip vs) fun _ => none) env.cells (bindC env.kindOf (((nm.take ds.length).map (·.1)).zip vs) fun _ => none) s₁) (ht : s.toks ≤ s₁.toks) :
    ∃ M, Frm C nm env s [] X M (fun _ => []) (rho0 nm ds) s₁ := by
  have hkp : Kp s s₁ := by
    obtain ⟨h', tk, rfl, k⟩ := x.done
    exact ⟨⟨h', tk, rfl, k⟩, ht⟩
  have hkind : ∀ y, env.kindOf y = nm.lookup y := fun y => by rw [← hsc]; rfl
  have hnames : ((nm.take ds.length).map (·.1)).length = vs.length := by rw [List.length_map, List.length_take, hr.length]; exact Nat.min_eq_left hlen
  have hzip : ((((nm.take ds.length).map (·.1)).zip vs).map (·.1)) = (nm.take ds.length).map (·.1) := by
    rw [List.map_fst_zip]; omega
  have hnd : ((((nm.take ds.length).map (·.1)).zip vs).map (·.1)).Nodup := by
    rw [hzip, List.map_take]; exact q.nodup.sublist (List.take_sublist _ _)
  have fresh : ∀ b, s.heap.objs.size ≤ b → s.heap.get? b = none := fun b hb => by
    cases e : s.heap.get? b with
    | none => rfl
    | some o => exact absurd (Heap.lt_size e) (Nat.not_lt.mpr hb)
  have hLs : s.heap.objs.size ≤ env.locals := x.toInCall.fresh
  have new : ∀ b ∈ env.locals :: nm.filterMap (fun p => env.cells.lookup p.1), s.heap.get? b = none := fun b hb => by
    rcases List.mem_cons.mp hb with rfl | hb
    · exact fresh _ hLs
    · obtain ⟨p, hm, e⟩ := List.mem_filterMap.mp hb
      exact fresh _ (Nat.le_of_lt (Nat.lt_of_le_of_lt hLs (x.above _ b (mem_of_lookup e))))
  refine ⟨env.locals :: nm.filterMap (fun p => env.cells.lookup p.1), { kp := .of hkp, gr := ⟨fun b o e => kGet hkp b o (g.old b o e), fun a m => ?_, Nat.le_trans g.toks ht⟩, new := fun b m _ => new b m, off := fun b m => ?_, dis := fun b m hX => ?_, loc := List.mem_cons_self, ns := ⟨_, x.toInCall.ns⟩, cel := fun y hy => ?_, one := fun y z c hy hc hc' => ?_, fre := fun y c hy _ => ?_, vars := fun i k d e => ?_, ownM := fun _ _ m => (by cases m), ownL := fun _ m => (by cases m), ownC := fun _ _ _ _ _ m => (by cases m), apart := fun _ _ _ _ m => (by cases m), nodup := fun _ => List.nodup_nil, mv := fun _ m => nomatch m }⟩
  · rcases List.mem_append.mp m with m | m
    · rcases List.mem_cons.mp m with rfl | m
      · obtain ⟨o, _, _, e, _⟩ := x.toInCall.ns; exact ⟨o, e⟩
      · obtain ⟨p, hm, e⟩ := List.mem_filterMap.mp m
        obtain ⟨o, e, _⟩ := x.cell _ _ e
        exact ⟨o, e⟩
    · obtain ⟨o, e⟩ := g.live a m; exact ⟨o, kGet hkp a o e⟩
  · cases e : C.h₀.get? b with
    | none => rfl
    | some o => have := g.old b o e; rw [new b m] at this; cases this
  · obtain ⟨o, e⟩ := g.live b hX
    rw [new b m] at e; cases e
  · obtain ⟨c, hc⟩ := lookup_cellsFrom (n := L + 1) (acc := []) (mem_of_lookup hy)
    rw [← hcs] at hc
    exact ⟨c, _, hc, x.cell y c hc, List.mem_cons_of_mem _ (List.mem_filterMap.mpr ⟨(y, .cell), mem_of_lookup hy, hc⟩)⟩
  · exact name_of_addr x.apart (mem_of_lookup hc') (mem_of_lookup hc)
  · exact absurd rfl (q.nofree _ (mem_of_lookup hy))
  · obtain ⟨rfl, hd⟩ := rho0_at e
    obtain ⟨v, hv, hrv⟩ := hr.get hd
    have hi : i < ds.length := (List.getElem?_eq_some_iff.mp hd).1
    have hin : i < nm.length := Nat.lt_of_lt_of_le hi hlen
    have hnm : nm[i]? = some (nm[i].1, nm[i].2) := by rw [List.getElem?_eq_getElem hin]
    have hmem : (nm[i].1, v) ∈ ((nm.take ds.length).map (·.1)).zip vs := by
      refine List.mem_of_getElem? (i := i) ?_
      rw [List.getElem?_zip_eq_some]
      refine ⟨?_, hv⟩
      rw [List.getElem?_map, List.getElem?_take_of_lt hi, List.getElem?_eq_getElem hin]; rfl
    have hkd := lookup_at q.nodup hnm
    refine ⟨nm[i].1, nm[i].2, v, hnm, ?_, .sh (hrv.keep ⟨fun b o _ e => kGet hkp b o e, fun b o e m => ?_⟩)⟩
    · rcases q.params nm[i] (by
        rw [List.mem_take_iff_getElem]
        exact ⟨i, by omega, rfl⟩) with hk | hk
      · rw [hk] at hkd ⊢
        exact .loc x.toInCall.ns (bindL_at hnd hmem (by rw [hkind]; exact hkd))
      · rw [hk] at hkd ⊢
        obtain ⟨c, hc⟩ := lookup_cellsFrom (n := L + 1) (acc := []) (mem_of_lookup hkd)
        rw [← hcs] at hc
        have := x.cell _ c hc
        rw [bindC_at hnd hmem (by rw [hkind]; exact hkd)] at this
        exact .cell hc this
    · rcases List.mem_append.mp m with m | m
      · rw [new b m] at e; cases e
      · exact m

theorem Fn.of_body {C : Cx} {n : Nat} {a : Addr} {o : Obj} {fd : FuncData} {body : List Stmt} {nm : Names} {mr : List (Str × Const)} {ds : List D} {d : D} (ho : C.K.lookup a = some o) (hd : o.data = .func fd) (hb : fd.body = .stmts body) (hsc0 : fd.scope = { kind := .function, names := nm, isGenerator := false, isCoroutine := false, more := mr })
    (hc : codeIn C.K fd.code fd.qualname = true) (hclo : fd.closure = []) (hg : fd.globals = mainGlobals) (hbu : fd.builtins = builtinsNs)
    (hbind : ∀ vs : List Value, vs.length = ds.length → bindArgs fd ⟨vs, []⟩ = pure (((nm.take ds.length).map (·.1)).zip vs)) (q : NmOk nm ds.length) (hlen : ds.length ≤ nm.length) (h : Ex C n nm (rho0 nm ds) body (.ret d)) : Fn C (n + 1) a ds d := .mk fun A X s vs ok g hr => by
  have hsc : fd.scope.names = nm := by rw [hsc0]
  have hfk : fd.scope.kind = .function := by rw [hsc0]
  have hfg : fd.scope.isGenerator = false := by rw [hsc0]
  have hfc : fd.scope.isCoroutine = false := by rw [hsc0]
  have hK := C.inK.keeps g.old
  refine wpAny_call ?_
  refine codeAny_call_function ok.room (hK a o ho) hd hfc hfg hb (codeRec_of hK hc) ?_
  rw [hbind vs hr.length, hclo]
  refine wpAny_pure ?_
  have hkind : ∀ x ∈ ((nm.take ds.length).map (·.1)).zip vs, fd.scope.names.lookup x.1 = some .local ∨ (fd.scope.names.lookup x.1 = some .cell ∧ ((cellsFrom (s.heap.objs.size + 1) fd.scope.names []).lookup x.1).isSome = true) := fun x hx => by
    rw [hsc]
    obtain ⟨y, v⟩ := x
    have h1 := (List.of_mem_zip hx).1
    obtain ⟨p, hp, rfl⟩ := List.mem_map.mp h1
    have hm : p ∈ nm := List.mem_of_mem_take hp
    obtain ⟨i, hi⟩ := List.getElem?_of_mem hm
    have hl := lookup_at q.nodup (x := p.1) (k := p.2) hi
    rcases q.params p hp with e | e
    · exact .inl (by rw [← e]; exact hl)
    · refine .inr ⟨by rw [← e]; exact hl, ?_⟩
      obtain ⟨c, hc⟩ := lookup_cellsFrom (n := s.heap.objs.size + 1) (acc := []) (mem_of_lookup (hl.trans (by rw [e])))
      rw [hc]; rfl
  refine wpAny_with_toks (n := s.toks) (Nat.le_refl _) (wpAny_newFunctionEnv_cells hfk hkind fun env he s' x ht => ?_)
  have hsn : env.scope = fd.scope := by rw [he]; rfl
  have hcs : env.cells = cellsFrom (s.heap.objs.size + 1) nm [] := by rw [he]; show cellsFrom _ fd.scope.names [] = _; rw [hsc]
  obtain ⟨M, f⟩ := Frm.begin (env := env) (L := s.heap.objs.size) (names := nm) g hr hlen q (by rw [he]; rfl) (by rw [hsn, hsc]) hcs x ht
  have hki : ∀ y, env.kindOf y = nm.lookup y := fun y => by show env.scope.names.lookup y = _; rw [hsn, hsc]
  have henv : EnvOk nm env := ⟨by rw [hsn, hfk], by rw [he]; exact hg, by rw [he]; exact hbu, q.nodup, q.plain, fun y e => (hki y).trans e, fun y e => (hki y).trans e, fun y e => .inl ((hki y).trans e), fun y e => (hki y).trans e,
    fun y e => by
      rcases e with e | e
      · rw [hcs]; exact lookup_cellsFrom (mem_of_lookup e)
      · exact absurd rfl (q.nofree _ (mem_of_lookup e))⟩
  refine ⟨C.nolimit.keeps fun b o e => kGet f.kp.to b o (g.old b o e), codeAny_func ?_⟩
  refine wpAny_mono (h.go (A.deeper env) env s [] X M _ s' (ok.deeper env) henv f) (fun fl s'' h => ?_) fun _ _ x => x.elim
  obtain ⟨v, rfl, k, r, _⟩ := h
  exact .mk k.to r

/-- a call of a function of the program -/
theorem Ev.call {C : Cx} {n : Nat} {nm : Names} {ρ : Rho} {x : Str} {px pos : Pos} {e : Expr} {es : List Expr} {a : Addr} {o : Obj} {fd : FuncData} {ds : List D} {d : D} (i : Nat) (hi : nm[i]? = some (x, .globalImplicit)) (hK : nsIn C.K mainGlobals x = some (some (.ref a))) (ho : C.K.lookup a = some o) (hd : o.data = .func fd)
    (h : Evs C n nm ρ (e :: es) ds) (f : Fn C n a ds d) (hxd : (x == ("__debug__" : Str)) = false := by decide) : Ev C n nm ρ (.Call (.Name x px) (e :: es) [] pos) 0 d := .mk fun A env X s ok env' p => by
  cases h with
  | @cons _ _ d₁ ds₁ h he rest =>
    refine Call_Name rfl (load_glob env' p (lookup_at env'.nodup hi) hK ?_ hxd px)
    have hrun := (Evs.cons h he rest).run (pos := pos) A env X s ok env' p
    rw [he env] at hrun ⊢
    refine callWith_function (o := o) (fd := fd) (evalArgs_plain (wp_mono hrun fun vs s' ⟨k, r⟩ => ⟨⟨kGet k _ _ (p.gr.old _ _ (C.inK _ _ ho)), hd⟩, ?_⟩))
    exact wp_mono (f.go A X s' vs ok (p.gr.keeps k) r) fun v s'' g => ⟨kTrans k g.1, g.2⟩
end Mine
end
section
open PySem PySem.W PyProof.Rows PySem.Calls PySem.Spec
set_option maxRecDepth 100000
namespace Mine

theorem cellsFrom_off : ∀ {names : List (Str × NameKind)} {n : Nat} {acc : List (Str × Addr)} {x : Str}, (x, NameKind.cell) ∉ names → (cellsFrom n names acc).lookup x = acc.lookup x
  | [], _, _, _, _ => rfl
  | (y, k) :: r, n, acc, x, h => by
    have h1 : (x, NameKind.cell) ∉ r := fun m => h (List.mem_cons_of_mem _ m)
    unfold cellsFrom
    split
    · rename_i hk
      rw [cellsFrom_off h1, List.lookup_cons]
      have : (x == y) = false := by
        cases e : x == y with
        | false => rfl
        | true =>
          rw [beq_iff_eq] at e hk
          subst e; subst hk
          exact absurd List.mem_cons_self h
      rw [this]
    · exact cellsFrom_off h1
/-- the own cells lie above -/
theorem cellsFrom_ge : ∀ {names : List (Str × NameKind)} {n : Nat} {acc : List (Str × Addr)} {x : Str} {c : Addr}, (x, NameKind.cell) ∈ names → (names.map (·.1)).Nodup → (cellsFrom n names acc).lookup x = some c → n ≤ c
  | (y, k) :: r, n, acc, x, c, h, nd, e => by
    rw [List.map_cons, List.nodup_cons] at nd
    unfold cellsFrom at e
    rcases List.mem_cons.mp h with h | h
    · cases h
      rw [if_pos (by rfl), cellsFrom_off (fun m => nd.1 (List.mem_map.mpr ⟨_, m, rfl⟩))] at e
      simp [List.lookup_cons] at e
      exact Nat.le_of_eq e
    · split at e
      · have := cellsFrom_ge h nd.2 e; omega
      · exact cellsFrom_ge h nd.2 e

/-- what closureFor gives -/
noncomputable def closOf (env : Env) : List (Str × NameKind) → List (Str × Addr) → List (Str × Addr)
  | [], acc => acc
  | (x, k) :: r, acc => if k == .free then closOf env r ((x, (env.cells.lookup x).getD 0) :: acc) else closOf env r acc
theorem closureFor_eq {scope : Scope} {env : Env} (h : ∀ p ∈ scope.names, p.2 = .free → ∃ c, env.cells.lookup p.1 = some c) : closureFor scope env = pure (closOf env scope.names []) := by
  have key : ∀ (names : List (Str × NameKind)) (acc : List (Str × Addr)) (f : Str × NameKind → List (Str × Addr) → Sem (ForInStep (List (Str × Addr)))),
      (∀ name kind cs, f (name, kind) cs = if kind == .free then (do let c ← cellOf env name; pure (.yield ((name, c) :: cs))) else pure (.yield cs)) → (∀ p ∈ names, p.2 = .free → ∃ c, env.cells.lookup p.1 = some c) →
      forIn names acc f = pure (closOf env names acc) := by
    intro names
    induction names with
    | nil => intro acc f _ _; rfl
    | cons p r ih =>
      intro acc f hf h
      obtain ⟨x, k⟩ := p
      rw [List.forIn_cons, hf]
      unfold closOf
      cases e : k == NameKind.free with
      | false =>
        simp only [e, Bool.false_eq_true, if_false]
        exact ih acc f hf fun p hp => h p (List.mem_cons_of_mem _ hp)
      | true =>
        simp only [e, if_true]
        obtain ⟨c, hc⟩ := h (x, k) List.mem_cons_self (beq_iff_eq.mp e)
        have : cellOf env x = pure c := by unfold cellOf; rw [hc]
        rw [this, hc]
        exact ih _ f hf fun p hp => h p (List.mem_cons_of_mem _ hp)
  unfold closureFor
  exact (congrArg (· >>= fun s => pure s) (key scope.names [] _ (fun _ _ _ => rfl) h)).trans rfl
theorem closOf_acc {env : Env} : ∀ {names : List (Str × NameKind)} {acc : List (Str × Addr)} {x : Str}, x ∉ names.map (·.1) → (closOf env names acc).lookup x = acc.lookup x
  | [], _, _, _ => rfl
  | (y, k) :: r, acc, x, h => by
    simp only [List.map_cons, List.mem_cons, not_or] at h
    unfold closOf
    split
    · rw [closOf_acc h.2, List.lookup_cons]
      have : (x == y) = false := by simpa using h.1
      rw [this]
    · exact closOf_acc h.2
theorem closOf_at {env : Env} : ∀ {names : List (Str × NameKind)} {acc : List (Str × Addr)} {x : Str} {c : Addr}, (names.map (·.1)).Nodup → (x, NameKind.free) ∈ names → env.cells.lookup x = some c → (closOf env names acc).lookup x = some c
  | (y, k) :: r, acc, x, c, nd, h, e => by
    rw [List.map_cons, List.nodup_cons] at nd
    unfold closOf
    rcases List.mem_cons.mp h with h | h
    · cases h
      rw [if_pos (by rfl), closOf_acc nd.1, e]
      simp [List.lookup_cons]
    · split <;> exact closOf_at nd.2 h e
theorem lookup_relabel {env : Env} : ∀ {names : List (Str × NameKind)} {x : Str} {k : NameKind}, names.lookup x = some k → k ≠ .free →
    (names.map fun (n, k) => if (k == NameKind.free && env.scope.kind == .function && env.kindOf n == some .cell) then (n, NameKind.cell) else (n, k)).lookup x = some k
  | (n, k') :: r, x, k, h, hk => by
    show List.lookup x ((if (k' == NameKind.free && env.scope.kind == .function && env.kindOf n == some .cell) = true then (n, NameKind.cell) else (n, k')) :: _) = _
    cases hx : x == n with
    | true =>
      simp only [List.lookup_cons, hx] at h
      cases h
      have : (k' == NameKind.free) = false := by simpa using hk
      simp [List.lookup_cons, hx, this]
    | false =>
      simp only [List.lookup_cons, hx] at h
      split <;> simp only [List.lookup_cons, hx] <;> exact lookup_relabel h hk
theorem lookup_relabel_free {env : Env} : ∀ {names : List (Str × NameKind)} {x : Str}, names.lookup x = some .free →
    (names.map fun (n, k) => if (k == NameKind.free && env.scope.kind == .function && env.kindOf n == some .cell) then (n, NameKind.cell) else (n, k)).lookup x = some .free ∨
    (names.map fun (n, k) => if (k == NameKind.free && env.scope.kind == .function && env.kindOf n == some .cell) then (n, NameKind.cell) else (n, k)).lookup x = some .cell
  | (n, k') :: r, x, h => by
    show List.lookup x ((if (k' == NameKind.free && env.scope.kind == .function && env.kindOf n == some .cell) = true then (n, NameKind.cell) else (n, k')) :: _) = _ ∨ List.lookup x ((if (k' == NameKind.free && env.scope.kind == .function && env.kindOf n == some .cell) = true then (n, NameKind.cell) else (n, k')) :: _) = _
    cases hx : x == n with
    | true =>
      simp only [List.lookup_cons, hx] at h
      cases h
      split
      · exact .inr (by simp [List.lookup_cons, hx])
      · exact .inl (by simp [List.lookup_cons, hx])
    | false =>
      simp only [List.lookup_cons, hx] at h
      split <;> simp only [List.lookup_cons, hx] <;> exact lookup_relabel_free h

/-- what is asked of a comprehension's names: to be decided -/
structure CmOk (nm nm' : Names) : Prop where
  nodup : (nm'.map (·.1)).Nodup
  plain : ∀ p ∈ nm', (p.1 == ("__debug__" : Str)) = false ∧ (p.1 == ("__classdict__" : Str)) = false
  outer : ∀ p ∈ nm', p.2 = .free → nm.lookup p.1 = some .cell ∨ nm.lookup p.1 = some .free
/-- the names' values in a comprehension -/
structure RhoC (nm : Names) (ρ : Rho) (nm' : Names) (ρ' : Rho) : Prop where
  at_ : ∀ (i k : Nat) (d : D), ρ'[i]? = some (some (k, d)) → k = 0 ∧ ∃ (x : Str) (j : Nat) (kd : NameKind), nm'[i]? = some (x, .free) ∧ nm[j]? = some (x, kd) ∧ (kd = .cell ∨ kd = .free) ∧ ρ[j]? = some (some (0, d))

theorem newEnv_comp {A : Around} {C : Cx} {scope : Scope} {globals : Addr} {cl : List (Str × Addr)} {qual : Str} {env : Env} {s : Shared} {Q : Env → Shared → Prop}
    (h : ∀ h', (∀ b o, s.heap.get? b = some o → h'.get? b = some o) → h'.Ns s.heap.objs.size (fun _ => none) →
      (∀ x c, (x, NameKind.cell) ∈ scope.names → (scope.names.map (·.1)).Nodup → (cellsFrom (s.heap.objs.size + 1) scope.names cl).lookup x = some c → h'.IsCell c none) →
      Q { scope := scope, locals := s.heap.objs.size, globals := globals, cells := cellsFrom (s.heap.objs.size + 1) scope.names cl, qual := qual, func := none, code := env.code, frame := env.frame, builtins := env.builtins } { s with heap := h' }) :
    Wp C A (newFunctionEnv scope globals cl [] qual none .none (some env)) Q s := by
  simp only [newFunctionEnv, Option.isSome_some, if_true]
  refine wpAny_bind (wpAny_alloc ?_)
  refine wpAny_bind (wpAny_layCells _ (fun name kind cells => by cases hkc : kind == NameKind.cell <;> simp [hkc]) _ _ _ _ ?_)
  rw [show ({ s with heap := s.heap.push { cls := .type "dict", data := .dict #[] } } : Shared).heap.objs.size = s.heap.objs.size + 1 from Heap.size_push ..]
  refine wpAny_bind (wpAny_pure (wpAny_pure (h _ (fun b o e => pushCells_keeps _ _ b o (Heap.get?_push_of_some _ e)) ((Heap.Ns.new s.heap (.type "dict")).keeps (pushCells_keeps _ _)) fun x c hx nd hc => ?_)))
  have key : ∀ (names : List (Str × NameKind)) (H : Heap) (acc : List (Str × Addr)), (x, NameKind.cell) ∈ names → (names.map (·.1)).Nodup → (cellsFrom H.objs.size names acc).lookup x = some c → (pushCells H names).IsCell c none := by
    intro names
    induction names with
    | nil => intro H acc h; cases h
    | cons p r ih =>
      intro H acc hm nd e
      obtain ⟨y, k⟩ := p
      rw [List.map_cons, List.nodup_cons] at nd
      unfold pushCells
      unfold cellsFrom at e
      rcases List.mem_cons.mp hm with hm | hm
      · cases hm
        rw [if_pos (by rfl), cellsFrom_off (fun m => nd.1 (List.mem_map.mpr ⟨_, m, rfl⟩))] at e
        rw [if_pos (by rfl)]
        simp [List.lookup_cons] at e
        subst e
        exact ⟨_, pushCells_keeps _ _ _ _ (Heap.get?_push_size _ rfl), rfl⟩
      · split at e
        · rename_i hk
          rw [if_pos hk]
          exact ih _ _ hm nd.2 (by rw [Heap.size_push]; exact e)
        · rename_i hk
          rw [if_neg hk]
          exact ih _ _ hm nd.2 e
  refine key scope.names _ cl hx nd ?_
  rw [Heap.size_push]; exact hc
end Mine
end
section
open PySem PySem.W PyProof.Rows PySem.Calls PySem.Spec
set_option maxRecDepth 100000
namespace Mine

theorem cellsFrom_inj : ∀ {names : List (Str × NameKind)} {n : Nat} {acc : List (Str × Addr)} {x y : Str} {c : Addr}, (names.map (·.1)).Nodup → (x, NameKind.cell) ∈ names → (y, NameKind.cell) ∈ names → (cellsFrom n names acc).lookup x = some c → (cellsFrom n names acc).lookup y = some c → y = x
  | (z, k) :: r, n, acc, x, y, c, nd, hx, hy, ex, ey => by
    rw [List.map_cons, List.nodup_cons] at nd
    have off : (z, NameKind.cell) ∉ r := fun m => nd.1 (List.mem_map.mpr ⟨_, m, rfl⟩)
    unfold cellsFrom at ex ey
    rcases List.mem_cons.mp hx with e1 | e1 <;> rcases List.mem_cons.mp hy with e2 | e2
    · cases e1; cases e2; rfl
    · cases e1
      rw [if_pos (by rfl)] at ex ey
      rw [cellsFrom_off off] at ex
      simp [List.lookup_cons] at ex
      have := cellsFrom_ge e2 nd.2 ey
      exact absurd ex (Nat.ne_of_lt this)
    · cases e2
      rw [if_pos (by rfl)] at ex ey
      rw [cellsFrom_off off] at ey
      simp [List.lookup_cons] at ey
      have := cellsFrom_ge e1 nd.2 ex
      exact absurd ey (Nat.ne_of_lt this)
    · split at ex
      · rename_i hk; rw [if_pos hk] at ey; exact cellsFrom_inj nd.2 e1 e2 ex ey
      · rename_i hk; rw [if_neg hk] at ey; exact cellsFrom_inj nd.2 e1 e2 ex ey
theorem closOf_mem {env : Env} : ∀ {names : List (Str × NameKind)} {acc : List (Str × Addr)} {x : Str} {c : Addr}, (closOf env names acc).lookup x = some c → acc.lookup x = some c ∨ ((x, NameKind.free) ∈ names ∧ c = (env.cells.lookup x).getD 0)
  | [], _, _, _, h => .inl h
  | (y, k) :: r, acc, x, c, h => by
    unfold closOf at h
    split at h
    · rename_i hk
      rcases closOf_mem h with h | ⟨a, b⟩
      · rw [List.lookup_cons] at h
        cases e : x == y with
        | false => rw [e] at h; exact .inl h
        | true =>
          rw [e] at h; cases h
          rw [beq_iff_eq] at e hk
          subst e; subst hk
          exact .inr ⟨List.mem_cons_self, rfl⟩
      · exact .inr ⟨List.mem_cons_of_mem _ a, b⟩
    · rcases closOf_mem h with h | ⟨a, b⟩
      · exact .inl h
      · exact .inr ⟨List.mem_cons_of_mem _ a, b⟩

section
variable {C : Cx} {nm nm' : Names} {ρ ρ' : Rho} {env : Env} {X : List Addr} {s s₃ : Shared}
noncomputable abbrev envC (scope : Scope) (env : Env) (L : Addr) : Env :=
  { scope := relabel scope env, locals := L, globals := env.globals, cells := cellsFrom (L + 1) scope.names (closOf env scope.names []), qual := env.qual, func := none, code := env.code, frame := env.frame, builtins := env.builtins }
theorem envC_ok {scope : Scope} (ok : EnvOk nm env) (cm : CmOk nm nm') (hsc : scope.names = nm') (hk : scope.kind = .function) (L : Addr) : EnvOk nm' (envC scope env L) := by
  subst hsc
  have off : ∀ x k k', scope.names.lookup x = some k → (x, k') ∈ scope.names → k' = k := fun x k k' e m => by
    obtain ⟨i, hi⟩ := List.getElem?_of_mem m
    have := lookup_at cm.nodup hi
    rw [e] at this; cases this; rfl
  exact ⟨hk, ok.globals, ok.builtins, cm.nodup, cm.plain, fun x e => lookup_relabel e (by decide), fun x e => lookup_relabel e (by decide), fun x e => lookup_relabel_free e, fun x e => lookup_relabel e (by decide), fun x e => by
    rcases e with e | e
    · exact lookup_cellsFrom (mem_of_lookup e)
    · obtain ⟨c, hc⟩ := ok.has x (cm.outer _ (mem_of_lookup e) rfl)
      exact ⟨c, (cellsFrom_off (fun m => nomatch (off x _ _ e m))).trans (closOf_at cm.nodup (mem_of_lookup e) hc)⟩⟩
theorem Frm.beginC {scope : Scope} (p : Pre C nm env X ρ s) (ok : EnvOk nm env) (k : Kp s s₃) (cm : CmOk nm nm') (rc : RhoC nm ρ nm' ρ') (hsc : scope.names = nm') {W : List Addr} (hW : ∀ b ∈ W, s.heap.get? b = none) (hWl : ∀ b ∈ W, ∃ o, s₃.heap.get? b = some o)
    {h' : Heap} (hk : ∀ b o, s₃.heap.get? b = some o → h'.get? b = some o) (hns : h'.Ns s₃.heap.objs.size (fun _ => none))
    (hcl : ∀ x c, (x, NameKind.cell) ∈ scope.names → (scope.names.map (·.1)).Nodup → (envC scope env s₃.heap.objs.size).cells.lookup x = some c → h'.IsCell c none) :
    ∃ M, (∀ b ∈ M, s₃.heap.get? b = none) ∧ s₃.heap.objs.size ∈ M ∧ Frm C nm' (envC scope env s₃.heap.objs.size) s [] (W ++ X) M (fun _ => []) ρ' { s₃ with heap := h' } := by
  subst hsc
  have uniq : ∀ x k k', scope.names.lookup x = some k → (x, k') ∈ scope.names → k' = k := fun x k k' e m => by
    obtain ⟨i, hi⟩ := List.getElem?_of_mem m
    have := lookup_at cm.nodup hi
    rw [e] at this; cases this; rfl
  have kk : Kp s { s₃ with heap := h' } := kTrans k (kHeap (t := s₃.toks) hk (Nat.le_refl _))
  have fresh : ∀ b, s₃.heap.objs.size ≤ b → s₃.heap.get? b = none := fun b hb => by
    cases e : s₃.heap.get? b with
    | none => rfl
    | some o => exact absurd (Heap.lt_size e) (Nat.not_lt.mpr hb)
  have hfree : ∀ x, scope.names.lookup x = some .free → ∃ c, env.cells.lookup x = some c ∧ (envC scope env s₃.heap.objs.size).cells.lookup x = some c ∧ ∃ o, s.heap.get? c = some o := fun x e => by
    have ho := cm.outer _ (mem_of_lookup e) rfl
    obtain ⟨c, hc⟩ := ok.has x ho
    exact ⟨c, hc, (cellsFrom_off (fun m => nomatch (uniq x _ _ e m))).trans (closOf_at cm.nodup (mem_of_lookup e) hc), p.lc x c ho hc⟩
  have below : ∀ x c, (x, NameKind.cell) ∉ scope.names → (envC scope env s₃.heap.objs.size).cells.lookup x = some c → ∃ o, s.heap.get? c = some o := fun x c hx e => by
    rw [show (envC scope env s₃.heap.objs.size).cells.lookup x = _ from cellsFrom_off hx] at e
    rcases closOf_mem e with h | ⟨hm, _⟩
    · cases h
    · obtain ⟨i, hi⟩ := List.getElem?_of_mem hm
      obtain ⟨c', _, e', r⟩ := hfree x (lookup_at cm.nodup hi)
      rw [show (envC scope env s₃.heap.objs.size).cells.lookup x = _ from cellsFrom_off hx] at e'
      rw [e] at e'; cases e'; exact r
  let M := s₃.heap.objs.size :: scope.names.filterMap (fun p => if p.2 = .cell then (envC scope env s₃.heap.objs.size).cells.lookup p.1 else none)
  have hMge : ∀ b ∈ M, s₃.heap.objs.size ≤ b := fun b m => by
    rcases List.mem_cons.mp m with rfl | m
    · exact Nat.le_refl _
    · obtain ⟨q, hq, e⟩ := List.mem_filterMap.mp m
      split at e
      · rename_i h
        have hq' : (q.1, NameKind.cell) ∈ scope.names := by rw [← h]; exact hq
        have := cellsFrom_ge hq' cm.nodup e
        omega
      · cases e
  have hMnew : ∀ b ∈ M, s₃.heap.get? b = none := fun b m => fresh b (hMge b m)
  have hlt : ∀ c o, s.heap.get? c = some o → c ∉ M := fun c o e m => by
    have := hMnew c m; rw [kGet k c o e] at this; cases this
  refine ⟨M, hMnew, List.mem_cons_self, { kp := .of kk, gr := ⟨fun b o e => kGet kk b o (p.gr.old b o e), fun a m => ?_, Nat.le_trans p.gr.toks kk.2⟩, new := fun b m _ => ?_, off := fun b m => ?_, dis := fun b m hX => ?_, loc := List.mem_cons_self, ns := ⟨_, hns⟩, cel := fun y hy => ?_, one := fun y z c hy hc hc' => ?_, fre := fun y c hy hc => ?_, vars := fun i k d e => ?_, ownM := fun _ _ m => (by cases m), ownL := fun _ m => (by cases m), ownC := fun _ _ _ _ _ m => (by cases m), apart := fun _ _ _ _ m => (by cases m), nodup := fun _ => List.nodup_nil, mv := fun _ m => nomatch m }⟩
  · rcases List.mem_append.mp m with m | m
    · rcases List.mem_cons.mp m with rfl | m
      · obtain ⟨o, _, _, e, _⟩ := hns; exact ⟨o, e⟩
      · obtain ⟨q, hq, e⟩ := List.mem_filterMap.mp m
        split at e
        · rename_i h
          obtain ⟨o, e', _⟩ := hcl q.1 a (by rw [← h]; exact hq) cm.nodup e
          exact ⟨o, e'⟩
        · cases e
    · rcases List.mem_append.mp m with m | m
      · obtain ⟨o, e⟩ := hWl a m; exact ⟨o, hk a o e⟩
      · obtain ⟨o, e⟩ := p.gr.live a m; exact ⟨o, kGet kk a o e⟩
  · cases e : s.heap.get? b with
    | none => rfl
    | some o => exact absurd m (hlt b o e)
  · cases e : C.h₀.get? b with
    | none => rfl
    | some o => exact absurd m (hlt b o (p.gr.old b o e))
  · rcases List.mem_append.mp hX with hX | hX
    · obtain ⟨o, e⟩ := hWl b hX; rw [hMnew b m] at e; cases e
    · obtain ⟨o, e⟩ := p.gr.live b hX; exact hlt b o e m
  · obtain ⟨c, hc⟩ := lookup_cellsFrom (n := s₃.heap.objs.size + 1) (acc := closOf env scope.names []) (mem_of_lookup hy)
    refine ⟨c, none, hc, hcl y c (mem_of_lookup hy) cm.nodup hc, List.mem_cons_of_mem _ (List.mem_filterMap.mpr ⟨(y, .cell), mem_of_lookup hy, ?_⟩)⟩
    rw [if_pos rfl]; exact hc
  · by_cases hz : (z, NameKind.cell) ∈ scope.names
    · exact cellsFrom_inj cm.nodup (mem_of_lookup hy) hz hc hc'
    · obtain ⟨o, e⟩ := below z c hz hc'
      have h1 := cellsFrom_ge (mem_of_lookup hy) cm.nodup hc
      have h2 := Heap.lt_size (kGet k c o e)
      exact absurd h2 (Nat.not_lt.mpr (Nat.le_of_succ_le h1))
  · obtain ⟨c', _, e', o, eo⟩ := hfree y hy
    have hc2 : (envC scope env s₃.heap.objs.size).cells.lookup y = some c := hc
    rw [e'] at hc2; cases hc2
    exact ⟨hlt c o eo, o, kGet kk c o eo⟩
  · obtain ⟨rfl, x, j, kd, h1, h2, h3, h4⟩ := rc.at_ i k d e
    obtain ⟨y, kd', v, T, a1, a2, a3⟩ := p.vars j 0 d h4
    rw [h2] at a1; cases a1
    have hx := lookup_at cm.nodup h1
    obtain ⟨c', q1, q2, _⟩ := hfree x hx
    refine ⟨x, .free, v, h1, ?_, .sh (a3.zero.1.keep ⟨fun b o _ e => kGet kk b o e, fun b o e m => ?_⟩)⟩
    · have cellv : ∀ {c}, env.cells.lookup x = some c → s.heap.IsCell c (some v) → VarAt (envC scope env s₃.heap.objs.size) h' x .free v := fun hc hcv => by
        rw [q1] at hc; cases hc
        exact .free q2 (hcv.keeps (kGet kk))
      rcases h3 with rfl | rfl
      · cases a2 with | cell u v => exact cellv u v
      · cases a2 with | free u v => exact cellv u v
    · rcases List.mem_append.mp m with m | m
      · exact absurd m (hlt b o e)
      · rcases List.mem_append.mp m with m | m
        · rw [hW b m] at e; cases e
        · exact m
end

/-- the tests of a comprehension -/
inductive Tsts (C : Cx) (n : Nat) (nm : Names) (ρ : Rho) : List Expr → Bool → Prop
  | nil : Tsts C n nm ρ [] true
  | one {c : Expr} {b : Bool} : Tst C n nm ρ c b → Tsts C n nm ρ [c] b
theorem Tsts.run {C : Cx} {n : Nat} {nm : Names} {ρ : Rho} {ifs : List Expr} {b : Bool} (h : Tsts C n nm ρ ifs b) {A : Around} {env : Env} {X : List Addr} {s : Shared} (o : Ok n A) (ok : EnvOk nm env) (p : Pre C nm env X ρ s) :
    Wp C A (forIn ifs true fun c r => if r = true then do let ok ← isTrue c env (eval c env); pure (ForInStep.yield ok) else pure (ForInStep.yield r)) (GivesB b s) s := by
  cases h with
  | nil => exact wpAny_tests_nil ⟨kRefl _, rfl⟩
  | one h => exact wpAny_tests_one (h.go A env X s o ok p)

/-- the turns of a comprehension -/
inductive CLoop (C : Cx) (n : Nat) (nm : Names) (ifs : List Expr) (bind : Nat → Rho → Rho) (N : Nat) (EM : Rho → List D → Prop) (ρ : Rho) : Nat → List D → Prop
  | done : CLoop C n nm ifs bind N EM ρ N []
  | turn {i : Nat} {ds ds' : List D} : i < N → Tsts C n nm (bind i ρ) ifs true → EM (bind i ρ) ds → CLoop C n nm ifs bind N EM ρ (i + 1) ds' → CLoop C n nm ifs bind N EM ρ i (ds ++ ds')
  | skip {i : Nat} {ds' : List D} : i < N → Tsts C n nm (bind i ρ) ifs false → CLoop C n nm ifs bind N EM ρ (i + 1) ds' → CLoop C n nm ifs bind N EM ρ i ds'
noncomputable def Acc (C : Cx) (X : List Addr) (l : Addr) (ds : List D) (s : Shared) : Prop := ∃ vs m, s.heap.get? l = some (listO vs m) ∧ RepL C X s.heap vs ds
noncomputable def EmitOk (C : Cx) (A : Around) (nm : Names) (env : Env) (s : Shared) (l : Addr) (ρ : Rho) (em : Sem Unit) (ds : List D) : Prop :=
  ∀ Xc M T s' outs, Frm C nm env s [] Xc M T ρ s' → l ∈ Xc → outs.length + ds.length ≤ 100000 → Acc C (M ++ Xc) l outs s' →
    Wp C A em (fun _ s'' => ∃ T', Frm C nm env s [] Xc M T' ρ s'' ∧ Acc C (M ++ Xc) l (outs ++ ds) s'' ∧ KpB (l :: M) s' s'') s'
theorem KpB.mono {Mv Mv' : List Addr} {s s' : Shared} (k : KpB Mv s s') (h : ∀ b ∈ Mv, b ∈ Mv') : KpB Mv' s s' := ⟨k.1, k.2.1, fun b o hb e => k.2.2 b o (fun m => hb (h b m)) e⟩
theorem Acc.keep {C : Cx} {X X' : List Addr} {l : Addr} {ds : List D} {s s' : Shared} (a : Acc C X l ds s) (k : Keep X X' s.heap s'.heap) (hl : ∀ o, s.heap.get? l = some o → s'.heap.get? l = some o) : Acc C X' l ds s' :=
  let ⟨vs, m, e, r⟩ := a; ⟨vs, m, hl _ e, r.keep k⟩

theorem cloop_core {C : Cx} {n : Nat} {A : Around} {nm : Names} {env : Env} {tgt iter : Expr} {ifs : List Expr} {elt : Expr} {gens : List Comprehension} {scope : Scope} {pos : Pos} {d : Nat} {I l : Addr} {wr Xd M : List Addr} {N : Nat} {bind : Nat → Rho → Rho} {Ph : Nat → List Addr → Heap → Prop} {EM : Rho → List D → Prop} {ρ : Rho} {em : Sem Unit} {s s' : Shared} {T : Nat → List Addr} {i : Nat} {ds outs : List D} {R : Result → Shared → Prop}
    (hturn : compTurn (.ListComp elt gens scope pos) d (.ref I) (.ref l) env = (do
      standAt iter.pos
      match ← pyNext (.ref I) with
      | none => pure (.done .next)
      | some v =>
        letOwnedTupleGo tgt (.ref I) v
        PySem.assign tgt env v
        let mut ok := true
        for c in ifs do
          if ok then ok ← isTrue c env (eval c env)
        if ok then em
        again (.compLoop (.ListComp elt gens scope pos) d (.ref I) (.ref l) env)))
    (W : Trn C A nm tgt I wr N bind Ph) (ok : EnvOk nm env) (oo : Ok n A) (lb : ∀ i, i < N → Less ρ (bind i ρ)) (hem : ∀ ρ₁ ds, EM ρ₁ ds → EmitOk C A nm env s l ρ₁ em ds) (apt : Apt C nm env s wr (wr ++ Xd)) (hXd : ∀ b ∈ Xd, ∃ o, s'.heap.get? b = some o) (hwd : ∀ b ∈ wr, b ∉ Xd) (hl : l ∈ Xd)
    (run : CLoop C n nm ifs bind N EM ρ i ds) (hi : i ≤ N) (f : Frm C nm env s [] (wr ++ Xd) M T ρ s') (ph : Ph i (M ++ (wr ++ Xd)) s'.heap) (acc : Acc C (M ++ (wr ++ Xd)) l outs s') (hz : outs.length + ds.length ≤ 100000)
    (hR : ∀ s'' T', Frm C nm env s [] Xd M T' ρ s'' → Acc C (M ++ Xd) l (outs ++ ds) s'' → KpB (wr ++ l :: M) s' s'' → R (.ok .next) s'') :
    codeAny (model C.prog C.w) A (.compLoop (.ListComp elt gens scope pos) d (.ref I) (.ref l) env) R s' := by
  have hlw : l ∉ wr := fun m => hwd l m hl
  have hlX : l ∈ wr ++ Xd := List.mem_append.mpr (.inr hl)
  refine codeAny_loop rfl (fun k st => ∃ j ds' outs' T', k = N + 1 - j ∧ j ≤ N ∧ CLoop C n nm ifs bind N EM ρ j ds' ∧ outs' ++ ds' = outs ++ ds ∧ Frm C nm env s [] (wr ++ Xd) M T' ρ st ∧ Ph j (M ++ (wr ++ Xd)) st.heap ∧ Acc C (M ++ (wr ++ Xd)) l outs' st ∧ KpB (wr ++ l :: M) s' st) ?_ (N + 1 - i)
    ⟨i, ds, outs, T, rfl, hi, run, rfl, f, ph, acc, .refl _⟩
  rintro _ st ⟨j, ds', outs', T', rfl, hj, rn, hcat, f', ph', acc', kst⟩
  show wpAny _ A ((compTurn (.ListComp elt gens scope pos) d (.ref I) (.ref l) env).onRaise (fun x => do noteFrame x env; theTreesLotGoes x)) _ _ st
  refine wpAny_noted ?_
  rw [hturn]
  have hlen : outs'.length + ds'.length = outs.length + ds.length := by rw [← List.length_append, hcat, List.length_append]
  have head : ∀ {Q : Fin → Shared → Prop}, j < N → (∀ s₂ T₂, Frm C nm env s [] (wr ++ Xd) M T₂ (bind j ρ) s₂ → Ph (j + 1) (M ++ (wr ++ Xd)) s₂.heap → KpB (wr ++ M) st s₂ →
      wpAny (model C.prog C.w) A (forIn ifs true fun c r => if r = true then do let ok ← isTrue c env (eval c env); pure (ForInStep.yield ok) else pure (ForInStep.yield r)) (fun b s₃ => wpAny (model C.prog C.w) A (if b = true then em >>= fun _ => again (.compLoop (.ListComp elt gens scope pos) d (.ref I) (.ref l) env) else again (.compLoop (.ListComp elt gens scope pos) d (.ref I) (.ref l) env)) Q (notedBy (model C.prog C.w) A env fun e s' => R (.error e) s') s₃) (notedBy (model C.prog C.w) A env fun e s' => R (.error e) s') s₂) →
      wpAny (model C.prog C.w) A (do
      standAt iter.pos
      match ← pyNext (.ref I) with
      | none => pure (.done .next)
      | some v =>
        letOwnedTupleGo tgt (.ref I) v
        PySem.assign tgt env v
        let mut ok := true
        for c in ifs do
          if ok then ok ← isTrue c env (eval c env)
        if ok then em
        again (.compLoop (.ListComp elt gens scope pos) d (.ref I) (.ref l) env)) Q (notedBy (model C.prog C.w) A env fun e s' => R (.error e) s') st := fun {Q} hlt h => by
    refine wpAny_bind (wpAny_standAt (wpAny_bind (wpAny_mono (W.turn env s [] (wr ++ Xd) M T' ρ st j _ ok f' apt hlt ph' h) (fun r s₁ h₁ => ?_) fun _ _ x => x.elim)))
    obtain ⟨v, rfl, h₁⟩ := h₁
    refine wpAny_bind (wpAny_mono h₁ (fun _ s₂ h₂ => wpAny_bind (wpAny_mono h₂ (fun _ s₃ h₃ => ?_) fun _ _ x => x.elim)) fun _ _ x => x.elim)
    exact wpAny_bind h₃
  have stayK : ∀ {s₂ s₃ : Shared} {T₂ : Nat → List Addr} {ρ₂ : Rho}, Frm C nm env s [] (wr ++ Xd) M T₂ ρ₂ s₂ → Ph (j + 1) (M ++ (wr ++ Xd)) s₂.heap → KpB (l :: M) s₂ s₃ → Ph (j + 1) (M ++ (wr ++ Xd)) s₃.heap := fun {s₂ s₃ T₂ ρ₂} f₂ ph₂ k₂ =>
    W.stay _ _ _ _ _ ph₂ ⟨fun b o hb e => k₂.get b o (fun m => by
        rcases List.mem_cons.mp m with rfl | m
        · exact hb (List.mem_append.mpr (.inr hlX))
        · exact hb (List.mem_append.mpr (.inl m))) e, fun _ _ _ m => m⟩ (fun b hb o e => k₂.get b o (fun m => by
        rcases List.mem_cons.mp m with rfl | m
        · exact hlw hb
        · exact f₂.dis b m (apt.sub b hb)) e) fun b hb => by simp [hb]
  cases rn with
  | done =>
    refine wpAny_bind (wpAny_standAt (wpAny_bind (wpAny_mono (W.done _ _ (fun r s₁ => r = none ∧ Touch wr st s₁) ph' fun s₁ t => ⟨rfl, t⟩) (fun r s₁ h => ?_) fun _ _ x => x.elim)))
    obtain ⟨rfl, t⟩ := h
    refine wpAny_pure (hR s₁ T' (f'.touchY ok t apt.sub apt.new apt.off (fun b hb => List.mem_append.mpr (.inr hb)) (fun b hb hx => absurd hx (hwd b hb)) apt.fre) ?_ ?_)
    · rw [← hcat, List.append_nil]
      refine acc'.keep ⟨fun b o hb e => t.but b o (fun m => hb (by simp [m])) e, fun b o _ m => ?_⟩ fun o e => t.but l o hlw e
      rcases List.mem_append.mp m with m | m <;> simp [m]
    · exact kst.trans ((t.kpB (M := [])).mono fun b hb => by
        rw [List.append_nil] at hb
        exact List.mem_append.mpr (.inl hb))
  | @turn _ ds₁ ds₂ hlt ts em₁ rest =>
    refine head hlt fun s₂ T₂ f₂ ph₂ k₂ => wpAny_mono (ts.run oo ok f₂.pre) (fun b s₃ g => ?_) fun _ _ x => x.elim
    obtain ⟨g1, rfl⟩ := g
    simp only [if_true]
    have f₃ := f₂.keeps g1
    have ph₃ := stayK f₂ ph₂ (KpB.of g1)
    have acc₃ : Acc C (M ++ (wr ++ Xd)) l outs' s₃ := (acc'.keep (s' := s₂) ⟨fun b o hb e => k₂.get b o (fun m => hb (by rcases List.mem_append.mp m with m | m <;> simp [m])) e, fun _ _ _ m => m⟩ fun o e => k₂.get l o (fun m => by
      rcases List.mem_append.mp m with m | m
      · exact hlw m
      · exact f₂.dis l m hlX) e).keep (.all (kGet g1)) fun o e => kGet g1 l o e
    rw [List.length_append] at hlen
    refine wpAny_bind (wpAny_mono (hem _ _ em₁ (wr ++ Xd) M T₂ s₃ outs' f₃ hlX (by omega) acc₃) (fun _ s₄ h₄ => ?_) fun _ _ x => x.elim)
    obtain ⟨T₄, f₄, acc₄, k₄⟩ := h₄
    refine wpAny_pure ⟨rfl, N + 1 - (j + 1), by omega, j + 1, ds₂, outs' ++ ds₁, T₄, rfl, hlt, rest, by rw [List.append_assoc, hcat], f₄.less (lb j hlt), stayK f₃ ph₃ k₄, acc₄, ?_⟩
    exact (kst.trans (k₂.mono fun b hb => by rcases List.mem_append.mp hb with m | m <;> simp [m])).trans ((KpB.of g1).trans (k₄.mono fun b hb => by rcases List.mem_cons.mp hb with rfl | m <;> simp [*]))
  | skip hlt ts rest =>
    refine head hlt fun s₂ T₂ f₂ ph₂ k₂ => wpAny_mono (ts.run oo ok f₂.pre) (fun b s₃ g => ?_) fun _ _ x => x.elim
    obtain ⟨g1, rfl⟩ := g
    simp only [Bool.false_eq_true, if_false]
    refine wpAny_pure ⟨rfl, N + 1 - (j + 1), by omega, j + 1, ds', outs', T₂, rfl, hlt, rest, hcat, (f₂.keeps g1).less (lb j hlt), stayK f₂ ph₂ (KpB.of g1), ?_, ?_⟩
    · exact (acc'.keep (s' := s₂) ⟨fun b o hb e => k₂.get b o (fun m => hb (by rcases List.mem_append.mp m with m | m <;> simp [m])) e, fun _ _ _ m => m⟩ fun o e => k₂.get l o (fun m => by
        rcases List.mem_append.mp m with m | m
        · exact hlw m
        · exact f₂.dis l m hlX) e).keep (.all (kGet g1)) fun o e => kGet g1 l o e
    · exact (kst.trans (k₂.mono fun b hb => by rcases List.mem_append.mp hb with m | m <;> simp [m])).trans (.of g1)
end Mine
end
section
open PySem PySem.W PyProof.Rows PySem.Calls PySem.Spec
set_option maxRecDepth 100000
namespace Mine

/-- what the list that is being made must be off -/
structure NewL (C : Cx) (nm : Names) (env : Env) (s : Shared) (l : Addr) : Prop where
  new : s.heap.get? l = none
  off : C.h₀.get? l = none
  fre : ∀ x c, nm.lookup x = some .free → env.cells.lookup x = some c → c ≠ l
/-- what a turn gives: one value -/
noncomputable def EM1 (C : Cx) (n : Nat) (nm : Names) (elt : Expr) (ρ : Rho) (ds : List D) : Prop := ∃ d, ds = [d] ∧ Ev C n nm ρ elt 0 d
noncomputable def em1 (elt : Expr) (env : Env) (l : Addr) : Sem Unit := do let _ ← call (.builtin "list.append") [.ref l, ← eval elt env]
theorem emit1 {C : Cx} {n : Nat} {nm : Names} {elt : Expr} (env : Env) (A : Around) (l : Addr) (s : Shared) (oo : Ok n A) (ok : EnvOk nm env) (nl : NewL C nm env s l) (ρ : Rho) (ds : List D) (h : EM1 C n nm elt ρ ds) : EmitOk C A nm env s l ρ (em1 elt env l) ds := by
  obtain ⟨d, rfl, h⟩ := h
  intro Xc M T s' outs f hl hz acc
  unfold em1
  refine wpAny_bind (h.then0 oo ok f.pre fun v s₁ k p r => ?_)
  obtain ⟨vs, m, e, rl⟩ := acc
  have e1 := kGet k _ _ e
  have f1 := f.keeps k
  refine wpAny_bind (wpAny_list_append_plain ⟨m, e1⟩ (fun h' pl sb => wpAny_pure ?_) (by simp only [sizeLine, List.size_toArray]; rw [rl.length]; omega))
  obtain ⟨m', e2⟩ := pl
  have t : Touch [l] s₁ { s₁ with heap := h' } := .of (t := s₁.toks) (Nat.le_refl _) fun b o hb e => (sb.2 b (by simpa using hb)).trans e
  have K := t.keep (X := M ++ Xc) fun b hb => by simp at hb; subst hb; exact List.mem_append.mpr (.inr hl)
  have e3 : h'.get? l = some (listO (vs ++ [v]) m') := by rw [e2]; simp [listO]
  refine ⟨T, f1.touchY ok t (fun b hb => by simp at hb; subst hb; exact hl) (fun b hb => by simp at hb; subst hb; exact nl.new) (fun b hb => by simp at hb; subst hb; exact nl.off) (fun _ m => m) (fun b hb _ => by simp at hb; subst hb; exact ⟨_, e3⟩) (fun x c a b hb => nl.fre x c a b (by simpa using hb)), ⟨_, m', e3, ?_⟩, ?_⟩
  · exact ((rl.keep (.all (kGet k))).keep K).append (.cons (r.keep K) .nil)
  · exact (KpB.of k).trans ((t.kpB (M := M)).mono fun b hb => by simpa using hb)

section
variable {C : Cx} {n : Nat} {nm nm' : Names} {ρ ρ' : Rho}
theorem comp_core {A : Around} {env : Env} {X : List Addr} {s : Shared} {elt tgt iter : Expr} {ifs : List Expr} {rest : List Comprehension} {scope : Scope} {pos pos' : Pos} {use : Option (Value → Sem Unit)} {Q : Value → Shared → Prop} {N : Nat} {bind : Nat → Rho → Rho} {EM : Rho → List D → Prop} {em : Env → Addr → Sem Unit} {ds : List D}
    (hturn : ∀ env I l, compTurn (.ListComp elt (⟨tgt, iter, ifs, 0⟩ :: rest) scope pos) 0 (.ref I) (.ref l) env = (do
      standAt iter.pos
      match ← pyNext (.ref I) with
      | none => pure (.done .next)
      | some v =>
        letOwnedTupleGo tgt (.ref I) v
        PySem.assign tgt env v
        let mut ok := true
        for c in ifs do
          if ok then ok ← isTrue c env (eval c env)
        if ok then em env l
        again (.compLoop (.ListComp elt (⟨tgt, iter, ifs, 0⟩ :: rest) scope pos) 0 (.ref I) (.ref l) env)))
    (hem : ∀ (env : Env) (A : Around) (l : Addr) (s : Shared), Ok n A → EnvOk nm' env → NewL C nm' env s l → ∀ ρ₁ ds, EM ρ₁ ds → EmitOk C A nm' env s l ρ₁ (em env l) ds)
    (oo : Ok n A) (ok : EnvOk nm env) (p : Pre C nm env X ρ s) (cm : CmOk nm nm') (rc : RhoC nm ρ nm' ρ') (hsc : scope.names = nm') (hkind : scope.kind = .function) (src : Src C n nm ρ iter nm' tgt N bind) (lb : ∀ i, i < N → Less ρ' (bind i ρ'))
    (run : CLoop C n nm' ifs bind N EM ρ' 0 ds) (hz : ds.length ≤ 100000) (hs : ∀ x, foldedSetIterable iter env x = pure x)
    (hQ : ∀ s' l Cc m vs, Kp s s' → s.heap.get? l = none → s.heap.get? Cc = none → l ≠ Cc → s'.heap.get? l = some (listO vs m) → RepL C (l :: Cc :: X) s'.heap vs ds → (∃ mm, s'.heap.Ns Cc mm) → compPost (model C.prog C.w) A NoE use Q (.ref l) Cc (.ok .next) s') :
    Wp C A (comprehension (.ListComp elt (⟨tgt, iter, ifs, 0⟩ :: rest) scope pos) scope env pos' (newList []) false (eval iter env) use) Q s := by
  have hout : ∀ q ∈ scope.names, q.2 = .free → ∃ c, env.cells.lookup q.1 = some c := fun q hq e => ok.has q.1 (cm.outer q (hsc ▸ hq) e)
  refine wpAny_comprehension_free rfl hs (closureFor_eq hout) hkind (fun q hq e => ?_) (wp_mono (src.go A env X s oo ok p) fun xv s₁ h₁ => wp_mono h₁ fun it s₂ h => ?_)
  · obtain ⟨i, hi⟩ := List.getElem?_of_mem hq
    have := lookup_at (by rw [hsc]; exact cm.nodup) (x := q.1) (k := q.2) hi
    rw [this, e]
  obtain ⟨k, I, wr, Ph, rfl, hn, W, ph⟩ := h
  refine wpAny_newObj_type ?_
  have k3 : Kp s₂ { s₂ with heap := s₂.heap.push (listO [] 0) } := kPush (t := s₂.toks) _ (Nat.le_refl _)
  have ks := kTrans k k3
  have hl2 : s₂.heap.get? s₂.heap.objs.size = none := by
    cases e : s₂.heap.get? s₂.heap.objs.size with
    | none => rfl
    | some o => exact absurd (Heap.lt_size e) (Nat.lt_irrefl _)
  have hl : s.heap.get? s₂.heap.objs.size = none := by
    cases e : s.heap.get? s₂.heap.objs.size with
    | none => rfl
    | some o => have := kGet k _ _ e; rw [hl2] at this; cases this
  have hlnew : (s₂.heap.push (listO [] 0)).get? s₂.heap.objs.size = some (listO [] 0) := Heap.get?_push_size _ rfl
  generalize hl' : s₂.heap.objs.size = l at hl2 hl hlnew ⊢
  refine newEnv_comp (env := env) fun h' hk hns hcl => ?_
  have hlw : l ∉ wr := fun m => by obtain ⟨o, e⟩ := W.live _ _ _ ph l m; rw [hl2] at e; cases e
  have hwl : ∀ b ∈ wr ++ [l], ∃ o, (s₂.heap.push (listO [] 0)).get? b = some o := fun b hb => by
    rcases List.mem_append.mp hb with m | m
    · obtain ⟨o, e⟩ := W.live _ _ _ ph b m; exact ⟨o, kGet k3 b o e⟩
    · simp at m; subst m; exact ⟨_, hlnew⟩
  have hwn : ∀ b ∈ wr ++ [l], s.heap.get? b = none := fun b hb => by
    rcases List.mem_append.mp hb with m | m
    · exact hn b m
    · simp at m; subst m; exact hl
  obtain ⟨M, hMn, hLM, f⟩ := Frm.beginC (s₃ := { s₂ with heap := s₂.heap.push (listO [] 0) }) p ok ks cm rc hsc hwn hwl hk hns hcl
  have ok' := envC_ok ok cm hsc hkind (s₂.heap.push (listO [] 0)).objs.size
  rw [List.append_assoc] at f
  have hoff : ∀ b, s.heap.get? b = none → C.h₀.get? b = none := fun b hb => by
    cases e : C.h₀.get? b with
    | none => rfl
    | some o => have := p.gr.old b o e; rw [hb] at this; cases this
  have hfre : ∀ b, s.heap.get? b = none → ∀ x c, nm'.lookup x = some .free → (envC scope env (s₂.heap.push (listO [] 0)).objs.size).cells.lookup x = some c → c ≠ b := fun b hb x c hx hc e => by
    have hm := mem_of_lookup hx
    obtain ⟨c', hc'⟩ := ok.has x (cm.outer _ hm rfl)
    obtain ⟨o, eo⟩ := p.lc x c' (cm.outer _ hm rfl) hc'
    have h1 : (envC scope env (s₂.heap.push (listO [] 0)).objs.size).cells.lookup x = some c' := by
      show (cellsFrom _ scope.names (closOf env scope.names [])).lookup x = _
      rw [hsc]
      refine (cellsFrom_off fun m => ?_).trans (closOf_at cm.nodup hm hc')
      obtain ⟨i, hi⟩ := List.getElem?_of_mem m
      have := lookup_at cm.nodup hi
      rw [hx] at this; cases this
    rw [h1] at hc; cases hc
    rw [e, hb] at eo; cases eo
  have apt : Apt C nm' (envC scope env (s₂.heap.push (listO [] 0)).objs.size) s wr (wr ++ ([l] ++ X)) := ⟨fun b hb => List.mem_append.mpr (.inl hb), hn, fun b hb => hoff b (hn b hb), fun x c hx hc m => hfre c (hn c m) x c hx hc rfl⟩
  have nl : NewL C nm' (envC scope env (s₂.heap.push (listO [] 0)).objs.size) s l := ⟨hl, hoff l hl, hfre l hl⟩
  have ph2 : Ph 0 (M ++ (wr ++ ([l] ++ X))) h' := W.stay _ _ _ _ _ ph ⟨fun b o _ e => hk b o (kGet k3 b o e), fun b o e m => by
      rcases List.mem_append.mp m with m | m
      · have := kGet k3 b o e; rw [hMn b m] at this; cases this
      · rcases List.mem_append.mp m with m | m
        · exact List.mem_append.mpr (.inl m)
        · rcases List.mem_append.mp m with m | m
          · simp at m; subst m; rw [hl2] at e; cases e
          · exact List.mem_append.mpr (.inr m)⟩ (fun b _ o e => hk b o (kGet k3 b o e)) fun b hb => List.mem_append.mpr (.inr (List.mem_append.mpr (.inl hb)))
  have loop : codeAny (model C.prog C.w) A (.compLoop (.ListComp elt (⟨tgt, iter, ifs, 0⟩ :: rest) scope pos) 0 (.ref I) (.ref l) (envC scope env (s₂.heap.push (listO [] 0)).objs.size)) (compPost (model C.prog C.w) A NoE use Q (.ref l) (s₂.heap.push (listO [] 0)).objs.size) { s₂ with heap := h' } := by
    refine cloop_core (outs := []) (hturn _ _ _) W ok' oo lb (hem _ A l s oo ok' nl) apt (fun b hb => ?_) (fun b hb m => ?_) (List.mem_append.mpr (.inl (by simp))) run (Nat.zero_le _) f ph2 ⟨[], 0, hk _ _ hlnew, .nil⟩ (by simpa using hz) fun s'' T' f'' acc _ => ?_
    · exact f.gr.live b (List.mem_append.mpr (.inr (List.mem_append.mpr (.inr hb))))
    · rcases List.mem_append.mp m with m | m
      · simp at m; subst m; exact hlw hb
      · obtain ⟨o, e⟩ := p.gr.live b m; rw [hn b hb] at e; cases e
    · obtain ⟨vs, m, e, r⟩ := acc
      refine hQ s'' l _ m vs f''.kp.to hl ?_ ?_ e (r.keep ⟨fun _ _ _ e => e, fun b _ _ m => ?_⟩) f''.ns
      · exact f''.new _ f''.loc (by simp)
      · intro e'
        have h1 := hMn _ hLM
        rw [← e', hlnew] at h1; cases h1
      · rcases List.mem_cons.mp m with rfl | m
        · exact List.mem_append.mpr (.inr (List.mem_append.mpr (.inl (by simp))))
        · rcases List.mem_cons.mp m with rfl | m
          · exact List.mem_append.mpr (.inl f''.loc)
          · exact List.mem_append.mpr (.inr (List.mem_append.mpr (.inr m)))
  refine codeAny_compStart_list loop (wpAny_mono (W.self 0 _ { s₂ with heap := h' } (fun it' s' => it' = .ref I ∧ s' = { s₂ with heap := h' }) ph2 ⟨rfl, rfl⟩) (fun it' s' h => ?_) fun _ _ x => x.elim)
  obtain ⟨rfl, rfl⟩ := h
  exact loop

/-- a comprehension with one for -/
structure Comp1 (C : Cx) (n : Nat) (nm : Names) (ρ : Rho) (elt tgt iter : Expr) (ifs : List Expr) (nm' : Names) (ds : List D) : Prop where
  h : ∃ ρ' N bind, CmOk nm nm' ∧ RhoC nm ρ nm' ρ' ∧ Src C n nm ρ iter nm' tgt N bind ∧ (∀ i, i < N → Less ρ' (bind i ρ')) ∧ CLoop C n nm' ifs bind N (EM1 C n nm' elt) ρ' 0 ds ∧ ds.length ≤ 100000 ∧ (∀ env x, foldedSetIterable iter env x = pure x)
noncomputable abbrev fnScope (nm : Names) : Scope := { kind := .function, names := nm, isGenerator := false, isCoroutine := false }
theorem comp1_run {A : Around} {env : Env} {X : List Addr} {s : Shared} {elt tgt iter : Expr} {ifs : List Expr} {pos pos' : Pos} {use : Option (Value → Sem Unit)} {Q : Value → Shared → Prop} {ds : List D} (c : Comp1 C n nm ρ elt tgt iter ifs nm' ds) (oo : Ok n A) (ok : EnvOk nm env) (p : Pre C nm env X ρ s)
    (hQ : ∀ s' l Cc m vs, Kp s s' → s.heap.get? l = none → s.heap.get? Cc = none → l ≠ Cc → s'.heap.get? l = some (listO vs m) → RepL C (l :: Cc :: X) s'.heap vs ds → (∃ mm, s'.heap.Ns Cc mm) → compPost (model C.prog C.w) A NoE use Q (.ref l) Cc (.ok .next) s') :
    Wp C A (comprehension (.ListComp elt [⟨tgt, iter, ifs, 0⟩] (fnScope nm') pos) (fnScope nm') env pos' (newList []) false (eval iter env) use) Q s := by
  obtain ⟨ρ', N, bind, cm, rc, src, lb, run, hz, hs⟩ := c.h
  exact comp_core (em := em1 elt) (fun env I l => compTurn_list elt tgt iter ifs _ pos (.ref I) (.ref l) env) emit1 oo ok p cm rc rfl rfl src lb run hz (hs env) hQ
theorem Frm.compDone {s s' : Shared} {X : List Addr} {l Cc : Addr} {m : Nat} {vs : List Value} {ds : List D} (k : Kp s s') (hl : s.heap.get? l = none) (hC : s.heap.get? Cc = none) (hne : l ≠ Cc) (e : s'.heap.get? l = some (listO vs m)) (r : RepL C (l :: Cc :: X) s'.heap vs ds) {h' : Heap} (sb : Heap.SameBut Cc s'.heap h') :
    Kp s { s' with heap := h' } ∧ h'.get? l = some (listO vs m) ∧ RepL C ([l] ++ X) h' vs ds := by
  refine ⟨?_, (sb.2 l hne).trans e, r.keep ⟨fun b o hb e => (sb.2 b (fun h => hb (by simp [h]))).trans e, fun b _ _ m => by
    rcases List.mem_append.mp m with m | m
    · simp at m; simp [m]
    · simp [m]⟩⟩
  obtain ⟨⟨h, t, rfl, kk⟩, lt⟩ := k
  exact ⟨⟨h', t, rfl, fun b o e => (sb.2 b (fun h => by rw [h, hC] at e; cases e)).trans (kk b o e)⟩, lt⟩
theorem Ev.comp {elt tgt iter : Expr} {ifs : List Expr} {pos : Pos} {ds : List D} (c : Comp1 C n nm ρ elt tgt iter ifs nm' ds) : Ev C n nm ρ (.ListComp elt [⟨tgt, iter, ifs, 0⟩] (fnScope nm') pos) 0 (.list ds) := .mk fun A env X s oo ok p => by
  rw [eval_ListComp]
  refine comp1_run c oo ok p fun s' l Cc m vs k hl hC hne e r hns => ?_
  obtain ⟨mm, hns⟩ := hns
  refine ⟨mm, hns, fun h' sb => ?_⟩
  obtain ⟨k', e', r'⟩ := Frm.compDone k hl hC hne e r sb
  refine .mk k' (.list (fun m => ?_) e' (r'.keep ⟨fun _ _ _ e => e, fun b _ _ m => by simp [m]⟩))
  obtain ⟨o, e⟩ := p.gr.live l m
  rw [hl] at e; cases e
theorem swaps_true {elt : Expr} {gens : List Comprehension} {pos px : Pos} {y : Str} {line : Nat} {env : Env} (ok : EnvOk nm env) (hy : nm.lookup y = some .local) (hl : (px.line == pos.line) = true) (hn : (nm'.any fun q => q.1 == y && (q.2 == .local || q.2 == .cell)) = false) :
    swapsWith (.ListComp elt gens (fnScope nm') pos) (some (.Name y px)) line env = pure true := by
  unfold swapsWith
  have h1 : (env.blockKind == ScopeKind.function) = true := by rw [show env.blockKind = env.scope.kind from by unfold Env.blockKind; rw [ok.kind]; rfl, ok.kind]; rfl
  have h2 : (env.kindOf y == some NameKind.local) = true := by rw [ok.loc y hy]; rfl
  show (pure (env.blockKind == .function && env.kindOf y == some .local && px.line == pos.line && !(nm'.any fun (n, k) => n == y && (k == .local || k == .cell))) : Sem Bool) = pure true
  rw [h1, h2, hl]
  show (pure (!(nm'.any fun q => q.1 == y && (q.2 == .local || q.2 == .cell))) : Sem Bool) = pure true
  rw [hn]; rfl
/-- x = [..] in one row -/
theorem Ex1.assignComp (i : Nat) {x : Str} {px pos cpos : Pos} {elt tgt iter : Expr} {ifs : List Expr} {ds : List D} (hi : nm[i]? = some (x, .local)) (c : Comp1 C n nm ρ elt tgt iter ifs nm' ds) (hline : (px.line == cpos.line) = true := by rfl) (hn : (nm'.any fun q => q.1 == x && (q.2 == .local || q.2 == .cell)) = false := by decide +kernel) :
    Ex1 C n nm ρ (.Assign [.Name x px] (.ListComp elt [⟨tgt, iter, ifs, 0⟩] (fnScope nm') cpos) pos) (.next (ρ.set i (some (0, .list ds)))) := .mk fun A env s₀ Mv Xc M T s oo ok f => by
  rw [exec_Assign_Name_used _ _ _ _ (swaps_true ok (lookup_at ok.nodup hi) hline hn)]
  refine wpAny_bind (wpAny_standAt (wpAny_bind ?_))
  show wpAny _ A (do let _ ← comprehension (.ListComp elt [⟨tgt, iter, ifs, 0⟩] (fnScope nm') cpos) (fnScope nm') env _ (newList []) false (eval iter env) (some (PySem.assign (.Name x px) env))) _ _ s
  refine wpAny_bind (wp_mono (comp1_run (use := some (PySem.assign (.Name x px) env)) (Q := fun _ s' => OutOk C nm env s₀ Mv Xc (.next (ρ.set i (some (0, .list ds)))) .next s') c oo ok f.pre fun s' l Cc m vs k hl hC hne e r hns => ?_) fun _ s' h => wpAny_pure (wpAny_pure h))
  have f1 := f.rebase
  have hCl : ∃ o, s'.heap.get? Cc = some o := by obtain ⟨_, o, _, _, e, _⟩ := hns; exact ⟨o, e⟩
  have f2 := f1.growX k (N := [Cc]) (fun b hb => by simp at hb; subst hb; exact hC) (fun b hb => by simp at hb; subst hb; exact hCl)
  have hoff : C.h₀.get? Cc = none := by
    cases e : C.h₀.get? Cc with
    | none => rfl
    | some o => have := f.gr.old Cc o e; rw [hC] at this; cases this
  have hlv : ∀ b, b ∈ M ++ ([Cc] ++ Xc) → b ≠ l := fun b m h => by
    subst h
    rcases List.mem_append.mp m with m | m
    · obtain ⟨o, e⟩ := f.gr.live b (List.mem_append.mpr (.inl m)); rw [hl] at e; cases e
    · rcases List.mem_append.mp m with m | m
      · simp at m; exact hne m
      · obtain ⟨o, e⟩ := f.gr.live b (List.mem_append.mpr (.inr m)); rw [hl] at e; cases e
  show wpAny _ A (PySem.assign (.Name x px) env (.ref l)) _ _ _
  refine wpAny_assign_Name (f2.store ok hi (.inl rfl) (.sh (.list (fun m => hlv l m rfl) e (r.keep ⟨fun _ _ _ e => e, fun b _ _ m => ?_⟩))) (.inl rfl) fun s'' f3 ⟨a, ha, cc⟩ => ?_)
  · rcases List.mem_append.mp m with m | m
    · simp [m]
    · rcases List.mem_append.mp m with m | m
      · simp at m; simp [m]
      · simp [m]
  · obtain ⟨mm, hns⟩ := hns
    have hCM : Cc ∉ M := fun m => f2.dis Cc m (List.mem_append.mpr (.inl (by simp)))
    refine ⟨mm, hns.at' fun o e => cc.but Cc (fun h => hCM (h ▸ ha)) o e, fun h' sb => ?_⟩
    have t : Touch [Cc] s'' { s'' with heap := h' } := .of (t := s''.toks) (Nat.le_refl _) fun b o hb e => (sb.2 b (by simpa using hb)).trans e
    have f4 := f3.touchY (Xd := Xc) ok t (fun b hb => List.mem_append.mpr (.inl hb)) (fun b hb => by simp at hb; subst hb; exact hC) (fun b hb => by simp at hb; subst hb; exact hoff) (fun b hb => List.mem_append.mpr (.inr hb)) (fun b hb hx => by
      simp at hb; subst hb
      obtain ⟨o, e⟩ := f.gr.live b (List.mem_append.mpr (.inr hx)); rw [hC] at e; cases e) (fun y c hy hc hb => by
      simp at hb; subst hb
      obtain ⟨_, o, e⟩ := f.fre y c hy hc; rw [hC] at e; cases e)
    exact ⟨rfl, _, _, f.unbase f4⟩
end
end Mine
end
section
open PySem PySem.W PyProof.Rows PySem.Calls PySem.Spec
set_option maxRecDepth 100000
namespace Mine
section
variable {C : Cx} {n : Nat} {nm : Names} {ρ : Rho} {A : Around} {env : Env} {X : List Addr} {s : Shared}
theorem Evs.plain {es : List Expr} {ds : List D} (h : Evs C n nm ρ es ds) (env : Env) (pos : Pos) : (backTo pos (starEach es env)).any (·.1) = false := by
  induction h with
  | nil => rfl
  | cons h he r ih => rw [he env]; exact ih
/-- a call of a built-in function by its name -/
theorem bcall {x : Str} {id : String} {px pos : Pos} {e : Expr} {es : List Expr} {ds : List D} {Q : Value → Shared → Prop} (i : Nat) (hi : nm[i]? = some (x, .globalImplicit)) (hK : nsIn C.K mainGlobals x = some none) (hb : bootBuiltins x = some (.builtin id)) (hn : x ≠ "__name__") (hd : (x == ("__debug__" : Str)) = false)
    (h : Evs C n nm ρ (e :: es) ds) (o : Ok n A) (ok : EnvOk nm env) (p : Pre C nm env X ρ s) (hq : ∀ vs s', Kp s s' → Pre C nm env X ρ s' → RepL C X s'.heap vs ds → Wp C A (call (.builtin id) vs) Q s') : Wp C A (eval (.Call (.Name x px) (e :: es) [] pos) env) Q s := by
  have hp := h.plain env pos
  have hrun := h.run (pos := pos) A env X s o ok p
  refine Call_Name rfl (load_boot ok p (lookup_at ok.nodup hi) hK hb hn ?_ hd px)
  cases h with
  | @cons _ _ d₁ ds₁ h he rest =>
    rw [he env] at hp hrun ⊢
    exact callWith_builtin hp (evalArgs_plain (wp_mono hrun fun vs s' ⟨k, r⟩ => hq vs s' k (p.keeps k) r))
theorem tcall {x : Str} {T : String} {px pos : Pos} {e : Expr} {es : List Expr} {ds : List D} {Q : Value → Shared → Prop} (i : Nat) (hi : nm[i]? = some (x, .globalImplicit)) (hK : nsIn C.K mainGlobals x = some none) (hb : bootBuiltins x = some (.type T)) (hn : x ≠ "__name__") (hd : (x == ("__debug__" : Str)) = false)
    (h : Evs C n nm ρ (e :: es) ds) (o : Ok n A) (ok : EnvOk nm env) (p : Pre C nm env X ρ s) (hq : ∀ vs s', Kp s s' → Pre C nm env X ρ s' → RepL C X s'.heap vs ds → Wp C A (call (.type T) vs) Q s') : Wp C A (eval (.Call (.Name x px) (e :: es) [] pos) env) Q s := by
  have hp := h.plain env pos
  have hrun := h.run (pos := pos) A env X s o ok p
  refine Call_Name rfl (load_boot ok p (lookup_at ok.nodup hi) hK hb hn ?_ hd px)
  cases h with
  | @cons _ _ d₁ ds₁ h he rest =>
    rw [he env] at hp hrun ⊢
    exact PySem.callWith_type hp (evalArgs_plain (wp_mono hrun fun vs s' ⟨k, r⟩ => hq vs s' k (p.keeps k) r))
theorem Evs.one {e : Expr} {d : D} (h : Ev C n nm ρ e 0 d) (he : ∀ env : Env, starEach [e] env = [(false, eval e env)] := by exact n1_all rfl) : Evs C n nm ρ [e] [d] := .cons h he .nil
theorem Evs.two {e e' : Expr} {d d' : D} (h : Ev C n nm ρ e 0 d) (h' : Ev C n nm ρ e' 0 d') (he : ∀ env : Env, starEach [e, e'] env = (false, eval e env) :: starEach [e'] env := by exact ns_all rfl) (he' : ∀ env : Env, starEach [e'] env = [(false, eval e' env)] := by exact n1_all rfl) : Evs C n nm ρ [e, e'] [d, d'] := .cons h he (.one h' he')
end

theorem boot_len : bootBuiltins "len" = some (.builtin "len") := by kernel_rfl
theorem boot_sum : bootBuiltins "sum" = some (.builtin "sum") := by kernel_rfl
theorem boot_range : bootBuiltins "range" = some (.type "range") := by kernel_rfl
theorem boot_list : bootBuiltins "list" = some (.type "list") := by kernel_rfl
theorem boot_enumerate : bootBuiltins "enumerate" = some (.type "enumerate") := by kernel_rfl
theorem boot_zip : bootBuiltins "zip" = some (.type "zip") := by kernel_rfl

section
variable {C : Cx} {n : Nat} {nm : Names} {ρ : Rho}
theorem Ev.len_str {px pos : Pos} {e : Expr} {x : Str} (i : Nat) (hi : nm[i]? = some (("len" : Str), NameKind.globalImplicit)) (hK : nsIn C.K mainGlobals ("len" : Str) = some Option.none) (h : Ev C n nm ρ e 0 (.str x)) (hx : x.length ≤ 1000000) (he : ∀ env : Env, starEach [e] env = [(false, eval e env)] := by exact n1_all rfl) :
    Ev C n nm ρ (.Call (.Name "len" px) [e] [] pos) 0 (.int x.length) := .mk fun A env X s o ok p =>
  wp_up (bcall i hi hK boot_len (by decide) (by decide) (.one h he) o ok p fun vs s' k p' r => by
    obtain ⟨_, rfl, a⟩ := r.inv1
    obtain ⟨_, rfl, _⟩ := a.invS
    exact P.len_str (by omega) fun l => .mk ⟨(kTrans k (kToks (by omega))).1, l⟩ (.int _ _))
theorem Ev.len_list {px pos : Pos} {e : Expr} {ds : List D} (i : Nat) (hi : nm[i]? = some (("len" : Str), NameKind.globalImplicit)) (hK : nsIn C.K mainGlobals ("len" : Str) = some Option.none) (h : Ev C n nm ρ e 0 (.list ds)) (hx : ds.length ≤ 1000000) (he : ∀ env : Env, starEach [e] env = [(false, eval e env)] := by exact n1_all rfl) :
    Ev C n nm ρ (.Call (.Name "len" px) [e] [] pos) 0 (.int ds.length) := .mk fun A env X s o ok p =>
  bcall i hi hK boot_len (by decide) (by decide) (.one h he) o ok p fun vs s' k p' r => by
    obtain ⟨_, rfl, a⟩ := r.inv1
    obtain ⟨l, vs, m, rfl, ha, e, rl⟩ := a.invL
    refine Calls.call_len_list (listO_isList e) (by simp; rw [rl.length]; omega) ?_
    have : (vs.toArray.size : Int) = (ds.length : Int) := by rw [List.size_toArray, rl.length]
    rw [this]
    exact .mk (kTrans k (kToks (by omega))) (.int _ _)

noncomputable def isum : List D → Int
  | [] => 0
  | .int i :: r => i + isum r
  | _ :: r => isum r
noncomputable def allInt : List D → Bool
  | [] => true
  | .int _ :: r => allInt r
  | _ => false
theorem allInt_get : ∀ {ds : List D} {i : Nat} {d : D}, allInt ds = true → ds[i]? = some d → ∃ k, d = .int k
  | [], _, _, _, h => by simp at h
  | d :: r, 0, e, h, he => by
    simp at he; subst he
    cases d <;> first | exact ⟨_, rfl⟩ | (simp [allInt] at h)
  | d :: r, i + 1, e, h, he => by
    cases d <;> first | (simp [allInt] at h; done) | exact allInt_get (ds := r) (by simpa [allInt] using h) (by simpa using he)
noncomputable def intAt (ds : List D) (i : Nat) : Int := match ds[i]? with | some (.int k) => k | _ => 0
theorem preSum_isum : ∀ (ds : List D), allInt ds = true → preSum (intAt ds) ds.length = isum ds := by
  have shift : ∀ (f : Nat → Int) (n : Nat), preSum f (n + 1) = f 0 + preSum (fun i => f (i + 1)) n := by
    intro f n
    induction n with
    | zero => simp [preSum]
    | succ n ih => rw [preSum, ih, preSum, Int.add_assoc]
  intro ds
  induction ds with
  | nil => intro _; rfl
  | cons d r ih =>
    intro h
    cases d with
    | int k =>
      rw [List.length_cons, shift]
      show k + preSum (intAt r) r.length = k + isum r
      rw [ih (by simpa [allInt] using h)]
    | _ => simp [allInt] at h
theorem Ev.sum {px pos : Pos} {e : Expr} {ds : List D} (i : Nat) (hi : nm[i]? = some (("sum" : Str), NameKind.globalImplicit)) (hK : nsIn C.K mainGlobals ("sum" : Str) = some Option.none) (h : Ev C n nm ρ e 0 (.list ds)) (hx : allInt ds = true) (he : ∀ env : Env, starEach [e] env = [(false, eval e env)] := by exact n1_all rfl) :
    Ev C n nm ρ (.Call (.Name "sum" px) [e] [] pos) 0 (.int (isum ds)) := .mk fun A env X s o ok p =>
  wp_up (bcall i hi hK boot_sum (by decide) (by decide) (.one h he) o ok p fun vs s' k p' r => by
    obtain ⟨_, rfl, a⟩ := r.inv1
    obtain ⟨l, vs, m, rfl, ha, e, rl⟩ := a.invL
    have hl := listO_isList e
    have hne : l ≠ s'.heap.objs.size := Nat.ne_of_lt (Heap.lt_size e)
    refine call_sum_walkG (wpAny_pyIter_list hl ?_)
    refine ⟨s'.heap.objs.size, [s'.heap.objs.size, l], [s'.heap.objs.size], vs.toArray.size, _, _, intAt ds, rfl, Walks.list (A := A.in1) o.handled _ l hne vs.toArray, ⟨⟨_, Heap.get?_push_size _ rfl, rfl, rfl⟩, hl.push _⟩, fun b hb => ?_, fun j v hv => ?_, fun h' tk t' hk l => ?_⟩
    · simp at hb
      rw [Heap.size_push]
      rcases hb with rfl | rfl
      · exact Nat.lt_succ_self _
      · exact Nat.lt_succ_of_lt (Heap.lt_size e)
    · obtain ⟨d, hd, rd⟩ := rl.get' (i := j) (v := v) (by simpa using hv)
      obtain ⟨k', rfl⟩ := allInt_get hx hd
      obtain ⟨t, rfl⟩ := rd.invI
      exact ⟨t, by unfold intAt; rw [hd]⟩
    · have : preSum (intAt ds) vs.toArray.size = isum ds := by rw [List.size_toArray, rl.length]; exact preSum_isum ds hx
      rw [this]
      refine .mk ⟨?_, l⟩ (.int _ _)
      obtain ⟨⟨h1, t1, rfl, kk⟩, _⟩ := k
      exact ⟨h', tk, rfl, fun b o e => hk b o (by simpa using Nat.ne_of_lt (Heap.lt_size (kk b o e))) (Heap.get?_push_of_some _ (kk b o e))⟩)
end
end Mine
end
section
open PySem PySem.W PyProof.Rows PySem.Calls PySem.Spec
set_option maxRecDepth 100000
namespace Mine
theorem size_none {h : Heap} {b : Addr} (hb : h.objs.size ≤ b) : h.get? b = none := by
  cases e : h.get? b with
  | none => rfl
  | some o => exact absurd (Heap.lt_size e) (Nat.not_lt.mpr hb)
theorem kNone {s s' : Shared} (k : Kp s s') {b : Addr} (h : s'.heap.get? b = none) : s.heap.get? b = none := by
  cases e : s.heap.get? b with
  | none => rfl
  | some o => have := kGet k b o e; rw [h] at this; cases this
section
variable {C : Cx} {n : Nat} {nm : Names} {ρ : Rho}
theorem Src1.list {e : Expr} {ds : List D} (h : Ev C n nm ρ e 0 (.list ds)) : Src1 C n nm ρ e ds := .mk fun A env X s o ok p =>
  h.then0 o ok p fun v s₁ k p' r => by
    obtain ⟨l, vs, m, rfl, ha, e, rl⟩ := r.invL
    have hl := listO_isList e
    have hne : l ≠ s₁.heap.objs.size := Nat.ne_of_lt (Heap.lt_size e)
    refine wpAny_pyIter_list hl ⟨kTrans k (kPush (t := s₁.toks) _ (Nat.le_refl _)), _, [s₁.heap.objs.size], _, rfl, fun b hb => ?_, Walk1.of (Walks.list o.handled s₁.heap.objs.size l hne vs.toArray) ds (by simp [rl.length]) (fun i h st b hb => ?_), ⟨⟨⟨_, Heap.get?_push_size _ rfl, rfl, rfl⟩, hl.push _⟩, fun b hb => by simp at hb; simp [hb], fun b hb => ?_, fun j u d hu hd => ?_⟩⟩
    · simp at hb; subst hb; exact kNone k (size_none (Nat.le_refl _))
    · simp at hb
      rcases hb with rfl | rfl
      · obtain ⟨o, e, _⟩ := st.1; exact ⟨o, e⟩
      · obtain ⟨o, e, _⟩ := st.2; exact ⟨o, e⟩
    · simp at hb
      rcases hb with rfl | rfl
      · exact .inl (by simp)
      · exact .inr fun m => by
          rcases List.mem_append.mp m with m | m
          · simp at m; exact hne m
          · exact ha m
    · obtain ⟨d', hd', rd⟩ := rl.get' (i := j) (v := u) (by simpa using hu)
      rw [hd] at hd'; cases hd'
      refine rd.keep ⟨fun b o _ e => Heap.get?_push_of_some _ e, fun b o e m => ?_⟩
      rcases List.mem_append.mp m with m | m
      · simp at m; subst m; exact absurd (Heap.lt_size e) (Nat.lt_irrefl _)
      · exact m

noncomputable def rangeD (a c : Int) (n : Nat) : List D := (List.range n).map fun (i : Nat) => .int (a + (i : Int) * c)
theorem src_range {A : Around} {X : List Addr} {s s₁ : Shared} {r : Addr} {a b c : Int} {t u v : Tok} {m : Nat} (o : Ok n A) (k : Kp s s₁) (hr : IsRange s₁.heap r a b c t u v) (hs : Builtin.Range.small a b c = true) (hm : Builtin.Range.rangeSize a b c = m) :
    Wp C A (pyIter (.ref r)) (fun it s₂ => Kp s s₂ ∧ ∃ I wr Ph, it = .ref I ∧ (∀ b ∈ wr, s.heap.get? b = none) ∧ Walk1 C A I wr (rangeD a c m) Ph ∧ Ph 0 (wr ++ X) s₂.heap) s₁ := by
  refine wpAny_pyIter_range hr hs ⟨kTrans k (kPush (t := s₁.toks) _ (Nat.le_refl _)), _, [s₁.heap.objs.size], _, rfl, fun b hb => ?_, Walk1.of (Walks.range o.handled s₁.heap.objs.size a c m) (rangeD a c m) (by simp [rangeD]) (fun i h st b hb => ?_), ⟨?_, fun b hb => by simp at hb; simp [hb], fun b hb => .inl hb, fun j u d hu hd => ?_⟩⟩
  · simp at hb; subst hb; exact kNone k (size_none (Nat.le_refl _))
  · simp at hb; subst hb; exact ⟨_, st⟩
  · have : IsRangeIter (s₁.heap.push { cls := .type "range_iterator", data := .fields #[rawInt a, rawInt (Builtin.Range.rangeSize a b c), rawInt c] }) s₁.heap.objs.size a (Builtin.Range.rangeSize a b c) c := Heap.get?_push_size _ rfl
    simpa [hm] using this
  · obtain ⟨t, rfl⟩ := hu
    unfold rangeD at hd
    rw [List.getElem?_map] at hd
    cases e : (List.range m)[j]? with
    | none => rw [e] at hd; cases hd
    | some j' =>
      rw [e] at hd; cases hd
      have := List.getElem?_eq_some_iff.mp e
      obtain ⟨h1, h2⟩ := this
      simp at h2; subst h2
      exact .int _ _
theorem rangeSize_nat {a b : Int} (h : a ≤ b) : Builtin.Range.rangeSize a b 1 = ((b - a).toNat : Int) := by
  rw [rangeSize_one]; split <;> omega
theorem Src1.range1 {px pos : Pos} {e : Expr} {b : Int} (i : Nat) (hi : nm[i]? = some (("range" : Str), NameKind.globalImplicit)) (hK : nsIn C.K mainGlobals ("range" : Str) = some Option.none) (h : Ev C n nm ρ e 0 (.int b)) (h0 : 0 ≤ b) (h1 : b < 1000000) (he : ∀ env : Env, starEach [e] env = [(false, eval e env)] := by exact n1_all rfl) :
    Src1 C n nm ρ (.Call (.Name "range" px) [e] [] pos) (rangeD 0 1 b.toNat) := .mk fun A env X s o ok p =>
  bcallT o ok p
where
  bcallT {A : Around} {env : Env} {X : List Addr} {s : Shared} (o : Ok n A) (ok : EnvOk nm env) (p : Pre C nm env X ρ s) := tcall (Q := fun xv s₁ => Wp C A (pyIter xv) (fun it s₂ => Kp s s₂ ∧ ∃ I wr Ph, it = .ref I ∧ (∀ b ∈ wr, s.heap.get? b = none) ∧ Walk1 C A I wr (rangeD 0 1 b.toNat) Ph ∧ Ph 0 (wr ++ X) s₂.heap) s₁) i hi hK boot_range (by decide) (by decide) (.one h he) o ok p fun vs s' k p' r => by
    obtain ⟨_, rfl, a⟩ := r.inv1
    obtain ⟨u, rfl⟩ := a.invI
    refine call_range_1 (src_range o (kTrans k (kPush _ (by omega))) (IsRange.new ..) (small_one (by omega) (by omega) (by omega) (by omega)) ?_)
    rw [rangeSize_nat h0]; simp
theorem Src1.range2 {px pos : Pos} {e e' : Expr} {a b : Int} (i : Nat) (hi : nm[i]? = some (("range" : Str), NameKind.globalImplicit)) (hK : nsIn C.K mainGlobals ("range" : Str) = some Option.none) (h : Ev C n nm ρ e 0 (.int a)) (h' : Ev C n nm ρ e' 0 (.int b)) (h0 : 0 ≤ a) (h1 : a ≤ b) (h2 : b < 1000000) (he : ∀ env : Env, starEach [e, e'] env = (false, eval e env) :: starEach [e'] env := by exact ns_all rfl) (he' : ∀ env : Env, starEach [e'] env = [(false, eval e' env)] := by exact n1_all rfl) :
    Src1 C n nm ρ (.Call (.Name "range" px) [e, e'] [] pos) (rangeD a 1 (b - a).toNat) := .mk fun A env X s o ok p =>
  tcall (Q := fun xv s₁ => Wp C A (pyIter xv) (fun it s₂ => Kp s s₂ ∧ ∃ I wr Ph, it = .ref I ∧ (∀ b ∈ wr, s.heap.get? b = none) ∧ Walk1 C A I wr (rangeD a 1 (b - a).toNat) Ph ∧ Ph 0 (wr ++ X) s₂.heap) s₁) i hi hK boot_range (by decide) (by decide) (.two h h' he he') o ok p fun vs s' k p' r => by
    obtain ⟨_, _, rfl, ra, rb⟩ := r.inv2
    obtain ⟨u, rfl⟩ := ra.invI
    obtain ⟨u', rfl⟩ := rb.invI
    refine call_range_2 (src_range o (kTrans k (kPush _ (by omega))) (IsRange.new ..) (small_one (by omega) (by omega) (by omega) (by omega)) ?_)
    rw [rangeSize_nat h1]

noncomputable def numD (ds : List D) : List (D × D) := ds.mapIdx fun i d => (.int i, d)
theorem Src2.enumerate {px pos : Pos} {e : Expr} {ds : List D} (i : Nat) (hi : nm[i]? = some (("enumerate" : Str), NameKind.globalImplicit)) (hK : nsIn C.K mainGlobals ("enumerate" : Str) = some Option.none) (h : Ev C n nm ρ e 0 (.list ds)) (he : ∀ env : Env, starEach [e] env = [(false, eval e env)] := by exact n1_all rfl) :
    Src2 C n nm ρ (.Call (.Name "enumerate" px) [e] [] pos) (numD ds) := .mk fun A env X s o ok p =>
  tcall (Q := fun xv s₁ => Wp C A (pyIter xv) (fun it s₂ => Kp s s₂ ∧ ∃ I wr Ph, it = .ref I ∧ (∀ b ∈ wr, s.heap.get? b = none) ∧ Walk2 C A I wr (numD ds) Ph ∧ Ph 0 (wr ++ X) s₂.heap) s₁) i hi hK boot_enumerate (by decide) (by decide) (.one h he) o ok p fun vs s' k p' r => by
    obtain ⟨_, rfl, a⟩ := r.inv1
    obtain ⟨l, vs, m, rfl, ha, e, rl⟩ := a.invL
    refine call_enumerate_1 e fun h' hen hit hsz hk => ?_
    have e' := hk _ _ e
    have hl' : h'.IsList l vs.toArray := listO_isList e'
    have hlt := Heap.lt_size e
    have hle : l ≠ s'.heap.objs.size + 1 := Nat.ne_of_lt (Nat.lt_succ_of_lt hlt)
    have hli : l ≠ s'.heap.objs.size := Nat.ne_of_lt hlt
    have hei : s'.heap.objs.size + 1 ≠ s'.heap.objs.size := Nat.succ_ne_self _
    have kk : Kp s' { s' with heap := h' } := kHeap (t := s'.toks) hk (Nat.le_refl _)
    have newb : ∀ b ∈ [s'.heap.objs.size + 1, s'.heap.objs.size], s'.heap.get? b = none := fun b hb => by
      simp at hb
      rcases hb with rfl | rfl
      · exact size_none (Nat.le_succ _)
      · exact size_none (Nat.le_refl _)
    refine wpAny_pyIter_enum hen ⟨kTrans k kk, _, [s'.heap.objs.size + 1, s'.heap.objs.size], _, rfl, fun b hb => kNone k (newb b hb), Walk2.of (WalksT.enumerate o.handled (s'.heap.objs.size + 1) s'.heap.objs.size l hei hle hli vs.toArray).toU (numD ds) (by simp [numD, rl.length]) (fun i h st b hb => ?_), ⟨⟨⟨_, hen⟩, hit, hl'⟩, fun b hb => List.mem_append.mpr (.inl hb), fun b hb => ?_, fun j us d hu hd => ?_⟩⟩
    · simp at hb
      obtain ⟨⟨old, q1⟩, ⟨o2, q2, _⟩, ⟨o3, q3, _⟩⟩ := st
      rcases hb with rfl | rfl | rfl
      · exact ⟨_, q1⟩
      · exact ⟨_, q2⟩
      · exact ⟨_, q3⟩
    · simp at hb
      rcases hb with rfl | rfl | rfl
      · exact .inl (by simp)
      · exact .inl (by simp)
      · exact .inr fun m => by
          rcases List.mem_append.mp m with m | m
          · simp at m; rcases m with m | m; exact hle m; exact hli m
          · exact ha m
    · obtain ⟨t, x, hx, rfl⟩ := hu
      obtain ⟨d', hd', rd⟩ := rl.get' (i := j) (v := x) (by simpa using hx)
      unfold numD at hd
      rw [List.getElem?_mapIdx, hd'] at hd
      cases hd
      refine ⟨_, _, rfl, .int _ _, rd.keep ⟨fun b o _ e => hk b o e, fun b o e m => ?_⟩⟩
      rcases List.mem_append.mp m with m | m
      · rw [newb b m] at e; cases e
      · exact m
end
end Mine
end
section
open PySem PySem.Sre
set_option maxRecDepth 100000
namespace Mine.Re
noncomputable def code4 : Array Nat := #[14, 8, 1, 2, 4294967295, 1, 1, 46, 0, 16, 46, 24, 9, 1, 4294967295, 13, 4, 8, 0, 0, 1, 6, 5, 1]

/-- the machine at the head of an attempt -/
noncomputable def st (text : Array Nat) (s start : Nat) (out : Bool) (seen : Seen) : M :=
  { code := code4, text, lim := text.size, start, lastStart := text.size, pc := 9, pos := s, handed := s, outermost := out, marks := #[],
    frames := [{ wait := .nextStart, pc := 9, pos := s, outermost := out }], weight := 1, seen }
theorem runFor_succ (n : Nat) (m : M) : M.runFor (n + 1) m = if m.outcome.isSome then m else M.runFor n m.step := rfl
theorem runFor_end {m : M} (h : m.outcome.isSome = true) : ∀ n, M.runFor n m = m
  | 0 => rfl
  | n + 1 => by rw [runFor_succ, h]; rfl
theorem runFor_add : ∀ (a b : Nat) (m : M), M.runFor (a + b) m = M.runFor b (M.runFor a m)
  | 0, b, m => by rw [Nat.zero_add]; rfl
  | a + 1, b, m => by
    rw [Nat.succ_add, runFor_succ, runFor_succ]
    cases h : m.outcome.isSome with
    | true => simp only [if_true]; rw [runFor_end h]
    | false => simp only [Bool.false_eq_true, if_false]; exact runFor_add a b _
theorem runFor_step {m : M} {n : Nat} (h : m.outcome = none) : M.runFor (n + 1) m = M.runFor n m.step := by rw [runFor_succ, h]; rfl

theorem start_small (text : Array Nat) (h : text.size < 2) : (forSearch code4 text 0 0 text.size false).outcome = none ∧ (forSearch code4 text 0 0 text.size false).answer = some false ∧ (forSearch code4 text 0 0 text.size false).frames = [] := by
  unfold forSearch
  have h2 : (0 > text.size || text.size - 0 < (header code4).1) = true := by
    have : (header code4).1 = 2 := rfl
    rw [this]; simp; omega
  simp only [h2, if_true]
  exact ⟨rfl, rfl, rfl⟩
theorem start_big (text : Array Nat) (h : 2 ≤ text.size) : forSearch code4 text 0 0 text.size false = st text 0 0 true (({} : Seen).add 14) := by
  unfold forSearch
  have h2 : (0 > text.size || text.size - 0 < (header code4).1) = false := by
    have : (header code4).1 = 2 := rfl
    rw [this]; simp; omega
  simp only [h2, Bool.false_eq_true, if_false]
  rfl
/-- no dot here: on to the next start -/
theorem no_dot (text : Array Nat) (s start : Nat) (out : Bool) (seen : Seen) (hs : s < text.size) (hd : text.getD s 0 ≠ 46) : ∃ seen', M.runFor 2 (st text s start out seen) = st text (s + 1) (s + 1) false seen' := by
  have e1 : (st text s start out seen).step = { st text s start out seen with seen := seen.add 16, answer := some false } := by
    show M.exec (st text s start out seen) = _
    unfold M.exec
    have : ops[(st text s start out seen).word 0]? = some .LITERAL := rfl
    simp only [this]
    have hlim : ¬ (s ≥ text.size) := by omega
    show (if s ≥ text.size then _ else _) = _
    rw [if_neg hlim]
    have : accepts code4 9 (text.getD s 0) (seen.add 16) = .ok (false, seen.add 16) := by
      show Except.ok (text.getD s 0 == 46, seen.add 16) = _
      rw [show (text.getD s 0 == 46) = false by simpa using hd]
    show (match accepts code4 9 (text.getD s 0) (seen.add 16) with | .error why => _ | .ok (false, seen) => _ | .ok (true, seen) => _) = _
    rw [this]
    rfl
  refine ⟨seen.add 16, ?_⟩
  rw [runFor_step rfl, e1, runFor_step rfl]
  show M.step _ = _
  show (if (false : Bool) = true then _ else if s < text.size then _ else _) = _
  rw [if_neg (by decide), if_pos hs]
  rfl

/-- the digits from p on, at most k -/
noncomputable def dg (text : Array Nat) : Nat → Nat → Nat
  | 0, _ => 0
  | k + 1, p => if isDigit (text.getD p 0) then dg text k (p + 1) + 1 else 0
theorem dg_le (text : Array Nat) : ∀ k p, dg text k p ≤ k
  | 0, _ => Nat.le_refl _
  | k + 1, p => by unfold dg; split; exact Nat.succ_le_succ (dg_le text k _); exact Nat.zero_le _
theorem dg_digit (text : Array Nat) : ∀ k p i, i < dg text k p → isDigit (text.getD (p + i) 0) = true
  | 0, _, i, h => absurd h (Nat.not_lt_zero i)
  | k + 1, p, i, h => by
    unfold dg at h
    split at h
    · rename_i hd
      cases i with
      | zero => exact hd
      | succ i =>
        have := dg_digit text k (p + 1) i (Nat.lt_of_succ_lt_succ h)
        rwa [show p + 1 + i = p + (i + 1) by omega] at this
    · exact absurd h (Nat.not_lt_zero i)
theorem accepts_digit (c : Nat) (seen : Seen) : ∃ seen', accepts code4 15 c seen = .ok (isDigit c, seen') := by
  cases h : isDigit c with
  | true =>
    refine ⟨(seen.add 8).add 55, ?_⟩
    show (do if ← category 0 c then pure (true, (seen.add 8).add (55 + 0)) else inSet code4 c 23 19 true ((seen.add 8).add (55 + 0))) = _
    have : category 0 c = .ok true := by
      unfold category
      show Except.ok (isDigit c != false) = _
      rw [h]; rfl
    rw [this]; rfl
  | false =>
    refine ⟨((seen.add 8).add 55).add 0, ?_⟩
    show (do if ← category 0 c then pure (true, (seen.add 8).add (55 + 0)) else inSet code4 c 23 19 true ((seen.add 8).add (55 + 0))) = _
    have : category 0 c = .ok false := by
      unfold category
      show Except.ok (isDigit c != false) = _
      rw [h]; rfl
    rw [this]; rfl
theorem run_digits (text : Array Nat) : ∀ (k p found : Nat) (seen : Seen), ∃ seen', Sre.run code4 text 15 k p found seen = .ok (found + dg text k p, seen')
  | 0, p, found, seen => ⟨seen, rfl⟩
  | k + 1, p, found, seen => by
    obtain ⟨s1, h1⟩ := accepts_digit (text.getD p 0) seen
    unfold Sre.run dg
    rw [h1]
    cases h : isDigit (text.getD p 0) with
    | true =>
      obtain ⟨s2, h2⟩ := run_digits text k (p + 1) (found + 1) s1
      refine ⟨s2, ?_⟩
      show Sre.run code4 text 15 k (p + 1) (found + 1) s1 = _
      rw [h2]
      simp only [if_true]
      congr 2
      omega
    | false => exact ⟨s1, rfl⟩

/-- after the digits, before the end is asked for -/
noncomputable def gb (text : Array Nat) (s start : Nat) (out : Bool) (seen : Seen) (p : Nat) (c : Int) : M :=
  { code := code4, text, lim := text.size, start, lastStart := text.size, pc := 21, pos := p, handed := p, outermost := out, marks := #[],
    frames := [{ wait := .giveBack, pc := 11, pos := p, outermost := out, count := c }, { wait := .nextStart, pc := 9, pos := s, outermost := out }], weight := 2, seen }
noncomputable def atEnd (text : Array Nat) (p : Nat) : Bool := p == text.size || (p + 1 == text.size && text.getD p 0 == 10)
theorem at_step (text : Array Nat) (s start : Nat) (out : Bool) (seen : Seen) (p : Nat) (c : Int) :
    (gb text s start out seen p c).step = if atEnd text p then { gb text s start out seen p c with seen := (seen.add 6).add 48, pc := 23 } else { gb text s start out seen p c with seen := (seen.add 6).add 48, answer := some false } := by
  show M.exec (gb text s start out seen p c) = _
  unfold M.exec
  have : ops[(gb text s start out seen p c).word 0]? = some .AT := rfl
  simp only [this]
  show (if atEnd text p then _ else _) = _
  cases atEnd text p <;> rfl
theorem gb_yes (text : Array Nat) (s start : Nat) (out : Bool) (seen : Seen) (p : Nat) (c : Int) (h : atEnd text p = true) : (M.runFor 5 (gb text s start out seen p c)).outcome = some .matched := by
  rw [runFor_step rfl, at_step, h]
  simp only [if_true]
  rw [runFor_step rfl]
  have e : M.step { gb text s start out seen p c with seen := (seen.add 6).add 48, pc := 23 } = { gb text s start out seen p c with seen := ((seen.add 6).add 48).add 1, pc := 23, handed := p, answer := some true } := by
    cases out <;> rfl
  rw [e]
  rfl
theorem gb_no (text : Array Nat) (s start : Nat) (out : Bool) (seen : Seen) (p : Nat) (c : Nat) (hs : s < text.size) (h : ∀ i, i ≤ c → atEnd text (p - i) = false) : ∃ k seen', k ≤ 2 * c + 5 ∧ M.runFor k (gb text s start out seen p ((c : Int) + 1)) = st text (s + 1) (s + 1) false seen' := by
  induction c generalizing p seen with
  | zero =>
    refine ⟨3, (seen.add 6).add 48, by omega, ?_⟩
    rw [runFor_step rfl, at_step, show atEnd text p = false from h 0 (Nat.le_refl _)]
    simp only [Bool.false_eq_true, if_false]
    rw [runFor_step rfl]
    have e : M.step { gb text s start out seen p ((0 : Nat) + 1 : Int) with seen := (seen.add 6).add 48, answer := some false } = { st text s start out ((seen.add 6).add 48) with pc := 11, pos := p, handed := p, answer := some false } := by rfl
    rw [e, runFor_step rfl]
    show M.step _ = _
    show (if (false : Bool) = true then _ else if s < text.size then _ else _) = _
    rw [if_neg (by decide), if_pos hs]
    rfl
  | succ c ih =>
    obtain ⟨k, seen', hk, hr⟩ := ih ((seen.add 6).add 48) (p - 1) fun i hi => by
      have := h (i + 1) (by omega)
      rwa [show p - (i + 1) = p - 1 - i by omega] at this
    refine ⟨k + 2, seen', by omega, ?_⟩
    rw [Nat.add_comm, runFor_add]
    rw [← hr]
    congr 1
    rw [runFor_step rfl, at_step, show atEnd text p = false from h 0 (Nat.zero_le _)]
    simp only [Bool.false_eq_true, if_false]
    rw [runFor_step rfl]
    show M.step _ = _
    show (if (false : Bool) = true then _ else if ((((c + 1 : Nat) : Int) + 1) - 1 < ((1 : Nat) : Int)) then _ else _) = _
    rw [if_neg (by decide), if_neg (by omega)]
    have e : (((c + 1 : Nat) : Int) + 1) - 1 = (c : Int) + 1 := by omega
    rw [e]
    rfl

noncomputable def digs (text : Array Nat) (s : Nat) : Nat := dg text (text.size - (s + 1)) (s + 1)
/-- a match begins at s -/
noncomputable def hit (text : Array Nat) (s : Nat) : Bool := text.getD s 0 == 46 && (decide (1 ≤ digs text s) && atEnd text (s + 1 + digs text s))
theorem dot_step (text : Array Nat) (s start : Nat) (out : Bool) (seen : Seen) (hs : s < text.size) (hd : text.getD s 0 = 46) :
    (st text s start out seen).step = { st text s start out seen with seen := seen.add 16, pc := 11, pos := s + 1 } := by
  show M.exec (st text s start out seen) = _
  unfold M.exec
  have : ops[(st text s start out seen).word 0]? = some .LITERAL := rfl
  simp only [this]
  have hlim : ¬ (s ≥ text.size) := by omega
  show (if s ≥ text.size then _ else _) = _
  rw [if_neg hlim]
  have : accepts code4 9 (text.getD s 0) (seen.add 16) = .ok (true, seen.add 16) := by
    show Except.ok (text.getD s 0 == 46, seen.add 16) = _
    rw [show (text.getD s 0 == 46) = true by simpa using hd]
  show (match accepts code4 9 (text.getD s 0) (seen.add 16) with | .error why => _ | .ok (false, seen) => _ | .ok (true, seen) => _) = _
  rw [this]
  rfl
theorem next_start (text : Array Nat) (s start : Nat) (out : Bool) (seen : Seen) (pc pos handed : Nat) (hs : s < text.size) :
    M.step { st text s start out seen with pc := pc, pos := pos, handed := handed, answer := some false } = st text (s + 1) (s + 1) false seen := by
  show (if (false : Bool) = true then _ else if s < text.size then _ else _) = _
  rw [if_neg (by decide), if_pos hs]
  rfl
theorem rep_step (text : Array Nat) (s start : Nat) (out : Bool) (seen : Seen) (hs : s < text.size) (hz : text.size ≤ 1000000) :
    ∃ seen', M.step { st text s start out seen with pc := 11, pos := s + 1 } =
      (if digs text s < 1 then { st text s start out seen' with pc := 11, pos := s + 1, answer := some false } else gb text s start out seen' (s + 1 + digs text s) (digs text s)) := by
  have hexec : M.step { st text s start out seen with pc := 11, pos := s + 1 } = M.exec { st text s start out seen with pc := 11, pos := s + 1 } := rfl
  have hop : ops[M.word { st text s start out seen with pc := 11, pos := s + 1 } 0]? = some .REPEAT_ONE := rfl
  by_cases hroom : s + 1 = text.size
  · refine ⟨seen.add 24, ?_⟩
    have hz : digs text s = 0 := by unfold digs; rw [show text.size - (s + 1) = 0 by omega]; rfl
    rw [hz, if_pos (by decide), hexec]
    unfold M.exec
    simp only [hop]
    show (if ((1 : Nat) : Int) > (text.size : Int) - ((s + 1 : Nat) : Int) then _ else _) = _
    rw [if_pos (by omega)]
    rfl
  · have hmin : min 4294967295 ((text.size : Int) - ((s + 1 : Nat) : Int)).toNat = text.size - (s + 1) := by omega
    obtain ⟨seen', hr⟩ := run_digits text (text.size - (s + 1)) (s + 1) 0 ((seen.add 24).add 13)
    refine ⟨seen', ?_⟩
    rw [hexec]
    unfold M.exec
    simp only [hop]
    show (if ((1 : Nat) : Int) > (text.size : Int) - ((s + 1 : Nat) : Int) then _ else _) = _
    rw [if_neg (by omega)]
    show (match Sre.run code4 text 15 (min 4294967295 ((text.size : Int) - ((s + 1 : Nat) : Int)).toNat) (s + 1) 0 ((seen.add 24).add 13) with | .error why => _ | .ok (n, seen) => _) = _
    rw [hmin, hr, Nat.zero_add]
    show (if dg text (text.size - (s + 1)) (s + 1) < 1 then _ else _) = _
    show _ = if dg text (text.size - (s + 1)) (s + 1) < 1 then _ else _
    split
    · rfl
    · rfl
theorem hit_end (text : Array Nat) (s start : Nat) (out : Bool) (seen : Seen) (hs : s < text.size) (hz : text.size ≤ 1000000) (h : hit text s = true) : (M.runFor 7 (st text s start out seen)).outcome = some .matched := by
  unfold hit at h
  simp only [Bool.and_eq_true, beq_iff_eq, decide_eq_true_eq] at h
  obtain ⟨h1, h2, h3⟩ := h
  rw [show 7 = 1 + (1 + 5) from rfl, runFor_add, runFor_add]
  have e1 : M.runFor 1 (st text s start out seen) = { st text s start out (seen.add 16) with pc := 11, pos := s + 1 } := by
    rw [runFor_step rfl, dot_step text s start out seen hs h1]; rfl
  obtain ⟨seen', e2⟩ := rep_step text s start out (seen.add 16) hs hz
  rw [if_neg (by omega)] at e2
  have e3 : M.runFor 1 { st text s start out (seen.add 16) with pc := 11, pos := s + 1 } = gb text s start out seen' (s + 1 + digs text s) (digs text s) := by
    rw [runFor_step rfl, e2]; rfl
  rw [e1, e3]
  exact gb_yes _ _ _ _ _ _ _ h3
theorem no_hit (text : Array Nat) (s start : Nat) (out : Bool) (seen : Seen) (hs : s < text.size) (hz : text.size ≤ 1000000) (h : hit text s = false) :
    ∃ k seen', k ≤ 2 * text.size + 10 ∧ M.runFor k (st text s start out seen) = st text (s + 1) (s + 1) false seen' := by
  by_cases h1 : text.getD s 0 = 46
  · have e1 : M.runFor 1 (st text s start out seen) = { st text s start out (seen.add 16) with pc := 11, pos := s + 1 } := by
      rw [runFor_step rfl, dot_step text s start out seen hs h1]; rfl
    obtain ⟨seen', e2⟩ := rep_step text s start out (seen.add 16) hs hz
    by_cases h2 : digs text s < 1
    · rw [if_pos h2] at e2
      refine ⟨1 + 2, seen', by omega, ?_⟩
      rw [runFor_add, e1, runFor_step rfl, e2, runFor_step rfl]
      exact next_start text s start out seen' 11 (s + 1) s hs
    · rw [if_neg h2] at e2
      have h3 : atEnd text (s + 1 + digs text s) = false := by
        unfold hit at h
        rw [show (text.getD s 0 == 46) = true by simpa using h1, show decide (1 ≤ digs text s) = true from decide_eq_true (by omega)] at h
        simpa using h
      have hle : digs text s ≤ text.size - (s + 1) := dg_le text _ _
      obtain ⟨k, seen2, hk, hr⟩ := gb_no text s start out seen' (s + 1 + digs text s) (digs text s - 1) hs fun i hi => by
        cases i with
        | zero => exact h3
        | succ i =>
          have hd := dg_digit text (text.size - (s + 1)) (s + 1) (digs text s - (i + 1)) (show _ < digs text s by omega)
          rw [show s + 1 + (digs text s - (i + 1)) = s + 1 + digs text s - (i + 1) by omega] at hd
          unfold atEnd
          have a1 : (s + 1 + digs text s - (i + 1) == text.size) = false := by simp; omega
          have a2 : (text.getD (s + 1 + digs text s - (i + 1)) 0 == 10) = false := by
            cases e : (text.getD (s + 1 + digs text s - (i + 1)) 0 == 10) with
            | false => rfl
            | true =>
              rw [beq_iff_eq] at e
              rw [e] at hd
              exact absurd hd (by decide)
          rw [a1, a2, Bool.and_false]; rfl
      have e4 : ((digs text s - 1 : Nat) : Int) + 1 = (digs text s : Int) := by omega
      rw [e4] at hr
      refine ⟨1 + (1 + k), seen2, by omega, ?_⟩
      rw [runFor_add, e1, runFor_add]
      have e3 : M.runFor 1 { st text s start out (seen.add 16) with pc := 11, pos := s + 1 } = gb text s start out seen' (s + 1 + digs text s) (digs text s) := by
        rw [runFor_step rfl, e2]; rfl
      rw [e3, hr]
  · obtain ⟨seen', e⟩ := no_dot text s start out seen hs h1
    exact ⟨2, seen', by omega, e⟩
theorem last_start (text : Array Nat) (start : Nat) (out : Bool) (seen : Seen) : (M.runFor 3 (st text text.size start out seen)).outcome = some .failed := by
  have e1 : (st text text.size start out seen).step = { st text text.size start out seen with seen := seen.add 16, answer := some false } := by
    show M.exec (st text text.size start out seen) = _
    unfold M.exec
    have : ops[(st text text.size start out seen).word 0]? = some .LITERAL := rfl
    simp only [this]
    show (if text.size ≥ text.size then _ else _) = _
    rw [if_pos (Nat.le_refl _)]
    rfl
  rw [runFor_step rfl, e1, runFor_step rfl]
  have e2 : M.step { st text text.size start out seen with seen := seen.add 16, answer := some false } = { st text text.size start out (seen.add 16) with frames := [], weight := 0, answer := some false } := by
    show (if (false : Bool) = true then _ else if text.size < text.size then _ else _) = _
    rw [if_neg (by decide), if_neg (Nat.lt_irrefl _)]
    rfl
  rw [e2]
  rfl
/-- is there a dot and digits at the end -/
noncomputable def found (text : Array Nat) : Nat → Nat → Bool
  | 0, _ => false
  | k + 1, s => hit text s || found text k (s + 1)
theorem from_start (text : Array Nat) (hz : text.size ≤ 1000000) : ∀ (k s start : Nat) (out : Bool) (seen : Seen), s + k = text.size →
    ∃ N, N ≤ (k + 1) * (2 * text.size + 10) ∧ (M.runFor N (st text s start out seen)).outcome = some (if found text k s then .matched else .failed)
  | 0, s, start, out, seen, h => by
    have : s = text.size := by omega
    subst this
    exact ⟨3, by omega, last_start text start out seen⟩
  | k + 1, s, start, out, seen, h => by
    cases hh : hit text s with
    | true =>
      refine ⟨7, ?_, ?_⟩
      · have : 1 * (2 * text.size + 10) ≤ (k + 1 + 1) * (2 * text.size + 10) := Nat.mul_le_mul_right _ (by omega)
        omega
      · rw [hit_end text s start out seen (by omega) hz hh]
        rw [show found text (k + 1) s = (hit text s || found text k (s + 1)) from rfl, hh]; rfl
    | false =>
      obtain ⟨j, seen', hj, e⟩ := no_hit text s start out seen (by omega) hz hh
      obtain ⟨N, hN, e'⟩ := from_start text hz k (s + 1) (s + 1) false seen' (by omega)
      refine ⟨j + N, ?_, ?_⟩
      · rw [show (k + 1 + 1) * (2 * text.size + 10) = (2 * text.size + 10) + (k + 1) * (2 * text.size + 10) by rw [Nat.add_mul (k + 1) 1, Nat.one_mul, Nat.add_comm]]
        omega
      · rw [runFor_add, e, e']
        rw [show found text (k + 1) s = (hit text s || found text k (s + 1)) from rfl, hh, Bool.false_or]
noncomputable def isNum (text : Array Nat) : Bool := if text.size < 2 then false else found text text.size 0
theorem search_runs (text : Array Nat) (hz : text.size ≤ 1000000) : ∃ N, N ≤ 10000000000000 ∧ (M.runFor N (forSearch code4 text 0 0 text.size false)).outcome = some (if isNum text then .matched else .failed) := by
  unfold isNum
  by_cases h : text.size < 2
  · rw [if_pos h]
    obtain ⟨h1, h2, h3⟩ := start_small text h
    refine ⟨1, by omega, ?_⟩
    rw [runFor_step h1]
    show (M.step _).outcome = _
    unfold M.step
    rw [h1, h2, h3]
    rfl
  · rw [if_neg h, start_big text (by omega)]
    obtain ⟨N, hN, e⟩ := from_start text hz text.size 0 0 true (({} : Seen).add 14) (by omega)
    refine ⟨N, ?_, e⟩
    have : (text.size + 1) * (2 * text.size + 10) ≤ 1000001 * 2000010 := Nat.mul_le_mul (by omega) (by omega)
    omega
end Mine.Re
end
section
open PySem PySem.W PyProof.Rows PySem.Calls PySem.Spec
set_option maxRecDepth 100000
namespace Mine.Re
open PySem.Sre PySem.Builtin.Re
theorem plainAttrs : PlainAttrs "re.Pattern" :=
  ⟨⟨"object.__getattribute__", by rw [typeLookup_type, builtinLookup_eq_fast]; kernel_rfl, by decide +kernel⟩, by rw [typeLookup_type, builtinLookup_eq_fast]; kernel_rfl⟩
theorem slot_search : Slot "re.Pattern" "search" "re.Pattern.search" :=
  .of (owner := "re.Pattern") (n := "search") (by rw [typeLookup_type, builtinLookup_eq_fast]; kernel_rfl) (by decide +kernel) (by decide +kernel) (by decide +kernel)
    (by first | exact .inl (by decide +kernel) | exact .inr (by decide +kernel)) (by rw [isSubtype_type]; kernel_rfl)
theorem type_search : typeOf (.builtin "re.Pattern.search") = pure (.type "method_descriptor") := by show builtinType _ = _; rw [builtinType_eq_fast]; kernel_rfl
theorem entry_search : entryFor table "re.Pattern.search" = some Builtin.«re.Pattern.search» := entryFor_of_tree (by kernel_rfl)
theorem owner_Pattern : Manifest.owners.lookup (String.ofList ['n', 'r', 'e', 't', 't', 'a', 'P', '.', 'e', 'r'].reverse) = some Manifest.sig_re_Pattern := by kernel_rfl
theorem args_search (a b : Value) : argsOk "re.Pattern.search" ⟨[a, b], []⟩ := by
  unfold argsOk; rw [signature?_of (id := "re.Pattern.search") (n := ['h', 'c', 'r', 'a', 'e', 's']) (o := ['n', 'r', 'e', 't', 't', 'a', 'P', '.', 'e', 'r']) (by kernel_rfl) owner_Pattern]; kernel_rfl
theorem noBool_Match : typeLookup (.type "re.Match") "__bool__" = pure none := by rw [typeLookup_type, builtinLookup_eq_fast]; kernel_rfl
theorem noLen_Match : typeLookup (.type "re.Match") "__len__" = pure none := by rw [typeLookup_type, builtinLookup_eq_fast]; kernel_rfl
section
variable {C : Cx} {A : Around} {s : Shared}
theorem truthy_match {a : Addr} {Q : Bool → Shared → Prop} (hT : s.TypeIs (.ref a) "re.Match") (h : Q true s) : Wp C A (truthy (.ref a)) Q s := by
  unfold truthy
  refine wpAny_bind (wpAny_callSpecial?_none (name := Str.ofString "__bool__") hT noBool_Match ?_)
  refine wpAny_bind (wpAny_specialOf (name := Str.ofString "__len__") hT noLen_Match ?_)
  exact wpAny_pure h
theorem drive : ∀ (turns : Nat) (m : Sre.M) (N : Nat) (o : Sre.Outcome) (Q : Sre.M → Shared → Prop), N ≤ 4 * turns → 0 < turns → (M.runFor N m).outcome = some o → (∀ m', m'.outcome = some o → Q m' s) → Wp C A (reDrive turns m) Q s
  | 0, _, _, _, _, _, h, _, _ => absurd h (Nat.lt_irrefl 0)
  | t + 1, m, N, o, Q, hN, _, ho, hq => by
    show Wp C A (if (M.runFor 4 m).outcome.isSome then pure (M.runFor 4 m) else do rule "sre.turn"; reDrive t (M.runFor 4 m)) Q s
    have hsome : (M.runFor N m).outcome.isSome = true := by rw [ho]; rfl
    cases h4 : (M.runFor 4 m).outcome.isSome with
    | true =>
      simp only [if_true]
      refine wpAny_pure (hq _ ?_)
      rcases Nat.le_total 4 N with h | h
      · have e : M.runFor N m = M.runFor 4 m := by
          rw [show N = 4 + (N - 4) by omega, runFor_add, runFor_end h4]
        rw [← e]; exact ho
      · have e : M.runFor 4 m = M.runFor N m := by
          rw [show 4 = N + (4 - N) by omega, runFor_add, runFor_end hsome]
        rw [e]; exact ho
    | false =>
      simp only [Bool.false_eq_true, if_false]
      have h : 4 < N := by
        rcases Nat.lt_or_ge 4 N with h | h
        · exact h
        · have e : M.runFor 4 m = M.runFor N m := by
            rw [show 4 = N + (4 - N) by omega, runFor_add, runFor_end hsome]
          rw [e, hsome] at h4; cases h4
      refine wpAny_bind (wpAny_rule (drive t (M.runFor 4 m) (N - 4) o Q (by omega) (by omega) ?_ hq))
      rw [← runFor_add, show 4 + (N - 4) = N by omega]
      exact ho
theorem say_all (c : Nat → Bool) (g : Nat → String) : ∀ (l : List Nat) (Q : PUnit → Shared → Prop), Q ⟨⟩ s → Wp C A (forIn l PUnit.unit fun i r => if c i = true then do rule (g i); pure (ForInStep.yield PUnit.unit) else pure (ForInStep.yield PUnit.unit)) Q s
  | [], Q, h => wpAny_pure h
  | i :: l, Q, h => by
    rw [List.forIn_cons]
    refine wpAny_bind ?_
    cases c i
    · exact wpAny_pure (say_all c g l Q h)
    · exact wpAny_bind (wpAny_rule (wpAny_pure (say_all c g l Q h)))
theorem runToEnd {m : Sre.M} {N : Nat} {b : Bool} {Q : Option Sre.M → Shared → Prop} (hN : N ≤ 10000000000000) (ho : (M.runFor N m).outcome = some (if b then .matched else .failed)) (hq : if b then ∀ m', Q (some m') s else Q none s) : Wp C A (reRunToEnd m) Q s := by
  unfold reRunToEnd
  refine wpAny_bind (drive (2 ^ 64) m N _ _ (by omega) (by omega) ho fun m' hm' => ?_)
  refine wpAny_bind (say_all (fun i => m'.seen.has i) (fun i => Sre.names.getD i "") _ _ ?_)
  rw [hm']
  cases b with
  | true => exact wpAny_pure (hq m')
  | false => exact wpAny_pure hq

/-- the pattern, as it lies in the ground -/
structure IsPat (h : Heap) (p : Addr) : Prop where
  obj : ∃ o vs q n, h.get? p = some o ∧ o.cls = .type "re.Pattern" ∧ o.dict = none ∧ o.data = .fields vs ∧ vs[5]? = some (.ref q) ∧ vs.getD 5 .none = .ref q ∧ reRawNat (vs.getD 6 .none) = 0 ∧ reRawNat (vs.getD 2 .none) = 0 ∧
    ∃ oq vq, h.get? q = some oq ∧ oq.data = .seq vq n ∧ (vq.map reRawOf).map (·.toNat) = code4
theorem IsPat.keeps {h h' : Heap} {p : Addr} (x : IsPat h p) (k : ∀ b o, h.get? b = some o → h'.get? b = some o) : IsPat h' p := by
  obtain ⟨o, vs, q, n, h1, h2, h3, h4, h5, h5', h6, h7, oq, vq, h8, h9⟩ := x.obj
  exact ⟨o, vs, q, n, k _ _ h1, h2, h3, h4, h5, h5', h6, h7, oq, vq, k _ _ h8, h9⟩
theorem named_eq (id f : String) (v : Value) : reNamed id f ["string", "pos", "endpos"] 1 [v] [] = pure [some v, none, none] := rfl
theorem search_call {p : Addr} {x : Str} {t : Tok} {Q : Value → Shared → Prop} (hp : IsPat s.heap p) (hx : x.length ≤ 1000000) (hq : if isNum x.cps then ∀ s' a, Kp s s' → s'.TypeIs (.ref a) "re.Match" → Q (.ref a) s' else Q .none s) :
    Wp C A (call (.builtin "re.Pattern.search") [.ref p, .str x t]) Q s := by
  obtain ⟨o, vs, q, n, h1, h2, h3, h4, h5, h5', h6, h7, oq, vq, h8, h9, h10⟩ := hp.obj
  have hT : s.TypeIs (.ref p) "re.Pattern" := ⟨o, h1, h2⟩
  refine wpAny_call_entry slot_search hT entry_search ?_ (args_search _ _)
  unfold Builtin.«re.Pattern.search»
  refine wpAny_bind ?_
  unfold reTarget
  refine wpAny_bind (wpAny_of_eq (named_eq _ _ _) ?_)
  refine wpAny_bind (wpAny_pure (wpAny_bind (wpAny_pure ?_)))
  refine wpAny_bind (wpAny_fieldsOf h1 h4 ?_)
  unfold reTextOf
  refine wpAny_bind (wpAny_bind (wpAny_pure (wpAny_pure ?_)))
  simp only [h6, h7, h5']
  rw [if_neg (by decide), if_neg (by decide)]
  unfold reNoCollectionInside
  refine wpAny_bind ?_
  show Wp C A.in1 (if ((0 : Nat) == 1) = true then _ else pure ()) _ s
  rw [if_neg (by decide)]
  refine wpAny_pure ?_
  unfold reRawItems
  refine wpAny_bind (wpAny_bind (wpAny_seqItems h8 h9 (wpAny_pure (wpAny_pure ?_))))
  have hlim : min (2 ^ 63 - 1 : Int).toNat x.cps.size = x.cps.size := by
    have : x.cps.size ≤ 1000000 := hx
    omega
  have hpos : min (Int.toNat 0) x.cps.size = 0 := by simp
  simp only [Option.getD_some, h10, hlim, hpos]
  obtain ⟨N, hN, ho⟩ := search_runs x.cps hx
  unfold reAnswer
  refine wpAny_bind (runToEnd hN ho ?_)
  cases hb : isNum x.cps with
  | false =>
    rw [hb] at hq
    exact wpAny_pure ⟨_, rfl, hq⟩
  | true =>
    rw [hb] at hq
    intro m'
    refine wpAny_bind ?_
    unfold reNewMatch
    show Wp C A.in1 (do
      let tup ← newTuple (rawInt m'.start :: rawInt m'.handed :: [])
      newFields "re.Match" [Value.str x t, Value.ref p, rawInt 0, rawInt x.cps.size, rawInt m'.lastindex, tup]) _ s
    refine wpAny_bind (wpAny_newTuple ?_ (by simp [sizeLine]))
    refine wpAny_newObj_type (wpAny_pure ⟨_, rfl, hq _ _ ?_ ⟨_, Heap.get?_push_size _ rfl, rfl⟩⟩)
    exact kHeap (t := s.toks) (fun b o e => Heap.get?_push_of_some _ (Heap.get?_push_of_some _ e)) (Nat.le_refl _)
end
end Mine.Re
namespace Mine
section
variable {C : Cx} {n : Nat} {nm : Names} {ρ : Rho}
/-- the test IPV4_RE.search(text) -/
theorem Tst.search {e : Expr} {px apos pos : Pos} {p : Addr} {x : Str} (i : Nat) (hi : nm[i]? = some (("IPV4_RE" : Str), NameKind.globalImplicit)) (hK : nsIn C.K mainGlobals ("IPV4_RE" : Str) = some (some (.ref p))) (hp : ∀ h, C.K.In h → Re.IsPat h p) (h : Ev C n nm ρ e 0 (.str x)) (hx : x.length ≤ 1000000)
    (hst : ∀ env, starEach [e] env = [(false, eval e env)] := by exact n1_all rfl) (hline : (apos.endLine == pos.line) = true := by rfl) :
    Tst C n nm ρ (.Call (.Attribute (.Name "IPV4_RE" px) "search" apos) [e] [] pos) (Re.isNum x.cps) := .mk fun A env X s o ok p' =>
  wpAny_isTrue_value (Call_method1 rfl (hst env) hline (load_glob ok p' (lookup_at ok.nodup hi) hK (by
    have hpat := hp _ (C.inK.keeps p'.gr.old)
    obtain ⟨ob, vs, q, m, h1, h2, h3, _⟩ := hpat.obj
    refine ⟨"re.Pattern", _, Re.plainAttrs, Re.slot_search, Re.type_search, ⟨ob, h1, h2⟩, (fun _ h => by cases h; exact ⟨ob, h1, h3⟩), callWith_builtin rfl (evalArgs_plain (spliced_cons (h.then0 o ok p' fun v s₁ k p₁ r => spliced_nil ?_)))⟩
    obtain ⟨t, rfl, _⟩ := r.invS
    refine Re.search_call (hpat.keeps (kGet k)) hx ?_
    cases hb : Re.isNum x.cps with
    | false => exact truthy_none ⟨k, rfl⟩
    | true => exact fun s' a k' hT => Re.truthy_match hT ⟨kTrans k k', rfl⟩) (by decide) px)) rfl
end
end Mine
end
section
open PySem PySem.W PyProof.Rows PySem.Calls PySem.Spec
set_option maxRecDepth 100000
namespace Mine
section
variable {C : Cx} {n : Nat} {nm : Names} {ρ : Rho}
theorem Ev.lower {o : Expr} {apos pos : Pos} {x : Str} (h : Ev C n nm ρ o 0 (.str x)) (hf : Builtin.Str.tooLong (Txt.lower x).length = false) (ho : PyData.strOk (Txt.lower x) = true)
    (hbase : ∀ env, attributeBase o "lower" env (eval o env) = eval o env := by intro _; rfl) (hline : (apos.endLine == pos.line) = true := by rfl) : Ev C n nm ρ (.Call (.Attribute o "lower" apos) [] [] pos) 0 (.str (Txt.lower x)) := .mk fun A env X s oo ok p =>
  Call_method0 (hbase env) hline (h.then0 oo ok p fun v s₁ k p₁ r => by
    obtain ⟨t, rfl, _⟩ := r.invS
    exact SB.lower hf (.mk (kTrans k (kToks (Nat.le_succ _))) (.str _ _ ho)))
theorem Ev.upper {o : Expr} {apos pos : Pos} {x : Str} (h : Ev C n nm ρ o 0 (.str x)) (hf : Builtin.Str.tooLong (Txt.upper x).length = false) (ho : PyData.strOk (Txt.upper x) = true)
    (hbase : ∀ env, attributeBase o "upper" env (eval o env) = eval o env := by intro _; rfl) (hline : (apos.endLine == pos.line) = true := by rfl) : Ev C n nm ρ (.Call (.Attribute o "upper" apos) [] [] pos) 0 (.str (Txt.upper x)) := .mk fun A env X s oo ok p =>
  Call_method0 (hbase env) hline (h.then0 oo ok p fun v s₁ k p₁ r => by
    obtain ⟨t, rfl, _⟩ := r.invS
    exact SB.upper hf (.mk (kTrans k (kToks (Nat.le_succ _))) (.str _ _ ho)))
theorem Ev.startswith {o e : Expr} {apos pos : Pos} {x y : Str} (h : Ev C n nm ρ o 0 (.str x)) (h' : Ev C n nm ρ e 0 (.str y))
    (hbase : ∀ env, attributeBase o "startswith" env (eval o env) = eval o env := by intro _; rfl) (hst : ∀ env, starEach [e] env = [(false, eval e env)] := by exact n1_all rfl) (hline : (apos.endLine == pos.line) = true := by rfl) : Ev C n nm ρ (.Call (.Attribute o "startswith" apos) [e] [] pos) 0 (.bool (Txt.startswith x y)) := .mk fun A env X s oo ok p =>
  Call_method1 (hbase env) (hst env) hline (h.then0 oo ok p fun v s₁ k p₁ r => by
    obtain ⟨t, rfl, _⟩ := r.invS
    exact SB.startswith (h'.then0 oo ok p₁ fun u s₂ k₂ p₂ r₂ => by
    obtain ⟨t', rfl, _⟩ := r₂.invS; exact ⟨_, _, rfl, .mk (kTrans k k₂) (.bool _)⟩))
theorem Ev.endswith {o e : Expr} {apos pos : Pos} {x y : Str} (h : Ev C n nm ρ o 0 (.str x)) (h' : Ev C n nm ρ e 0 (.str y))
    (hbase : ∀ env, attributeBase o "endswith" env (eval o env) = eval o env := by intro _; rfl) (hst : ∀ env, starEach [e] env = [(false, eval e env)] := by exact n1_all rfl) (hline : (apos.endLine == pos.line) = true := by rfl) : Ev C n nm ρ (.Call (.Attribute o "endswith" apos) [e] [] pos) 0 (.bool (Txt.endswith x y)) := .mk fun A env X s oo ok p =>
  Call_method1 (hbase env) (hst env) hline (h.then0 oo ok p fun v s₁ k p₁ r => by
    obtain ⟨t, rfl, _⟩ := r.invS
    exact SB.endswith (h'.then0 oo ok p₁ fun u s₂ k₂ p₂ r₂ => by
    obtain ⟨t', rfl, _⟩ := r₂.invS; exact ⟨_, _, rfl, .mk (kTrans k k₂) (.bool _)⟩))
theorem Ev.find {o e : Expr} {apos pos : Pos} {x y : Str} (h : Ev C n nm ρ o 0 (.str x)) (h' : Ev C n nm ρ e 0 (.str y))
    (hbase : ∀ env, attributeBase o "find" env (eval o env) = eval o env := by intro _; rfl) (hst : ∀ env, starEach [e] env = [(false, eval e env)] := by exact n1_all rfl) (hline : (apos.endLine == pos.line) = true := by rfl) : Ev C n nm ρ (.Call (.Attribute o "find" apos) [e] [] pos) 0 (.int (Txt.find x y)) := .mk fun A env X s oo ok p =>
  Call_method1 (hbase env) (hst env) hline (h.then0 oo ok p fun v s₁ k p₁ r => by
    obtain ⟨t, rfl, _⟩ := r.invS
    exact SB.find (h'.then0 oo ok p₁ fun u s₂ k₂ p₂ r₂ => by
    obtain ⟨t', rfl, _⟩ := r₂.invS; exact ⟨_, _, rfl, .mk (kTrans k (kTrans k₂ (kToks (Nat.le_succ _)))) (.int _ _)⟩))
theorem Ev.count {o e : Expr} {apos pos : Pos} {x y : Str} (h : Ev C n nm ρ o 0 (.str x)) (h' : Ev C n nm ρ e 0 (.str y))
    (hbase : ∀ env, attributeBase o "count" env (eval o env) = eval o env := by intro _; rfl) (hst : ∀ env, starEach [e] env = [(false, eval e env)] := by exact n1_all rfl) (hline : (apos.endLine == pos.line) = true := by rfl) : Ev C n nm ρ (.Call (.Attribute o "count" apos) [e] [] pos) 0 (.int (Txt.count x y)) := .mk fun A env X s oo ok p =>
  Call_method1 (hbase env) (hst env) hline (h.then0 oo ok p fun v s₁ k p₁ r => by
    obtain ⟨t, rfl, _⟩ := r.invS
    exact SB.count (h'.then0 oo ok p₁ fun u s₂ k₂ p₂ r₂ => by
    obtain ⟨t', rfl, _⟩ := r₂.invS; exact ⟨_, _, rfl, .mk (kTrans k (kTrans k₂ (kToks (Nat.le_succ _)))) (.int _ _)⟩))
/-- x.replace(y, z) for two different constants -/
theorem Ev.replace {o : Expr} {y z : Str} {k₁ k₂ : Nat} {p₁ p₂ apos pos : Pos} {x : Str} (h : Ev C n nm ρ o 0 (.str x)) (hyz : (y == z) = false) (hz : x.length + (x.length + 1) * z.length ≤ 16777216) (ho : PyData.strOk (Txt.replace x y z) = true)
    (hbase : ∀ env, attributeBase o "replace" env (eval o env) = eval o env := by intro _; rfl) (hline : (apos.endLine == pos.line) = true := by rfl) :
    Ev C n nm ρ (.Call (.Attribute o "replace" apos) [.Constant (.str y) k₁ p₁, .Constant (.str z) k₂ p₂] [] pos) 0 (.str (Txt.replace x y z)) := .mk fun A env X s oo ok p => wp_up (
  Call_method2 (hbase env) rfl hline (h.then0 oo ok p fun v s₁ k pp r => by
    obtain ⟨t, rfl, _⟩ := r.invS
    refine ⟨"str", _, F.plainAttrs_str, F.slot_str_replace, F.type_str_replace, typeIs_str _ _ _, (fun _ e => nomatch e), callWith_builtin rfl (evalArgs_plain (spliced_cons (wpAny_Constant_str (spliced_cons (wpAny_Constant_str (spliced_nil ?_))))))⟩
    have h1 := pp.gr.toks
    refine SC.replace (x := x) (t := t) (by show s₁.toks ≠ 0; omega) (by show s₁.toks + 1 ≠ 0; omega) (by show s₁.toks ≠ s₁.toks + 1; omega) hyz hz fun t' k' l => ?_
    refine .mk ⟨?_, l⟩ (.str _ _ ho)
    obtain ⟨⟨h, t, rfl, kk⟩, _⟩ := k
    exact ⟨h, k', rfl, kk⟩))
/-- x.split(y)[0] for a constant y -/
theorem Ev.splitHead {o : Expr} {y : Str} {k₁ k₀ : Nat} {p₁ p₀ apos cpos pos : Pos} {x z : Str} {l : List Str} (h : Ev C n nm ρ o 0 (.str x)) (hy : (y.length == 0) = false) (hx : x.length ≤ 1000000)
    (hn : (Builtin.Str.partsBetween x (Builtin.Str.occurrences x y 0 x.length (x.length + 1)) y.length).length ≤ sizeLine) (hl : Txt.split x y = z :: l) (ho : PyData.strOk z = true)
    (hbase : ∀ env, attributeBase o "split" env (eval o env) = eval o env := by intro _; rfl) (hline : (apos.endLine == cpos.line) = true := by rfl) :
    Ev C n nm ρ (.Subscript (.Call (.Attribute o "split" apos) [.Constant (.str y) k₁ p₁] [] cpos) (.Constant (.int 0) k₀ p₀) pos) 0 (.str z) := .mk fun A env X s oo ok p => wp_up (
  Subscript_ (Call_method1 (hbase env) rfl hline (h.then0 oo ok p fun v s₁ k pp r => by
    obtain ⟨t, rfl, _⟩ := r.invS
    have hk : KeptByPush (fun z => Keeps s z) := fun z ob tk hz => by obtain ⟨h, t, rfl, k⟩ := hz; exact ⟨_, tk, rfl, fun b o e' => Heap.get?_push_of_some _ (k b o e')⟩
    refine SBG.split1 (Fm := fun z => Keeps s z) hk (wpAny_Constant_str ⟨y, _, rfl, hy, ?_, hn, fun D ll s₂ hm hs₂ hD => ?_⟩) (by simp only [sizeLine]; omega)
    · obtain ⟨h, t, rfl, kk⟩ := k.1; exact ⟨h, _, rfl, kk⟩
    · rw [hl] at hm
      obtain ⟨⟨z', tz⟩, ll', rfl⟩ : ∃ q ll', ll = q :: ll' := by cases ll with | nil => simp at hm | cons q ll' => exact ⟨q, ll', rfl⟩
      simp at hm
      obtain ⟨rfl, _⟩ := hm
      refine wpAny_Constant_int (tail_any hD.typeIs PySem.slot_list_getitem.lookup (wpAny_getItem_list (x := .str z' tz) hD (by omega) (by omega) (by simp [strValues]) fun l => ?_) rfl)
      refine .mk ⟨?_, l⟩ (.str _ _ ho)
      obtain ⟨h, t, rfl, kk⟩ := hs₂
      exact ⟨h, _, rfl, kk⟩)))
/-- an f-string of a constant, a name's text and a constant -/
theorem Ev.joined {e : Expr} {a b : Str} {k₁ k₂ : Nat} {p₁ p₂ p₃ pos : Pos} {y : Str} (h : Ev C n nm ρ e 0 (.str y)) (ha : a.length ≤ 1000) (hb : b.length ≤ 1000) (hy : y.length ≤ 1000000) (oa : PyData.strOk a = true) (ob : PyData.strOk b = true) :
    Ev C n nm ρ (.JoinedStr [.Constant (.str a) k₁ p₁, .FormattedValue e 115 Option.none p₂, .Constant (.str b) k₂ p₃] pos) 0 (.str (a ++ y ++ b)) := .mk fun A env X s oo ok p => wp_up (by
  have e0 : Str.empty ++ a = a := Str.append_left_empty rfl
  refine wpAny_JoinedStr (Joins_cons (wpAny_Constant_str ⟨_, _, rfl, ?_, Joins_cons (wpAny_FormattedValue_s (h.then0 oo ok (p.keeps (kToks (Nat.le_succ _))) fun v s₁ k p₁ r => ?_))⟩))
  · rw [e0]; simp only [sizeLine]; omega
  · obtain ⟨t, rfl, q⟩ := r.invS
    have fin : ∀ (s₂ : Shared) (t₂ : Tok), Keeps s s₂ → ∃ y' t', Value.str y t₂ = .str y' t' ∧ (Str.empty ++ a ++ y').length ≤ sizeLine ∧ Joins (model C.prog C.w) A NoE (evalEach [.Constant (.str b) k₂ p₃] env) (Str.empty ++ a ++ y')
        (fun out s₁ => out.length ≤ sizeLine ∧ (s.toks ≤ ({ s₁ with toks := s₁.toks + 1 } : Shared).toks → Gives C X 0 (.str (a ++ y ++ b)) s (.str out s₁.toks) { s₁ with toks := s₁.toks + 1 })) s₂ := fun s₂ t₂ hk => by
      refine ⟨y, t₂, rfl, ?_, Joins_cons (wpAny_Constant_str ⟨_, _, rfl, ?_, Joins_nil ⟨?_, fun l => ?_⟩⟩)⟩
      · rw [e0, Str.length_append]; simp only [sizeLine]; omega
      · rw [e0, Str.length_append, Str.length_append]; simp only [sizeLine]; omega
      · rw [e0, Str.length_append, Str.length_append]; simp only [sizeLine]; omega
      · rw [e0]
        refine .mk ⟨?_, l⟩ (.str _ _ (strOk_append (strOk_append oa q) ob))
        obtain ⟨h, t, rfl, kk⟩ := hk
        exact ⟨h, _, rfl, kk⟩
    have hk₁ : Keeps s s₁ := by
      obtain ⟨h, t, rfl, kk⟩ := k.1; exact ⟨h, _, rfl, kk⟩
    have hy' : y.length ≤ sizeLine := by simp only [sizeLine]; omega
    refine SB.convS_str (fun t₁ k₁ => SB.field_str (fun t₂ k₂ => fin _ _ ?_) hy') hy'
    obtain ⟨h, t, rfl, kk⟩ := hk₁
    exact ⟨h, _, rfl, kk⟩)

/-- an empty dict of one's own -/
theorem EvF.dict0 {pos : Pos} : EvF C n nm ρ (.Dict [] [] pos) 1 (.dict []) := .mk fun A env X s oo ok p =>
  wpAny_Dict_empty ⟨kPush (t := s.toks) _ (Nat.le_refl _), [s.heap.objs.size], .dict (kvs := []) (fun h => by have := (C.g.keeps p.gr.old).lt; rw [h] at this; exact absurd this (by decide)) ⟨_, #[], 0, Heap.get?_push_size _ rfl, ⟨rfl, rfl, rfl⟩, rfl, fun _ h => absurd h (by simp), .nil, List.nodup_nil⟩ .nil, fun b hb => by simp at hb; subst hb; exact size_none (Nat.le_refl _), by simp⟩
theorem EvF.list {es : List Expr} {ds : List D} {pos : Pos} (h : Evs C n nm ρ es ds) (hz : ds.length ≤ 1000) : EvF C n nm ρ (.List es pos) 1 (.list ds) := .mk fun A env X s o ok p =>
  wpAny_List_spliced (wp_mono (h.run A env X s o ok p) fun vs s' ⟨k, q⟩ => ⟨by simp only [sizeLine]; rw [q.length]; omega, kTrans k (kPush (t := s'.toks) _ (Nat.le_refl _)), [s'.heap.objs.size],
    .list (vs := vs) (n := 0) (Heap.get?_push_size _ rfl) (RepL.toO (q.keep ⟨fun b o _ e => Heap.get?_push_of_some _ e, fun b o e m => by
      rcases List.mem_append.mp m with m | m
      · simp at m; subst m; exact absurd (Heap.lt_size e) (Nat.lt_irrefl _)
      · exact m⟩)), fun b hb => by simp at hb; subst hb; exact kNone k (size_none (Nat.le_refl _)), by simp⟩)
end
end Mine
end
section
open PySem PySem.W PyProof.Rows PySem.Calls PySem.Spec
set_option maxRecDepth 100000
namespace Mine
noncomputable def nmOk (nm : Names) (k : Nat) : Bool :=
  decide (nm.map (·.1)).Nodup && nm.all (fun p => !(p.1 == ("__debug__" : Str)) && !(p.1 == ("__classdict__" : Str)) && !(p.2 == .free)) && (nm.take k).all fun p => p.2 == .local || p.2 == .cell
theorem NmOk.of {nm : Names} {k : Nat} (h : nmOk nm k = true) : NmOk nm k := by
  unfold nmOk at h
  simp only [Bool.and_eq_true, decide_eq_true_eq, List.all_eq_true, Bool.not_eq_true', Bool.or_eq_true, beq_iff_eq] at h
  obtain ⟨⟨h1, h2⟩, h3⟩ := h
  exact ⟨h1, fun p hp => ⟨(h2 p hp).1.1, (h2 p hp).1.2⟩, fun p hp e => by have := (h2 p hp).2; rw [e] at this; exact absurd this (by decide), fun p hp => h3 p hp⟩
noncomputable def cmOk (nm nm' : Names) : Bool :=
  decide (nm'.map (·.1)).Nodup && nm'.all (fun p => !(p.1 == ("__debug__" : Str)) && !(p.1 == ("__classdict__" : Str))) && nm'.all fun p => !(p.2 == .free) || (nm.lookup p.1 == some .cell || nm.lookup p.1 == some .free)
theorem CmOk.of {nm nm' : Names} (h : cmOk nm nm' = true) : CmOk nm nm' := by
  unfold cmOk at h
  simp only [Bool.and_eq_true, decide_eq_true_eq, List.all_eq_true, Bool.not_eq_true', Bool.or_eq_true, beq_iff_eq] at h
  obtain ⟨⟨h1, h2⟩, h3⟩ := h
  exact ⟨h1, fun p hp => h2 p hp, fun p hp e => by
    rcases h3 p hp with h | h
    · rw [e] at h; exact absurd h (by decide)
    · exact h⟩
/-- the comprehension's names' values: by the places of the outer names -/
noncomputable def rhoC (fr : List (Option Nat)) (ρ : Rho) : Rho := fr.map fun o => match o with
  | some j => (match ρ[j]? with
    | some (some (0, d)) => some (0, d)
    | _ => none)
  | none => none
noncomputable def frOk (nm nm' : Names) (fr : List (Option Nat)) : Bool :=
  (nm'.zip fr).all fun q => match q.2 with
    | none => true
    | some j => q.1.2 == .free && (match nm[j]? with
      | some r => r.1 == q.1.1 && (r.2 == .cell || r.2 == .free)
      | none => false)
theorem RhoC.of {nm nm' : Names} {ρ : Rho} {fr : List (Option Nat)} (h : frOk nm nm' fr = true) (hl : fr.length = nm'.length) : RhoC nm ρ nm' (rhoC fr ρ) := by
  refine ⟨fun i k d e => ?_⟩
  unfold rhoC at e
  rw [List.getElem?_map] at e
  cases ho : fr[i]? with
  | none => rw [ho] at e; cases e
  | some o =>
    rw [ho] at e
    cases o with
    | none => cases e
    | some j =>
      simp only [Option.map_some, Option.some.injEq] at e
      split at e
      · rename_i d' hd'
        cases e
        have hi : i < nm'.length := by rw [← hl]; exact (List.getElem?_eq_some_iff.mp ho).1
        have hnm : nm'[i]? = some nm'[i] := List.getElem?_eq_getElem hi
        have hz : (nm'[i], some j) ∈ nm'.zip fr := by
          refine List.mem_of_getElem? (i := i) ?_
          rw [List.getElem?_zip_eq_some]
          exact ⟨hnm, ho⟩
        unfold frOk at h
        rw [List.all_eq_true] at h
        have h1 := h _ hz
        simp only [Bool.and_eq_true, beq_iff_eq] at h1
        obtain ⟨h2, h3⟩ := h1
        cases hj : nm[j]? with
        | none => rw [hj] at h3; cases h3
        | some r =>
          rw [hj] at h3
          simp only [Bool.and_eq_true, Bool.or_eq_true, beq_iff_eq] at h3
          refine ⟨rfl, nm'[i].1, j, r.2, ?_, ?_, h3.2, hd'⟩
          · rw [hnm, ← h2]
          · rw [← h3.1]; exact hj
      · cases e

section
variable {C : Cx} {n : Nat} {nm nm' : Names} {ρ ρ' : Rho}
theorem Less.set {p : Nat} {e : Option (Nat × D)} (h : ∀ e, ρ[p]? ≠ some (some e)) : Less ρ (ρ.set p e) := fun i x hx => by
  by_cases hip : i = p
  · subst hip; exact absurd hx (h x)
  · rw [List.getElem?_set_ne (Ne.symm hip)]; exact hx
theorem cloop_filter {elt : Expr} {c : Expr} {N : Nat} {bind : Nat → Rho → Rho} {f : Nat → D} {t : Nat → Bool} (ht : ∀ i, i < N → Tst C n nm (bind i ρ) c (t i)) (h : ∀ i, i < N → t i = true → Ev C n nm (bind i ρ) elt 0 (f i)) :
    ∀ k i, i + k = N → CLoop C n nm [c] bind N (EM1 C n nm elt) ρ i (((List.range' i k).filter t).map f)
  | 0, i, e => by
    have : i = N := by omega
    subst this; exact .done
  | k + 1, i, e => by
    have r := cloop_filter ht h k (i + 1) (by omega)
    rw [List.range'_succ, List.filter_cons]
    cases hti : t i with
    | true =>
      simp only [if_true, List.map_cons]
      have ht' := ht i (by omega)
      rw [hti] at ht'
      exact CLoop.turn (ds := [f i]) (by omega) (.one ht') ⟨f i, rfl, h i (by omega) hti⟩ r
    | false =>
      simp only [Bool.false_eq_true, if_false]
      have ht' := ht i (by omega)
      rw [hti] at ht'
      exact CLoop.skip (by omega) (.one ht') r
theorem cloop_map {elt : Expr} {N : Nat} {bind : Nat → Rho → Rho} {f : Nat → D} (h : ∀ i, i < N → Ev C n nm (bind i ρ) elt 0 (f i)) :
    ∀ k i, i + k = N → CLoop C n nm [] bind N (EM1 C n nm elt) ρ i ((List.range' i k).map f)
  | 0, i, e => by
    have : i = N := by omega
    subst this; exact .done
  | k + 1, i, e => by
    have r := cloop_map h k (i + 1) (by omega)
    rw [List.range'_succ, List.map_cons]
    exact CLoop.turn (ds := [f i]) (by omega) .nil ⟨f i, rfl, h i (by omega)⟩ r
theorem map_getD {β : Type} (g : D → β) : ∀ (ds : List D), (List.range' 0 ds.length).map (fun i => g (getD ds i)) = ds.map g := fun ds => by
  apply List.ext_getElem?
  intro i
  rw [List.getElem?_map, List.getElem?_map]
  by_cases h : i < ds.length
  · rw [List.getElem?_range' (by simpa using h), List.getElem?_eq_getElem h]
    simp [getD, List.getElem?_eq_getElem h]
  · rw [List.getElem?_eq_none (by simp; omega), List.getElem?_eq_none (by omega)]; rfl
theorem map_getD2 {β : Type} (g : D × D → β) : ∀ (ds : List (D × D)), (List.range' 0 ds.length).map (fun i => g (getD2 ds i)) = ds.map g := fun ds => by
  apply List.ext_getElem?
  intro i
  rw [List.getElem?_map, List.getElem?_map]
  by_cases h : i < ds.length
  · rw [List.getElem?_range' (by simpa using h), List.getElem?_eq_getElem h]
    simp [getD2, List.getElem?_eq_getElem h]
  · rw [List.getElem?_eq_none (by simp; omega), List.getElem?_eq_none (by omega)]; rfl
theorem filter_getD (t : D → Bool) (g : D → D) (ds : List D) : ((List.range' 0 ds.length).filter fun i => t (getD ds i)).map (fun i => g (getD ds i)) = (ds.filter t).map g := by
  have h1 := map_getD (fun d => d) ds
  simp only [List.map_id'] at h1
  conv => rhs; rw [← h1]
  rw [List.filter_map, List.map_map]
  rfl
theorem filter_getD2 (t : D × D → Bool) (g : D × D → D) (ds : List (D × D)) : ((List.range' 0 ds.length).filter fun i => t (getD2 ds i)).map (fun i => g (getD2 ds i)) = (ds.filter t).map g := by
  have h1 := map_getD2 (fun d => d) ds
  simp only [List.map_id'] at h1
  conv => rhs; rw [← h1]
  rw [List.filter_map, List.map_map]
  rfl
theorem getD_mem {ds : List D} {i : Nat} (h : i < ds.length) : getD ds i ∈ ds := by unfold getD; rw [List.getElem?_eq_getElem h]; exact List.getElem_mem h
theorem getD2_mem {ds : List (D × D)} {i : Nat} (h : i < ds.length) : getD2 ds i ∈ ds := by unfold getD2; rw [List.getElem?_eq_getElem h]; exact List.getElem_mem h

theorem Comp1.map1 {elt iter : Expr} {x : Str} {kd : NameKind} {px : Pos} {ds : List D} (fr : List (Option Nat)) (p : Nat) (g : D → D) (src : Src1 C n nm ρ iter ds) (hp : nm'[p]? = some (x, kd)) (q : cmOk nm nm' = true) (hf : frOk nm nm' fr = true) (hl : fr.length = nm'.length)
    (hρ : ∀ e, (rhoC fr ρ)[p]? ≠ some (some e)) (h : ∀ d, d ∈ ds → Ev C n nm' ((rhoC fr ρ).set p (some (0, d))) elt 0 (g d)) (hz : ds.length ≤ 100000) (hk : kd = .local ∨ kd = .cell := by first | exact .inl rfl | exact .inr rfl) (hs : ∀ env x, foldedSetIterable iter env x = pure x := by intro _ _; rfl) :
    Comp1 C n nm ρ elt (.Name x px) iter [] nm' (ds.map g) :=
  ⟨rhoC fr ρ, ds.length, _, .of q, .of hf hl, .of1 src p hp hk, fun i hi => .set hρ, by
    rw [← map_getD g ds]
    exact cloop_map (fun i hi => h _ (getD_mem hi)) ds.length 0 (by omega), by simpa using hz, hs⟩
theorem Comp1.filter1 {elt iter c : Expr} {x : Str} {kd : NameKind} {px : Pos} {ds : List D} (fr : List (Option Nat)) (p : Nat) (g : D → D) (t : D → Bool) (src : Src1 C n nm ρ iter ds) (hp : nm'[p]? = some (x, kd)) (q : cmOk nm nm' = true) (hf : frOk nm nm' fr = true) (hl : fr.length = nm'.length)
    (hρ : ∀ e, (rhoC fr ρ)[p]? ≠ some (some e)) (ht : ∀ d, d ∈ ds → Tst C n nm' ((rhoC fr ρ).set p (some (0, d))) c (t d)) (h : ∀ d, d ∈ ds → t d = true → Ev C n nm' ((rhoC fr ρ).set p (some (0, d))) elt 0 (g d)) (hz : ds.length ≤ 100000) (hk : kd = .local ∨ kd = .cell := by first | exact .inl rfl | exact .inr rfl) (hs : ∀ env x, foldedSetIterable iter env x = pure x := by intro _ _; rfl) :
    Comp1 C n nm ρ elt (.Name x px) iter [c] nm' ((ds.filter t).map g) :=
  ⟨rhoC fr ρ, ds.length, _, .of q, .of hf hl, .of1 src p hp hk, fun i hi => .set hρ, by
    rw [← filter_getD t g ds]
    exact cloop_filter (fun i hi => ht _ (getD_mem hi)) (fun i hi => h _ (getD_mem hi)) ds.length 0 (by omega), Nat.le_trans (by rw [List.length_map]; exact List.length_filter_le _ _) hz, hs⟩
theorem Less.set2 {p p' : Nat} {e e' : Option (Nat × D)} (h : ∀ e, ρ[p]? ≠ some (some e)) (h' : ∀ e, ρ[p']? ≠ some (some e)) : Less ρ ((ρ.set p e).set p' e') := fun i x hx => by
  by_cases h1 : i = p
  · subst h1; exact absurd hx (h x)
  · by_cases h2 : i = p'
    · subst h2; exact absurd hx (h' x)
    · rw [List.getElem?_set_ne (Ne.symm h2), List.getElem?_set_ne (Ne.symm h1)]; exact hx
theorem Comp1.map2 {elt iter : Expr} {x x' : Str} {kd kd' : NameKind} {px px' tp : Pos} {k : Nat} {ds : List (D × D)} (fr : List (Option Nat)) (p p' : Nat) (g : D × D → D) (src : Src2 C n nm ρ iter ds) (hp : nm'[p]? = some (x, kd)) (hp' : nm'[p']? = some (x', kd')) (q : cmOk nm nm' = true) (hf : frOk nm nm' fr = true) (hl : fr.length = nm'.length)
    (hρ : ∀ e, (rhoC fr ρ)[p]? ≠ some (some e)) (hρ' : ∀ e, (rhoC fr ρ)[p']? ≠ some (some e)) (h : ∀ d, d ∈ ds → Ev C n nm' (((rhoC fr ρ).set p (some (0, d.1))).set p' (some (0, d.2))) elt 0 (g d)) (hz : ds.length ≤ 100000) (hk : kd = .local ∨ kd = .cell := by first | exact .inl rfl | exact .inr rfl) (hk' : kd' = .local ∨ kd' = .cell := by first | exact .inl rfl | exact .inr rfl) (hs : ∀ env x, foldedSetIterable iter env x = pure x := by intro _ _; rfl) :
    Comp1 C n nm ρ elt (.Tuple [.Name x px, .Name x' px'] k tp) iter [] nm' (ds.map g) :=
  ⟨rhoC fr ρ, ds.length, _, .of q, .of hf hl, .of2 src p p' hp hp' hk hk', fun i hi => .set2 hρ hρ', by
    rw [← map_getD2 g ds]
    exact cloop_map (fun i hi => h _ (getD2_mem hi)) ds.length 0 (by omega), by simpa using hz, hs⟩

/-- a for over a list: what is known before each turn -/
theorem Ex1.forL {iter : Expr} {body : List Stmt} {x : Str} {kd : NameKind} {px pos : Pos} {ds : List D} (p : Nat) (inv : Nat → Rho) (src : Src1 C n nm (inv 0) iter ds) (hp : nm[p]? = some (x, kd)) (h : ∀ i d, ds[i]? = some d → Ex C n nm ((inv i).set p (some (0, d))) body (.next (inv (i + 1)))) (hk : kd = .local ∨ kd = .cell := by first | exact .inl rfl | exact .inr rfl)
    (hs : ∀ env x, foldedSetIterable iter env x = pure x := by intro _ _; rfl) : Ex1 C n nm (inv 0) (.For (.Name x px) iter body [] pos) (.next (inv ds.length)) := by
  refine .for_ (.of1 src p hp hk) ?_ hs
  have key : ∀ k i, i + k = ds.length → ForRun C n nm (fun i ρ => ρ.set p (some (0, getD ds i))) body ds.length i (inv i) (.next (inv ds.length)) := by
    intro k
    induction k with
    | zero => intro i e; have : i = ds.length := by omega
              subst this; exact .done
    | succ k ih => intro i e; exact .turn (by omega) (h i _ (by unfold getD; rw [List.getElem?_eq_getElem (by omega)]; rfl)) (ih (i + 1) (by omega))
  exact key ds.length 0 (by omega)
theorem Ex1.forL2 {iter : Expr} {body : List Stmt} {x x' : Str} {kd kd' : NameKind} {px px' tp pos : Pos} {k : Nat} {ds : List (D × D)} (p p' : Nat) (inv : Nat → Rho) (src : Src2 C n nm (inv 0) iter ds) (hp : nm[p]? = some (x, kd)) (hp' : nm[p']? = some (x', kd')) (h : ∀ i d, ds[i]? = some d → Ex C n nm (((inv i).set p (some (0, d.1))).set p' (some (0, d.2))) body (.next (inv (i + 1)))) (hk : kd = .local ∨ kd = .cell := by first | exact .inl rfl | exact .inr rfl) (hk' : kd' = .local ∨ kd' = .cell := by first | exact .inl rfl | exact .inr rfl)
    (hs : ∀ env x, foldedSetIterable iter env x = pure x := by intro _ _; rfl) : Ex1 C n nm (inv 0) (.For (.Tuple [.Name x px, .Name x' px'] k tp) iter body [] pos) (.next (inv ds.length)) := by
  refine .for_ (.of2 src p p' hp hp' hk hk') ?_ hs
  have key : ∀ k i, i + k = ds.length → ForRun C n nm (fun i ρ => (ρ.set p (some (0, (getD2 ds i).1))).set p' (some (0, (getD2 ds i).2))) body ds.length i (inv i) (.next (inv ds.length)) := by
    intro k
    induction k with
    | zero => intro i e; have : i = ds.length := by omega
              subst this; exact .done
    | succ k ih => intro i e; exact .turn (by omega) (h i _ (by unfold getD2; rw [List.getElem?_eq_getElem (by omega)]; rfl)) (ih (i + 1) (by omega))
  exact key ds.length 0 (by omega)
end
end Mine
end
section
open PySem PySem.W PyProof.Rows PySem.Calls PySem.Spec
set_option maxRecDepth 100000
namespace Mine
section
variable {C : Cx} {n : Nat} {nm : Names} {ρ : Rho}
theorem Ex1.assignTup (i j : Nat) {x y : Str} {kd kd' : NameKind} {px py tp pos : Pos} {k : Nat} {e : Expr} {d d' : D} (hi : nm[i]? = some (x, kd)) (hj : nm[j]? = some (y, kd')) (h : Ev C n nm ρ e 0 (.tup [d, d'])) (hk : kd = .local ∨ kd = .cell := by first | exact .inl rfl | exact .inr rfl) (hk' : kd' = .local ∨ kd' = .cell := by first | exact .inl rfl | exact .inr rfl)
    (hs : ∀ env, swapsWithSole [.Tuple [.Name x px, .Name y py] k tp] e pos.line env = pure false := by intro _; rfl) (hw : ∀ env, swappedStores [.Tuple [.Name x px, .Name y py] k tp] e env = pure Option.none := by intro _; rfl) :
    Ex1 C n nm ρ (.Assign [.Tuple [.Name x px, .Name y py] k tp] e pos) (.next ((ρ.set i (some (0, d))).set j (some (0, d')))) := .mk fun A env s₀ Mv Xc M T s oo ok f =>
  PyProof.Rows.Assign_Tuple (h.then0 oo ok f.pre fun v s₁ k₁ p₁ r => by
    cases r with
    | @tup a vs m _ ha e' rl =>
      cases rl with
      | @cons v₁ _ _ _ r₁ rl =>
        cases rl with
        | @cons v₂ _ _ _ r₂ rl =>
          cases rl
          have ht : IsTup s₁.heap a #[v₁, v₂] := ⟨_, e', rfl, m, rfl⟩
          refine assign_Tuple_tuple oo.handled ht rfl rfl fun h₅ he => ?_
          have k₅ : Kp s₁ { s₁ with heap := h₅ } := kHeap (t := s₁.toks) (fun b o e => he b o (Nat.ne_of_lt (Heap.lt_size e)) e) (Nat.le_refl _)
          have f₅ := (f.keeps k₁).keeps k₅
          refine assignInOrder_cons (wpAny_assign_Name (f₅.store ok hi hk (.sh (r₁.keep (.all (kGet k₅)))) (.inl rfl) fun s₆ f₆ ⟨z, hz, c⟩ => ?_))
          have K₆ := c.keep (X := M ++ Xc) (List.mem_append.mpr (.inl hz))
          exact assignInOrder_cons (wpAny_assign_Name (f₆.store ok hj hk' (.sh ((r₂.keep (.all (kGet k₅))).keep K₆)) (.inl rfl) fun s₇ f₇ _ => assignInOrder_nil ⟨rfl, M, _, f₇⟩))) (hs env) (hw env)

/-- if t: return .. and what stands behind -/
theorem Ex.ifStop {t : Expr} {a ss : List Stmt} {pos : Pos} {c : Bool} {d : D} (h : Tst C n nm ρ t c) (h1 : c = true → Ex C n nm ρ a (.ret d)) (h0 : c = false → Ex C n nm ρ ss (.ret d)) : Ex C n nm ρ (.If t a [] pos :: ss) (.ret d) := by
  cases c with
  | true => exact Ex.stop (Ex1.take h (h1 rfl))
  | false => exact Ex.seq (Ex1.skip h Ex.nil) (h0 rfl)

/-- if t: .., t being so, and what stands behind; the block ends by itself if c -/
theorem Ex.takeBoth {t : Expr} {a ss : List Stmt} {pos : Pos} {c : Bool} {d : D} (h : Tst C n nm ρ t true) (h1 : c = true → Ex C n nm ρ a (.ret d)) (h0 : c = false → ∃ ρ₁, Ex C n nm ρ a (.next ρ₁) ∧ Ex C n nm ρ₁ ss (.ret d)) : Ex C n nm ρ (.If t a [] pos :: ss) (.ret d) := by
  cases c with
  | true => exact Ex.stop (Ex1.take h (h1 rfl))
  | false => obtain ⟨ρ₁, x, y⟩ := h0 rfl; exact Ex.seq (Ex1.take h x) y


theorem Src1.cast {e : Expr} {ds ds' : List D} (h : ds = ds') (s : Src1 C n nm ρ e ds) : Src1 C n nm ρ e ds' := h ▸ s
theorem Src2.cast {e : Expr} {ds ds' : List (D × D)} (h : ds = ds') (s : Src2 C n nm ρ e ds) : Src2 C n nm ρ e ds' := h ▸ s
theorem Ev.cast {e : Expr} {k : Nat} {d d' : D} (h : d = d') (s : Ev C n nm ρ e k d) : Ev C n nm ρ e k d' := h ▸ s

end
theorem lt6 {k n : Nat} (h : k < n) (hn : n ≤ 1000000) : k < 1000000 := Nat.lt_of_lt_of_le h hn
theorem Itm.nat {C : Cx} {ds : List D} {k : Nat} {d : D} (hk : k < 1000000) (e : ds[k]? = some d) : Itm C 0 (.list ds) (.int (k : Int)) 0 d := Itm.list (Int.natCast_nonneg k) (Int.ofNat_lt.mpr hk) (by rw [Int.toNat_natCast]; exact e)
end Mine
end
section
open PySem PySem.W PyProof.Rows PySem.Calls PySem.Spec
set_option maxRecDepth 100000
namespace Mine
section
variable {C : Cx}
/-- a new frame for one local parameter: storing it draws a token -/
theorem newFrame1 {A : Around} {scope : Scope} {x : Str} {v : Value} {qual : Str} {func : Option Addr} {code : Value} {globals builtins : Addr} {s : Shared} {Q : Env → Shared → Prop} (hk : scope.kind = .function) (hx : scope.names.lookup x = some .local)
    (hQ : ∀ env, env = newEnv scope s.heap.objs.size globals (cellsFrom (s.heap.objs.size + 1) scope.names []) qual func code none builtins →
      ∀ s', InCallC s env.locals (bindL env.kindOf [(x, v)] fun _ => none) env.cells (bindC env.kindOf [(x, v)] fun _ => none) s' → s.toks + 1 ≤ s'.toks → Q env s') :
    Wp C A (newFunctionEnv scope globals [] [(x, v)] qual func code none builtins) Q s := by
  simp only [newFunctionEnv, Option.isSome_none, Bool.false_eq_true, if_false]
  refine wpAny_bind (wpAny_alloc ?_)
  refine wpAny_bind (wpAny_layCells _ (fun name kind cells => by cases hkc : kind == NameKind.cell <;> simp [hkc]) _ _ _ _ ?_)
  have ok := cellsFrom_ok scope.names (s.heap.push { cls := .type "frame", data := .dict #[] }) (s.heap.objs.size + 1) [] ⟨fun _ _ hm => (nomatch hm), List.Pairwise.nil⟩ (by rw [Heap.size_push]; exact Nat.le_refl _)
  rw [Heap.size_push] at ok
  rw [show ({ s with heap := s.heap.push { cls := .type "frame", data := .dict #[] } } : Shared).heap.objs.size = s.heap.objs.size + 1 from Heap.size_push ..]
  generalize henv : newEnv scope s.heap.objs.size globals (cellsFrom (s.heap.objs.size + 1) scope.names []) qual func code none builtins = env
  have hL : env.locals = s.heap.objs.size := by rw [← henv]; rfl
  have hC : env.cells = cellsFrom (s.heap.objs.size + 1) scope.names [] := by rw [← henv]; rfl
  have hkd : env.kindOf x = some .local := by rw [← henv]; exact hx
  have hkf : env.scope.kind = .function := by rw [← henv]; exact hk
  have hin : InCallC s env.locals (fun _ => none) env.cells (fun _ => none) { s with heap := pushCells (s.heap.push { cls := .type "frame", data := .dict #[] }) scope.names } := by
    rw [hL, hC]
    exact ⟨⟨⟨_, _, rfl⟩, (Heap.Ns.new s.heap (.type "frame")).keeps (pushCells_keeps _ _), fun b o e => pushCells_keeps _ _ b o (Heap.get?_push_of_some _ e), Nat.le_refl _⟩,
      fun n c hc => (ok.empty n c (mem_of_lookup hc)).1, ok.apart, fun n c hm => (ok.empty n c hm).2⟩
  have e0 : ({ scope := scope, locals := s.heap.objs.size, globals := globals, cells := cellsFrom (s.heap.objs.size + 1) scope.names [], qual := qual, func := func, code := code, frame := some s.heap.objs.size, builtins := builtins } : Env) = env := henv
  simp only [e0]
  rw [List.forIn_cons]
  refine wpAny_bind (wpAny_bind (wpAny_bind (wpAny_storeName_local hkd hin.toInCall.ns (fun h' hn' hs' => ?_) (by rw [hkf]; rfl))))
  refine wpAny_pure ?_
  simp only [List.forIn_nil]
  refine wpAny_pure (wpAny_pure (hQ env henv.symm _ ?_ (Nat.le_refl _)))
  unfold bindL bindC bindL bindC
  rw [if_pos hkd, if_pos hkd]
  refine ⟨⟨⟨h', _, rfl⟩, hn', fun b o e => ?_, hin.toInCall.fresh⟩, fun k c hc => ?_, hin.apart, hin.above⟩
  · exact hs'.extBut b o (Nat.ne_of_lt (Nat.lt_of_lt_of_le (Heap.lt_size e) hin.toInCall.fresh)) (hin.toInCall.keep b o e)
  · exact (hin.cell k c hc).sameBut hs' (Nat.ne_of_gt (hin.above k c (mem_of_lookup hc)))
end
theorem Frm.begin0 {C : Cx} {nm : Names} {env : Env} {s s₁ : Shared} {X : List Addr} {vs : List Value} {ds : List D} {names : Names} {L : Addr} (gold : ∀ b o, C.h₀.get? b = some o → s.heap.get? b = some o) (glive : ∀ a ∈ X, ∃ o, s.heap.get? a = some o) (hr : RepL C X s.heap vs ds) (hlen : ds.length ≤ nm.length) (q : NmOk nm ds.length)
    (hL : env.locals = L) (hsc : env.scope.names = nm) (hcs : env.cells = cellsFrom (L + 1) nm [])
    (x : InCallC s env.locals (bindL env.kindOf (((nm.take ds.length).map (·.1)).zip vs) fun _ => none) env.cells (bindC env.kindOf (((nm.take ds.length).map (·.1)).zip vs) fun _ => none) s₁) (ht : s.toks ≤ s₁.toks) (h1 : 1 ≤ s₁.toks) :
    ∃ M, Frm C nm env s [] X M (fun _ => []) (rho0 nm ds) s₁ := by
  have hkp : Kp s s₁ := by
    obtain ⟨h', tk, rfl, k⟩ := x.done
    exact ⟨⟨h', tk, rfl, k⟩, ht⟩
  have hkind : ∀ y, env.kindOf y = nm.lookup y := fun y => by rw [← hsc]; rfl
  have hnames : ((nm.take ds.length).map (·.1)).length = vs.length := by rw [List.length_map, List.length_take, hr.length]; exact Nat.min_eq_left hlen
  have hzip : ((((nm.take ds.length).map (·.1)).zip vs).map (·.1)) = (nm.take ds.length).map (·.1) := by
    rw [List.map_fst_zip]; omega
  have hnd : ((((nm.take ds.length).map (·.1)).zip vs).map (·.1)).Nodup := by
    rw [hzip, List.map_take]; exact q.nodup.sublist (List.take_sublist _ _)
  have fresh : ∀ b, s.heap.objs.size ≤ b → s.heap.get? b = none := fun b hb => by
    cases e : s.heap.get? b with
    | none => rfl
    | some o => exact absurd (Heap.lt_size e) (Nat.not_lt.mpr hb)
  have hLs : s.heap.objs.size ≤ env.locals := x.toInCall.fresh
  have new : ∀ b ∈ env.locals :: nm.filterMap (fun p => env.cells.lookup p.1), s.heap.get? b = none := fun b hb => by
    rcases List.mem_cons.mp hb with rfl | hb
    · exact fresh _ hLs
    · obtain ⟨p, hm, e⟩ := List.mem_filterMap.mp hb
      exact fresh _ (Nat.le_of_lt (Nat.lt_of_le_of_lt hLs (x.above _ b (mem_of_lookup e))))
  refine ⟨env.locals :: nm.filterMap (fun p => env.cells.lookup p.1), { kp := .of hkp, gr := ⟨fun b o e => kGet hkp b o (gold b o e), fun a m => ?_, h1⟩, new := fun b m _ => new b m, off := fun b m => ?_, dis := fun b m hX => ?_, loc := List.mem_cons_self, ns := ⟨_, x.toInCall.ns⟩, cel := fun y hy => ?_, one := fun y z c hy hc hc' => ?_, fre := fun y c hy _ => ?_, vars := fun i k d e => ?_, ownM := fun _ _ m => (by cases m), ownL := fun _ m => (by cases m), ownC := fun _ _ _ _ _ m => (by cases m), apart := fun _ _ _ _ m => (by cases m), nodup := fun _ => List.nodup_nil, mv := fun _ m => nomatch m }⟩
  · rcases List.mem_append.mp m with m | m
    · rcases List.mem_cons.mp m with rfl | m
      · obtain ⟨o, _, _, e, _⟩ := x.toInCall.ns; exact ⟨o, e⟩
      · obtain ⟨p, hm, e⟩ := List.mem_filterMap.mp m
        obtain ⟨o, e, _⟩ := x.cell _ _ e
        exact ⟨o, e⟩
    · obtain ⟨o, e⟩ := glive a m; exact ⟨o, kGet hkp a o e⟩
  · cases e : C.h₀.get? b with
    | none => rfl
    | some o => have := gold b o e; rw [new b m] at this; cases this
  · obtain ⟨o, e⟩ := glive b hX
    rw [new b m] at e; cases e
  · obtain ⟨c, hc⟩ := lookup_cellsFrom (n := L + 1) (acc := []) (mem_of_lookup hy)
    rw [← hcs] at hc
    exact ⟨c, _, hc, x.cell y c hc, List.mem_cons_of_mem _ (List.mem_filterMap.mpr ⟨(y, .cell), mem_of_lookup hy, hc⟩)⟩
  · exact name_of_addr x.apart (mem_of_lookup hc') (mem_of_lookup hc)
  · exact absurd rfl (q.nofree _ (mem_of_lookup hy))
  · obtain ⟨rfl, hd⟩ := rho0_at e
    obtain ⟨v, hv, hrv⟩ := hr.get hd
    have hi : i < ds.length := (List.getElem?_eq_some_iff.mp hd).1
    have hin : i < nm.length := Nat.lt_of_lt_of_le hi hlen
    have hnm : nm[i]? = some (nm[i].1, nm[i].2) := by rw [List.getElem?_eq_getElem hin]
    have hmem : (nm[i].1, v) ∈ ((nm.take ds.length).map (·.1)).zip vs := by
      refine List.mem_of_getElem? (i := i) ?_
      rw [List.getElem?_zip_eq_some]
      refine ⟨?_, hv⟩
      rw [List.getElem?_map, List.getElem?_take_of_lt hi, List.getElem?_eq_getElem hin]; rfl
    have hkd := lookup_at q.nodup hnm
    refine ⟨nm[i].1, nm[i].2, v, hnm, ?_, .sh (hrv.keep ⟨fun b o _ e => kGet hkp b o e, fun b o e m => ?_⟩)⟩
    · rcases q.params nm[i] (by
        rw [List.mem_take_iff_getElem]
        exact ⟨i, by omega, rfl⟩) with hk | hk
      · rw [hk] at hkd ⊢
        exact .loc x.toInCall.ns (bindL_at hnd hmem (by rw [hkind]; exact hkd))
      · rw [hk] at hkd ⊢
        obtain ⟨c, hc⟩ := lookup_cellsFrom (n := L + 1) (acc := []) (mem_of_lookup hkd)
        rw [← hcs] at hc
        have := x.cell _ c hc
        rw [bindC_at hnd hmem (by rw [hkind]; exact hkd)] at this
        exact .cell hc this
    · rcases List.mem_append.mp m with m | m
      · rw [new b m] at e; cases e
      · exact m


/-- the law's own call: nothing is asked of the tokens -/
theorem law_call {C : Cx} {n : Nat} {a : Addr} {o : Obj} {fd : FuncData} {body : List Stmt} {nm : Names} {mr : List (Str × Const)} {x : Str} {d₁ d : D} (ho : C.K.lookup a = some o) (hd : o.data = .func fd) (hb : fd.body = .stmts body) (hsc0 : fd.scope = { kind := .function, names := nm, isGenerator := false, isCoroutine := false, more := mr })
    (hc : codeIn C.K fd.code fd.qualname = true) (hclo : fd.closure = []) (hg : fd.globals = mainGlobals) (hbu : fd.builtins = builtinsNs)
    (hbind : ∀ v : Value, bindArgs fd ⟨[v], []⟩ = pure [(x, v)]) (hx : nm[0]? = some (x, .local)) (q : NmOk nm 1) (hlen : 1 ≤ nm.length) (h : Ex C n nm (rho0 nm [d₁]) body (.ret d))
    {A : Around} {X : List Addr} {s : Shared} {v : Value} (ok : Ok (n + 1) A) (gold : ∀ b o, C.h₀.get? b = some o → s.heap.get? b = some o) (glive : ∀ a ∈ X, ∃ o, s.heap.get? a = some o) (hr : Rep C X s.heap v d₁) :
    Wp C A (call (.ref a) [v]) (fun r s' => Kp s s' ∧ Rep C X s'.heap r d) s := by
  have hsc : fd.scope.names = nm := by rw [hsc0]
  have hfk : fd.scope.kind = .function := by rw [hsc0]
  have hfg : fd.scope.isGenerator = false := by rw [hsc0]
  have hfc : fd.scope.isCoroutine = false := by rw [hsc0]
  have hK := C.inK.keeps gold
  have hz : ((nm.take [d₁].length).map (·.1)).zip [v] = [(x, v)] := by
    match nm, hx with
    | p :: r, hx => simp at hx; subst hx; rfl
  refine wpAny_call ?_
  refine codeAny_call_function ok.room (hK a o ho) hd hfc hfg hb (codeRec_of hK hc) ?_
  rw [hbind v, hclo]
  refine wpAny_pure ?_
  refine newFrame1 hfk (by rw [hsc]; exact lookup_at q.nodup hx) fun env he s' xx ht => ?_
  have hsn : env.scope = fd.scope := by rw [he]; rfl
  have hcs : env.cells = cellsFrom (s.heap.objs.size + 1) nm [] := by rw [he]; show cellsFrom _ fd.scope.names [] = _; rw [hsc]
  rw [← hz] at xx
  obtain ⟨M, f⟩ := Frm.begin0 (C := C) (env := env) (ds := [d₁]) (L := s.heap.objs.size) (names := nm) gold glive (.cons hr .nil) hlen q (by rw [he]; rfl) (by rw [hsn, hsc]) hcs xx (by omega) (by omega)
  have hki : ∀ y, env.kindOf y = nm.lookup y := fun y => by show env.scope.names.lookup y = _; rw [hsn, hsc]
  have henv : EnvOk nm env := ⟨by rw [hsn, hfk], by rw [he]; exact hg, by rw [he]; exact hbu, q.nodup, q.plain, fun y e => (hki y).trans e, fun y e => (hki y).trans e, fun y e => .inl ((hki y).trans e), fun y e => (hki y).trans e,
    fun y e => by
      rcases e with e | e
      · rw [hcs]; exact lookup_cellsFrom (mem_of_lookup e)
      · exact absurd rfl (q.nofree _ (mem_of_lookup e))⟩
  refine ⟨C.nolimit.keeps fun b o e => kGet f.kp.to b o (gold b o e), codeAny_func ?_⟩
  refine wpAny_mono (h.go (A.deeper env) env s [] X M _ s' (ok.deeper env) henv f) (fun fl s'' h => ?_) fun _ _ x => x.elim
  obtain ⟨v', rfl, k, r, _⟩ := h
  exact ⟨k.to, r⟩
end Mine
end
section
open PySem PySem.W PyProof.Rows PySem.Calls PySem.Spec
set_option maxRecDepth 100000
namespace Mine
theorem down_size (a : Int) (h0 : 0 ≤ a) : Builtin.Range.rangeSize a 0 (-1) = (a.toNat : Int) := by
  unfold Builtin.Range.rangeSize
  rw [if_neg (by decide)]
  by_cases h : a > 0
  · rw [if_pos h]
    have : (a - 0 - 1) / (- (-1 : Int)) = a - 1 := by rw [show - (-1 : Int) = 1 from rfl, Int.ediv_one]; omega
    rw [this]; omega
  · rw [if_neg h]; omega
theorem down_small (a : Int) (h0 : 0 ≤ a) (h1 : a < 1000000) : Builtin.Range.small a 0 (-1) = true := by
  unfold Builtin.Range.small
  rw [down_size a h0]
  simp only [Builtin.Range.rangeFitsLong, Bool.and_eq_true, Bool.or_eq_true, decide_eq_true_eq, beq_iff_eq, show ¬ (-1 : Int) > 0 by decide, if_false]
  omega
section
variable {C : Cx} {n : Nat} {nm : Names} {ρ : Rho}
/-- range(a, 0, -1) -/
theorem Src1.down {px pos : Pos} {e e' e'' : Expr} {a : Int} (i : Nat) (hi : nm[i]? = some (("range" : Str), NameKind.globalImplicit)) (hK : nsIn C.K mainGlobals ("range" : Str) = some Option.none) (h0 : 0 ≤ a) (h1 : a < 1000000) (hb : Evs C n nm ρ [e, e', e''] [.int a, .int 0, .int (-1)]) :
    Src1 C n nm ρ (.Call (.Name "range" px) [e, e', e''] [] pos) (rangeD a (-1) a.toNat) := .mk fun A env X s o ok p =>
  tcall (Q := fun xv s₁ => Wp C A (pyIter xv) (fun it s₂ => Kp s s₂ ∧ ∃ I wr Ph, it = .ref I ∧ (∀ b ∈ wr, s.heap.get? b = none) ∧ Walk1 C A I wr (rangeD a (-1) a.toNat) Ph ∧ Ph 0 (wr ++ X) s₂.heap) s₁) i hi hK boot_range (by decide) (by decide) hb o ok p fun vs s' k p' r => by
    obtain ⟨_, _, _, rfl, ra, rb, rc⟩ := r.inv3
    obtain ⟨u, rfl⟩ := ra.invI
    obtain ⟨u', rfl⟩ := rb.invI
    obtain ⟨u'', rfl⟩ := rc.invI
    have sz := down_size a h0
    have sm := down_small a h0 h1
    exact call_range_3 (by decide) (src_range o (kTrans k (kPush _ (by omega))) (IsRange.new ..) sm sz)
end
end Mine
end
section
open PySem PySem.W PyProof.Rows PySem.Calls PySem.Spec
set_option maxRecDepth 100000
namespace Mine
section
variable {C : Cx} {n : Nat} {nm : Names} {ρ : Rho}
noncomputable def keysD (ds : List (Str × D)) : List D := ds.map fun p => .str p.1
theorem RepD.at' {X : List Addr} {h : Heap} {vs : List (Str × Value)} {ds : List (Str × D)} (r : RepD C X h vs ds) {i : Nat} {p : Str × Value} (e : vs[i]? = some p) : ∃ d, ds[i]? = some (p.1, d) := by
  induction vs generalizing ds i with
  | nil => simp at e
  | cons v vs ih =>
    cases r with
    | cons a r =>
      cases i with
      | zero => simp at e; subst e; exact ⟨_, rfl⟩
      | succ i => exact ih r (by simpa using e)
/-- for x in a dict: its keys -/
theorem Src1.keys {e : Expr} {ds : List (Str × D)} (h : Ev C n nm ρ e 0 (.dict ds)) (hk : ∀ p ∈ ds, PyData.strOk p.1 = true) : Src1 C n nm ρ e (keysD ds) := .mk fun A env X s o ok p =>
  h.then0 o ok p fun v s₁ k p' r => by
    cases r with
    | @dict d kvs _ ha hs e rl =>
      obtain ⟨ep, hat⟩ := e.dictAt
      have hne : d ≠ s₁.heap.objs.size := Nat.ne_of_lt hat.lt_size
      refine wpAny_pyIter_dict (sysOff hs) hat ⟨kTrans k (kPush (t := s₁.toks) _ (Nat.le_refl _)), _, [s₁.heap.objs.size], _, rfl, fun b hb => ?_, Walk1.of (Walks.dictKeys (knd := PySem.strKind C.prog C.w) o.handled s₁.heap.objs.size d hne kvs ep) (keysD ds) (by simp [keysD, rl.length]) (fun i h st b hb => ?_), ⟨⟨⟨_, Heap.get?_push_size _ rfl, rfl, rfl⟩, hat.push _⟩, fun b hb => by simp at hb; simp [hb], fun b hb => ?_, fun j u dd hu hd => ?_⟩⟩
      · simp at hb; subst hb; exact kNone k (size_none (Nat.le_refl _))
      · simp at hb
        rcases hb with rfl | rfl
        · obtain ⟨o, e, _⟩ := st.1; exact ⟨o, e⟩
        · obtain ⟨o, _, e, _⟩ := st.2; exact ⟨o, e⟩
      · simp at hb
        rcases hb with rfl | rfl
        · exact .inl (by simp)
        · exact .inr fun m => by
            rcases List.mem_append.mp m with m | m
            · simp at m; exact hne m
            · exact ha m
      · obtain ⟨q, x, hx, hq⟩ := hu
        obtain ⟨d', hd'⟩ := rl.at' hx
        have hq' : ∃ t, u = .str q t := by
          cases u <;> first | exact ⟨_, by (have := of_decide_eq_true hq; subst this; rfl)⟩ | (cases hq)
        obtain ⟨t, rfl⟩ := hq'
        unfold keysD at hd
        rw [List.getElem?_map, hd'] at hd
        cases hd
        exact .str _ _ (hk _ (List.mem_of_getElem? hd'))
end
end Mine
end
section
open PySem PySem.W PyProof.Rows PySem.Calls PySem.Spec
set_option maxRecDepth 100000
namespace Mine
section
variable {C : Cx} {n : Nat} {nm : Names} {ρ : Rho}
noncomputable def prD (ps : List (D × D)) : List D := ps.map fun p => .tup [p.1, p.2]
theorem prD_len (ps : List (D × D)) : (prD ps).length = ps.length := by simp [prD]
/-- what stands at a place of a list of pairs -/
noncomputable def TupAt (C : Cx) (X : List Addr) (h : Heap) (vs : List Value) (ps : List (D × D)) (j : Nat) (q : Addr × Value × Value) : Prop :=
  ∀ d, ps[j]? = some d → vs[j]? = some (.ref q.1) ∧ q.1 ∉ X ∧ h.IsTuple q.1 #[q.2.1, q.2.2] ∧ Rep C X h q.2.1 d.1 ∧ Rep C X h q.2.2 d.2
theorem tupAt {X : List Addr} {h : Heap} {vs : List Value} {ps : List (D × D)} (r : RepL C X h vs (prD ps)) (j : Nat) : ∃ q, TupAt C X h vs ps j q := by
  unfold TupAt
  cases e : ps[j]? with
  | none => exact ⟨(0, .none, .none), fun d hd => nomatch hd⟩
  | some d =>
    have e' : (prD ps)[j]? = some (.tup [d.1, d.2]) := by unfold prD; rw [List.getElem?_map, e]; rfl
    obtain ⟨v, hv, rv⟩ := r.get e'
    cases rv with
    | @tup a us m _ ha ho ru =>
      cases ru with
      | cons r1 ru =>
        cases ru with
        | cons r2 ru =>
          cases ru
          exact ⟨(a, _, _), fun d' hd => by cases hd; exact ⟨hv, ha, ⟨_, ho, rfl, m, rfl⟩, r1, r2⟩⟩
/-- for a, b in a list of pairs -/
theorem Src2.pairs {e : Expr} {ps : List (D × D)} (h : Ev C n nm ρ e 0 (.list (prD ps))) : Src2 C n nm ρ e ps := .mk fun A env X s o ok p =>
  h.then0 o ok p fun v s₁ k p' r => by
    cases r with
    | @list l vs m _ ha e rl =>
      have hl := listO_isList e
      have hne : l ≠ s₁.heap.objs.size := Nat.ne_of_lt (Heap.lt_size e)
      have hlen : vs.length = ps.length := by rw [rl.length, prD_len]
      obtain ⟨F, hF⟩ := Classical.axiomOfChoice (tupAt rl)
      have get : ∀ j, j < vs.toArray.size → ∃ d, ps[j]? = some d := fun j hj => ⟨_, List.getElem?_eq_getElem (by simpa [hlen] using hj)⟩
      have hit : ∀ j, j < vs.toArray.size → vs.toArray[j]? = some (.ref (F j).1) := fun j hj => by
        obtain ⟨d, hd⟩ := get j hj
        have := (hF j d hd).1
        simpa using this
      have tup : ∀ j, j < vs.toArray.size → s₁.heap.IsTuple (F j).1 #[(F j).2.1, (F j).2.2] := fun j hj => by
        obtain ⟨d, hd⟩ := get j hj
        exact (hF j d hd).2.2.1
      have hTI : ∀ j, j < vs.toArray.size → (F j).1 ≠ s₁.heap.objs.size := fun j hj e' => by
        obtain ⟨o, ho, _⟩ := tup j hj
        exact absurd (Heap.lt_size ho) (by rw [e']; exact Nat.lt_irrefl _)
      have W := WalksU.listOfTuples (prog := C.prog) (w := C.w) o.handled s₁.heap.objs.size l hne vs.toArray (fun j => (F j).1) (fun j => #[(F j).2.1, (F j).2.2]) hit hTI
      have up : ∀ b o', s₁.heap.get? b = some o' → (s₁.heap.push { cls := .type "list_iterator", data := .fields #[.ref l, .int 0 0] }).get? b = some o' := fun b o' e => Heap.get?_push_of_some _ e
      refine wpAny_pyIter_list hl ⟨kTrans k (kPush (t := s₁.toks) _ (Nat.le_refl _)), _, [s₁.heap.objs.size], _, rfl, fun b hb => ?_, Walk2.of W ps (by simp [hlen]) (fun i h st b hb => ?_), ⟨⟨⟨_, Heap.get?_push_size _ rfl, rfl, rfl⟩, hl.push _, fun j hj => (tup j hj).at fun o' e => up _ o' e⟩, fun b hb => by simp at hb; simp [hb], fun b hb => ?_, fun j u d hu hd => ?_⟩⟩
      · simp at hb; subst hb; exact kNone k (size_none (Nat.le_refl _))
      · rcases List.mem_cons.mp hb with rfl | hb
        · obtain ⟨o, e, _⟩ := st.1; exact ⟨o, e⟩
        · rcases List.mem_cons.mp hb with rfl | hb
          · obtain ⟨o, e, _⟩ := st.2.1; exact ⟨o, e⟩
          · obtain ⟨j, hj, rfl⟩ := List.mem_map.mp hb
            obtain ⟨o, e, _⟩ := st.2.2 j (List.mem_range.mp hj); exact ⟨o, e⟩
      · rcases List.mem_cons.mp hb with rfl | hb
        · exact .inl (by simp)
        · refine .inr fun m => ?_
          rcases List.mem_cons.mp hb with rfl | hb
          · rcases List.mem_append.mp m with m | m
            · simp at m; exact hne m
            · exact ha m
          · obtain ⟨j, hj, rfl⟩ := List.mem_map.mp hb
            rcases List.mem_append.mp m with m | m
            · simp at m; exact hTI j (List.mem_range.mp hj) m
            · obtain ⟨d, hd⟩ := get j (List.mem_range.mp hj)
              exact (hF j d hd).2.1 m
      · obtain ⟨_, _, _, r1, r2⟩ := hF j d hd
        have K : Keep X ([s₁.heap.objs.size] ++ X) s₁.heap (s₁.heap.push { cls := .type "list_iterator", data := .fields #[.ref l, .int 0 0] }) := ⟨fun b o _ e => up b o e, fun b o e m => by
          rcases List.mem_append.mp m with m | m
          · simp at m; subst m; exact absurd (Heap.lt_size e) (Nat.lt_irrefl _)
          · exact m⟩
        exact ⟨_, _, hu, r1.keep K, r2.keep K⟩
/-- for a, b in zip(xs, ys) -/
theorem Src2.zip {px pos : Pos} {e e' : Expr} {xs ys : List D} (i : Nat) (hi : nm[i]? = some (("zip" : Str), NameKind.globalImplicit)) (hK : nsIn C.K mainGlobals ("zip" : Str) = some Option.none) (he : Evs C n nm ρ [e, e'] [.list xs, .list ys]) (hl : xs.length = ys.length) :
    Src2 C n nm ρ (.Call (.Name "zip" px) [e, e'] [] pos) (xs.zip ys) := .mk fun A env X s o ok p =>
  tcall (Q := fun xv s₁ => Wp C A (pyIter xv) (fun it s₂ => Kp s s₂ ∧ ∃ I wr Ph, it = .ref I ∧ (∀ b ∈ wr, s.heap.get? b = none) ∧ Walk2 C A I wr (xs.zip ys) Ph ∧ Ph 0 (wr ++ X) s₂.heap) s₁) i hi hK boot_zip (by decide) (by decide) he o ok p fun vs s' k p' r => by
    obtain ⟨_, _, rfl, qa, qb⟩ := r.inv2
    obtain ⟨l1, us, m1, rfl, ha1, e1, r1⟩ := qa.invL
    obtain ⟨l2, ws, m2, rfl, ha2, e2, r2⟩ := qb.invL
    have hl1 := listO_isList e1
    have hl2 := listO_isList e2
    have lt1 := Heap.lt_size e1
    have lt2 := Heap.lt_size e2
    refine call_zip_2 hl1 hl2 fun h' hz hTI hTO hi1 hi2 hsz hk => ?_
    have kk : Kp s' { s' with heap := h' } := kHeap (t := s'.toks) hk (Nat.le_refl _)
    have fresh : ∀ j, s'.heap.get? (s'.heap.objs.size + j) = none := fun j => size_none (Nat.le_add_right _ _)
    have big : ∀ (l : Addr), l < s'.heap.objs.size → ∀ j, l ≠ s'.heap.objs.size + j := fun l h j => Nat.ne_of_lt (Nat.lt_of_lt_of_le h (Nat.le_add_right _ _))
    have W := (WalksT.zip2 (prog := C.prog) (w := C.w) o.handled (s'.heap.objs.size + 4) (s'.heap.objs.size + 2) (s'.heap.objs.size + 3) s'.heap.objs.size (s'.heap.objs.size + 1) l1 l2 (zipApart_new lt1 lt2) us.toArray ws.toArray).toU
    have hmin : min us.toArray.size ws.toArray.size = (xs.zip ys).length := by simp [r1.length, r2.length, hl]
    have new : ∀ b ∈ [s'.heap.objs.size + 4, s'.heap.objs.size + 3, s'.heap.objs.size, s'.heap.objs.size + 1], s'.heap.get? b = none := allC (fresh 4) (allC (fresh 3) (allC (fresh 0) (allC (fresh 1) allN)))
    have offX : ∀ b, s'.heap.get? b = none → b ∉ X := fun b hb m => by
      obtain ⟨o, e⟩ := p'.gr.live b m
      rw [hb] at e; cases e
    have K : Keep X ([s'.heap.objs.size + 4, s'.heap.objs.size + 3, s'.heap.objs.size, s'.heap.objs.size + 1] ++ X) s'.heap h' := ⟨fun b o _ e => hk b o e, fun b o e m => by
      rcases List.mem_append.mp m with m | m
      · rw [new b m] at e; cases e
      · exact m⟩
    refine wpAny_pyIter_zip hz ⟨kTrans k kk, _, [s'.heap.objs.size + 4, s'.heap.objs.size + 3, s'.heap.objs.size, s'.heap.objs.size + 1], _, rfl, fun b hb => kNone k (new b hb), Walk2.of W (xs.zip ys) hmin.symm (fun i h st b hb => ?_), ⟨⟨hz, hTI, ⟨_, _, hTO⟩, hi1, hi2, hl1.at fun o e => hk _ o e, hl2.at fun o e => hk _ o e⟩, fun b hb => List.mem_append.mpr (.inl hb), fun b hb => ?_, fun j u d hu hd => ?_⟩⟩
    · obtain ⟨hz, hTI, ⟨_, _, hTO⟩, h1, h2, hl1, hl2⟩ := st
      revert b
      exact allC ⟨_, hz⟩ (allC ⟨_, hTI⟩ (allC ⟨_, hTO⟩ (allC (h1.elim fun o e => ⟨o, e.1⟩) (allC (h2.elim fun o e => ⟨o, e.1⟩) (allC (hl1.elim fun o e => ⟨o, e.1⟩) (allC (hl2.elim fun o e => ⟨o, e.1⟩) allN))))))
    · have notw : ∀ l : Addr, l < s'.heap.objs.size → l ∉ [s'.heap.objs.size + 4, s'.heap.objs.size + 3, s'.heap.objs.size, s'.heap.objs.size + 1] := fun l h m => allC (P := fun x => l ≠ x) (big l h 4) (allC (big l h 3) (allC (big l h 0) (allC (big l h 1) allN))) l m rfl
      have nm : ∀ {l : Addr}, l ∉ [s'.heap.objs.size + 4, s'.heap.objs.size + 3, s'.heap.objs.size, s'.heap.objs.size + 1] → l ∉ X → l ∉ [s'.heap.objs.size + 4, s'.heap.objs.size + 3, s'.heap.objs.size, s'.heap.objs.size + 1] ++ X := fun h h' m => (List.mem_append.mp m).elim h h'
      have n2 : s'.heap.objs.size + 2 ∉ [s'.heap.objs.size + 4, s'.heap.objs.size + 3, s'.heap.objs.size, s'.heap.objs.size + 1] := by simp
      revert b
      exact allC (.inl (by simp)) (allC (.inr (nm n2 (offX _ (fresh 2)))) (allC (.inl (by simp)) (allC (.inl (by simp)) (allC (.inl (by simp)) (allC (.inr (nm (notw _ lt1) ha1)) (allC (.inr (nm (notw _ lt2) ha2)) allN))))))
    · obtain ⟨x, y, hx, hy, rfl⟩ := hu
      obtain ⟨d1, hd1, q1⟩ := r1.get' (i := j) (v := x) (by simpa using hx)
      obtain ⟨d2, hd2, q2⟩ := r2.get' (i := j) (v := y) (by simpa using hy)
      rw [List.getElem?_zip_eq_some] at hd
      rw [hd1, hd2] at hd
      obtain ⟨e1, e2⟩ := hd
      cases e1
      have e2' : d2 = d.2 := Option.some.inj e2
      exact ⟨x, y, rfl, q1.keep K, e2' ▸ q2.keep K⟩
end
end Mine
end
section
open PySem PySem.W PyProof.Rows PySem.Calls PySem.Spec
set_option maxRecDepth 100000
namespace Mine
section
variable {C : Cx} {n : Nat} {nm : Names} {ρ : Rho}
/-- list(xs): a list of one's own -/
theorem EvF.copy {px pos : Pos} {e : Expr} {ds : List D} (i : Nat) (hi : nm[i]? = some (("list" : Str), NameKind.globalImplicit)) (hK : nsIn C.K mainGlobals ("list" : Str) = some Option.none) (h : Evs C n nm ρ [e] [.list ds]) (hz : ds.length ≤ 100000) :
    EvF C n nm ρ (.Call (.Name "list" px) [e] [] pos) 1 (.list ds) := .mk fun A env X s o ok p =>
  tcall (Q := fun v s' => Kp s s' ∧ ∃ N, RepO C (N ++ X) s'.heap 1 v (.list ds) N ∧ (∀ b ∈ N, s.heap.get? b = none) ∧ N.Nodup) i hi hK boot_list (by decide) (by decide) h o ok p fun vs s' k p' r => by
    obtain ⟨_, rfl, a⟩ := r.inv1
    obtain ⟨l, us, m, rfl, ha, e, rl⟩ := a.invL
    have sz : sizeLine = 16777216 := by decide +kernel
    refine call_list_seq l (.inl rfl) e rfl rfl (fun h' c' hk hl => ?_) (by simp [rl.length]; omega)
    have hn : s'.heap.get? s'.heap.objs.size = none := size_none (Nat.le_refl _)
    refine ⟨kTrans k (kHeap (t := s'.toks) hk (Nat.le_refl _)), [s'.heap.objs.size], .list hl (RepL.toO (rl.keep ⟨fun b o _ e => hk b o e, fun b o e m => ?_⟩)), fun b hb => ?_, by simp⟩
    · rcases List.mem_append.mp m with m | m
      · simp at m; subst m; rw [hn] at e; cases e
      · exact m
    · simp at hb; subst hb; exact kNone k hn
theorem RepL.of {X : List Addr} {h : Heap} : ∀ {vs : List Value} {ds : List D}, vs.length = ds.length → (∀ (i : Nat) v d, vs[i]? = some v → ds[i]? = some d → Rep C X h v d) → RepL C X h vs ds
  | [], [], _, _ => .nil
  | [], d :: ds, e, _ => by cases e
  | v :: vs, [], e, _ => by cases e
  | v :: vs, d :: ds, e, h => .cons (h 0 v d rfl rfl) (RepL.of (Nat.succ.inj e) fun i v d a b => h (i + 1) v d a b)
theorem rangeD_at {a c : Int} {n i : Nat} {d : D} (h : (rangeD a c n)[i]? = some d) : d = .int (a + (i : Int) * c) := by
  unfold rangeD at h
  rw [List.getElem?_map] at h
  cases e : (List.range n)[i]? with
  | none => rw [e] at h; cases h
  | some j =>
    rw [e] at h; cases h
    have := List.getElem?_eq_some_iff.mp e
    obtain ⟨h1, h2⟩ := this
    simp at h2; subst h2; rfl
theorem Rep.ints {X : List Addr} {h : Heap} {l : Addr} {acc : Array Value} {c : Nat} {a b : Int} {n : Nat} (hl : l ∉ X) (e : h.get? l = some { cls := .type "list", dict := Option.none, data := .seq acc c, slots := #[] }) (hI : ItemsOf (fun i v => ∃ t, v = .int (a + i * b) t) acc n) : Rep C X h (.ref l) (.list (rangeD a b n)) := by
  have e' : h.get? l = some (listO acc.toList c) := by rw [e]; simp [listO]
  refine .list hl e' (RepL.of (by simp [rangeD, hI.1]) fun i v d hv hd => ?_)
  obtain ⟨t, rfl⟩ := hI.2 i v (by simpa using hv)
  rw [rangeD_at hd]
  exact .int _ _
/-- list(range(a)) -/
theorem Ev.range1 {px pos px' pos' : Pos} {e : Expr} {b : Int} (i j : Nat) (hi : nm[i]? = some (("list" : Str), NameKind.globalImplicit)) (hj : nm[j]? = some (("range" : Str), NameKind.globalImplicit)) (hK : nsIn C.K mainGlobals ("list" : Str) = some Option.none) (hK' : nsIn C.K mainGlobals ("range" : Str) = some Option.none) (h : Evs C n nm ρ [e] [.int b]) (h0 : 0 ≤ b) (h1 : b < 1000000) :
    Ev C n nm ρ (.Call (.Name "list" px) [.Call (.Name "range" px') [e] [] pos'] [] pos) 0 (.list (rangeD 0 1 b.toNat)) := .mk fun A env X s o ok p => by
  refine wp_up ?_
  refine Call_Name rfl (load_boot ok p (lookup_at ok.nodup hi) hK boot_list (by decide) ?_ (by decide) px)
  refine PySem.callWith_type rfl (evalArgs_plain (spliced_cons (wp_mono (tcall (Q := fun v s₁ => ∃ r t u w, v = .ref r ∧ Kp s s₁ ∧ IsRange s₁.heap r 0 b 1 t u w) j hj hK' boot_range (by decide) (by decide) h o ok p fun vs s' k p' r => ?_) fun v s' hv => spliced_nil ?_)))
  · obtain ⟨_, rfl, a⟩ := r.inv1
    obtain ⟨u, rfl⟩ := a.invI
    exact call_range_1 ⟨_, _, _, _, rfl, kTrans k (kPush _ (by omega)), IsRange.new ..⟩
  · obtain ⟨r, t, u, w, rfl, k, hr⟩ := hv
    refine call_list_range o.handled hr (small_one (by omega) (by omega) (by omega) (by omega)) (n := b.toNat) (by rw [rangeSize_nat h0]; simp) (by omega) fun h' tk acc' c' hk hl hI l => ?_
    have hn : s.heap.get? s'.heap.objs.size = Option.none := kNone k (size_none (Nat.le_refl _))
    refine .mk ?_ (Rep.ints (fun m => ?_) hl hI)
    · obtain ⟨⟨h0, t0, rfl, kk⟩, _⟩ := k
      exact ⟨⟨h', tk, rfl, fun b o e => hk b o (kk b o e)⟩, l⟩
    · obtain ⟨o, e⟩ := p.gr.live _ m
      rw [hn] at e; cases e
end
end Mine
end
section
open PySem PySem.W PyProof.Rows PySem.Calls PySem.Spec
set_option maxRecDepth 100000
namespace Mine
section
variable {C : Cx} {n : Nat} {nm : Names} {ρ : Rho}
/-- list(range(a, b)) -/
theorem Ev.range2 {px pos px' pos' : Pos} {e e' : Expr} {a b : Int} (i j : Nat) (hi : nm[i]? = some (("list" : Str), NameKind.globalImplicit)) (hj : nm[j]? = some (("range" : Str), NameKind.globalImplicit)) (hK : nsIn C.K mainGlobals ("list" : Str) = some Option.none) (hK' : nsIn C.K mainGlobals ("range" : Str) = some Option.none) (h : Evs C n nm ρ [e, e'] [.int a, .int b]) (h0 : -1000000 ≤ a) (hab : a ≤ b) (h1 : b < 1000000) :
    Ev C n nm ρ (.Call (.Name "list" px) [.Call (.Name "range" px') [e, e'] [] pos'] [] pos) 0 (.list (rangeD a 1 (b - a).toNat)) := .mk fun A env X s o ok p => by
  refine wp_up ?_
  refine Call_Name rfl (load_boot ok p (lookup_at ok.nodup hi) hK boot_list (by decide) ?_ (by decide) px)
  refine PySem.callWith_type rfl (evalArgs_plain (spliced_cons (wp_mono (tcall (Q := fun v s₁ => ∃ r t u w, v = .ref r ∧ Kp s s₁ ∧ IsRange s₁.heap r a b 1 t u w) j hj hK' boot_range (by decide) (by decide) h o ok p fun vs s' k p' r => ?_) fun v s' hv => spliced_nil ?_)))
  · obtain ⟨_, _, rfl, x, y⟩ := r.inv2
    obtain ⟨u, rfl⟩ := x.invI
    obtain ⟨u', rfl⟩ := y.invI
    exact call_range_2 ⟨_, _, _, _, rfl, kTrans k (kPush _ (by omega)), IsRange.new ..⟩
  · obtain ⟨r, t, u, w, rfl, k, hr⟩ := hv
    refine call_list_range o.handled hr (small_one (by omega) (by omega) (by omega) (by omega)) (n := (b - a).toNat) (rangeSize_nat hab) (by omega) fun h' tk acc' c' hk hl hI l => ?_
    have hn : s.heap.get? s'.heap.objs.size = Option.none := kNone k (size_none (Nat.le_refl _))
    refine .mk ?_ (Rep.ints (fun m => ?_) hl hI)
    · obtain ⟨⟨h0, t0, rfl, kk⟩, _⟩ := k
      exact ⟨⟨h', tk, rfl, fun b o e => hk b o (kk b o e)⟩, l⟩
    · obtain ⟨o, e⟩ := p.gr.live _ m
      rw [hn] at e; cases e
/-- d.get(x, y) -/
theorem Ev.get {o e e' : Expr} {apos pos : Pos} {k : Nat} {ds : List (Str × D)} {x : Str} {d : D} (hk : k ≤ 1) (h : Ev C n nm ρ o k (.dict ds)) (h' : Ev C n nm ρ e 0 (.str x)) (h'' : Ev C n nm ρ e' 0 d)
    (hst : ∀ env, starEach [e, e'] env = [(false, eval e env), (false, eval e' env)])
    (hbase : ∀ env, attributeBase o "get" env (eval o env) = eval o env := by intro _; rfl) (hline : (apos.endLine == pos.line) = true := by rfl) :
    Ev C n nm ρ (.Call (.Attribute o "get" apos) [e, e'] [] pos) 0 ((dget ds x).getD d) := .mk fun A env X s oo ok p =>
  Call_method2 (hbase env) (hst env) hline (h.then oo ok p fun v s₁ k₁ p₁ ⟨T, q⟩ => by
    obtain ⟨a, kvs, rfl, hs, e1, r1⟩ := dict_of hk q
    have e0 := e1
    obtain ⟨ob, es, ep, ho, hx, hrest⟩ := e0
    refine ⟨"dict", _, F.plainAttrs_dict, F.slot_dict_get, F.type_dict_get, ⟨ob, ho, hx.1⟩, fun b hb => by cases hb; exact ⟨ob, ho, hx.2.1⟩, wpAny_dict_get2 (knd := PySem.strKind C.prog C.w) (sysOff hs) (h'.then0 oo ok p₁ fun u s₂ k₂ p₂ r₂ => h''.then0 oo ok p₂ fun u' s₃ k₃ p₃ r₃ => ?_)⟩
    obtain ⟨t, rfl, _⟩ := r₂.invS
    have e3 : C.dictOf s₃.heap a kvs := (e1.keep (kGet k₂)).keep (kGet k₃)
    refine ⟨x, valueAt kvs, strKind_is _ _ x t, e3.mapOf, ?_⟩
    have kk := kTrans k₁ (kTrans k₂ (kTrans k₃ (kToks (t := s₃.toks + 1) (Nat.le_succ _))))
    have f := r1.find x
    cases hd : dget ds x with
    | none =>
      rw [hd] at f
      rw [f]
      exact .mk kk r₃
    | some d' =>
      rw [hd] at f
      obtain ⟨v, hv, rv⟩ := f
      rw [hv]
      exact .mk kk (rv.keep ⟨fun b o _ e => kGet k₃ b o (kGet k₂ b o e), fun _ _ _ m => m⟩))
end
end Mine
end
section
open PySem PySem.W PyProof.Rows PySem.Calls PySem.Spec
set_option maxRecDepth 100000
namespace Mine
section
variable {C : Cx} {n : Nat} {nm : Names} {ρ : Rho}
noncomputable def isTxt (x : Str) : Value → Bool
  | .str a _ => a == x
  | _ => false
/-- xs.index(x) for texts -/
theorem Ev.index {o e : Expr} {apos pos : Pos} {xs : List Str} {x : Str} (h : Ev C n nm ρ o 0 (.list (xs.map .str))) (h' : Ev C n nm ρ e 0 (.str x)) (hm : x ∈ xs) (hz : xs.length ≤ 1000000)
    (hst : ∀ env, starEach [e] env = [(false, eval e env)]) (hbase : ∀ env, attributeBase o "index" env (eval o env) = eval o env := by intro _; rfl) (hline : (apos.endLine == pos.line) = true := by rfl) :
    Ev C n nm ρ (.Call (.Attribute o "index" apos) [e] [] pos) 0 (.int ((xs.idxOf x : Nat) : Int)) := .mk fun A env X s oo ok p =>
  Call_method1 (hbase env) (hst env) hline (h.then0 oo ok p fun v s₁ k₁ p₁ q => by
    cases q with
    | @list l vs m _ ha e1 rl =>
      have hl := listO_isList e1
      refine ⟨"list", _, F.plainAttrs_list, F.slot_list_index, F.type_list_index, hl.typeIs, fun b hb => by cases hb; exact ⟨_, e1, rfl⟩, callWith_builtin rfl (evalArgs_plain (spliced_cons (h'.then0 oo ok p₁ fun u s₂ k₂ p₂ r₂ => spliced_nil ?_)))⟩
      obtain ⟨t, rfl, _⟩ := r₂.invS
      have e2 := kGet k₂ _ _ e1
      have hlen : vs.length = xs.length := by rw [rl.length, List.length_map]
      have hj : xs.idxOf x < xs.length := List.idxOf_lt_length_iff.mpr hm
      have at_ : ∀ i, (hi : i < xs.length) → ∃ t, vs[i]? = some (.str xs[i] t) := fun i hi => by
        obtain ⟨v, hv, rv⟩ := rl.get (i := i) (d := .str xs[i]) (by rw [List.getElem?_map, List.getElem?_eq_getElem hi]; rfl)
        obtain ⟨t, rfl, _⟩ := rv.invS
        exact ⟨t, hv⟩
      have at2 : ∀ i (hi : i < vs.toArray.size), isTxt x vs.toArray[i] = (xs[i]'(by simpa [hlen] using hi) == x) := fun i hi => by
        obtain ⟨t, ht⟩ := at_ i (by simpa [hlen] using hi)
        have : vs.toArray[i] = .str (xs[i]'(by simpa [hlen] using hi)) t := by
          have h1 : vs[i]'(by simpa using hi) = .str (xs[i]'(by simpa [hlen] using hi)) t := by
            rw [List.getElem?_eq_getElem (by simpa using hi)] at ht
            exact Option.some.inj ht
          simpa using h1
        rw [this]; rfl
      refine call_meets F.slot_list_index ⟨_, e2, rfl⟩ F.entry_list_index (F.args_list_index_2 _ _)
        (PySem.SeqAt.list_indexAt l vs.toArray m Option.none #[] (.str x t) (isTxt x) (xs.idxOf x) (by simpa [hlen] using hj) (by omega) ?_ fun i hi hlt => ?_) ⟨e2, fun y hy => ?_, .mk (kTrans k₁ (kTrans k₂ (kToks (Nat.le_succ _)))) (.int _ _)⟩
      · rw [at2, beq_iff_eq]
        exact List.getElem_idxOf hj
      · rw [at2]
        have := List.not_of_lt_findIdx (p := (· == x)) (xs := xs) (i := i) hlt
        simpa using this
      · obtain ⟨i, hi, rfl⟩ := List.getElem_of_mem (show y ∈ vs by simpa using hy)
        obtain ⟨t', ht⟩ := at_ i (by omega)
        rw [List.getElem?_eq_getElem hi] at ht
        rw [Option.some.inj ht]
        exact (eqGives_str _ _ _ _).at _ _)
end
end Mine
end
section
open PySem PySem.W PyProof.Rows PySem.Calls PySem.Spec
set_option maxRecDepth 100000
namespace Mine
/-- the second `for` of a comprehension is begun -/
theorem compStart_two {C : Cx} {A : Around} {elt t1 i1 t2 i2 : Expr} {f1 f2 : List Expr} {scope : Scope} {pos : Pos} {it acc : Value} {env : Env} {R : Result → Shared → Prop} {s : Shared}
    (h0 : codeAny (model C.prog C.w) A (.compLoop (.ListComp elt [⟨t1, i1, f1, 0⟩, ⟨t2, i2, f2, 0⟩] scope pos) 1 it acc env) R s)
    (h : wpAny (model C.prog C.w) A (pyIter it) (fun it' s' => codeAny (model C.prog C.w) A (.compLoop (.ListComp elt [⟨t1, i1, f1, 0⟩, ⟨t2, i2, f2, 0⟩] scope pos) 1 it' acc env) R s') (notedBy (model C.prog C.w) A env fun x s' => R (.error x) s') s) :
    codeAny (model C.prog C.w) A (.compStart (.ListComp elt [⟨t1, i1, f1, 0⟩, ⟨t2, i2, f2, 0⟩] scope pos) 1 it acc env) R s := by
  refine codeAny_of_tree ?_
  show wpAny _ _ ((compStart (.ListComp elt [⟨t1, i1, f1, 0⟩, ⟨t2, i2, f2, 0⟩] scope pos) 1 it acc env).onRaise (fun x => do noteFrame x env; standAt theWindowsPlace)) _ _ s
  refine wpAny_notedAt ?_
  unfold compStart
  show wpAny _ _ (ask >>= _) _ _ s
  refine wpAny_bind (wpAny_askSetting (wpAny_ite ?_))
  split
  · first
      | exact wpAny_bind (wpAny_pure (wpAny_pure (And.intro rfl h0)))
      | exact wpAny_pure (And.intro rfl h0)
  · refine wpAny_bind (wpAny_rule ?_)
    show wpAny _ _ (standAt i2.pos >>= _) _ _ s
    exact wpAny_bind (wpAny_standAt (wpAny_bind (wpAny_mono h (fun it' s' h' => wpAny_pure (And.intro rfl h')) fun _ _ x => x)))
/-- what a turn of the outer `for` does -/
noncomputable def em2 (elt t1 i1 t2 i2 : Expr) (f1 f2 : List Expr) (scope : Scope) (pos : Pos) (env : Env) (l : Addr) : Sem Unit := do
  let x ← eval i2 env
  standAt i2.pos
  let x ← foldedSetIterable i2 env x
  let _ ← runOwn (.compStart (.ListComp elt [⟨t1, i1, f1, 0⟩, ⟨t2, i2, f2, 0⟩] scope pos) 1 (← holding [x] (pyIter x)) (.ref l) env) env
noncomputable def EM2 (C : Cx) (n : Nat) (nm : Names) (elt t2 i2 : Expr) (f2 : List Expr) (ρ : Rho) (ds : List D) : Prop :=
  ∃ N bind, Src C n nm ρ i2 nm t2 N bind ∧ (∀ i, i < N → Less ρ (bind i ρ)) ∧ CLoop C n nm f2 bind N (EM1 C n nm elt) ρ 0 ds
theorem emit2 {C : Cx} {n : Nat} {nm : Names} {elt t1 i1 t2 i2 : Expr} {f1 f2 : List Expr} {scope : Scope} {pos : Pos} (hs : ∀ env x, foldedSetIterable i2 env x = pure x) (env : Env) (A : Around) (l : Addr) (s : Shared) (oo : Ok n A) (ok : EnvOk nm env) (nl : NewL C nm env s l) (ρ : Rho) (ds : List D) (h : EM2 C n nm elt t2 i2 f2 ρ ds) :
    EmitOk C A nm env s l ρ (em2 elt t1 i1 t2 i2 f1 f2 scope pos env l) ds := by
  obtain ⟨N, bind, src, lb, run⟩ := h
  intro Xc M T s' outs f hl hz acc
  unfold em2
  refine wpAny_bind (wp_mono (src.go A env (M ++ Xc) s' oo ok f.pre) fun xv s₁ h₁ => wpAny_bind (wpAny_standAt (wpAny_bind (wpAny_of_eq (hs env xv) (wpAny_bind (wpAny_holding (wp_mono h₁ fun it s₂ h => ?_)))))))
  obtain ⟨k, I, wr, Ph, rfl, hn, W, ph⟩ := h
  have hk0 : Kp s s' := f.kp.to
  have hn0 : ∀ b ∈ wr, s.heap.get? b = none := fun b hb => kNone hk0 (hn b hb)
  have fr2 : Frm C nm env s [] (wr ++ Xc) M T ρ s₂ := f.growX k hn (W.live _ _ _ ph)
  have hoff : ∀ b ∈ wr, C.h₀.get? b = none := fun b hb => by
    cases e : C.h₀.get? b with
    | none => rfl
    | some o => have := f.gr.old b o e; rw [hn b hb] at this; cases this
  have hfre : ∀ x c, nm.lookup x = some .free → env.cells.lookup x = some c → c ∉ wr := fun x c hx hc hb => by
    obtain ⟨_, o, e⟩ := f.fre x c hx hc
    rw [hn c hb] at e; cases e
  have apt : Apt C nm env s wr (wr ++ Xc) := ⟨fun b hb => List.mem_append.mpr (.inl hb), hn0, hoff, hfre⟩
  have hX : ∀ b ∈ Xc, ∃ o, s'.heap.get? b = some o := fun b hb => f.gr.live b (List.mem_append.mpr (.inr hb))
  have hwd : ∀ b ∈ wr, b ∉ Xc := fun b hb m => by
    obtain ⟨o, e⟩ := hX b m
    rw [hn b hb] at e; cases e
  have ph2 : Ph 0 (M ++ (wr ++ Xc)) s₂.heap := W.stay _ _ _ _ _ ph ⟨fun b o _ e => e, fun b o _ m => by simp only [List.mem_append] at m ⊢; rcases m with m | m | m <;> simp [m]⟩ (fun _ _ _ e => e) fun b hb => by simp [hb]
  obtain ⟨vs, m, e, rl⟩ := acc
  have hlw : l ∉ wr := fun m => hwd l m hl
  have acc2 : Acc C (M ++ (wr ++ Xc)) l outs s₂ := ⟨vs, m, kGet k _ _ e, rl.keep ⟨fun b o _ e => kGet k b o e, fun b o e m => by
    simp only [List.mem_append] at m ⊢
    rcases m with m | m | m
    · exact .inl m
    · rw [hn b m] at e; cases e
    · exact .inr m⟩⟩
  have loop : codeAny (model C.prog C.w) A (.compLoop (.ListComp elt [⟨t1, i1, f1, 0⟩, ⟨t2, i2, f2, 0⟩] scope pos) 1 (.ref I) (.ref l) env) (fun r s'' => match r with
      | .ok _ => ∃ T', Frm C nm env s [] Xc M T' ρ s'' ∧ Acc C (M ++ Xc) l (outs ++ ds) s'' ∧ KpB (l :: M) s' s''
      | .error e => cameBackBy (model C.prog C.w) A env NoE e s'') s₂ := by
    refine cloop_core (em := em1 elt env l) (iter := i2) (tgt := t2) rfl W ok oo lb (emit1 env A l s oo ok nl) apt (fun b hb => ?_) hwd hl run (Nat.zero_le _) fr2 ph2 acc2 hz fun s'' T' f'' a'' k'' => ?_
    · obtain ⟨o, e⟩ := hX b hb; exact ⟨o, kGet k b o e⟩
    · refine ⟨T', f'', a'', ?_⟩
      have k1 : KpB (l :: M) s' s₂ := KpB.of k
      obtain ⟨q1, q2, q3⟩ := k''
      refine ⟨?_, Nat.le_trans k.2 q2, fun b o hb e => q3 b o (fun m => ?_) (kGet k b o e)⟩
      · obtain ⟨h, t, e⟩ := q1
        obtain ⟨⟨h', t', e', _⟩, _⟩ := k
        subst e'
        exact ⟨h, t, e⟩
      · rcases List.mem_append.mp m with m | m
        · rw [hn b m] at e; cases e
        · exact hb m
  refine wpAny_bind (wp_mono (Q := fun _ s'' => ∃ T', Frm C nm env s [] Xc M T' ρ s'' ∧ Acc C (M ++ Xc) l (outs ++ ds) s'' ∧ KpB (l :: M) s' s'') (wpAny_runOwn ?_) fun _ s'' h => wpAny_pure h)
  refine compStart_two loop (wpAny_mono (W.self 0 _ s₂ (fun it' s' => it' = .ref I ∧ s' = s₂) ph2 ⟨rfl, rfl⟩) (fun it' s' h => ?_) fun _ _ x => x.elim)
  obtain ⟨rfl, rfl⟩ := h
  exact loop
end Mine
end
section
open PySem PySem.W PyProof.Rows PySem.Calls PySem.Spec
set_option maxRecDepth 100000
namespace Mine
section
variable {C : Cx} {n : Nat} {nm nm' : Names} {ρ ρ' : Rho}
theorem Comp1.filter2 {elt iter c : Expr} {x x' : Str} {kd kd' : NameKind} {px px' tp : Pos} {k : Nat} {ds : List (D × D)} (fr : List (Option Nat)) (p p' : Nat) (g : D × D → D) (t : D × D → Bool) (src : Src2 C n nm ρ iter ds) (hp : nm'[p]? = some (x, kd)) (hp' : nm'[p']? = some (x', kd')) (q : cmOk nm nm' = true) (hf : frOk nm nm' fr = true) (hl : fr.length = nm'.length)
    (hρ : ∀ e, (rhoC fr ρ)[p]? ≠ some (some e)) (hρ' : ∀ e, (rhoC fr ρ)[p']? ≠ some (some e)) (ht : ∀ d, d ∈ ds → Tst C n nm' (((rhoC fr ρ).set p (some (0, d.1))).set p' (some (0, d.2))) c (t d)) (h : ∀ d, d ∈ ds → t d = true → Ev C n nm' (((rhoC fr ρ).set p (some (0, d.1))).set p' (some (0, d.2))) elt 0 (g d)) (hz : ds.length ≤ 100000) (hk : kd = .local ∨ kd = .cell := by first | exact .inl rfl | exact .inr rfl) (hk' : kd' = .local ∨ kd' = .cell := by first | exact .inl rfl | exact .inr rfl) (hs : ∀ env x, foldedSetIterable iter env x = pure x := by intro _ _; rfl) :
    Comp1 C n nm ρ elt (.Tuple [.Name x px, .Name x' px'] k tp) iter [c] nm' ((ds.filter t).map g) :=
  ⟨rhoC fr ρ, ds.length, _, .of q, .of hf hl, .of2 src p p' hp hp' hk hk', fun i hi => .set2 hρ hρ', by
    rw [← filter_getD2 t g ds]
    exact cloop_filter (fun i hi => ht _ (getD2_mem hi)) (fun i hi => h _ (getD2_mem hi)) ds.length 0 (by omega), Nat.le_trans (by rw [List.length_map]; exact List.length_filter_le _ _) hz, hs⟩
/-- a comprehension with two fors -/
structure Comp2 (C : Cx) (n : Nat) (nm : Names) (ρ : Rho) (elt t1 i1 : Expr) (f1 : List Expr) (t2 i2 : Expr) (f2 : List Expr) (nm' : Names) (ds : List D) : Prop where
  h : ∃ ρ' N bind, CmOk nm nm' ∧ RhoC nm ρ nm' ρ' ∧ Src C n nm ρ i1 nm' t1 N bind ∧ (∀ i, i < N → Less ρ' (bind i ρ')) ∧ CLoop C n nm' f1 bind N (EM2 C n nm' elt t2 i2 f2) ρ' 0 ds ∧ ds.length ≤ 100000 ∧ (∀ env x, foldedSetIterable i1 env x = pure x) ∧ (∀ env x, foldedSetIterable i2 env x = pure x)
theorem Ev.comp2 {elt t1 i1 t2 i2 : Expr} {f1 f2 : List Expr} {pos : Pos} {ds : List D} (c : Comp2 C n nm ρ elt t1 i1 f1 t2 i2 f2 nm' ds) : Ev C n nm ρ (.ListComp elt [⟨t1, i1, f1, 0⟩, ⟨t2, i2, f2, 0⟩] (fnScope nm') pos) 0 (.list ds) := .mk fun A env X s oo ok p => by
  rw [eval_ListComp]
  obtain ⟨ρ', N, bind, cm, rc, src, lb, run, hz, hs, hs2⟩ := c.h
  refine comp_core (em := em2 elt t1 i1 t2 i2 f1 f2 (fnScope nm') pos) (fun env I l => by unfold em2; simp only [bind_assoc]; rfl) (emit2 hs2) oo ok p cm rc rfl rfl src lb run hz (hs env) fun s' l Cc m vs k hl hC hne e r hns => ?_
  obtain ⟨mm, hns⟩ := hns
  refine ⟨mm, hns, fun h' sb => ?_⟩
  obtain ⟨k', e', r'⟩ := Frm.compDone k hl hC hne e r sb
  refine .mk k' (.list (fun m => ?_) e' (r'.keep ⟨fun _ _ _ e => e, fun b _ _ m => by simp [m]⟩))
  obtain ⟨o, e⟩ := p.gr.live l m
  rw [hl] at e; cases e
theorem cloop2 {elt t2 i2 : Expr} {f2 : List Expr} {N : Nat} {bind : Nat → Rho → Rho} {f : Nat → List D} (h : ∀ i, i < N → EM2 C n nm elt t2 i2 f2 (bind i ρ) (f i)) :
    ∀ k i, i + k = N → CLoop C n nm [] bind N (EM2 C n nm elt t2 i2 f2) ρ i ((List.range' i k).map f).flatten
  | 0, i, e => by
    have : i = N := by omega
    subst this; exact .done
  | k + 1, i, e => by
    have r := cloop2 h k (i + 1) (by omega)
    rw [List.range'_succ, List.map_cons, List.flatten_cons]
    exact CLoop.turn (by omega) .nil (h i (by omega)) r
theorem flat_len {α : Type} (f : D → List α) (m : Nat) (h : ∀ d, (f d).length ≤ m) : ∀ ds : List D, ((ds.map f).flatten).length ≤ ds.length * m
  | [] => by simp
  | d :: ds => by
    have := flat_len f m h ds
    have := h d
    rw [List.map_cons, List.flatten_cons, List.length_append, List.length_cons, Nat.succ_mul]; omega
/-- [.. for x in xs for y in ys] -/
theorem Comp2.map1 {elt i1 i2 : Expr} {x y : Str} {kd kd' : NameKind} {px py : Pos} {xs ys : List D} (fr : List (Option Nat)) (p p' : Nat) (g : D → D → D) (src : Src1 C n nm ρ i1 xs) (hp : nm'[p]? = some (x, kd)) (hp' : nm'[p']? = some (y, kd')) (q : cmOk nm nm' = true) (hf : frOk nm nm' fr = true) (hl : fr.length = nm'.length)
    (hρ : ∀ e, (rhoC fr ρ)[p]? ≠ some (some e)) (hρ' : ∀ d e, ((rhoC fr ρ).set p (some (0, d)))[p']? ≠ some (some e)) (src2 : ∀ d, d ∈ xs → Src1 C n nm' ((rhoC fr ρ).set p (some (0, d))) i2 ys) (h : ∀ d, d ∈ xs → ∀ e, e ∈ ys → Ev C n nm' (((rhoC fr ρ).set p (some (0, d))).set p' (some (0, e))) elt 0 (g d e)) (hz : xs.length * ys.length ≤ 100000)
    (hk : kd = .local ∨ kd = .cell := by first | exact .inl rfl | exact .inr rfl) (hk' : kd' = .local ∨ kd' = .cell := by first | exact .inl rfl | exact .inr rfl) (hs : ∀ env x, foldedSetIterable i1 env x = pure x := by intro _ _; rfl) (hs' : ∀ env x, foldedSetIterable i2 env x = pure x := by intro _ _; rfl) :
    Comp2 C n nm ρ elt (.Name x px) i1 [] (.Name y py) i2 [] nm' (xs.map fun d => ys.map (g d)).flatten :=
  ⟨rhoC fr ρ, xs.length, _, .of q, .of hf hl, .of1 src p hp hk, fun i hi => .set hρ, by
    rw [← map_getD (fun d => ys.map (g d)) xs]
    refine cloop2 (fun i hi => ⟨ys.length, _, .of1 (src2 _ (getD_mem hi)) p' hp' hk', fun j hj => .set (hρ' _), ?_⟩) xs.length 0 (by omega)
    rw [← map_getD (g (getD xs i)) ys]
    exact cloop_map (fun j hj => h _ (getD_mem hi) _ (getD_mem hj)) ys.length 0 (by omega), Nat.le_trans (flat_len _ ys.length (fun d => by simp) xs) hz, hs, hs'⟩
end
end Mine
end
section
open PySem PySem.W PyProof.Rows PySem.Calls PySem.Spec
set_option maxRecDepth 100000
namespace Mine
section
variable {prog : Program} {w : World} {A : Around} {E : Value → Shared → Prop} {s : Shared}
/-- a, b = a list of two -/
theorem unpack_two {l : Addr} {v₁ v₂ : Value} {m : Nat} {targets : List (Bool × (Value → Sem Unit))} {Q : Unit → Shared → Prop} (hh : A.handled = none) (e : s.heap.get? l = some (listO [v₁, v₂] m)) (hn : targets.length = 2) (hstar : targets.findIdx? (·.1) = none)
    (h : ∀ h', (∀ b o, s.heap.get? b = some o → h'.get? b = some o) → wpAny (model prog w) A (assignInOrder (targets.map (·.2)) [v₁, v₂]) Q E { s with heap := h' }) : wpAny (model prog w) A (unpack (.ref l) targets) Q E s := by
  have hl := listO_isList e
  have hne : l ≠ s.heap.objs.size := Nat.ne_of_lt (Heap.lt_size e)
  unfold unpack
  rw [hn, hstar]
  refine wpAny_bind (wpAny_holding ?_)
  unfold unpackItems
  refine wpAny_bind ?_
  unfold notIterableAtAll
  refine wpAny_bind (wpAny_specialOf hl.typeIs PySem.slot_list_iter.lookup ?_)
  refine wpAny_pure ?_
  simp only [Bool.false_eq_true, if_false]
  refine wpAny_bind (wpAny_holding (wpAny_pyIter_list hl ?_))
  have hl1 := hl.push { cls := .type "list_iterator", data := .fields #[.ref l, .int 0 0] }
  refine wpAny_bind (wpAny_holding ?_)
  show wpAny _ _ (pyNext (.ref s.heap.objs.size) >>= _) _ _ _
  refine wpAny_bind (wpAny_pyNext_list_item (i := 0) (x := v₁) ⟨_, Heap.get?_push_size _ rfl, rfl, rfl⟩ hl1 rfl fun h₁ hi₁ hs₁ => ?_)
  have hl2 : h₁.IsList l #[v₁, v₂] := hl1.extBut hs₁.extBut hne
  refine wpAny_bind (wpAny_holding ?_)
  show wpAny _ _ (pyNext (.ref s.heap.objs.size) >>= _) _ _ _
  refine wpAny_bind (wpAny_pyNext_list_item (i := 1) (x := v₂) hi₁ hl2 rfl fun h₂ hi₂ hs₂ => ?_)
  have hl3 : h₂.IsList l #[v₁, v₂] := hl2.extBut hs₂.extBut hne
  refine wpAny_bind (wpAny_holding ?_)
  show wpAny _ _ (pure []) _ _ _
  refine wpAny_pure (wpAny_pure (wpAny_pure ?_))
  show wpAny _ _ (holding _ (pyNext _) >>= _) _ _ _
  refine wpAny_bind (wpAny_holding (wpAny_pyNext_list_end hh hi₂ hl3 rfl fun h₃ he₃ => ?_))
  simp only [Option.isSome_none, Bool.false_eq_true, if_false]
  refine wpAny_pure (h h₃ fun b o e => ?_)
  have hb : b ≠ s.heap.objs.size := Nat.ne_of_lt (Heap.lt_size e)
  exact he₃ b o hb (hs₂.extBut b o hb (hs₁.extBut b o hb (Heap.get?_push_of_some _ e)))
end
section
variable {C : Cx} {n : Nat} {nm : Names} {ρ ρ' : Rho} {env : Env} {s₀ s s' : Shared} {Mv Xc M : List Addr} {T : Nat → List Addr}
/-- an object of the variable at i is changed by others: no more is known of the variable -/
theorem Frm.lose (f : Frm C nm env s₀ Mv Xc M T ρ s) (ok : EnvOk nm env) {a : Addr} (c : Chg a s s') {i : Nat} (ha : a ∈ T i) (hl : ∃ o, s'.heap.get? a = some o) : Frm C nm env s₀ Mv Xc M T (ρ.set i none) s' := by
  have haM := f.ownM i a ha
  have hL : env.locals ≠ a := fun e => f.ownL i (e ▸ ha)
  have hC : ∀ x k, nm.lookup x = some .cell → env.cells.lookup x = some k → k ≠ a := fun x k h e h' => f.ownC x k h e i (h' ▸ ha)
  have hv : ∀ {j : Nat} {x : Str} {kd : NameKind} {v : Value}, nm[j]? = some (x, kd) → VarAt env s.heap x kd v → VarAt env s'.heap x kd v := fun hj hv => by
    have hx := lookup_at ok.nodup hj
    cases hv with
    | loc p q => exact .loc (p.at' fun o e => c.but _ hL o e) q
    | cell p q => exact .cell p (c.isCell (hC _ _ hx p) q)
    | free p q => exact .free p (c.isCell (fun e => (f.fre _ _ hx p).1 (e ▸ haM)) q)
  refine f.chg (T' := T) c haM hl ?_ (fun x k h e => ?_) (fun j k d e => ?_) fun _ => .inl rfl
  · obtain ⟨m, n⟩ := f.ns
    exact ⟨m, n.at' fun o e => c.but _ hL o e⟩
  · obtain ⟨k', v, e', q, _⟩ := f.cel x h
    rw [e] at e'; cases e'
    exact ⟨v, c.isCell (hC x k h e) q⟩
  · rcases set_some e with ⟨rfl, e'⟩ | ⟨hne, e⟩
    · cases e'
    · obtain ⟨x, kd, v, a1, a2, a3⟩ := f.vars j k d e
      exact ⟨x, kd, v, a1, hv a1 a2, a3.keep (c.keep (List.mem_append.mpr (.inl haM))) fun b hb o e => c.but b (fun h => f.apart i j (Ne.symm hne) a ha (h ▸ hb)) o e⟩
end
end Mine
end
section
open PySem PySem.W PyProof.Rows PySem.Calls PySem.Spec
set_option maxRecDepth 100000
namespace Mine
/-- a frame at its beginning, its parameters holding the values -/
theorem Frm.beginV {C : Cx} {nm : Names} {env : Env} {s s₁ : Shared} {X : List Addr} {vs : List Value} {L : Addr} (g : Gr C X s) (hlen : vs.length ≤ nm.length) (q : NmOk nm vs.length)
    (hL : env.locals = L) (hsc : env.scope.names = nm) (hcs : env.cells = cellsFrom (L + 1) nm [])
    (x : InCallC s env.locals (bindL env.kindOf (((nm.take vs.length).map (·.1)).zip vs) fun _ => none) env.cells (bindC env.kindOf (((nm.take vs.length).map (·.1)).zip vs) fun _ => none) s₁) (ht : s.toks ≤ s₁.toks) :
    ∃ M, (∀ b ∈ M, s.heap.get? b = none) ∧ Frm C nm env s [] X M (fun _ => []) [] s₁ ∧ ∀ (i : Nat) v, vs[i]? = some v → ∃ x kd, nm[i]? = some (x, kd) ∧ VarAt env s₁.heap x kd v := by
  have hkp : Kp s s₁ := by
    obtain ⟨h', tk, rfl, k⟩ := x.done
    exact ⟨⟨h', tk, rfl, k⟩, ht⟩
  have hkind : ∀ y, env.kindOf y = nm.lookup y := fun y => by rw [← hsc]; rfl
  have hnames : ((nm.take vs.length).map (·.1)).length = vs.length := by rw [List.length_map, List.length_take]; exact Nat.min_eq_left hlen
  have hzip : ((((nm.take vs.length).map (·.1)).zip vs).map (·.1)) = (nm.take vs.length).map (·.1) := by
    rw [List.map_fst_zip]; omega
  have hnd : ((((nm.take vs.length).map (·.1)).zip vs).map (·.1)).Nodup := by
    rw [hzip, List.map_take]; exact q.nodup.sublist (List.take_sublist _ _)
  have fresh : ∀ b, s.heap.objs.size ≤ b → s.heap.get? b = none := fun b hb => by
    cases e : s.heap.get? b with
    | none => rfl
    | some o => exact absurd (Heap.lt_size e) (Nat.not_lt.mpr hb)
  have hLs : s.heap.objs.size ≤ env.locals := x.toInCall.fresh
  have new : ∀ b ∈ env.locals :: nm.filterMap (fun p => env.cells.lookup p.1), s.heap.get? b = none := fun b hb => by
    rcases List.mem_cons.mp hb with rfl | hb
    · exact fresh _ hLs
    · obtain ⟨p, hm, e⟩ := List.mem_filterMap.mp hb
      exact fresh _ (Nat.le_of_lt (Nat.lt_of_le_of_lt hLs (x.above _ b (mem_of_lookup e))))
  refine ⟨env.locals :: nm.filterMap (fun p => env.cells.lookup p.1), new, { kp := .of hkp, gr := ⟨fun b o e => kGet hkp b o (g.old b o e), fun a m => ?_, Nat.le_trans g.toks ht⟩, new := fun b m _ => new b m, off := fun b m => ?_, dis := fun b m hX => ?_, loc := List.mem_cons_self, ns := ⟨_, x.toInCall.ns⟩, cel := fun y hy => ?_, one := fun y z c hy hc hc' => ?_, fre := fun y c hy _ => ?_, vars := fun i k d e => (nomatch e), ownM := fun _ _ m => (by cases m), ownL := fun _ m => (by cases m), ownC := fun _ _ _ _ _ m => (by cases m), apart := fun _ _ _ _ m => (by cases m), nodup := fun _ => List.nodup_nil, mv := fun _ m => nomatch m }, fun i v hv => ?_⟩
  · rcases List.mem_append.mp m with m | m
    · rcases List.mem_cons.mp m with rfl | m
      · obtain ⟨o, _, _, e, _⟩ := x.toInCall.ns; exact ⟨o, e⟩
      · obtain ⟨p, hm, e⟩ := List.mem_filterMap.mp m
        obtain ⟨o, e, _⟩ := x.cell _ _ e
        exact ⟨o, e⟩
    · obtain ⟨o, e⟩ := g.live a m; exact ⟨o, kGet hkp a o e⟩
  · cases e : C.h₀.get? b with
    | none => rfl
    | some o => have := g.old b o e; rw [new b m] at this; cases this
  · obtain ⟨o, e⟩ := g.live b hX
    rw [new b m] at e; cases e
  · obtain ⟨c, hc⟩ := lookup_cellsFrom (n := L + 1) (acc := []) (mem_of_lookup hy)
    rw [← hcs] at hc
    exact ⟨c, _, hc, x.cell y c hc, List.mem_cons_of_mem _ (List.mem_filterMap.mpr ⟨(y, .cell), mem_of_lookup hy, hc⟩)⟩
  · exact name_of_addr x.apart (mem_of_lookup hc') (mem_of_lookup hc)
  · exact absurd rfl (q.nofree _ (mem_of_lookup hy))
  · have hi : i < vs.length := (List.getElem?_eq_some_iff.mp hv).1
    have hin : i < nm.length := Nat.lt_of_lt_of_le hi hlen
    have hnm : nm[i]? = some (nm[i].1, nm[i].2) := by rw [List.getElem?_eq_getElem hin]
    have hmem : (nm[i].1, v) ∈ ((nm.take vs.length).map (·.1)).zip vs := by
      refine List.mem_of_getElem? (i := i) ?_
      rw [List.getElem?_zip_eq_some]
      refine ⟨?_, hv⟩
      rw [List.getElem?_map, List.getElem?_take_of_lt hi, List.getElem?_eq_getElem hin]; rfl
    have hkd := lookup_at q.nodup hnm
    refine ⟨nm[i].1, nm[i].2, hnm, ?_⟩
    · rcases q.params nm[i] (by
        rw [List.mem_take_iff_getElem]
        exact ⟨i, by omega, rfl⟩) with hk | hk
      · rw [hk] at hkd ⊢
        exact .loc x.toInCall.ns (bindL_at hnd hmem (by rw [hkind]; exact hkd))
      · rw [hk] at hkd ⊢
        obtain ⟨c, hc⟩ := lookup_cellsFrom (n := L + 1) (acc := []) (mem_of_lookup hkd)
        rw [← hcs] at hc
        have := x.cell _ c hc
        rw [bindC_at hnd hmem (by rw [hkind]; exact hkd)] at this
        exact .cell hc this
end Mine
end
section
open PySem PySem.W PyProof.Rows PySem.Calls PySem.Spec
set_option maxRecDepth 100000
namespace Mine
/-- a function of four arguments that changes its second, a list of its caller's own, and gives it back -/
structure FnMv (C : Cx) (n : Nat) (a : Addr) (d₁ : D) (ds : List D) (d₃ d₄ : D) (es : List D) : Prop where
  go : ∀ (A : Around) (X : List Addr) (s : Shared) (v₁ : Value) (l : Addr) (v₃ v₄ : Value), Ok n A → Gr C (l :: X) s → l ∉ X → C.h₀.get? l = none → Rep C (l :: X) s.heap v₁ d₁ → RepO C (l :: X) s.heap 1 (.ref l) (.list ds) [l] → Rep C (l :: X) s.heap v₃ d₃ → Rep C (l :: X) s.heap v₄ d₄ →
    Wp C A (call (.ref a) [v₁, .ref l, v₃, v₄]) (fun r s' => KpB [l] s s' ∧ (∃ o, s'.heap.get? l = some o) ∧ ∃ l' vs m, r = .ref l' ∧ s'.heap.get? l' = some (listO vs m) ∧ RepL C (l :: X) s'.heap vs es) s
noncomputable def rhoM (nm : Names) (d₁ : D) (ds : List D) (d₃ d₄ : D) : Rho := some (0, d₁) :: some (1, .list ds) :: some (0, d₃) :: some (0, d₄) :: List.replicate (nm.length - 4) none
theorem rhoM_at {nm : Names} {d₁ : D} {ds : List D} {d₃ d₄ : D} {i k : Nat} {d : D} (h : (rhoM nm d₁ ds d₃ d₄)[i]? = some (some (k, d))) : (i = 0 ∧ k = 0 ∧ d = d₁) ∨ (i = 1 ∧ k = 1 ∧ d = .list ds) ∨ (i = 2 ∧ k = 0 ∧ d = d₃) ∨ (i = 3 ∧ k = 0 ∧ d = d₄) := by
  unfold rhoM at h
  match i, h with
  | 0, h => cases h; exact .inl ⟨rfl, rfl, rfl⟩
  | 1, h => cases h; exact .inr (.inl ⟨rfl, rfl, rfl⟩)
  | 2, h => cases h; exact .inr (.inr (.inl ⟨rfl, rfl, rfl⟩))
  | 3, h => cases h; exact .inr (.inr (.inr ⟨rfl, rfl, rfl⟩))
  | i + 4, h =>
    have h' : (List.replicate (nm.length - 4) (none : Option (Nat × D)))[i]? = some (some (k, d)) := h
    have := List.eq_of_mem_replicate (List.mem_of_getElem? h')
    cases this
theorem FnMv.of_body {C : Cx} {n : Nat} {a : Addr} {o : Obj} {fd : FuncData} {st : Stmt} {x : Str} {px pos : Pos} {nm : Names} {mr : List (Str × Const)} {d₁ d₃ d₄ : D} {ds es : List D} {ρ' : Rho} (ho : C.K.lookup a = some o) (hd : o.data = .func fd) (hb : fd.body = .stmts [st, .Return (some (.Name x px)) pos]) (hsc0 : fd.scope = { kind := .function, names := nm, isGenerator := false, isCoroutine := false, more := mr })
    (hc : codeIn C.K fd.code fd.qualname = true) (hclo : fd.closure = []) (hg : fd.globals = mainGlobals) (hbu : fd.builtins = builtinsNs)
    (hbind : ∀ vs : List Value, vs.length = 4 → bindArgs fd ⟨vs, []⟩ = pure (((nm.take 4).map (·.1)).zip vs)) (q : NmOk nm 4) (hlen : 4 ≤ nm.length) (hx : nm[1]? = some (x, .local) ∨ nm[1]? = some (x, .cell)) (h : Ex1 C n nm (rhoM nm d₁ ds d₃ d₄) st (.next ρ')) (hρ : ρ'[1]? = some (some (1, .list es))) : FnMv C (n + 1) a d₁ ds d₃ d₄ es := .mk fun A X s v₁ l v₃ v₄ ok g hlX hl0 r₁ r₂ r₃ r₄ => by
  have hsc : fd.scope.names = nm := by rw [hsc0]
  have hfk : fd.scope.kind = .function := by rw [hsc0]
  have hfg : fd.scope.isGenerator = false := by rw [hsc0]
  have hfc : fd.scope.isCoroutine = false := by rw [hsc0]
  have hK := C.inK.keeps g.old
  refine wpAny_call ?_
  refine codeAny_call_function ok.room (hK a o ho) hd hfc hfg hb (codeRec_of hK hc) ?_
  rw [hbind [v₁, .ref l, v₃, v₄] rfl, hclo]
  refine wpAny_pure ?_
  have hkind : ∀ x ∈ ((nm.take 4).map (·.1)).zip [v₁, .ref l, v₃, v₄], fd.scope.names.lookup x.1 = some .local ∨ (fd.scope.names.lookup x.1 = some .cell ∧ ((cellsFrom (s.heap.objs.size + 1) fd.scope.names []).lookup x.1).isSome = true) := fun x hx => by
    rw [hsc]
    obtain ⟨y, v⟩ := x
    have h1 := (List.of_mem_zip hx).1
    obtain ⟨p, hp, rfl⟩ := List.mem_map.mp h1
    have hm : p ∈ nm := List.mem_of_mem_take hp
    obtain ⟨i, hi⟩ := List.getElem?_of_mem hm
    have hl := lookup_at q.nodup (x := p.1) (k := p.2) hi
    rcases q.params p hp with e | e
    · exact .inl (by rw [← e]; exact hl)
    · refine .inr ⟨by rw [← e]; exact hl, ?_⟩
      obtain ⟨c, hc⟩ := lookup_cellsFrom (n := s.heap.objs.size + 1) (acc := []) (mem_of_lookup (hl.trans (by rw [e])))
      rw [hc]; rfl
  refine wpAny_with_toks (n := s.toks) (Nat.le_refl _) (wpAny_newFunctionEnv_cells hfk hkind fun env he s' xx ht => ?_)
  have hsn : env.scope = fd.scope := by rw [he]; rfl
  have hcs : env.cells = cellsFrom (s.heap.objs.size + 1) nm [] := by rw [he]; show cellsFrom _ fd.scope.names [] = _; rw [hsc]
  have gX : Gr C X s := ⟨g.old, fun b m => g.live b (List.mem_cons_of_mem _ m), g.toks⟩
  obtain ⟨M, hMn, f, hv⟩ := Frm.beginV (C := C) (env := env) (L := s.heap.objs.size) (vs := [v₁, .ref l, v₃, v₄]) gX hlen q (by rw [he]; rfl) (by rw [hsn, hsc]) hcs xx ht
  have hki : ∀ y, env.kindOf y = nm.lookup y := fun y => by show env.scope.names.lookup y = _; rw [hsn, hsc]
  have henv : EnvOk nm env := ⟨by rw [hsn, hfk], by rw [he]; exact hg, by rw [he]; exact hbu, q.nodup, q.plain, fun y e => (hki y).trans e, fun y e => (hki y).trans e, fun y e => .inl ((hki y).trans e), fun y e => (hki y).trans e,
    fun y e => by
      rcases e with e | e
      · rw [hcs]; exact lookup_cellsFrom (mem_of_lookup e)
      · exact absurd rfl (q.nofree _ (mem_of_lookup e))⟩
  refine ⟨C.nolimit.keeps fun b o e => kGet f.kp.to b o (g.old b o e), codeAny_func ?_⟩
  obtain ⟨ol, hol⟩ := g.live l (List.mem_cons_self ..)
  have hkp := f.kp.to
  have hlM : l ∉ M := fun m => by rw [hMn l m] at hol; cases hol
  have K : Keep (l :: X) ((M ++ [l]) ++ X) s.heap s'.heap := ⟨fun b o _ e => kGet hkp b o e, fun b o e m => by
    simp only [List.mem_append, List.mem_singleton] at m
    rcases m with (m | m) | m
    · rw [hMn b m] at e; cases e
    · subst m; exact List.mem_cons_self ..
    · exact List.mem_cons_of_mem _ m⟩
  have nofree : ∀ y, nm.lookup y = some .free → False := fun y e => q.nofree _ (mem_of_lookup e) rfl
  have f1 : Frm C nm env s [l] X (M ++ [l]) (fun j => if j = 1 then [l] else []) (rhoM nm d₁ ds d₃ d₄) s' := {
    kp := KpB.of hkp
    gr := ⟨f.gr.old, fun b m => by
      simp only [List.mem_append, List.mem_singleton] at m
      rcases m with (m | m) | m
      · exact f.gr.live b (List.mem_append.mpr (.inl m))
      · subst m; exact ⟨ol, kGet hkp _ _ hol⟩
      · exact f.gr.live b (List.mem_append.mpr (.inr m)), f.gr.toks⟩
    new := fun b m h => by
      rcases List.mem_append.mp m with m | m
      · exact hMn b m
      · exact absurd m h
    off := fun b m => by
      rcases List.mem_append.mp m with m | m
      · exact f.off b m
      · simp at m; subst m; exact hl0
    dis := fun b m hX => by
      rcases List.mem_append.mp m with m | m
      · exact f.dis b m hX
      · simp at m; subst m; exact hlX hX
    loc := List.mem_append.mpr (.inl f.loc)
    ns := f.ns
    cel := fun y h => let ⟨c, v, a, b, d⟩ := f.cel y h; ⟨c, v, a, b, List.mem_append.mpr (.inl d)⟩
    one := f.one
    fre := fun y c h _ => (nofree y h).elim
    vars := fun i k d e => by
      rcases rhoM_at e with ⟨rfl, rfl, rfl⟩ | ⟨rfl, rfl, rfl⟩ | ⟨rfl, rfl, rfl⟩ | ⟨rfl, rfl, rfl⟩
      · obtain ⟨y, kd, a1, a2⟩ := hv 0 v₁ rfl
        exact ⟨y, kd, v₁, a1, a2, .sh (r₁.keep K)⟩
      · obtain ⟨y, kd, a1, a2⟩ := hv 1 (.ref l) rfl
        exact ⟨y, kd, .ref l, a1, a2, r₂.keep K fun b _ o e => kGet hkp b o e⟩
      · obtain ⟨y, kd, a1, a2⟩ := hv 2 v₃ rfl
        exact ⟨y, kd, v₃, a1, a2, .sh (r₃.keep K)⟩
      · obtain ⟨y, kd, a1, a2⟩ := hv 3 v₄ rfl
        exact ⟨y, kd, v₄, a1, a2, .sh (r₄.keep K)⟩
    ownM := fun i b m => by
      by_cases e : i = 1
      · rw [if_pos e] at m; exact List.mem_append.mpr (.inr m)
      · rw [if_neg e] at m; cases m
    ownL := fun i m => by
      by_cases e : i = 1
      · rw [if_pos e] at m; simp at m; rw [← m] at hlM; exact hlM f.loc
      · rw [if_neg e] at m; cases m
    ownC := fun y c h h' i m => by
      by_cases e : i = 1
      · rw [if_pos e] at m; simp at m; subst m
        obtain ⟨c', v, a, b, d⟩ := f.cel y h
        rw [h'] at a; cases a
        exact hlM d
      · rw [if_neg e] at m; cases m
    apart := fun i j hne b m m' => by
      by_cases e : i = 1
      · have : j ≠ 1 := fun e' => hne (e.trans e'.symm)
        rw [if_neg this] at m'; cases m'
      · rw [if_neg e] at m; cases m
    nodup := fun i => by by_cases e : i = 1 <;> simp [e]
    mv := fun b m => List.mem_append.mpr (.inr m) }
  have hx' : ∃ kd, nm[1]? = some (x, kd) := by rcases hx with e | e <;> exact ⟨_, e⟩
  obtain ⟨kd, hx'⟩ := hx'
  have seq : Wp C (A.deeper env) (execs [st, .Return (some (.Name x px)) pos] env) (fun fl s'' => ∃ v, fl = .ret v ∧ KpB [l] s s'' ∧ (∃ o, s''.heap.get? l = some o) ∧ ∃ l' vs m, v = .ref l' ∧ s''.heap.get? l' = some (listO vs m) ∧ RepL C (l :: X) s''.heap vs es) s' := by
    refine wpAny_execs_cons (wp_mono (h.go (A.deeper env) env s [l] X (M ++ [l]) _ s' (ok.deeper env) henv f1) fun fl s₂ hq => ?_)
    obtain ⟨rfl, M₂, T₂, f₂⟩ := hq
    refine wpAny_execs_cons (wpAny_Return_some ?_)
    obtain ⟨y, kd', v, a1, a2, a3⟩ := f₂.vars 1 1 _ hρ
    rw [hx'] at a1; cases a1
    refine wpAny_Name (load_var henv hx' a2 ?_) (henv.plain _ (List.mem_of_getElem? hx')).1
    generalize T₂ 1 = T1 at a3
    cases a3 with
    | list e r =>
      refine ⟨_, rfl, f₂.kp, f₂.gr.live l (List.mem_append.mpr (.inl (f₂.mv l (List.mem_singleton.mpr rfl)))), _, _, _, rfl, e, ?_⟩
      refine r.zero.1.keep ⟨fun _ _ _ e => e, fun b o _ m => ?_⟩
      rcases List.mem_cons.mp m with rfl | m
      · exact List.mem_append.mpr (.inl (f₂.mv b (List.mem_singleton.mpr rfl)))
      · exact List.mem_append.mpr (.inr m)
  refine wpAny_mono seq (fun fl s'' h => ?_) fun _ _ x => x.elim
  obtain ⟨v, rfl, k, r⟩ := h
  exact ⟨k, r⟩
section
variable {C : Cx} {n : Nat} {nm : Names} {ρ : Rho}
/-- a, b = f(x, y, z, w), where f changes y and gives it back -/
theorem Ex1.assignMv (i j b g : Nat) {x y z fn : Str} {kd kd' kdz : NameKind} {px py pz pf tp pos cpos : Pos} {k : Nat} {e₁ e₃ e₄ : Expr} {a : Addr} {o : Obj} {fd : FuncData} {d₁ d₃ d₄ r₁ r₂ : D} {ds : List D} (hi : nm[i]? = some (x, kd)) (hj : nm[j]? = some (y, kd')) (hb : nm[b]? = some (z, kdz)) (hρ : ρ[b]? = some (some (1, .list ds)))
    (hg : nm[g]? = some (fn, .globalImplicit)) (hK : nsIn C.K mainGlobals fn = some (some (.ref a))) (ho : C.K.lookup a = some o) (hd : o.data = .func fd) (h₁ : Ev C n nm ρ e₁ 0 d₁) (h₃ : Ev C n nm ρ e₃ 0 d₃) (h₄ : Ev C n nm ρ e₄ 0 d₄) (f : FnMv C n a d₁ ds d₃ d₄ [r₁, r₂])
    (hst : ∀ env, starEach [e₁, .Name z pz, e₃, e₄] env = [(false, eval e₁ env), (false, eval (.Name z pz) env), (false, eval e₃ env), (false, eval e₄ env)])
    (hxd : (fn == ("__debug__" : Str)) = false := by decide) (hk : kd = .local ∨ kd = .cell := by first | exact .inl rfl | exact .inr rfl) (hk' : kd' = .local ∨ kd' = .cell := by first | exact .inl rfl | exact .inr rfl)
    (hs : ∀ env, swapsWithSole [.Tuple [.Name x px, .Name y py] k tp] (.Call (.Name fn pf) [e₁, .Name z pz, e₃, e₄] [] cpos) pos.line env = pure false := by intro _; rfl) (hw : ∀ env, swappedStores [.Tuple [.Name x px, .Name y py] k tp] (.Call (.Name fn pf) [e₁, .Name z pz, e₃, e₄] [] cpos) env = pure Option.none := by intro _; rfl) :
    Ex1 C n nm ρ (.Assign [.Tuple [.Name x px, .Name y py] k tp] (.Call (.Name fn pf) [e₁, .Name z pz, e₃, e₄] [] cpos) pos) (.next (((ρ.set b none).set i (some (0, r₁))).set j (some (0, r₂)))) := .mk fun A env s₀ Mv Xc M T s oo ok fr =>
  PyProof.Rows.Assign_Tuple (by
    refine Call_Name rfl (load_glob ok fr.pre (lookup_at ok.nodup hg) hK ?_ hxd pf)
    rw [hst env]
    refine callWith_function (o := o) (fd := fd) (evalArgs_plain (spliced_cons (h₁.then0 oo ok fr.pre fun v₁ s₁ k₁ p₁ q₁ => spliced_cons ?_)))
    have fr1 := fr.keeps k₁
    obtain ⟨z', kz, v, a1, a2, a3⟩ := fr1.vars b 1 _ hρ
    rw [hb] at a1; cases a1
    refine wpAny_Name (load_var ok hb a2 (spliced_cons (h₃.then0 oo ok p₁ fun v₃ s₃ k₃ p₃ q₃ => spliced_cons (h₄.then0 oo ok p₃ fun v₄ s₄ k₄ p₄ q₄ => spliced_nil ⟨⟨kGet k₄ _ _ (kGet k₃ _ _ (p₁.gr.old _ _ (C.inK _ _ ho))), hd⟩, ?_⟩)))) (ok.plain _ (List.mem_of_getElem? hb)).1
    have fr4 := (fr1.keeps k₃).keeps k₄
    have kk := kTrans k₃ k₄
    generalize hT : T b = T1 at a3
    cases a3 with
    | @list _ l vs m _ T' e r =>
      obtain ⟨rl, rfl⟩ := r.zero
      have hlT : l ∈ T b := by rw [hT]; exact List.mem_cons_self ..
      have hlM : l ∈ M := fr.ownM b l hlT
      have sub : ∀ c ∈ l :: (M ++ Xc).filter (· ≠ l), c ∈ M ++ Xc := fun c hc => by
        rcases List.mem_cons.mp hc with rfl | hc
        · exact List.mem_append.mpr (.inl hlM)
        · exact (List.mem_filter.mp hc).1
      have sup : ∀ c ∈ M ++ Xc, c ∈ l :: (M ++ Xc).filter (· ≠ l) := fun c hc => by
        by_cases e : c = l
        · subst e; exact List.mem_cons_self ..
        · exact List.mem_cons_of_mem _ (List.mem_filter.mpr ⟨hc, by simpa using e⟩)
      have K1 : Keep (M ++ Xc) (l :: (M ++ Xc).filter (· ≠ l)) s₁.heap s₄.heap := ⟨fun c o _ e => kGet kk c o e, fun c o _ m => sub c m⟩
      have K3 : Keep (M ++ Xc) (l :: (M ++ Xc).filter (· ≠ l)) s₃.heap s₄.heap := ⟨fun c o _ e => kGet k₄ c o e, fun c o _ m => sub c m⟩
      have K4 : Keep (M ++ Xc) (l :: (M ++ Xc).filter (· ≠ l)) s₄.heap s₄.heap := ⟨fun c o _ e => e, fun c o _ m => sub c m⟩
      have gr : Gr C (l :: (M ++ Xc).filter (· ≠ l)) s₄ := ⟨fr4.gr.old, fun c m => fr4.gr.live c (sub c m), fr4.gr.toks⟩
      have rown : RepO C (l :: (M ++ Xc).filter (· ≠ l)) s₄.heap 1 (.ref l) (.list ds) [l] := .list (kGet kk _ _ e) (RepL.toO (rl.keep K1))
      refine wp_mono (f.go A _ s₄ v₁ l v₃ v₄ oo gr (fun m => by simpa using (List.mem_filter.mp m).2) (fr.off l hlM) (q₁.keep K1) rown (q₃.keep K3) (q₄.keep K4)) fun r s₅ hq => ?_
      obtain ⟨kb, hlive, l', us, m', rfl, el, ru⟩ := hq
      have c : Chg l s₄ s₅ := ⟨kb.1, kb.2.1, fun c hc o e => kb.2.2 c o (by simpa using hc) e⟩
      have fr5 := fr4.lose ok c hlT hlive
      have ru' : RepL C (M ++ Xc) s₅.heap us [r₁, r₂] := ru.keep ⟨fun _ _ _ e => e, fun c o _ m => sup c m⟩
      cases ru' with
      | @cons u₁ _ _ _ x₁ ru' =>
        cases ru' with
        | @cons u₂ _ _ _ x₂ ru' =>
          cases ru'
          rw [PyProof.Rows.assign_Tuple]
          refine wpAny_bind (wpAny_standAt (unpack_two oo.handled el rfl rfl fun h₆ hk₆ => ?_))
          have k₆ : Kp s₅ { s₅ with heap := h₆ } := kHeap (t := s₅.toks) hk₆ (Nat.le_refl _)
          have fr6 := fr5.keeps k₆
          refine assignInOrder_cons (wpAny_assign_Name (fr6.store ok hi hk (.sh (x₁.keep (.all (kGet k₆)))) (.inl rfl) fun s₇ f₇ ⟨z, hz, c⟩ => ?_))
          have K₇ := c.keep (X := M ++ Xc) (List.mem_append.mpr (.inl hz))
          exact assignInOrder_cons (wpAny_assign_Name (f₇.store ok hj hk' (.sh ((x₂.keep (.all (kGet k₆))).keep K₇)) (.inl rfl) fun s₈ f₈ _ => assignInOrder_nil ⟨rfl, M, _, f₈⟩))) (hs env) (hw env)
end
end Mine
end
section
open PySem PySem.W PyProof.Rows PySem.Calls PySem.Spec
set_option maxRecDepth 100000
set_option maxHeartbeats 0
namespace Mine
theorem len1 {α : Type} {vs : List α} (h : vs.length = 1) : ∃ a, vs = [a] := by
  cases vs with
  | nil => cases h
  | cons a vs => cases vs with
    | nil => exact ⟨a, rfl⟩
    | cons b vs => cases h
theorem lenS {α : Type} {vs : List α} {k : Nat} (h : vs.length = k + 1) : ∃ a l, vs = a :: l ∧ l.length = k := by
  cases vs with
  | nil => cases h
  | cons a vs => exact ⟨a, vs, rfl, Nat.succ.inj h⟩
theorem len2 {α : Type} {vs : List α} (h : vs.length = 2) : ∃ a b, vs = [a, b] := by
  obtain ⟨a, l, rfl, h'⟩ := lenS h
  obtain ⟨b, rfl⟩ := len1 h'
  exact ⟨a, b, rfl⟩
theorem len3 {α : Type} {vs : List α} (h : vs.length = 3) : ∃ a b c, vs = [a, b, c] := by
  obtain ⟨a, l, rfl, h'⟩ := lenS h
  obtain ⟨b, c, rfl⟩ := len2 h'
  exact ⟨a, b, c, rfl⟩
theorem len4 {α : Type} {vs : List α} (h : vs.length = 4) : ∃ a b c d, vs = [a, b, c, d] := by
  obtain ⟨a, l, rfl, h'⟩ := lenS h
  obtain ⟨b, c, d, rfl⟩ := len3 h'
  exact ⟨a, b, c, d, rfl⟩
theorem len5 {α : Type} {vs : List α} (h : vs.length = 5) : ∃ a b c d e, vs = [a, b, c, d, e] := by
  obtain ⟨a, l, rfl, h'⟩ := lenS h
  obtain ⟨b, c, d, e, rfl⟩ := len4 h'
  exact ⟨a, b, c, d, e, rfl⟩
theorem Less.nil {ρ : Rho} : Less [] ρ := fun j e h => by cases h
theorem Less.same {a : Option (Nat × D)} {ρ' ρ : Rho} (h : Less ρ' ρ) : Less (a :: ρ') (a :: ρ) := fun j e hj => by
  cases j with
  | zero => exact hj
  | succ j => exact h j e hj
theorem Less.gone {b : Option (Nat × D)} {ρ' ρ : Rho} (h : Less ρ' ρ) : Less (none :: ρ') (b :: ρ) := fun j e hj => by
  cases j with
  | zero => cases hj
  | succ j => exact h j e hj
noncomputable def pat (c : Str) : Str := Str.ofString "_" ++ c ++ Str.ofString "__"
noncomputable def isPriv (c m : Str) : Bool := decide ((m.length : Int) > ((pat c).length : Int)) && (Txt.startswith m (pat c) && (((!(eqD (.str (Txt.item m (-1))) (.str (Str.ofString "_"))) || (!(eqD (.str (Txt.item m (-2))) (.str (Str.ofString "_"))) || false))) && true))
theorem charAt_some {m : Str} {i : Int} (h : i < 0) (h' : 0 ≤ (m.length : Int) + i) : Txt.charAt m i = some ((Txt.charAt m i).getD 0) := by
  have := charAt_isSome (x := m) (i := i) (by omega) (by omega)
  obtain ⟨c, hc⟩ := Option.isSome_iff_exists.mp this
  rw [hc]; rfl
theorem item_of {m : Str} {i : Int} {c : Nat} (h : Txt.charAt m i = some c) : Txt.item m i = ⟨#[c]⟩ := by unfold Txt.item; rw [h]; rfl
theorem len_pat (c : Str) : (pat c).length = c.length + 3 := by
  unfold pat; rw [Str.length_append, Str.length_append]
  have h1 : (Str.ofString "_").length = 1 := by decide +kernel
  have h2 : (Str.ofString "__").length = 2 := by decide +kernel
  omega
section
variable {C : Cx} {P : Params}
theorem lk {a : Addr} {o : Obj} (hK : C.K = hd.heap_39 P) (h : (hd.heap_39 P).lookup a = some o) : C.K.lookup a = some o := by rw [hK]; exact h
theorem g_len (hK : C.K = hd.heap_39 P) : nsIn C.K mainGlobals (("len" : Str)) = some Option.none := by rw [hK]; kernel_rfl
theorem f_private (hK : C.K = hd.heap_39 P) (n : Nat) {c m : Str} (hc : c.length ≤ 1000) (hm : m.length ≤ 1000) : Fn C (n + 1) 38 [.str c, .str m] (.bool (isPriv c m)) := by
  refine Fn.of_body (lk hK rfl) rfl rfl rfl (by rw [hK]; kernel_rfl) rfl rfl rfl (fun vs h => ?_) (NmOk.of (by kernel_rfl)) (Nat.le_of_ble_eq_true rfl) ?_
  · obtain ⟨v0, v1, rfl⟩ := len2 h; rfl
  have hp : (pat c).length ≤ 1003 := by rw [len_pat]; omega
  refine Ex.seq (Ex1.assign 2 rfl (Ev.joined (Ev.name 0 rfl rfl) (by decide +kernel) (by decide +kernel) (by omega) (by decide +kernel) (by decide +kernel))) ?_
  refine Ex.seq (Ex1.assign 3 rfl (Ev.len_str 4 rfl (g_len hK) (Ev.name 2 rfl rfl) (show (pat c).length ≤ 1000000 by omega))) ?_
  refine Ex.stop (Ex1.if_ (c := isPriv c m) (Tst.all (.andCons (Tst.cmp (Ev.len_str 4 rfl (g_len hK) (Ev.name 1 rfl rfl) (by omega)) (Ev.name 3 rfl rfl) Cmp.gt) fun h1 => ?_)) (fun h => ?_) fun h => ?_)
  · have h1 : (m.length : Int) > ((pat c).length : Int) := of_decide_eq_true h1
    rw [len_pat] at h1
    have hi (i : Int) (a : i < 0) (b : -3 < i) := charAt_some (m := m) a (by omega)
    have i1 := item_of (hi (-1) (by omega) (by omega))
    have i2 := item_of (hi (-2) (by omega) (by omega))
    rw [i1, i2]
    refine .andCons (Tst.value (Ev.startswith (Ev.name 1 rfl rfl) (Ev.name 2 rfl rfl)) Tru.bool) fun _ => .andCons (Tst.all (.orCons (Tst.cmp (Ev.sub (Ev.name 1 rfl rfl) (Ev.neg Ev.int) (Itm.str (by omega) (by omega) (hi (-1) (by omega) (by omega)))) (Ev.str (by decide +kernel)) (Cmp.ne rfl rfl)) fun _ =>
      .orCons (Tst.cmp (Ev.sub (Ev.name 1 rfl rfl) (Ev.neg Ev.int) (Itm.str (by omega) (by omega) (hi (-2) (by omega) (by omega)))) (Ev.str (by decide +kernel)) (Cmp.ne rfl rfl)) fun _ => .orNil)) fun _ => .andNil
  · rw [h]; exact Ex.stop (Ex1.ret Ev.bool)
  · rw [h]; exact Ex.stop (Ex1.ret Ev.bool)

theorem pat02 (hK : C.K = hd.heap_39 P) : ∀ h, C.K.In h → Re.IsPat h 43 := fun h X => by
  have e1 := X 43 _ (by rw [hK]; rfl)
  have e2 := X 42 _ (by rw [hK]; rfl)
  exact ⟨_, _, 42, 0, e1, rfl, rfl, rfl, rfl, rfl, rfl, rfl, _, _, e2, rfl, by kernel_rfl⟩
theorem g_IPV4 (hK : C.K = hd.heap_39 P) : nsIn C.K mainGlobals (("IPV4_RE" : Str)) = some (some (.ref 43)) := by rw [hK]; kernel_rfl
noncomputable def hdn (x : Str) : Bool := if Re.isNum x.cps then false else if eqD (.str x) (.str (Str.ofString "")) then false else if (eqD (.str (Txt.item x 0)) (.str (Str.ofString ".")) || (eqD (.str (Txt.item x (-1))) (.str (Str.ofString ".")) || false)) then false else true
theorem eqD_str (a b : Str) : eqD (.str a) (.str b) = decide (a = b) := by
  show PyData.eqv (.str a) (.str b) = _
  simp only [PyData.eqv]
  rw [Bool.eq_iff_iff]
  simp
theorem f_hdn (hK : C.K = hd.heap_39 P) (n : Nat) {x : Str} (hx : x.length ≤ 1000) : Fn C (n + 1) 50 [.str x] (.bool (hdn x)) := by
  refine Fn.of_body (lk hK rfl) rfl rfl rfl (by rw [hK]; kernel_rfl) rfl rfl rfl (fun vs h => ?_) (NmOk.of (by kernel_rfl)) (Nat.le_of_ble_eq_true rfl) ?_
  · obtain ⟨v0, rfl⟩ := len1 h; rfl
  unfold hdn
  cases h1 : Re.isNum x.cps with
  | true => exact Ex.stop (Ex1.if_ (c := true) (h1 ▸ Tst.search 1 rfl (g_IPV4 hK) (pat02 hK) (Ev.name 0 rfl rfl) (by omega)) (fun _ => Ex.stop (Ex1.ret Ev.bool)) (fun h => nomatch h))
  | false =>
    refine Ex.seq (Ex1.skip (h1 ▸ Tst.search 1 rfl (g_IPV4 hK) (pat02 hK) (Ev.name 0 rfl rfl) (by omega)) Ex.nil) ?_
    cases h2 : eqD (.str x) (.str (Str.ofString "")) with
    | true => exact Ex.stop (Ex1.if_ (c := true) (h2 ▸ Tst.cmp (Ev.name 0 rfl rfl) (Ev.str (by decide +kernel)) (Cmp.eq rfl rfl)) (fun _ => Ex.stop (Ex1.ret Ev.bool)) (fun h => nomatch h))
    | false =>
      refine Ex.seq (Ex1.skip (h2 ▸ Tst.cmp (Ev.name 0 rfl rfl) (Ev.str (by decide +kernel)) (Cmp.eq rfl rfl)) Ex.nil) ?_
      have hlen : 0 < x.length := by
        rcases Nat.eq_zero_or_pos x.length with h | h
        · exfalso
          rw [eqD_str] at h2
          have hx0 : x = Str.ofString "" := by
            obtain ⟨a⟩ := x
            have : a = #[] := Array.eq_empty_of_size_eq_zero h
            subst this
            decide +kernel
          rw [hx0] at h2
          simp at h2
        · exact h
      have c0 : Txt.charAt x 0 = some ((Txt.charAt x 0).getD 0) := by
        obtain ⟨c, hc⟩ := Option.isSome_iff_exists.mp (charAt_isSome (x := x) (i := 0) (by omega) (by omega))
        rw [hc]; rfl
      have c1 := charAt_some (m := x) (i := -1) (by omega) (by omega)
      rw [item_of c0, item_of c1]
      have tst : ∀ {ρ : Rho}, ρ = rho0 [(Str.ofString "text", NameKind.local), (Str.ofString "IPV4_RE", NameKind.globalImplicit)] [D.str x] → True := fun _ => trivial
      refine (fun {b} (hb : b = (eqD (.str ⟨#[(Txt.charAt x 0).getD 0]⟩) (.str (Str.ofString ".")) || (eqD (.str ⟨#[(Txt.charAt x (-1)).getD 0]⟩) (.str (Str.ofString ".")) || false))) => ?_ : ∀ {b : Bool}, _ → _) rfl
      rw [← hb]
      cases b with
      | true => exact Ex.stop (Ex1.take (hb ▸ Tst.all (.orCons (Tst.cmp (Ev.sub (Ev.name 0 rfl rfl) Ev.int (Itm.str (by omega) (by omega) c0)) (Ev.str (by decide +kernel)) (Cmp.eq rfl rfl)) fun _ =>
          .orCons (Tst.cmp (Ev.sub (Ev.name 0 rfl rfl) (Ev.neg Ev.int) (Itm.str (by omega) (by omega) c1)) (Ev.str (by decide +kernel)) (Cmp.eq rfl rfl)) fun _ => .orNil)) (Ex.stop (Ex1.ret Ev.bool)))
      | false => exact Ex.seq (Ex1.skip (hb ▸ Tst.all (.orCons (Tst.cmp (Ev.sub (Ev.name 0 rfl rfl) Ev.int (Itm.str (by omega) (by omega) c0)) (Ev.str (by decide +kernel)) (Cmp.eq rfl rfl)) fun _ =>
          .orCons (Tst.cmp (Ev.sub (Ev.name 0 rfl rfl) (Ev.neg Ev.int) (Itm.str (by omega) (by omega) c1)) (Ev.str (by decide +kernel)) (Cmp.eq rfl rfl)) fun _ => .orNil)) Ex.nil) (Ex.stop (Ex1.ret Ev.bool))

noncomputable def lib (x : Str) : Bool := if Re.isNum x.cps then false else true
theorem f_lib (hK : C.K = hd.heap_39 P) (n : Nat) {x : Str} (hx : x.length ≤ 1000) : Fn C (n + 1) 57 [.str x] (.bool (lib x)) := by
  refine Fn.of_body (lk hK rfl) rfl rfl rfl (by rw [hK]; kernel_rfl) rfl rfl rfl (fun vs h => ?_) (NmOk.of (by kernel_rfl)) (Nat.le_of_ble_eq_true rfl) ?_
  · obtain ⟨v0, rfl⟩ := len1 h; rfl
  refine Ex.ifStop (Tst.search 1 rfl (g_IPV4 hK) (pat02 hK) (Ev.name 0 rfl rfl) (by omega)) (fun h => ?_) fun h => ?_
  · unfold lib; rw [h]; exact Ex.stop (Ex1.ret Ev.bool)
  · unfold lib; rw [h]; exact Ex.stop (Ex1.ret Ev.bool)
theorem g_lib (hK : C.K = hd.heap_39 P) : nsIn C.K mainGlobals (("liberal_is_HDN" : Str)) = some (some (.ref 57)) := by rw [hK]; kernel_rfl
theorem g_hdn (hK : C.K = hd.heap_39 P) : nsIn C.K mainGlobals (("is_HDN" : Str)) = some (some (.ref 50)) := by rw [hK]; kernel_rfl
theorem g_private (hK : C.K = hd.heap_39 P) : nsIn C.K mainGlobals (("_is_private" : Str)) = some (some (.ref 38)) := by rw [hK]; kernel_rfl
/-- a text that the lower case leaves tame -/
structure Tame (x : Str) : Prop where
  len : x.length ≤ 900
  low : (Txt.lower x).length ≤ 900
  ok : PyData.strOk (Txt.lower x) = true
noncomputable def udm0 (a b : Str) : Bool := if !(lib a && (lib b && true)) then eqD (.str a) (.str b) else if Txt.startswith b (Str.ofString ".") && (Txt.endswith a b && true) then true else if (!Txt.startswith b (Str.ofString ".")) && (eqD (.str a) (.str b) && true) then true else false
noncomputable def udm (a b : Str) : Bool := udm0 (Txt.lower a) (Txt.lower b)
theorem fits_of {n : Nat} (h : n ≤ 900) : Builtin.Str.tooLong n = false := by unfold Builtin.Str.tooLong sizeLine; exact decide_eq_false (by omega)
theorem f_udm (hK : C.K = hd.heap_39 P) (n : Nat) {a b : Str} (ha : Tame a) (hb : Tame b) : Fn C (n + 2) 64 [.str a, .str b] (.bool (udm a b)) := by
  refine Fn.of_body (lk hK rfl) rfl rfl rfl (by rw [hK]; kernel_rfl) rfl rfl rfl (fun vs h => ?_) (NmOk.of (by kernel_rfl)) (Nat.le_of_ble_eq_true rfl) ?_
  · obtain ⟨v0, v1, rfl⟩ := len2 h; rfl
  have h1 := ha.low
  have h2 := hb.low
  refine Ex.seq (Ex1.assign 0 rfl (Ev.lower (Ev.name 0 rfl rfl) (fits_of ha.low) ha.ok)) ?_
  refine Ex.seq (Ex1.assign 1 rfl (Ev.lower (Ev.name 1 rfl rfl) (fits_of hb.low) hb.ok)) ?_
  unfold udm udm0
  generalize Txt.lower a = a at *
  generalize Txt.lower b = b at *
  refine Ex.ifStop (Tst.not (Tst.all (.andCons (Tst.value (Ev.call 3 rfl (g_lib hK) (lk hK rfl) rfl (.one (Ev.name 0 rfl rfl)) (f_lib hK n (by omega))) Tru.bool) fun _ => .andCons (Tst.value (Ev.call 3 rfl (g_lib hK) (lk hK rfl) rfl (.one (Ev.name 1 rfl rfl)) (f_lib hK n (by omega))) Tru.bool) fun _ => .andNil))) (fun h => ?_) fun h => ?_
  · rw [h]
    refine Ex.ifStop (Tst.cmp (Ev.name 0 rfl rfl) (Ev.name 1 rfl rfl) (Cmp.eq rfl rfl)) (fun h => ?_) fun h => ?_
    · rw [h]; exact Ex.stop (Ex1.ret Ev.bool)
    · rw [h]; exact Ex.stop (Ex1.ret Ev.bool)
  · rw [h]
    refine Ex.seq (Ex1.assign 2 rfl (Ev.startswith (Ev.name 1 rfl rfl) (Ev.str (by decide +kernel)))) ?_
    refine Ex.ifStop (Tst.all (.andCons (Tst.value (Ev.name 2 rfl rfl) Tru.bool) fun _ => .andCons (Tst.value (Ev.endswith (Ev.name 0 rfl rfl) (Ev.name 1 rfl rfl)) Tru.bool) fun _ => .andNil)) (fun h => ?_) fun h => ?_
    · rw [h]; exact Ex.stop (Ex1.ret Ev.bool)
    · rw [h]
      refine Ex.ifStop (Tst.all (.andCons (Tst.not (Tst.value (Ev.name 2 rfl rfl) Tru.bool)) fun _ => .andCons (Tst.cmp (Ev.name 0 rfl rfl) (Ev.name 1 rfl rfl) (Cmp.eq rfl rfl)) fun _ => .andNil)) (fun h => ?_) fun h => ?_
      · rw [h]; exact Ex.stop (Ex1.ret Ev.bool)
      · rw [h]; exact Ex.stop (Ex1.ret Ev.bool)
noncomputable def reachS (h : Str) : Str :=
  if decide (Txt.find h (Str.ofString ".") ≥ 0) then
    (if hdn h && ((decide (Txt.find (Txt.slice h (some (Txt.find h (Str.ofString ".") + 1)) none) (Str.ofString ".") ≥ 0) || (eqD (.str (Txt.slice h (some (Txt.find h (Str.ofString ".") + 1)) none)) (.str (Str.ofString "local")) || false)) && true)
      then Str.ofString "." ++ Txt.slice h (some (Txt.find h (Str.ofString ".") + 1)) none else h)
  else h
theorem f_reach (hK : C.K = hd.heap_39 P) (n : Nat) {h : Str} (hh : h.length ≤ 900) (ho : PyData.strOk h = true) (hs : (Txt.slice h (some (Txt.find h (Str.ofString ".") + 1)) none).length ≤ 900) : Fn C (n + 2) 71 [.str h] (.str (reachS h)) := by
  refine Fn.of_body (lk hK rfl) rfl rfl rfl (by rw [hK]; kernel_rfl) rfl rfl rfl (fun vs h => ?_) (NmOk.of (by kernel_rfl)) (Nat.le_of_ble_eq_true rfl) ?_
  · obtain ⟨v0, rfl⟩ := len1 h; rfl
  unfold reachS
  refine Ex.seq (Ex1.assign 1 rfl (Ev.find (Ev.name 0 rfl rfl) (Ev.str (by decide +kernel)))) ?_
  cases h1 : decide (Txt.find h (Str.ofString ".") ≥ 0) with
  | false =>
    refine Ex.seq (Ex1.skip (h1 ▸ Tst.cmp (Ev.name 1 rfl rfl) Ev.int Cmp.ge) Ex.nil) ?_
    exact Ex.stop (Ex1.ret (Ev.name 0 rfl rfl))
  | true =>
    simp only [if_true]
    have hl : (Str.ofString ".").length = 1 := by decide +kernel
    refine Ex.takeBoth (h1 ▸ Tst.cmp (Ev.name 1 rfl rfl) Ev.int Cmp.ge) (c := hdn h && ((decide (Txt.find (Txt.slice h (some (Txt.find h (Str.ofString ".") + 1)) none) (Str.ofString ".") ≥ 0) || (eqD (.str (Txt.slice h (some (Txt.find h (Str.ofString ".") + 1)) none)) (.str (Str.ofString "local")) || false)) && true)) (fun hc => ?_) fun hc => ?_
    · rw [hc]
      refine Ex.seq (Ex1.assign 2 rfl (Ev.slice_str (Ev.name 0 rfl rfl) (.some (Ev.bin (Ev.name 1 rfl rfl) Ev.int Bin.add_int)) .none (by omega))) ?_
      refine Ex.seq (Ex1.assign 1 rfl (Ev.find (Ev.name 2 rfl rfl) (Ev.str (by decide +kernel)))) ?_
      refine Ex.stop (Ex1.take (hc ▸ Tst.all (.andCons (Tst.value (Ev.call 3 rfl (g_hdn hK) (lk hK rfl) rfl (.one (Ev.name 0 rfl rfl)) (f_hdn hK n (by omega))) Tru.bool) fun _ => .andCons (Tst.all (.orCons (Tst.cmp (Ev.name 1 rfl rfl) Ev.int Cmp.ge) fun _ => .orCons (Tst.cmp (Ev.name 2 rfl rfl) (Ev.str (by decide +kernel)) (Cmp.eq rfl rfl)) fun _ => .orNil)) fun _ => .andNil)) ?_)
      exact Ex.stop (Ex1.ret (Ev.bin (Ev.str (by decide +kernel)) (Ev.name 2 rfl rfl) (Bin.add_str (by simp only [sizeLine]; omega))))
    apply Exists.intro
    apply And.intro
    · refine Ex.seq (Ex1.assign 2 rfl (Ev.slice_str (Ev.name 0 rfl rfl) (.some (Ev.bin (Ev.name 1 rfl rfl) Ev.int Bin.add_int)) .none (by omega))) ?_
      refine Ex.seq (Ex1.assign 1 rfl (Ev.find (Ev.name 2 rfl rfl) (Ev.str (by decide +kernel)))) ?_
      exact Ex.seq (Ex1.skip (hc ▸ Tst.all (.andCons (Tst.value (Ev.call 3 rfl (g_hdn hK) (lk hK rfl) rfl (.one (Ev.name 0 rfl rfl)) (f_hdn hK n (by omega))) Tru.bool) fun _ => .andCons (Tst.all (.orCons (Tst.cmp (Ev.name 1 rfl rfl) Ev.int Cmp.ge) fun _ => .orCons (Tst.cmp (Ev.name 2 rfl rfl) (Ev.str (by decide +kernel)) (Cmp.eq rfl rfl)) fun _ => .orNil)) fun _ => .andNil)) Ex.nil) Ex.nil
    · rw [hc]
      exact Ex.stop (Ex1.ret (Ev.name 0 rfl rfl))
end
end Mine
end
section
open PySem PySem.W PyProof.Rows PySem.Calls PySem.Spec
set_option maxRecDepth 100000
set_option maxHeartbeats 0
namespace Mine
noncomputable def dig (N : Int) (k : Nat) : Int := (N.fdiv (8 ^ k)).fmod 8
noncomputable def wordsL : List Str := [Str.ofString "local", Str.ofString "a", Str.ofString "7", Str.ofString "x-y", Str.ofString "Com", Str.ofString "b", Str.ofString "0", Str.ofString "Zb"]
noncomputable def sts (l : List Str) : List D := l.map .str
theorem sts_get {l : List Str} {i : Nat} {x : Str} (h : l[i]? = some x) : (sts l)[i]? = some (.str x) := by unfold sts; rw [List.getElem?_map, h]; rfl
noncomputable def wordAt (N : Int) (k : Nat) : Str := wordsL.getD (dig N k).toNat (Str.ofString "")
theorem dig_lo (N : Int) (k : Nat) : 0 ≤ dig N k := Int.fmod_nonneg_of_pos _ (by decide)
theorem dig_hi (N : Int) (k : Nat) : dig N k < 8 := Int.fmod_lt_of_pos _ (by decide)
theorem word_get (N : Int) (k : Nat) : wordsL[(dig N k).toNat]? = some (wordAt N k) := by
  have h1 := dig_lo N k
  have h2 := dig_hi N k
  have : (dig N k).toNat < wordsL.length := by show _ < 8; omega
  unfold wordAt
  rw [List.getElem?_eq_getElem this, List.getD_eq_getElem?_getD, List.getElem?_eq_getElem this]; rfl
section
variable {C : Cx} {P : Params}
theorem g_range (hK : C.K = hd.heap_39 P) : nsIn C.K mainGlobals (("range" : Str)) = some Option.none := by rw [hK]; kernel_rfl
theorem r8 : rangeD 0 1 (8 : Int).toNat = [.int 0, .int 1, .int 2, .int 3, .int 4, .int 5, .int 6, .int 7] := rfl
theorem g_enum (hK : C.K = hd.heap_39 P) : nsIn C.K mainGlobals (("enumerate" : Str)) = some Option.none := by rw [hK]; kernel_rfl
end
noncomputable def dpt : Nat → Nat
  | 0 => 0 | 1 => 1 | 2 => 1 | _ => 2
theorem dpt_lt (i : Nat) : dpt i < 3 := by unfold dpt; split <;> omega
noncomputable def signsS : Str := Str.ofString "Qa7%.-zA"
noncomputable def sgn (N : Int) (k : Nat) : Str := Txt.item signsS (dig N (k + 3))
noncomputable def e0 : Str := Str.ofString ""
noncomputable def clsS (sg : Nat → Str) : Nat → List Str
  | 0 => [Str.ofString "Q"]
  | i + 1 => clsS sg i ++ [(clsS sg i).getD i e0 ++ Str.ofString "__" ++ sg (dpt i), (clsS sg i).getD i e0 ++ Str.ofString "__" ++ sg (dpt i) ++ Str.ofString "_" ++ sg (dpt i)]
noncomputable def domS (wd : Nat → Str) : Nat → List Str
  | 0 => [Str.ofString ".local"]
  | i + 1 => domS wd i ++ [Str.ofString "." ++ wd (dpt i) ++ (domS wd i).getD i e0, Str.ofString ".B" ++ wd (dpt i) ++ (domS wd i).getD i e0]
theorem clsS_len (sg : Nat → Str) : ∀ i, (clsS sg i).length = 2 * i + 1
  | 0 => rfl
  | i + 1 => by unfold clsS; rw [List.length_append, clsS_len sg i]; simp; omega
theorem domS_len (wd : Nat → Str) : ∀ i, (domS wd i).length = 2 * i + 1
  | 0 => rfl
  | i + 1 => by unfold domS; rw [List.length_append, domS_len wd i]; simp; omega
theorem getD_get {l : List Str} {i : Nat} (h : i < l.length) : l[i]? = some (l.getD i e0) := by rw [List.getD_eq_getElem?_getD, List.getElem?_eq_getElem h]; rfl
theorem getD_in {l : List Str} {i : Nat} (h : i < l.length) : l.getD i e0 ∈ l := List.mem_of_getElem? (getD_get h)
theorem clsS_size {sg : Nat → Str} (h : ∀ k, k < 3 → (sg k).length ≤ 1) : ∀ i, ∀ x ∈ clsS sg i, x.length ≤ 1 + 5 * i
  | 0, x, hx => by
    have : x = Str.ofString "Q" := by simpa [clsS] using hx
    subst this
    decide +kernel
  | i + 1, x, hx => by
    have ih := clsS_size h i
    have hs := h _ (dpt_lt i)
    have hg := ih _ (getD_in (l := clsS sg i) (i := i) (by rw [clsS_len]; omega))
    have h2 : (Str.ofString "__").length = 2 := by decide +kernel
    have h1 : (Str.ofString "_").length = 1 := by decide +kernel
    unfold clsS at hx
    rcases List.mem_append.mp hx with hx | hx
    · have := ih x hx; omega
    · rcases List.mem_cons.mp hx with rfl | hx
      · simp only [Str.length_append]; omega
      · have := List.mem_singleton.mp hx
        subst this
        simp only [Str.length_append]; omega
theorem domS_size {wd : Nat → Str} (h : ∀ k, k < 3 → (wd k).length ≤ 5) : ∀ i, ∀ x ∈ domS wd i, x.length ≤ 6 + 7 * i
  | 0, x, hx => by
    have : x = Str.ofString ".local" := by simpa [domS] using hx
    subst this
    decide +kernel
  | i + 1, x, hx => by
    have ih := domS_size h i
    have hs := h _ (dpt_lt i)
    have hg := ih _ (getD_in (l := domS wd i) (i := i) (by rw [domS_len]; omega))
    have h2 : (Str.ofString ".B").length = 2 := by decide +kernel
    have h1 : (Str.ofString ".").length = 1 := by decide +kernel
    unfold domS at hx
    rcases List.mem_append.mp hx with hx | hx
    · have := ih x hx; omega
    · rcases List.mem_cons.mp hx with rfl | hx
      · simp only [Str.length_append]; omega
      · have := List.mem_singleton.mp hx
        subst this
        simp only [Str.length_append]; omega
theorem word_len (N : Int) (k : Nat) : (wordAt N k).length ≤ 5 := by
  have : ∀ x ∈ wordsL, x.length ≤ 5 := by decide +kernel
  exact this _ (List.mem_of_getElem? (word_get N k))
theorem signs_at : ∀ j : Fin 8, (Txt.charAt signsS (j.val : Int)).isSome = true := by decide +kernel
theorem sgn_at (N : Int) (k : Nat) : Txt.charAt signsS (dig N (k + 3)) = some ((Txt.charAt signsS (dig N (k + 3))).getD 0) := by
  have h1 := dig_lo N (k + 3)
  have h2 := dig_hi N (k + 3)
  have := signs_at ⟨(dig N (k + 3)).toNat, by omega⟩
  simp only [Int.toNat_of_nonneg h1] at this
  obtain ⟨c, hc⟩ := Option.isSome_iff_exists.mp this
  rw [hc]; rfl
theorem sgn_len (N : Int) (k : Nat) : (sgn N k).length = 1 := by unfold sgn; rw [item_of (sgn_at N k)]; rfl
theorem pow_ok : ∀ k : Nat, k < 6 → (0 : Int) < 8 ^ k ∧ (8 : Int) ^ k < 1073741824
  | 0, _ | 1, _ | 2, _ | 3, _ | 4, _ | 5, _ => by decide
noncomputable abbrev dL : List D := [.int 0, .int 1, .int 1, .int 2, .int 2, .int 2, .int 2]
theorem pairs7 : ∀ (i : Nat) (d : D × D), (numD dL)[i]? = some d → i < 7 ∧ d = (.int i, .int (dpt i))
  | 0, d, h | 1, d, h | 2, d, h | 3, d, h | 4, d, h | 5, d, h | 6, d, h => by cases h; exact ⟨by decide, rfl⟩
  | i + 7, d, h => by cases h
section
variable {C : Cx} {P : Params}
end
end Mine
end
section
open PySem PySem.W PyProof.Rows PySem.Calls PySem.Spec
set_option maxRecDepth 100000
set_option maxHeartbeats 0
namespace Mine
noncomputable def ins (l : List Int) : List D := l.map .int
theorem ins_get {l : List Int} {i : Nat} {x : Int} (h : l[i]? = some x) : (ins l)[i]? = some (.int x) := by unfold ins; rw [List.getElem?_map, h]; rfl
theorem getI {l : List Int} {i : Nat} (h : i < l.length) : l[i]? = some (l.getD i 0) := by rw [List.getD_eq_getElem?_getD, List.getElem?_eq_getElem h]; rfl
theorem mod8 (x : Int) : 0 ≤ x.fmod 8 ∧ x.fmod 8 < 8 := ⟨Int.fmod_nonneg_of_pos _ (by decide), Int.fmod_lt_of_pos _ (by decide)⟩
section
variable {C : Cx} {P : Params}
end
end Mine
end
section
open PySem PySem.W PyProof.Rows PySem.Calls PySem.Spec
set_option maxRecDepth 100000
set_option maxHeartbeats 0
namespace Mine
noncomputable abbrev i8 : List D := [.int 0, .int 1, .int 2, .int 3, .int 4, .int 5, .int 6, .int 7]
theorem i8_mem {d : D} (h : d ∈ i8) : ∃ k : Nat, k < 8 ∧ d = .int k := by
  simp only [i8, List.mem_cons, List.not_mem_nil, or_false] at h
  rcases h with rfl | rfl | rfl | rfl | rfl | rfl | rfl | rfl
  · exact ⟨0, by omega, rfl⟩
  · exact ⟨1, by omega, rfl⟩
  · exact ⟨2, by omega, rfl⟩
  · exact ⟨3, by omega, rfl⟩
  · exact ⟨4, by omega, rfl⟩
  · exact ⟨5, by omega, rfl⟩
  · exact ⟨6, by omega, rfl⟩
  · exact ⟨7, by omega, rfl⟩
theorem dput_len (kvs : List (Str × D)) (k : Str) (d : D) : (dput kvs k d).length ≤ kvs.length + 1 := by
  unfold dput; split <;> simp
noncomputable def tHid (c : Str) (ms : List Str) : D → Bool
  | .int k => isD (.bool (isPriv c (ms.getD k.toNat e0))) (.bool true)
  | _ => false
section
variable {C : Cx} {P : Params}
end
end Mine
end
section
open PySem PySem.W PyProof.Rows PySem.Calls PySem.Spec
set_option maxRecDepth 100000
set_option maxHeartbeats 0
namespace Mine
noncomputable def nts (l : List Nat) : List D := l.map fun (k : Nat) => .int (k : Int)
theorem nts_get {l : List Nat} {i : Nat} {x : Nat} (h : l[i]? = some x) : (nts l)[i]? = some (.int (x : Int)) := by unfold nts; rw [List.getElem?_map, h]; rfl
theorem nts_mem {l : List Nat} {d : D} (h : d ∈ nts l) : ∃ k ∈ l, d = .int (k : Int) := by
  unfold nts at h
  obtain ⟨k, hk, rfl⟩ := List.mem_map.mp h
  exact ⟨k, hk, rfl⟩
theorem nts_at {l : List Nat} {i : Nat} {d : D} (h : (nts l)[i]? = some d) : ∃ k, l[i]? = some k ∧ d = .int (k : Int) := by
  unfold nts at h
  rw [List.getElem?_map] at h
  cases e : l[i]? with
  | none => rw [e] at h; cases h
  | some x => rw [e] at h; cases h; exact ⟨x, rfl, rfl⟩
theorem eqD_int (a b : Int) : eqD (.int a) (.int b) = decide (a = b) := by
  show PyData.eqv (.int a) (.int b) = _
  simp only [PyData.eqv]
  rw [Bool.eq_iff_iff]
  simp
section
variable {C : Cx} {P : Params}
end
end Mine
end
section
open PySem PySem.W PyProof.Rows PySem.Calls PySem.Spec
set_option maxRecDepth 100000
set_option maxHeartbeats 0
namespace Mine
section
variable {C : Cx} {P : Params}
end
end Mine
end
section
open PySem PySem.W PyProof.Rows PySem.Calls PySem.Spec
set_option maxRecDepth 100000
set_option maxHeartbeats 0
namespace Mine
/-- a host that is tame in great letters, too -/
structure Host (h : Str) : Prop where
  len : h.length ≤ 900
  ok : PyData.strOk h = true
  up : (Txt.upper h).length ≤ 900
  upok : PyData.strOk (Txt.upper h) = true
  tame : Tame (Txt.upper h)
  sl : (Txt.slice h (some (Txt.find h (Str.ofString ".") + 1)) none).length ≤ 900
theorem sts_at {l : List Str} {i : Nat} {d : D} (h : (sts l)[i]? = some d) : ∃ x, l[i]? = some x ∧ d = .str x := by
  unfold sts at h
  rw [List.getElem?_map] at h
  cases e : l[i]? with
  | none => rw [e] at h; cases h
  | some x => rw [e] at h; cases h; exact ⟨x, rfl, rfl⟩
theorem sts_mem {l : List Str} {d : D} (h : d ∈ sts l) : ∃ x ∈ l, d = .str x := by
  unfold sts at h
  obtain ⟨x, hx, rfl⟩ := List.mem_map.mp h
  exact ⟨x, hx, rfl⟩
theorem sts_len (l : List Str) : (sts l).length = l.length := by unfold sts; simp
theorem cut_drop (l : List Str) (k : Nat) : cut (sts l) (some (k : Int)) Option.none = sts (l.drop k) := by
  unfold cut sts
  simp only [Option.elim, List.take_length, Int.toNat_natCast, List.map_drop]
theorem map_str (l : List Str) (f : Str → Str) : (sts l).map (fun d => match d with | .str x => D.str (f x) | d => d) = sts (l.map f) := by
  unfold sts; rw [List.map_map, List.map_map]; rfl
section
variable {C : Cx} {P : Params}
theorem g_udm (hK : C.K = hd.heap_39 P) : nsIn C.K mainGlobals (("user_domain_match" : Str)) = some (some (.ref 64)) := by rw [hK]; kernel_rfl
theorem g_reach (hK : C.K = hd.heap_39 P) : nsIn C.K mainGlobals (("reach" : Str)) = some (some (.ref 71)) := by rw [hK]; kernel_rfl
end
end Mine
end
section
open PySem PySem.W PyProof.Rows PySem.Calls PySem.Spec
set_option maxRecDepth 100000
set_option maxHeartbeats 0
namespace Mine
theorem nts_len (l : List Nat) : (nts l).length = l.length := by unfold nts; simp
section
variable {C : Cx} {P : Params}
end
end Mine
end
section
open PySem PySem.W PyProof.Rows PySem.Calls PySem.Spec
set_option maxRecDepth 100000
set_option maxHeartbeats 0
namespace Mine
noncomputable def corP (c : Str) : List (Str × Str) := [(c, Str.ofString "_" ++ c ++ Str.ofString "___x"), (Str.ofString "_" ++ c, Str.ofString "__" ++ c ++ Str.ofString "__x"), (Str.ofString "_" ++ c, Str.ofString "_" ++ c ++ Str.ofString "__x"), (Txt.lower c, Str.ofString "_" ++ c ++ Str.ofString "__x"),
  (c, Str.ofString "_" ++ c ++ Str.ofString "___"), (c, Str.ofString "x" ++ c ++ Str.ofString "__x"), (c, Str.ofString "__" ++ c ++ Str.ofString "__x"), (c, Str.ofString "_" ++ Txt.replace c (Str.ofString ".") (Str.ofString "+") ++ Str.ofString "__x")]
noncomputable def corD (c : Str) : List Bool := [true, true, false, false, false, false, false, !Txt.contains c (Str.ofString ".")]
noncomputable def pairD (l : List (Str × Str)) : List D := l.map fun p => .tup [.str p.1, .str p.2]
theorem pairD_get {l : List (Str × Str)} {i : Nat} {x : Str × Str} (h : l[i]? = some x) : (pairD l)[i]? = some (.tup [.str x.1, .str x.2]) := by unfold pairD; rw [List.getElem?_map, h]; rfl
noncomputable def bls (l : List Bool) : List D := l.map .bool
theorem bls_get {l : List Bool} {i : Nat} {x : Bool} (h : l[i]? = some x) : (bls l)[i]? = some (.bool x) := by unfold bls; rw [List.getElem?_map, h]; rfl
noncomputable def e2s : Str × Str := (e0, e0)
theorem getP {l : List (Str × Str)} {i : Nat} (h : i < l.length) : l[i]? = some (l.getD i e2s) := by rw [List.getD_eq_getElem?_getD, List.getElem?_eq_getElem h]; rfl
theorem getP_in {l : List (Str × Str)} {i : Nat} (h : i < l.length) : l.getD i e2s ∈ l := List.mem_of_getElem? (getP h)
theorem getB {l : List Bool} {i : Nat} (h : i < l.length) : l[i]? = some (l.getD i false) := by rw [List.getD_eq_getElem?_getD, List.getElem?_eq_getElem h]; rfl
noncomputable def tCor (c : Str) : D → Bool
  | .int k => !isD (.bool (isPriv ((corP c).getD k.toNat e2s).1 ((corP c).getD k.toNat e2s).2)) (.bool ((corD c).getD k.toNat false))
  | _ => false
section
variable {C : Cx} {P : Params}
theorem f_corners (hK : C.K = hd.heap_39 P) (n : Nat) {c : Str} (hc : c.length ≤ 100) (ho : PyData.strOk c = true) (hl : (Txt.lower c).length ≤ 900) (hlo : PyData.strOk (Txt.lower c) = true) (hr : (Txt.replace c (Str.ofString ".") (Str.ofString "+")).length ≤ 900) (hro : PyData.strOk (Txt.replace c (Str.ofString ".") (Str.ofString "+")) = true)
    (H : ∀ k, k < 8 → isPriv ((corP c).getD k e2s).1 ((corP c).getD k e2s).2 = (corD c).getD k false) : Fn C (n + 2) 148 [.str c] (.bool true) := by
  refine Fn.of_body (lk hK rfl) rfl rfl rfl (by rw [hK]; kernel_rfl) rfl rfl rfl (fun vs h => ?_) (NmOk.of (by kernel_rfl)) (by exact Nat.le_of_ble_eq_true rfl) ?_
  · obtain ⟨v0, rfl⟩ := len1 h; rfl
  have sz : sizeLine = 16777216 := by decide +kernel
  have k1 : (Str.ofString "_").length = 1 := by decide +kernel
  have k2 : (Str.ofString "__").length = 2 := by decide +kernel
  have k3 : (Str.ofString "___x").length = 4 := by decide +kernel
  have k4 : (Str.ofString "__x").length = 3 := by decide +kernel
  have k5 : (Str.ofString "___").length = 3 := by decide +kernel
  have k6 : (Str.ofString "x").length = 1 := by decide +kernel
  have k7 : (Str.ofString "+").length = 1 := by decide +kernel
  have hmul : c.length + (c.length + 1) * (Str.ofString "+").length ≤ 16777216 := by rw [k7]; omega
  have hc9 : c.length ≤ 900 := Nat.le_trans hc (by decide)
  have z1 : (Str.ofString "_").length ≤ 10 := by decide +kernel
  have z2 : (Str.ofString "__").length ≤ 10 := by decide +kernel
  have z3 : (Str.ofString "___x").length ≤ 10 := by decide +kernel
  have z4 : (Str.ofString "__x").length ≤ 10 := by decide +kernel
  have z5 : (Str.ofString "___").length ≤ 10 := by decide +kernel
  have z6 : (Str.ofString "x").length ≤ 10 := by decide +kernel
  have add1 : ∀ {a b : Nat}, a ≤ 10 → b ≤ 900 → a + b ≤ 2000 := fun h h' => Nat.le_trans (Nat.add_le_add h h') (by decide)
  have add : ∀ {a b : Str}, a.length + b.length ≤ 2000 → a.length + b.length ≤ sizeLine := fun h => by omega
  have cat : ∀ {ρ : Rho} {nm : Names} {u v : Str} {k k' : Nat} {p p' p₁ p₂ : Pos} {e : Expr} {x : Str}, Ev C (n + 1) nm ρ e 0 (.str x) → PyData.strOk u = true → PyData.strOk v = true → u.length ≤ 10 ∧ v.length ≤ 10 → x.length ≤ 900 → Ev C (n + 1) nm ρ (.BinOp (.BinOp (.Constant (.str u) k p) .Add e p₁) .Add (.Constant (.str v) k' p') p₂) 0 (.str (u ++ x ++ v)) :=
    fun h hu hv hw hz => Ev.bin (Ev.bin (Ev.str hu) h (Bin.add_str (add (by omega)))) (Ev.str hv) (Bin.add_str (add (by rw [Str.length_append]; omega)))
  refine Ex.seq (Ex1.assign 1 rfl (Ev.list (.cons (Ev.tup (.two (Ev.name 0 rfl rfl) (cat (Ev.name 0 rfl rfl) (by decide +kernel) (by decide +kernel) (by first | exact ⟨z1, z3⟩ | exact ⟨z2, z4⟩ | exact ⟨z1, z4⟩ | exact ⟨z1, z5⟩ | exact ⟨z6, z4⟩) (by first | exact hc9 | exact hl | exact hr))) (by simp)) ns_Tuple
    (.cons (Ev.tup (.two (Ev.bin (Ev.str (by decide +kernel)) (Ev.name 0 rfl rfl) (Bin.add_str (add (add1 z1 hc9)))) (cat (Ev.name 0 rfl rfl) (by decide +kernel) (by decide +kernel) (by first | exact ⟨z1, z3⟩ | exact ⟨z2, z4⟩ | exact ⟨z1, z4⟩ | exact ⟨z1, z5⟩ | exact ⟨z6, z4⟩) (by first | exact hc9 | exact hl | exact hr))) (by simp)) ns_Tuple
    (.cons (Ev.tup (.two (Ev.bin (Ev.str (by decide +kernel)) (Ev.name 0 rfl rfl) (Bin.add_str (add (add1 z1 hc9)))) (cat (Ev.name 0 rfl rfl) (by decide +kernel) (by decide +kernel) (by first | exact ⟨z1, z3⟩ | exact ⟨z2, z4⟩ | exact ⟨z1, z4⟩ | exact ⟨z1, z5⟩ | exact ⟨z6, z4⟩) (by first | exact hc9 | exact hl | exact hr))) (by simp)) ns_Tuple
    (.cons (Ev.tup (.two (Ev.lower (Ev.name 0 rfl rfl) (fits_of hl) hlo) (cat (Ev.name 0 rfl rfl) (by decide +kernel) (by decide +kernel) (by first | exact ⟨z1, z3⟩ | exact ⟨z2, z4⟩ | exact ⟨z1, z4⟩ | exact ⟨z1, z5⟩ | exact ⟨z6, z4⟩) (by first | exact hc9 | exact hl | exact hr))) (by simp)) ns_Tuple .nil)))) (by simp))) ?_
  refine Ex.seq (Ex1.assign 1 rfl (Ev.cast (d' := .list (pairD (corP c))) rfl (Ev.bin (Ev.name 1 rfl rfl) (Ev.list (.cons (Ev.tup (.two (Ev.name 0 rfl rfl) (cat (Ev.name 0 rfl rfl) (by decide +kernel) (by decide +kernel) (by first | exact ⟨z1, z3⟩ | exact ⟨z2, z4⟩ | exact ⟨z1, z4⟩ | exact ⟨z1, z5⟩ | exact ⟨z6, z4⟩) (by first | exact hc9 | exact hl | exact hr))) (by simp)) ns_Tuple
    (.cons (Ev.tup (.two (Ev.name 0 rfl rfl) (cat (Ev.name 0 rfl rfl) (by decide +kernel) (by decide +kernel) (by first | exact ⟨z1, z3⟩ | exact ⟨z2, z4⟩ | exact ⟨z1, z4⟩ | exact ⟨z1, z5⟩ | exact ⟨z6, z4⟩) (by first | exact hc9 | exact hl | exact hr))) (by simp)) ns_Tuple
    (.cons (Ev.tup (.two (Ev.name 0 rfl rfl) (cat (Ev.name 0 rfl rfl) (by decide +kernel) (by decide +kernel) (by first | exact ⟨z1, z3⟩ | exact ⟨z2, z4⟩ | exact ⟨z1, z4⟩ | exact ⟨z1, z5⟩ | exact ⟨z6, z4⟩) (by first | exact hc9 | exact hl | exact hr))) (by simp)) ns_Tuple
    (.cons (Ev.tup (.two (Ev.name 0 rfl rfl) (cat (Ev.replace (Ev.name 0 rfl rfl) (by decide +kernel) hmul hro) (by decide +kernel) (by decide +kernel) (by first | exact ⟨z1, z3⟩ | exact ⟨z2, z4⟩ | exact ⟨z1, z4⟩ | exact ⟨z1, z5⟩ | exact ⟨z6, z4⟩) (by first | exact hc9 | exact hl | exact hr))) (by simp)) ns_Tuple .nil)))) (by simp)) (Bin.add_list (by simp only [List.length_cons, List.length_nil]; omega))))) ?_
  refine Ex.seq (Ex1.assign 2 rfl (Ev.list (ds := bls (corD c)) (.cons Ev.bool ns_Constant (.cons Ev.bool ns_Constant (.cons Ev.bool ns_Constant (.cons Ev.bool ns_Constant (.cons Ev.bool ns_Constant (.cons Ev.bool ns_Constant (.cons Ev.bool ns_Constant (.cons (Ev.cmp (Ev.str (by decide +kernel)) (Ev.name 0 rfl rfl) Cmp.notin_str) ns_Compare .nil)))))))) (by simp [bls, corD]))) ?_
  have hnil : (i8.filter (tCor c)).map (fun d => d) = [] := by
    rw [List.map_id', List.filter_eq_nil_iff]
    intro d hd
    obtain ⟨k, hk, rfl⟩ := i8_mem hd
    have := H k hk
    show ¬ ((!isD (.bool (isPriv ((corP c).getD (k : Int).toNat e2s).1 ((corP c).getD (k : Int).toNat e2s).2)) (.bool ((corD c).getD (k : Int).toNat false))) = true)
    rw [Int.toNat_natCast, this]
    cases (corD c).getD k false <;> decide
  refine Ex.stop (Ex1.ret (Ev.cast rfl (Ev.cmp (Ev.cast (congrArg D.list hnil) (Ev.comp (Comp1.filter1 [none, none, none, some 2, some 1] 1 (fun d => d) (tCor c) (.cast r8 (Src1.range1 3 rfl (g_range hK) Ev.int (by decide) (by decide))) rfl (by kernel_rfl) (by kernel_rfl) rfl (fun e h => nomatch h) (fun d hd => ?_) (fun d hd ht => Ev.name 1 rfl rfl) (by simp)))) (Ev.list .nil (by simp)) (Cmp.eq rfl rfl))))
  obtain ⟨k, hk, rfl⟩ := i8_mem hd
  have gp := getP (l := corP c) (i := k) hk
  have gb := getB (l := corD c) (i := k) hk
  have sizes : ∀ p ∈ corP c, p.1.length ≤ 1000 ∧ p.2.length ≤ 1000 := by
    intro p hp
    simp only [corP, List.mem_cons, List.not_mem_nil, or_false] at hp
    have cc : ∀ {u x v : Str}, u.length ≤ 10 → x.length ≤ 900 → v.length ≤ 10 → (u ++ x ++ v).length ≤ 1000 := fun h1 h2 h3 => by
      rw [Str.length_append, Str.length_append]; exact Nat.le_trans (Nat.add_le_add (Nat.add_le_add h1 h2) h3) (by decide)
    have c1 : c.length ≤ 1000 := Nat.le_trans hc (by decide)
    have c2 : (Str.ofString "_" ++ c).length ≤ 1000 := by rw [Str.length_append]; exact Nat.le_trans (Nat.add_le_add z1 hc9) (by decide)
    rcases hp with rfl | rfl | rfl | rfl | rfl | rfl | rfl | rfl
    · exact ⟨c1, cc z1 hc9 z3⟩
    · exact ⟨c2, cc z2 hc9 z4⟩
    · exact ⟨c2, cc z1 hc9 z4⟩
    · exact ⟨Nat.le_trans hl (by decide), cc z1 hc9 z4⟩
    · exact ⟨c1, cc z1 hc9 z5⟩
    · exact ⟨c1, cc z6 hc9 z4⟩
    · exact ⟨c1, cc z2 hc9 z4⟩
    · exact ⟨c1, cc z1 hr z4⟩
  have sp := sizes _ (getP_in (l := corP c) (i := k) hk)
  exact Tst.cmp (Ev.call 2 rfl (g_private hK) (lk hK rfl) rfl (.two (Ev.sub (Ev.sub (Ev.name 4 rfl rfl) (Ev.name 1 rfl rfl) (Itm.nat (lt6 hk (by decide)) (pairD_get (l := corP c) gp))) Ev.int (Itm.tup (by decide) (by decide) rfl)) (Ev.sub (Ev.sub (Ev.name 4 rfl rfl) (Ev.name 1 rfl rfl) (Itm.nat (lt6 hk (by decide)) (pairD_get (l := corP c) gp))) Ev.int (Itm.tup (by decide) (by decide) rfl))) (f_private hK n sp.1 sp.2)) (Ev.sub (Ev.name 3 rfl rfl) (Ev.name 1 rfl rfl) (Itm.nat (lt6 hk (by decide)) (bls_get (l := corD c) gb))) (Cmp.isnot rfl)
end
end Mine
end
section
open PySem PySem.W PyProof.Rows PySem.Calls PySem.Spec
set_option maxRecDepth 100000
set_option maxHeartbeats 0
namespace Mine
theorem eqD_sts (l : List Str) : eqD (.list (sts l)) (.list (sts l)) = true := by
  show PyData.eqv (.list (pys (sts l))) (.list (pys (sts l))) = true
  simp only [PyData.eqv]
  induction l with
  | nil => rfl
  | cons x l ih =>
    show PyData.eqvAll (.str x :: pys (sts l)) (.str x :: pys (sts l)) = true
    simp only [PyData.eqvAll, PyData.eqv, beq_self_eq_true, Bool.true_and]
    exact ih
theorem flats_sts (l : List Str) (k : Nat) : flats k (sts l) = true := by
  rw [flats_iff]
  intro d hd
  obtain ⟨x, _, rfl⟩ := sts_mem hd
  cases k <;> rfl
noncomputable def bare (h : Str) : Str := Txt.slice h (some 2) none
noncomputable def own1 (h : Str) : Str := Txt.slice h (some 1) none
noncomputable def edP (h : Str) : List (Str × Str) := [(Txt.upper (bare h), bare h), (h ++ Str.ofString ".7", Txt.upper h ++ Str.ofString ".7"), (h ++ Str.ofString "7", own1 h ++ Str.ofString "7"), (own1 h, Txt.upper (own1 h)),
  (bare h, own1 h), (h, bare h), (h ++ Str.ofString ".7", own1 h ++ Str.ofString ".7"), (h ++ Str.ofString ".", own1 h)]
noncomputable def tEd (h : Str) : D → Bool
  | .int k => !isD (.bool (udm ((edP h).getD k.toNat e2s).1 ((edP h).getD k.toNat e2s).2)) (.bool (decide (k < 4)))
  | _ => false
noncomputable def alone (h z : Str) : List Str := [Str.ofString "w." ++ Txt.replace (bare h) (Str.ofString ".") (Str.ofString "-"), z ++ Str.ofString ".LOCAL", h ++ Str.ofString ".", h ++ Str.ofString ".7"]
/-- what is asked of the host's text -/
structure Edge (h z : Str) : Prop where
  len : h.length ≤ 100
  ok : PyData.strOk h = true
  bl : (bare h).length ≤ 100
  ol : (own1 h).length ≤ 100
  upb : (Txt.upper (bare h)).length ≤ 300 ∧ PyData.strOk (Txt.upper (bare h)) = true
  uph : (Txt.upper h).length ≤ 300 ∧ PyData.strOk (Txt.upper h) = true
  upo : (Txt.upper (own1 h)).length ≤ 300 ∧ PyData.strOk (Txt.upper (own1 h)) = true
  tame : ∀ k, k < 8 → Tame ((edP h).getD k e2s).1 ∧ Tame ((edP h).getD k e2s).2
  udm : ∀ k, k < 8 → udm ((edP h).getD k e2s).1 ((edP h).getD k e2s).2 = decide (k < 4)
  rok : PyData.strOk (Txt.replace (bare h) (Str.ofString ".") (Str.ofString "-")) = true
  rl : (Txt.replace (bare h) (Str.ofString ".") (Str.ofString "-")).length ≤ 300
  parts : (Builtin.Str.partsBetween (bare h) (Builtin.Str.occurrences (bare h) (Str.ofString ".") 0 (bare h).length ((bare h).length + 1)) (Str.ofString ".").length).length ≤ sizeLine
  split : ∃ l, Txt.split (bare h) (Str.ofString ".") = z :: l
  zok : PyData.strOk z = true
  zl : z.length ≤ 100
  reach : ∀ x ∈ h :: (h ++ Str.ofString "7") :: alone h z, x.length ≤ 900 ∧ PyData.strOk x = true ∧ (Txt.slice x (some (Txt.find x (Str.ofString ".") + 1)) none).length ≤ 900
  alone : (alone h z).map reachS = alone h z
  two : [reachS h, reachS (h ++ Str.ofString "7")] = [own1 h, own1 h ++ Str.ofString "7"]
section
variable {C : Cx} {P : Params}
theorem f_edges (hK : C.K = hd.heap_39 P) (n : Nat) {h z : Str} (E : Edge h z) : Fn C (n + 3) 153 [.str h] (.bool true) := by
  refine Fn.of_body (lk hK rfl) rfl rfl rfl (by rw [hK]; kernel_rfl) rfl rfl rfl (fun vs h => ?_) (NmOk.of (by kernel_rfl)) (by exact Nat.le_of_ble_eq_true rfl) ?_
  · obtain ⟨v0, rfl⟩ := len1 h; rfl
  obtain ⟨sl, hsl⟩ := E.split
  have E1 := E.len
  have E2 := E.bl
  have E3 := E.ol
  have E4 := E.upb.1
  have E5 := E.uph.1
  have E6 := E.upo.1
  have E7 := E.rl
  have E8 := E.zl
  have sz : sizeLine = 16777216 := by decide +kernel
  have k1 : (Str.ofString ".7").length = 2 := by decide +kernel
  have k2 : (Str.ofString "7").length = 1 := by decide +kernel
  have k3 : (Str.ofString ".").length = 1 := by decide +kernel
  have k4 : (Str.ofString "w.").length = 2 := by decide +kernel
  have k5 : (Str.ofString ".LOCAL").length = 6 := by decide +kernel
  have k6 : (Str.ofString "-").length = 1 := by decide +kernel
  have hmul : (bare h).length + ((bare h).length + 1) * (Str.ofString "-").length ≤ 16777216 := by rw [k6]; omega
  have F1 : h.length ≤ 300 := Nat.le_trans E1 (by decide)
  have F3 : (own1 h).length ≤ 300 := Nat.le_trans E3 (by decide)
  have F8 : z.length ≤ 300 := Nat.le_trans E8 (by decide)
  have z1 : (Str.ofString ".7").length ≤ 10 := by decide +kernel
  have z2 : (Str.ofString "7").length ≤ 10 := by decide +kernel
  have z3 : (Str.ofString ".").length ≤ 10 := by decide +kernel
  have z5 : (Str.ofString ".LOCAL").length ≤ 10 := by decide +kernel
  have cat : ∀ {ρ : Rho} {nm : Names} {v : Str} {k' : Nat} {p' p₂ : Pos} {e : Expr} {x : Str}, Ev C (n + 2) nm ρ e 0 (.str x) → PyData.strOk v = true → x.length ≤ 300 → v.length ≤ 10 → Ev C (n + 2) nm ρ (.BinOp e .Add (.Constant (.str v) k' p') p₂) 0 (.str (x ++ v)) :=
    fun h hv hz hw => Ev.bin h (Ev.str hv) (Bin.add_str (Nat.le_trans (Nat.add_le_add hz hw) (by rw [sz]; decide)))
  have own : ∀ {ρ : Rho} {p p₁ p₂ p₃ : Pos} {q : Nat}, ρ[0]? = some (some (0, .str h)) → Ev C (n + 2) [(Str.ofString "host", .local), (Str.ofString "bare", .local), (Str.ofString "pairs", .cell), (Str.ofString "alone", .local), (Str.ofString "range", .globalImplicit), (Str.ofString "reach", .globalImplicit)] ρ (.Subscript (.Name (Str.ofString "host") p) (.Slice (some (.Constant (.int 1) q p₁)) none none p₂) p₃) 0 (.str (own1 h)) :=
    fun h0 => Ev.slice_str (Ev.name 0 rfl h0) (.some Ev.int) .none (by omega)
  refine Ex.seq (Ex1.assign 1 rfl (Ev.slice_str (Ev.name 0 rfl rfl) (.some Ev.int) .none (by omega))) ?_
  refine Ex.seq (Ex1.assign 2 rfl (Ev.list (.cons (Ev.tup (.two (Ev.upper (Ev.name 1 rfl rfl) (fits_of (by show (Txt.upper (bare h)).length ≤ 900; omega)) E.upb.2) (Ev.name 1 rfl rfl)) (by simp)) ns_Tuple
    (.cons (Ev.tup (.two (cat (Ev.name 0 rfl rfl) (by decide +kernel) (by first | exact F1 | exact F3 | exact E5 | exact E6 | exact F8) (by first | exact z1 | exact z2 | exact z3 | exact z5)) (cat (Ev.upper (Ev.name 0 rfl rfl) (fits_of (Nat.le_trans E5 (by decide))) E.uph.2) (by decide +kernel) (by first | exact F1 | exact F3 | exact E5 | exact E6 | exact F8) (by first | exact z1 | exact z2 | exact z3 | exact z5))) (by simp)) ns_Tuple
    (.cons (Ev.tup (.two (cat (Ev.name 0 rfl rfl) (by decide +kernel) (by first | exact F1 | exact F3 | exact E5 | exact E6 | exact F8) (by first | exact z1 | exact z2 | exact z3 | exact z5)) (cat (own rfl) (by decide +kernel) (by first | exact F1 | exact F3 | exact E5 | exact E6 | exact F8) (by first | exact z1 | exact z2 | exact z3 | exact z5))) (by simp)) ns_Tuple
    (.cons (Ev.tup (.two (own rfl) (Ev.upper (own rfl) (fits_of (Nat.le_trans E6 (by decide))) E.upo.2)) (by simp)) ns_Tuple .nil)))) (by simp))) ?_
  refine Ex.seq (Ex1.assign 2 rfl (Ev.cast (d' := .list (pairD (edP h))) rfl (Ev.bin (Ev.name 2 rfl rfl) (Ev.list (.cons (Ev.tup (.two (Ev.name 1 rfl rfl) (own rfl)) (by simp)) ns_Tuple
    (.cons (Ev.tup (.two (Ev.name 0 rfl rfl) (Ev.name 1 rfl rfl)) (by simp)) ns_Tuple
    (.cons (Ev.tup (.two (cat (Ev.name 0 rfl rfl) (by decide +kernel) (by first | exact F1 | exact F3 | exact E5 | exact E6 | exact F8) (by first | exact z1 | exact z2 | exact z3 | exact z5)) (cat (own rfl) (by decide +kernel) (by first | exact F1 | exact F3 | exact E5 | exact E6 | exact F8) (by first | exact z1 | exact z2 | exact z3 | exact z5))) (by simp)) ns_Tuple
    (.cons (Ev.tup (.two (cat (Ev.name 0 rfl rfl) (by decide +kernel) (by first | exact F1 | exact F3 | exact E5 | exact E6 | exact F8) (by first | exact z1 | exact z2 | exact z3 | exact z5)) (own rfl)) (by simp)) ns_Tuple .nil)))) (by simp)) (Bin.add_list (by simp only [List.length_cons, List.length_nil]; omega))))) ?_
  have hnil : (i8.filter (tEd h)).map (fun d => d) = [] := by
    rw [List.map_id', List.filter_eq_nil_iff]
    intro d hd
    obtain ⟨k, hk, rfl⟩ := i8_mem hd
    have := E.udm k hk
    show ¬ ((!isD (.bool (udm ((edP h).getD (k : Int).toNat e2s).1 ((edP h).getD (k : Int).toNat e2s).2)) (.bool (decide ((k : Int) < 4)))) = true)
    have e : decide ((k : Int) < 4) = decide (k < 4) := by rw [Bool.eq_iff_iff]; simp; omega
    rw [Int.toNat_natCast, this, e]
    cases decide (k < 4) <;> decide
  refine Ex.seq (Ex1.skip (Tst.cmp (Ev.cast (congrArg D.list hnil) (Ev.comp (Comp1.filter1 [none, none, none, some 2] 1 (fun d => d) (tEd h) (.cast r8 (Src1.range1 4 rfl (g_range hK) Ev.int (by decide) (by decide))) rfl (by kernel_rfl) (by kernel_rfl) rfl (fun e h => nomatch h) (fun d hd => ?_) (fun d hd ht => Ev.name 1 rfl rfl) (by simp)))) (Ev.list .nil (by simp)) (Cmp.ne rfl rfl)) Ex.nil) ?_
  · obtain ⟨k, hk, rfl⟩ := i8_mem hd
    have gp := getP (l := edP h) (i := k) hk
    have tm := E.tame k hk
    exact Tst.cmp (Ev.call 2 rfl (g_udm hK) (lk hK rfl) rfl (.two (Ev.sub (Ev.sub (Ev.name 3 rfl rfl) (Ev.name 1 rfl rfl) (Itm.nat (lt6 hk (by decide)) (pairD_get (l := edP h) gp))) Ev.int (Itm.tup (by decide) (by decide) rfl)) (Ev.sub (Ev.sub (Ev.name 3 rfl rfl) (Ev.name 1 rfl rfl) (Itm.nat (lt6 hk (by decide)) (pairD_get (l := edP h) gp))) Ev.int (Itm.tup (by decide) (by decide) rfl))) (f_udm hK n tm.1 tm.2)) (Ev.cmp (Ev.name 1 rfl rfl) Ev.int Cmp.lt) (Cmp.isnot rfl)
  · refine Ex.seq (Ex1.assign 3 rfl (Ev.cast (d' := .list (sts (alone h z))) rfl (Ev.list (.cons (Ev.bin (Ev.str (by decide +kernel)) (Ev.replace (Ev.name 1 rfl rfl) (by decide +kernel) hmul E.rok) (Bin.add_str (by show (Str.ofString "w.").length + (Txt.replace (bare h) (Str.ofString ".") (Str.ofString "-")).length ≤ sizeLine; omega))) ns_BinOp
      (.cons (cat (Ev.splitHead (Ev.name 1 rfl rfl) (by decide +kernel) (by show (bare h).length ≤ 1000000; omega) E.parts hsl E.zok) (by decide +kernel) (by first | exact F1 | exact F3 | exact E5 | exact E6 | exact F8) (by first | exact z1 | exact z2 | exact z3 | exact z5)) ns_BinOp
      (.cons (cat (Ev.name 0 rfl rfl) (by decide +kernel) (by first | exact F1 | exact F3 | exact E5 | exact E6 | exact F8) (by first | exact z1 | exact z2 | exact z3 | exact z5)) ns_BinOp
      (.cons (cat (Ev.name 0 rfl rfl) (by decide +kernel) (by first | exact F1 | exact F3 | exact E5 | exact E6 | exact F8) (by first | exact z1 | exact z2 | exact z3 | exact z5)) ns_BinOp .nil)))) (by exact Nat.le_of_ble_eq_true rfl)))) ?_
    have er : ∀ {x : Str} {nm : Names} {ρ : Rho} {i : Nat} {e : Expr} {px pos : Pos}, nm[i]? = some (Str.ofString "reach", NameKind.globalImplicit) → Ev C (n + 2) nm ρ e 0 (.str x) → (x.length ≤ 900 ∧ PyData.strOk x = true ∧ (Txt.slice x (some (Txt.find x (Str.ofString ".") + 1)) none).length ≤ 900) → (∀ env : Env, starEach [e] env = [(false, eval e env)]) → Ev C (n + 2) nm ρ (.Call (.Name (Str.ofString "reach") px) [e] [] pos) 0 (.str (reachS x)) :=
      fun hi hx hh hs => Ev.call _ hi (g_reach hK) (lk hK rfl) rfl (.one hx hs) (f_reach hK n hh.1 hh.2.1 hh.2.2)
    have c1 : (sts (alone h z)).map (fun d => match d with | .str x => D.str (reachS x) | d => d) = sts (alone h z) := (map_str (alone h z) reachS).trans (congrArg sts E.alone)
    have c2 : [D.str (reachS h), D.str (reachS (h ++ Str.ofString "7"))] = sts [own1 h, own1 h ++ Str.ofString "7"] := by
      have := congrArg sts E.two; exact this
    have q1 := eqD_sts (alone h z)
    have q2 := eqD_sts [own1 h, own1 h ++ Str.ofString "7"]
    have fl : ∀ l : List Str, D.flat 60 (.list (sts l)) = true := fun l => flats_sts l 59
    have fin : (if eqD (.list (sts (alone h z))) (.list (sts (alone h z))) then D.bool (eqD (.list (sts [own1 h, own1 h ++ Str.ofString "7"])) (.list (sts [own1 h, own1 h ++ Str.ofString "7"]))) else D.bool (eqD (.list (sts (alone h z))) (.list (sts (alone h z))))) = .bool true := by
      rw [q1, q2]; rfl
    refine Ex.stop (Ex1.ret (Ev.cast fin (Ev.and2 (Ev.cmp (Ev.cast (congrArg D.list c1) (Ev.comp (Comp1.map1 [none, none, none] 1 _ (Src1.list (Ev.name 3 rfl rfl)) rfl (by kernel_rfl) (by kernel_rfl) rfl (fun e h => nomatch h) (fun d hd => ?_) (by rw [sts_len]; simp [alone])))) (Ev.name 3 rfl rfl) (Cmp.eq (fl _) (fl _))) Tru.bool fun _ => Ev.cmp (Ev.cast (congrArg D.list c2) (Ev.list (.two (er (i := 5) rfl (Ev.name 0 rfl rfl) (E.reach h (by simp)) n1_Name) (er (i := 5) rfl (cat (Ev.name 0 rfl rfl) (by decide +kernel) (by first | exact F1 | exact F3 | exact E5 | exact E6 | exact F8) (by first | exact z1 | exact z2 | exact z3 | exact z5)) (E.reach _ (by simp)) n1_BinOp)) (by exact Nat.le_of_ble_eq_true rfl))) (Ev.cast (d' := .list (sts [own1 h, own1 h ++ Str.ofString "7"])) rfl (Ev.list (.two (own rfl) (cat (own rfl) (by decide +kernel) (by first | exact F1 | exact F3 | exact E5 | exact E6 | exact F8) (by first | exact z1 | exact z2 | exact z3 | exact z5))) (by exact Nat.le_of_ble_eq_true rfl))) (Cmp.eq (fl _) (fl _)))))
    obtain ⟨x, hx, rfl⟩ := sts_mem hd
    exact er (i := 2) rfl (Ev.name 1 rfl rfl) (E.reach x (List.mem_cons_of_mem _ (List.mem_cons_of_mem _ hx))) n1_Name
end
end Mine
end
section
open PySem PySem.W PyProof.Rows PySem.Calls PySem.Spec
set_option maxRecDepth 100000
set_option maxHeartbeats 0
namespace Mine
/-- the k-th hidden name -/
noncomputable def hname (k : Nat) (c : Str) : Str := Str.ofString "_" ++ c ++ Str.ofString "__x" ++ Txt.mul (Str.ofString "_") ((k : Int).fmod 2)
noncomputable def hnames (cs : List Str) : List Str := (cs.drop 7).mapIdx hname
structure CornOk (c : Str) : Prop where
  len : c.length ≤ 100
  ok : PyData.strOk c = true
  low : (Txt.lower c).length ≤ 900
  lowok : PyData.strOk (Txt.lower c) = true
  rep : (Txt.replace c (Str.ofString ".") (Str.ofString "+")).length ≤ 900
  repok : PyData.strOk (Txt.replace c (Str.ofString ".") (Str.ofString "+")) = true
  H : ∀ k, k < 8 → isPriv ((corP c).getD k e2s).1 ((corP c).getD k e2s).2 = (corD c).getD k false
end Mine
end
section
open PySem PySem.W PyProof.Rows PySem.Calls PySem.Spec
open PySem.Builtin PySem.Builtin.Str
set_option maxRecDepth 100000
namespace Mine
/-! texts as lists of code points -/
noncomputable def tx (l : List Nat) : Str := ⟨l.toArray⟩
theorem tx_list (l : List Nat) : (tx l).cps.toList = l := by simp [tx]
theorem tx_len (l : List Nat) : (tx l).length = l.length := by simp [tx, Str.length]
theorem tx_app (a b : List Nat) : tx a ++ tx b = tx (a ++ b) := Str.ext' (by simp [Str.cps_append, tx])
theorem tx_inj {a b : List Nat} (h : tx a = tx b) : a = b := by
  have := congrArg (fun x : Str => x.cps.toList) h
  simpa [tx_list] using this
theorem tx_eq {x : Str} {l : List Nat} (h : x.cps.toList = l) : x = tx l := by
  cases x with
  | mk a => subst h; simp [tx]
noncomputable def asc (l : List Nat) : Prop := ∀ c ∈ l, c < 128
theorem asc_app {a b : List Nat} (ha : asc a) (hb : asc b) : asc (a ++ b) := fun c hc => (List.mem_append.mp hc).elim (ha c) (hb c)
theorem asc_cons {c : Nat} {b : List Nat} (ha : c < 128) (hb : asc b) : asc (c :: b) := fun d hd => (List.mem_cons.mp hd).elim (fun e => e ▸ ha) (hb d)
theorem asc_map {l : List Nat} {f : Nat → Nat} (h : asc l) (hf : ∀ c, c < 128 → f c < 128) : asc (l.map f) := fun c hc => by
  obtain ⟨d, hd, rfl⟩ := List.mem_map.mp hc
  exact hf d (h d hd)
theorem ok_tx {l : List Nat} (h : asc l) : PyData.strOk (tx l) = true := by
  unfold PyData.strOk tx
  rw [List.all_toArray, List.all_eq_true]
  intro c hc
  have := h c hc
  simp; omega
/-! cases -/
noncomputable def loC (c : Nat) : Nat := if 65 ≤ c ∧ c ≤ 90 then c + 32 else c
noncomputable def upC (c : Nat) : Nat := if 97 ≤ c ∧ c ≤ 122 then c - 32 else c
theorem lower_c : ∀ c : Fin 128, Unicode.lowerOf c.val = [loC c.val] := by decide +kernel
theorem upper_c : ∀ c : Fin 128, Unicode.upperOf c.val = [upC c.val] := by decide +kernel
theorem flat_one (g : Nat → Nat) : ∀ l : List Nat, (l.map fun c => [g c]).flatten = l.map g
  | [] => rfl
  | c :: l => by rw [List.map_cons, List.flatten_cons, flat_one g l]; rfl
theorem placed_one {l : List Nat} {f : Nat → Nat → List Nat} {g : Nat → Nat} (h : ∀ i c, l[i]? = some c → f i c = [g c]) : (⟨placed (tx l) f⟩ : Str) = tx (l.map g) := by
  apply tx_eq
  show (placed (tx l) f).toList = _
  unfold placed tx
  have e : (l.toArray.mapIdx fun i c => (f i c).toArray) = l.toArray.map fun c => #[g c] := by
    apply Array.ext
    · simp
    · intro i h1 h2
      have hi : i < l.length := by simpa using h1
      rw [Array.getElem_mapIdx, Array.getElem_map]
      rw [h i (l.toArray[i]'(by simpa using hi)) (by rw [List.getElem?_eq_getElem hi]; simp)]
  show (Array.mapIdx (fun i c => (f i c).toArray) l.toArray).flatten.toList = _
  rw [e]
  rw [Array.toList_flatten]
  simp only [List.map_toArray, List.map_map]
  exact flat_one g l
theorem lower_tx {l : List Nat} (h : asc l) : Txt.lower (tx l) = tx (l.map loC) := by
  unfold Txt.lower
  refine placed_one fun i c hc => ?_
  have h1 : (tx l).cps[i]? = some c := by simp [tx, hc]
  have h2 := h c (List.mem_of_getElem? hc)
  unfold Unicode.lowerAt
  rw [h1]
  have h3 : (c == 0x3A3) = false := by simp; omega
  simp only [h3, Bool.false_and, Bool.false_eq_true, if_false]
  exact lower_c ⟨c, h2⟩
theorem upper_tx {l : List Nat} (h : asc l) : Txt.upper (tx l) = tx (l.map upC) := by
  unfold Txt.upper
  exact placed_one fun i c hc => upper_c ⟨c, h c (List.mem_of_getElem? hc)⟩
theorem loC_lt (c : Nat) (h : c < 128) : loC c < 128 := by unfold loC; split <;> omega
theorem upC_lt (c : Nat) (h : c < 128) : upC c < 128 := by unfold upC; split <;> omega
theorem lo_up (c : Nat) : loC (upC c) = loC c := by unfold loC upC; (repeat' split) <;> omega
theorem lo_up_map (l : List Nat) : (l.map upC).map loC = l.map loC := by rw [List.map_map]; exact List.map_congr_left fun c _ => lo_up c
/-! beginnings and ends -/
theorem starts_tx (l p : List Nat) : Txt.startswith (tx l) (tx p) = true ↔ p <+: l := by
  unfold Txt.startswith
  rw [StrLaws.subAt_eq, tx_list, tx_list, tx_len, tx_len, List.drop_zero, Bool.and_eq_true, decide_eq_true_eq, beq_iff_eq, List.prefix_iff_eq_take]
  constructor
  · intro h; exact h.2.symm
  · intro h
    refine ⟨?_, h.symm⟩
    have := congrArg List.length h
    rw [List.length_take] at this; omega
theorem ends_tx (l p : List Nat) : Txt.endswith (tx l) (tx p) = true ↔ p <:+ l := by
  unfold Txt.endswith
  rw [StrLaws.subAt_eq, tx_list, tx_list, tx_len, tx_len, Bool.and_eq_true, decide_eq_true_eq, beq_iff_eq, List.suffix_iff_eq_drop]
  constructor
  · intro h
    have t : (l.drop (l.length - p.length)).take p.length = l.drop (l.length - p.length) := List.take_of_length_le (by rw [List.length_drop]; omega)
    rw [t] at h; exact h.2.symm
  · intro h
    refine ⟨?_, by rw [← h]; exact List.take_length⟩
    have := congrArg List.length h
    rw [List.length_drop] at this; omega
theorem bool_not {b : Bool} {p : Prop} (h : b = true ↔ p) (hp : ¬ p) : b = false := by
  cases b with
  | false => rfl
  | true => exact absurd (h.mp rfl) hp
/-! parts -/
theorem slice_tx (l : List Nat) (k : Nat) (h : k ≤ l.length) : Txt.slice (tx l) (some (k : Int)) none = tx (l.drop k) := by
  have e := StrLaws.sliceText_from (x := tx l) (i := (k : Int)) ⟨by omega, by rw [tx_list]; omega⟩
  rw [tx_list] at e
  refine Eq.trans (show Txt.slice (tx l) (some (k : Int)) none = StrLaws.sliceText (tx l) (some (k : Int)) none from rfl) (e.trans ?_)
  unfold tx
  rw [Int.toNat_natCast, List.take_of_length_le (by rw [List.length_drop]; omega)]
theorem dot_tx : Str.ofString "." = tx [46] := by decide +kernel
theorem at_one (l : List Nat) (c i : Nat) : StrLaws.At (tx l) ⟨#[c]⟩ (tx l).length i ↔ l[i]? = some c := by
  have := StrLaws.subAt_one (tx l) c i
  rw [tx_list] at this
  exact this
theorem find_yes {z r : List Nat} {c : Nat} (h : c ∉ z) : Txt.find (tx (z ++ c :: r)) (tx [c]) = (z.length : Int) := by
  unfold Txt.find
  have hit : (z ++ c :: r)[z.length]? = some c := by simp
  rcases StrLaws.occ_head (tx (z ++ c :: r)) ⟨#[c]⟩ 1 (Nat.le_refl _) with ⟨_, e2⟩ | ⟨i, q, e1, e2, e3⟩
  · exact absurd ((at_one _ _ _).mpr hit) (e2 z.length)
  · show (match occurrences (tx (z ++ c :: r)) ⟨#[c]⟩ 0 (tx (z ++ c :: r)).length 1 with | i :: _ => (i : Int) | [] => -1) = _
    rw [e1]
    have h1 : (z ++ c :: r)[i]? = some c := (at_one _ _ _).mp e2
    have h2 : ¬ z.length < i := fun hlt => e3 z.length hlt ((at_one _ _ _).mpr hit)
    have h3 : ¬ i < z.length := fun hlt => by
      rw [List.getElem?_append_left hlt] at h1
      exact h (List.mem_of_getElem? h1)
    show (i : Int) = _
    omega
theorem find_no {l : List Nat} {c : Nat} (h : c ∉ l) : Txt.find (tx l) (tx [c]) = -1 := by
  unfold Txt.find
  rcases StrLaws.occ_head (tx l) ⟨#[c]⟩ 1 (Nat.le_refl _) with ⟨e1, _⟩ | ⟨i, q, e1, e2, e3⟩
  · show (match occurrences (tx l) ⟨#[c]⟩ 0 (tx l).length 1 with | i :: _ => (i : Int) | [] => -1) = _
    rw [e1]
  · exact absurd (List.mem_of_getElem? ((at_one _ _ _).mp e2)) h
theorem contains_tx (l : List Nat) (c : Nat) : Txt.contains (tx l) (tx [c]) = decide (c ∈ l) := by
  have := StrLaws.found_one (tx l) c
  rw [tx_list] at this
  exact this
theorem item_last (l : List Nat) (c : Nat) : Txt.item (tx (l ++ [c])) (-1) = tx [c] := by
  refine item_of ?_
  unfold Txt.charAt
  refine StrLaws.at_neg (x := tx (l ++ [c])) (by decide) (by rw [tx_len]; simp; omega) ?_
  have : ((-1 : Int) + ((tx (l ++ [c])).length : Nat)).toNat = l.length := by rw [tx_len, List.length_append]; simp only [List.length_cons, List.length_nil]; omega
  rw [this]; simp [tx]
theorem item_last2 (l : List Nat) (c d : Nat) : Txt.item (tx (l ++ [c, d])) (-2) = tx [c] := by
  refine item_of ?_
  unfold Txt.charAt
  refine StrLaws.at_neg (x := tx (l ++ [c, d])) (by decide) (by rw [tx_len]; simp; omega) ?_
  have : ((-2 : Int) + ((tx (l ++ [c, d])).length : Nat)).toNat = l.length := by rw [tx_len, List.length_append]; simp only [List.length_cons, List.length_nil]; omega
  rw [this]; simp [tx]
theorem item_zero (c : Nat) (l : List Nat) : Txt.item (tx (c :: l)) 0 = tx [c] := by
  refine item_of ?_
  unfold Txt.charAt
  exact StrLaws.at_nonneg (x := tx (c :: l)) (by decide) (by simp [tx])
theorem eqD_tx (a b : List Nat) : eqD (.str (tx a)) (.str (tx b)) = decide (a = b) := by
  rw [eqD_str, Bool.eq_iff_iff, decide_eq_true_eq, decide_eq_true_eq]
  exact ⟨tx_inj, fun h => h ▸ rfl⟩
end Mine
end
section
open PySem PySem.W PyProof.Rows PySem.Calls PySem.Spec
open PySem.Builtin PySem.Builtin.Str
set_option maxRecDepth 100000
namespace Mine
theorem found_no {t : Array Nat} : ∀ (k s : Nat), (∀ i, s ≤ i → i < s + k → Re.hit t i = false) → Re.found t k s = false
  | 0, _, _ => rfl
  | k + 1, s, h => by
    show (Re.hit t s || Re.found t k (s + 1)) = false
    rw [h s (Nat.le_refl _) (by omega), found_no k (s + 1) fun i h1 h2 => h i (by omega) (by omega)]; rfl
theorem found_yes {t : Array Nat} : ∀ (k s i : Nat), s ≤ i → i < s + k → Re.hit t i = true → Re.found t k s = true
  | 0, _, _, _, _, _ => by omega
  | k + 1, s, i, h1, h2, h => by
    show (Re.hit t s || Re.found t k (s + 1)) = true
    by_cases e : i = s
    · subst e; rw [h]; rfl
    · rw [found_yes k (s + 1) i (by omega) (by omega) h, Bool.or_true]
theorem tx_size (l : List Nat) : (tx l).cps.size = l.length := by simp [tx]
theorem tx_getD (l : List Nat) (i : Nat) : (tx l).cps.getD i 0 = l.getD i 0 := by simp [tx, Array.getD_eq_getD_getElem?, List.getD_eq_getElem?_getD]
/-- a match at s: all from there on are digits -/
theorem hit_digits {l : List Nat} {s : Nat} (h : Re.hit (tx l).cps s = true) (hz : ∀ c, l[l.length - 1]? = some c → c ≠ 10) : l.getD s 0 = 46 ∧ s + 1 < l.length ∧ ∀ i, s < i → i < l.length → Sre.isDigit (l.getD i 0) = true := by
  unfold Re.hit at h
  simp only [Bool.and_eq_true, beq_iff_eq, decide_eq_true_eq] at h
  obtain ⟨h1, h2, h3⟩ := h
  rw [tx_getD] at h1
  have hle : Re.digs (tx l).cps s ≤ l.length - (s + 1) := by
    have := Re.dg_le (tx l).cps ((tx l).cps.size - (s + 1)) (s + 1)
    unfold Re.digs
    rw [tx_size] at this ⊢
    exact this
  have hdg : ∀ i, i < Re.digs (tx l).cps s → Sre.isDigit (l.getD (s + 1 + i) 0) = true := fun i hi => by
    have := Re.dg_digit (tx l).cps ((tx l).cps.size - (s + 1)) (s + 1) i hi
    rwa [tx_getD] at this
  unfold Re.atEnd at h3
  rw [tx_size, tx_getD] at h3
  simp only [Bool.or_eq_true, beq_iff_eq, Bool.and_eq_true] at h3
  have hend : s + 1 + Re.digs (tx l).cps s = l.length := by
    rcases h3 with h3 | ⟨h3, h4⟩
    · exact h3
    · have hlt : s + 1 + Re.digs (tx l).cps s < l.length := by omega
      rw [List.getD_eq_getElem?_getD, List.getElem?_eq_getElem hlt] at h4
      have := hz 10 (by rw [← h3, Nat.add_sub_cancel, List.getElem?_eq_getElem hlt]; exact congrArg some h4)
      exact absurd rfl this
  refine ⟨h1, by omega, fun i hi hl => ?_⟩
  have := hdg (i - (s + 1)) (by omega)
  rwa [show s + 1 + (i - (s + 1)) = i by omega] at this
theorem isNum_no (l : List Nat) (c : Nat) (hd : Sre.isDigit c = false) (hn : c ≠ 10) : Re.isNum (tx (l ++ [c])).cps = false := by
  unfold Re.isNum
  split
  · rfl
  · refine found_no _ _ fun i _ hi => ?_
    rw [tx_size] at hi
    cases e : Re.hit (tx (l ++ [c])).cps i with
    | false => rfl
    | true =>
      obtain ⟨_, h2, h3⟩ := hit_digits e (fun d hd' => by
        rw [List.length_append, List.length_singleton, Nat.add_sub_cancel, List.getElem?_append_right (Nat.le_refl _), Nat.sub_self] at hd'
        cases hd'; exact hn)
      have hl : (l ++ [c]).length = l.length + 1 := by simp
      have := h3 l.length (by omega) (by omega)
      rw [List.getD_eq_getElem?_getD, List.getElem?_append_right (Nat.le_refl _), Nat.sub_self] at this
      have t : Sre.isDigit c = true := this
      rw [hd] at t; cases t
theorem isNum_no2 (l : List Nat) (c d : Nat) (hc : Sre.isDigit c = false) (h46 : c ≠ 46) (hd46 : d ≠ 46) (hn : d ≠ 10) : Re.isNum (tx (l ++ [c, d])).cps = false := by
  unfold Re.isNum
  split
  · rfl
  · refine found_no _ _ fun i _ hi => ?_
    rw [tx_size] at hi
    have hl : (l ++ [c, d]).length = l.length + 2 := by simp
    have g0 : (l ++ [c, d]).getD l.length 0 = c := by
      rw [List.getD_eq_getElem?_getD, List.getElem?_append_right (Nat.le_refl _), Nat.sub_self]; rfl
    have g1 : (l ++ [c, d]).getD (l.length + 1) 0 = d := by
      rw [List.getD_eq_getElem?_getD, List.getElem?_append_right (by omega), Nat.add_sub_cancel_left]; rfl
    cases e : Re.hit (tx (l ++ [c, d])).cps i with
    | false => rfl
    | true =>
      obtain ⟨h1, h2, h3⟩ := hit_digits e (fun d' hd' => by
        rw [hl, show l.length + 2 - 1 = l.length + 1 by omega, List.getElem?_append_right (by omega), Nat.add_sub_cancel_left] at hd'
        cases hd'; exact hn)
      rw [hl] at h2
      by_cases e1 : i = l.length
      · rw [e1, g0] at h1; exact absurd h1 h46
      · have := h3 l.length (by omega) (by omega)
        rw [g0, hc] at this; cases this
theorem isNum_yes (l : List Nat) (d : Nat) (hd : Sre.isDigit d = true) : Re.isNum (tx (l ++ [46, d])).cps = true := by
  have hl : (l ++ [46, d]).length = l.length + 2 := by simp
  unfold Re.isNum
  rw [tx_size, hl, if_neg (by omega)]
  refine found_yes _ _ l.length (by omega) (by omega) ?_
  have g0 : (l ++ [46, d]).getD l.length 0 = 46 := by
    rw [List.getD_eq_getElem?_getD, List.getElem?_append_right (Nat.le_refl _), Nat.sub_self]; rfl
  have g1 : (l ++ [46, d]).getD (l.length + 1) 0 = d := by
    rw [List.getD_eq_getElem?_getD, List.getElem?_append_right (by omega), Nat.add_sub_cancel_left]; rfl
  have e1 : Re.digs (tx (l ++ [46, d])).cps l.length = 1 := by
    unfold Re.digs
    rw [tx_size, hl, show l.length + 2 - (l.length + 1) = 1 by omega]
    show (if Sre.isDigit ((tx (l ++ [46, d])).cps.getD (l.length + 1) 0) then Re.dg _ 0 _ + 1 else 0) = 1
    rw [tx_getD, g1, hd]; rfl
  unfold Re.hit Re.atEnd
  rw [e1, tx_getD, g0, tx_size, hl]
  simp
/-! cut and put together -/
noncomputable def repC (a b c : Nat) : Nat := if c = a then b else c
theorem rep_free (a b : Nat) : ∀ l : List Nat, a ∉ l → l.map (repC a b) = l
  | [], _ => rfl
  | k :: r, h => by
    rw [List.map_cons, rep_free a b r fun hm => h (List.mem_cons_of_mem _ hm)]
    unfold repC
    have hk : k ≠ a := fun e => h (by rw [e]; exact List.mem_cons_self ..)
    rw [if_neg hk]
theorem rep_join (a b : Nat) : ∀ parts : List Str, (∀ p ∈ parts, a ∉ p.cps.toList) → (Str.join ⟨#[a]⟩ parts).cps.toList.map (repC a b) = (Str.join ⟨#[b]⟩ parts).cps.toList
  | [], _ => rfl
  | [p], h => rep_free a b _ (h p (List.mem_singleton.mpr rfl))
  | p :: q :: r, h => by
    have ih := rep_join a b (q :: r) fun x hx => h x (List.mem_cons_of_mem _ hx)
    show (p ++ ⟨#[a]⟩ ++ Str.join ⟨#[a]⟩ (q :: r)).cps.toList.map (repC a b) = (p ++ ⟨#[b]⟩ ++ Str.join ⟨#[b]⟩ (q :: r)).cps.toList
    simp only [Str.cps_append, Array.toList_append, List.map_append]
    rw [ih, rep_free a b _ (h p (List.mem_cons_self ..))]
    have : [a].map (repC a b) = [b] := by simp [repC]
    rw [this]
theorem replace_tx (l : List Nat) (a b : Nat) : Txt.replace (tx l) (tx [a]) (tx [b]) = tx (l.map (repC a b)) := by
  apply tx_eq
  show (Txt.replace (tx l) ⟨#[a]⟩ ⟨#[b]⟩).cps.toList = _
  rw [StrLaws.replace_one, ← rep_join a b _ (StrLaws.split_free (tx l) a), StrLaws.join_split, tx_list]
theorem first_dot {c : Nat} : ∀ {p u z r : List Nat}, c ∉ p → c ∉ z → p ++ c :: u = z ++ c :: r → p = z
  | [], u, [], r, _, _, _ => rfl
  | [], u, y :: z, r, _, hz, e => by
    have : c = y := by injection e
    exact absurd (List.mem_cons.mpr (.inl this)) hz
  | x :: p, u, [], r, hp, _, e => by
    have : x = c := by injection e
    exact absurd (List.mem_cons.mpr (.inl this.symm)) hp
  | x :: p, u, y :: z, r, hp, hz, e => by
    injection e with e1 e2
    rw [e1, first_dot (fun m => hp (List.mem_cons_of_mem _ m)) (fun m => hz (List.mem_cons_of_mem _ m)) e2]
theorem split_tx {z r : List Nat} {c : Nat} (h : c ∉ z) : ∃ l, Txt.split (tx (z ++ c :: r)) (tx [c]) = tx z :: l := by
  show ∃ l, Txt.split (tx (z ++ c :: r)) ⟨#[c]⟩ = tx z :: l
  have h1 := StrLaws.join_split (tx (z ++ c :: r)) ⟨#[c]⟩
  have h2 := StrLaws.split_free (tx (z ++ c :: r)) c
  match e : Txt.split (tx (z ++ c :: r)) ⟨#[c]⟩ with
  | [] =>
    rw [e] at h1
    have := congrArg (fun x : Str => x.cps.toList) h1
    simp only [tx_list] at this
    have t : ([] : List Nat) = z ++ c :: r := this
    simp at t
  | [p] =>
    rw [e] at h1 h2
    have t : p = tx (z ++ c :: r) := h1
    have := h2 p (List.mem_singleton.mpr rfl)
    rw [t, tx_list] at this
    exact absurd (List.mem_append.mpr (.inr (List.mem_cons_self ..))) this
  | p :: q :: l =>
    rw [e] at h1 h2
    have hp := h2 p (List.mem_cons_self ..)
    have t : p ++ ⟨#[c]⟩ ++ Str.join ⟨#[c]⟩ (q :: l) = tx (z ++ c :: r) := h1
    have := congrArg (fun x : Str => x.cps.toList) t
    simp only [tx_list, Str.cps_append, Array.toList_append] at this
    have e2 : p.cps.toList ++ c :: (Str.join ⟨#[c]⟩ (q :: l)).cps.toList = z ++ c :: r := by
      rw [← this]; simp
    exact ⟨q :: l, by rw [tx_eq (first_dot hp h e2)]⟩
theorem parts_le (x : Str) (w n : Nat) (y : Str) : (partsBetween x (occurrences x y 0 x.length n) w).length ≤ n + 1 := by
  have := StrLaws.occ_length_le x y 0 x.length n
  unfold partsBetween
  simp only [List.length_map, List.length_zip, List.length_cons, List.length_append, List.length_nil]
  omega
end Mine
end
section
open PySem PySem.W PyProof.Rows PySem.Calls PySem.Spec
open PySem.Builtin PySem.Builtin.Str
set_option maxRecDepth 100000
namespace Mine
noncomputable def lcl : List Nat := [108, 111, 99, 97, 108]
theorem lcl_tx : Str.ofString "local" = tx lcl := by decide +kernel
theorem emp_tx : Str.ofString "" = tx [] := by decide +kernel
theorem hdn_yes {c d : Nat} {l q : List Nat} (e : c :: l = q ++ [d]) (hc : c ≠ 46) (hd : d ≠ 46) (hn : Re.isNum (tx (c :: l)).cps = false) : hdn (tx (c :: l)) = true := by
  have e1 : Txt.item (tx (c :: l)) (-1) = tx [d] := by rw [e]; exact item_last q d
  unfold hdn
  rw [hn, emp_tx, dot_tx, eqD_tx, item_zero, e1, eqD_tx, eqD_tx]
  simp [hc, hd]
theorem hdn_num {l : List Nat} (h : Re.isNum (tx l).cps = true) : hdn (tx l) = false := by unfold hdn; rw [h]; rfl
theorem hdn_dot (q : List Nat) : hdn (tx (q ++ [46])) = false := by
  unfold hdn
  rw [item_last, dot_tx, eqD_tx]
  simp
theorem reach_cut {z r : List Nat} (hz : 46 ∉ z) : reachS (tx (z ++ 46 :: r)) = if hdn (tx (z ++ 46 :: r)) && (decide (46 ∈ r) || decide (r = lcl)) then tx (46 :: r) else tx (z ++ 46 :: r) := by
  have e1 := find_yes (r := r) hz
  have e2 : Txt.slice (tx (z ++ 46 :: r)) (some ((z.length : Int) + 1)) none = tx r := by
    have := slice_tx (z ++ 46 :: r) (z.length + 1) (by simp)
    rw [show ((z.length + 1 : Nat) : Int) = (z.length : Int) + 1 by omega] at this
    rw [this]
    congr 1
    rw [List.drop_append]; simp
  have e3 : decide (Txt.find (tx r) (tx [46]) ≥ 0) = decide (46 ∈ r) := by
    by_cases h : 46 ∈ r
    · obtain ⟨a, b, rfl, ha⟩ : ∃ a b, r = a ++ 46 :: b ∧ 46 ∉ a := by
        have := List.append_of_mem h
        clear e1 e2
        induction r with
        | nil => cases h
        | cons x r ih =>
          by_cases hx : x = 46
          · exact ⟨[], r, by rw [hx]; rfl, by simp⟩
          · have hm : 46 ∈ r := by
              rcases List.mem_cons.mp h with h | h
              · exact absurd h.symm hx
              · exact h
            obtain ⟨a, b, e, ha⟩ := ih hm (List.append_of_mem hm)
            exact ⟨x :: a, b, by rw [e]; rfl, fun m => (List.mem_cons.mp m).elim (fun e => hx e.symm) ha⟩
      rw [find_yes ha]
      have : 46 ∈ a ++ 46 :: b := List.mem_append.mpr (.inr (List.mem_cons_self ..))
      simp
    · rw [find_no h]; simp [h]
  unfold reachS
  rw [dot_tx, e1, e2, e3, lcl_tx, eqD_tx, tx_app]
  simp
theorem reach_up {z r : List Nat} (hz : 46 ∉ z) (h : hdn (tx (z ++ 46 :: r)) = true) (hr : 46 ∈ r ∨ r = lcl) : reachS (tx (z ++ 46 :: r)) = tx (46 :: r) := by
  rw [reach_cut hz, h]
  rcases hr with hr | hr <;> simp [hr]
theorem reach_hd {z r : List Nat} (hz : 46 ∉ z) (h : hdn (tx (z ++ 46 :: r)) = false) : reachS (tx (z ++ 46 :: r)) = tx (z ++ 46 :: r) := by
  rw [reach_cut hz, h]; simp
theorem reach_low {z r : List Nat} (hz : 46 ∉ z) (h1 : 46 ∉ r) (h2 : r ≠ lcl) : reachS (tx (z ++ 46 :: r)) = tx (z ++ 46 :: r) := by
  rw [reach_cut hz]; simp [h1, h2]
theorem reach_flat {l : List Nat} (h : 46 ∉ l) : reachS (tx l) = tx l := by
  unfold reachS
  rw [dot_tx, find_no h]; simp
/-! user_domain_match -/
theorem lib_no {l : List Nat} (h : Re.isNum (tx l).cps = false) : lib (tx l) = true := by unfold lib; rw [h]; rfl
theorem lib_yes {l : List Nat} (h : Re.isNum (tx l).cps = true) : lib (tx l) = false := by unfold lib; rw [h]; rfl
theorem udm_lo {a b : List Nat} (ha : asc a) (hb : asc b) : udm (tx a) (tx b) = udm0 (tx (a.map loC)) (tx (b.map loC)) := by unfold udm; rw [lower_tx ha, lower_tx hb]
theorem udm_num {a b : List Nat} (h : Re.isNum (tx b).cps = true) : udm0 (tx a) (tx b) = decide (a = b) := by
  unfold udm0
  rw [lib_yes h, eqD_tx]; simp
theorem starts_dot (b : List Nat) : Txt.startswith (tx (46 :: b)) (Str.ofString ".") = true := by
  rw [dot_tx, starts_tx]; exact List.cons_prefix_cons.mpr ⟨rfl, List.nil_prefix⟩
theorem starts_nodot {c : Nat} {b : List Nat} (h : c ≠ 46) : Txt.startswith (tx (c :: b)) (Str.ofString ".") = false := by
  rw [dot_tx]
  refine bool_not (starts_tx _ _) fun h' => ?_
  exact h (List.cons_prefix_cons.mp h').1.symm
theorem udm_dot {a b : List Nat} (ha : Re.isNum (tx a).cps = false) (hb : Re.isNum (tx (46 :: b)).cps = false) : udm0 (tx a) (tx (46 :: b)) = true ↔ 46 :: b <:+ a := by
  unfold udm0
  rw [lib_no ha, lib_no hb, starts_dot]
  simp only [Bool.and_true, Bool.not_true, Bool.false_eq_true, if_false, Bool.true_and, Bool.false_and]
  rw [← ends_tx]
  cases Txt.endswith (tx a) (tx (46 :: b)) <;> simp
theorem udm_bare {a b : List Nat} {c : Nat} (hc : c ≠ 46) (ha : Re.isNum (tx a).cps = false) (hb : Re.isNum (tx (c :: b)).cps = false) : udm0 (tx a) (tx (c :: b)) = decide (a = c :: b) := by
  unfold udm0
  rw [lib_no ha, lib_no hb, starts_nodot hc, eqD_tx]
  simp
/-! the host -/
structure Bare (a z : List Nat) : Prop where
  asc : asc a
  cut : ∃ r, a = z ++ 46 :: r
  zdot : 46 ∉ z
  z0 : ∃ c y, z = c :: y ∧ c ≠ 46
  last : ∃ q, a = q ++ [108]
  len : a.length ≤ 60
noncomputable def edL (a : List Nat) : List (List Nat × List Nat) := [(a.map upC, a), (119 :: 46 :: (a ++ [46, 55]), (119 :: 46 :: a).map upC ++ [46, 55]), (119 :: 46 :: (a ++ [55]), 46 :: (a ++ [55])), (46 :: a, (46 :: a).map upC),
  (a, 46 :: a), (119 :: 46 :: a, a), (119 :: 46 :: (a ++ [46, 55]), 46 :: (a ++ [46, 55])), (119 :: 46 :: (a ++ [46]), 46 :: a)]
theorem dot7_tx : Str.ofString ".7" = tx [46, 55] := by decide +kernel
theorem seven_tx : Str.ofString "7" = tx [55] := by decide +kernel
theorem bare_tx (a : List Nat) (c d : Nat) : bare (tx (c :: d :: a)) = tx a := slice_tx (c :: d :: a) 2 (by simp)
theorem own1_tx (a : List Nat) (c : Nat) : own1 (tx (c :: a)) = tx a := slice_tx (c :: a) 1 (by simp)
theorem edP_tx {a : List Nat} (h : asc a) : edP (tx (119 :: 46 :: a)) = (edL a).map fun p => (tx p.1, tx p.2) := by
  have h1 : asc (46 :: a) := asc_cons (by decide) h
  have h2 : asc (119 :: 46 :: a) := asc_cons (by decide) h1
  unfold edP
  rw [bare_tx, own1_tx, upper_tx h, upper_tx h1, upper_tx h2, dot7_tx, seven_tx, dot_tx]
  simp only [tx_app]
  rfl
theorem tame_tx {l : List Nat} (h : asc l) (hl : l.length ≤ 900) : Tame (tx l) := ⟨by rw [tx_len]; exact hl, by rw [lower_tx h, tx_len, List.length_map]; exact hl, by rw [lower_tx h]; exact ok_tx (asc_map h loC_lt)⟩
theorem host_tx {l : List Nat} (h : asc l) (hl : l.length ≤ 900) : Host (tx l) := ⟨by rw [tx_len]; exact hl, ok_tx h, by rw [upper_tx h, tx_len, List.length_map]; exact hl, by rw [upper_tx h]; exact ok_tx (asc_map h upC_lt), by rw [upper_tx h]; exact tame_tx (asc_map h upC_lt) (by rw [List.length_map]; exact hl), Nat.le_trans (Txt.slice_le _ _ _) (by rw [tx_len]; exact hl)⟩
theorem lenC {c m : Nat} {l : List Nat} (h : l.length ≤ m) : (c :: l).length ≤ m + 1 := Nat.succ_le_succ h
theorem lenA {m n : Nat} {a b : List Nat} (h : a.length ≤ m) (h' : b.length ≤ n) : (a ++ b).length ≤ m + n := by rw [List.length_append]; exact Nat.add_le_add h h'
theorem len9 {m : Nat} {l : List Nat} (h : l.length ≤ m) (h' : m ≤ 300) : l.length ≤ 900 := Nat.le_trans h (Nat.le_trans h' (by decide))
theorem lenM {m : Nat} {l : List Nat} {f : Nat → Nat} (h : l.length ≤ m) : (l.map f).length ≤ m := by rw [List.length_map]; exact h
theorem edL_asc {a : List Nat} (h : asc a) (hl : a.length ≤ 60) : ∀ p ∈ edL a, (asc p.1 ∧ p.1.length ≤ 900) ∧ (asc p.2 ∧ p.2.length ≤ 900) := by
  have h1 : asc (46 :: a) := asc_cons (by decide) h
  have h2 : asc (119 :: 46 :: a) := asc_cons (by decide) h1
  have h3 : asc [46, 55] := by unfold asc; decide
  have h4 : asc [55] := by unfold asc; decide
  have h5 : asc [46] := by unfold asc; decide
  have c46 : ∀ {l : List Nat}, asc l → asc (46 :: l) := fun h => asc_cons (by decide) h
  have c119 : ∀ {l : List Nat}, asc l → asc (119 :: l) := fun h => asc_cons (by decide) h
  have l2 : ∀ {x y : Nat}, [x, y].length ≤ 2 := Nat.le_refl _
  have l1 : ∀ {x : Nat}, [x].length ≤ 1 := Nat.le_refl _
  have la := len9 hl (by decide)
  have lb := len9 (lenC (c := 46) hl) (by decide)
  have lc := len9 (lenC (c := 119) (lenC (c := 46) hl)) (by decide)
  refine allC ⟨⟨asc_map h upC_lt, len9 (lenM hl) (by decide)⟩, h, la⟩ (allC ⟨⟨c119 (c46 (asc_app h h3)), len9 (lenC (lenC (lenA hl l2))) (by decide)⟩, asc_app (asc_map h2 upC_lt) h3, len9 (lenA (lenM (lenC (lenC hl))) l2) (by decide)⟩ (allC ⟨⟨c119 (c46 (asc_app h h4)), len9 (lenC (lenC (lenA hl l1))) (by decide)⟩, c46 (asc_app h h4), len9 (lenC (lenA hl l1)) (by decide)⟩
    (allC ⟨⟨h1, lb⟩, asc_map h1 upC_lt, len9 (lenM (lenC hl)) (by decide)⟩ (allC ⟨⟨h, la⟩, h1, lb⟩ (allC ⟨⟨h2, lc⟩, h, la⟩ (allC ⟨⟨c119 (c46 (asc_app h h3)), len9 (lenC (lenC (lenA hl l2))) (by decide)⟩, c46 (asc_app h h3), len9 (lenC (lenA hl l2)) (by decide)⟩ (allC ⟨⟨c119 (c46 (asc_app h h5)), len9 (lenC (lenC (lenA hl l1))) (by decide)⟩, h1, lb⟩ allN)))))))
theorem udm_lists {a b : List Nat} (ha : asc a) (hb : asc b) : udm (tx a) (tx b) = udm0 (tx (a.map loC)) (tx (b.map loC)) := udm_lo ha hb
theorem num_l (q : List Nat) : Re.isNum (tx (q ++ [108])).cps = false := isNum_no q 108 (by decide) (by decide)
theorem num_l7 (q : List Nat) : Re.isNum (tx (q ++ [108, 55])).cps = false := isNum_no2 q 108 55 (by decide) (by decide) (by decide) (by decide)
theorem num_7 (q : List Nat) : Re.isNum (tx (q ++ [46, 55])).cps = true := isNum_yes q 55 (by decide)
theorem loC_nz {c : Nat} (h : c ≠ 46) : loC c ≠ 46 := by unfold loC; split <;> omega
theorem ml1 (a t : List Nat) : (46 :: (a ++ t)).map loC = 46 :: (a.map loC ++ t.map loC) := congrArg (46 :: ·) List.map_append
theorem ml2 (a t : List Nat) : (119 :: 46 :: (a ++ t)).map loC = 119 :: 46 :: (a.map loC ++ t.map loC) := congrArg (fun l => 119 :: 46 :: l) List.map_append
theorem edge_udm {a z : List Nat} (B : Bare a z) : ∀ k, k < 8 → udm ((edP (tx (119 :: 46 :: a))).getD k e2s).1 ((edP (tx (119 :: 46 :: a))).getD k e2s).2 = decide (k < 4) := by
  obtain ⟨r, hr⟩ := B.cut
  obtain ⟨c, y, hz, hc⟩ := B.z0
  obtain ⟨q, hq⟩ := B.last
  have ha := B.asc
  rw [edP_tx ha]
  have A := edL_asc ha B.len
  have e1 : a.map loC = q.map loC ++ [108] := by rw [hq, List.map_append]; rfl
  have e2 : ∃ t, a.map loC = loC c :: t := ⟨_, by rw [hr, hz]; rfl⟩
  obtain ⟨t, e2⟩ := e2
  have nc := loC_nz hc
  have n0 : Re.isNum (tx (a.map loC)).cps = false := by rw [e1]; exact num_l _
  have n1 : Re.isNum (tx (46 :: a.map loC)).cps = false := by rw [e1]; exact num_l (46 :: q.map loC)
  have n2 : Re.isNum (tx (119 :: 46 :: a.map loC)).cps = false := by rw [e1]; exact num_l (119 :: 46 :: q.map loC)
  have n3 : Re.isNum (tx (46 :: (a.map loC ++ [55]))).cps = false := by rw [e1, List.append_assoc]; exact num_l7 (46 :: q.map loC)
  have n4 : Re.isNum (tx (119 :: 46 :: (a.map loC ++ [55]))).cps = false := by rw [e1, List.append_assoc]; exact num_l7 (119 :: 46 :: q.map loC)
  have n5 : Re.isNum (tx (119 :: 46 :: (a.map loC ++ [46, 55]))).cps = true := num_7 (119 :: 46 :: a.map loC)
  have n6 : Re.isNum (tx (46 :: (a.map loC ++ [46, 55]))).cps = true := num_7 (46 :: a.map loC)
  have n7 : Re.isNum (tx (119 :: 46 :: (a.map loC ++ [46]))).cps = false := isNum_no (119 :: 46 :: a.map loC) 46 (by decide) (by decide)
  have m46 : loC 46 = 46 := rfl
  have m119 : loC 119 = 119 := rfl
  have m55 : loC 55 = 55 := rfl
  intro k hk
  match k, hk with
  | 0, _ =>
    have h := A (a.map upC, a) (.head _)
    show udm (tx (a.map upC)) (tx a) = true
    rw [udm_lists h.1.1 h.2.1, lo_up_map, e2, udm_bare nc (e2 ▸ n0) (e2 ▸ n0), decide_eq_true rfl]
  | 1, _ =>
    have h := A (119 :: 46 :: (a ++ [46, 55]), (119 :: 46 :: a).map upC ++ [46, 55]) (.tail _ (.head _))
    show udm (tx (119 :: 46 :: (a ++ [46, 55]))) (tx ((119 :: 46 :: a).map upC ++ [46, 55])) = true
    rw [udm_lists h.1.1 h.2.1]
    have x1 : (119 :: 46 :: (a ++ [46, 55])).map loC = 119 :: 46 :: (a.map loC ++ [46, 55]) := ml2 a [46, 55]
    have x2 : ((119 :: 46 :: a).map upC ++ [46, 55]).map loC = 119 :: 46 :: (a.map loC ++ [46, 55]) := by rw [List.map_append, lo_up_map]; rfl
    rw [x1, x2, udm_num n5, decide_eq_true rfl]
  | 2, _ =>
    have h := A (119 :: 46 :: (a ++ [55]), 46 :: (a ++ [55])) (.tail _ (.tail _ (.head _)))
    show udm (tx (119 :: 46 :: (a ++ [55]))) (tx (46 :: (a ++ [55]))) = true
    rw [udm_lists h.1.1 h.2.1]
    have x1 : (119 :: 46 :: (a ++ [55])).map loC = 119 :: 46 :: (a.map loC ++ [55]) := ml2 a [55]
    have x2 : (46 :: (a ++ [55])).map loC = 46 :: (a.map loC ++ [55]) := ml1 a [55]
    rw [x1, x2]
    exact (udm_dot n4 n3).mpr ⟨[119], rfl⟩
  | 3, _ =>
    have h := A (46 :: a, (46 :: a).map upC) (.tail _ (.tail _ (.tail _ (.head _))))
    show udm (tx (46 :: a)) (tx ((46 :: a).map upC)) = true
    rw [udm_lists h.1.1 h.2.1, lo_up_map]
    have x1 : (46 :: a).map loC = 46 :: a.map loC := rfl
    rw [x1]
    exact (udm_dot n1 n1).mpr (List.suffix_refl _)
  | 4, _ =>
    have h := A (a, 46 :: a) (.tail _ (.tail _ (.tail _ (.tail _ (.head _)))))
    show udm (tx a) (tx (46 :: a)) = false
    rw [udm_lists h.1.1 h.2.1]
    have x1 : (46 :: a).map loC = 46 :: a.map loC := rfl
    rw [x1]
    exact bool_not (udm_dot n0 n1) fun hs => by
      have : (46 :: a.map loC).length ≤ (a.map loC).length := hs.length_le
      exact Nat.not_succ_le_self _ this
  | 5, _ =>
    have h := A (119 :: 46 :: a, a) (.tail _ (.tail _ (.tail _ (.tail _ (.tail _ (.head _))))))
    show udm (tx (119 :: 46 :: a)) (tx a) = false
    rw [udm_lists h.1.1 h.2.1]
    have x1 : (119 :: 46 :: a).map loC = 119 :: 46 :: a.map loC := rfl
    rw [x1]
    have := udm_bare (a := 119 :: 46 :: a.map loC) (b := t) nc n2 (e2 ▸ n0)
    rw [← e2] at this
    rw [this, decide_eq_false_iff_not]
    intro e
    have := congrArg List.length e
    simp only [List.length_cons] at this; omega
  | 6, _ =>
    have h := A (119 :: 46 :: (a ++ [46, 55]), 46 :: (a ++ [46, 55])) (.tail _ (.tail _ (.tail _ (.tail _ (.tail _ (.tail _ (.head _)))))))
    show udm (tx (119 :: 46 :: (a ++ [46, 55]))) (tx (46 :: (a ++ [46, 55]))) = false
    rw [udm_lists h.1.1 h.2.1]
    have x1 : (119 :: 46 :: (a ++ [46, 55])).map loC = 119 :: 46 :: (a.map loC ++ [46, 55]) := ml2 a [46, 55]
    have x2 : (46 :: (a ++ [46, 55])).map loC = 46 :: (a.map loC ++ [46, 55]) := ml1 a [46, 55]
    rw [x1, x2, udm_num n6, decide_eq_false_iff_not]
    intro e
    have := congrArg List.length e
    simp only [List.length_cons] at this; omega
  | 7, _ =>
    have h := A (119 :: 46 :: (a ++ [46]), 46 :: a) (.tail _ (.tail _ (.tail _ (.tail _ (.tail _ (.tail _ (.tail _ (.head _))))))))
    show udm (tx (119 :: 46 :: (a ++ [46]))) (tx (46 :: a)) = false
    rw [udm_lists h.1.1 h.2.1]
    have x1 : (119 :: 46 :: (a ++ [46])).map loC = 119 :: 46 :: (a.map loC ++ [46]) := ml2 a [46]
    have x2 : (46 :: a).map loC = 46 :: a.map loC := rfl
    rw [x1, x2]
    refine bool_not (udm_dot n7 n1) fun hs => ?_
    obtain ⟨u, hu⟩ := hs
    rw [e1] at hu
    have h1 := congrArg List.getLast? hu
    have g1 : (u ++ 46 :: (q.map loC ++ [108])).getLast? = some 108 := by
      rw [show u ++ 46 :: (q.map loC ++ [108]) = (u ++ 46 :: q.map loC) ++ [108] from (List.append_assoc u (46 :: q.map loC) [108]).symm, List.getLast?_concat]
    have g2 : (119 :: 46 :: (q.map loC ++ [108] ++ [46])).getLast? = some 46 := by
      rw [show 119 :: 46 :: (q.map loC ++ [108] ++ [46]) = (119 :: 46 :: (q.map loC ++ [108])) ++ [46] from rfl, List.getLast?_concat]
    rw [g1, g2] at h1
    cases h1
theorem wdot_tx : Str.ofString "w." = tx [119, 46] := by decide +kernel
theorem LOC_tx : Str.ofString ".LOCAL" = tx (46 :: [76, 79, 67, 65, 76]) := by decide +kernel
theorem minus_tx : Str.ofString "-" = tx [45] := by decide +kernel
theorem edge_of {a z : List Nat} (B : Bare a z) : Edge (tx (119 :: 46 :: a)) (tx z) := by
  obtain ⟨r, hr⟩ := B.cut
  obtain ⟨c, y, hz, hc⟩ := B.z0
  obtain ⟨q, hq⟩ := B.last
  have ha := B.asc
  have hl := B.len
  have A := edL_asc ha hl
  have h1 : asc (46 :: a) := asc_cons (by decide) ha
  have h2 : asc (119 :: 46 :: a) := asc_cons (by decide) h1
  have z1 : asc z := fun d hd => ha d (by rw [hr]; exact List.mem_append.mpr (.inl hd))
  have zl : z.length ≤ 60 := by rw [hr, List.length_append] at hl; omega
  have m46 : 46 ∈ a := by rw [hr]; exact List.mem_append.mpr (.inr (List.mem_cons_self ..))
  have w1 : 46 ∉ [119] := by decide
  have r1 : asc (a.map (repC 46 45)) := asc_map ha fun c h => by unfold repC; split <;> omega
  have r2 : Txt.replace (tx a) (Str.ofString ".") (Str.ofString "-") = tx (a.map (repC 46 45)) := by rw [dot_tx, minus_tx]; exact replace_tx a 46 45
  have r3 : 46 ∉ a.map (repC 46 45) := fun m => by
    obtain ⟨d, _, e⟩ := List.mem_map.mp m
    unfold repC at e
    split at e
    · cases e
    · rename_i hd; exact hd e
  have r4 : a.map (repC 46 45) ≠ lcl := fun e => by
    have : 45 ∈ a.map (repC 46 45) := List.mem_map.mpr ⟨46, m46, rfl⟩
    rw [e] at this
    revert this; decide
  have al : alone (tx (119 :: 46 :: a)) (tx z) = [tx ([119] ++ 46 :: a.map (repC 46 45)), tx (z ++ 46 :: [76, 79, 67, 65, 76]), tx ([119] ++ 46 :: (a ++ [46])), tx ([119] ++ 46 :: (a ++ [46, 55]))] := by
    unfold alone
    rw [bare_tx, r2, wdot_tx, LOC_tx, dot7_tx, dot_tx]
    simp only [tx_app]; rfl
  have h7 : tx (119 :: 46 :: a) ++ Str.ofString "7" = tx ([119] ++ 46 :: (a ++ [55])) := by rw [seven_tx, tx_app]; rfl
  have c46 : ∀ {l : List Nat}, asc l → asc (46 :: l) := fun h => asc_cons (by decide) h
  have c119 : ∀ {l : List Nat}, asc l → asc (119 :: l) := fun h => asc_cons (by decide) h
  have h5 : asc [46, 55] := by unfold asc; decide
  have h6 : asc [55] := by unfold asc; decide
  have h8 : asc [46] := by unfold asc; decide
  have h9 : asc (46 :: [76, 79, 67, 65, 76]) := by unfold asc; decide
  have big : ∀ {l : List Nat}, asc l → l.length ≤ 900 → (tx l).length ≤ 900 ∧ PyData.strOk (tx l) = true ∧ (Txt.slice (tx l) (some (Txt.find (tx l) (Str.ofString ".") + 1)) none).length ≤ 900 :=
    fun h hl => ⟨by rw [tx_len]; exact hl, ok_tx h, Nat.le_trans (Txt.slice_le _ _ _) (by rw [tx_len]; exact hl)⟩
  refine Edge.mk (by rw [tx_len]; exact Nat.le_trans (lenC (lenC hl)) (by decide)) (ok_tx h2) (by rw [bare_tx, tx_len]; exact Nat.le_trans hl (by decide)) (by rw [own1_tx, tx_len]; exact Nat.le_trans (lenC hl) (by decide)) ?_ ?_ ?_ ?_ (edge_udm B) (by rw [bare_tx, r2]; exact ok_tx r1) (by rw [bare_tx, r2, tx_len, List.length_map]; omega) ?_ ?_ (ok_tx z1) (by rw [tx_len]; omega) ?_ ?_ ?_
  · rw [bare_tx, upper_tx ha, tx_len, List.length_map]
    exact ⟨by omega, ok_tx (asc_map ha upC_lt)⟩
  · rw [upper_tx h2, tx_len, List.length_map]
    exact ⟨Nat.le_trans (lenC (lenC hl)) (by decide), ok_tx (asc_map h2 upC_lt)⟩
  · rw [own1_tx, upper_tx h1, tx_len, List.length_map]
    exact ⟨Nat.le_trans (lenC hl) (by decide), ok_tx (asc_map h1 upC_lt)⟩
  · intro k hk
    rw [edP_tx ha]
    have : ∀ p ∈ (edL a).map (fun p => (tx p.1, tx p.2)), Tame p.1 ∧ Tame p.2 := fun p hp => by
      obtain ⟨p', hp', rfl⟩ := List.mem_map.mp hp
      have := A p' hp'
      exact ⟨tame_tx this.1.1 this.1.2, tame_tx this.2.1 this.2.2⟩
    exact this _ (getP_in (l := (edL a).map fun p => (tx p.1, tx p.2)) (i := k) hk)
  · rw [bare_tx, tx_len]
    refine Nat.le_trans (parts_le _ _ _ _) ?_
    have sz : sizeLine = 16777216 := by decide +kernel
    omega
  · rw [bare_tx, hr, dot_tx]; exact split_tx B.zdot
  · rw [h7, al]
    exact allC (big h2 (len9 (lenC (lenC hl)) (by decide))) (allC (big (c119 (c46 (asc_app ha h6))) (len9 (lenC (lenC (lenA hl (Nat.le_refl 1)))) (by decide))) (allC (big (c119 (c46 r1)) (len9 (lenC (lenC (lenM hl))) (by decide))) (allC (big (asc_app z1 h9) (len9 (lenA zl (Nat.le_refl 6)) (by decide))) (allC (big (c119 (c46 (asc_app ha h8))) (len9 (lenC (lenC (lenA hl (Nat.le_refl 1)))) (by decide))) (allC (big (c119 (c46 (asc_app ha h5))) (len9 (lenC (lenC (lenA hl (Nat.le_refl 2)))) (by decide))) allN)))))
  · rw [al]
    have q3 : (119 :: 46 :: a) ++ [46] = [119] ++ 46 :: (a ++ [46]) := rfl
    have q4 : (119 :: 46 :: a) ++ [46, 55] = [119] ++ 46 :: (a ++ [46, 55]) := rfl
    have e1 := reach_low (z := [119]) w1 r3 r4
    have e2 := reach_low (z := z) (r := [76, 79, 67, 65, 76]) B.zdot (by decide) (by decide)
    have e3 := reach_hd (z := [119]) (r := a ++ [46]) w1 (q3 ▸ hdn_dot (119 :: 46 :: a))
    have e4 := reach_hd (z := [119]) (r := a ++ [46, 55]) w1 (q4 ▸ hdn_num (num_7 (119 :: 46 :: a)))
    simp only [List.map_cons, List.map_nil, e1, e2, e3, e4]
  · rw [own1_tx, h7]
    have q5 : [119] ++ 46 :: a = (119 :: 46 :: q) ++ [108] := by rw [hq]; rfl
    have q6 : [119] ++ 46 :: (a ++ [55]) = (119 :: 46 :: q) ++ [108, 55] := by rw [hq, List.append_assoc]; rfl
    have q7 : [119] ++ 46 :: a = 119 :: 46 :: a := rfl
    have q8 : [119] ++ 46 :: (a ++ [55]) = 119 :: 46 :: (a ++ [55]) := rfl
    have q9 : 119 :: 46 :: (a ++ [55]) = (119 :: 46 :: a) ++ [55] := rfl
    have q10 : (46 :: a) ++ [55] = 46 :: (a ++ [55]) := rfl
    have n2 : Re.isNum (tx ([119] ++ 46 :: a)).cps = false := q5 ▸ num_l (119 :: 46 :: q)
    have n4 : Re.isNum (tx ([119] ++ 46 :: (a ++ [55]))).cps = false := q6 ▸ num_l7 (119 :: 46 :: q)
    have d1 : hdn (tx ([119] ++ 46 :: a)) = true := by
      rw [q7] at n2 q5 ⊢
      exact hdn_yes q5 (by decide) (by decide) n2
    have d2 : hdn (tx ([119] ++ 46 :: (a ++ [55]))) = true := by
      rw [q8] at n4 ⊢
      exact hdn_yes q9 (by decide) (by decide) n4
    have e1 := reach_up (z := [119]) (r := a) w1 d1 (.inl m46)
    have e2 := reach_up (z := [119]) (r := a ++ [55]) w1 d2 (.inl (List.mem_append.mpr (.inl m46)))
    rw [q7] at e1
    rw [e1, e2, seven_tx, tx_app, q10]
end Mine
end
section
open PySem PySem.W PyProof.Rows PySem.Calls PySem.Spec
open PySem.Builtin PySem.Builtin.Str
set_option maxRecDepth 100000
namespace Mine
theorem us_tx : Str.ofString "_" = tx [95] := by decide +kernel
theorem us2_tx : Str.ofString "__" = tx [95, 95] := by decide +kernel
theorem us2x_tx : Str.ofString "__x" = tx [95, 95, 120] := by decide +kernel
theorem us3x_tx : Str.ofString "___x" = tx [95, 95, 95, 120] := by decide +kernel
theorem us3_tx : Str.ofString "___" = tx [95, 95, 95] := by decide +kernel
theorem x_tx : Str.ofString "x" = tx [120] := by decide +kernel
theorem plus_tx : Str.ofString "+" = tx [43] := by decide +kernel
theorem Q_tx : Str.ofString "Q" = tx [81] := by decide +kernel
theorem pat_tx (c : List Nat) : pat (tx c) = tx (95 :: (c ++ [95, 95])) := by
  unfold pat; rw [us_tx, us2_tx, tx_app, tx_app]; rfl
/-- what the program's _is_private says, on lists -/
noncomputable def privL (c m : List Nat) : Bool := (95 :: (c ++ [95, 95])).isPrefixOf m && decide (c.length + 3 < m.length)
theorem priv_tx (c q : List Nat) (x y : Nat) : isPriv (tx c) (tx (q ++ [x, y])) = (privL c (q ++ [x, y]) && !(decide (x = 95) && decide (y = 95))) := by
  have e1 : Txt.item (tx (q ++ [x, y])) (-1) = tx [y] := by
    rw [show q ++ [x, y] = (q ++ [x]) ++ [y] by simp]; exact item_last _ _
  have e2 : Txt.startswith (tx (q ++ [x, y])) (tx (95 :: (c ++ [95, 95]))) = (95 :: (c ++ [95, 95])).isPrefixOf (q ++ [x, y]) := by
    rw [Bool.eq_iff_iff, starts_tx, List.isPrefixOf_iff_prefix]
  unfold isPriv
  rw [pat_tx, e1, item_last2, e2, us_tx, eqD_tx, eqD_tx, tx_len, tx_len]
  unfold privL
  have e3 : decide (((q ++ [x, y]).length : Int) > ((95 :: (c ++ [95, 95])).length : Int)) = decide (c.length + 3 < (q ++ [x, y]).length) := by
    rw [Bool.eq_iff_iff, decide_eq_true_eq, decide_eq_true_eq]
    simp only [List.length_cons, List.length_append, List.length_nil]; omega
  rw [e3]
  by_cases h1 : x = 95 <;> by_cases h2 : y = 95 <;> simp [h1, h2, Bool.and_comm]
/-! the classes' tree -/
noncomputable def clsL (s : Nat → Nat) : Nat → List (List Nat)
  | 0 => [[81]]
  | i + 1 => clsL s i ++ [(clsL s i).getD i [] ++ [95, 95, s (dpt i)], (clsL s i).getD i [] ++ [95, 95, s (dpt i), 95, s (dpt i)]]
theorem getD_map_tx (l : List (List Nat)) (i : Nat) : (l.map tx).getD i e0 = tx (l.getD i []) := by
  rw [List.getD_eq_getElem?_getD, List.getD_eq_getElem?_getD, List.getElem?_map]
  cases l[i]? with
  | none => exact emp_tx
  | some x => rfl
theorem clsS_tx {sg : Nat → Str} {s : Nat → Nat} (h : ∀ k, sg k = tx [s k]) : ∀ i, clsS sg i = (clsL s i).map tx
  | 0 => by unfold clsS clsL; rw [Q_tx]; rfl
  | i + 1 => by
    unfold clsS clsL
    rw [clsS_tx h i, getD_map_tx, h, us2_tx, us_tx, tx_app, tx_app, tx_app, tx_app, List.map_append]
    simp
noncomputable def nameL (k : Nat) (c : List Nat) : List Nat := 95 :: (c ++ [95, 95, 120]) ++ List.replicate (k % 2) 95
theorem mul_tx : ∀ k : Nat, k < 2 → Txt.mul (Str.ofString "_") (k : Int) = tx (List.replicate k 95)
  | 0, _ | 1, _ => by decide +kernel
theorem hname_tx (k : Nat) (c : List Nat) : hname k (tx c) = tx (nameL k c) := by
  unfold hname nameL
  have e : (k : Int).fmod 2 = ((k % 2 : Nat) : Int) := by
    rw [Int.fmod_eq_emod_of_nonneg _ (by decide)]; rfl
  rw [e, mul_tx _ (Nat.mod_lt _ (by decide)), us_tx, us2x_tx, tx_app, tx_app, tx_app]; rfl
noncomputable def cls15 (a b c : Nat) : List (List Nat) := [[81], [81, 95, 95, a], [81, 95, 95, a, 95, a], [81, 95, 95, a, 95, 95, b], [81, 95, 95, a, 95, 95, b, 95, b], [81, 95, 95, a, 95, a, 95, 95, b], [81, 95, 95, a, 95, a, 95, 95, b, 95, b],
  [81, 95, 95, a, 95, 95, b, 95, 95, c], [81, 95, 95, a, 95, 95, b, 95, 95, c, 95, c], [81, 95, 95, a, 95, 95, b, 95, b, 95, 95, c], [81, 95, 95, a, 95, 95, b, 95, b, 95, 95, c, 95, c],
  [81, 95, 95, a, 95, a, 95, 95, b, 95, 95, c], [81, 95, 95, a, 95, a, 95, 95, b, 95, 95, c, 95, c], [81, 95, 95, a, 95, a, 95, 95, b, 95, b, 95, 95, c], [81, 95, 95, a, 95, a, 95, 95, b, 95, b, 95, 95, c, 95, c]]
theorem cls15_eq (s : Nat → Nat) : clsL s 7 = cls15 (s 0) (s 1) (s 2) := rfl
noncomputable def names8 (a b c : Nat) : List (List Nat) := ((cls15 a b c).drop 7).mapIdx nameL
/-- the names that the classes hide -/
noncomputable def hid15 : List (List Bool) := [[true, true, true, true, true, true, true, true], [true, true, true, true, false, false, false, false], [false, false, false, false, true, true, true, true],
  [true, true, false, false, false, false, false, false], [false, false, true, true, false, false, false, false], [false, false, false, false, true, true, false, false], [false, false, false, false, false, false, true, true],
  [true, false, false, false, false, false, false, false], [false, true, false, false, false, false, false, false], [false, false, true, false, false, false, false, false], [false, false, false, true, false, false, false, false],
  [false, false, false, false, true, false, false, false], [false, false, false, false, false, true, false, false], [false, false, false, false, false, false, true, false], [false, false, false, false, false, false, false, true]]
/-! the same with marks for the three signs -/
noncomputable def rh (a b c t : Nat) : Nat := if t = 1000 then a else if t = 1001 then b else if t = 1002 then c else t
noncomputable def clsT : List (List Nat) := cls15 1000 1001 1002
theorem cls_rh (a b c : Nat) : cls15 a b c = clsT.map (List.map (rh a b c)) := rfl
theorem name_rh (a b c k : Nat) (y : List Nat) : nameL k (y.map (rh a b c)) = (nameL k y).map (rh a b c) := by
  unfold nameL
  rw [List.map_append, List.map_cons, List.map_append, List.map_replicate]
  rfl
theorem names_rh (a b c : Nat) : names8 a b c = (names8 1000 1001 1002).map (List.map (rh a b c)) := by
  unfold names8
  rw [cls_rh a b c]
  apply List.ext_getElem?
  intro i
  rw [List.getElem?_map, List.getElem?_mapIdx, List.getElem?_mapIdx, List.getElem?_drop, List.getElem?_drop, List.getElem?_map]
  show _ = Option.map _ (Option.map _ clsT[7 + i]?)
  cases clsT[7 + i]? with
  | none => rfl
  | some y => exact congrArg some (name_rh a b c i y)
theorem rh_95 {a b c : Nat} (ha : a ≠ 95) (hb : b ≠ 95) (hc : c ≠ 95) (t : Nat) : rh a b c t = 95 ↔ t = 95 := by
  unfold rh
  by_cases h : t = 1000
  · rw [if_pos h, h]; exact ⟨fun e => absurd e ha, fun e => absurd e (by decide)⟩
  · rw [if_neg h]
    by_cases h : t = 1001
    · rw [if_pos h, h]; exact ⟨fun e => absurd e hb, fun e => absurd e (by decide)⟩
    · rw [if_neg h]
      by_cases h : t = 1002
      · rw [if_pos h, h]; exact ⟨fun e => absurd e hc, fun e => absurd e (by decide)⟩
      · rw [if_neg h]
noncomputable def pfT : List Nat → List Nat → Option Bool
  | [], _ => some true
  | _ :: _, [] => some false
  | x :: xs, y :: ys => if x = y then pfT xs ys else if x = 95 then some false else if y = 95 then some false else none
theorem pf_ok {f : Nat → Nat} (hf : ∀ t, f t = 95 ↔ t = 95) : ∀ (xs ys : List Nat) (b : Bool), pfT xs ys = some b → (xs.map f).isPrefixOf (ys.map f) = b
  | [], _, _, h => Option.some.inj h
  | _ :: _, [], _, h => Option.some.inj h
  | x :: xs, y :: ys, b, h => by
    unfold pfT at h
    show (f x == f y && (xs.map f).isPrefixOf (ys.map f)) = b
    by_cases e : x = y
    · rw [if_pos e] at h
      rw [e, beq_self_eq_true, Bool.true_and]
      exact pf_ok hf xs ys b h
    · rw [if_neg e] at h
      have key : (x = 95 ∨ y = 95) → false = b → (f x == f y && (xs.map f).isPrefixOf (ys.map f)) = b := fun q z => by
        have ne : (f x == f y) = false := beq_eq_false_iff_ne.mpr fun w => by
          rcases q with q | q
          · exact e (q.trans ((hf y).mp (w.symm.trans ((hf x).mpr q))).symm)
          · exact e (((hf x).mp (w.trans ((hf y).mpr q))).trans q.symm)
        rw [ne]; exact z
      by_cases e1 : x = 95
      · rw [if_pos e1] at h; exact key (.inl e1) (Option.some.inj h)
      · rw [if_neg e1] at h
        by_cases e2 : y = 95
        · rw [if_pos e2] at h; exact key (.inr e2) (Option.some.inj h)
        · rw [if_neg e2] at h; cases h
noncomputable def privT (c m : List Nat) : Option Bool := (pfT (95 :: (c ++ [95, 95])) m).map fun b => b && decide (c.length + 3 < m.length)
theorem privT_ok {f : Nat → Nat} (hf : ∀ t, f t = 95 ↔ t = 95) (c m : List Nat) (b : Bool) (h : privT c m = some b) : privL (c.map f) (m.map f) = b := by
  unfold privT at h
  cases e : pfT (95 :: (c ++ [95, 95])) m with
  | none => rw [e] at h; cases h
  | some d =>
    rw [e] at h
    have p := pf_ok hf _ _ _ e
    rw [List.map_cons, List.map_append, List.map_cons, List.map_cons, List.map_nil, (hf 95).mpr rfl] at p
    unfold privL
    rw [p, List.length_map, List.length_map]
    exact Option.some.inj h
theorem tab1 {α β γ : Type} {f : α → γ} {g : α → β} {s : β → γ} (h : ∀ a b, f a = s b → g a = b) : ∀ (l : List α) (t : List β), l.map f = t.map s → l.map g = t
  | [], [], _ => rfl
  | [], _ :: _, e => nomatch e
  | _ :: _, [], e => nomatch e
  | a :: l, b :: t, e => by
    injection e with e1 e2
    rw [List.map_cons, h a b e1, tab1 h l t e2]
theorem k_hid : clsT.map (fun x => (names8 1000 1001 1002).map (privT x)) = hid15.map (List.map some) := by decide +kernel
theorem hid_table {a b c : Nat} (ha : a ≠ 95) (hb : b ≠ 95) (hc : c ≠ 95) : (cls15 a b c).map (fun x => (names8 a b c).map (privL x)) = hid15 := by
  rw [cls_rh, names_rh, List.map_map]
  refine tab1 (s := List.map some) (fun x l h => ?_) clsT hid15 k_hid
  show ((names8 1000 1001 1002).map (List.map (rh a b c))).map (privL (x.map (rh a b c))) = l
  rw [List.map_map]
  exact tab1 (s := some) (fun y d e => privT_ok (rh_95 ha hb hc) x y d e) _ l h
theorem us_map {a b c : Nat} (ha : a ≠ 95) (hb : b ≠ 95) (hc : c ≠ 95) : (cls15 a b c).map (fun l => l.map (· == 95)) = clsT.map fun l => l.map (· == 95) := by
  rw [cls_rh, List.map_map]
  refine List.map_congr_left fun l _ => ?_
  show (l.map (rh a b c)).map (· == 95) = _
  rw [List.map_map]
  refine List.map_congr_left fun t _ => ?_
  show (rh a b c t == 95) = (t == 95)
  rw [Bool.eq_iff_iff, beq_iff_eq, beq_iff_eq]
  exact rh_95 ha hb hc t
end Mine
end
section
open PySem PySem.W PyProof.Rows PySem.Calls PySem.Spec
open PySem.Builtin PySem.Builtin.Str
set_option maxRecDepth 100000
namespace Mine
noncomputable def sg (N : Int) (k : Nat) : Nat := (Txt.charAt signsS (dig N (k + 3))).getD 0
theorem sgn_tx (N : Int) (k : Nat) : sgn N k = tx [sg N k] := item_of (sgn_at N k)
theorem signs_ok : ∀ j : Fin 8, (Txt.charAt signsS (j.val : Int)).getD 0 ≠ 95 ∧ (Txt.charAt signsS (j.val : Int)).getD 0 < 128 := by decide +kernel
theorem sg_ok (N : Int) (k : Nat) : sg N k ≠ 95 ∧ sg N k < 128 := by
  have h1 := dig_lo N (k + 3)
  have h2 := dig_hi N (k + 3)
  have := signs_ok ⟨(dig N (k + 3)).toNat, by omega⟩
  simp only [Int.toNat_of_nonneg h1] at this
  exact this
theorem cls_tx (N : Int) : clsS (sgn N) 7 = (cls15 (sg N 0) (sg N 1) (sg N 2)).map tx := by rw [clsS_tx (sgn_tx N), cls15_eq]
theorem names_tx (N : Int) : hnames (clsS (sgn N) 7) = (names8 (sg N 0) (sg N 1) (sg N 2)).map tx := by
  unfold hnames names8
  rw [cls_tx, ← List.map_drop]
  apply List.ext_getElem?
  intro i
  simp only [List.getElem?_mapIdx, List.getElem?_map]
  cases ((cls15 (sg N 0) (sg N 1) (sg N 2)).drop 7)[i]? with
  | none => rfl
  | some x => exact congrArg some (hname_tx i x)
/-- the names that the class hides -/
noncomputable def grpS (ms : List Str) (x : Str) : List Nat := (List.range 8).filter fun k => isPriv x (ms.getD k e0)
theorem dget_cons (p : Str × D) (kvs : List (Str × D)) (x : Str) : dget (p :: kvs) x = if p.1 = x then some p.2 else dget kvs x := by
  unfold dget
  rw [List.find?_cons]
  by_cases h : p.1 = x <;> simp [h]
theorem dget_store (k : Str) (v : D) (x : Str) : ∀ kvs : List (Str × D), dget (kvs.map fun kv => if kv.1 = k then (kv.1, v) else kv) x = if k = x then (dget kvs x).map (fun _ => v) else dget kvs x
  | [] => by by_cases h : k = x <;> simp [h, dget]
  | p :: kvs => by
    rw [List.map_cons, dget_cons, dget_cons, dget_store k v x kvs]
    by_cases h1 : p.1 = k <;> by_cases h2 : k = x
    · subst h2; simp [h1]
    · simp [h1, h2]
    · subst h2; simp [h1]
    · have h4 : ¬ x = k := fun e => h2 e.symm
      by_cases h3 : p.1 = x <;> simp [h1, h2, h3, h4]
theorem dget_snoc (k : Str) (v : D) (x : Str) : ∀ kvs : List (Str × D), dget (kvs ++ [(k, v)]) x = match dget kvs x with
    | some d => some d
    | none => if k = x then some v else none
  | [] => by
    show dget [(k, v)] x = _
    rw [dget_cons]
    rfl
  | p :: kvs => by
    rw [List.cons_append, dget_cons, dget_cons, dget_snoc k v x kvs]
    by_cases h : p.1 = x <;> simp [h]
theorem any_dget (k : Str) : ∀ kvs : List (Str × D), kvs.any (fun kv => kv.1 = k) = (dget kvs k).isSome
  | [] => rfl
  | p :: kvs => by
    rw [List.any_cons, dget_cons, any_dget k kvs]
    by_cases h : p.1 = k <;> simp [h]
theorem dget_dput (kvs : List (Str × D)) (k x : Str) (d : D) : dget (dput kvs k d) x = if k = x then some d else dget kvs x := by
  unfold dput
  rw [any_dget]
  cases e : dget kvs k with
  | some d' =>
    simp only [Option.isSome_some, if_true]
    rw [dget_store]
    by_cases h : k = x
    · subst h; simp [e]
    · simp [h]
  | none =>
    simp only [Option.isSome_none, Bool.false_eq_true, if_false]
    rw [dget_snoc]
    by_cases h : k = x
    · subst h; simp [e]
    · simp only [h, if_false]; cases dget kvs x <;> rfl
theorem dget_fold (g : Str → D) (x : Str) : ∀ (ds : List Str) (kvs : List (Str × D)), dget (ds.foldl (fun kvs d => dput kvs d (g d)) kvs) x = if x ∈ ds then some (g x) else dget kvs x
  | [], kvs => by simp
  | d :: ds, kvs => by
    rw [List.foldl_cons, dget_fold g x ds, dget_dput]
    by_cases h1 : x ∈ ds
    · simp [h1]
    · by_cases h2 : d = x
      · subst h2; simp [h1]
      · have : ¬ x = d := fun e => h2 e.symm
        simp [h1, h2, this]
/-! the groups -/
theorem priv_name (c d : List Nat) (k : Nat) : isPriv (tx c) (tx (nameL k d)) = privL c (nameL k d) := by
  have h : k % 2 = 0 ∨ k % 2 = 1 := by omega
  rcases h with h | h
  · have e : nameL k d = (95 :: (d ++ [95])) ++ [95, 120] := by unfold nameL; rw [h]; simp
    rw [e, priv_tx]; simp
  · have e : nameL k d = (95 :: (d ++ [95, 95])) ++ [120, 95] := by unfold nameL; rw [h]; simp
    rw [e, priv_tx]; simp
noncomputable def grpB (row : List Bool) : List Nat := (List.range 8).filter fun k => row.getD k false
theorem grp_row (a b c : Nat) (x : List Nat) : grpS ((names8 a b c).map tx) (tx x) = grpB ((names8 a b c).map (privL x)) := by
  unfold grpS grpB
  apply List.filter_congr
  intro k hk
  rw [getD_map_tx]
  have h8 : k < (names8 a b c).length := by
    have : (names8 a b c).length = 8 := rfl
    rw [this]; simpa using hk
  have e1 : (names8 a b c).getD k [] = (names8 a b c)[k] := by rw [List.getD_eq_getElem?_getD, List.getElem?_eq_getElem h8]; rfl
  have e2 : ((names8 a b c).map (privL x)).getD k false = privL x (names8 a b c)[k] := by rw [List.getD_eq_getElem?_getD, List.getElem?_map, List.getElem?_eq_getElem h8]; rfl
  rw [e1, e2]
  obtain ⟨d, hd⟩ : ∃ d, (names8 a b c)[k] = nameL k d := by
    have h : (names8 a b c)[k]? = ((cls15 a b c).drop 7)[k]?.map (nameL k) := List.getElem?_mapIdx
    rw [List.getElem?_eq_getElem h8] at h
    cases e : ((cls15 a b c).drop 7)[k]? with
    | none => rw [e] at h; cases h
    | some d => rw [e] at h; exact ⟨d, Option.some.inj h⟩
  rw [hd, priv_name]
noncomputable def grp15 : List (List Nat) := [[0, 1, 2, 3, 4, 5, 6, 7], [0, 1, 2, 3], [4, 5, 6, 7], [0, 1], [2, 3], [4, 5], [6, 7], [0], [1], [2], [3], [4], [5], [6], [7]]
theorem grp_table (N : Int) : (clsS (sgn N) 7).map (grpS (hnames (clsS (sgn N) 7))) = grp15 := by
  rw [names_tx, cls_tx, List.map_map]
  have e : (cls15 (sg N 0) (sg N 1) (sg N 2)).map (grpS ((names8 (sg N 0) (sg N 1) (sg N 2)).map tx) ∘ tx) = ((cls15 (sg N 0) (sg N 1) (sg N 2)).map fun x => (names8 (sg N 0) (sg N 1) (sg N 2)).map (privL x)).map grpB := by
    rw [List.map_map]
    apply List.map_congr_left
    intro x _
    exact grp_row _ _ _ x
  rw [e, hid_table (sg_ok N 0).1 (sg_ok N 1).1 (sg_ok N 2).1]
  decide
/-! what else is told of the classes -/
theorem k_cls : (clsT.all fun y => (y.all fun t => decide (t < 128) || decide (t = 1000) || decide (t = 1001) || decide (t = 1002)) && decide (y.length ≤ 60) && (y.head? == some 81)) = true := by decide +kernel
theorem rh_lt {a b c : Nat} (ha : a < 128) (hb : b < 128) (hc : c < 128) {t : Nat} (h : (decide (t < 128) || decide (t = 1000) || decide (t = 1001) || decide (t = 1002)) = true) : rh a b c t < 128 := by
  unfold rh
  by_cases h0 : t = 1000
  · rw [if_pos h0]; exact ha
  · rw [if_neg h0]
    by_cases h1 : t = 1001
    · rw [if_pos h1]; exact hb
    · rw [if_neg h1]
      by_cases h2 : t = 1002
      · rw [if_pos h2]; exact hc
      · rw [if_neg h2]
        rw [decide_eq_false h0, decide_eq_false h1, decide_eq_false h2, Bool.or_false, Bool.or_false, Bool.or_false] at h
        exact of_decide_eq_true h
theorem cls15_ok {a b c : Nat} (ha : a < 128) (hb : b < 128) (hc : c < 128) : ∀ x ∈ cls15 a b c, asc x ∧ x.length ≤ 60 ∧ ∃ t, x = 81 :: t := by
  intro x hx
  rw [cls_rh] at hx
  obtain ⟨y, hy, rfl⟩ := List.mem_map.mp hx
  have k := List.all_eq_true.mp k_cls y hy
  rw [Bool.and_eq_true, Bool.and_eq_true] at k
  refine ⟨fun d hd => ?_, by rw [List.length_map]; exact of_decide_eq_true k.1.2, ?_⟩
  · obtain ⟨t, ht, rfl⟩ := List.mem_map.mp hd
    exact rh_lt ha hb hc (List.all_eq_true.mp k.1.1 t ht)
  · cases y with
    | nil => exact absurd k.2 (by decide)
    | cons d t =>
      have e : d = 81 := Option.some.inj (eq_of_beq k.2)
      subst e
      exact ⟨t.map (rh a b c), rfl⟩
theorem cls_at {N : Int} {x : Str} (h : x ∈ clsS (sgn N) 7) : ∃ l, x = tx l ∧ asc l ∧ l.length ≤ 60 ∧ ∃ t, l = 81 :: t := by
  rw [cls_tx] at h
  obtain ⟨l, hl, rfl⟩ := List.mem_map.mp h
  exact ⟨l, rfl, cls15_ok (sg_ok N 0).2 (sg_ok N 1).2 (sg_ok N 2).2 l hl⟩
theorem priv_none {N : Int} {p : Nat} : ∀ x ∈ clsS (sgn N) 7, isPriv x ((hnames (clsS (sgn N) 7)).getD p e0 ++ Str.ofString "__") = false := by
  intro x hx
  obtain ⟨l, rfl, _⟩ := cls_at hx
  rw [names_tx, getD_map_tx, us2_tx, tx_app, priv_tx]; simp
theorem corn_of {c : List Nat} {t : List Nat} (h : asc c) (hl : c.length ≤ 60) (e : c = 81 :: t) : CornOk (tx c) := by
  have rc : ∀ d, d < 128 → repC 46 43 d < 128 := fun d h => by unfold repC; split <;> omega
  have er : Txt.replace (tx c) (Str.ofString ".") (Str.ofString "+") = tx (c.map (repC 46 43)) := by rw [dot_tx, plus_tx]; exact replace_tx c 46 43
  refine CornOk.mk (by rw [tx_len]; exact Nat.le_trans hl (by decide)) (ok_tx h) (by rw [lower_tx h, tx_len, List.length_map]; exact Nat.le_trans hl (by decide)) (by rw [lower_tx h]; exact ok_tx (asc_map h loC_lt)) (by rw [er, tx_len, List.length_map]; exact Nat.le_trans hl (by decide)) (by rw [er]; exact ok_tx (asc_map h rc)) ?_
  have pre : ∀ l m : List Nat, l.isPrefixOf (l ++ m) = true := fun l m => List.isPrefixOf_iff_prefix.mpr (List.prefix_append l m)
  intro k hk
  match k, hk with
  | 0, _ =>
    show isPriv (tx c) (Str.ofString "_" ++ tx c ++ Str.ofString "___x") = true
    rw [us_tx, us3x_tx, tx_app, tx_app]
    have e1 : [95] ++ c ++ [95, 95, 95, 120] = (95 :: (c ++ [95, 95])) ++ [95, 120] := congrArg (95 :: ·) (List.append_assoc c [95, 95] [95, 120]).symm
    rw [e1, priv_tx]
    unfold privL
    rw [pre]; simp
  | 1, _ =>
    show isPriv (Str.ofString "_" ++ tx c) (Str.ofString "__" ++ tx c ++ Str.ofString "__x") = true
    rw [us_tx, us2_tx, us2x_tx, tx_app, tx_app, tx_app]
    have e1 : [95, 95] ++ c ++ [95, 95, 120] = (95 :: 95 :: (c ++ [95])) ++ [95, 120] := congrArg (fun l => 95 :: 95 :: l) (List.append_assoc c [95] [95, 120]).symm
    have e2 : (95 :: 95 :: (c ++ [95])) ++ [95, 120] = (95 :: ([95] ++ c ++ [95, 95])) ++ [120] := by simp
    rw [e1, priv_tx]
    unfold privL
    rw [e2, pre]; simp
  | 2, _ =>
    show isPriv (Str.ofString "_" ++ tx c) (Str.ofString "_" ++ tx c ++ Str.ofString "__x") = false
    rw [us_tx, us2x_tx, tx_app, tx_app]
    have e1 : [95] ++ c ++ [95, 95, 120] = (95 :: (c ++ [95])) ++ [95, 120] := congrArg (95 :: ·) (List.append_assoc c [95] [95, 120]).symm
    rw [e1, priv_tx]
    unfold privL
    simp [e, List.isPrefixOf]
  | 3, _ =>
    show isPriv (Txt.lower (tx c)) (Str.ofString "_" ++ tx c ++ Str.ofString "__x") = false
    rw [us_tx, us2x_tx, tx_app, tx_app, lower_tx h]
    have e1 : [95] ++ c ++ [95, 95, 120] = (95 :: (c ++ [95])) ++ [95, 120] := congrArg (95 :: ·) (List.append_assoc c [95] [95, 120]).symm
    have e2 : loC 81 = 113 := rfl
    rw [e1, priv_tx]
    unfold privL
    simp [e, e2, List.isPrefixOf]
  | 4, _ =>
    show isPriv (tx c) (Str.ofString "_" ++ tx c ++ Str.ofString "___") = false
    rw [us_tx, us3_tx, tx_app, tx_app]
    have e1 : [95] ++ c ++ [95, 95, 95] = (95 :: (c ++ [95])) ++ [95, 95] := congrArg (95 :: ·) (List.append_assoc c [95] [95, 95]).symm
    rw [e1, priv_tx]; simp
  | 5, _ =>
    show isPriv (tx c) (Str.ofString "x" ++ tx c ++ Str.ofString "__x") = false
    rw [x_tx, us2x_tx, tx_app, tx_app]
    have e1 : [120] ++ c ++ [95, 95, 120] = (120 :: (c ++ [95])) ++ [95, 120] := congrArg (120 :: ·) (List.append_assoc c [95] [95, 120]).symm
    rw [e1, priv_tx]
    unfold privL
    simp [List.isPrefixOf]
  | 6, _ =>
    show isPriv (tx c) (Str.ofString "__" ++ tx c ++ Str.ofString "__x") = false
    rw [us2_tx, us2x_tx, tx_app, tx_app]
    have e1 : [95, 95] ++ c ++ [95, 95, 120] = (95 :: 95 :: (c ++ [95])) ++ [95, 120] := congrArg (fun l => 95 :: 95 :: l) (List.append_assoc c [95] [95, 120]).symm
    rw [e1, priv_tx]
    unfold privL
    simp [e, List.isPrefixOf]
  | 7, _ =>
    show isPriv (tx c) (Str.ofString "_" ++ Txt.replace (tx c) (Str.ofString ".") (Str.ofString "+") ++ Str.ofString "__x") = !Txt.contains (tx c) (Str.ofString ".")
    rw [er, us_tx, us2x_tx, tx_app, tx_app, dot_tx, contains_tx]
    have e1 : [95] ++ c.map (repC 46 43) ++ [95, 95, 120] = (95 :: (c.map (repC 46 43) ++ [95])) ++ [95, 120] := congrArg (95 :: ·) (List.append_assoc (c.map (repC 46 43)) [95] [95, 120]).symm
    have e2 : (95 :: (c.map (repC 46 43) ++ [95])) ++ [95, 120] = (95 :: (c.map (repC 46 43) ++ [95, 95])) ++ [120] := by simp
    rw [e1, priv_tx]
    unfold privL
    by_cases hm : 46 ∈ c
    · have hp : (95 :: (c ++ [95, 95])).isPrefixOf ((95 :: (c.map (repC 46 43) ++ [95])) ++ [95, 120]) = false := by
        refine bool_not List.isPrefixOf_iff_prefix fun hpre => ?_
        rw [e2] at hpre
        obtain ⟨u, hu⟩ := hpre
        have h1 : c ++ ([95, 95] ++ u) = c.map (repC 46 43) ++ ([95, 95] ++ [120]) := by
          simpa using hu
        have h2 := (List.append_inj h1 (by simp)).1
        rw [h2] at hm
        obtain ⟨d, _, hd⟩ := List.mem_map.mp hm
        unfold repC at hd
        split at hd
        · cases hd
        · rename_i hx; exact hx hd
      rw [hp]; simp [hm]
    · have := rep_free 46 43 c hm
      rw [this] at e1 e2 ⊢
      rw [e2, pre]; simp [hm]
end Mine
end
section
open PySem PySem.W PyProof.Rows PySem.Calls PySem.Spec
set_option maxRecDepth 100000
namespace Mine
/-! the domains' tree -/
noncomputable def lab (b : Nat) (u : List Nat) (c : Nat) : List Nat := 46 :: (List.replicate c b ++ u)
noncomputable def gd (b : Nat) (u : Nat → List Nat) : Nat → Nat → List Nat
  | 0, _ => 46 :: lcl
  | d + 1, v => lab b (u d) (v % 2) ++ gd b u d (v / 2)
theorem suf_same {p q t : List Nat} (h : p ++ t <:+ q ++ t) : p <:+ q := by
  obtain ⟨s, hs⟩ := h
  rw [← List.append_assoc] at hs
  exact ⟨s, List.append_cancel_right hs⟩
theorem suf_eq {p q x : List Nat} (h : p <:+ x ++ q) (hl : p.length = q.length) : p = q := by
  obtain ⟨s, hs⟩ := h
  exact (List.append_inj' hs hl).2
theorem lab_suf {b : Nat} (hb : b ≠ 46) {u x : List Nat} {c c' : Nat} (hc : c < 2) (hc' : c' < 2) (h : lab b u c <:+ x ++ lab b u c') : c = c' := by
  match c, hc, c', hc' with
  | 0, _, 0, _ => rfl
  | 1, _, 1, _ => rfl
  | 0, _, 1, _ =>
    have h1 : 46 :: u <:+ (x ++ [46]) ++ b :: u := by
      have : x ++ lab b u 1 = (x ++ [46]) ++ b :: u := by simp [lab]
      rw [← this]; exact h
    have := suf_eq h1 (by simp)
    injection this with e
    exact absurd e.symm hb
  | 1, _, 0, _ =>
    have h0 : b :: u <:+ x ++ 46 :: u := List.IsSuffix.trans ⟨[46], rfl⟩ h
    have := suf_eq h0 (by simp)
    injection this with e
    exact absurd e hb
theorem gd_suf {b : Nat} (hb : b ≠ 46) {u : Nat → List Nat} : ∀ (d : Nat) {x : List Nat} {v v' : Nat}, v < 2 ^ d → v' < 2 ^ d → gd b u d v <:+ x ++ gd b u d v' → v = v'
  | 0, x, v, v', h, h', _ => by simp at h h'; omega
  | d + 1, x, v, v', h, h', hs => by
    rw [Nat.pow_succ] at h h'
    unfold gd at hs
    have h1 : gd b u d (v / 2) <:+ (x ++ lab b (u d) (v' % 2)) ++ gd b u d (v' / 2) := by
      rw [List.append_assoc]
      exact List.IsSuffix.trans (List.suffix_append _ _) hs
    have e1 := gd_suf hb d (by omega) (by omega) h1
    rw [e1, ← List.append_assoc] at hs
    have e2 := lab_suf hb (Nat.mod_lt _ (by decide)) (Nat.mod_lt _ (by decide)) (suf_same hs)
    omega
theorem gd_split (b : Nat) (u : Nat → List Nat) (d : Nat) : ∀ (e v : Nat), ∃ p, gd b u (d + e) v = p ++ gd b u d (v / 2 ^ e)
  | 0, v => ⟨[], by simp⟩
  | e + 1, v => by
    obtain ⟨p, hp⟩ := gd_split b u d e (v / 2)
    refine ⟨lab b (u (d + e)) (v % 2) ++ p, ?_⟩
    show lab b (u (d + e)) (v % 2) ++ gd b u (d + e) (v / 2) = _
    rw [hp, List.append_assoc, Nat.div_div_eq_div_mul, Nat.pow_succ, Nat.mul_comm]
/-- a domain holds the ones that were made out of it -/
theorem gd_under {b : Nat} (hb : b ≠ 46) {u : Nat → List Nat} {d e v V : Nat} (hv : v < 2 ^ d) (hV : V < 2 ^ (d + e)) (x : List Nat) : gd b u d v <:+ x ++ gd b u (d + e) V ↔ V / 2 ^ e = v := by
  obtain ⟨p, hp⟩ := gd_split b u d e V
  have hlt : V / 2 ^ e < 2 ^ d := by
    rw [Nat.div_lt_iff_lt_mul (Nat.two_pow_pos e), ← Nat.pow_add]; exact hV
  rw [hp, ← List.append_assoc]
  constructor
  · intro h; exact (gd_suf hb d hv hlt h).symm
  · intro h; rw [h]; exact List.suffix_append _ _
theorem gd_dot (b : Nat) (u : Nat → List Nat) : ∀ d v, ∃ r, gd b u d v = 46 :: r
  | 0, _ => ⟨lcl, rfl⟩
  | d + 1, v => ⟨_, rfl⟩
theorem gd_last (b : Nat) (u : Nat → List Nat) : ∀ d v, ∃ q, gd b u d v = q ++ [108]
  | 0, _ => ⟨[46, 108, 111, 99, 97], rfl⟩
  | d + 1, v => by
    obtain ⟨q, hq⟩ := gd_last b u d (v / 2)
    exact ⟨lab b (u d) (v % 2) ++ q, by unfold gd; rw [hq, List.append_assoc]⟩
structure Word (u : List Nat) : Prop where
  asc : asc u
  dot : 46 ∉ u
  ne : u ≠ []
  len : u.length ≤ 5
theorem lab_asc {b c : Nat} {u : List Nat} (hb : b < 128) (h : asc u) : asc (lab b u c) := by
  refine asc_cons (by decide) (asc_app (fun d hd => ?_) h)
  rw [List.eq_of_mem_replicate hd]; exact hb
theorem gd_asc {b : Nat} (hb : b < 128) {u : Nat → List Nat} (h : ∀ d, Word (u d)) : ∀ d v, asc (gd b u d v)
  | 0, _ => by unfold gd asc; decide
  | d + 1, v => asc_app (lab_asc hb (h d).asc) (gd_asc hb h d (v / 2))
theorem gd_len {b : Nat} {u : Nat → List Nat} (h : ∀ d, Word (u d)) : ∀ d v, (gd b u d v).length ≤ 6 + 7 * d
  | 0, _ => by unfold gd; decide
  | d + 1, v => by
    have := gd_len (b := b) h d (v / 2)
    have := (h d).len
    have := Nat.mod_lt v (show 2 > 0 by decide)
    unfold gd lab
    simp only [List.length_append, List.length_cons, List.length_replicate]; omega
theorem gd_lo (u : Nat → List Nat) : ∀ d v, (gd 66 u d v).map loC = gd 98 (fun d => (u d).map loC) d v
  | 0, _ => rfl
  | d + 1, v => by
    unfold gd lab
    rw [List.map_append, gd_lo u d, List.map_cons, List.map_append, List.map_replicate]; rfl
/-- the host's name without its first two signs -/
theorem gd_bare {u : Nat → List Nat} (h : ∀ d, Word (u d)) (V : Nat) : ∃ a z, gd 66 u 3 V = 46 :: a ∧ Bare a z := by
  obtain ⟨r, hr⟩ := gd_dot 66 u 2 (V / 2)
  have e : gd 66 u 3 V = 46 :: ((List.replicate (V % 2) 66 ++ u 2) ++ 46 :: r) := by
    show lab 66 (u 2) (V % 2) ++ gd 66 u 2 (V / 2) = _
    rw [hr]; rfl
  have a1 := gd_asc (b := 66) (by decide) h 3 V
  have l1 := gd_len (b := 66) h 3 V
  obtain ⟨q, hq⟩ := gd_last 66 u 3 V
  have hz : 46 ∉ List.replicate (V % 2) 66 ++ u 2 := fun m => by
    rcases List.mem_append.mp m with m | m
    · exact absurd (List.eq_of_mem_replicate m) (by decide)
    · exact (h 2).dot m
  refine ⟨_, _, e, ⟨?_, ⟨r, rfl⟩, hz, ?_, ?_, ?_⟩⟩
  · rw [e] at a1
    exact fun c hc => a1 c (List.mem_cons_of_mem _ hc)
  · cases ez : List.replicate (V % 2) 66 ++ u 2 with
    | nil => exact absurd (List.append_eq_nil_iff.mp ez).2 (h 2).ne
    | cons c y => exact ⟨c, y, rfl, fun e => hz (by rw [ez, e]; exact List.mem_cons_self ..)⟩
  · rw [e] at hq
    cases q with
    | nil => cases hq
    | cons c q => exact ⟨q, by injection hq⟩
  · rw [e, List.length_cons] at l1; omega
/-! the program's own -/
noncomputable def wd (N : Int) (k : Nat) : List Nat := (wordAt N k).cps.toList
theorem word_tx (N : Int) (k : Nat) : wordAt N k = tx (wd N k) := tx_eq rfl
theorem words_ok : wordsL.all (fun x => x.cps.toList.all (fun c => decide (c < 128) && decide (c ≠ 46)) && !x.cps.toList.isEmpty && decide (x.cps.toList.length ≤ 5)) = true := by decide +kernel
theorem wd_ok (N : Int) (k : Nat) : Word (wd N k) := by
  have h := List.all_eq_true.mp words_ok _ (List.mem_of_getElem? (word_get N k))
  simp only [Bool.and_eq_true, List.all_eq_true, decide_eq_true_eq] at h
  refine ⟨fun c hc => (h.1.1 c hc).1, fun m => (h.1.1 46 m).2 rfl, fun e => ?_, h.2⟩
  have := h.1.2
  have e' : (wordAt N k).cps.toList = [] := e
  rw [e'] at this; cases this
noncomputable def domL (w : Nat → List Nat) : Nat → List (List Nat)
  | 0 => [46 :: lcl]
  | i + 1 => domL w i ++ [46 :: (w (dpt i) ++ (domL w i).getD i []), 46 :: 66 :: (w (dpt i) ++ (domL w i).getD i [])]
theorem root_tx : Str.ofString ".local" = tx (46 :: lcl) := by decide +kernel
theorem dB_tx : Str.ofString ".B" = tx [46, 66] := by decide +kernel
theorem domS_tx {ws : Nat → Str} {w : Nat → List Nat} (h : ∀ k, ws k = tx (w k)) : ∀ i, domS ws i = (domL w i).map tx
  | 0 => by unfold domS domL; rw [root_tx]; rfl
  | i + 1 => by
    unfold domS domL
    rw [domS_tx h i, getD_map_tx, h, dot_tx, dB_tx, tx_app, tx_app, tx_app, tx_app, List.map_append]
    simp
noncomputable def dom15 (w : Nat → List Nat) : List (List Nat) := [gd 66 w 0 0, gd 66 w 1 0, gd 66 w 1 1, gd 66 w 2 0, gd 66 w 2 1, gd 66 w 2 2, gd 66 w 2 3, gd 66 w 3 0, gd 66 w 3 1, gd 66 w 3 2, gd 66 w 3 3, gd 66 w 3 4, gd 66 w 3 5, gd 66 w 3 6, gd 66 w 3 7]
theorem dom15_eq (w : Nat → List Nat) : domL w 7 = dom15 w := by
  rfl
theorem dom_tx (N : Int) : domS (wordAt N) 7 = (dom15 (wd N)).map tx := by rw [domS_tx (word_tx N), dom15_eq]
end Mine
end
section
open PySem PySem.W PyProof.Rows PySem.Calls PySem.Spec
set_option maxRecDepth 100000
namespace Mine
theorem dom15_at (w : Nat → List Nat) {x : List Nat} (h : x ∈ dom15 w) : ∃ d v, d < 4 ∧ v < 2 ^ d ∧ x = gd 66 w d v := by
  simp only [dom15, List.mem_cons, List.not_mem_nil, or_false] at h
  rcases h with rfl | rfl | rfl | rfl | rfl | rfl | rfl | rfl | rfl | rfl | rfl | rfl | rfl | rfl | rfl
  · exact ⟨0, 0, by decide, by decide, rfl⟩
  · exact ⟨1, 0, by decide, by decide, rfl⟩
  · exact ⟨1, 1, by decide, by decide, rfl⟩
  · exact ⟨2, 0, by decide, by decide, rfl⟩
  · exact ⟨2, 1, by decide, by decide, rfl⟩
  · exact ⟨2, 2, by decide, by decide, rfl⟩
  · exact ⟨2, 3, by decide, by decide, rfl⟩
  · exact ⟨3, 0, by decide, by decide, rfl⟩
  · exact ⟨3, 1, by decide, by decide, rfl⟩
  · exact ⟨3, 2, by decide, by decide, rfl⟩
  · exact ⟨3, 3, by decide, by decide, rfl⟩
  · exact ⟨3, 4, by decide, by decide, rfl⟩
  · exact ⟨3, 5, by decide, by decide, rfl⟩
  · exact ⟨3, 6, by decide, by decide, rfl⟩
  · exact ⟨3, 7, by decide, by decide, rfl⟩
theorem dom_at {N : Int} {x : Str} (h : x ∈ domS (wordAt N) 7) : ∃ d v, d < 4 ∧ v < 2 ^ d ∧ x = tx (gd 66 (wd N) d v) := by
  rw [dom_tx] at h
  obtain ⟨l, hl, rfl⟩ := List.mem_map.mp h
  obtain ⟨d, v, h1, h2, rfl⟩ := dom15_at _ hl
  exact ⟨d, v, h1, h2, rfl⟩
theorem dgd_asc (N : Int) (d v : Nat) : asc (gd 66 (wd N) d v) := gd_asc (by decide) (wd_ok N) d v
theorem dgd_len (N : Int) {d : Nat} (h : d < 4) (v : Nat) : (gd 66 (wd N) d v).length ≤ 30 := by have := gd_len (b := 66) (wd_ok N) d v; omega
theorem dom_tame {N : Int} : ∀ x ∈ domS (wordAt N) 7, Tame x := fun x hx => by
  obtain ⟨d, v, h1, h2, rfl⟩ := dom_at hx
  exact tame_tx (dgd_asc N d v) (by have := dgd_len N h1 v; omega)
theorem dom_rgood {N : Int} : ∀ d ∈ domS (wordAt N) 7, (own1 d).length ≤ 900 ∧ PyData.strOk (own1 d) = true ∧ (Txt.slice (own1 d) (some (Txt.find (own1 d) (Str.ofString ".") + 1)) none).length ≤ 900 := fun x hx => by
  obtain ⟨d, v, h1, h2, rfl⟩ := dom_at hx
  obtain ⟨r, hr⟩ := gd_dot 66 (wd N) d v
  have a := dgd_asc N d v
  have l := dgd_len N h1 v
  rw [hr] at a l ⊢
  rw [own1_tx]
  rw [List.length_cons] at l
  exact ⟨by rw [tx_len]; omega, ok_tx fun c hc => a c (List.mem_cons_of_mem _ hc), Nat.le_trans (Txt.slice_le _ _ _) (by rw [tx_len]; omega)⟩
theorem reach_root : reachS (own1 (tx (46 :: lcl))) = Str.ofString "local" := by
  rw [own1_tx, reach_flat (by decide), lcl_tx]
theorem reach_dom (N : Int) (d v : Nat) : reachS (own1 (tx (gd 66 (wd N) (d + 1) v))) = tx (gd 66 (wd N) d (v / 2)) := by
  obtain ⟨r, hr⟩ := gd_dot 66 (wd N) d (v / 2)
  have W := wd_ok N d
  have e : gd 66 (wd N) (d + 1) v = 46 :: ((List.replicate (v % 2) 66 ++ wd N d) ++ 46 :: r) := by
    show lab 66 (wd N d) (v % 2) ++ gd 66 (wd N) d (v / 2) = _
    rw [hr]; rfl
  have hz : 46 ∉ List.replicate (v % 2) 66 ++ wd N d := fun m => by
    rcases List.mem_append.mp m with m | m
    · exact absurd (List.eq_of_mem_replicate m) (by decide)
    · exact W.dot m
  obtain ⟨q, hq⟩ := gd_last 66 (wd N) (d + 1) v
  rw [e] at hq
  obtain ⟨q', hq'⟩ : ∃ q', (List.replicate (v % 2) 66 ++ wd N d) ++ 46 :: r = q' ++ [108] := by
    cases q with
    | nil => cases hq
    | cons c q => exact ⟨q, by injection hq⟩
  have hn : Re.isNum (tx ((List.replicate (v % 2) 66 ++ wd N d) ++ 46 :: r)).cps = false := hq' ▸ num_l q'
  rw [e, own1_tx, hr]
  refine reach_up hz ?_ ?_
  · cases ez : List.replicate (v % 2) 66 ++ wd N d with
    | nil => exact absurd (List.append_eq_nil_iff.mp ez).2 W.ne
    | cons c y =>
      rw [ez] at hq' hn hz
      exact hdn_yes hq' (fun e => hz (by rw [e]; exact List.mem_cons_self ..)) (by decide) hn
  · cases d with
    | zero =>
      refine .inr ?_
      have : gd 66 (wd N) 0 (v / 2) = 46 :: lcl := rfl
      rw [this] at hr
      injection hr with _ h; exact h.symm
    | succ d =>
      refine .inl ?_
      obtain ⟨r', hr'⟩ := gd_dot 66 (wd N) d (v / 2 / 2)
      have : gd 66 (wd N) (d + 1) (v / 2) = 46 :: ((List.replicate (v / 2 % 2) 66 ++ wd N d) ++ 46 :: r') := by
        show lab 66 (wd N d) (v / 2 % 2) ++ gd 66 (wd N) d (v / 2 / 2) = _
        rw [hr']; rfl
      rw [this] at hr
      injection hr with _ h
      rw [← h]
      exact List.mem_append.mpr (.inr (List.mem_cons_self ..))
theorem reach_all (N : Int) : (domS (wordAt N) 7).map (fun d => reachS (own1 d)) = Str.ofString "local" :: (List.range 14).map fun k => (domS (wordAt N) 7).getD (k / 2) e0 := by
  rw [dom_tx]
  have e : (List.range 14).map (fun k => ((dom15 (wd N)).map tx).getD (k / 2) e0) = [tx (gd 66 (wd N) 0 0), tx (gd 66 (wd N) 0 0), tx (gd 66 (wd N) 1 0), tx (gd 66 (wd N) 1 0), tx (gd 66 (wd N) 1 1), tx (gd 66 (wd N) 1 1),
      tx (gd 66 (wd N) 2 0), tx (gd 66 (wd N) 2 0), tx (gd 66 (wd N) 2 1), tx (gd 66 (wd N) 2 1), tx (gd 66 (wd N) 2 2), tx (gd 66 (wd N) 2 2), tx (gd 66 (wd N) 2 3), tx (gd 66 (wd N) 2 3)] := rfl
  rw [e]
  simp only [dom15, List.map_cons, List.map_nil, reach_dom]
  rw [show gd 66 (wd N) 0 0 = 46 :: lcl from rfl, reach_root]
/-! the hosts -/
noncomputable def hst (N : Int) (V : Nat) : List Nat := 119 :: gd 66 (wd N) 3 V
theorem hst_edge (N : Int) (V : Nat) : ∃ z, Edge (tx (hst N V)) z := by
  obtain ⟨a, z, e, B⟩ := gd_bare (wd_ok N) V
  unfold hst
  rw [e]
  exact ⟨_, edge_of B⟩
theorem hst_host (N : Int) (V : Nat) : Host (tx (hst N V)) := host_tx (asc_cons (by decide) (dgd_asc N 3 V)) (by have := dgd_len N (d := 3) (by decide) V; unfold hst; rw [List.length_cons]; omega)
theorem hst_udm (N : Int) {d v V : Nat} (hd : d < 4) (hv : v < 2 ^ d) (hV : V < 8) : udm (Txt.upper (tx (hst N V))) (tx (gd 66 (wd N) d v)) = decide (V / 2 ^ (3 - d) = v) := by
  have a1 : asc (hst N V) := asc_cons (by decide) (dgd_asc N 3 V)
  obtain ⟨r, hr⟩ := gd_dot 98 (fun k => (wd N k).map loC) d v
  obtain ⟨q, hq⟩ := gd_last 98 (fun k => (wd N k).map loC) 3 V
  obtain ⟨q2, hq2⟩ := gd_last 98 (fun k => (wd N k).map loC) d v
  rw [upper_tx a1, udm_lo (asc_map a1 upC_lt) (dgd_asc N d v), lo_up_map, gd_lo]
  have e : (hst N V).map loC = 119 :: gd 98 (fun k => (wd N k).map loC) 3 V := by
    unfold hst; rw [List.map_cons, gd_lo]; rfl
  rw [e]
  have n1 : Re.isNum (tx (119 :: gd 98 (fun k => (wd N k).map loC) 3 V)).cps = false := by rw [hq]; exact num_l (119 :: q)
  have n2 : Re.isNum (tx (gd 98 (fun k => (wd N k).map loC) d v)).cps = false := by rw [hq2]; exact num_l q2
  have U := gd_under (b := 98) (by decide) (u := fun k => (wd N k).map loC) (d := d) (e := 3 - d) (v := v) (V := V) hv (by rw [show d + (3 - d) = 3 by omega]; exact hV) [119]
  rw [show d + (3 - d) = 3 by omega] at U
  rw [hr] at n2 U ⊢
  rw [Bool.eq_iff_iff, udm_dot n1 n2, decide_eq_true_eq]
  exact U
end Mine
end
section
open PySem PySem.W PyProof.Rows PySem.Calls PySem.Spec
set_option maxRecDepth 100000
set_option maxHeartbeats 0
namespace Mine
theorem lbS {a b : Str} {m n : Nat} (h : a.length ≤ m) (h' : b.length ≤ n) : (a ++ b).length ≤ m + n := by rw [Str.length_append]; exact Nat.add_le_add h h'
theorem adS {a b : Str} {m n : Nat} (h : a.length ≤ m) (h' : b.length ≤ n) (hm : m + n ≤ 1000) : a.length + b.length ≤ sizeLine := Nat.le_trans (Nat.add_le_add h h') (Nat.le_trans hm (Nat.le_of_ble_eq_true rfl))
section
variable {C : Cx} {P : Params}
noncomputable abbrev grownNm : Names := [(Str.ofString "number", .local), (Str.ofString "words", .local), (Str.ofString "classes", .local), (Str.ofString "domains", .local), (Str.ofString "k", .local), (Str.ofString "depth", .local), (Str.ofString "word", .local), (Str.ofString "sign", .local), (Str.ofString "enumerate", .globalImplicit)]
noncomputable def grownInv (N : Int) (i : Nat) : Rho := [some (0, .int N), some (0, .list (sts wordsL)), some (0, .list (sts (clsS (sgn N) i))), some (0, .list (sts (domS (wordAt N) i))), none, none, none, none, none]
theorem f_grown (hK : C.K = hd.heap_39 P) (n : Nat) (N : Int) : Fn C (n + 1) 78 [.int N] (.tup [.list (sts (clsS (sgn N) 7)), .list (sts (domS (wordAt N) 7))]) := by
  refine Fn.of_body (lk hK rfl) rfl rfl rfl (by rw [hK]; kernel_rfl) rfl rfl rfl (fun vs h => ?_) (NmOk.of (by kernel_rfl)) (by exact Nat.le_of_ble_eq_true rfl) ?_
  · obtain ⟨v0, rfl⟩ := len1 h; rfl
  refine Ex.seq (Ex1.assign 1 rfl (Ev.list (ds := sts wordsL) (.cons (Ev.str (by decide +kernel)) ns_Constant (.cons (Ev.str (by decide +kernel)) ns_Constant (.cons (Ev.str (by decide +kernel)) ns_Constant (.cons (Ev.str (by decide +kernel)) ns_Constant
    (.cons (Ev.str (by decide +kernel)) ns_Constant (.cons (Ev.str (by decide +kernel)) ns_Constant (.cons (Ev.str (by decide +kernel)) ns_Constant (.cons (Ev.str (by decide +kernel)) ns_Constant .nil)))))))) (by decide))) ?_
  refine Ex.seq (Ex1.assign 2 rfl (Ev.list (.one (Ev.str (by decide +kernel))) (by decide))) ?_
  refine Ex.seq (Ex1.assign 3 rfl (Ev.list (.one (Ev.str (by decide +kernel))) (by decide))) ?_
  refine Ex.seq (Ex1.forL2 (k := 0) (ds := numD dL) 4 5 (grownInv N) (Src2.enumerate 8 rfl (g_enum hK) (Ev.list (.cons Ev.int ns_Constant (.cons Ev.int ns_Constant (.cons Ev.int ns_Constant (.cons Ev.int ns_Constant (.cons Ev.int ns_Constant (.cons Ev.int ns_Constant (.cons Ev.int ns_Constant .nil))))))) (by decide))) rfl rfl (fun i d h => ?_)) ?_
  · obtain ⟨hi, rfl⟩ := pairs7 i d h
    have hd3 := dpt_lt i
    have e3 : ((dpt i : Int) + 3).toNat = dpt i + 3 := by omega
    have hp := pow_ok (dpt i + 3) (by omega)
    rw [← e3] at hp
    have hsg : (N.fdiv (8 ^ ((dpt i : Int) + 3).toNat)).fmod 8 = dig N (dpt i + 3) := by rw [e3]; rfl
    have hc := sgn_at N (dpt i)
    rw [← hsg] at hc
    have hb : Builtin.Int.intBits 8 = 4 := by decide +kernel
    have c1 := getD_get (l := clsS (sgn N) i) (i := i) (by rw [clsS_len]; omega)
    have d1 := getD_get (l := domS (wordAt N) i) (i := i) (by rw [domS_len]; omega)
    have cl := clsS_size (sg := sgn N) (fun k _ => Nat.le_of_eq (sgn_len N k)) i _ (getD_in (l := clsS (sgn N) i) (i := i) (by rw [clsS_len]; omega))
    have dl := domS_size (wd := wordAt N) (fun k _ => word_len N k) i _ (getD_in (l := domS (wordAt N) i) (i := i) (by rw [domS_len]; omega))
    have wl := word_len N (dpt i)
    have sl := sgn_len N (dpt i)
    have es : (⟨#[(Txt.charAt signsS ((N.fdiv (8 ^ ((dpt i : Int) + 3).toNat)).fmod 8)).getD 0]⟩ : Str) = sgn N (dpt i) := by
      unfold sgn; rw [← hsg, item_of hc]
    have l1 : (Str.ofString "_").length = 1 := by decide +kernel
    have l2 : (Str.ofString "__").length = 2 := by decide +kernel
    have l3 : (Str.ofString ".").length = 1 := by decide +kernel
    have l4 : (Str.ofString ".B").length = 2 := by decide +kernel
    have sz : sizeLine = 16777216 := by decide +kernel
    have hp0 := pow_ok (dpt i) (by omega)
    have e0' : ((dpt i : Int)).toNat = dpt i := by omega
    rw [← e0'] at hp0
    have hwg : (N.fdiv (8 ^ ((dpt i : Int)).toNat)).fmod 8 = dig N (dpt i) := by rw [e0']; rfl
    refine Ex.seq (Ex1.assign 6 rfl (Ev.sub (Ev.name 1 rfl rfl) (Ev.bin (Ev.bin (Ev.name 0 rfl rfl) (Ev.bin Ev.int (Ev.name 5 rfl rfl) (Bin.pow_int (by omega) (by rw [hb]; omega))) (Bin.fdiv_int hp0.1 hp0.2)) Ev.int (Bin.mod_int (by decide))) (Itm.list (by rw [hwg]; exact dig_lo N _) (by rw [hwg]; have := dig_hi N (dpt i); omega) (sts_get (by rw [hwg]; exact word_get N (dpt i)))))) ?_
    refine Ex.seq (Ex1.assign 7 rfl (Ev.cast (congrArg D.str es) (Ev.sub (Ev.str (by decide +kernel)) (Ev.bin (Ev.bin (Ev.name 0 rfl rfl) (Ev.bin Ev.int (Ev.bin (Ev.name 5 rfl rfl) Ev.int Bin.add_int) (Bin.pow_int (by omega) (by rw [hb]; omega))) (Bin.fdiv_int hp.1 hp.2)) Ev.int (Bin.mod_int (by decide))) (Itm.str (by rw [hsg]; have := dig_lo N (dpt i + 3); omega) (by rw [hsg]; have := dig_hi N (dpt i + 3); omega) hc)))) ?_
    have i6 : i < 1000000 := lt6 hi (by decide)
    have gc : ∀ {ρ : Rho}, ρ[2]? = some (some (0, .list (sts (clsS (sgn N) i)))) → ρ[4]? = some (some (0, .int i)) → ∀ {p₁ p₂ p₃ : Pos}, Ev C n grownNm ρ (.Subscript (.Name (Str.ofString "classes") p₁) (.Name (Str.ofString "k") p₂) p₃) 0 (.str ((clsS (sgn N) i).getD i e0)) := fun h1 h2 => Ev.sub (Ev.name 2 rfl h1) (Ev.name 4 rfl h2) (Itm.nat i6 (sts_get c1))
    have gd : ∀ {ρ : Rho}, ρ[3]? = some (some (0, .list (sts (domS (wordAt N) i)))) → ρ[4]? = some (some (0, .int i)) → ∀ {p₁ p₂ p₃ : Pos}, Ev C n grownNm ρ (.Subscript (.Name (Str.ofString "domains") p₁) (.Name (Str.ofString "k") p₂) p₃) 0 (.str ((domS (wordAt N) i).getD i e0)) := fun h1 h2 => Ev.sub (Ev.name 3 rfl h1) (Ev.name 4 rfl h2) (Itm.nat i6 (sts_get d1))
    have c40 : ((clsS (sgn N) i).getD i e0).length ≤ 40 := Nat.le_trans cl (by omega)
    have d60 : ((domS (wordAt N) i).getD i e0).length ≤ 60 := Nat.le_trans dl (by omega)
    have s1 : (sgn N (dpt i)).length ≤ 1 := Nat.le_of_eq sl
    have u1 := Nat.le_of_eq l1
    have u2 := Nat.le_of_eq l2
    have u3 := Nat.le_of_eq l3
    have u4 := Nat.le_of_eq l4
    refine Ex.seq (Ex1.assign 2 rfl (Ev.bin (Ev.name 2 rfl rfl) (Ev.list (.two
      (Ev.bin (Ev.bin (gc rfl rfl) (Ev.str (by decide +kernel)) (Bin.add_str (adS c40 u2 (by decide)))) (Ev.name 7 rfl rfl) (Bin.add_str (adS (lbS c40 u2) s1 (by decide))))
      (Ev.bin (Ev.bin (Ev.bin (Ev.bin (gc rfl rfl) (Ev.str (by decide +kernel)) (Bin.add_str (adS c40 u2 (by decide)))) (Ev.name 7 rfl rfl) (Bin.add_str (adS (lbS c40 u2) s1 (by decide)))) (Ev.str (by decide +kernel)) (Bin.add_str (adS (lbS (lbS c40 u2) s1) u1 (by decide)))) (Ev.name 7 rfl rfl) (Bin.add_str (adS (lbS (lbS (lbS c40 u2) s1) u1) s1 (by decide))))) (by simp)) (Bin.add_list (by unfold sts; rw [List.length_map, clsS_len]; simp only [List.length_cons, List.length_nil]; omega)))) ?_
    refine Ex.most (Ex.seq (Ex1.assign 3 rfl (Ev.bin (Ev.name 3 rfl rfl) (Ev.list (.two
      (Ev.bin (Ev.bin (Ev.str (by decide +kernel)) (Ev.name 6 rfl rfl) (Bin.add_str (adS u3 wl (by decide)))) (gd rfl rfl) (Bin.add_str (adS (lbS u3 wl) d60 (by decide))))
      (Ev.bin (Ev.bin (Ev.str (by decide +kernel)) (Ev.name 6 rfl rfl) (Bin.add_str (adS u4 wl (by decide)))) (gd rfl rfl) (Bin.add_str (adS (lbS u4 wl) d60 (by decide))))) (by simp)) (Bin.add_list (by unfold sts; rw [List.length_map, domS_len]; simp only [List.length_cons, List.length_nil]; omega)))) Ex.nil) ?_
    intro j e hj
    have e1 : sts (clsS (sgn N) (i + 1)) = sts (clsS (sgn N) i) ++ [.str ((clsS (sgn N) i).getD i e0 ++ Str.ofString "__" ++ sgn N (dpt i)), .str ((clsS (sgn N) i).getD i e0 ++ Str.ofString "__" ++ sgn N (dpt i) ++ Str.ofString "_" ++ sgn N (dpt i))] := by
      unfold sts; rw [clsS, List.map_append]; rfl
    have e2 : sts (domS (wordAt N) (i + 1)) = sts (domS (wordAt N) i) ++ [.str (Str.ofString "." ++ wordAt N (dpt i) ++ (domS (wordAt N) i).getD i e0), .str (Str.ofString ".B" ++ wordAt N (dpt i) ++ (domS (wordAt N) i).getD i e0)] := by
      unfold sts; rw [domS, List.map_append]; rfl
    unfold grownInv at hj
    rw [e1, e2] at hj
    match j, hj with
    | 0, hj => exact hj
    | 1, hj => exact hj
    | 2, hj => exact hj
    | 3, hj => exact hj
    | j + 4, hj =>
      exfalso
      match j, hj with
      | 0, hj | 1, hj | 2, hj | 3, hj | 4, hj => cases hj
      | j + 5, hj => cases hj
  · exact Ex.stop (Ex1.ret (Ev.tup (.two (Ev.name 2 rfl rfl) (Ev.name 3 rfl rfl)) (by simp)))
end
end Mine
end
section
open PySem PySem.W PyProof.Rows PySem.Calls PySem.Spec
set_option maxRecDepth 100000
set_option maxHeartbeats 0
namespace Mine
noncomputable def pre (x : Str) (k : Nat) : Str := Txt.slice x none (some (k : Int))
/-- the longest beginning, of at most k signs, that is a class which hides the text -/
noncomputable def widK (x : Str) : Nat → Str
  | 0 => e0
  | k + 1 => if isPriv (pre x (k + 1)) (Str.ofString "_" ++ x) then pre x (k + 1) else widK x k
section
variable {C : Cx} {n : Nat} {nm : Names} {ρ : Rho}
noncomputable def outOf (ρ : Rho) : Option D → Out
  | some d => .ret d
  | none => .next ρ
theorem for_search {body : List Stmt} {N : Nat} {bind : Nat → Rho → Rho} {t : Nat → Option D} (h : ∀ i, i < N → Ex C n nm (bind i ρ) body (outOf ρ (t i))) : ∀ k i, i + k = N → ForRun C n nm bind body N i ρ (outOf ρ ((List.range' i k).findSome? t))
  | 0, i, e => by
    have : i = N := by omega
    subst this; exact .done
  | k + 1, i, e => by
    have r := for_search h k (i + 1) (by omega)
    have h1 := h i (by omega)
    rw [List.range'_succ, List.findSome?_cons]
    cases ht : t i with
    | some d => rw [ht] at h1; exact .ret (by omega) h1
    | none => rw [ht] at h1; exact .turn (by omega) h1 r
theorem findSome_getD {β : Type} (t : D → Option β) (ds : List D) : (List.range' 0 ds.length).findSome? (fun i => t (getD ds i)) = ds.findSome? t := by
  have h1 := map_getD (fun d => d) ds
  simp only [List.map_id'] at h1
  conv => rhs; rw [← h1]
  rw [List.findSome?_map]; rfl
/-- a for that gives back the first that is found, and what stands behind -/
theorem Ex.search {iter : Expr} {body rest : List Stmt} {x : Str} {kd : NameKind} {px pos : Pos} {ds : List D} {dr : D} (p : Nat) (t : D → Option D) (src : Src1 C n nm ρ iter ds) (hp : nm[p]? = some (x, kd)) (h : ∀ d, d ∈ ds → Ex C n nm (ρ.set p (some (0, d))) body (outOf ρ (t d))) (hr : ds.findSome? t = none → Ex C n nm ρ rest (.ret dr)) (hk : kd = .local ∨ kd = .cell := by first | exact .inl rfl | exact .inr rfl) (hs : ∀ env x, foldedSetIterable iter env x = pure x := by intro _ _; rfl) :
    Ex C n nm ρ (.For (.Name x px) iter body [] pos :: rest) (.ret ((ds.findSome? t).getD dr)) := by
  have run := for_search (C := C) (n := n) (nm := nm) (ρ := ρ) (body := body) (N := ds.length) (bind := fun i ρ => ρ.set p (some (0, getD ds i))) (t := fun i => t (getD ds i)) (fun i hi => h _ (getD_mem hi)) ds.length 0 (by omega)
  rw [findSome_getD] at run
  cases e : ds.findSome? t with
  | some d =>
    rw [e] at run
    exact Ex.stop (Ex1.for_ (.of1 src p hp hk) run hs)
  | none =>
    rw [e] at run
    exact Ex.seq (Ex1.for_ (.of1 src p hp hk) run hs) (hr e)
end
noncomputable def tWid (x : Str) : D → Option D
  | .int k => if isPriv (pre x k.toNat) (Str.ofString "_" ++ x) then some (.str (pre x k.toNat)) else none
  | _ => none
theorem rangeD_down : ∀ k : Nat, rangeD ((k + 1 : Nat) : Int) (-1) (k + 1) = .int ((k + 1 : Nat) : Int) :: rangeD (k : Int) (-1) k := fun k => by
  unfold rangeD
  rw [List.range_succ_eq_map, List.map_cons, List.map_map]
  refine List.cons_eq_cons.mpr ⟨congrArg D.int (by omega), List.map_congr_left fun i _ => ?_⟩
  show D.int (((k + 1 : Nat) : Int) + ((i + 1 : Nat) : Int) * -1) = D.int ((k : Int) + (i : Int) * -1)
  exact congrArg D.int (by omega)
theorem wid_find (x : Str) : ∀ k : Nat, ((rangeD (k : Int) (-1) k).findSome? (tWid x)).getD (.str e0) = .str (widK x k)
  | 0 => rfl
  | k + 1 => by
    have e : tWid x (.int ((k + 1 : Nat) : Int)) = if isPriv (pre x (k + 1)) (Str.ofString "_" ++ x) then some (.str (pre x (k + 1))) else none := by
      unfold tWid; simp only [Int.toNat_natCast]
    rw [rangeD_down, List.findSome?_cons, e]
    unfold widK
    by_cases h : isPriv (pre x (k + 1)) (Str.ofString "_" ++ x) = true
    · rw [if_pos h, if_pos h]; rfl
    · rw [if_neg h, if_neg h]; exact wid_find x k
theorem Tst.cast {n : Nat} {nm : Names} {ρ : Rho} {C : Cx} {e : Expr} {b b' : Bool} (h : b = b') (t : Tst C n nm ρ e b) : Tst C n nm ρ e b' := h ▸ t
theorem Ex.cast {n : Nat} {nm : Names} {ρ : Rho} {C : Cx} {ss : List Stmt} {o o' : Out} (h : o = o') (e : Ex C n nm ρ ss o) : Ex C n nm ρ ss o' := h ▸ e
section
variable {C : Cx} {P : Params}
noncomputable abbrev widNm : Names := [(Str.ofString "text", .local), (Str.ofString "k", .local), (Str.ofString "range", .globalImplicit), (Str.ofString "len", .globalImplicit), (Str.ofString "_is_private", .globalImplicit)]
theorem neg1 {n : Nat} {nm : Names} {ρ : Rho} {p p' : Pos} {q : Nat} : Ev C n nm ρ (.UnaryOp .USub (.Constant (.int 1) q p) p') 0 (.int (-1)) := Ev.neg Ev.int
theorem f_wider (hK : C.K = hd.heap_39 P) (n : Nat) {x : Str} (h1 : 1 ≤ x.length) (h9 : x.length ≤ 900) : Fn C (n + 2) 85 [.str x] (.str (widK x (x.length - 1))) := by
  refine Fn.of_body (lk hK rfl) rfl rfl rfl (by rw [hK]; kernel_rfl) rfl rfl rfl (fun vs h => ?_) (NmOk.of (by kernel_rfl)) (by exact Nat.le_of_ble_eq_true rfl) ?_
  · obtain ⟨v0, rfl⟩ := len1 h; rfl
  have l1 : (Str.ofString "_").length = 1 := by decide +kernel
  have sz : sizeLine = 16777216 := by decide +kernel
  have ea : (x.length : Int) - 1 = ((x.length - 1 : Nat) : Int) := by omega
  have tt : (((x.length - 1 : Nat) : Int)).toNat = x.length - 1 := by omega
  have pl : ∀ k, (pre x k).length ≤ 900 := fun k => Nat.le_trans (Txt.slice_le _ _ _) h9
  have turn : ∀ (k : Nat) (ρ : Rho), ρ[0]? = some (some (0, .str x)) → ρ[1]? = some (some (0, .int (k : Int))) → ∀ {p₁ p₂ p₃ p₄ p₅ p₆ p₇ p₈ p₉ : Pos} {q : Nat}, Tst C (n + 1) widNm ρ (.Call (.Name (Str.ofString "_is_private") p₁) [.Subscript (.Name (Str.ofString "text") p₂) (.Slice none (some (.Name (Str.ofString "k") p₃)) none p₄) p₅, .BinOp (.Constant (.str (Str.ofString "_")) q p₆) .Add (.Name (Str.ofString "text") p₇) p₈] [] p₉) (isPriv (pre x k) (Str.ofString "_" ++ x)) := fun k ρ h0 hk => by
    intros
    exact Tst.value (Ev.call 4 rfl (g_private hK) (lk hK rfl) rfl (.two (Ev.slice_str (Ev.name 0 rfl h0) .none (.some (Ev.name 1 rfl hk)) (by omega)) (Ev.bin (Ev.str (by decide +kernel)) (Ev.name 0 rfl h0) (Bin.add_str (by omega)))) (f_private hK n (by have := pl k; exact Nat.le_trans this (by decide)) (by rw [Str.length_append]; omega))) Tru.bool
  have fin : (((rangeD ((x.length - 1 : Nat) : Int) (-1) (((x.length - 1 : Nat) : Int)).toNat).findSome? (tWid x)).getD (.str e0)) = .str (widK x (x.length - 1)) := by rw [tt]; exact wid_find x _
  refine Ex.cast (congrArg Out.ret fin) (Ex.search 1 (tWid x) (Src1.down 2 rfl (g_range hK) (by omega) (by omega) (.cons (Ev.cast (congrArg D.int ea) (Ev.bin (Ev.len_str 3 rfl (g_len hK) (Ev.name 0 rfl rfl) (by omega)) Ev.int Bin.sub_int)) ns_BinOp (.cons Ev.int ns_Constant (.cons neg1 ns_UnaryOp .nil)))) rfl (fun d hd => ?_) fun _ => Ex.stop (Ex1.ret (Ev.str (by decide +kernel))))
  obtain ⟨i, hi⟩ := List.getElem?_of_mem hd
  have hlt := (List.getElem?_eq_some_iff.mp hi).1
  have := rangeD_at hi
  subst this
  have hz : ((x.length - 1 : Nat) : Int) + (i : Int) * -1 = ((x.length - 1 - i : Nat) : Int) := by
    have : i < x.length - 1 := by simpa [rangeD, tt] using hlt
    omega
  rw [hz]
  have et : tWid x (.int ((x.length - 1 - i : Nat) : Int)) = if isPriv (pre x (x.length - 1 - i)) (Str.ofString "_" ++ x) then some (.str (pre x (x.length - 1 - i))) else none := by
    unfold tWid; simp only [Int.toNat_natCast]
  rw [et]
  cases hp : isPriv (pre x (x.length - 1 - i)) (Str.ofString "_" ++ x) with
  | true => exact Ex.stop (Ex1.take (Tst.cast hp (turn _ _ rfl rfl)) (Ex.stop (Ex1.ret (Ev.slice_str (Ev.name 0 rfl rfl) .none (.some (Ev.name 1 rfl rfl)) (by omega)))))
  | false => exact Ex.seq (Ex1.skip (Tst.cast hp (turn _ _ rfl rfl)) Ex.nil) (Ex.most Ex.nil (Less.set fun e h => nomatch h))
end
end Mine
end
section
open PySem PySem.W PyProof.Rows PySem.Calls PySem.Spec
set_option maxRecDepth 100000
set_option maxHeartbeats 0
namespace Mine
section
variable {C : Cx} {n : Nat} {nm : Names} {ρ : Rho}
/-- [{}, {}], of one's own -/
theorem EvF.dicts2 {p q r : Pos} : EvF C n nm ρ (.List [.Dict [] [] p, .Dict [] [] q] r) 2 (.list [.dict [], .dict []]) := .mk fun A env X s o ok pp => by
  have lt0 := (C.g.keeps pp.gr.old).lt
  refine wpAny_List_spliced (spliced_cons (wpAny_Dict_empty (spliced_cons (wpAny_Dict_empty (spliced_nil ⟨?_, ?_⟩)))))
  · simp only [sizeLine, List.length_cons, List.length_nil]; exact Nat.le_of_ble_eq_true rfl
  have z1 : (s.heap.push { cls := .type "dict", data := .dict #[] 0 }).objs.size = s.heap.objs.size + 1 := Heap.size_push ..
  have z2 : ((s.heap.push { cls := .type "dict", data := .dict #[] 0 }).push { cls := .type "dict", data := .dict #[] 0 }).objs.size = s.heap.objs.size + 2 := by rw [Heap.size_push, z1]
  have g1 : (s.heap.push { cls := .type "dict", data := .dict #[] 0 }).get? s.heap.objs.size = some _ := Heap.get?_push_size _ rfl
  have g2 : ((s.heap.push { cls := .type "dict", data := .dict #[] 0 }).push { cls := .type "dict", data := .dict #[] 0 }).get? (s.heap.push { cls := .type "dict", data := .dict #[] 0 }).objs.size = some _ := Heap.get?_push_size _ rfl
  have sm : ∀ a : Addr, s.heap.objs.size ≤ a → a ≠ sysModules := fun a ha h => by
    rw [h] at ha
    exact absurd (Nat.lt_of_lt_of_le lt0 ha) (by decide)
  have k3 : Kp s { s with heap := ((s.heap.push { cls := .type "dict", data := .dict #[] 0 }).push { cls := .type "dict", data := .dict #[] 0 }).push { cls := .type "list", data := .seq #[.ref s.heap.objs.size, .ref (s.heap.push { cls := .type "dict", data := .dict #[] 0 }).objs.size] } } :=
    kHeap (t := s.toks) (fun b o e => Heap.get?_push_of_some _ (Heap.get?_push_of_some _ (Heap.get?_push_of_some _ e))) (Nat.le_refl _)
  refine ⟨k3, [((s.heap.push { cls := .type "dict", data := .dict #[] 0 }).push { cls := .type "dict", data := .dict #[] 0 }).objs.size, s.heap.objs.size, (s.heap.push { cls := .type "dict", data := .dict #[] 0 }).objs.size], ?_, fun b hb => ?_, ?_⟩
  · refine .list (vs := [.ref s.heap.objs.size, .ref (s.heap.push { cls := .type "dict", data := .dict #[] 0 }).objs.size]) (n := 0) (Heap.get?_push_size _ rfl) (.cons (T := [s.heap.objs.size]) (.dict (kvs := []) (sm _ (Nat.le_refl _)) ⟨_, #[], 0, Heap.get?_push_of_some _ (Heap.get?_push_of_some _ g1), ⟨rfl, rfl, rfl⟩, rfl, fun _ h => absurd h (by simp), .nil, List.nodup_nil⟩ .nil) (.cons (T := [(s.heap.push { cls := .type "dict", data := .dict #[] 0 }).objs.size]) (T' := []) (.dict (kvs := []) (sm _ (by rw [z1]; exact Nat.le_succ _)) ⟨_, #[], 0, Heap.get?_push_of_some _ g2, ⟨rfl, rfl, rfl⟩, rfl, fun _ h => absurd h (by simp), .nil, List.nodup_nil⟩ .nil) .nil))
  · simp only [List.mem_cons, List.not_mem_nil, or_false] at hb
    rcases hb with rfl | rfl | rfl
    · exact size_none (by rw [z2]; exact Nat.le_add_right _ _)
    · exact size_none (Nat.le_refl _)
    · exact size_none (by rw [z1]; exact Nat.le_add_right _ _)
  · rw [z1, z2]; simp
end
end Mine
end
section
open PySem PySem.W PyProof.Rows PySem.Calls PySem.Spec
set_option maxRecDepth 100000
set_option maxHeartbeats 0
namespace Mine
noncomputable def wid (x : Str) : Str := widK x (x.length - 1)
noncomputable def up1 (d : Str) : Str := reachS (own1 d)
noncomputable def ovW (f : Str → Str) (l : List Str) : List (Str × D) := l.foldl (fun kvs c => dput kvs c (.str (f c))) []
theorem ovW_succ (f : Str → Str) {l : List Str} {i : Nat} {c : Str} (h : l[i]? = some c) : ovW f (l.take (i + 1)) = dput (ovW f (l.take i)) c (.str (f c)) := by
  unfold ovW
  have hi := (List.getElem?_eq_some_iff.mp h).1
  rw [List.take_add_one, h, List.foldl_append]; rfl
theorem ovW_len (f : Str → Str) : ∀ (l : List Str) (kvs : List (Str × D)), (l.foldl (fun kvs c => dput kvs c (.str (f c))) kvs).length ≤ kvs.length + l.length
  | [], _ => by simp
  | c :: l, kvs => by
    rw [List.foldl_cons]
    have := ovW_len f l (dput kvs c (.str (f c)))
    have := dput_len kvs c (.str (f c))
    rw [List.length_cons]; omega
noncomputable def overD (cs ds : List Str) : D := .list [.dict (ovW wid cs), .dict (ovW up1 ds)]
/-- what is asked of a domain's text -/
structure RGood (d : Str) : Prop where
  len : d.length ≤ 900
  own : (own1 d).length ≤ 900
  ok : PyData.strOk (own1 d) = true
  sl : (Txt.slice (own1 d) (some (Txt.find (own1 d) (Str.ofString ".") + 1)) none).length ≤ 900
section
variable {C : Cx} {P : Params}
theorem g_wider (hK : C.K = hd.heap_39 P) : nsIn C.K mainGlobals (("_law_wider" : Str)) = some (some (.ref 85)) := by rw [hK]; kernel_rfl
theorem g_zip (hK : C.K = hd.heap_39 P) : nsIn C.K mainGlobals (("zip" : Str)) = some Option.none := by rw [hK]; kernel_rfl
noncomputable def overI (cs ds : List Str) (i : Nat) : Rho := [some (0, .list (sts cs)), some (0, .list (sts ds)), some (2, overD (cs.take i) (ds.take i)), none, none, none, none, none]
theorem zip_sts (cs ds : List Str) {i : Nat} {p : D × D} (h : ((sts cs).zip (sts ds))[i]? = some p) : ∃ c d, cs[i]? = some c ∧ ds[i]? = some d ∧ p = (.str c, .str d) := by
  rw [List.getElem?_zip_eq_some] at h
  obtain ⟨c, hc, e1⟩ := sts_at h.1
  obtain ⟨d, hd, e2⟩ := sts_at h.2
  exact ⟨c, d, hc, hd, by rw [← e1, ← e2]⟩
theorem f_over (hK : C.K = hd.heap_39 P) (n : Nat) {cs ds : List Str} (hl : cs.length = ds.length) (h9 : cs.length ≤ 900) (hc : ∀ c ∈ cs, 1 ≤ c.length ∧ c.length ≤ 900) (hd' : ∀ d ∈ ds, RGood d) : Fn C (n + 3) 92 [.list (sts cs), .list (sts ds)] (overD cs ds) := by
  refine Fn.of_body (lk hK rfl) rfl rfl rfl (by rw [hK]; kernel_rfl) rfl rfl rfl (fun vs h => ?_) (NmOk.of (by kernel_rfl)) (by exact Nat.le_of_ble_eq_true rfl) ?_
  · obtain ⟨v0, v1, rfl⟩ := len2 h; rfl
  refine Ex.seq (Ex1.assignF 2 rfl EvF.dicts2) ?_
  refine Ex.seq (Ex1.less (ρ' := overI cs ds 0) (Ex1.forL2 (k := 0) (ds := (sts cs).zip (sts ds)) 3 4 (overI cs ds) (Src2.zip 5 rfl (g_zip hK) (.two (Ev.name 0 rfl rfl) (Ev.name 1 rfl rfl)) (by rw [sts_len, sts_len, hl])) rfl rfl (fun i p h => ?_)) ?_) ?_
  · obtain ⟨c, d, hci, hdi, rfl⟩ := zip_sts cs ds h
    have c1 := hc c (List.mem_of_getElem? hci)
    have d1 := hd' d (List.mem_of_getElem? hdi)
    have hi := (List.getElem?_eq_some_iff.mp hci).1
    have l1 : (ovW wid (cs.take i)).length ≤ 1000 := by have := ovW_len wid (cs.take i) []; unfold ovW; rw [List.length_take, List.length_nil] at this; omega
    have l2 : (ovW up1 (ds.take i)).length ≤ 1000 := by have := ovW_len up1 (ds.take i) []; unfold ovW; rw [List.length_take, List.length_nil] at this; omega
    have l3 := d1.len
    refine Ex.seq (Ex1.put_dict (Plc.sub (Plc.name 2 rfl rfl) Ev.int (by decide) (by decide) rfl) (Ev.name 3 rfl rfl) (Ev.call 6 rfl (g_wider hK) (lk hK rfl) rfl (.one (Ev.name 3 rfl rfl)) (f_wider hK n c1.1 c1.2)) l1) ?_
    refine Ex.most (Ex.seq (Ex1.put_dict (Plc.sub (Plc.name 2 rfl rfl) Ev.int (by decide) (by decide) rfl) (Ev.name 4 rfl rfl) (Ev.call 7 rfl (g_reach hK) (lk hK rfl) rfl (.one (Ev.slice_str (Ev.name 4 rfl rfl) (.some Ev.int) .none (by omega))) (f_reach hK n d1.own d1.ok d1.sl)) l2) Ex.nil) ?_
    unfold overI overD
    rw [ovW_succ wid hci, ovW_succ up1 hdi]
    exact .same (.same (.same (.gone (.gone (.gone (.gone (.gone .nil)))))))
  · exact .same (.same (.same (.gone (.gone (.gone (.gone (.gone .nil)))))))
  · refine Ex.stop (Ex1.retName (k := 2) 2 rfl ?_)
    show some (some (2, overD (cs.take ((sts cs).zip (sts ds)).length) (ds.take ((sts cs).zip (sts ds)).length))) = _
    rw [List.length_zip, sts_len, sts_len, hl, Nat.min_self, List.take_length, ← hl, List.take_length]
end
end Mine
end
section
open PySem PySem.W PyProof.Rows PySem.Calls PySem.Spec
set_option maxRecDepth 100000
set_option maxHeartbeats 0
namespace Mine
noncomputable def wOf (ov : List (Str × D)) (t : Str) : Str := match dget ov t with
  | some (.str w) => w
  | _ => e0
noncomputable def lOf (acc : List (Str × D)) (w : Str) : List D := match dget acc w with
  | some (.list l) => l
  | _ => []
noncomputable def hvStep (ov acc : List (Str × D)) (t : Str) : List (Str × D) := dput acc (wOf ov t) (.list (lOf acc (wOf ov t) ++ [.str t]))
noncomputable def hvD (ov : List (Str × D)) : List (Str × D) := (ov.map (·.1)).foldl (hvStep ov) []
structure HvOk (acc : List (Str × D)) (i : Nat) : Prop where
  val : ∀ w d, dget acc w = some d → ∃ l, d = .list l ∧ l.length ≤ i
  len : acc.length ≤ i
theorem lOf_len {acc : List (Str × D)} {i : Nat} (h : HvOk acc i) (w : Str) : (lOf acc w).length ≤ i ∧ (dget acc w).getD (.list []) = .list (lOf acc w) := by
  unfold lOf
  cases e : dget acc w with
  | none => exact ⟨Nat.zero_le _, rfl⟩
  | some d =>
    obtain ⟨l, rfl, hl⟩ := h.val w d e
    exact ⟨hl, rfl⟩
theorem hv_step (ov : List (Str × D)) {acc : List (Str × D)} {i : Nat} (h : HvOk acc i) (t : Str) : HvOk (hvStep ov acc t) (i + 1) := by
  refine ⟨fun w d e => ?_, ?_⟩
  · unfold hvStep at e
    rw [dget_dput] at e
    split at e
    · cases e
      refine ⟨_, rfl, ?_⟩
      have := (lOf_len h (wOf ov t)).1
      simp; omega
    · obtain ⟨l, rfl, hl⟩ := h.val w d e
      exact ⟨l, rfl, by omega⟩
  · have := dput_len acc (wOf ov t) (.list (lOf acc (wOf ov t) ++ [.str t]))
    have := h.len
    unfold hvStep; omega
theorem hv_ok (ov : List (Str × D)) : ∀ (ts : List Str) {acc : List (Str × D)} {i : Nat}, HvOk acc i → HvOk (ts.foldl (hvStep ov) acc) (i + ts.length)
  | [], acc, i, h => h
  | t :: ts, acc, i, h => by
    have := hv_ok ov ts (hv_step ov h t)
    rw [List.foldl_cons, List.length_cons, show i + (ts.length + 1) = i + 1 + ts.length by omega]
    exact this
section
variable {C : Cx} {P : Params}
noncomputable def hvI (ov : List (Str × D)) (i : Nat) : Rho := [some (0, .dict ov), some (1, .dict (((ov.map (·.1)).take i).foldl (hvStep ov) [])), none]
theorem f_halves (hK : C.K = hd.heap_39 P) (n : Nat) {ov : List (Str × D)} (h9 : ov.length ≤ 900) (hk : ∀ p ∈ ov, PyData.strOk p.1 = true ∧ ∃ w, dget ov p.1 = some (.str w)) : Fn C (n + 1) 99 [.dict ov] (.dict (hvD ov)) := by
  refine Fn.of_body (lk hK rfl) rfl rfl rfl (by rw [hK]; kernel_rfl) rfl rfl rfl (fun vs h => ?_) (NmOk.of (by kernel_rfl)) (by exact Nat.le_of_ble_eq_true rfl) ?_
  · obtain ⟨v0, rfl⟩ := len1 h; rfl
  refine Ex.seq (Ex1.assignF 1 rfl EvF.dict0) ?_
  refine Ex.seq (Ex1.less (ρ' := hvI ov 0) (Ex1.forL (ds := keysD ov) 2 (hvI ov) (Src1.keys (Ev.name 0 rfl rfl) fun p hp => (hk p hp).1) rfl (fun i d h => ?_)) ?_) ?_
  · obtain ⟨p, hp, rfl⟩ : ∃ p, ov[i]? = some p ∧ d = .str p.1 := by
      unfold keysD at h
      rw [List.getElem?_map] at h
      cases e : ov[i]? with
      | none => rw [e] at h; cases h
      | some p => rw [e] at h; cases h; exact ⟨p, rfl, rfl⟩
    obtain ⟨_, w, hw⟩ := hk p (List.mem_of_getElem? hp)
    have hi := (List.getElem?_eq_some_iff.mp hp).1
    have ew : wOf ov p.1 = w := by unfold wOf; rw [hw]
    have em : (ov.map (·.1))[i]? = some p.1 := by rw [List.getElem?_map, hp]; rfl
    have es : ((ov.map (·.1)).take (i + 1)).foldl (hvStep ov) [] = hvStep ov (((ov.map (·.1)).take i).foldl (hvStep ov) []) p.1 := by
      rw [List.take_add_one, em, List.foldl_append]; rfl
    have ok0 : HvOk [] 0 := ⟨fun w d e => by simp [dget] at e, Nat.le_refl _⟩
    have ok := hv_ok ov ((ov.map (·.1)).take i) ok0
    rw [List.length_take, List.length_map, Nat.min_eq_left (Nat.le_of_lt hi), Nat.zero_add] at ok
    have lo := lOf_len ok w
    have ll := ok.len
    unfold hvI
    rw [es]
    have sz : sizeLine = 16777216 := by decide +kernel
    generalize ((ov.map (·.1)).take i).foldl (hvStep ov) [] = acc at *
    unfold hvStep
    rw [ew]
    refine Ex.most (Ex.seq (Ex1.put_dict (Plc.name 1 rfl rfl) (Ev.sub (Ev.name 0 rfl rfl) (Ev.name 2 rfl rfl) (Itm.dict (Nat.zero_le _) hw)) (Ev.bin (Ev.cast lo.2 (Ev.get (k := 1) (by decide) (Ev.name 1 rfl rfl) (Ev.sub (Ev.name 0 rfl rfl) (Ev.name 2 rfl rfl) (Itm.dict (Nat.zero_le _) hw)) (Ev.list .nil (by simp)) (fun _ => rfl))) (Ev.list (.one (Ev.name 2 rfl rfl)) (by simp)) (Bin.add_list (by have := lo.1; simp only [List.length_cons, List.length_nil]; omega))) (by omega)) Ex.nil) ?_
    exact .same (.same (.gone .nil))
  · exact .same (.same (.gone .nil))
  · refine Ex.stop (Ex1.retName (k := 1) 1 rfl ?_)
    show some (some (1, D.dict (((ov.map (·.1)).take (keysD ov).length).foldl (hvStep ov) []))) = _
    unfold hvD keysD
    rw [List.length_map, List.take_of_length_le (by simp)]
end
end Mine
end
section
open PySem PySem.W PyProof.Rows PySem.Calls PySem.Spec
set_option maxRecDepth 100000
set_option maxHeartbeats 0
namespace Mine
noncomputable def spSize (j : Int) : Int := (8 : Int).fdiv (2 ^ j.toNat)
noncomputable def spStart (p : Int) (j : Int) : Int := (p + 1 - 2 ^ j.toNat) * spSize j
noncomputable def tSpan (p : Int) : D → Option D
  | .int j => if p < 2 ^ (j + 1).toNat - 1 then some (.list (rangeD (spStart p j) 1 (spStart p j + spSize j - spStart p j).toNat)) else none
  | _ => none
theorem ltS {P : Nat → Prop} {n : Nat} (h : ∀ p, p < n → P p) (hn : P n) : ∀ p, p < n + 1 → P p := fun p hp => (Nat.lt_succ_iff_lt_or_eq.mp hp).elim (h p) fun e => e ▸ hn
theorem span_find : ∀ p : Nat, p < 15 → ((rangeD 0 1 (4 : Int).toNat).findSome? (tSpan (p : Int))).getD (.list []) = .list (nts (grp15.getD p [])) :=
  ltS (ltS (ltS (ltS (ltS (ltS (ltS (ltS (ltS (ltS (ltS (ltS (ltS (ltS (ltS (fun p h => absurd h (Nat.not_lt_zero p)) rfl) rfl) rfl) rfl) rfl) rfl) rfl) rfl) rfl) rfl) rfl) rfl) rfl) rfl) rfl
theorem pow2_ok' : ∀ j : Nat, j < 4 → (0 : Int) < 2 ^ ((j : Int)).toNat ∧ (2 : Int) ^ ((j : Int)).toNat < 1073741824
  | 0, _ | 1, _ | 2, _ | 3, _ => by decide
theorem span_fin : ∀ p : Fin 15, ∀ j : Fin 4, -1000000 ≤ spStart (p.val : Int) (j.val : Int) ∧ spStart (p.val : Int) (j.val : Int) ≤ spStart (p.val : Int) (j.val : Int) + spSize (j.val : Int) ∧ spStart (p.val : Int) (j.val : Int) + spSize (j.val : Int) < 1000000 := by decide +kernel
theorem span_bounds (p j : Nat) (hp : p < 15) (hj : j < 4) : -1000000 ≤ spStart (p : Int) (j : Int) ∧ spStart (p : Int) (j : Int) ≤ spStart (p : Int) (j : Int) + spSize (j : Int) ∧ spStart (p : Int) (j : Int) + spSize (j : Int) < 1000000 := span_fin ⟨p, hp⟩ ⟨j, hj⟩
theorem span_bits : ∀ j : Fin 4, Builtin.Int.intBits ((8 : Int).fdiv (2 ^ ((j.val : Int)).toNat)) ≤ 64 := by decide +kernel
section
variable {C : Cx} {P : Params}
theorem g_list (hK : C.K = hd.heap_39 P) : nsIn C.K mainGlobals (("list" : Str)) = some Option.none := by rw [hK]; kernel_rfl
theorem f_span (hK : C.K = hd.heap_39 P) (n : Nat) {p : Nat} (hp : p < 15) : Fn C (n + 1) 143 [.int (p : Int)] (.list (nts (grp15.getD p []))) := by
  refine Fn.of_body (lk hK rfl) rfl rfl rfl (by rw [hK]; kernel_rfl) rfl rfl rfl (fun vs h => ?_) (NmOk.of (by kernel_rfl)) (by exact Nat.le_of_ble_eq_true rfl) ?_
  · obtain ⟨v0, rfl⟩ := len1 h; rfl
  refine Ex.cast (congrArg Out.ret (span_find p hp)) (Ex.search 1 (tSpan (p : Int)) (Src1.range1 4 rfl (g_range hK) Ev.int (by decide) (by decide)) rfl (fun d hd => ?_) fun _ => Ex.stop (Ex1.ret (Ev.list .nil (by simp))))
  have hb : Builtin.Int.intBits 2 = 2 := by decide +kernel
  obtain ⟨j, hj, rfl⟩ : ∃ j : Nat, j < 4 ∧ d = .int (j : Int) := by
    obtain ⟨i, hi⟩ := List.getElem?_of_mem hd
    have hlt := (List.getElem?_eq_some_iff.mp hi).1
    have := rangeD_at hi
    exact ⟨i, by simpa [rangeD] using hlt, by rw [this]; congr 1; omega⟩
  have hp2 := pow2_ok' j hj
  have et : tSpan (p : Int) (.int (j : Int)) = if decide ((p : Int) < 2 ^ ((j : Int) + 1).toNat - 1) then some (.list (rangeD (spStart p j) 1 (spStart p j + spSize j - spStart p j).toNat)) else none := by
    unfold tSpan; simp only [decide_eq_true_eq]
  rw [et]
  cases hc : decide ((p : Int) < 2 ^ ((j : Int) + 1).toNat - 1) with
  | false => exact Ex.seq (Ex1.skip (hc ▸ Tst.cmp (Ev.name 0 rfl rfl) (Ev.bin (Ev.bin Ev.int (Ev.bin (Ev.name 1 rfl rfl) Ev.int Bin.add_int) (Bin.pow_int (by omega) (by rw [hb]; omega))) Ev.int Bin.sub_int) Cmp.lt) Ex.nil) (Ex.most Ex.nil (Less.set fun e h => nomatch h))
  | true =>
    have hb2 := span_bounds p j hp hj
    refine Ex.stop (Ex1.take (hc ▸ Tst.cmp (Ev.name 0 rfl rfl) (Ev.bin (Ev.bin Ev.int (Ev.bin (Ev.name 1 rfl rfl) Ev.int Bin.add_int) (Bin.pow_int (by omega) (by rw [hb]; omega))) Ev.int Bin.sub_int) Cmp.lt) ?_)
    refine Ex.seq (Ex1.assign 2 rfl (Ev.bin Ev.int (Ev.bin Ev.int (Ev.name 1 rfl rfl) (Bin.pow_int (by omega) (by rw [hb]; omega))) (Bin.fdiv_int hp2.1 hp2.2))) ?_
    refine Ex.seq (Ex1.assign 3 rfl (Ev.bin (Ev.bin (Ev.bin (Ev.name 0 rfl rfl) Ev.int Bin.add_int) (Ev.bin Ev.int (Ev.name 1 rfl rfl) (Bin.pow_int (by omega) (by rw [hb]; omega))) Bin.sub_int) (Ev.name 2 rfl rfl) (Bin.mul_int ?_))) ?_
    · exact IntMulOk.of_right (span_bits ⟨j, hj⟩)
    exact Ex.stop (Ex1.ret (Ev.range2 5 4 rfl rfl (g_list hK) (g_range hK) (.two (Ev.name 3 rfl rfl) (Ev.bin (Ev.name 3 rfl rfl) (Ev.name 2 rfl rfl) Bin.add_int)) hb2.1 hb2.2.1 hb2.2.2))
end
end Mine
end
section
open PySem PySem.W PyProof.Rows PySem.Calls PySem.Spec
set_option maxRecDepth 100000
set_option maxHeartbeats 0
namespace Mine
noncomputable def prS (rs : List (Str × Str)) : List (D × D) := rs.map fun r => (.str r.1, .str r.2)
noncomputable def rulesD (rs : List (Str × Str)) : List D := prD (prS rs)
theorem prS_at {rs : List (Str × Str)} {i : Nat} {p : D × D} (h : (prS rs)[i]? = some p) : ∃ r, rs[i]? = some r ∧ p = (.str r.1, .str r.2) := by
  unfold prS at h
  rw [List.getElem?_map] at h
  cases e : rs[i]? with
  | none => rw [e] at h; cases h
  | some r => rw [e] at h; cases h; exact ⟨r, rfl, rfl⟩
theorem prS_len (rs : List (Str × Str)) : (prS rs).length = rs.length := by simp [prS]
theorem rangeD_nts (n : Nat) : rangeD 0 1 ((n : Int)).toNat = nts (List.range n) := by
  unfold rangeD nts
  rw [Int.toNat_natCast]
  exact List.map_congr_left fun i _ => congrArg D.int (by omega)
noncomputable def hidK (c : Str) (ms : List Str) : List Nat := (List.range ms.length).filter fun k => isPriv c (ms.getD k e0)
noncomputable def inK (d : Str) (hs : List Str) : List Nat := (List.range hs.length).filter fun k => udm (hs.getD k e0) d
noncomputable def tIn3 (d : Str) (hs : List Str) : D → Bool
  | .int k => isD (.bool (udm (hs.getD k.toNat e0) d)) (.bool true)
  | _ => false
theorem isD_t (b : Bool) : isD (.bool b) (.bool true) = b := by cases b <;> rfl
theorem hidK_nts (c : Str) (ms : List Str) : ((nts (List.range ms.length)).filter (tHid c ms)).map (fun d => d) = nts (hidK c ms) := by
  unfold hidK
  rw [List.map_id']
  unfold nts
  rw [List.filter_map]
  refine congrArg (List.map _) (List.filter_congr fun x _ => ?_)
  show isD (.bool (isPriv c (ms.getD (x : Int).toNat e0))) (.bool true) = isPriv c (ms.getD x e0)
  rw [Int.toNat_natCast]; exact isD_t _
theorem inK_nts (d : Str) (hs : List Str) : ((nts (List.range hs.length)).filter (tIn3 d hs)).map (fun d => d) = nts (inK d hs) := by
  unfold inK
  rw [List.map_id']
  unfold nts
  rw [List.filter_map]
  refine congrArg (List.map _) (List.filter_congr fun x _ => ?_)
  show isD (.bool (udm (hs.getD (x : Int).toNat e0) d)) (.bool true) = udm (hs.getD x e0) d
  rw [Int.toNat_natCast]; exact isD_t _
noncomputable def tellStep (f : Str → List Nat) (kvs : List (Str × D)) (x : Str) : List (Str × D) := if (dget kvs x).isSome then kvs else dput kvs x (.list (nts (f x)))
noncomputable def tellW (f : Str → List Nat) (xs : List Str) : List (Str × D) := xs.foldl (tellStep f) []
theorem tellW_succ (f : Str → List Nat) {xs : List Str} {i : Nat} {x : Str} (h : xs[i]? = some x) : tellW f (xs.take (i + 1)) = tellStep f (tellW f (xs.take i)) x := by
  unfold tellW
  rw [List.take_add_one, h, List.foldl_append]; rfl
theorem tell_len (f : Str → List Nat) : ∀ (xs : List Str) (kvs : List (Str × D)), (xs.foldl (tellStep f) kvs).length ≤ kvs.length + xs.length
  | [], _ => by simp
  | x :: xs, kvs => by
    rw [List.foldl_cons]
    have h1 := tell_len f xs (tellStep f kvs x)
    have h2 : (tellStep f kvs x).length ≤ kvs.length + 1 := by
      unfold tellStep
      split
      · omega
      · exact dput_len _ _ _
    rw [List.length_cons]; omega
noncomputable def toldD (ms hs : List Str) (rs : List (Str × Str)) : D := .list [.dict (tellW (fun c => hidK c ms) (rs.map (·.1))), .dict (tellW (fun d => inK d hs) (rs.map (·.2)))]
section
variable {C : Cx} {P : Params}
theorem g_udm' (hK : C.K = hd.heap_39 P) : nsIn C.K mainGlobals (("user_domain_match" : Str)) = some (some (.ref 64)) := by rw [hK]; kernel_rfl
noncomputable def toldA (ms hs : List Str) (rs : List (Str × Str)) (t0 t1 : List (Str × D)) (c d : Str) : Rho := [some (0, .list (rulesD rs)), some (0, .list (sts ms)), some (0, .list (sts hs)), some (2, .list [.dict t0, .dict t1]), some (0, .str c), some (0, .str d), none, none]
noncomputable def toldI (ms hs : List Str) (rs : List (Str × Str)) (t0 t1 : List (Str × D)) : Rho := [some (0, .list (rulesD rs)), some (0, .list (sts ms)), some (0, .list (sts hs)), some (2, .list [.dict t0, .dict t1]), none, none, none, none]
theorem f_told (hK : C.K = hd.heap_39 P) (n : Nat) {ms hs : List Str} {rs : List (Str × Str)} (h9 : rs.length ≤ 900) (m9 : ms.length ≤ 900) (l9 : hs.length ≤ 900) (hc : ∀ r ∈ rs, r.1.length ≤ 1000 ∧ Tame r.2) (hm : ∀ m ∈ ms, m.length ≤ 1000) (hh : ∀ h ∈ hs, Tame h) : Fn C (n + 3) 116 [.list (rulesD rs), .list (sts ms), .list (sts hs)] (toldD ms hs rs) := by
  refine Fn.of_body (lk hK rfl) rfl rfl rfl (by rw [hK]; kernel_rfl) rfl rfl rfl (fun vs h => ?_) (NmOk.of (by kernel_rfl)) (by exact Nat.le_of_ble_eq_true rfl) ?_
  · obtain ⟨v0, v1, v2, rfl⟩ := len3 h; rfl
  refine Ex.seq (Ex1.assignF 3 rfl EvF.dicts2) ?_
  refine Ex.seq (Ex1.less (ρ' := toldI ms hs rs (tellW (fun c => hidK c ms) ((rs.map (·.1)).take 0)) (tellW (fun d => inK d hs) ((rs.map (·.2)).take 0))) (Ex1.forL2 (k := 0) (ds := prS rs) 4 5 (fun i => toldI ms hs rs (tellW (fun c => hidK c ms) ((rs.map (·.1)).take i)) (tellW (fun d => inK d hs) ((rs.map (·.2)).take i))) (Src2.pairs (Ev.name 0 rfl rfl)) rfl rfl (fun i p h => ?_)) ?_) ?_
  · obtain ⟨⟨c, d⟩, hr, rfl⟩ := prS_at h
    have hcd := hc _ (List.mem_of_getElem? hr)
    have hi := (List.getElem?_eq_some_iff.mp hr).1
    have e1 := tellW_succ (fun c => hidK c ms) (xs := rs.map (·.1)) (i := i) (x := c) (by rw [List.getElem?_map, hr]; rfl)
    have e2 := tellW_succ (fun d => inK d hs) (xs := rs.map (·.2)) (i := i) (x := d) (by rw [List.getElem?_map, hr]; rfl)
    have l1 : (tellW (fun c => hidK c ms) ((rs.map (·.1)).take i)).length ≤ 1000 := by unfold tellW; exact Nat.le_trans (tell_len _ _ []) (by rw [List.length_take, List.length_map, List.length_nil, Nat.zero_add]; exact Nat.le_trans (Nat.min_le_right _ _) (Nat.le_trans h9 (by decide)))
    have l2 : (tellW (fun d => inK d hs) ((rs.map (·.2)).take i)).length ≤ 1000 := by unfold tellW; exact Nat.le_trans (tell_len _ _ []) (by rw [List.length_take, List.length_map, List.length_nil, Nat.zero_add]; exact Nat.le_trans (Nat.min_le_right _ _) (Nat.le_trans h9 (by decide)))
    rw [e1, e2]
    generalize tellW (fun c => hidK c ms) ((rs.map (·.1)).take i) = t0 at *
    generalize tellW (fun d => inK d hs) ((rs.map (·.2)).take i) = t1 at *
    refine Ex.seq (ρ₁ := toldA ms hs rs (tellStep (fun c => hidK c ms) t0 c) t1 c d) ?_ (Ex.most (Ex.seq (ρ₁ := toldA ms hs rs (tellStep (fun c => hidK c ms) t0 c) (tellStep (fun d => inK d hs) t1 d) c d) ?_ Ex.nil) (.same (.same (.same (.same (.gone (.gone (.gone (.gone .nil)))))))))
    · cases e : (dget t0 c).isSome with
      | true =>
        have es : tellStep (fun c => hidK c ms) t0 c = t0 := by unfold tellStep; rw [e]; rfl
        rw [es]
        have e' : (!(dget t0 c).isSome) = false := by rw [e]; rfl
        exact Ex1.skip (e' ▸ Tst.cmp (Ev.name 4 rfl rfl) (Ev.sub (Ev.name 3 rfl rfl) Ev.int (Itm.own (i := 0) (by decide) (by decide) rfl)) (Cmp.notin_dict (by decide))) Ex.nil
      | false =>
        have e' : (!(dget t0 c).isSome) = true := by rw [e]; rfl
        have es : tellStep (fun c => hidK c ms) t0 c = dput t0 c (.list (nts (hidK c ms))) := by unfold tellStep; rw [e]; rfl
        rw [es]
        refine Ex1.take (e' ▸ Tst.cmp (Ev.name 4 rfl rfl) (Ev.sub (Ev.name 3 rfl rfl) Ev.int (Itm.own (i := 0) (by decide) (by decide) rfl)) (Cmp.notin_dict (by decide))) (Ex.most (Ex.seq (Ex1.put_dict (Plc.sub (j := 0) (Plc.name 3 rfl rfl) Ev.int (by decide) (by decide) rfl) (Ev.name 4 rfl rfl) (Ev.cast (congrArg D.list (hidK_nts c ms)) (Ev.comp (Comp1.filter1 [none, none, none, some 4, some 1] 1 (fun d => d) (tHid c ms) (.cast (rangeD_nts ms.length) (Src1.range1 6 rfl (g_range hK) (Ev.cast (congrArg D.int (by rw [sts_len])) (Ev.len_list 7 rfl (g_len hK) (Ev.name 1 rfl rfl) (by rw [sts_len]; omega))) (by omega) (by omega))) rfl (by kernel_rfl) (by kernel_rfl) rfl (fun e h => nomatch h) (fun x hx => ?_) (fun x hx ht => Ev.name 1 rfl rfl) (by rw [nts_len]; simp; omega)))) l1) Ex.nil) ?_)
        · obtain ⟨k, hk, rfl⟩ := nts_mem hx
          have hk9 : k < ms.length := by simpa using hk
          have hmk := getD_get (l := ms) (i := k) hk9
          have hml := hm _ (getD_in (l := ms) (i := k) hk9)
          exact Tst.cmp (Ev.call 2 rfl (g_private hK) (lk hK rfl) rfl (.two (Ev.name 3 rfl rfl) (Ev.sub (Ev.name 4 rfl rfl) (Ev.name 1 rfl rfl) (Itm.nat (by omega) (sts_get hmk)))) (f_private hK (n + 1) hcd.1 hml)) Ev.bool (Cmp.is rfl)
        · exact .same (.same (.same (.same (.same (.same (.gone (.gone .nil)))))))
    · cases e : (dget t1 d).isSome with
      | true =>
        have es : tellStep (fun d => inK d hs) t1 d = t1 := by unfold tellStep; rw [e]; rfl
        rw [es]
        have e' : (!(dget t1 d).isSome) = false := by rw [e]; rfl
        exact Ex1.skip (e' ▸ Tst.cmp (Ev.name 5 rfl rfl) (Ev.sub (Ev.name 3 rfl rfl) Ev.int (Itm.own (i := 1) (by decide) (by decide) rfl)) (Cmp.notin_dict (by decide))) Ex.nil
      | false =>
        have e' : (!(dget t1 d).isSome) = true := by rw [e]; rfl
        have es : tellStep (fun d => inK d hs) t1 d = dput t1 d (.list (nts (inK d hs))) := by unfold tellStep; rw [e]; rfl
        rw [es]
        refine Ex1.take (e' ▸ Tst.cmp (Ev.name 5 rfl rfl) (Ev.sub (Ev.name 3 rfl rfl) Ev.int (Itm.own (i := 1) (by decide) (by decide) rfl)) (Cmp.notin_dict (by decide))) (Ex.most (Ex.seq (Ex1.put_dict (Plc.sub (j := 1) (Plc.name 3 rfl rfl) Ev.int (by decide) (by decide) rfl) (Ev.name 5 rfl rfl) (Ev.cast (congrArg D.list (inK_nts d hs)) (Ev.comp (Comp1.filter1 [none, none, none, some 5, some 2] 1 (fun d => d) (tIn3 d hs) (.cast (rangeD_nts hs.length) (Src1.range1 6 rfl (g_range hK) (Ev.cast (congrArg D.int (by rw [sts_len])) (Ev.len_list 7 rfl (g_len hK) (Ev.name 2 rfl rfl) (by rw [sts_len]; omega))) (by omega) (by omega))) rfl (by kernel_rfl) (by kernel_rfl) rfl (fun e h => nomatch h) (fun x hx => ?_) (fun x hx ht => Ev.name 1 rfl rfl) (by rw [nts_len]; simp; omega)))) l2) Ex.nil) ?_)
        · obtain ⟨k, hk, rfl⟩ := nts_mem hx
          have hk9 : k < hs.length := by simpa using hk
          have hmk := getD_get (l := hs) (i := k) hk9
          have hml := hh _ (getD_in (l := hs) (i := k) hk9)
          exact Tst.cmp (Ev.call 2 rfl (g_udm' hK) (lk hK rfl) rfl (.two (Ev.sub (Ev.name 4 rfl rfl) (Ev.name 1 rfl rfl) (Itm.nat (by omega) (sts_get hmk))) (Ev.name 3 rfl rfl)) (f_udm hK n hml hcd.2)) Ev.bool (Cmp.is rfl)
        · exact .same (.same (.same (.same (.same (.same (.gone (.gone .nil)))))))
  · exact .same (.same (.same (.same (.gone (.gone (.gone (.gone .nil)))))))
  · refine Ex.stop (Ex1.retName (k := 2) 3 rfl ?_)
    show some (some (2, D.list [.dict (tellW (fun c => hidK c ms) ((rs.map (·.1)).take (prS rs).length)), .dict (tellW (fun d => inK d hs) ((rs.map (·.2)).take (prS rs).length))])) = _
    rw [prS_len, List.take_of_length_le (by simp), List.take_of_length_le (by simp)]; rfl
end
end Mine
end
section
open PySem PySem.W PyProof.Rows PySem.Calls PySem.Spec
set_option maxRecDepth 100000
set_option maxHeartbeats 0
namespace Mine
/-- the letters of a block: their bits -/
noncomputable def msk (a b : List Nat) : List Int := (a.map fun j => b.map fun k => (2 : Int) ^ (8 * j + k)).flatten
noncomputable def mask (a b : List Nat) : Int := isum (ins (msk a b))
theorem allInt_ins (l : List Int) : allInt (ins l) = true := by
  unfold ins
  induction l with
  | nil => rfl
  | cons x l ih => exact ih
noncomputable def gPw : D → D → D
  | .int j, .int k => .int ((2 : Int) ^ (8 * j + k).toNat)
  | _, _ => .none
theorem gPw_map (a b : List Nat) : ((nts a).map fun d => (nts b).map (gPw d)).flatten = ins (msk a b) := by
  unfold msk ins
  rw [List.map_flatten, List.map_map]
  unfold nts
  rw [List.map_map]
  congr 1
  apply List.map_congr_left
  intro j _
  show ((b.map fun (k : Nat) => D.int (k : Int)).map (gPw (.int (j : Int)))) = (b.map fun k => (2 : Int) ^ (8 * j + k)).map D.int
  rw [List.map_map, List.map_map]
  apply List.map_congr_left
  intro k _
  show D.int ((2 : Int) ^ (8 * (j : Int) + (k : Int)).toNat) = D.int ((2 : Int) ^ (8 * j + k))
  congr 2
noncomputable def gLet (A B : Str → List Nat) : D × D → D
  | (.str c, .str d) => .int (mask (A c) (B d))
  | _ => .none
theorem gLet_map (A B : Str → List Nat) (rs : List (Str × Str)) : (prS rs).map (gLet A B) = ins (rs.map fun r => mask (A r.1) (B r.2)) := by
  unfold prS ins
  rw [List.map_map, List.map_map]; rfl
/-- what the dictionaries tell of the rules -/
structure Tells (t0 t1 : List (Str × D)) (A B : Str → List Nat) (rs : List (Str × Str)) : Prop where
  cls : ∀ r ∈ rs, dget t0 r.1 = some (.list (nts (A r.1))) ∧ (A r.1).length ≤ 9 ∧ ∀ x ∈ A r.1, x < 9
  dom : ∀ r ∈ rs, dget t1 r.2 = some (.list (nts (B r.2))) ∧ (B r.2).length ≤ 9 ∧ ∀ x ∈ B r.2, x < 9
section
variable {C : Cx} {P : Params}
theorem g_sum (hK : C.K = hd.heap_39 P) : nsIn C.K mainGlobals (("sum" : Str)) = some Option.none := by rw [hK]; kernel_rfl
theorem f_letters (hK : C.K = hd.heap_39 P) (n : Nat) {t0 t1 : List (Str × D)} {A B : Str → List Nat} {rs : List (Str × Str)} (T : Tells t0 t1 A B rs) (h9 : rs.length ≤ 900) : Fn C (n + 1) 121 [.list (rulesD rs), .list [.dict t0, .dict t1]] (.list (ins (rs.map fun r => mask (A r.1) (B r.2)))) := by
  refine Fn.of_body (lk hK rfl) rfl rfl rfl (by rw [hK]; kernel_rfl) rfl rfl rfl (fun vs h => ?_) (NmOk.of (by kernel_rfl)) (by exact Nat.le_of_ble_eq_true rfl) ?_
  · obtain ⟨v0, v1, rfl⟩ := len2 h; rfl
  have hb : Builtin.Int.intBits 2 = 2 := by decide +kernel
  refine Ex.stop (Ex1.ret (Ev.cast (congrArg D.list (gLet_map A B rs)) (Ev.comp (Comp1.map2 (k := 0) [none, none, none, none, some 1] 1 2 (gLet A B) (Src2.pairs (Ev.name 0 rfl rfl)) rfl rfl (by kernel_rfl) (by kernel_rfl) rfl (fun e h => nomatch h) (fun e h => nomatch h) (fun p hp => ?_) (by rw [prS_len]; omega)))))
  obtain ⟨i, hi⟩ := List.getElem?_of_mem hp
  obtain ⟨⟨c, d⟩, hr, rfl⟩ := prS_at hi
  obtain ⟨q1, q2, q3⟩ := T.cls _ (List.mem_of_getElem? hr)
  obtain ⟨w1, w2, w3⟩ := T.dom _ (List.mem_of_getElem? hr)
  refine Ev.sum 3 rfl (g_sum hK) (Ev.cast (congrArg D.list (gPw_map (A c) (B d))) (Ev.comp2 (Comp2.map1 [none, none, none, some 2, some 4] 1 2 gPw (Src1.list (Ev.sub (Ev.sub (Ev.name 4 rfl rfl) Ev.int (Itm.list (i := 0) (by decide) (by decide) rfl)) (Ev.name 1 rfl rfl) (Itm.dict (Nat.zero_le _) q1))) rfl rfl (by kernel_rfl) (by kernel_rfl) rfl (fun e h => nomatch h) (fun d e h => nomatch h) (fun x hx => Src1.list (Ev.sub (Ev.sub (Ev.name 4 rfl rfl) Ev.int (Itm.list (i := 1) (by decide) (by decide) rfl)) (Ev.name 3 rfl rfl) (Itm.dict (Nat.zero_le _) w1))) (fun x hx y hy => ?_) ?_))) (allInt_ins _)
  · obtain ⟨j, hj, rfl⟩ := nts_mem hx
    obtain ⟨k, hk, rfl⟩ := nts_mem hy
    have hj9 := q3 j hj
    have hk9 := w3 k hk
    exact Ev.bin Ev.int (Ev.bin (Ev.bin Ev.int (Ev.name 1 rfl rfl) (Bin.mul_int (IntMulOk.of_left (by decide +kernel)))) (Ev.name 2 rfl rfl) Bin.add_int) (Bin.pow_int (by omega) (by rw [hb]; omega))
  · rw [nts_len, nts_len]
    have : (A c).length * (B d).length ≤ 9 * 9 := Nat.mul_le_mul q2 w2
    omega
end
end Mine
end
section
open PySem PySem.W PyProof.Rows PySem.Calls PySem.Spec
set_option maxRecDepth 100000
set_option maxHeartbeats 0
namespace Mine
noncomputable def moreAt (A : Str → List Nat) (os : List (Str × Str)) (ts : List Int) (r : Str × Str) (m : Int) : Int := isum (ins (((os.zip ts).filter fun p => decide ((A p.1.1).length < (A r.1).length)).map fun p => Builtin.bitAnd m p.2))
noncomputable def moreS (A : Str → List Nat) (os : List (Str × Str)) (ts : List Int) (rs : List (Str × Str)) (ls : List Int) : List Int := (rs.zip ls).map fun p => moreAt A os ts p.1 p.2
theorem zipRI {rs : List (Str × Str)} {ls : List Int} {i : Nat} {p : D × D} (h : ((rulesD rs).zip (ins ls))[i]? = some p) : ∃ r m, (rs.zip ls)[i]? = some (r, m) ∧ rs[i]? = some r ∧ p = (.tup [.str r.1, .str r.2], .int m) := by
  rw [List.getElem?_zip_eq_some] at h
  obtain ⟨h1, h2⟩ := h
  unfold rulesD prD prS at h1
  unfold ins at h2
  rw [List.getElem?_map, List.getElem?_map] at h1
  rw [List.getElem?_map] at h2
  cases e1 : rs[i]? with
  | none => rw [e1] at h1; cases h1
  | some r =>
    cases e2 : ls[i]? with
    | none => rw [e2] at h2; cases h2
    | some m =>
      rw [e1] at h1; rw [e2] at h2
      have x1 := Option.some.inj h1
      have x2 := Option.some.inj h2
      exact ⟨r, m, by rw [List.getElem?_zip_eq_some]; exact ⟨e1, e2⟩, rfl, Prod.ext x1.symm x2.symm⟩
theorem zipRI_mem {rs : List (Str × Str)} {ls : List Int} {p : D × D} (h : p ∈ (rulesD rs).zip (ins ls)) : ∃ r m, r ∈ rs ∧ p = (.tup [.str r.1, .str r.2], .int m) := by
  obtain ⟨i, hi⟩ := List.getElem?_of_mem h
  obtain ⟨r, m, _, hr, rfl⟩ := zipRI hi
  exact ⟨r, m, List.mem_of_getElem? hr, rfl⟩
noncomputable def tMor (A : Str → List Nat) (s : Nat) : D × D → Bool
  | (.tup (.str c :: _), _) => decide (((A c).length : Int) < (s : Int))
  | _ => false
noncomputable def gMor (m : Int) : D × D → D
  | (_, .int x) => .int (Builtin.bitAnd m x)
  | _ => .none
theorem gMor_map (A : Str → List Nat) (m : Int) (s : Nat) : ∀ (os : List (Str × Str)) (ts : List Int), (((rulesD os).zip (ins ts)).filter (tMor A s)).map (gMor m) = ins (((os.zip ts).filter fun p => decide ((A p.1.1).length < s)).map fun p => Builtin.bitAnd m p.2)
  | [], ts => rfl
  | o :: os, [] => rfl
  | o :: os, t :: ts => by
    have ih := gMor_map A m s os ts
    have e : (rulesD (o :: os)).zip (ins (t :: ts)) = (.tup [.str o.1, .str o.2], .int t) :: (rulesD os).zip (ins ts) := rfl
    have e2 : tMor A s (.tup [.str o.1, .str o.2], .int t) = decide ((A o.1).length < s) := by
      show decide (((A o.1).length : Int) < (s : Int)) = _
      rw [Bool.eq_iff_iff, decide_eq_true_eq, decide_eq_true_eq]; omega
    rw [e, List.zip_cons_cons, List.filter_cons, List.filter_cons, e2]
    cases hd : decide ((A o.1).length < s) with
    | true =>
      simp only [if_true, List.map_cons]
      rw [ih]; rfl
    | false =>
      simp only [Bool.false_eq_true, if_false]
      exact ih
theorem inter_off {nm : Names} {env : Env} (ok : EnvOk nm env) : interactive env = false := by
  unfold interactive
  rw [ok.kind]; rfl
/-- the dictionary tells of the rules' classes -/
noncomputable def TellsC (t0 : List (Str × D)) (A : Str → List Nat) (rs : List (Str × Str)) : Prop := ∀ r ∈ rs, dget t0 r.1 = some (.list (nts (A r.1))) ∧ (A r.1).length ≤ 9
section
variable {C : Cx} {P : Params}
noncomputable def morI (t0 t1 : List (Str × D)) (A : Str → List Nat) (os : List (Str × Str)) (ts : List Int) (rs : List (Str × Str)) (ls : List Int) (i : Nat) : Rho :=
  [some (0, .list (rulesD rs)), some (0, .list (ins ls)), some (0, .list (rulesD os)), some (0, .list (ins ts)), some (0, .list [.dict t0, .dict t1]), some (1, .list (ins (((rs.zip ls).take i).map fun p => moreAt A os ts p.1 p.2))), none, none, none, none, none, none]
theorem f_more (hK : C.K = hd.heap_39 P) (n : Nat) {t0 t1 : List (Str × D)} {A : Str → List Nat} {rs os : List (Str × Str)} {ls ts : List Int} (T1 : TellsC t0 A rs) (T2 : TellsC t0 A os) (h9 : rs.length ≤ 900) (h9' : os.length ≤ 900) (hl : rs.length = ls.length) (hl' : os.length = ts.length) :
    Fn C (n + 1) 126 [.list (rulesD rs), .list (ins ls), .list (rulesD os), .list (ins ts), .list [.dict t0, .dict t1]] (.list (ins (moreS A os ts rs ls))) := by
  refine Fn.of_body (lk hK rfl) rfl rfl rfl (by rw [hK]; kernel_rfl) rfl rfl rfl (fun vs h => ?_) (NmOk.of (by kernel_rfl)) (by exact Nat.le_of_ble_eq_true rfl) ?_
  · obtain ⟨v0, v1, v2, v3, v4, rfl⟩ := len5 h; rfl
  have rl : ∀ l : List (Str × Str), (rulesD l).length = l.length := fun l => by unfold rulesD; rw [prD_len, prS_len]
  have il : ∀ l : List Int, (ins l).length = l.length := fun l => by unfold ins; simp
  refine Ex.seq (Ex1.assignF 5 rfl (EvF.list .nil (by simp))) ?_
  refine Ex.seq (Ex1.less (ρ' := morI t0 t1 A os ts rs ls 0) (Ex1.forL2 (k := 0) (ds := (rulesD rs).zip (ins ls)) 6 7 (morI t0 t1 A os ts rs ls) (Src2.zip 9 rfl (g_zip hK) (.two (Ev.name 0 rfl rfl) (Ev.name 1 rfl rfl)) (by rw [rl, il, hl])) rfl rfl (fun i p h => ?_)) ?_) ?_
  · obtain ⟨r, m, hz, hr, rfl⟩ := zipRI h
    obtain ⟨q1, q2⟩ := T1 r (List.mem_of_getElem? hr)
    have hi := (List.getElem?_eq_some_iff.mp hz).1
    have es : ((rs.zip ls).take (i + 1)).map (fun p => moreAt A os ts p.1 p.2) = ((rs.zip ls).take i).map (fun p => moreAt A os ts p.1 p.2) ++ [moreAt A os ts r m] := by
      rw [List.take_add_one, hz, List.map_append]; rfl
    have lm : (((rs.zip ls).take i).map fun p => moreAt A os ts p.1 p.2).length ≤ 1000 := by rw [List.length_map, List.length_take]; rw [List.length_zip] at hi; omega
    unfold morI
    rw [es]
    generalize ((rs.zip ls).take i).map (fun p => moreAt A os ts p.1 p.2) = acc at lm ⊢
    refine Ex.seq (Ex1.assign 8 rfl (Ev.cast (d' := .int ((A r.1).length : Int)) (congrArg D.int (by rw [nts_len])) (Ev.len_list 10 rfl (g_len hK) (Ev.sub (Ev.sub (Ev.name 4 rfl rfl) Ev.int (Itm.list (i := 0) (by decide) (by decide) rfl)) (Ev.sub (Ev.name 6 rfl rfl) Ev.int (Itm.tup (i := 0) (by decide) (by decide) rfl)) (Itm.dict (Nat.zero_le _) q1)) (by rw [nts_len]; omega)))) ?_
    refine Ex.most (Ex.seq (Ex1.append (Plc.name 5 rfl rfl) (Ev.sum 11 rfl (g_sum hK) (Ev.cast (congrArg D.list (gMor_map A m (A r.1).length os ts)) (Ev.comp (Comp1.filter2 (k := 0) [none, none, none, none, some 7, some 8, some 4] 1 2 (gMor m) (tMor A (A r.1).length) (Src2.zip 9 rfl (g_zip hK) (.two (Ev.name 2 rfl rfl) (Ev.name 3 rfl rfl)) (by rw [rl, il, hl'])) rfl rfl (by kernel_rfl) (by kernel_rfl) rfl (fun e h => nomatch h) (fun e h => nomatch h) (fun x hx => ?_) (fun x hx ht => ?_) (by rw [List.length_zip, rl, il]; omega)))) (allInt_ins _)) (by rw [il]; exact lm) (hi := fun env ok => inter_off ok)) Ex.nil) ?_
    · obtain ⟨o, t, ho, rfl⟩ := zipRI_mem hx
      obtain ⟨w1, w2⟩ := T2 o ho
      exact Tst.cmp (Ev.cast (d' := .int ((A o.1).length : Int)) (congrArg D.int (by rw [nts_len])) (Ev.len_list 3 rfl (g_len hK) (Ev.sub (Ev.sub (Ev.name 6 rfl rfl) Ev.int (Itm.list (i := 0) (by decide) (by decide) rfl)) (Ev.sub (Ev.name 1 rfl rfl) Ev.int (Itm.tup (i := 0) (by decide) (by decide) rfl)) (Itm.dict (Nat.zero_le _) w1)) (by rw [nts_len]; omega))) (Ev.name 5 rfl rfl) Cmp.lt
    · obtain ⟨o, t, ho, rfl⟩ := zipRI_mem hx
      exact Ev.bin (Ev.name 4 rfl rfl) (Ev.name 2 rfl rfl) Bin.and_int
    · unfold ins
      rw [List.map_append]
      exact .same (.same (.same (.same (.same (.same (.gone (.gone (.gone (.gone (.gone (.gone .nil)))))))))))
  · exact .same (.same (.same (.same (.same (.same (.gone (.gone (.gone (.gone (.gone (.gone .nil)))))))))))
  · refine Ex.stop (Ex1.retName (k := 1) 5 rfl ?_)
    show some (some (1, D.list (ins (((rs.zip ls).take ((rulesD rs).zip (ins ls)).length).map fun p => moreAt A os ts p.1 p.2)))) = _
    unfold moreS
    rw [List.take_of_length_le (by rw [List.length_zip, List.length_zip, rl, il]; exact Nat.le_refl _)]
end
end Mine
end
section
open PySem PySem.W PyProof.Rows PySem.Calls PySem.Spec
set_option maxRecDepth 100000
set_option maxHeartbeats 0
namespace Mine
noncomputable def e2p : Str × Str := (e0, e0)
noncomputable def sd (s : Nat) (r : Str × Str) : Str := if s = 0 then r.1 else r.2
noncomputable def two (s : Nat) (a b : List (Str × D)) : List (Str × D) := if s = 0 then a else b
noncomputable def mkR (s : Nat) (a w : Str) : Str × Str := if s = 1 then (a, w) else (w, a)
noncomputable def ruD (r : Str × Str) : D := .tup [.str r.1, .str r.2]
theorem rulesD_eq (rs : List (Str × Str)) : rulesD rs = rs.map ruD := by unfold rulesD prD prS ruD; rw [List.map_map]; rfl
theorem rulesD_get {rs : List (Str × Str)} {k : Nat} (h : k < rs.length) : (rulesD rs)[k]? = some (ruD (rs.getD k e2p)) := by
  rw [rulesD_eq, List.getElem?_map, List.getD_eq_getElem?_getD, List.getElem?_eq_getElem h]; rfl
theorem rule_in {rs : List (Str × Str)} {k : Nat} (h : k < rs.length) : rs.getD k e2p ∈ rs := by
  rw [List.getD_eq_getElem?_getD, List.getElem?_eq_getElem h]; exact List.getElem_mem h
theorem rulesD_set (rs : List (Str × Str)) (k : Nat) (r : Str × Str) : (rulesD rs).set k (ruD r) = rulesD (rs.set k r) := by rw [rulesD_eq, rulesD_eq, List.map_set]
theorem rulesD_len (rs : List (Str × Str)) : (rulesD rs).length = rs.length := by rw [rulesD_eq, List.length_map]
theorem sd_get (r : Str × Str) : ∀ s, s < 2 → [D.str r.1, D.str r.2][s]? = some (.str (sd s r))
  | 0, _ | 1, _ => rfl
theorem two_get (a b : List (Str × D)) : ∀ s, s < 2 → [D.dict a, D.dict b][s]? = some (.dict (two s a b))
  | 0, _ | 1, _ => rfl
/-- the rules with which the one at p can be turned -/
noncomputable def matesT (W : Str → Str) (rs : List (Str × Str)) (p s : Nat) : List Nat :=
  (List.range 8).filter fun k => decide (k ≠ p) && (decide (sd (1 - s) (rs.getD k e2p) = sd (1 - s) (rs.getD p e2p)) && decide (W (sd s (rs.getD k e2p)) = W (sd s (rs.getD p e2p))))
noncomputable def tTur (W : Str → Str) (rs : List (Str × Str)) (p s : Nat) : D → Bool
  | .int k => (!eqD (.int k) (.int (p : Int))) && (eqD (.str (sd (1 - s) (rs.getD k.toNat e2p))) (.str (sd (1 - s) (rs.getD p e2p))) && (eqD (.str (W (sd s (rs.getD k.toNat e2p)))) (.str (W (sd s (rs.getD p e2p)))) && true))
  | _ => false
theorem mates_nts (W : Str → Str) (rs : List (Str × Str)) (p s : Nat) : (i8.filter (tTur W rs p s)).map (fun d => d) = nts (matesT W rs p s) := by
  have e : i8 = nts (List.range 8) := rfl
  unfold matesT
  rw [e, List.map_id']
  unfold nts
  rw [List.filter_map]
  refine congrArg (List.map _) (List.filter_congr fun x _ => ?_)
  show ((!eqD (.int (x : Int)) (.int (p : Int))) && (eqD (.str (sd (1 - s) (rs.getD (x : Int).toNat e2p))) (.str (sd (1 - s) (rs.getD p e2p))) && (eqD (.str (W (sd s (rs.getD (x : Int).toNat e2p)))) (.str (W (sd s (rs.getD p e2p)))) && true))) = _
  rw [Int.toNat_natCast, eqD_int, eqD_str, eqD_str, Bool.and_true]
  have : decide ((x : Int) = (p : Int)) = decide (x = p) := by rw [Bool.eq_iff_iff]; simp; omega
  rw [this, ← decide_not]
noncomputable def turnS (W : Str → Str) (rs : List (Str × Str)) (p s : Nat) (a b : Str) : Option (List (Str × Str)) := match matesT W rs p s with
  | [] => none
  | m :: _ => some ((rs.set p (mkR s a (W (sd s (rs.getD p e2p))))).set m (mkR s b (W (sd s (rs.getD p e2p)))))
noncomputable def turnD : Option (List (Str × Str)) → D
  | none => .none
  | some l => .list (rulesD l)
theorem flats_nts' (l : List Nat) (k : Nat) : flats k (nts l) = true := by
  rw [flats_iff]
  intro d hd
  obtain ⟨x, _, rfl⟩ := nts_mem hd
  cases k <;> rfl
theorem mates_lt {W : Str → Str} {rs : List (Str × Str)} {p s m : Nat} (h : m ∈ matesT W rs p s) : m < 8 := by
  have := (List.mem_filter.mp h).1
  simpa using this
theorem Itm.tupN {C : Cx} {ds : List D} {k : Nat} {d : D} (hk : k < 1000000) (e : ds[k]? = some d) : Itm C 0 (.tup ds) (.int (k : Int)) 0 d := Itm.tup (Int.natCast_nonneg k) (Int.ofNat_lt.mpr hk) (by rw [Int.toNat_natCast]; exact e)
section
variable {C : Cx} {P : Params}
theorem f_turned (hK : C.K = hd.heap_39 P) (n : Nat) {rs : List (Str × Str)} (h8 : rs.length = 8) {p s : Nat} (hp : p < 8) (hs : s < 2) {o0 o1 h0 h1 : List (Str × D)} {W : Str → Str} {a b : Str} (hO : ∀ r ∈ rs, dget (two s o0 o1) (sd s r) = some (.str (W (sd s r)))) (hH : matesT W rs p s ≠ [] → dget (two (1 - s) h0 h1) (sd (1 - s) (rs.getD p e2p)) = some (.list [.str a, .str b])) :
    Fn C (n + 1) 104 [.list (rulesD rs), .int (p : Int), .int (s : Int), .list [.dict o0, .dict o1], .list [.dict h0, .dict h1]] (turnD (turnS W rs p s a b)) := by
  refine Fn.of_body (lk hK rfl) rfl rfl rfl (by rw [hK]; kernel_rfl) rfl rfl rfl (fun vs h => ?_) (NmOk.of (by kernel_rfl)) (by exact Nat.le_of_ble_eq_true rfl) ?_
  · obtain ⟨v0, v1, v2, v3, v4, rfl⟩ := len5 h; rfl
  have e1s : ((1 : Int) - (s : Int)).toNat = 1 - s := by omega
  have p6 : p < 1000000 := lt6 hp (by decide)
  have s6 : s < 1000000 := lt6 hs (by decide)
  have j0 : (0 : Int) ≤ 1 - (s : Int) := by omega
  have j1 : (1 : Int) - (s : Int) < 1000000 := by omega
  have h1s : 1 - s < 2 := Nat.lt_of_le_of_lt (Nat.sub_le _ _) (by decide)
  have gp := rulesD_get (rs := rs) (k := p) (by rw [h8]; exact hp)
  have gO := hO _ (rule_in (rs := rs) (k := p) (by rw [h8]; exact hp))
  refine Ex.seq (Ex1.assign 5 rfl (Ev.sub (Ev.name 0 rfl rfl) (Ev.name 1 rfl rfl) (Itm.nat p6 gp))) ?_
  refine Ex.seq (Ex1.assign 6 rfl (Ev.sub (Ev.sub (Ev.name 3 rfl rfl) (Ev.name 2 rfl rfl) (Itm.nat s6 (two_get o0 o1 s hs))) (Ev.sub (Ev.name 5 rfl rfl) (Ev.name 2 rfl rfl) (Itm.tupN s6 (sd_get _ s hs))) (Itm.dict (Nat.zero_le _) gO))) ?_
  refine Ex.seq (Ex1.assignComp 7 rfl (Comp1.filter1 [none, none, some 5, some 3, some 1, some 0, some 2, some 6] 1 (fun d => d) (tTur W rs p s) (.cast r8 (Src1.range1 10 rfl (g_range hK) Ev.int (by decide) (by decide))) rfl (by kernel_rfl) (by kernel_rfl) rfl (fun e h => nomatch h) (fun d hd => ?_) (fun d hd ht => Ev.name 1 rfl rfl) (by simp))) ?_
  · obtain ⟨k, hk, rfl⟩ := i8_mem hd
    have gk := rulesD_get (rs := rs) (k := k) (by rw [h8]; exact hk)
    have gOk := hO _ (rule_in (rs := rs) (k := k) (by rw [h8]; exact hk))
    refine Tst.all (.andCons (Tst.cmp (Ev.name 1 rfl rfl) (Ev.name 4 rfl rfl) (Cmp.ne rfl rfl)) fun _ => .andCons (Tst.cmp (Ev.sub (Ev.sub (Ev.name 5 rfl rfl) (Ev.name 1 rfl rfl) (Itm.nat (lt6 hk (by decide)) gk)) (Ev.bin Ev.int (Ev.name 6 rfl rfl) Bin.sub_int) (Itm.tup j0 j1 (by rw [e1s]; exact sd_get _ _ h1s))) (Ev.sub (Ev.name 2 rfl rfl) (Ev.bin Ev.int (Ev.name 6 rfl rfl) Bin.sub_int) (Itm.tup j0 j1 (by rw [e1s]; exact sd_get _ _ h1s))) (Cmp.eq rfl rfl)) fun _ => .andCons (Tst.cmp (Ev.sub (Ev.sub (Ev.name 3 rfl rfl) (Ev.name 6 rfl rfl) (Itm.nat s6 (two_get o0 o1 s hs))) (Ev.sub (Ev.sub (Ev.name 5 rfl rfl) (Ev.name 1 rfl rfl) (Itm.nat (lt6 hk (by decide)) gk)) (Ev.name 6 rfl rfl) (Itm.tupN s6 (sd_get _ s hs))) (Itm.dict (Nat.zero_le _) gOk)) (Ev.name 7 rfl rfl) (Cmp.eq rfl rfl)) fun _ => .andNil)
  rw [mates_nts]
  generalize hw : W (sd s (rs.getD p e2p)) = w at *
  unfold turnS
  rw [hw]
  have flm : D.flat 60 (.list (nts (matesT W rs p s))) = true := flats_nts' _ _
  cases em : matesT W rs p s with
  | nil => 
    refine Ex.stop (Ex1.take (Tst.cmp (Ev.name 7 rfl rfl) (Ev.list .nil (by simp)) (Cmp.eq rfl rfl)) (Ex.stop (Ex1.ret Ev.none)))
  | cons m l =>
    have hm8 : m < 8 := mates_lt (W := W) (rs := rs) (p := p) (s := s) (by rw [em]; exact List.mem_cons_self ..)
    have gH := hH (by rw [em]; simp)
    rw [em] at flm
    have tn : eqD (.list (nts (m :: l))) (.list []) = false := by
      show PyData.eqv (.list (pys (nts (m :: l)))) (.list []) = false
      show PyData.eqv (.list (PyData.int (m : Int) :: pys (nts l))) (.list []) = false
      simp only [PyData.eqv, PyData.eqvAll]
    have ifx : ∀ {ρ : Rho} {x : Str} {i : Int} {p₁ p₂ p₃ p₄ p₅ p₆ p₇ p₈ p₉ p₁₀ p₁₁ p₁₂ p₁₃ p₁₄ : Pos} {q q' q'' k k' : Nat} {nm : Names}, nm[2]? = some (Str.ofString "side", NameKind.cell) → nm[6]? = some (Str.ofString "wide", NameKind.cell) → nm[8]? = some (Str.ofString "parts", NameKind.local) → ρ[2]? = some (some (0, .int (s : Int))) → ρ[6]? = some (some (0, .str w)) → ρ[8]? = some (some (0, .list [.str a, .str b])) → 0 ≤ i → i < 1000000 → [D.str a, D.str b][i.toNat]? = some (.str x) →
        Ev C n nm ρ (.IfExp (.Compare (.Name (Str.ofString "side") p₁) [.Eq] [.Constant (.int 1) q p₂] p₃) (.Tuple [.Subscript (.Name (Str.ofString "parts") p₄) (.Constant (.int i) q' p₅) p₆, .Name (Str.ofString "wide") p₇] k p₈) (.Tuple [.Name (Str.ofString "wide") p₉, .Subscript (.Name (Str.ofString "parts") p₁₀) (.Constant (.int i) q'' p₁₁) p₁₂] k' p₁₃) p₁₄) 0 (ruD (mkR s x w)) := fun a1 a2 a3 a4 a5 a6 i0 i1 ix => by
      refine Ev.ifexp (Tst.cmp (Ev.name 2 a1 a4) Ev.int (Cmp.eq rfl rfl)) (fun h => ?_) (fun h => ?_)
      · rw [eqD_int] at h
        have : s = 1 := by have := of_decide_eq_true h; omega
        subst this
        exact Ev.tup (.two (Ev.sub (Ev.name 8 a3 a6) Ev.int (Itm.list i0 i1 ix)) (Ev.name 6 a2 a5)) (by simp)
      · rw [eqD_int] at h
        have : s = 0 := by have := of_decide_eq_false h; omega
        subst this
        exact Ev.tup (.two (Ev.name 6 a2 a5) (Ev.sub (Ev.name 8 a3 a6) Ev.int (Itm.list i0 i1 ix))) (by simp)
    refine Ex.seq (Ex1.skip (tn ▸ Tst.cmp (Ev.name 7 rfl rfl) (Ev.list .nil (by simp)) (Cmp.eq flm rfl)) Ex.nil) ?_
    refine Ex.seq (Ex1.assign 8 rfl (Ev.sub (Ev.sub (Ev.name 4 rfl rfl) (Ev.bin Ev.int (Ev.name 2 rfl rfl) Bin.sub_int) (Itm.list j0 j1 (by rw [e1s]; exact two_get h0 h1 _ h1s))) (Ev.sub (Ev.name 5 rfl rfl) (Ev.bin Ev.int (Ev.name 2 rfl rfl) Bin.sub_int) (Itm.tup j0 j1 (by rw [e1s]; exact sd_get _ _ h1s))) (Itm.dict (Nat.zero_le _) gH))) ?_
    refine Ex.seq (Ex1.assignF 9 rfl (EvF.copy 11 rfl (g_list hK) (.one (Ev.name 0 rfl rfl)) (by rw [rulesD_len, h8]; decide))) ?_
    have rl8 : (rulesD rs).length = 8 := by rw [rulesD_len, h8]
    refine Ex.seq (Ex1.put_list (Plc.name 9 rfl rfl) (Ev.name 1 rfl rfl) (ifx rfl rfl rfl rfl rfl rfl (show (0 : Int) ≤ 0 by decide) (show (0 : Int) < 1000000 by decide) rfl) (by omega) (by omega) (by omega)) ?_
    refine Ex.seq (Ex1.put_list (Plc.name 9 rfl rfl) (Ev.sub (Ev.name 7 rfl rfl) Ev.int (Itm.list (i := 0) (d := .int (m : Int)) (by decide) (by decide) rfl)) (ifx rfl rfl rfl rfl rfl rfl (show (0 : Int) ≤ 1 by decide) (show (1 : Int) < 1000000 by decide) rfl) (by omega) (by omega) (by rw [List.length_set]; omega)) ?_
    refine Ex.stop (Ex1.retName (k := 1) 9 rfl ?_)
    show some (some (1, D.list (((rulesD rs).set ((p : Int)).toNat (ruD (mkR s a w))).set ((m : Int)).toNat (ruD (mkR s b w))))) = _
    rw [Int.toNat_natCast, Int.toNat_natCast, rulesD_set, rulesD_set]; rfl
end
end Mine
end
section
open PySem PySem.W PyProof.Rows PySem.Calls PySem.Spec
set_option maxRecDepth 100000
set_option maxHeartbeats 0
namespace Mine
/-- a rule turned, if it can be -/
noncomputable def turnT (W : Nat → Str → Str) (PT : Nat → Str → Str × Str) (rs : List (Str × Str)) (p s : Nat) : Option (List (Str × Str)) :=
  turnS (W s) rs p s (PT (1 - s) (sd (1 - s) (rs.getD p e2p))).1 (PT (1 - s) (sd (1 - s) (rs.getD p e2p))).2
/-- what is asked of the lists of rules that are turned -/
structure TurnOk (o0 o1 h0 h1 : List (Str × D)) (W : Nat → Str → Str) (PT : Nat → Str → Str × Str) (G : List (Str × Str) → Prop) : Prop where
  len : ∀ rs, G rs → rs.length = 8
  ov : ∀ rs, G rs → ∀ s, s < 2 → ∀ r ∈ rs, dget (two s o0 o1) (sd s r) = some (.str (W s (sd s r)))
  hv : ∀ rs, G rs → ∀ p, p < 8 → ∀ s, s < 2 → matesT (W s) rs p s ≠ [] → dget (two (1 - s) h0 h1) (sd (1 - s) (rs.getD p e2p)) = some (.list [.str (PT (1 - s) (sd (1 - s) (rs.getD p e2p))).1, .str (PT (1 - s) (sd (1 - s) (rs.getD p e2p))).2])
  step : ∀ rs, G rs → ∀ p, p < 8 → ∀ s, s < 2 → ∀ l, turnT W PT rs p s = some l → G l
section
variable {W : Nat → Str → Str} {PT : Nat → Str → Str × Str}
noncomputable def stpX (W : Nat → Str → Str) (PT : Nat → Str → Str × Str) (rs : List (Str × Str)) (x : Int) : List (Str × Str) := (turnT W PT rs (x.fmod 8).toNat ((x.fdiv 8).fmod 2).toNat).getD rs
noncomputable def lst2 (l0 l1 : List (Str × Str)) : List D := [.list (rulesD l0), .list (rulesD l1)]
/-- the two lists after i deeds -/
noncomputable def wkS (W : Nat → Str → Str) (PT : Nat → Str → Str × Str) (b0 b1 : List (Str × Str)) (xs : List Int) : Nat → List (Str × Str) × List (Str × Str)
  | 0 => (b0, b1)
  | i + 1 => if i % 2 = 0 then (stpX W PT (wkS W PT b0 b1 xs i).1 (xs.getD i 0), (wkS W PT b0 b1 xs i).2) else ((wkS W PT b0 b1 xs i).1, stpX W PT (wkS W PT b0 b1 xs i).2 (xs.getD i 0))
theorem mod2 (x : Int) : 0 ≤ x.fmod 2 ∧ x.fmod 2 < 2 := ⟨Int.fmod_nonneg_of_pos _ (by decide), Int.fmod_lt_of_pos _ (by decide)⟩
theorem stpX_ok {o0 o1 h0 h1 : List (Str × D)} {G : List (Str × Str) → Prop} (O : TurnOk o0 o1 h0 h1 W PT G) {rs : List (Str × Str)} (g : G rs) (x : Int) : G (stpX W PT rs x) := by
  unfold stpX
  have m8 := mod8 x
  have m2 := mod2 (x.fdiv 8)
  cases e : turnT W PT rs (x.fmod 8).toNat ((x.fdiv 8).fmod 2).toNat with
  | none => exact g
  | some l => exact O.step rs g _ (by omega) _ (by omega) l e
theorem wkS_ok {o0 o1 h0 h1 : List (Str × D)} {G : List (Str × Str) → Prop} (O : TurnOk o0 o1 h0 h1 W PT G) {b0 b1 : List (Str × Str)} (g0 : G b0) (g1 : G b1) (xs : List Int) : ∀ i, G (wkS W PT b0 b1 xs i).1 ∧ G (wkS W PT b0 b1 xs i).2
  | 0 => ⟨g0, g1⟩
  | i + 1 => by
    obtain ⟨a, b⟩ := wkS_ok O g0 g1 xs i
    unfold wkS
    by_cases e : i % 2 = 0
    · rw [if_pos e]; exact ⟨stpX_ok O a _, b⟩
    · rw [if_neg e]; exact ⟨a, stpX_ok O b _⟩
end
noncomputable def pick (j : Nat) (l0 l1 : List (Str × Str)) : List (Str × Str) := if j = 0 then l0 else l1
theorem pick_get (l0 l1 : List (Str × Str)) : ∀ j, j < 2 → (lst2 l0 l1)[j]? = some (.list (rulesD (pick j l0 l1)))
  | 0, _ | 1, _ => rfl
theorem pick_set (l0 l1 : List (Str × Str)) : ∀ j, j < 2 → (lst2 l0 l1).set j (.list (rulesD (pick j l0 l1))) = lst2 l0 l1
  | 0, _ | 1, _ => rfl
theorem pick_put (l0 l1 l : List (Str × Str)) : ∀ j, j < 2 → (lst2 l0 l1).set j (.list (rulesD l)) = lst2 (if j = 0 then l else l0) (if j = 0 then l1 else l)
  | 0, _ | 1, _ => rfl
theorem cut_ins (l : List Int) (k : Nat) : cut (ins l) Option.none (some (k : Int)) = ins (l.take k) := by
  unfold cut ins; simp [List.map_take]
noncomputable def deeds (ns : List Int) : List Int := [8, 0, 10, 2, 8, 0, 13, 6] ++ ns.take 12
theorem numI {xs : List Int} {i : Nat} {p : D × D} (h : (numD (ins xs))[i]? = some p) : i < xs.length ∧ p = (.int (i : Int), .int (xs.getD i 0)) := by
  unfold numD ins at h
  rw [List.getElem?_mapIdx, List.getElem?_map] at h
  cases e : xs[i]? with
  | none => rw [e] at h; cases h
  | some x =>
    rw [e] at h; cases h
    exact ⟨(List.getElem?_eq_some_iff.mp e).1, by rw [List.getD_eq_getElem?_getD, e]; rfl⟩
section
variable {C : Cx} {P : Params}
theorem g_turned (hK : C.K = hd.heap_39 P) : nsIn C.K mainGlobals (("_law_turned" : Str)) = some (some (.ref 104)) := by rw [hK]; kernel_rfl
noncomputable def wkI (ns : List Int) (l0 l1 : List (Str × Str)) (o h : D) : Rho := [some (0, .list (ins ns)), some (1, .list (lst2 l0 l1)), some (0, o), some (0, h), none, none, none, none, none]
noncomputable def wkJ (W : Nat → Str → Str) (PT : Nat → Str → Str × Str) (ns : List Int) (b0 b1 : List (Str × Str)) (o h : D) (i : Nat) : Rho := wkI ns (wkS W PT b0 b1 (deeds ns) i).1 (wkS W PT b0 b1 (deeds ns) i).2 o h
theorem f_walked (hK : C.K = hd.heap_39 P) (n : Nat) {ns : List Int} {o0 o1 h0 h1 : List (Str × D)} {W : Nat → Str → Str} {PT : Nat → Str → Str × Str} {G : List (Str × Str) → Prop} (O : TurnOk o0 o1 h0 h1 W PT G) {b0 b1 : List (Str × Str)} (g0 : G b0) (g1 : G b1) (hn : ns.length ≤ 900) :
    FnMv C (n + 2) 111 (.list (ins ns)) (lst2 b0 b1) (.list [.dict o0, .dict o1]) (.list [.dict h0, .dict h1]) (lst2 (wkS W PT b0 b1 (deeds ns) (deeds ns).length).1 (wkS W PT b0 b1 (deeds ns) (deeds ns).length).2) := by
  have sz : sizeLine = 16777216 := by decide +kernel
  have il : ∀ l : List Int, (ins l).length = l.length := fun l => by unfold ins; simp
  have nl : (numD (ins (deeds ns))).length = (deeds ns).length := by simp [numD, il]
  refine FnMv.of_body (ρ' := wkJ W PT ns b0 b1 (.list [.dict o0, .dict o1]) (.list [.dict h0, .dict h1]) (numD (ins (deeds ns))).length) (lk hK rfl) rfl rfl rfl (by rw [hK]; kernel_rfl) rfl rfl rfl (fun vs h => ?_) (NmOk.of (by kernel_rfl)) (by exact Nat.le_of_ble_eq_true rfl) (.inl rfl) ?_ ?_
  · obtain ⟨v0, v1, v2, v3, rfl⟩ := len4 h; rfl
  · refine Ex1.less (ρ' := wkJ W PT ns b0 b1 (.list [.dict o0, .dict o1]) (.list [.dict h0, .dict h1]) 0) (Ex1.forL2 (k := 0) (ds := numD (ins (deeds ns))) 4 5 (wkJ W PT ns b0 b1 (.list [.dict o0, .dict o1]) (.list [.dict h0, .dict h1])) (Src2.enumerate 7 rfl (g_enum hK) (Ev.cast (d' := .list (ins (deeds ns))) rfl (Ev.bin (Ev.list (ds := ins [8, 0, 10, 2, 8, 0, 13, 6]) (.cons Ev.int ns_Constant (.cons Ev.int ns_Constant (.cons Ev.int ns_Constant (.cons Ev.int ns_Constant (.cons Ev.int ns_Constant (.cons Ev.int ns_Constant (.cons Ev.int ns_Constant (.cons Ev.int ns_Constant .nil)))))))) (by decide)) (Ev.cast (congrArg D.list (cut_ins ns 12)) (Ev.slice_list (Ev.name 0 rfl rfl) .none (.some Ev.int) (fun _ h => nomatch h) (fun _ h => by cases h; decide) (by rw [il]; omega))) (Bin.add_list (by rw [il, il]; simp; omega))))) rfl rfl (fun i p h => ?_)) ?_
    · obtain ⟨hi, rfl⟩ := numI h
      obtain ⟨G0, G1⟩ := wkS_ok O g0 g1 (deeds ns) i
      unfold wkJ
      conv => rhs; unfold wkS
      generalize (deeds ns).getD i 0 = x
      generalize wkS W PT b0 b1 (deeds ns) i = l at *
      obtain ⟨l0, l1⟩ := l
      have m8 := mod8 x
      have m2 := mod2 (x.fdiv 8)
      have hj : i % 2 < 2 := Nat.mod_lt _ (by decide)
      have ej : (i : Int).fmod 2 = ((i % 2 : Nat) : Int) := by rw [Int.fmod_eq_emod_of_nonneg _ (by decide)]; rfl
      have ep : x.fmod 8 = (((x.fmod 8).toNat : Nat) : Int) := (Int.toNat_of_nonneg m8.1).symm
      have es : (x.fdiv 8).fmod 2 = ((((x.fdiv 8).fmod 2).toNat : Nat) : Int) := (Int.toNat_of_nonneg m2.1).symm
      have hp8 : (x.fmod 8).toNat < 8 := by omega
      have hs2 : ((x.fdiv 8).fmod 2).toNat < 2 := by omega
      have Gc : G (pick (i % 2) l0 l1) := by unfold pick; split <;> assumption
      have goal_eq : ∀ o h : D, wkI ns (if i % 2 = 0 then (stpX W PT (l0, l1).1 x, (l0, l1).2) else ((l0, l1).1, stpX W PT (l0, l1).2 x)).1 (if i % 2 = 0 then (stpX W PT (l0, l1).1 x, (l0, l1).2) else ((l0, l1).1, stpX W PT (l0, l1).2 x)).2 o h = [some (0, .list (ins ns)), some (1, .list ((lst2 l0 l1).set (i % 2) (.list (rulesD (stpX W PT (pick (i % 2) l0 l1) x))))), some (0, o), some (0, h), none, none, none, none, none] := fun o h => by
        rw [pick_put _ _ _ _ hj]
        unfold wkI pick
        by_cases e : i % 2 = 0
        · simp only [if_pos e]
        · simp only [if_neg e]
      rw [goal_eq]
      have gl := pick_get l0 l1 (i % 2) hj
      have cl := O.len _ Gc
      have ft := f_turned hK n (rs := pick (i % 2) l0 l1) cl hp8 hs2 (O.ov _ Gc _ hs2) (O.hv _ Gc _ hp8 _ hs2)
      have et : stpX W PT (pick (i % 2) l0 l1) x = (turnT W PT (pick (i % 2) l0 l1) (x.fmod 8).toNat ((x.fdiv 8).fmod 2).toNat).getD (pick (i % 2) l0 l1) := rfl
      rw [et]
      refine Ex.seq (Ex1.assign 6 rfl (Ev.call 8 rfl (g_turned hK) (lk hK rfl) rfl (.cons (Ev.sub (Ev.name 1 rfl rfl) (Ev.bin (Ev.name 4 rfl rfl) Ev.int (Bin.mod_int (by decide))) (Itm.own (by rw [ej]; omega) (by rw [ej]; omega) (by rw [ej, Int.toNat_natCast]; exact gl))) ns_Subscript (.cons (Ev.cast (congrArg D.int ep) (Ev.bin (Ev.name 5 rfl rfl) Ev.int (Bin.mod_int (by decide)))) ns_BinOp (.cons (Ev.cast (congrArg D.int es) (Ev.bin (Ev.bin (Ev.name 5 rfl rfl) Ev.int (Bin.fdiv_int (by decide) (by decide))) Ev.int (Bin.mod_int (by decide)))) ns_BinOp (.cons (Ev.name 2 rfl rfl) ns_Name (.cons (Ev.name 3 rfl rfl) ns_Name .nil))))) ft)) ?_
      unfold turnT
      cases e : turnS (W ((x.fdiv 8).fmod 2).toNat) (pick (i % 2) l0 l1) (x.fmod 8).toNat ((x.fdiv 8).fmod 2).toNat (PT (1 - ((x.fdiv 8).fmod 2).toNat) (sd (1 - ((x.fdiv 8).fmod 2).toNat) ((pick (i % 2) l0 l1).getD (x.fmod 8).toNat e2p))).1 (PT (1 - ((x.fdiv 8).fmod 2).toNat) (sd (1 - ((x.fdiv 8).fmod 2).toNat) ((pick (i % 2) l0 l1).getD (x.fmod 8).toNat e2p))).2 with
      | none =>
        rw [show (none : Option (List (Str × Str))).getD (pick (i % 2) l0 l1) = pick (i % 2) l0 l1 from rfl, pick_set _ _ _ hj]
        refine Ex.most (Ex.seq (Ex1.skip (Tst.cmp (Ev.name 6 rfl rfl) Ev.none (Cmp.isnot rfl)) Ex.nil) Ex.nil) ?_
        exact .same (.same (.same (.same (.gone (.gone (.gone (.gone (.gone .nil))))))))
      | some l =>
        rw [show (some l).getD (pick (i % 2) l0 l1) = l from rfl]
        refine Ex.most (Ex.seq (Ex1.take (Tst.cmp (Ev.name 6 rfl rfl) Ev.none (Cmp.isnot rfl)) (Ex.seq (Ex1.put_list (Plc.name 1 rfl rfl) (Ev.cast (congrArg D.int ej) (Ev.bin (Ev.name 4 rfl rfl) Ev.int (Bin.mod_int (by decide)))) (Ev.name 6 rfl rfl) (by omega) (by omega) (by show ((i % 2 : Nat) : Int) < ((lst2 l0 l1).length : Int); simp [lst2]; omega)) Ex.nil)) Ex.nil) ?_
        exact .same (.same (.same (.same (.gone (.gone (.gone (.gone (.gone .nil))))))))
    · exact .same (.same (.same (.same (.gone (.gone (.gone (.gone (.gone .nil))))))))
  · show some (some (1, D.list (lst2 (wkS W PT b0 b1 (deeds ns) (numD (ins (deeds ns))).length).1 (wkS W PT b0 b1 (deeds ns) (numD (ins (deeds ns))).length).2))) = _
    rw [nl]
end
end Mine
end
section
open PySem PySem.W PyProof.Rows PySem.Calls PySem.Spec
set_option maxRecDepth 100000
set_option maxHeartbeats 0
namespace Mine
theorem eqD_ru (r r' : Str × Str) : eqD (ruD r) (ruD r') = decide (r = r') := by
  obtain ⟨a, b⟩ := r
  obtain ⟨c, d⟩ := r'
  show PyData.eqv (.tuple [.str a, .str b]) (.tuple [.str c, .str d]) = _
  simp only [PyData.eqv, PyData.eqvAll]
  rw [Bool.eq_iff_iff]
  simp
theorem any_ru (l : List (Str × Str)) (r : Str × Str) : anyEq (rulesD l) (ruD r) = decide (r ∈ l) := by
  rw [rulesD_eq]
  unfold anyEq
  rw [List.any_map]
  induction l with
  | nil => rfl
  | cons x l ih =>
    rw [List.any_cons, ih]
    show (eqD (ruD x) (ruD r) || decide (r ∈ l)) = _
    rw [eqD_ru, Bool.eq_iff_iff, Bool.or_eq_true, decide_eq_true_eq, decide_eq_true_eq, decide_eq_true_eq, List.mem_cons]
    exact ⟨fun h => h.imp Eq.symm id, fun h => h.imp Eq.symm id⟩
theorem flat_ru (r : Str × Str) (k : Nat) : D.flat (k + 2) (ruD r) = true := by rfl
theorem flats_ru (l : List (Str × Str)) (k : Nat) : flats (k + 2) (rulesD l) = true := by
  rw [flats_iff, rulesD_eq]
  intro d hd
  obtain ⟨x, _, rfl⟩ := List.mem_map.mp hd
  exact flat_ru x k
/-- the rules that the goal hasn't, from the place on -/
noncomputable def waysS (goal rs : List (Str × Str)) (p : Nat) : List Nat := ((List.range 8).map fun i => (p + i) % 8).filter fun k => decide (rs.getD k e2p ∉ goal)
theorem waysS_lt {goal rs : List (Str × Str)} {p k : Nat} (h : k ∈ waysS goal rs p) : k < 8 := by
  have := (List.mem_filter.mp h).1
  obtain ⟨i, _, rfl⟩ := List.mem_map.mp this
  exact Nat.mod_lt _ (by decide)
section
variable (W : Nat → Str → Str) (PT : Nat → Str → Str × Str)
noncomputable def firstUp (rs : List (Str × Str)) (ks : List Nat) : Option (List (Str × Str)) := ks.findSome? fun k => turnT W PT rs k 1
noncomputable def raiseS (goal : List (Str × Str)) (p : Nat) : Nat → Nat → List (Str × Str) → D
  | 0, _, _ => .none
  | f + 1, t, rs => if waysS goal rs p = [] then .int (t : Int) else match firstUp W PT rs (waysS goal rs p) with
    | none => .none
    | some l => raiseS goal p f (t + 1) l
end
theorem rangeD_at2 (p : Nat) {d : D} (h : d ∈ rangeD (p : Int) 1 ((p : Int) + 8 - (p : Int)).toNat) : ∃ i : Nat, i < 8 ∧ d = .int ((p + i : Nat) : Int) := by
  obtain ⟨i, hi⟩ := List.getElem?_of_mem h
  have hlt := (List.getElem?_eq_some_iff.mp hi).1
  have e := rangeD_at hi
  have : i < 8 := by
    have : (rangeD (p : Int) 1 ((p : Int) + 8 - (p : Int)).toNat).length = 8 := by simp [rangeD]; omega
    omega
  exact ⟨i, this, by rw [e]; exact congrArg D.int (by omega)⟩
noncomputable def tWay (goal rs : List (Str × Str)) : D → Bool
  | .int k => !anyEq (rulesD goal) (ruD (rs.getD (k.fmod 8).toNat e2p))
  | _ => false
noncomputable def gWay : D → D
  | .int k => .int (k.fmod 8)
  | d => d
theorem ways_nts (goal rs : List (Str × Str)) (p : Nat) : ((rangeD (p : Int) 1 ((p : Int) + 8 - (p : Int)).toNat).filter (tWay goal rs)).map gWay = nts (waysS goal rs p) := by
  have e8 : ((p : Int) + 8 - (p : Int)).toNat = 8 := by omega
  have e : rangeD (p : Int) 1 ((p : Int) + 8 - (p : Int)).toNat = (List.range 8).map fun i => .int ((p + i : Nat) : Int) := by
    unfold rangeD
    rw [e8]
    exact List.map_congr_left fun i _ => congrArg D.int (by omega)
  have fm : ∀ i : Nat, ((p + i : Nat) : Int).fmod 8 = (((p + i) % 8 : Nat) : Int) := fun i => by rw [Int.fmod_eq_emod_of_nonneg _ (by decide)]; rfl
  unfold waysS nts
  rw [e, List.filter_map, List.filter_map, List.map_map, List.map_map]
  have ef : (List.range 8).filter (tWay goal rs ∘ fun i => D.int ((p + i : Nat) : Int)) = (List.range 8).filter ((fun k => decide (rs.getD k e2p ∉ goal)) ∘ fun i => (p + i) % 8) := by
    apply List.filter_congr
    intro i _
    show (!anyEq (rulesD goal) (ruD (rs.getD (((p + i : Nat) : Int).fmod 8).toNat e2p))) = decide (rs.getD ((p + i) % 8) e2p ∉ goal)
    rw [fm, Int.toNat_natCast, any_ru, ← decide_not]
  rw [ef]
  apply List.map_congr_left
  intro i _
  show D.int (((p + i : Nat) : Int).fmod 8) = D.int (((p + i) % 8 : Nat) : Int)
  rw [fm]
section
variable {C : Cx} {n : Nat} {nm : Names} {σ : Type}
noncomputable def loopS (step : Nat → σ → σ ⊕ D) : Nat → Nat → σ → Option D
  | 0, _, _ => none
  | f + 1, i, s => match step i s with
    | .inl s' => loopS step f (i + 1) s'
    | .inr d => some d
noncomputable def outS (inv : σ → Rho) : σ ⊕ D → Out
  | .inl s => .next (inv s)
  | .inr d => .ret d
theorem for_state {body : List Stmt} {N : Nat} {bind : Nat → Rho → Rho} (inv : σ → Rho) (step : Nat → σ → σ ⊕ D) (Gd : σ → Prop) (h : ∀ i s, i < N → Gd s → Ex C n nm (bind i (inv s)) body (outS inv (step i s)) ∧ ∀ s', step i s = .inl s' → Gd s') :
    ∀ f i s, i + f = N → Gd s → ∃ ρ', ForRun C n nm bind body N i (inv s) (outOf ρ' (loopS step f i s))
  | 0, i, s, e, g => by
    have : i = N := by omega
    subst this; exact ⟨_, .done⟩
  | f + 1, i, s, e, g => by
    obtain ⟨h1, h2⟩ := h i s (by omega) g
    unfold loopS
    cases hs : step i s with
    | inr d => rw [hs] at h1; exact ⟨inv s, .ret (by omega) h1⟩
    | inl s' =>
      rw [hs] at h1
      obtain ⟨ρ', r⟩ := for_state inv step Gd h f (i + 1) s' (by omega) (h2 s' hs)
      exact ⟨ρ', .turn (by omega) h1 r⟩
/-- a for with a state, which may give back something, and what stands behind -/
theorem Ex.loop {iter : Expr} {body rest : List Stmt} {x : Str} {kd : NameKind} {px pos : Pos} {ds : List D} {dr : D} (p : Nat) (inv : σ → Rho) (step : Nat → σ → σ ⊕ D) (Gd : σ → Prop) {s0 : σ} (src : Src1 C n nm (inv s0) iter ds) (hp : nm[p]? = some (x, kd)) (g0 : Gd s0) (h : ∀ i d s, ds[i]? = some d → Gd s → Ex C n nm ((inv s).set p (some (0, d))) body (outS inv (step i s)) ∧ ∀ s', step i s = .inl s' → Gd s') (hr : ∀ ρ', Ex C n nm ρ' rest (.ret dr)) (hk : kd = .local ∨ kd = .cell := by first | exact .inl rfl | exact .inr rfl) (hs : ∀ env x, foldedSetIterable iter env x = pure x := by intro _ _; rfl) :
    Ex C n nm (inv s0) (.For (.Name x px) iter body [] pos :: rest) (.ret ((loopS step ds.length 0 s0).getD dr)) := by
  obtain ⟨ρ', run⟩ := for_state (C := C) (n := n) (nm := nm) (body := body) (N := ds.length) (bind := fun i ρ => ρ.set p (some (0, getD ds i))) inv step Gd (fun i s hi g => h i (getD ds i) s (by unfold getD; rw [List.getElem?_eq_getElem hi]; rfl) g) ds.length 0 s0 (by omega) g0
  cases e : loopS step ds.length 0 s0 with
  | some d => rw [e] at run; exact Ex.stop (Ex1.for_ (.of1 src p hp hk) run hs)
  | none => rw [e] at run; exact Ex.seq (Ex1.for_ (.of1 src p hp hk) run hs) (hr _)
end
noncomputable def raiStep (W : Nat → Str → Str) (PT : Nat → Str → Str × Str) (goal : List (Str × Str)) (p : Nat) (t : Nat) (rs : List (Str × Str)) : List (Str × Str) ⊕ D :=
  if waysS goal rs p = [] then .inr (.int (t : Int)) else match firstUp W PT rs (waysS goal rs p) with
    | none => .inr .none
    | some l => .inl l
theorem raise_loop (W : Nat → Str → Str) (PT : Nat → Str → Str × Str) (goal : List (Str × Str)) (p : Nat) : ∀ f t rs, (loopS (raiStep W PT goal p) f t rs).getD .none = raiseS W PT goal p f t rs
  | 0, t, rs => rfl
  | f + 1, t, rs => by
    unfold loopS raiseS raiStep
    by_cases h : waysS goal rs p = []
    · simp only [if_pos h]; rfl
    · simp only [if_neg h]
      cases e : firstUp W PT rs (waysS goal rs p) with
      | none => rfl
      | some l => exact raise_loop W PT goal p f (t + 1) l
section
variable {C : Cx} {P : Params}
noncomputable def raiI (rs goal : List (Str × Str)) (p : Nat) (o h : D) : Rho := [some (0, .list (rulesD rs)), some (0, .list (rulesD goal)), some (0, .int (p : Int)), some (0, o), some (0, h), none, none, none, none, none, none]
noncomputable def raiR (W : Nat → Str → Str) (PT : Nat → Str → Str × Str) (rs goal : List (Str × Str)) (p : Nat) (o h : D) (t : Int) (ws : List Nat) (i : Nat) : Rho := [some (0, .list (rulesD rs)), some (0, .list (rulesD goal)), some (0, .int (p : Int)), some (0, o), some (0, h), some (0, .int t), none, some (0, .list (nts ws)), some (0, turnD (firstUp W PT rs (ws.take i))), none, none]
theorem f_raised (hK : C.K = hd.heap_39 P) (n : Nat) {o0 o1 h0 h1 : List (Str × D)} {W : Nat → Str → Str} {PT : Nat → Str → Str × Str} {G : List (Str × Str) → Prop} (O : TurnOk o0 o1 h0 h1 W PT G) {rs goal : List (Str × Str)} (g : G rs) (hg : goal.length ≤ 900) {p : Nat} (hp : p < 8) :
    Fn C (n + 2) 136 [.list (rulesD rs), .list (rulesD goal), .int (p : Int), .list [.dict o0, .dict o1], .list [.dict h0, .dict h1]] (raiseS W PT goal p 13 0 rs) := by
  refine Fn.of_body (lk hK rfl) rfl rfl rfl (by rw [hK]; kernel_rfl) rfl rfl rfl (fun vs h => ?_) (NmOk.of (by kernel_rfl)) (by exact Nat.le_of_ble_eq_true rfl) ?_
  · obtain ⟨v0, v1, v2, v3, v4, rfl⟩ := len5 h; rfl
  refine Ex.cast (congrArg Out.ret (raise_loop W PT goal p 13 0 rs)) (Ex.less (ρ' := raiI rs goal p (.list [.dict o0, .dict o1]) (.list [.dict h0, .dict h1])) (Ex.loop (σ := List (Str × Str)) (ds := rangeD 0 1 (13 : Int).toNat) 5 (fun rs => raiI rs goal p (.list [.dict o0, .dict o1]) (.list [.dict h0, .dict h1])) (raiStep W PT goal p) G (Src1.range1 9 rfl (g_range hK) Ev.int (by decide) (by decide)) rfl g (fun t d rs hd g => ⟨?_, ?_⟩) fun ρ' => Ex.stop (Ex1.ret Ev.none)) ?_)
  · have hd' := rangeD_at hd
    subst hd'
    have l8 := O.len rs g
    refine Ex.seq (Ex1.assignComp 7 rfl (Comp1.filter1 [none, none, some 1, some 0] 1 gWay (tWay goal rs) (Src1.range2 9 rfl (g_range hK) (Ev.name 2 rfl rfl) (Ev.bin (Ev.name 2 rfl rfl) Ev.int Bin.add_int) (by omega) (by omega) (by omega)) rfl (by kernel_rfl) (by kernel_rfl) rfl (fun e h => nomatch h) (fun d hd => ?_) (fun d hd ht => ?_) (by simp [rangeD]; omega))) ?_
    · obtain ⟨i, hi, rfl⟩ := rangeD_at2 p hd
      have m8 := mod8 ((p + i : Nat) : Int)
      exact Tst.cmp (Ev.sub (Ev.name 3 rfl rfl) (Ev.bin (Ev.name 1 rfl rfl) Ev.int (Bin.mod_int (by decide))) (Itm.list (by omega) (by omega) (rulesD_get (by omega)))) (Ev.name 2 rfl rfl) (Cmp.notin_list (flat_ru _ 48) (flats_ru _ 48))
    · obtain ⟨i, hi, rfl⟩ := rangeD_at2 p hd
      exact Ev.bin (Ev.name 1 rfl rfl) Ev.int (Bin.mod_int (by decide))
    rw [ways_nts]
    have hlt : ∀ k ∈ waysS goal rs p, k < 8 := fun k hk => waysS_lt hk
    unfold raiStep
    generalize waysS goal rs p = ws at *
    have et : (0 : Int) + (t : Int) * 1 = (t : Int) := by omega
    cases ws with
    | nil =>
      rw [if_pos rfl]
      exact Ex.stop (Ex1.take (Tst.cmp (Ev.name 7 rfl rfl) (Ev.list .nil (by simp)) (Cmp.eq rfl rfl)) (Ex.stop (Ex1.ret (Ev.cast (congrArg D.int et) (Ev.name 5 rfl rfl)))))
    | cons k ks =>
      rw [if_neg (by simp)]
      have tn : eqD (.list (nts (k :: ks))) (.list []) = false := by
        show PyData.eqv (.list (PyData.int (k : Int) :: pys (nts ks))) (.list []) = false
        simp only [PyData.eqv, PyData.eqvAll]
      refine Ex.seq (Ex1.skip (tn ▸ Tst.cmp (Ev.name 7 rfl rfl) (Ev.list .nil (by simp)) (Cmp.eq (flats_nts' _ _) rfl)) Ex.nil) ?_
      refine Ex.seq (Ex1.assign 8 rfl Ev.none) ?_
      generalize k :: ks = ws at *
      have gw : ∀ l, firstUp W PT rs ws = some l → G l := fun l hl => by
        obtain ⟨k, hk, e⟩ := List.exists_of_findSome?_eq_some hl
        exact O.step rs g k (hlt k hk) 1 (by decide) l e
      have gw2 : ∀ i l, firstUp W PT rs (ws.take i) = some l → G l := fun i l hl => by
        obtain ⟨k, hk, e⟩ := List.exists_of_findSome?_eq_some hl
        exact O.step rs g k (hlt k (List.mem_of_mem_take hk)) 1 (by decide) l e
      have hlw : (nts ws).length = ws.length := nts_len ws
      refine Ex.seq (Ex1.less (ρ' := raiR W PT rs goal p (.list [.dict o0, .dict o1]) (.list [.dict h0, .dict h1]) (0 + (t : Int) * 1) ws 0) (Ex1.forL (ds := nts ws) 6 (raiR W PT rs goal p (.list [.dict o0, .dict o1]) (.list [.dict h0, .dict h1]) (0 + (t : Int) * 1) ws) (Src1.list (Ev.name 7 rfl rfl)) rfl (fun i d h => ?_)) ?_) ?_
      · obtain ⟨k, hk, rfl⟩ := nts_at h
        have hk8 := hlt k (List.mem_of_getElem? hk)
        have ft := f_turned hK n (rs := rs) l8 hk8 (s := 1) (by decide) (O.ov _ g _ (by decide)) (O.hv _ g _ hk8 _ (by decide))
        have es : firstUp W PT rs (ws.take (i + 1)) = (match firstUp W PT rs (ws.take i) with | some l => some l | none => turnT W PT rs k 1) := by
          unfold firstUp
          rw [List.take_add_one, hk, List.findSome?_append]
          cases (ws.take i).findSome? fun k => turnT W PT rs k 1 with
          | some l => rfl
          | none =>
            show ([k].findSome? fun k => turnT W PT rs k 1) = turnT W PT rs k 1
            rw [List.findSome?_cons]
            cases turnT W PT rs k 1 <;> rfl
        unfold raiR
        rw [es]
        cases ef : firstUp W PT rs (ws.take i) with
        | some l =>
          have lt : (!(rulesD l).isEmpty) = true := by
            have := O.len l (gw2 i l ef)
            cases l with
            | nil => cases this
            | cons => rfl
          refine Ex.most (Ex.seq (Ex1.assign 8 rfl (Ev.cast (d' := turnD (some l)) (by rw [lt]; rfl) (Ev.or2 (Ev.name 8 rfl rfl) (Tru.list (by rw [rulesD_len, O.len l (gw2 i l ef)]; decide)) (fun hb => absurd hb (by rw [lt]; decide)) (d' := .none)))) Ex.nil) ?_
          exact .same (.same (.same (.same (.same (.same (.gone (.same (.same (.gone (.gone .nil))))))))))
        | none =>
          refine Ex.most (Ex.seq (Ex1.assign 8 rfl (Ev.cast (d := if false then .none else turnD (turnT W PT rs k 1)) rfl (Ev.or2 (Ev.name 8 rfl rfl) Tru.none fun _ => Ev.call 10 rfl (g_turned hK) (lk hK rfl) rfl (.cons (Ev.name 0 rfl rfl) ns_Name (.cons (Ev.name 6 rfl rfl) ns_Name (.cons Ev.int ns_Constant (.cons (Ev.name 3 rfl rfl) ns_Name (.cons (Ev.name 4 rfl rfl) ns_Name .nil))))) ft))) Ex.nil) ?_
          exact .same (.same (.same (.same (.same (.same (.gone (.same (.same (.gone (.gone .nil))))))))))
      · exact .same (.same (.same (.same (.same (.same (.gone (.same (.same (.gone (.gone .nil))))))))))
      · have ew : firstUp W PT rs (ws.take (nts ws).length) = firstUp W PT rs ws := by rw [hlw, List.take_length]
        unfold raiR
        rw [ew]
        cases ef : firstUp W PT rs ws with
        | none =>
          exact Ex.stop (Ex1.take (Tst.cmp (Ev.name 8 rfl rfl) Ev.none (Cmp.is rfl)) (Ex.stop (Ex1.ret Ev.none)))
        | some l =>
          refine Ex.seq (Ex1.skip (Tst.cmp (Ev.name 8 rfl rfl) Ev.none (Cmp.is rfl)) Ex.nil) ?_
          refine Ex.most (Ex.seq (Ex1.assign 0 rfl (Ev.name 8 rfl rfl)) Ex.nil) ?_
          exact .same (.same (.same (.same (.same (.gone (.gone (.gone (.gone (.gone (.gone .nil))))))))))
  · intro l hl
    unfold raiStep at hl
    split at hl
    · cases hl
    · split at hl
      · cases hl
      · rename_i e
        cases hl
        obtain ⟨k, hk, e⟩ := List.exists_of_findSome?_eq_some e
        exact O.step rs g k (waysS_lt hk) 1 (by decide) l e
  · exact .same (.same (.same (.same (.same (.gone (.gone (.gone (.gone (.gone (.gone .nil))))))))))
end
end Mine
end
section
open PySem PySem.W PyProof.Rows PySem.Calls PySem.Spec
set_option maxRecDepth 100000
set_option maxHeartbeats 0
namespace Mine
noncomputable def ABs (s : Nat) (A B : Str → List Nat) (x : Str) : List Nat := if s = 0 then A x else B x
noncomputable def boxS (s : Nat) (names hosts : List Nat) : List Nat := if s = 0 then names else hosts
noncomputable def leftS (s : Nat) (half names hosts : List Nat) : List Nat × List Nat := if s = 0 then (half, hosts) else (names, half)
noncomputable def insS (s : Nat) (A B : Str → List Nat) (half : List Nat) (rs : List (Str × Str)) : List (Str × Str) := rs.filter fun r => half.contains ((ABs s A B (sd s r)).getD 0 0)
/-- the rules of a box can be asked for by halves -/
inductive Ask (A B : Str → List Nat) : Nat → List (Str × Str) → List Nat → List Nat → Prop
  | one {k : Nat} {r : Str × Str} : Ask A B k [r] (A r.1) (B r.2)
  | split {k : Nat} {rs : List (Str × Str)} {names hosts : List Nat} (s : Nat) : s < 2 → rs.length ≠ 1 → (s = 1 → names.length ∈ rs.map fun r => (A r.1).length) → (boxS s names hosts).length ∉ (rs.map fun r => (ABs s A B (sd s r)).length) →
      2 * (insS s A B ((boxS s names hosts).take ((boxS s names hosts).length / 2)) rs).length = rs.length → 2 * (insS s A B ((boxS s names hosts).drop ((boxS s names hosts).length / 2)) rs).length = rs.length →
      Ask A B k (insS s A B ((boxS s names hosts).take ((boxS s names hosts).length / 2)) rs) (leftS s ((boxS s names hosts).take ((boxS s names hosts).length / 2)) names hosts).1 (leftS s ((boxS s names hosts).take ((boxS s names hosts).length / 2)) names hosts).2 →
      Ask A B k (insS s A B ((boxS s names hosts).drop ((boxS s names hosts).length / 2)) rs) (leftS s ((boxS s names hosts).drop ((boxS s names hosts).length / 2)) names hosts).1 (leftS s ((boxS s names hosts).drop ((boxS s names hosts).length / 2)) names hosts).2 →
      Ask A B (k + 1) rs names hosts
noncomputable def TellsS (t0 t1 : List (Str × D)) (A B : Str → List Nat) (rs : List (Str × Str)) : Prop := ∀ s, s < 2 → ∀ r ∈ rs, dget (two s t0 t1) (sd s r) = some (.list (nts (ABs s A B (sd s r)))) ∧ (ABs s A B (sd s r)).length ≤ 9 ∧ 0 < (ABs s A B (sd s r)).length
theorem eqD_nts (l : List Nat) : eqD (.list (nts l)) (.list (nts l)) = true := by
  show PyData.eqv (.list (pys (nts l))) (.list (pys (nts l))) = true
  simp only [PyData.eqv]
  induction l with
  | nil => rfl
  | cons x l ih =>
    show PyData.eqvAll (.int (x : Int) :: pys (nts l)) (.int (x : Int) :: pys (nts l)) = true
    simp only [PyData.eqvAll, PyData.eqv, beq_self_eq_true, Bool.true_and]
    exact ih
noncomputable def gLen (s : Nat) (A B : Str → List Nat) : D → D
  | .tup (.str c :: .str d :: _) => .int (((ABs s A B (sd s (c, d))).length : Nat) : Int)
  | _ => .none
theorem anyEq_nts' (l : List Nat) (y : Nat) : anyEq (nts l) (.int (y : Int)) = l.contains y := by
  unfold anyEq nts
  rw [List.any_map]
  induction l with
  | nil => rfl
  | cons x l ih =>
    rw [List.any_cons, List.contains_cons, ih]
    congr 1
    show eqD (.int (x : Int)) (.int (y : Int)) = (y == x)
    rw [eqD_int, Bool.eq_iff_iff]
    simp; omega
theorem gLen_map (s : Nat) (A B : Str → List Nat) (rs : List (Str × Str)) : (rulesD rs).map (gLen s A B) = nts (rs.map fun r => (ABs s A B (sd s r)).length) := by
  rw [rulesD_eq]; unfold nts; rw [List.map_map, List.map_map]; rfl
noncomputable def tIns (s : Nat) (A B : Str → List Nat) (half : List Nat) : D → Bool
  | .tup (.str c :: .str d :: _) => anyEq (nts half) (.int (((ABs s A B (sd s (c, d))).getD 0 0 : Nat) : Int))
  | _ => false
theorem tIns_map (s : Nat) (A B : Str → List Nat) (half : List Nat) (rs : List (Str × Str)) : ((rulesD rs).filter (tIns s A B half)).map (fun d => d) = rulesD (insS s A B half rs) := by
  rw [List.map_id', rulesD_eq, rulesD_eq]
  unfold insS
  rw [List.filter_map]
  refine congrArg (List.map _) (List.filter_congr fun r _ => ?_)
  show anyEq (nts half) (.int (((ABs s A B (sd s r)).getD 0 0 : Nat) : Int)) = _
  exact anyEq_nts' half _
theorem ru_mem {rs : List (Str × Str)} {d : D} (h : d ∈ rulesD rs) : ∃ r ∈ rs, d = ruD r := by
  rw [rulesD_eq] at h
  obtain ⟨r, hr, rfl⟩ := List.mem_map.mp h
  exact ⟨r, hr, rfl⟩
theorem insS_sub {s : Nat} {A B : Str → List Nat} {half : List Nat} {rs : List (Str × Str)} {r : Str × Str} (h : r ∈ insS s A B half rs) : r ∈ rs := (List.mem_filter.mp h).1
section
variable {C : Cx} {P : Params}
theorem g_asked (hK : C.K = hd.heap_39 P) : nsIn C.K mainGlobals (("_law_asked" : Str)) = some (some (.ref 131)) := by rw [hK]; kernel_rfl
noncomputable abbrev askNm : Names := [(Str.ofString "rules", .local), (Str.ofString "told", .cell), (Str.ofString "names", .local), (Str.ofString "hosts", .local), (Str.ofString "side", .cell), (Str.ofString "box", .local), (Str.ofString "half", .cell), (Str.ofString "inside", .local), (Str.ofString "left", .local), (Str.ofString "len", .globalImplicit), (Str.ofString "enumerate", .globalImplicit), (Str.ofString "_law_asked", .globalImplicit)]
noncomputable def askR (rs : List (Str × Str)) (t0 t1 : List (Str × D)) (names hosts : List Nat) (a b c : Option (Nat × D)) : Rho := [some (0, .list (rulesD rs)), some (0, .list [.dict t0, .dict t1]), some (0, .list (nts names)), some (0, .list (nts hosts)), a, b, c, none, none, none, none, none]
theorem ask_one (hK : C.K = hd.heap_39 P) {t0 t1 : List (Str × D)} {A B : Str → List Nat} (n : Nat) {r : Str × Str} (T : TellsS t0 t1 A B [r]) : Fn C (n + 1) 131 [.list (rulesD [r]), .list [.dict t0, .dict t1], .list (nts (A r.1)), .list (nts (B r.2))] (.bool true) := by
  refine Fn.of_body (lk hK rfl) rfl rfl rfl (by rw [hK]; kernel_rfl) rfl rfl rfl (fun vs h => ?_) (NmOk.of (by kernel_rfl)) (by exact Nat.le_of_ble_eq_true rfl) ?_
  · obtain ⟨v0, v1, v2, v3, rfl⟩ := len4 h; rfl
  have q0 := (T 0 (by decide) r (List.mem_cons_self ..)).1
  have q1 := (T 1 (by decide) r (List.mem_cons_self ..)).1
  have t1' : eqD (.int (((rulesD [r]).length : Nat) : Int)) (.int 1) = true := by rw [eqD_int]; rfl
  refine Ex.stop (Ex1.take (t1' ▸ Tst.cmp (Ev.len_list 9 rfl (g_len hK) (Ev.name 0 rfl rfl) (by rw [rulesD_len]; simp)) Ev.int (Cmp.eq rfl rfl)) (Ex.stop (Ex1.ret ?_)))
  have e0 := eqD_nts (A r.1)
  have e1 := eqD_nts (B r.2)
  have fin : (if eqD (.list (nts (A r.1))) (.list (nts (A r.1))) then D.bool (eqD (.list (nts (B r.2))) (.list (nts (B r.2)))) else D.bool (eqD (.list (nts (A r.1))) (.list (nts (A r.1))))) = .bool true := by rw [e0, e1]; rfl
  exact Ev.cast fin (Ev.and2 (Ev.cmp (Ev.sub (Ev.sub (Ev.name 1 rfl rfl) Ev.int (Itm.list (i := 0) (by decide) (by decide) rfl)) (Ev.sub (Ev.sub (Ev.name 0 rfl rfl) Ev.int (Itm.list (i := 0) (d := ruD r) (by decide) (by decide) rfl)) Ev.int (Itm.tup (i := 0) (by decide) (by decide) rfl)) (Itm.dict (Nat.zero_le _) q0)) (Ev.name 2 rfl rfl) (Cmp.eq (flats_nts' _ _) (flats_nts' _ _))) Tru.bool fun _ => Ev.cmp (Ev.sub (Ev.sub (Ev.name 1 rfl rfl) Ev.int (Itm.list (i := 1) (by decide) (by decide) rfl)) (Ev.sub (Ev.sub (Ev.name 0 rfl rfl) Ev.int (Itm.list (i := 0) (d := ruD r) (by decide) (by decide) rfl)) Ev.int (Itm.tup (i := 1) (by decide) (by decide) rfl)) (Itm.dict (Nat.zero_le _) q1)) (Ev.name 3 rfl rfl) (Cmp.eq (flats_nts' _ _) (flats_nts' _ _)))
theorem lens_ev (hK : C.K = hd.heap_39 P) {t0 t1 : List (Str × D)} {A B : Str → List Nat} {m : Nat} {rs : List (Str × Str)} (T : TellsS t0 t1 A B rs) (r9 : rs.length ≤ 900) {s : Nat} (hs : s < 2) {ρ : Rho} (e0 : ρ[0]? = some (some (0, .list (rulesD rs)))) (e1 : ρ[1]? = some (some (0, .list [.dict t0, .dict t1]))) (e4 : ρ[4]? = some (some (0, .int (s : Int)))) {p₁ p₂ p₃ p₄ p₅ p₆ p₇ p₈ p₉ p₁₀ p₁₁ p₁₂ : Pos} :
    Ev C m askNm ρ (.ListComp (.Call (.Name (Str.ofString "len") p₁) [.Subscript (.Subscript (.Name (Str.ofString "told") p₂) (.Name (Str.ofString "side") p₃) p₄) (.Subscript (.Name (Str.ofString "rule") p₅) (.Name (Str.ofString "side") p₆) p₇) p₈] [] p₉) [⟨.Name (Str.ofString "rule") p₁₀, .Name (Str.ofString "rules") p₁₁, [], 0⟩] (fnScope [(Str.ofString ".0", .local), (Str.ofString "rule", .local), (Str.ofString "len", .globalImplicit), (Str.ofString "side", .free), (Str.ofString "told", .free)]) p₁₂) 0 (.list (nts (rs.map fun r => (ABs s A B (sd s r)).length))) := by
  refine Ev.cast (congrArg D.list (gLen_map s A B rs)) (Ev.comp (Comp1.map1 [none, none, none, some 4, some 1] 1 (gLen s A B) (Src1.list (Ev.name 0 rfl e0)) rfl (by kernel_rfl) (by kernel_rfl) rfl (fun e h => nomatch h) (fun d hd => ?_) (by rw [rulesD_len]; omega)))
  obtain ⟨r, hr, rfl⟩ := ru_mem hd
  obtain ⟨q1, q2, q3⟩ := T s hs r hr
  have c4 : ((rhoC [none, none, none, some 4, some 1] ρ).set 1 (some (0, ruD r)))[3]? = some (some (0, .int (s : Int))) := by
    show some (match ρ[4]? with | some (some (0, d)) => some (0, d) | _ => none) = _
    rw [e4]; rfl
  have c1 : ((rhoC [none, none, none, some 4, some 1] ρ).set 1 (some (0, ruD r)))[4]? = some (some (0, .list [.dict t0, .dict t1])) := by
    show some (match ρ[1]? with | some (some (0, d)) => some (0, d) | _ => none) = _
    rw [e1]; rfl
  exact Ev.cast (d' := .int (((ABs s A B (sd s r)).length : Nat) : Int)) (congrArg D.int (by rw [nts_len])) (Ev.len_list 2 rfl (g_len hK) (Ev.sub (Ev.sub (Ev.name 4 rfl c1) (Ev.name 3 rfl c4) (Itm.list (by omega) (by omega) (by rw [Int.toNat_natCast]; exact two_get t0 t1 s hs))) (Ev.sub (Ev.name 1 rfl rfl) (Ev.name 3 rfl c4) (Itm.tup (by omega) (by omega) (by rw [Int.toNat_natCast]; exact sd_get r s hs))) (Itm.dict (Nat.zero_le _) q1)) (by rw [nts_len]; omega))
theorem TellsS.sub {t0 t1 : List (Str × D)} {A B : Str → List Nat} {rs : List (Str × Str)} (T : TellsS t0 t1 A B rs) {l : List (Str × Str)} (h : ∀ r ∈ l, r ∈ rs) : TellsS t0 t1 A B l := fun s hs r hr => T s hs r (h r hr)
theorem cut_nts_take (l : List Nat) (k : Nat) : cut (nts l) Option.none (some (k : Int)) = nts (l.take k) := by
  unfold cut nts; simp [List.map_take]
theorem cut_nts_drop (l : List Nat) (k : Nat) : cut (nts l) (some (k : Int)) Option.none = nts (l.drop k) := by
  unfold cut nts
  simp only [Option.elim, List.take_length, Int.toNat_natCast, List.map_drop]
theorem Ex.ofR {n : Nat} {nm : Names} {ρ ρ' : Rho} {ss : List Stmt} {o : Out} (h : ρ = ρ') (e : Ex C n nm ρ' ss o) : Ex C n nm ρ ss o := h ▸ e
theorem askRun {bind : Nat → Rho → Rho} {body : List Stmt} {n : Nat} {nm : Names} {ρ ρ₁ : Rho} {d : D} {s : Nat} (hs : s < 2) (h0 : s = 1 → Ex C n nm (bind 0 ρ) body (.next ρ₁)) (h : Ex C n nm (bind s (if s = 0 then ρ else ρ₁)) body (.ret d)) : ForRun C n nm bind body 2 0 ρ (.ret d) := by
  have hc : s = 0 ∨ s = 1 := by omega
  rcases hc with rfl | rfl
  · exact .ret (by decide) h
  · exact .turn (by decide) (h0 rfl) (.ret (by decide) h)
theorem askBind (rs : List (Str × Str)) (t0 t1 : List (Str × D)) (names hosts : List Nat) : ∀ s, s < 2 → ((if s = 0 then askR rs t0 t1 names hosts none none none else askR rs t0 t1 names hosts none none none).set 4 (some (0, (getD2 (numD [.list (nts names), .list (nts hosts)]) s).1))).set 5 (some (0, (getD2 (numD [.list (nts names), .list (nts hosts)]) s).2)) = askR rs t0 t1 names hosts (some (0, .int (s : Int))) (some (0, .list (nts (boxS s names hosts)))) none
  | 0, _ | 1, _ => rfl
theorem leftD (half names hosts : List Nat) (s : Nat) (h : decide (s = 0) = true) : D.list [.list (nts half), .list (nts hosts)] = .list [.list (nts (leftS s half names hosts).1), .list (nts (leftS s half names hosts).2)] := by
  have := of_decide_eq_true h
  subst this; rfl
theorem leftD1 (half names hosts : List Nat) (s : Nat) (h : decide (s = 0) = false) : D.list [.list (nts names), .list (nts half)] = .list [.list (nts (leftS s half names hosts).1), .list (nts (leftS s half names hosts).2)] := by
  have := of_decide_eq_false h
  unfold leftS
  rw [if_neg this]
theorem leT {a b : Nat} (h : a ≤ 900) (hb : 900 ≤ b) : a ≤ b := Nat.le_trans h hb
theorem side0 (s : Nat) : eqD (.int (s : Int)) (.int 0) = decide (s = 0) := by
  rw [eqD_int, Bool.eq_iff_iff, decide_eq_true_eq, decide_eq_true_eq]; omega
theorem askHalf (hK : C.K = hd.heap_39 P) {t0 t1 : List (Str × D)} {A B : Str → List Nat} {m s : Nat} {rs : List (Str × Str)} {names hosts : List Nat} (hs : s < 2) (T : TellsS t0 t1 A B rs) (r9 : rs.length ≤ 900) (bl : (boxS s names hosts).length ≤ 900)
    (l1 : 2 * (insS s A B ((boxS s names hosts).take ((boxS s names hosts).length / 2)) rs).length = rs.length) (l2 : 2 * (insS s A B ((boxS s names hosts).drop ((boxS s names hosts).length / 2)) rs).length = rs.length)
    (f1 : Fn C m 131 [.list (rulesD (insS s A B ((boxS s names hosts).take ((boxS s names hosts).length / 2)) rs)), .list [.dict t0, .dict t1], .list (nts (leftS s ((boxS s names hosts).take ((boxS s names hosts).length / 2)) names hosts).1), .list (nts (leftS s ((boxS s names hosts).take ((boxS s names hosts).length / 2)) names hosts).2)] (.bool true))
    (f2 : Fn C m 131 [.list (rulesD (insS s A B ((boxS s names hosts).drop ((boxS s names hosts).length / 2)) rs)), .list [.dict t0, .dict t1], .list (nts (leftS s ((boxS s names hosts).drop ((boxS s names hosts).length / 2)) names hosts).1), .list (nts (leftS s ((boxS s names hosts).drop ((boxS s names hosts).length / 2)) names hosts).2)] (.bool true)) :
    ∀ (i : Nat) (d : D), [D.list (nts ((boxS s names hosts).take ((boxS s names hosts).length / 2))), D.list (nts ((boxS s names hosts).drop ((boxS s names hosts).length / 2)))][i]? = some d → ∃ half, d = .list (nts half) ∧ half.length ≤ 900 ∧ (!eqD (.int (2 * (((insS s A B half rs).length : Nat) : Int))) (.int ((rs.length : Nat) : Int))) = false ∧ (insS s A B half rs).length ≤ 900 ∧ Fn C m 131 [.list (rulesD (insS s A B half rs)), .list [.dict t0, .dict t1], .list (nts (leftS s half names hosts).1), .list (nts (leftS s half names hosts).2)] (.bool true) := by
  have tc : ∀ {k : Nat}, 2 * k = rs.length → (!eqD (.int (2 * ((k : Nat) : Int))) (.int ((rs.length : Nat) : Int))) = false := fun h => by
    rw [eqD_int, ← h, decide_eq_true (by omega)]; rfl
  intro i d h
  match i, h with
  | 0, h => cases h; exact ⟨_, rfl, Nat.le_trans (by rw [List.length_take]; exact Nat.min_le_right _ _) bl, tc l1, Nat.le_trans (List.length_filter_le _ _) r9, f1⟩
  | 1, h => cases h; exact ⟨_, rfl, Nat.le_trans (by rw [List.length_drop]; exact Nat.sub_le _ _) bl, tc l2, Nat.le_trans (List.length_filter_le _ _) r9, f2⟩
  | j + 2, h => cases h
theorem f_asked (hK : C.K = hd.heap_39 P) {t0 t1 : List (Str × D)} {A B : Str → List Nat} (n : Nat) : ∀ (k : Nat) {rs : List (Str × Str)} {names hosts : List Nat}, Ask A B k rs names hosts → TellsS t0 t1 A B rs → rs.length ≤ 900 → names.length ≤ 900 → hosts.length ≤ 900 → Fn C (n + k + 1) 131 [.list (rulesD rs), .list [.dict t0, .dict t1], .list (nts names), .list (nts hosts)] (.bool true) := by
  intro k
  induction k with
  | zero =>
    intro rs names hosts ask T r9 n9 h9
    cases ask with
    | @one _ r => exact ask_one hK _ T
  | succ k ih =>
    intro rs names hosts ask T r9 n9 h9
    cases ask with
    | @one _ r => exact ask_one hK _ T
    | split s hs hne h1 hbox l1 l2 a1 a2 =>
      have bl : (boxS s names hosts).length ≤ 900 := by unfold boxS; split <;> assumption
      have sub1 : ∀ half, (insS s A B half rs).length ≤ 900 := fun half => Nat.le_trans (List.length_filter_le _ _) r9
      have hl9 : ∀ half : List Nat, half.length ≤ 900 → (leftS s half names hosts).1.length ≤ 900 ∧ (leftS s half names hosts).2.length ≤ 900 := fun half h => by unfold leftS; split <;> exact ⟨by assumption, by assumption⟩
      have tk : ((boxS s names hosts).take ((boxS s names hosts).length / 2)).length ≤ 900 := Nat.le_trans (by rw [List.length_take]; exact Nat.min_le_right _ _) bl
      have dk : ((boxS s names hosts).drop ((boxS s names hosts).length / 2)).length ≤ 900 := Nat.le_trans (by rw [List.length_drop]; exact Nat.sub_le _ _) bl
      have f1 := ih a1 (T.sub fun r => insS_sub) (sub1 _) (hl9 _ tk).1 (hl9 _ tk).2
      have f2 := ih a2 (T.sub fun r => insS_sub) (sub1 _) (hl9 _ dk).1 (hl9 _ dk).2
      have hhalf := askHalf hK hs T r9 bl l1 l2 f1 f2
      clear ih a1 a2 f1 f2 l1 l2 tk dk hl9 sub1
      refine Fn.of_body (lk hK rfl) rfl rfl rfl (by rw [hK]; kernel_rfl) rfl rfl rfl (fun vs h => ?_) (NmOk.of (by kernel_rfl)) (by exact Nat.le_of_ble_eq_true rfl) ?_
      · obtain ⟨v0, v1, v2, v3, rfl⟩ := len4 h; rfl
      have tn : eqD (.int (((rulesD rs).length : Nat) : Int)) (.int 1) = false := by
        rw [eqD_int, rulesD_len, decide_eq_false_iff_not]; omega
      have rd : (rulesD rs).length ≤ 1000000 := by rw [rulesD_len]; exact leT r9 (by decide)
      refine Ex.seq (Ex1.skip (Tst.cast tn (Tst.cmp (Ev.len_list 9 rfl (g_len hK) (Ev.name 0 rfl rfl) rd) Ev.int (Cmp.eq rfl rfl))) Ex.nil) ?_
      have tst : ∀ {x y : Bool}, x = false → y = false → (x || (y || false)) = false := fun h h' => by rw [h, h']; rfl
      refine Ex.stop (Ex1.for_ (bind := fun i ρ => (ρ.set 4 (some (0, (getD2 (numD [.list (nts names), .list (nts hosts)]) i).1))).set 5 (some (0, (getD2 (numD [.list (nts names), .list (nts hosts)]) i).2))) (Src.of2 (ds := numD [.list (nts names), .list (nts hosts)]) (k := 0) (Src2.enumerate 10 rfl (g_enum hK) (Ev.list (.two (Ev.name 2 rfl rfl) (Ev.name 3 rfl rfl)) (by simp))) 4 5 rfl rfl) (askRun (ρ₁ := askR rs t0 t1 names hosts none none none) hs (fun e1 => ?_) (Ex.ofR (askBind rs t0 t1 names hosts s hs) ?_)))
      · have tskip : (!anyEq (nts (rs.map fun r => (ABs 0 A B (sd 0 r)).length)) (.int (((nts names).length : Nat) : Int))) = false := by
          rw [anyEq_nts', nts_len, Bool.not_eq_false', List.contains_eq_mem, decide_eq_true_eq]; exact h1 e1
        show Ex C (n + k + 1) askNm (askR rs t0 t1 names hosts (some (0, .int 0)) (some (0, .list (nts names))) none) _ _
        refine Ex.most (Ex.seq (Ex1.skip (Tst.cast tskip (Tst.cmp (Ev.len_list 9 rfl (g_len hK) (Ev.name 5 rfl rfl) (by rw [nts_len]; exact leT n9 (by decide))) (lens_ev hK T r9 (show 0 < 2 by decide) rfl rfl rfl) (Cmp.notin_list rfl (flats_nts' _ _)))) Ex.nil) Ex.nil) ?_
        exact .same (.same (.same (.same (.gone (.gone (.gone (.gone (.gone (.gone (.gone (.gone .nil)))))))))))
      have tb : (!anyEq (nts (rs.map fun r => (ABs s A B (sd s r)).length)) (.int (((nts (boxS s names hosts)).length : Nat) : Int))) = true := by
        rw [anyEq_nts', nts_len, Bool.not_eq_true', List.contains_eq_mem, decide_eq_false_iff_not]; exact hbox
      have bn : (nts (boxS s names hosts)).length ≤ 1000000 := by rw [nts_len]; exact leT bl (by decide)
      have hlf : ∀ {ρ : Rho} {p₁ p₂ p₃ p₄ p₅ : Pos} {q : Nat}, ρ[5]? = some (some (0, .list (nts (boxS s names hosts)))) → Ev C (n + k + 1) askNm ρ (.BinOp (.Call (.Name (Str.ofString "len") p₁) [.Name (Str.ofString "box") p₂] [] p₃) .FloorDiv (.Constant (.int 2) q p₄) p₅) 0 (.int (((boxS s names hosts).length / 2 : Nat) : Int)) := fun h5 => Ev.cast (congrArg D.int (by rw [nts_len, Int.fdiv_eq_ediv_of_nonneg _ (by decide)]; rfl)) (Ev.bin (Ev.len_list 9 rfl (g_len hK) (Ev.name 5 rfl h5) bn) Ev.int (Bin.fdiv_int (by decide) (by decide)))
      have s6 : s < 1000000 := lt6 hs (by decide)
      refine Ex.stop (Ex1.take (Tst.cast tb (Tst.cmp (Ev.len_list 9 rfl (g_len hK) (Ev.name 5 rfl rfl) bn) (lens_ev hK T r9 hs rfl rfl rfl) (Cmp.notin_list rfl (flats_nts' _ _)))) ?_)
      refine Ex.seq (Ex1.forL (ds := [.list (nts ((boxS s names hosts).take ((boxS s names hosts).length / 2))), .list (nts ((boxS s names hosts).drop ((boxS s names hosts).length / 2)))]) 6 (fun _ => askR rs t0 t1 names hosts (some (0, .int (s : Int))) (some (0, .list (nts (boxS s names hosts)))) none) (Src1.list (Ev.list (.two (Ev.cast (congrArg D.list (cut_nts_take (boxS s names hosts) _)) (Ev.slice_list (Ev.name 5 rfl rfl) .none (.some (hlf rfl)) (fun _ h => nomatch h) (fun _ h => by cases h; exact Int.natCast_nonneg _) bn)) (Ev.cast (congrArg D.list (cut_nts_drop (boxS s names hosts) _)) (Ev.slice_list (Ev.name 5 rfl rfl) (.some (hlf rfl)) .none (fun _ h => by cases h; exact Int.natCast_nonneg _) (fun _ h => nomatch h) bn))) (by simp))) rfl (fun i d h => ?_)) (Ex.stop (Ex1.ret Ev.bool))
      obtain ⟨half, rfl, hl, tc, q0, fh⟩ := hhalf i d h
      refine Ex.seq (Ex1.assignComp 7 rfl (Comp1.filter1 [none, none, some 6, some 4, some 1] 1 (fun d => d) (tIns s A B half) (Src1.list (Ev.name 0 rfl rfl)) rfl (by kernel_rfl) (by kernel_rfl) rfl (fun e h => nomatch h) (fun x hx => ?_) (fun x hx ht => Ev.name 1 rfl rfl) (by rw [rulesD_len]; exact leT r9 (by decide)))) ?_
      · obtain ⟨r, hr, rfl⟩ := ru_mem hx
        obtain ⟨q1, q2, q3⟩ := T s hs r hr
        have g1 : (ABs s A B (sd s r))[0]? = some ((ABs s A B (sd s r)).getD 0 0) := by rw [List.getD_eq_getElem?_getD, List.getElem?_eq_getElem q3]; rfl
        exact Tst.cmp (Ev.sub (Ev.sub (Ev.sub (Ev.name 4 rfl rfl) (Ev.name 3 rfl rfl) (Itm.nat s6 (two_get t0 t1 s hs))) (Ev.sub (Ev.name 1 rfl rfl) (Ev.name 3 rfl rfl) (Itm.tup (Int.natCast_nonneg s) (Int.ofNat_lt.mpr s6) (by rw [Int.toNat_natCast]; exact sd_get r s hs))) (Itm.dict (Nat.zero_le _) q1)) Ev.int (Itm.list (i := 0) (by decide) (by decide) (nts_get g1))) (Ev.name 2 rfl rfl) (Cmp.in_list rfl (flats_nts' _ _))
      rw [tIns_map]
      refine Ex.seq (Ex1.assign 8 rfl (Ev.ifexp (b := decide (s = 0)) (Tst.cast (side0 s) (Tst.cmp (Ev.name 4 rfl rfl) Ev.int (Cmp.eq rfl rfl))) (fun h => Ev.cast (leftD half names hosts s h) (Ev.list (.two (Ev.name 6 rfl rfl) (Ev.name 3 rfl rfl)) (by simp))) (fun h => Ev.cast (leftD1 half names hosts s h) (Ev.list (.two (Ev.name 2 rfl rfl) (Ev.name 6 rfl rfl)) (by simp))))) ?_
      refine Ex.most (Ex.seq (Ex1.skip (Tst.cast (tst tc (y := !true) rfl) (Tst.all (.orCons (Tst.cmp (Ev.bin Ev.int (Ev.cast (congrArg D.int (congrArg Int.ofNat (rulesD_len _))) (Ev.len_list 9 rfl (g_len hK) (Ev.name 7 rfl rfl) (by rw [rulesD_len]; exact leT q0 (by decide)))) (Bin.mul_int (IntMulOk.of_left (by decide +kernel)))) (Ev.cast (congrArg D.int (congrArg Int.ofNat (rulesD_len _))) (Ev.len_list 9 rfl (g_len hK) (Ev.name 0 rfl rfl) rd)) (Cmp.ne rfl rfl)) fun _ => .orCons (Tst.not (Tst.value (Ev.call 11 rfl (g_asked hK) (lk hK rfl) rfl (.cons (Ev.name 7 rfl rfl) ns_Name (.cons (Ev.name 1 rfl rfl) ns_Name (.cons (Ev.sub (Ev.name 8 rfl rfl) Ev.int (Itm.list (i := 0) (by decide) (by decide) rfl)) ns_Subscript (.cons (Ev.sub (Ev.name 8 rfl rfl) Ev.int (Itm.list (i := 1) (by decide) (by decide) rfl)) ns_Subscript .nil)))) fh) Tru.bool)) fun _ => .orNil))) Ex.nil) Ex.nil) ?_
      exact .same (.same (.same (.same (.same (.same (.gone (.gone (.gone (.gone (.gone (.gone .nil)))))))))))
end
end Mine
end
section
open PySem PySem.W PyProof.Rows PySem.Calls PySem.Spec
set_option maxRecDepth 100000
set_option maxHeartbeats 0
namespace Mine
theorem tell_get (f : Str → List Nat) (x : Str) : ∀ (xs : List Str) (kvs : List (Str × D)), dget (xs.foldl (tellStep f) kvs) x = if (dget kvs x).isSome then dget kvs x else if x ∈ xs then some (.list (nts (f x))) else none
  | [], kvs => by
    rw [List.foldl_nil]
    cases dget kvs x <;> simp
  | c :: xs, kvs => by
    rw [List.foldl_cons, tell_get f x xs]
    unfold tellStep
    by_cases h : (dget kvs c).isSome = true
    · rw [if_pos h]
      by_cases hx : (dget kvs x).isSome = true
      · rw [if_pos hx, if_pos hx]
      · rw [if_neg hx, if_neg hx]
        have : x ≠ c := fun e => hx (e ▸ h)
        simp [this]
    · rw [if_neg h, dget_dput]
      by_cases e : c = x
      · subst e
        simp [h]
      · have e' : x ≠ c := fun q => e q.symm
        rw [if_neg e]
        simp [e']
theorem tellW_get (f : Str → List Nat) {xs : List Str} {x : Str} (h : x ∈ xs) : dget (tellW f xs) x = some (.list (nts (f x))) := by
  unfold tellW
  rw [tell_get, if_neg (by simp [dget]), if_pos h]
theorem mem_dput {kvs : List (Str × D)} {k : Str} {v : D} {q : Str × D} (h : q ∈ dput kvs k v) : q.1 = k ∨ q.1 ∈ kvs.map (·.1) := by
  unfold dput at h
  split at h
  · obtain ⟨r, hr, rfl⟩ := List.mem_map.mp h
    split
    · exact .inr (List.mem_map.mpr ⟨r, hr, rfl⟩)
    · exact .inr (List.mem_map.mpr ⟨r, hr, rfl⟩)
  · rcases List.mem_append.mp h with h | h
    · exact .inr (List.mem_map.mpr ⟨q, h, rfl⟩)
    · rw [List.mem_singleton.mp h]; exact .inl rfl
theorem tell_keys (f : Str → List Nat) : ∀ (xs : List Str) (kvs : List (Str × D)) (q : Str × D), q ∈ xs.foldl (tellStep f) kvs → q.1 ∈ xs ∨ q.1 ∈ kvs.map (·.1)
  | [], kvs, q, h => .inr (List.mem_map.mpr ⟨q, h, rfl⟩)
  | c :: xs, kvs, q, h => by
    rw [List.foldl_cons] at h
    rcases tell_keys f xs _ q h with h | h
    · exact .inl (List.mem_cons_of_mem _ h)
    · obtain ⟨r, hr, e⟩ := List.mem_map.mp h
      unfold tellStep at hr
      split at hr
      · exact .inr (List.mem_map.mpr ⟨r, hr, e⟩)
      · rcases mem_dput hr with z | z
        · left; rw [← e, z]; exact List.mem_cons_self ..
        · right; rw [← e]; exact z
theorem tellW_keys (f : Str → List Nat) {xs : List Str} {q : Str × D} (h : q ∈ tellW f xs) : q.1 ∈ xs := by
  rcases tell_keys f xs [] q h with h | h
  · exact h
  · cases h
noncomputable def upS (f s : List (Str × Str)) (mo le : List Int) : List (Str × Str) := ((List.range 8).filter fun k => decide (mo.getD k 0 = 0)).map (fun k => f.getD k e2p) ++ ((List.range 8).filter fun k => decide (le.getD k 0 = 0) && decide (s.getD k e2p ∉ f)).map (fun k => s.getD k e2p)
noncomputable def loS (f s : List (Str × Str)) (mo le : List Int) : List (Str × Str) := ((List.range 8).filter fun k => decide (mo.getD k 0 ≠ 0) || decide (f.getD k e2p ∈ s)).map (fun k => f.getD k e2p) ++ ((List.range 8).filter fun k => decide (le.getD k 0 ≠ 0)).map (fun k => s.getD k e2p)
noncomputable def masks (A B : Str → List Nat) (l : List (Str × Str)) : List Int := l.map fun r => mask (A r.1) (B r.2)
/-- what the plain law is to show of a script -/
structure Law01 (ns : List Int) (N : Int) (p : Nat) (cs ds : List Str) (W : Nat → Str → Str) (PT : Nat → Str → Str × Str) (G : List (Str × Str) → Prop) (first second upper lower : List (Str × Str)) (names hosts : List Str) (A B : Str → List Nat) (one two mo le : List Int) (turns : Nat) (z : Str) : Prop where
  hN : N = 65664 + isum (ins ns)
  hp : N.fmod 8 = (p : Int)
  p8 : p < 8
  hcs : clsS (sgn N) 7 = cs
  hds : domS (wordAt N) 7 = ds
  csz : ∀ x ∈ cs, 1 ≤ x.length ∧ x.length ≤ 36 ∧ PyData.strOk x = true
  dsz : ∀ x ∈ ds, x.length ≤ 55 ∧ PyData.strOk x = true
  rgood : ∀ d ∈ ds, RGood d
  w1 : cs.map wid = e0 :: (List.range 14).map fun k => cs.getD (k / 2) e0
  w2 : ds.map up1 = Str.ofString "local" :: (List.range 14).map fun k => ds.getD (k / 2) e0
  ok0 : ∀ q ∈ ovW wid cs, PyData.strOk q.1 = true ∧ ∃ w, dget (ovW wid cs) q.1 = some (.str w)
  ok1 : ∀ q ∈ ovW up1 ds, PyData.strOk q.1 = true ∧ ∃ w, dget (ovW up1 ds) q.1 = some (.str w)
  turn : TurnOk (ovW wid cs) (ovW up1 ds) (hvD (ovW wid cs)) (hvD (ovW up1 ds)) W PT G
  g0 : G ((ds.drop 7).map fun d => (Str.ofString "Q", d))
  g1 : G ((cs.drop 7).map fun c => (c, Str.ofString ".local"))
  e1 : (wkS W PT ((ds.drop 7).map fun d => (Str.ofString "Q", d)) ((cs.drop 7).map fun c => (c, Str.ofString ".local")) (deeds ns) (deeds ns).length).1 = first
  e2 : (wkS W PT ((ds.drop 7).map fun d => (Str.ofString "Q", d)) ((cs.drop 7).map fun c => (c, Str.ofString ".local")) (deeds ns) (deeds ns).length).2 = second
  f8 : first.length = 8
  s8 : second.length = 8
  hnm : hnames cs = names
  hho : ((ds.drop 7).map fun d => Str.ofString "w" ++ d) = hosts
  tame : ∀ r ∈ first ++ second, r.1.length ≤ 1000 ∧ Tame r.2
  hh : ∀ h ∈ hosts, (Txt.upper h).length ≤ 900 ∧ PyData.strOk (Txt.upper h) = true ∧ Tame (Txt.upper h)
  eA : A = fun c => hidK c (names ++ [names.getD p e0 ++ Str.ofString "__"])
  eB : B = fun d => inK d (hosts.map Txt.upper)
  tA : ∀ r ∈ first ++ second, (A r.1).length ≤ 9 ∧ 0 < (A r.1).length ∧ ∀ x ∈ A r.1, x < 9
  tB : ∀ r ∈ first ++ second, (B r.2).length ≤ 9 ∧ 0 < (B r.2).length ∧ ∀ x ∈ B r.2, x < 9
  h1 : masks A B first = one
  h2 : masks A B second = two
  sum1 : isum (ins one) = 2 ^ 64 - 1
  sum2 : isum (ins two) = 2 ^ 64 - 1
  hmo : moreS A second two first one = mo
  hle : moreS A first one second two = le
  m1 : ∀ k, k < 8 → mo.getD k 0 = 0 ∨ mo.getD k 0 = one.getD k 0
  m2 : ∀ k, k < 8 → le.getD k 0 = 0 ∨ le.getD k 0 = two.getD k 0
  up : upS first second mo le = upper
  lo : loS first second mo le = lower
  mu : ∀ r ∈ upper, r ∈ first ++ second
  ml : ∀ r ∈ lower, r ∈ first ++ second
  u8 : upper.length = 8
  l8 : lower.length = 8
  a1 : Ask A B 3 upper (List.range 8) (List.range 8)
  a2 : Ask A B 3 lower (List.range 8) (List.range 8)
  gl : G lower
  rai : raiseS W PT upper p 13 0 lower = .int (turns : Int)
  lab : isum (ins (upper.map fun r => Txt.count r.1 (Str.ofString "__"))) - isum (ins (lower.map fun r => Txt.count r.1 (Str.ofString "__"))) = 2 * (turns : Int)
  sp0 : ∀ r ∈ first ++ second, r.1 ∈ cs ∧ cs.idxOf r.1 < 15 ∧ A r.1 = grp15.getD (cs.idxOf r.1) []
  sp1 : ∀ r ∈ first ++ second, r.2 ∈ ds ∧ ds.idxOf r.2 < 15 ∧ B r.2 = grp15.getD (ds.idxOf r.2) []
  corn : CornOk (cs.getD (7 + p) e0)
  edge : Edge (hosts.getD p e0) z
theorem pick_nts {t : D → Bool} {g : D → D} {t' : Nat → Bool} {f : Nat → Str × Str} (l : List Nat) (ht : ∀ k ∈ l, t (.int (k : Int)) = t' k) (hg : ∀ k ∈ l, g (.int (k : Int)) = ruD (f k)) : ((nts l).filter t).map g = rulesD ((l.filter t').map f) := by
  rw [rulesD_eq]
  induction l with
  | nil => rfl
  | cons k l ih =>
    have ih := ih (fun j hj => ht j (List.mem_cons_of_mem _ hj)) (fun j hj => hg j (List.mem_cons_of_mem _ hj))
    have e : nts (k :: l) = .int (k : Int) :: nts l := rfl
    rw [e, List.filter_cons, List.filter_cons, ht k (List.mem_cons_self ..)]
    cases t' k with
    | true =>
      rw [if_pos rfl, if_pos rfl, List.map_cons, List.map_cons, List.map_cons, ih, hg k (List.mem_cons_self ..)]
    | false => rw [if_neg (by decide), if_neg (by decide), ih]
theorem filt_nil {t : D → Bool} {g : D → D} {l : List D} (h : ∀ d ∈ l, t d = false) : (l.filter t).map g = [] := by
  rw [List.filter_eq_nil_iff.mpr fun d hd => by rw [h d hd]; decide]; rfl
theorem rulesD_app (a b : List (Str × Str)) : rulesD a ++ rulesD b = rulesD (a ++ b) := by rw [rulesD_eq, rulesD_eq, rulesD_eq, List.map_append]
end Mine
end
section
set_option maxRecDepth 100000
set_option maxHeartbeats 0
namespace Mine
/-- a rule: the places of its class and its domain -/
noncomputable abbrev Ru := Nat × Nat
noncomputable def dpT : List Nat := [0, 1, 1, 2, 2, 2, 2, 3, 3, 3, 3, 3, 3, 3, 3]
noncomputable def dp (i : Nat) : Nat := dpT.getD i 0
noncomputable def colM : List Nat := [255, 15, 240, 3, 12, 48, 192, 1, 2, 4, 8, 16, 32, 64, 128]
noncomputable def rowM : List Nat := [72340172838076673, 16843009, 72340172821233664, 257, 16842752, 1103806595072, 72339069014638592, 1, 256, 65536, 16777216, 4294967296, 1099511627776, 281474976710656, 72057594037927936]
noncomputable def mk (r : Ru) : Nat := rowM.getD r.1 0 * colM.getD r.2 0
noncomputable def has (r : Ru) (x : Nat) : Bool := (mk r).testBit x
noncomputable def meets (r s : Ru) : Bool := (mk r &&& mk s) != 0
noncomputable def R32 : List Ru := [(0, 7), (0, 8), (0, 9), (0, 10), (0, 11), (0, 12), (0, 13), (0, 14), (1, 3), (1, 4), (1, 5), (1, 6), (2, 3), (2, 4), (2, 5), (2, 6), (3, 1), (3, 2), (4, 1), (4, 2), (5, 1), (5, 2), (6, 1), (6, 2), (7, 0), (8, 0), (9, 0), (10, 0), (11, 0), (12, 0), (13, 0), (14, 0)]
noncomputable def sb (i : Nat) : Nat := if i = 0 then 0 else if i % 2 = 1 then i + 1 else i - 1
noncomputable def pa (i : Nat) : Nat := (i - 1) / 2
/-- the other one with which it can be turned, and the two that then stand there -/
noncomputable def sibS (s : Nat) (r : Ru) : Ru := if s = 1 then (r.1, sb r.2) else (sb r.1, r.2)
noncomputable def upA (s : Nat) (r : Ru) : Ru := if s = 1 then (2 * r.1 + 1, pa r.2) else (pa r.1, 2 * r.2 + 1)
noncomputable def upB (s : Nat) (r : Ru) : Ru := if s = 1 then (2 * r.1 + 2, pa r.2) else (pa r.1, 2 * r.2 + 2)
noncomputable def ds2 (s : Nat) (r : Ru) : Nat := if s = 1 then dp r.2 else dp r.1
noncomputable def b1 (b : Bool) : Nat := if b then 1 else 0
theorem allR {p : Ru → Bool} (h : R32.all p = true) {r : Ru} (hr : r ∈ R32) : p r = true := List.all_eq_true.mp h r hr
theorem allX {p : Nat → Bool} {n : Nat} (h : (List.range n).all p = true) {x : Nat} (hx : x < n) : p x = true := List.all_eq_true.mp h x (List.mem_range.mpr hx)
theorem k_mk : (R32.all fun r => mask (grp15.getD r.1 []) (grp15.getD r.2 []) == (mk r : Int)) = true := by decide +kernel
theorem k_same : (R32.all fun r => R32.all fun u => (r == u) || !(dp r.1 == dp u.1) || (mk r &&& mk u == 0)) = true := by decide +kernel
theorem k_tri : (R32.all fun r => R32.all fun s => !(meets r s && Nat.blt (dp r.1) (dp s.1)) || R32.all fun t => !(meets r t && Nat.ble (dp t.1) (dp r.1)) || meets s t) = true := by decide +kernel
theorem k_turn : (R32.all fun r => (List.range 2).all fun s => (ds2 s r == 0) || (mk r + mk (sibS s r) == mk (upA s r) + mk (upB s r) && (R32.contains (sibS s r)) && R32.contains (upA s r) && R32.contains (upB s r) && !(r == sibS s r))) = true := by decide +kernel
theorem k_turnx : (R32.all fun r => (List.range 2).all fun s => (ds2 s r == 0) || (List.range 64).all fun x => b1 (has r x) + b1 (has (sibS s r) x) == b1 (has (upA s r) x) + b1 (has (upB s r) x)) = true := by decide +kernel
end Mine
end
section
set_option maxRecDepth 100000
set_option maxHeartbeats 0
namespace Mine
theorem sum_set {α : Type} (g : α → Nat) (e : α) : ∀ (l : List α) (p : Nat) (a : α), p < l.length → ((l.set p a).map g).sum + g (l.getD p e) = (l.map g).sum + g a
  | [], p, a, h => by simp at h
  | x :: l, 0, a, h => by simp; omega
  | x :: l, p + 1, a, h => by
    have := sum_set g e l p a (by simpa using h)
    simp only [List.set_cons_succ, List.map_cons, List.sum_cons, List.getD_cons_succ]
    omega
theorem sum_swap {α β : Type} (g : α → β → Nat) (m : List β) : ∀ l : List α, (l.map fun r => (m.map fun x => g r x).sum).sum = (m.map fun x => (l.map fun r => g r x).sum).sum
  | [] => by
    simp only [List.map_nil, List.sum_nil]
    induction m with
    | nil => rfl
    | cons x m ih => simp only [List.map_cons, List.sum_cons]; omega
  | r :: l => by
    have ih := sum_swap g m l
    simp only [List.map_cons, List.sum_cons]
    rw [ih]
    clear ih
    induction m with
    | nil => rfl
    | cons x m ih => simp only [List.map_cons, List.sum_cons]; omega
theorem sum_congr {α : Type} {g h : α → Nat} {l : List α} (e : ∀ x ∈ l, g x = h x) : (l.map g).sum = (l.map h).sum := by rw [List.map_congr_left e]
theorem sum_b1 {α : Type} (p : α → Bool) : ∀ l : List α, (l.map fun r => b1 (p r)).sum = (l.filter p).length
  | [] => rfl
  | r :: l => by
    have := sum_b1 p l
    simp only [List.map_cons, List.sum_cons, List.filter_cons]
    rw [this]
    cases p r <;> simp [b1] ; omega
theorem sum_mul {α : Type} (c : Nat) (g : α → Nat) : ∀ l : List α, (l.map fun r => c * g r).sum = c * (l.map g).sum
  | [] => by simp
  | r :: l => by
    have := sum_mul c g l
    simp only [List.map_cons, List.sum_cons]
    rw [this, Nat.mul_add]
/-- how many rules hold for a letter -/
noncomputable def cnt (l : List Ru) (x : Nat) : Nat := (l.map fun r => b1 (has r x)).sum
theorem one_of {l : List Ru} {x : Nat} (h : cnt l x = 1) : ∃ t, l.filter (fun r => has r x) = [t] := by
  unfold cnt at h
  rw [sum_b1] at h
  exact List.length_eq_one_iff.mp h
theorem ex_of {l : List Ru} {x : Nat} (h : cnt l x = 1) : ∃ t ∈ l, has t x = true := by
  obtain ⟨t, e⟩ := one_of h
  have : t ∈ l.filter (fun r => has r x) := by rw [e]; exact List.mem_cons_self ..
  exact ⟨t, (List.mem_filter.mp this).1, (List.mem_filter.mp this).2⟩
theorem uniq_of {l : List Ru} {x : Nat} (h : cnt l x ≤ 1) {t u : Ru} (ht : t ∈ l) (hu : u ∈ l) (h1 : has t x = true) (h2 : has u x = true) : t = u := by
  unfold cnt at h
  rw [sum_b1] at h
  have m1 : t ∈ l.filter (fun r => has r x) := List.mem_filter.mpr ⟨ht, h1⟩
  have m2 : u ∈ l.filter (fun r => has r x) := List.mem_filter.mpr ⟨hu, h2⟩
  match e : l.filter (fun r => has r x), h with
  | [], _ => rw [e] at m1; cases m1
  | [a], _ => rw [e] at m1 m2; rw [List.mem_singleton.mp m1, List.mem_singleton.mp m2]
  | a :: b :: c, h => simp at h
/-- eight rules, one for each letter -/
structure Til (l : List Ru) : Prop where
  len : l.length = 8
  inR : ∀ r ∈ l, r ∈ R32
  one : ∀ x, x < 64 → cnt l x = 1
theorem k_area : (R32.all fun r => ((List.range 64).map fun x => b1 (has r x)).sum == 8) = true := by decide +kernel
theorem Til.of {l : List Ru} (h : ∀ r ∈ l, r ∈ R32) (o : ∀ x, x < 64 → cnt l x = 1) : Til l := by
  refine ⟨?_, h, o⟩
  have s := sum_swap (fun r x => b1 (has r x)) (List.range 64) l
  have e1 : (l.map fun r => ((List.range 64).map fun x => b1 (has r x)).sum).sum = (l.map fun _ => 8).sum := sum_congr fun r hr => eq_of_beq (allR k_area (h r hr))
  have e2 : ((List.range 64).map fun x => (l.map fun r => b1 (has r x)).sum).sum = ((List.range 64).map fun _ => 1).sum := sum_congr fun x hx => o x (List.mem_range.mp hx)
  rw [e1, e2] at s
  have e3 : ((List.range 64).map fun _ => 1).sum = 64 := by decide
  have e4 : ∀ l : List Ru, (l.map fun _ => 8).sum = 8 * l.length := fun l => by
    induction l with
    | nil => rfl
    | cons r l ih => simp only [List.map_cons, List.sum_cons, List.length_cons]; omega
  rw [e3, e4] at s
  omega
theorem k_lt : (R32.all fun r => Nat.blt (mk r) (2 ^ 64)) = true := by decide +kernel
theorem mk_lt {r : Ru} (h : r ∈ R32) : mk r < 2 ^ 64 := by
  have := allR k_lt h
  rwa [Nat.blt_eq] at this
theorem and_has (r s : Ru) (x : Nat) : (mk r &&& mk s).testBit x = (has r x && has s x) := Nat.testBit_and ..
theorem meets_of {r s : Ru} (hr : r ∈ R32) (hs : s ∈ R32) {x : Nat} (hx : x < 64) (h1 : has r x = true) (h2 : has s x = true) : meets r s = true := by
  unfold meets
  rw [bne_iff_ne]
  intro e
  have := and_has r s x
  rw [e, Nat.zero_testBit, h1, h2] at this
  cases this
theorem meets_ex {r s : Ru} (hr : r ∈ R32) (hs : s ∈ R32) (h : meets r s = true) : ∃ x, x < 64 ∧ has r x = true ∧ has s x = true := by
  unfold meets at h
  rw [bne_iff_ne] at h
  obtain ⟨x, hx⟩ := Nat.exists_testBit_of_ne_zero h
  rw [and_has, Bool.and_eq_true] at hx
  refine ⟨x, Nat.lt_of_not_le fun hl => ?_, hx.1, hx.2⟩
  have h1 : (mk r).testBit x = true := hx.1
  rw [Nat.testBit_lt_two_pow (Nat.lt_of_lt_of_le (mk_lt hr) (Nat.pow_le_pow_right (by decide) hl))] at h1
  cases h1
theorem same_of {r u : Ru} (hr : r ∈ R32) (hu : u ∈ R32) {x : Nat} (hx : x < 64) (h1 : has r x = true) (h2 : has u x = true) (e : dp r.1 = dp u.1) : r = u := by
  have := allR (allR k_same hr) hu
  have m := meets_of hr hu hx h1 h2
  unfold meets at m
  simp only [Bool.or_eq_true, beq_iff_eq, Bool.not_eq_true', beq_eq_false_iff_ne] at this
  rcases this with (h | h) | h
  · exact h
  · exact absurd e h
  · rw [h] at m; simp at m
theorem Til.same {l : List Ru} (T : Til l) {r s : Ru} (hr : r ∈ l) (hs : s ∈ l) (h : meets r s = true) : r = s := by
  obtain ⟨x, hx, h1, h2⟩ := meets_ex (T.inR r hr) (T.inR s hs) h
  exact uniq_of (Nat.le_of_eq (T.one x hx)) hr hs h1 h2
theorem k_some : (R32.all fun r => (List.range 64).any fun x => has r x) = true := by decide +kernel
theorem has_some {r : Ru} (h : r ∈ R32) : ∃ x, x < 64 ∧ has r x = true := by
  have := allR k_some h
  simp only [List.any_eq_true, List.mem_range] at this
  exact this
theorem Til.nodup {l : List Ru} (T : Til l) {p m : Nat} (hp : p < 8) (hm : m < 8) (h : p ≠ m) : l.getD p (0, 0) ≠ l.getD m (0, 0) := by
  intro e
  have lp : p < l.length := by rw [T.len]; exact hp
  have lm : m < l.length := by rw [T.len]; exact hm
  have ip : l.getD p (0, 0) ∈ l := by rw [List.getD_eq_getElem?_getD, List.getElem?_eq_getElem lp]; exact List.getElem_mem ..
  obtain ⟨x, hx, h1⟩ := has_some (T.inR _ ip)
  have c := T.one x hx
  unfold cnt at c
  have s1 := sum_set (fun r => b1 (has r x)) (0, 0) l p (0, 15) lp
  have s2 := sum_set (fun r => b1 (has r x)) (0, 0) (l.set p (0, 15)) m (0, 15) (by rw [List.length_set]; exact lm)
  have e2 : (l.set p (0, 15)).getD m (0, 0) = l.getD m (0, 0) := by
    rw [List.getD_eq_getElem?_getD, List.getElem?_set_ne h, ← List.getD_eq_getElem?_getD]
  rw [e2, ← e] at s2
  have hz : b1 (has ((0 : Nat), (15 : Nat)) x) = 0 := by
    have : has ((0 : Nat), (15 : Nat)) x = false := by
      show Nat.testBit (rowM.getD 0 0 * 0) x = false
      rw [Nat.mul_zero, Nat.zero_testBit]
    rw [this]; rfl
  have hb : b1 true = 1 := rfl
  simp only [hz, h1, hb] at s1 s2
  omega
theorem get_in {l : List Ru} {p : Nat} (h : p < l.length) : l.getD p (0, 0) ∈ l := by rw [List.getD_eq_getElem?_getD, List.getElem?_eq_getElem h]; exact List.getElem_mem ..
/-- turned is again such a list -/
noncomputable def trn (l : List Ru) (p m s : Nat) : List Ru := (l.set p (upA s (l.getD p (0, 0)))).set m (upB s (l.getD p (0, 0)))
theorem trn_sum {l : List Ru} {p m s : Nat} (hp : p < l.length) (hm : m < l.length) (h : p ≠ m) (g : Ru → Nat) : ((trn l p m s).map g).sum + g (l.getD p (0, 0)) + g (l.getD m (0, 0)) = (l.map g).sum + g (upA s (l.getD p (0, 0))) + g (upB s (l.getD p (0, 0))) := by
  have s1 := sum_set g (0, 0) l p (upA s (l.getD p (0, 0))) hp
  have s2 := sum_set g (0, 0) (l.set p (upA s (l.getD p (0, 0)))) m (upB s (l.getD p (0, 0))) (by rw [List.length_set]; exact hm)
  have e2 : (l.set p (upA s (l.getD p (0, 0)))).getD m (0, 0) = l.getD m (0, 0) := by
    rw [List.getD_eq_getElem?_getD, List.getElem?_set_ne h, ← List.getD_eq_getElem?_getD]
  rw [e2] at s2
  unfold trn
  omega
theorem turn_facts {r : Ru} (hr : r ∈ R32) {s : Nat} (hs : s < 2) (h : ds2 s r ≠ 0) : sibS s r ∈ R32 ∧ upA s r ∈ R32 ∧ upB s r ∈ R32 ∧ r ≠ sibS s r := by
  have := allX (allR k_turn hr) hs
  simp only [Bool.or_eq_true, beq_iff_eq, Bool.and_eq_true, Bool.not_eq_true', beq_eq_false_iff_ne, List.contains_iff_mem] at this
  rcases this with e | ⟨⟨⟨⟨_, h1⟩, h2⟩, h3⟩, h4⟩
  · exact absurd e h
  · exact ⟨h1, h2, h3, h4⟩
theorem turn_has {r : Ru} (hr : r ∈ R32) {s : Nat} (hs : s < 2) (h : ds2 s r ≠ 0) {x : Nat} (hx : x < 64) : b1 (has r x) + b1 (has (sibS s r) x) = b1 (has (upA s r) x) + b1 (has (upB s r) x) := by
  have := allX (allR k_turnx hr) hs
  simp only [Bool.or_eq_true, beq_iff_eq] at this
  rcases this with e | e
  · exact absurd e h
  · have := allX e hx
    simpa using this
theorem trn_mem {l : List Ru} {p m s : Nat} {r : Ru} (h : r ∈ trn l p m s) : r ∈ l ∨ r = upA s (l.getD p (0, 0)) ∨ r = upB s (l.getD p (0, 0)) := by
  unfold trn at h
  rcases List.mem_or_eq_of_mem_set h with h | h
  · rcases List.mem_or_eq_of_mem_set h with h | h
    · exact .inl h
    · exact .inr (.inl h)
  · exact .inr (.inr h)
theorem Til.turn {l : List Ru} (T : Til l) {p m s : Nat} (hp : p < 8) (hm : m < 8) (h : p ≠ m) (hs : s < 2) (hd : ds2 s (l.getD p (0, 0)) ≠ 0) (e : l.getD m (0, 0) = sibS s (l.getD p (0, 0))) : Til (trn l p m s) := by
  have lp : p < l.length := by rw [T.len]; exact hp
  have lm : m < l.length := by rw [T.len]; exact hm
  have ip := T.inR _ (get_in lp)
  obtain ⟨f1, f2, f3, f4⟩ := turn_facts ip hs hd
  refine ⟨by unfold trn; rw [List.length_set, List.length_set]; exact T.len, fun r hr => ?_, fun x hx => ?_⟩
  · rcases trn_mem hr with h | h | h
    · exact T.inR r h
    · rw [h]; exact f2
    · rw [h]; exact f3
  · have c := T.one x hx
    have t := trn_sum lp lm h (s := s) (fun r => b1 (has r x))
    have q := turn_has ip hs hd hx
    rw [e] at t
    unfold cnt at c ⊢
    omega
end Mine
end
section
set_option maxRecDepth 100000
set_option maxHeartbeats 0
namespace Mine
/-- the other list says more of the rule's letters -/
noncomputable def deeper (r : Ru) (l : List Ru) : Bool := l.any fun s => meets r s && Nat.blt (dp r.1) (dp s.1)
theorem tri {r s t : Ru} (hr : r ∈ R32) (hs : s ∈ R32) (ht : t ∈ R32) (h1 : meets r s = true) (h2 : dp r.1 < dp s.1) (h3 : meets r t = true) (h4 : dp t.1 ≤ dp r.1) : meets s t = true := by
  have := allR (allR k_tri hr) hs
  have e2 : Nat.blt (dp r.1) (dp s.1) = true := by rw [Nat.blt_eq]; exact h2
  have e4 : Nat.ble (dp t.1) (dp r.1) = true := Nat.ble_eq ▸ h4
  rw [h1, e2, Bool.and_self, Bool.not_true, Bool.false_or] at this
  have := allR this ht
  rw [h3, e4, Bool.and_self, Bool.not_true, Bool.false_or] at this
  exact this
theorem deeper_iff {s : List Ru} (S : Til s) {r t : Ru} (hr : r ∈ R32) (ht : t ∈ s) {x : Nat} (hx : x < 64) (h1 : has r x = true) (h2 : has t x = true) : deeper r s = decide (dp r.1 < dp t.1) := by
  have m := meets_of hr (S.inR t ht) hx h1 h2
  rw [Bool.eq_iff_iff, decide_eq_true_eq]
  unfold deeper
  rw [List.any_eq_true]
  constructor
  · rintro ⟨q, hq, e⟩
    rw [Bool.and_eq_true, Nat.blt_eq] at e
    by_cases h : dp r.1 < dp t.1
    · exact h
    · have := S.same hq ht (tri hr (S.inR q hq) (S.inR t ht) e.1 e.2 m (by omega))
      subst this; exact e.2
  · intro h
    exact ⟨t, ht, by rw [Bool.and_eq_true, Nat.blt_eq]; exact ⟨m, h⟩⟩
noncomputable def upI (f s : List Ru) : List Ru := f.filter (fun r => !deeper r s) ++ s.filter (fun r => !deeper r f && !f.contains r)
noncomputable def loI (f s : List Ru) : List Ru := f.filter (fun r => deeper r s || s.contains r) ++ s.filter (fun r => deeper r f)
theorem cnt_app (a b : List Ru) (x : Nat) : cnt (a ++ b) x = cnt a x + cnt b x := by unfold cnt; rw [List.map_append, List.sum_append]
theorem cnt_filter {l : List Ru} {x : Nat} {t : Ru} (h : l.filter (fun r => has r x) = [t]) (P : Ru → Bool) : cnt (l.filter P) x = b1 (P t) := by
  unfold cnt
  rw [sum_b1, List.filter_filter]
  have e : (l.filter fun a => has a x && P a) = (l.filter fun r => has r x).filter P := by
    rw [List.filter_filter]; exact List.filter_congr fun a _ => Bool.and_comm ..
  rw [e, h]
  cases hp : P t
  · rw [List.filter_cons_of_neg (by rw [hp]; decide)]; rfl
  · rw [List.filter_cons_of_pos hp]; rfl
theorem filt_in {l : List Ru} {x : Nat} {t : Ru} (h : l.filter (fun r => has r x) = [t]) : t ∈ l ∧ has t x = true := by
  have : t ∈ l.filter (fun r => has r x) := by rw [h]; exact List.mem_cons_self ..
  exact List.mem_filter.mp this
theorem con_iff {f : List Ru} (F : Til f) {r t : Ru} (hr : r ∈ f) (ht : t ∈ R32) {x : Nat} (hx : x < 64) (h1 : has r x = true) (h2 : has t x = true) : f.contains t = decide (dp r.1 = dp t.1) := by
  rw [Bool.eq_iff_iff, List.contains_iff_mem, decide_eq_true_eq]
  constructor
  · intro h; rw [uniq_of (Nat.le_of_eq (F.one x hx)) hr h h1 h2]
  · intro e; rw [← same_of (F.inR r hr) ht hx h1 h2 e]; exact hr
theorem Til.upper {f s : List Ru} (F : Til f) (S : Til s) : Til (upI f s) := by
  refine .of (fun r hr => ?_) (fun x hx => ?_)
  · rcases List.mem_append.mp hr with h | h
    · exact F.inR r (List.mem_filter.mp h).1
    · exact S.inR r (List.mem_filter.mp h).1
  · obtain ⟨r, er⟩ := one_of (F.one x hx)
    obtain ⟨t, et⟩ := one_of (S.one x hx)
    obtain ⟨r1, r2⟩ := filt_in er
    obtain ⟨t1, t2⟩ := filt_in et
    unfold upI
    rw [cnt_app, cnt_filter er, cnt_filter et, deeper_iff S (F.inR r r1) t1 hx r2 t2, deeper_iff F (S.inR t t1) r1 hx t2 r2, con_iff F r1 (S.inR t t1) hx r2 t2]
    by_cases h1 : dp r.1 < dp t.1
    · rw [decide_eq_true h1, decide_eq_false (show ¬ dp t.1 < dp r.1 by omega), decide_eq_false (show ¬ dp r.1 = dp t.1 by omega)]; rfl
    · rw [decide_eq_false h1]
      by_cases h2 : dp t.1 < dp r.1
      · rw [decide_eq_true h2]; rfl
      · rw [decide_eq_false h2, decide_eq_true (show dp r.1 = dp t.1 by omega)]; rfl
theorem Til.lower {f s : List Ru} (F : Til f) (S : Til s) : Til (loI f s) := by
  refine .of (fun r hr => ?_) (fun x hx => ?_)
  · rcases List.mem_append.mp hr with h | h
    · exact F.inR r (List.mem_filter.mp h).1
    · exact S.inR r (List.mem_filter.mp h).1
  · obtain ⟨r, er⟩ := one_of (F.one x hx)
    obtain ⟨t, et⟩ := one_of (S.one x hx)
    obtain ⟨r1, r2⟩ := filt_in er
    obtain ⟨t1, t2⟩ := filt_in et
    unfold loI
    rw [cnt_app, cnt_filter er, cnt_filter et, deeper_iff S (F.inR r r1) t1 hx r2 t2, deeper_iff F (S.inR t t1) r1 hx t2 r2, con_iff S t1 (F.inR r r1) hx t2 r2]
    by_cases h1 : dp r.1 < dp t.1
    · rw [decide_eq_true h1, decide_eq_false (show ¬ dp t.1 < dp r.1 by omega)]; rfl
    · rw [decide_eq_false h1]
      by_cases h2 : dp t.1 < dp r.1
      · rw [decide_eq_true h2, decide_eq_false (show ¬ dp t.1 = dp r.1 by omega)]; rfl
      · rw [decide_eq_false h2, decide_eq_true (show dp t.1 = dp r.1 by omega)]; rfl
/-- nowhere deeper -/
noncomputable def le (T U : List Ru) : Prop := ∀ t ∈ T, ∀ u ∈ U, ∀ x, x < 64 → has t x = true → has u x = true → dp t.1 ≤ dp u.1
theorem lo_le_up {f s : List Ru} (F : Til f) (S : Til s) : le (loI f s) (upI f s) := by
  intro a ha b hb x hx h1 h2
  obtain ⟨r, r1, r2⟩ := ex_of (F.one x hx)
  obtain ⟨t, t1, t2⟩ := ex_of (S.one x hx)
  have e1 : ∀ c ∈ f, has c x = true → c = r := fun c hc h => uniq_of (Nat.le_of_eq (F.one x hx)) hc r1 h r2
  have e2 : ∀ c ∈ s, has c x = true → c = t := fun c hc h => uniq_of (Nat.le_of_eq (S.one x hx)) hc t1 h t2
  have d1 := deeper_iff S (F.inR r r1) t1 hx r2 t2
  have d2 := deeper_iff F (S.inR t t1) r1 hx t2 r2
  have c2 := con_iff S t1 (F.inR r r1) hx t2 r2
  rcases List.mem_append.mp ha with ha | ha <;> rcases List.mem_append.mp hb with hb | hb <;> obtain ⟨ha, pa⟩ := List.mem_filter.mp ha <;> obtain ⟨hb, pb⟩ := List.mem_filter.mp hb
  · rw [e1 a ha h1, e1 b hb h2]; exact Nat.le_refl _
  · have := e1 a ha h1; subst this
    have := e2 b hb h2; subst this
    rw [d1, c2] at pa
    simp only [Bool.or_eq_true, decide_eq_true_eq] at pa
    omega
  · have := e2 a ha h1; subst this
    have := e1 b hb h2; subst this
    rw [d2] at pa
    simp only [decide_eq_true_eq] at pa
    omega
  · rw [e2 a ha h1, e2 b hb h2]; exact Nat.le_refl _
-- masks
theorem bits_sum : ∀ (k n : Nat), n < 2 ^ k → ((List.range k).map fun x => b1 (n.testBit x) * 2 ^ x).sum = n
  | 0, n, h => by
    have : n = 0 := Nat.lt_one_iff.mp h
    subst this; rfl
  | k + 1, n, h => by
    have ih := bits_sum k (n % 2 ^ k) (Nat.mod_lt _ (Nat.two_pow_pos k))
    have e : ((List.range k).map fun x => b1 (n.testBit x) * 2 ^ x).sum = ((List.range k).map fun x => b1 ((n % 2 ^ k).testBit x) * 2 ^ x).sum := sum_congr fun x hx => by
      rw [Nat.testBit_mod_two_pow, decide_eq_true (List.mem_range.mp hx), Bool.true_and]
    rw [List.range_succ, List.map_append, List.sum_append, e, ih, List.map_singleton, List.sum_singleton]
    have q : n / 2 ^ k < 2 := Nat.div_lt_of_lt_mul (by rw [Nat.pow_succ] at h; exact h)
    have tb : n.testBit k = decide (n / 2 ^ k % 2 = 1) := Nat.testBit_eq_decide_div_mod_eq
    have dm := Nat.div_add_mod n (2 ^ k)
    rw [tb]
    have z : n / 2 ^ k = 0 ∨ n / 2 ^ k = 1 := by
      revert q
      generalize n / 2 ^ k = m
      intro q
      match m, q with
      | 0, _ => exact .inl rfl
      | 1, _ => exact .inr rfl
    rcases z with z | z
    · rw [z] at dm ⊢
      rw [Nat.mul_zero, Nat.zero_add] at dm
      exact (congrArg (n % 2 ^ k + ·) (Nat.zero_mul _)).trans dm
    · rw [z] at dm ⊢
      rw [Nat.mul_one, Nat.add_comm] at dm
      exact (congrArg (n % 2 ^ k + ·) (Nat.one_mul _)).trans dm
theorem val_eq {r : Ru} (h : r ∈ R32) : ((List.range 64).map fun x => b1 (has r x) * 2 ^ x).sum = mk r := bits_sum 64 (mk r) (mk_lt h)
theorem b1_and (a b : Bool) (p : Nat) : b1 a * (b1 b * p) = b1 (a && b) * p := by
  cases a
  · exact (Nat.zero_mul _).trans (Nat.zero_mul _).symm
  · exact Nat.one_mul _
theorem and_eq {r t : Ru} (h : r ∈ R32) : ((List.range 64).map fun x => b1 (has r x) * (b1 (has t x) * 2 ^ x)).sum = mk r &&& mk t := by
  rw [← bits_sum 64 (mk r &&& mk t) (Nat.lt_of_le_of_lt Nat.and_le_left (mk_lt h))]
  refine sum_congr fun x _ => ?_
  rw [and_has, b1_and]
theorem k_pos : (R32.all fun r => mk r != 0) = true := by decide +kernel
theorem sum_zero {α : Type} {g : α → Nat} : ∀ {l : List α}, (∀ t ∈ l, g t = 0) → (l.map g).sum = 0
  | [], _ => rfl
  | t :: l, h => by
    rw [List.map_cons, List.sum_cons, h t (List.mem_cons_self ..), sum_zero fun u hu => h u (List.mem_cons_of_mem _ hu)]
theorem sum_drop {α : Type} {g : α → Nat} {P : α → Bool} : ∀ {l : List α}, (∀ t ∈ l, P t = false → g t = 0) → ((l.filter P).map g).sum = (l.map g).sum
  | [], _ => rfl
  | t :: l, h => by
    have ih := sum_drop (l := l) (g := g) (P := P) fun u hu => h u (List.mem_cons_of_mem _ hu)
    rw [List.filter_cons, List.map_cons, List.sum_cons]
    cases e : P t with
    | true => simp only [if_true, List.map_cons, List.sum_cons]; rw [ih]
    | false => simp only [Bool.false_eq_true, if_false]; rw [ih, h t (List.mem_cons_self ..) e, Nat.zero_add]
theorem Til.sum {l : List Ru} (T : Til l) (w : Nat → Nat) : (l.map fun r => ((List.range 64).map fun x => b1 (has r x) * w x).sum).sum = ((List.range 64).map w).sum := by
  rw [sum_swap (fun r x => b1 (has r x) * w x)]
  refine sum_congr fun x hx => ?_
  have : (l.map fun r => b1 (has r x) * w x).sum = w x * (l.map fun r => b1 (has r x)).sum := by
    rw [← sum_mul]; exact sum_congr fun r _ => Nat.mul_comm ..
  rw [this]
  have c := T.one x (List.mem_range.mp hx)
  unfold cnt at c
  rw [c, Nat.mul_one]
theorem Til.all {l : List Ru} (T : Til l) : (l.map Mine.mk).sum = 2 ^ 64 - 1 := by
  rw [sum_congr (h := fun r => ((List.range 64).map fun x => b1 (has r x) * 2 ^ x).sum) fun r hr => (val_eq (T.inR r hr)).symm]
  rw [T.sum fun x => 2 ^ x]
  decide +kernel
noncomputable def moreI (s : List Ru) (r : Ru) : Nat := ((s.filter fun t => Nat.blt (dp r.1) (dp t.1)).map fun t => mk r &&& mk t).sum
theorem not_meets {r t : Ru} (h : meets r t = false) : mk r &&& mk t = 0 := by
  unfold meets at h
  simpa using h
theorem more_eq {s : List Ru} (S : Til s) {r : Ru} (hr : r ∈ R32) : moreI s r = if deeper r s then mk r else 0 := by
  unfold moreI
  cases e : deeper r s with
  | false =>
    rw [if_neg (by decide)]
    refine sum_zero fun t ht => ?_
    obtain ⟨h1, h2⟩ := List.mem_filter.mp ht
    apply not_meets
    cases m : meets r t with
    | false => rfl
    | true =>
      have : deeper r s = true := List.any_eq_true.mpr ⟨t, h1, by rw [m, h2]; rfl⟩
      rw [e] at this; cases this
  | true =>
    rw [if_pos rfl]
    obtain ⟨q, hq, e⟩ := List.any_eq_true.mp e
    rw [Bool.and_eq_true, Nat.blt_eq] at e
    rw [sum_drop fun t ht hf => ?_]
    · rw [sum_congr (h := fun t => ((List.range 64).map fun x => b1 (has t x) * (b1 (has r x) * 2 ^ x)).sum) fun t ht => ?_]
      · rw [S.sum fun x => b1 (has r x) * 2 ^ x]
        exact val_eq hr
      · rw [Nat.and_comm]
        exact (and_eq (S.inR t ht)).symm
    · apply not_meets
      cases m : meets r t with
      | false => rfl
      | true =>
        have hle : dp t.1 ≤ dp r.1 := by
          apply Nat.le_of_not_lt
          intro h
          rw [← Nat.blt_eq] at h
          rw [hf] at h; cases h
        have := S.same hq ht (tri hr (S.inR q hq) (S.inR t ht) e.1 e.2 m hle)
        subst this; omega
end Mine
end
section
set_option maxRecDepth 100000
set_option maxHeartbeats 0
namespace Mine
theorem k_xor : (R32.all fun r => (ds2 1 r == 0) || (List.range 64).all fun x => (!(has r x) || has (sibS 1 r) (x ^^^ 2 ^ dp r.1)) && (!(has (sibS 1 r) x) || has r (x ^^^ 2 ^ dp r.1)) && Nat.blt (x ^^^ 2 ^ dp r.1) 64) = true := by decide +kernel
theorem k_sw : (R32.all fun r => R32.all fun u => (ds2 1 r == 0) || !(Nat.blt (dp r.1) (dp u.1)) || (List.range 64).all fun x => !(has r x || has (sibS 1 r) x) || !(has u x) || has u (x ^^^ 2 ^ dp r.1)) = true := by decide +kernel
theorem k_dep : (R32.all fun r => dp r.1 + dp r.2 == 3 && Nat.blt r.1 15 && Nat.blt r.2 15 && ((ds2 1 r == 0) || dp (upA 1 r).1 == dp r.1 + 1 && dp (upB 1 r).1 == dp r.1 + 1)) = true := by decide +kernel
theorem dep3 {r : Ru} (hr : r ∈ R32) : dp r.1 + dp r.2 = 3 ∧ r.1 < 15 ∧ r.2 < 15 := by
  have := allR k_dep hr
  simp only [Bool.and_eq_true, beq_iff_eq, Nat.blt_eq] at this
  exact ⟨this.1.1.1, this.1.1.2, this.1.2⟩
theorem dep_up {r : Ru} (hr : r ∈ R32) (h : ds2 1 r ≠ 0) : dp (upA 1 r).1 = dp r.1 + 1 ∧ dp (upB 1 r).1 = dp r.1 + 1 := by
  have := allR k_dep hr
  simp only [Bool.and_eq_true, beq_iff_eq, Nat.blt_eq, Bool.or_eq_true] at this
  rcases this.2 with e | e
  · exact absurd e h
  · exact e
theorem xor_ok {r : Ru} (hr : r ∈ R32) (h : ds2 1 r ≠ 0) {x : Nat} (hx : x < 64) : (has r x = true → has (sibS 1 r) (x ^^^ 2 ^ dp r.1) = true) ∧ (has (sibS 1 r) x = true → has r (x ^^^ 2 ^ dp r.1) = true) ∧ x ^^^ 2 ^ dp r.1 < 64 := by
  have := allR k_xor hr
  simp only [Bool.or_eq_true, beq_iff_eq] at this
  rcases this with e | e
  · exact absurd e h
  · have := allX e hx
    simp only [Bool.and_eq_true, Bool.or_eq_true, Bool.not_eq_true', Nat.blt_eq] at this
    refine ⟨fun q => ?_, fun q => ?_, this.2⟩
    · rcases this.1.1 with z | z
      · rw [q] at z; cases z
      · exact z
    · rcases this.1.2 with z | z
      · rw [q] at z; cases z
      · exact z
theorem sw_ok {r u : Ru} (hr : r ∈ R32) (hu : u ∈ R32) (h : ds2 1 r ≠ 0) (hd : dp r.1 < dp u.1) {x : Nat} (hx : x < 64) (h1 : has r x = true ∨ has (sibS 1 r) x = true) (h2 : has u x = true) : has u (x ^^^ 2 ^ dp r.1) = true := by
  have := allR (allR k_sw hr) hu
  have e2 : Nat.blt (dp r.1) (dp u.1) = true := by rw [Nat.blt_eq]; exact hd
  rw [e2] at this
  simp only [Bool.or_eq_true, beq_iff_eq, Bool.not_true, Bool.false_eq_true, or_false] at this
  rcases this with e | e
  · exact absurd e h
  · have := allX e hx
    have e1 : (has r x || has (sibS 1 r) x) = true := by rw [Bool.or_eq_true]; exact h1
    rw [e1, h2] at this
    simpa using this
theorem up_lt {T U : List Ru} (hT : Til T) (hU : Til U) (L : le T U) {r u : Ru} (hr : r ∈ T) (hn : r ∉ U) (hu : u ∈ U) {x : Nat} (hx : x < 64) (h1 : has r x = true) (h2 : has u x = true) : dp r.1 < dp u.1 := by
  have := L r hr u hu x hx h1 h2
  rcases Nat.lt_or_eq_of_le this with h | h
  · exact h
  · exact absurd (same_of (hT.inR r hr) (hU.inR u hu) hx h1 h2 h ▸ hu) hn
theorem dp_le {r : Ru} (hr : r ∈ R32) : dp r.1 ≤ 3 := by have := dep3 hr; omega
theorem ds_ne {r : Ru} (hr : r ∈ R32) (h : dp r.1 < 3) : ds2 1 r ≠ 0 := by
  have := dep3 hr
  show (if (1 : Nat) = 1 then dp r.2 else dp r.1) ≠ 0
  rw [if_pos rfl]; omega
theorem raise_go {T U : List Ru} (hT : Til T) (hU : Til U) (L : le T U) {r : Ru} (hr : r ∈ T) (hn : r ∉ U) (hm : ∀ t ∈ T, dp t.1 < dp r.1 → t ∈ U) : ∃ q ∈ T, q ∉ U ∧ ds2 1 q ≠ 0 ∧ sibS 1 q ∈ T := by
  have rR := hT.inR r hr
  obtain ⟨x, hx, h1⟩ := has_some rR
  obtain ⟨u, hu, h2⟩ := ex_of (hU.one x hx)
  have d := up_lt hT hU L hr hn hu hx h1 h2
  have uR := hU.inR u hu
  have nz := ds_ne rR (by have := dp_le uR; omega)
  obtain ⟨x1, x2, hy⟩ := xor_ok rR nz hx
  have hsy := x1 h1
  have huy := sw_ok rR uR nz d hx (.inl h1) h2
  obtain ⟨t, ht, h3⟩ := ex_of (hT.one _ hy)
  have tR := hT.inR t ht
  refine ⟨r, hr, hn, nz, ?_⟩
  rcases Nat.lt_trichotomy (dp t.1) (dp r.1) with q | q | q
  · have := uniq_of (Nat.le_of_eq (hU.one _ hy)) (hm t ht q) hu h3 huy
    subst this; omega
  · obtain ⟨f1, _, _, _⟩ := turn_facts rR (s := 1) (by decide) nz
    have : t = sibS 1 r := same_of tR f1 hy h3 hsy q
    rw [← this]; exact ht
  · have hb := sw_ok rR tR nz q hy (.inr hsy) h3
    rw [Nat.xor_assoc, Nat.xor_self, Nat.xor_zero] at hb
    have := uniq_of (Nat.le_of_eq (hT.one _ hx)) ht hr hb h1
    subst this; omega
/-- one of the rules that the upper list hasn't can be turned up -/
theorem raise_ex {T U : List Ru} (hT : Til T) (hU : Til U) (L : le T U) : ∀ (n : Nat) {r : Ru}, dp r.1 ≤ n → r ∈ T → r ∉ U → ∃ q ∈ T, q ∉ U ∧ ds2 1 q ≠ 0 ∧ sibS 1 q ∈ T := by
  intro n
  induction n with
  | zero =>
    intro r hn hr hU'
    exact raise_go hT hU L hr hU' fun t ht hd => absurd hd (by omega)
  | succ n ih =>
    intro r hn hr hU'
    by_cases h : ∃ t ∈ T, dp t.1 < dp r.1 ∧ t ∉ U
    · obtain ⟨t, ht, hd, hu⟩ := h
      exact ih (by omega) ht hu
    · exact raise_go hT hU L hr hU' fun t ht hd => Classical.byContradiction fun c => h ⟨t, ht, hd, c⟩
theorem raise_le {T U : List Ru} (hT : Til T) (hU : Til U) (L : le T U) {p m : Nat} (hp : p < 8) (hm : m < 8) (hn : T.getD p (0, 0) ∉ U) (hd : ds2 1 (T.getD p (0, 0)) ≠ 0) : le (trn T p m 1) U := by
  have lp : p < T.length := by rw [hT.len]; exact hp
  have hr := get_in lp
  have rR := hT.inR _ hr
  obtain ⟨d1, d2⟩ := dep_up rR hd
  have key : ∀ u ∈ U, ∀ x, x < 64 → has u x = true → 1 ≤ b1 (has (upA 1 (T.getD p (0, 0))) x) + b1 (has (upB 1 (T.getD p (0, 0))) x) → dp (T.getD p (0, 0)).1 + 1 ≤ dp u.1 := by
    intro u hu x hx h2 h
    rw [← turn_has rR (by decide) hd hx] at h
    cases e : has (T.getD p (0, 0)) x with
    | true => exact up_lt hT hU L hr hn hu hx e h2
    | false =>
      cases e2 : has (sibS 1 (T.getD p (0, 0))) x with
      | false => rw [e, e2] at h; exact absurd h (by decide)
      | true =>
        obtain ⟨_, x2, hy⟩ := xor_ok rR hd hx
        have hry := x2 e2
        obtain ⟨v, hv, h3⟩ := ex_of (hU.one _ hy)
        have dv := up_lt hT hU L hr hn hv hy hry h3
        have hb := sw_ok rR (hU.inR v hv) hd dv hy (.inl hry) h3
        rw [Nat.xor_assoc, Nat.xor_self, Nat.xor_zero] at hb
        have := uniq_of (Nat.le_of_eq (hU.one _ hx)) hv hu hb h2
        subst this; exact dv
  intro t ht u hu x hx h1 h2
  rcases trn_mem ht with h | h | h
  · exact L t h u hu x hx h1 h2
  · subst h
    rw [d1]
    exact key u hu x hx h2 (by rw [h1]; show 1 ≤ 1 + _; omega)
  · subst h
    rw [d2]
    exact key u hu x hx h2 (by rw [h1]; show 1 ≤ _ + 1; omega)
noncomputable def dsum (l : List Ru) : Nat := (l.map fun r => dp r.1).sum
theorem dsum_turn {T : List Ru} (hT : Til T) {p m : Nat} (hp : p < 8) (hm : m < 8) (h : p ≠ m) (hd : ds2 1 (T.getD p (0, 0)) ≠ 0) (e : T.getD m (0, 0) = sibS 1 (T.getD p (0, 0))) : dsum (trn T p m 1) = dsum T + 2 := by
  have lp : p < T.length := by rw [hT.len]; exact hp
  have lm : m < T.length := by rw [hT.len]; exact hm
  obtain ⟨d1, d2⟩ := dep_up (hT.inR _ (get_in lp)) hd
  have s := trn_sum lp lm h (s := 1) fun r => dp r.1
  rw [e] at s
  simp only [d1, d2] at s
  have : dp (sibS 1 (T.getD p (0, 0))).1 = dp (T.getD p (0, 0)).1 := rfl
  rw [this] at s
  unfold dsum
  omega
theorem sum_le {α : Type} {g : α → Nat} {c : Nat} : ∀ {l : List α}, (∀ t ∈ l, g t ≤ c) → (l.map g).sum ≤ c * l.length
  | [], _ => by simp
  | t :: l, h => by
    have ih := sum_le (l := l) (g := g) fun u hu => h u (List.mem_cons_of_mem _ hu)
    have := h t (List.mem_cons_self ..)
    rw [List.map_cons, List.sum_cons, List.length_cons, Nat.mul_add]
    omega
theorem dsum_le {T : List Ru} (hT : Til T) : dsum T ≤ 24 := by
  have := sum_le (l := T) (g := fun r => dp r.1) (c := 3) fun r hr => dp_le (hT.inR r hr)
  rw [hT.len] at this
  exact this
theorem at_sum {l : List Ru} {x : Nat} {t : Ru} (h : l.filter (fun r => has r x) = [t]) (g : Ru → Nat) : (l.map fun r => b1 (has r x) * g r).sum = g t := by
  rw [← sum_drop (P := fun r => has r x) fun r _ hf => by rw [hf]; exact Nat.zero_mul _]
  rw [h]
  have := (filt_in h).2
  simp only [List.map_cons, List.map_nil, List.sum_cons, List.sum_nil]
  rw [this]
  show 1 * g t + 0 = g t
  omega
theorem dsum8 {T : List Ru} (hT : Til T) : 8 * dsum T = ((List.range 64).map fun x => (T.map fun r => b1 (has r x) * dp r.1).sum).sum := by
  rw [← sum_swap (fun r x => b1 (has r x) * dp r.1)]
  unfold dsum
  rw [← sum_mul]
  refine sum_congr fun r hr => ?_
  have a := eq_of_beq (allR k_area (hT.inR r hr))
  have : ((List.range 64).map fun x => b1 (has r x) * dp r.1).sum = dp r.1 * ((List.range 64).map fun x => b1 (has r x)).sum := by
    rw [← sum_mul]; exact sum_congr fun x _ => Nat.mul_comm ..
  rw [this, a, Nat.mul_comm]
theorem dsum_eq {T U : List Ru} (hT : Til T) (hU : Til U) (h : ∀ r ∈ T, r ∈ U) : dsum T = dsum U := by
  have a := dsum8 hT
  have b := dsum8 hU
  have : ((List.range 64).map fun x => (T.map fun r => b1 (has r x) * dp r.1).sum).sum = ((List.range 64).map fun x => (U.map fun r => b1 (has r x) * dp r.1).sum).sum := sum_congr fun x hx => by
    have hx := List.mem_range.mp hx
    obtain ⟨t, et⟩ := one_of (hT.one x hx)
    obtain ⟨u, eu⟩ := one_of (hU.one x hx)
    rw [at_sum et fun r => dp r.1, at_sum eu fun r => dp r.1]
    obtain ⟨t1, t2⟩ := filt_in et
    obtain ⟨u1, u2⟩ := filt_in eu
    rw [uniq_of (Nat.le_of_eq (hU.one x hx)) (h t t1) u1 t2 u2]
  omega
end Mine
end
section
open PySem PySem.W PyProof.Rows PySem.Calls PySem.Spec
set_option maxRecDepth 100000
set_option maxHeartbeats 0
namespace Mine
noncomputable def grp (i : Nat) : List Nat := grp15.getD i []
noncomputable def und (n m : Nat) : Bool := (colM.getD m 0 &&& colM.getD n 0) == colM.getD m 0
noncomputable def sdI (s : Nat) (r : Ru) : Nat := if s = 0 then r.1 else r.2
noncomputable def bx (s n : Nat) : Ru := if s = 0 then (n, 0) else (0, n)
noncomputable def putI (s : Nat) (b : Ru) (n : Nat) : Ru := if s = 0 then (n, b.2) else (b.1, n)
/-- the rules are a list for a box -/
structure TB (k : Nat) (b : Ru) (l : List Ru) : Prop where
  inR : ∀ r ∈ l, r ∈ R32 ∧ und b.1 r.1 = true ∧ und b.2 r.2 = true
  cn : ∀ x, x < 64 → cnt l x = b1 (has b x)
  dep : dp b.1 + dp b.2 + k = 3
  lt : b.1 < 15 ∧ b.2 < 15
theorem k_box : ((List.range 15).all fun i => (List.range 15).all fun j => Nat.blt 3 (dp i + dp j) || ((List.range 64).map fun x => b1 (has (i, j) x)).sum == 8 * 2 ^ (3 - dp i - dp j)) = true := by decide +kernel
theorem TB.len {k : Nat} {b : Ru} {l : List Ru} (T : TB k b l) : l.length = 2 ^ k := by
  have s := sum_swap (fun r x => b1 (has r x)) (List.range 64) l
  have e1 : (l.map fun r => ((List.range 64).map fun x => b1 (has r x)).sum).sum = (l.map fun _ => 8).sum := sum_congr fun r hr => eq_of_beq (allR k_area (T.inR r hr).1)
  have e2 : ((List.range 64).map fun x => (l.map fun r => b1 (has r x)).sum).sum = ((List.range 64).map fun x => b1 (has b x)).sum := sum_congr fun x hx => T.cn x (List.mem_range.mp hx)
  have e4 : ∀ l : List Ru, (l.map fun _ => 8).sum = 8 * l.length := fun l => by
    induction l with
    | nil => rfl
    | cons r l ih => simp only [List.map_cons, List.sum_cons, List.length_cons]; omega
  have a := allX (allX k_box T.lt.1) T.lt.2
  have d := T.dep
  have e5 : Nat.blt 3 (dp b.1 + dp b.2) = false := by
    rw [Bool.eq_false_iff, Ne, Nat.blt_eq]; omega
  have e6 : 3 - dp b.1 - dp b.2 = k := by omega
  rw [e5, e6] at a
  simp only [Bool.false_or, beq_iff_eq] at a
  rw [e1, e2, e4, a] at s
  omega
theorem k_base : ((List.range 15).all fun i => (List.range 15).all fun j => R32.all fun r => !(dp i + dp j == 3) || !(und i r.1) || !(und j r.2) || (r == (i, j))) = true := by decide +kernel
theorem k_half : ((List.range 7).all fun n => ((grp n).take ((grp n).length / 2) == grp (2 * n + 1)) && ((grp n).drop ((grp n).length / 2) == grp (2 * n + 2)) && (dp (2 * n + 1) == dp n + 1) && (dp (2 * n + 2) == dp n + 1)) = true := by decide +kernel
theorem k_in : ((List.range 7).all fun n => (List.range 15).all fun m => !(und n m) || (n == m) || (((grp (2 * n + 1)).contains ((grp m).getD 0 0) == und (2 * n + 1) m) && ((grp (2 * n + 2)).contains ((grp m).getD 0 0) == und (2 * n + 2) m) && !((grp m).length == (grp n).length))) = true := by decide +kernel
theorem k_f1 : ((List.range 2).all fun s => (List.range 7).all fun n => (List.range 2).all fun c => R32.all fun r => !(und n (sdI s r)) || (sdI s r == n) || (List.range 64).all fun x => !(has r x) || (und (2 * n + 1 + c) (sdI s r) == has (bx s (2 * n + 1 + c)) x)) = true := by decide +kernel
theorem k_f2 : ((List.range 2).all fun s => (List.range 15).all fun i => (List.range 15).all fun j => Nat.ble 7 (sdI s (i, j)) || (List.range 2).all fun c => (mk (i, j) &&& mk (bx s (2 * sdI s (i, j) + 1 + c))) == mk (putI s (i, j) (2 * sdI s (i, j) + 1 + c))) = true := by decide +kernel
theorem has_and {a b c : Ru} (h : mk a &&& mk b = mk c) (x : Nat) : (has a x && has b x) = has c x := by
  rw [← and_has, h]; rfl
theorem k_node : ((List.range 15).all fun n => Nat.blt n 7 || (dp n == 3)) = true := by decide +kernel
theorem node_lt {n : Nat} (h : n < 15) (hd : dp n ≤ 2) : n < 7 := by
  have := allX k_node h
  simp only [Bool.or_eq_true, Nat.blt_eq, beq_iff_eq] at this
  omega
theorem TB.sd {k : Nat} {b : Ru} {l : List Ru} (T : TB k b l) {r : Ru} (hr : r ∈ l) : ∀ s, s < 2 → und (sdI s b) (sdI s r) = true
  | 0, _ => (T.inR r hr).2.1
  | 1, _ => (T.inR r hr).2.2
theorem TB.nodes {k : Nat} {b : Ru} {l : List Ru} (T : TB (k + 1) b l) : ∀ s, s < 2 → sdI s b < 7
  | 0, _ => node_lt T.lt.1 (by have := T.dep; show dp b.1 ≤ 2; omega)
  | 1, _ => node_lt T.lt.2 (by have := T.dep; show dp b.2 ≤ 2; omega)
theorem sum_and {l : List Ru} {P : Ru → Bool} {q : Bool} {x : Nat} (h : ∀ r ∈ l, has r x = true → P r = q) : cnt (l.filter P) x = if q then cnt l x else 0 := by
  unfold cnt
  have e : ((l.filter P).map fun r => b1 (has r x)).sum = (l.map fun r => b1 (P r && has r x)).sum := by
    induction l with
    | nil => rfl
    | cons a l ih =>
      have := ih fun r hr => h r (List.mem_cons_of_mem _ hr)
      rw [List.filter_cons, List.map_cons, List.sum_cons]
      cases P a with
      | true => simp only [if_true, List.map_cons, List.sum_cons, Bool.true_and]; rw [this]
      | false => simp only [Bool.false_eq_true, if_false, Bool.false_and]; rw [this]; show _ = 0 + _; omega
  rw [e]
  cases q with
  | true =>
    rw [if_pos rfl]
    refine sum_congr fun r hr => ?_
    cases e : has r x with
    | true => rw [h r hr e]; rfl
    | false => rw [Bool.and_false]
  | false =>
    rw [if_neg (by decide)]
    refine sum_zero fun r hr => ?_
    cases e : has r x with
    | true => rw [h r hr e]; rfl
    | false => rw [Bool.and_false]; rfl
theorem k_hd : ((List.range 7).all fun n => (List.range 2).all fun c => dp (2 * n + 1 + c) == dp n + 1) = true := by decide +kernel
theorem k_cross : (R32.all fun q => R32.all fun r => !(und q.1 r.1) || !(und r.2 q.2) || meets q r) = true := by decide +kernel
theorem k_root : (R32.all fun r => und 0 r.1 && und 0 r.2) = true := by decide +kernel
theorem k_full : ((List.range 64).all fun x => has (0, 0) x) = true := by decide +kernel
theorem putI_und {b r : Ru} {n : Nat} (h1 : und b.1 r.1 = true) (h2 : und b.2 r.2 = true) : ∀ s, s < 2 → und n (sdI s r) = true → und (putI s b n).1 r.1 = true ∧ und (putI s b n).2 r.2 = true
  | 0, _, h => ⟨h, h2⟩
  | 1, _, h => ⟨h1, h⟩
theorem putI_dep {b : Ru} {n k : Nat} (h : dp b.1 + dp b.2 + (k + 1) = 3) : ∀ s, s < 2 → dp n = dp (sdI s b) + 1 → dp (putI s b n).1 + dp (putI s b n).2 + k = 3
  | 0, _, e => by
    have e : dp n = dp b.1 + 1 := e
    show dp n + dp b.2 + k = 3
    omega
  | 1, _, e => by
    have e : dp n = dp b.2 + 1 := e
    show dp b.1 + dp n + k = 3
    omega
theorem putI_lt {b : Ru} {n : Nat} (h : b.1 < 15 ∧ b.2 < 15) (hn : n < 15) : ∀ s, s < 2 → (putI s b n).1 < 15 ∧ (putI s b n).2 < 15
  | 0, _ => ⟨hn, h.2⟩
  | 1, _ => ⟨h.1, hn⟩
theorem TB.half {k : Nat} {b : Ru} {l : List Ru} (T : TB (k + 1) b l) {s : Nat} (hs : s < 2) (hne : ∀ r ∈ l, sdI s r ≠ sdI s b) {c : Nat} (hc : c < 2) : TB k (putI s b (2 * sdI s b + 1 + c)) (l.filter fun r => und (2 * sdI s b + 1 + c) (sdI s r)) := by
  have hn := T.nodes s hs
  have hd : dp (2 * sdI s b + 1 + c) = dp (sdI s b) + 1 := eq_of_beq (allX (allX k_hd hn) hc)
  have T2 := T.lt
  have T3 := T.dep
  refine ⟨fun r hr => ?_, fun x hx => ?_, ?_, ?_⟩
  · obtain ⟨h1, h2⟩ := List.mem_filter.mp hr
    obtain ⟨i1, i2, i3⟩ := T.inR r h1
    exact ⟨i1, putI_und i2 i3 s hs h2⟩
  · have e := sum_and (l := l) (P := fun r => und (2 * sdI s b + 1 + c) (sdI s r)) (q := has (bx s (2 * sdI s b + 1 + c)) x) (x := x) fun r hr hx1 => by
      have := allR (allX (allX (allX k_f1 hs) hn) hc) (T.inR r hr).1
      rw [T.sd hr s hs] at this
      simp only [Bool.not_true, Bool.false_or, Bool.or_eq_true, beq_iff_eq] at this
      rcases this with z | z
      · exact absurd z (hne r hr)
      · have := allX z hx
        rw [hx1] at this
        simpa using this
    rw [e, T.cn x hx]
    have f2 := allX (allX (allX k_f2 hs) T2.1) T2.2
    have e7 : Nat.ble 7 (sdI s (b.1, b.2)) = false := by
      rw [Bool.eq_false_iff, Ne, Nat.ble_eq]; show ¬ 7 ≤ sdI s b; omega
    rw [e7] at f2
    simp only [Bool.false_or] at f2
    have f3 := has_and (eq_of_beq (allX f2 hc)) x
    show _ = b1 (has (putI s (b.1, b.2) (2 * sdI s (b.1, b.2) + 1 + c)) x)
    rw [← f3]
    show (if has (bx s (2 * sdI s b + 1 + c)) x then b1 (has b x) else 0) = b1 (has b x && has (bx s (2 * sdI s b + 1 + c)) x)
    cases has (bx s (2 * sdI s b + 1 + c)) x with
    | true => rw [if_pos rfl, Bool.and_true]
    | false => rw [if_neg (by decide), Bool.and_false]; rfl
  · exact putI_dep T3 s hs hd
  · exact putI_lt T2 (by omega) s hs
section
variable {A B : Str → List Nat} {st : Ru → Str × Str}
theorem ab_st {r : Ru} (h1 : A (st r).1 = grp r.1) (h2 : B (st r).2 = grp r.2) : ∀ s, s < 2 → ABs s A B (sd s (st r)) = grp (sdI s r)
  | 0, _ => h1
  | 1, _ => h2
theorem box_st (b : Ru) : ∀ s, s < 2 → boxS s (grp b.1) (grp b.2) = grp (sdI s b)
  | 0, _ | 1, _ => rfl
theorem two_of {P : Nat → Prop} (h0 : P 0) (h1 : P 1) : ∀ c, c < 2 → P c
  | 0, _ => h0
  | 1, _ => h1
theorem left_st (b : Ru) (n : Nat) : ∀ s, s < 2 → leftS s (grp n) (grp b.1) (grp b.2) = (grp (putI s b n).1, grp (putI s b n).2)
  | 0, _ | 1, _ => rfl
theorem ask_split (hA : ∀ r ∈ R32, A (st r).1 = grp r.1) (hB : ∀ r ∈ R32, B (st r).2 = grp r.2) {k : Nat} {b : Ru} {l : List Ru} (T : TB (k + 1) b l) {s : Nat} (hs : s < 2) (hne : ∀ r ∈ l, sdI s r ≠ sdI s b) (h1 : s = 1 → (grp b.1).length ∈ (l.map st).map fun r => (A r.1).length)
    (ih : ∀ {b : Ru} {l : List Ru}, TB k b l → Ask A B k (l.map st) (grp b.1) (grp b.2)) : Ask A B (k + 1) (l.map st) (grp b.1) (grp b.2) := by
  have hAB : ∀ r ∈ R32, ABs s A B (sd s (st r)) = grp (sdI s r) := fun r hr => ab_st (hA r hr) (hB r hr) s hs
  have hn := T.nodes s hs
  have hh := allX k_half hn
  simp only [Bool.and_eq_true, beq_iff_eq] at hh
  obtain ⟨⟨⟨ht, hdr⟩, _⟩, _⟩ := hh
  have eb : boxS s (grp b.1) (grp b.2) = grp (sdI s b) := box_st b s hs
  have inn : ∀ r ∈ l, ((grp (2 * sdI s b + 1)).contains ((grp (sdI s r)).getD 0 0) = und (2 * sdI s b + 1) (sdI s r) ∧ (grp (2 * sdI s b + 2)).contains ((grp (sdI s r)).getD 0 0) = und (2 * sdI s b + 2) (sdI s r)) ∧ (grp (sdI s r)).length ≠ (grp (sdI s b)).length := fun r hr => by
    have rR := (T.inR r hr).1
    have d := dep3 rR
    have lt : sdI s r < 15 := by unfold sdI; split <;> omega
    have := allX (allX k_in hn) lt
    rw [T.sd hr s hs] at this
    simp only [Bool.not_true, Bool.false_or, Bool.or_eq_true, beq_iff_eq, Bool.and_eq_true, Bool.not_eq_true', beq_eq_false_iff_ne] at this
    rcases this with z | z
    · exact absurd z.symm (hne r hr)
    · exact z
  have ins : ∀ c, c < 2 → insS s A B (grp (2 * sdI s b + 1 + c)) (l.map st) = (l.filter fun r => und (2 * sdI s b + 1 + c) (sdI s r)).map st := fun c hc => by
    unfold insS
    rw [List.filter_map]
    refine congrArg (List.map st) (List.filter_congr fun r hr => ?_)
    show (grp (2 * sdI s b + 1 + c)).contains ((ABs s A B (sd s (st r))).getD 0 0) = _
    rw [hAB r (T.inR r hr).1]
    exact two_of (P := fun c => (grp (2 * sdI s b + 1 + c)).contains ((grp (sdI s r)).getD 0 0) = und (2 * sdI s b + 1 + c) (sdI s r)) (inn r hr).1.1 (inn r hr).1.2 c hc
  have lf : ∀ c, c < 2 → leftS s (grp (2 * sdI s b + 1 + c)) (grp b.1) (grp b.2) = (grp (putI s b (2 * sdI s b + 1 + c)).1, grp (putI s b (2 * sdI s b + 1 + c)).2) := fun c hc => left_st b _ s hs
  have L := T.len
  have H := fun c (hc : c < 2) => T.half hs hne hc
  have i0 := ins 0 (by decide)
  have i1 := ins 1 (by decide)
  have l0 := lf 0 (by decide)
  have l1 := lf 1 (by decide)
  have L0 := (H 0 (by decide)).len
  have L1 := (H 1 (by decide)).len
  have a0 := ih (H 0 (by decide))
  have a1 := ih (H 1 (by decide))
  have p2 : 2 ^ (k + 1) = 2 * 2 ^ k := by rw [Nat.pow_succ]; omega
  have pp := Nat.two_pow_pos k
  have ht' : (boxS s (grp b.1) (grp b.2)).take ((boxS s (grp b.1) (grp b.2)).length / 2) = grp (2 * sdI s b + 1 + 0) := by rw [eb]; exact ht
  have hd' : (boxS s (grp b.1) (grp b.2)).drop ((boxS s (grp b.1) (grp b.2)).length / 2) = grp (2 * sdI s b + 1 + 1) := by rw [eb]; exact hdr
  refine Ask.split s hs ?_ h1 ?_ ?_ ?_ ?_ ?_
  · rw [List.length_map]; omega
  · rw [eb, List.map_map, List.mem_map]
    rintro ⟨r, hr, e⟩
    have e : (ABs s A B (sd s (st r))).length = (grp (sdI s b)).length := e
    rw [hAB r (T.inR r hr).1] at e
    exact (inn r hr).2 e
  · rw [ht', i0, List.length_map, List.length_map]; omega
  · rw [hd', i1, List.length_map, List.length_map]; omega
  · rw [ht', i0, l0]; exact a0
  · rw [hd', i1, l1]; exact a1
theorem ask_of (hA : ∀ r ∈ R32, A (st r).1 = grp r.1) (hB : ∀ r ∈ R32, B (st r).2 = grp r.2) : ∀ (k : Nat) {b : Ru} {l : List Ru}, TB k b l → Ask A B k (l.map st) (grp b.1) (grp b.2) := by
  intro k
  induction k with
  | zero =>
    intro b l T
    obtain ⟨r, rfl⟩ := List.length_eq_one_iff.mp T.len
    obtain ⟨r1, r2, r3⟩ := T.inR r (List.mem_cons_self ..)
    have := allR (allX (allX k_base T.lt.1) T.lt.2) r1
    have d : dp b.1 + dp b.2 = 3 := T.dep
    rw [r2, r3, d] at this
    simp only [BEq.rfl, Bool.not_true, Bool.false_or, beq_iff_eq] at this
    have e : r = b := this
    subst e
    rw [← hA r r1, ← hB r r1]
    exact .one
  | succ k ih =>
    intro b l T
    by_cases h : ∀ r ∈ l, r.1 ≠ b.1
    · exact ask_split hA hB T (s := 0) (by decide) h (fun e => absurd e (by decide)) (fun T => ih T)
    · obtain ⟨q, hq⟩ := Classical.not_forall.mp h
      obtain ⟨hq, e⟩ := Classical.not_imp.mp hq
      have e : q.1 = b.1 := Classical.byContradiction e
      obtain ⟨q1, q2, q3⟩ := T.inR q hq
      refine ask_split hA hB T (s := 1) (by decide) (fun r hr e2 => ?_) (fun _ => ?_) (fun T => ih T)
      · have e2 : r.2 = b.2 := e2
        obtain ⟨r1, r2, r3⟩ := T.inR r hr
        -- the two meet
        have m1 : meets q r = true := by
          have a := r2
          have c := q3
          rw [← e] at a
          rw [← e2] at c
          have m := allR (allR k_cross q1) r1
          rw [a, c] at m
          simpa using m
        obtain ⟨x, hx, h1, h2⟩ := meets_ex q1 r1 m1
        have cn := T.cn x hx
        have cn1 : cnt l x ≤ 1 := by rw [cn]; cases has b x <;> decide
        have := uniq_of cn1 hq hr h1 h2
        subst this
        have d := dep3 q1
        have d' := T.dep
        rw [e, e2] at d
        omega
      · rw [List.map_map, List.mem_map]
        exact ⟨q, hq, by show (A (st q).1).length = _; rw [hA q q1, e]⟩
end
theorem Til.box {l : List Ru} (T : Til l) : TB 3 (0, 0) l := by
  refine ⟨fun r hr => ?_, fun x hx => ?_, by decide, by decide⟩
  · have h := T.inR r hr
    have := allR k_root h
    simp only [Bool.and_eq_true] at this
    exact ⟨h, this.1, this.2⟩
  · rw [T.one x hx]
    have := allX k_full hx
    show 1 = b1 (has (0, 0) x)
    rw [this]; rfl
end Mine
end
section
open PySem PySem.W PyProof.Rows PySem.Calls PySem.Spec
set_option maxRecDepth 100000
set_option maxHeartbeats 0
namespace Mine
noncomputable abbrev cS (N : Int) : List Str := clsS (sgn N) 7
noncomputable abbrev dS (N : Int) : List Str := domS (wordAt N) 7
noncomputable def cAt (N : Int) (i : Nat) : Str := (cS N).getD i e0
noncomputable def dAt (N : Int) (j : Nat) : Str := (dS N).getD j e0
theorem cS_len (N : Int) : (cS N).length = 15 := clsS_len _ _
theorem dS_len (N : Int) : (dS N).length = 15 := domS_len _ _
theorem cAt_in (N : Int) {i : Nat} (h : i < 15) : cAt N i ∈ cS N := getD_in (by rw [cS_len]; exact h)
theorem dAt_in (N : Int) {i : Nat} (h : i < 15) : dAt N i ∈ dS N := getD_in (by rw [dS_len]; exact h)
theorem take_tx (l : List Nat) (k : Nat) (h : k ≤ l.length) : Txt.slice (tx l) none (some (k : Int)) = tx (l.take k) := by
  have e := StrLaws.sliceText_to (x := tx l) (j := (k : Int)) ⟨by omega, by rw [tx_list]; omega⟩
  rw [tx_list] at e
  refine Eq.trans (show Txt.slice (tx l) none (some (k : Int)) = StrLaws.sliceText (tx l) none (some (k : Int)) from rfl) (e.trans ?_)
  unfold tx
  rw [List.drop_zero, Int.sub_zero, Int.toNat_natCast]
noncomputable def widL (l : List Nat) : Nat → List Nat
  | 0 => []
  | k + 1 => if privL (l.take (k + 1)) (95 :: l) then l.take (k + 1) else widL l k
theorem wid_tx {l q : List Nat} {x y : Nat} (h : 95 :: l = q ++ [x, y]) (hy : y ≠ 95) : ∀ k, k ≤ l.length → widK (tx l) k = tx (widL l k)
  | 0, _ => by unfold widK widL; exact emp_tx
  | k + 1, hk => by
    have ih := wid_tx h hy k (by omega)
    unfold widK widL
    have e1 : pre (tx l) (k + 1) = tx (l.take (k + 1)) := take_tx l (k + 1) hk
    have e2 : Str.ofString "_" ++ tx l = tx (95 :: l) := by rw [us_tx, tx_app]; rfl
    have e3 : isPriv (tx (l.take (k + 1))) (tx (95 :: l)) = privL (l.take (k + 1)) (95 :: l) := by
      rw [h, priv_tx, decide_eq_false hy, Bool.and_false, Bool.not_false, Bool.and_true]
    rw [e1, e2, e3, ih]
    cases privL (l.take (k + 1)) (95 :: l) <;> rfl
theorem k_last : (clsT.all fun l => !l.isEmpty && (l.getLastD 0 != 95)) = true := by decide +kernel
theorem last_ok {a b c : Nat} (ha : a ≠ 95) (hb : b ≠ 95) (hc : c ≠ 95) : ∀ l ∈ cls15 a b c, ∃ q x y, 95 :: l = q ++ [x, y] ∧ y ≠ 95 := by
  intro l hl
  rw [cls_rh] at hl
  obtain ⟨w, hw, rfl⟩ := List.mem_map.mp hl
  have h := List.all_eq_true.mp k_last w hw
  rcases List.eq_nil_or_concat w with rfl | ⟨p, y, rfl⟩
  · exact absurd h (by decide)
  · have hy : y ≠ 95 := by
      rw [Bool.and_eq_true, List.concat_eq_append, List.getLastD_concat] at h
      exact bne_iff_ne.mp h.2
    have hy2 : rh a b c y ≠ 95 := fun e => hy ((rh_95 ha hb hc y).mp e)
    rw [List.concat_eq_append, List.map_append]
    rcases List.eq_nil_or_concat p with rfl | ⟨p, x, rfl⟩
    · exact ⟨[], 95, _, rfl, hy2⟩
    · exact ⟨95 :: p.map (rh a b c), rh a b c x, _, by rw [List.concat_eq_append, List.map_append, List.append_assoc]; rfl, hy2⟩
noncomputable def widI (m : List Bool) : Nat → Nat
  | 0 => 0
  | k + 1 => if m.getD (k + 1) false && m.getD (k + 2) false && decide (k + 3 < m.length) then k + 1 else widI m k
theorem pref2 (d : List Nat) : [95, 95] <+: d ↔ (d.map (· == 95)).getD 0 false = true ∧ (d.map (· == 95)).getD 1 false = true := by
  match d with
  | [] => simp
  | [x] => simp
  | x :: y :: d =>
    show _ ↔ (x == 95) = true ∧ (y == 95) = true
    rw [beq_iff_eq, beq_iff_eq, List.cons_prefix_cons, List.cons_prefix_cons]
    constructor
    · rintro ⟨rfl, rfl, _⟩; exact ⟨rfl, rfl⟩
    · rintro ⟨rfl, rfl⟩; exact ⟨rfl, rfl, List.nil_prefix⟩
theorem priv_take {l : List Nat} {k : Nat} (h : k + 1 ≤ l.length) : privL (l.take (k + 1)) (95 :: l) = ((l.map (· == 95)).getD (k + 1) false && (l.map (· == 95)).getD (k + 2) false && decide (k + 3 < (l.map (· == 95)).length)) := by
  unfold privL
  have e0 : (l.take (k + 1)).length = k + 1 := by rw [List.length_take]; omega
  have e1 : decide ((l.take (k + 1)).length + 3 < (95 :: l).length) = decide (k + 3 < (l.map (· == 95)).length) := by
    rw [e0, List.length_cons, List.length_map, Bool.eq_iff_iff, decide_eq_true_eq, decide_eq_true_eq]; omega
  have e2 : (95 :: (l.take (k + 1) ++ [95, 95])).isPrefixOf (95 :: l) = ((l.map (· == 95)).getD (k + 1) false && (l.map (· == 95)).getD (k + 2) false) := by
    rw [Bool.eq_iff_iff, List.isPrefixOf_iff_prefix, List.cons_prefix_cons, Bool.and_eq_true]
    have e3 : l.take (k + 1) ++ [95, 95] <+: l ↔ [95, 95] <+: l.drop (k + 1) := by
      conv => lhs; rhs; rw [← List.take_append_drop (k + 1) l]
      exact List.prefix_append_right_inj _
    rw [e3, pref2]
    have e4 : ∀ i, ((l.drop (k + 1)).map (· == 95)).getD i false = (l.map (· == 95)).getD (k + 1 + i) false := fun i => by
      rw [List.getD_eq_getElem?_getD, List.getD_eq_getElem?_getD, List.getElem?_map, List.getElem?_map, List.getElem?_drop]
    rw [e4, e4]
    exact ⟨fun h => h.2, fun h => ⟨rfl, h⟩⟩
  rw [e1, e2]
theorem widL_I (l : List Nat) : ∀ k, k ≤ l.length → widL l k = l.take (widI (l.map (· == 95)) k)
  | 0, _ => rfl
  | k + 1, h => by
    have ih := widL_I l k (by omega)
    unfold widL widI
    rw [priv_take h, ih]
    split <;> rfl
theorem zip_take (f : List Nat → Nat) : ∀ ls : List (List Nat), ls.map (fun l => l.take (f l)) = List.zipWith (fun l k => l.take k) ls (ls.map f)
  | [] => rfl
  | l :: ls => by rw [List.map_cons, List.map_cons, List.zipWith_cons_cons, zip_take f ls]
theorem k_widI : (clsT.map fun l => l.map (· == 95)).map (fun m => widI m (m.length - 1)) = [0, 1, 1, 4, 4, 6, 6, 7, 7, 9, 9, 9, 9, 11, 11] := by decide +kernel
theorem wid_table {a b c : Nat} (ha : a ≠ 95) (hb : b ≠ 95) (hc : c ≠ 95) : (cls15 a b c).map (fun l => widL l (l.length - 1)) = [] :: (List.range 14).map fun k => (cls15 a b c).getD (k / 2) [] := by
  have h1 : (cls15 a b c).map (fun l => widL l (l.length - 1)) = (cls15 a b c).map fun l => l.take (widI (l.map (· == 95)) (l.length - 1)) := List.map_congr_left fun l _ => widL_I l _ (Nat.sub_le _ _)
  have hI : (cls15 a b c).map (fun l => widI (l.map (· == 95)) (l.length - 1)) = [0, 1, 1, 4, 4, 6, 6, 7, 7, 9, 9, 9, 9, 11, 11] := by
    have : (cls15 a b c).map (fun l => widI (l.map (· == 95)) (l.length - 1)) = ((cls15 a b c).map fun l => l.map (· == 95)).map fun m => widI m (m.length - 1) := by
      rw [List.map_map]
      refine List.map_congr_left fun l _ => ?_
      show _ = widI (l.map (· == 95)) ((l.map (· == 95)).length - 1)
      rw [List.length_map]
    rw [this, us_map ha hb hc]
    exact k_widI
  rw [h1, zip_take, hI]
  rfl
theorem wid_all (N : Int) : (cS N).map wid = e0 :: (List.range 14).map fun k => cAt N (k / 2) := by
  have t := wid_table (sg_ok N 0).1 (sg_ok N 1).1 (sg_ok N 2).1
  have e2 : (List.range 14).map (fun k => cAt N (k / 2)) = ((List.range 14).map fun k => (cls15 (sg N 0) (sg N 1) (sg N 2)).getD (k / 2) []).map tx := by
    rw [List.map_map]
    refine List.map_congr_left fun k _ => ?_
    show (clsS (sgn N) 7).getD (k / 2) e0 = _
    rw [cls_tx, getD_map_tx]; rfl
  show (clsS (sgn N) 7).map wid = _
  rw [e2, cls_tx, List.map_map]
  have e3 : e0 = tx [] := emp_tx
  rw [e3, ← List.map_cons, ← t, List.map_map]
  refine List.map_congr_left fun l hl => ?_
  obtain ⟨q, x, y, h, hy⟩ := last_ok (sg_ok N 0).1 (sg_ok N 1).1 (sg_ok N 2).1 l hl
  show widK (tx l) ((tx l).length - 1) = _
  rw [tx_len, wid_tx h hy _ (by omega)]; rfl
theorem k_grp : ((List.range 15).all fun i => (List.range 15).all fun j => !(grp i == grp j) || (i == j)) = true := by decide +kernel
theorem grp_inj {i j : Nat} (hi : i < 15) (hj : j < 15) (h : grp i = grp j) : i = j := by
  have := allX (allX k_grp hi) hj
  rw [h] at this
  simpa using this
/-- the names, the last one with two signs more -/
noncomputable def nms9 (N : Int) (p : Nat) : List Str := hnames (cS N) ++ [(hnames (cS N)).getD p e0 ++ Str.ofString "__"]
theorem hn_len (N : Int) : (hnames (cS N)).length = 8 := by unfold hnames; rw [List.length_mapIdx, List.length_drop, cS_len]
theorem grp_at (N : Int) {i : Nat} (h : i < 15) : grpS (hnames (cS N)) (cAt N i) = grp i := by
  have g := getD_get (l := cS N) (i := i) (by rw [cS_len]; exact h)
  have t : ((cS N).map (grpS (hnames (cS N))))[i]? = grp15[i]? := by rw [grp_table N]
  generalize hnames (cS N) = ms at t ⊢
  unfold cAt grp
  generalize cS N = cs at g t ⊢
  rw [List.getElem?_map, g, Option.map_some] at t
  rw [List.getD_eq_getElem?_getD (l := grp15), ← t, Option.getD_some]
theorem A_at (N : Int) (p : Nat) {i : Nat} (h : i < 15) : hidK (cAt N i) (nms9 N p) = grp i := by
  rw [← grp_at N h]
  unfold hidK nms9 grpS
  rw [List.length_append, hn_len]
  show (List.range 9).filter _ = _
  rw [List.range_succ, List.filter_append]
  have e8 : ([8].filter fun k => isPriv (cAt N i) ((hnames (cS N) ++ [(hnames (cS N)).getD p e0 ++ Str.ofString "__"]).getD k e0)) = [] := by
    have : (hnames (cS N) ++ [(hnames (cS N)).getD p e0 ++ Str.ofString "__"]).getD 8 e0 = (hnames (cS N)).getD p e0 ++ Str.ofString "__" := by
      rw [List.getD_eq_getElem?_getD, List.getElem?_append_right (by rw [hn_len]; decide), hn_len]; rfl
    rw [List.filter_cons_of_neg, List.filter_nil]
    rw [this, priv_none _ (cAt_in N h)]; decide
  rw [e8, List.append_nil]
  refine List.filter_congr fun k hk => ?_
  have hk8 : k < 8 := List.mem_range.mp hk
  rw [List.getD_eq_getElem?_getD, List.getElem?_append_left (by rw [hn_len]; exact hk8), ← List.getD_eq_getElem?_getD]
theorem cAt_inj (N : Int) {i j : Nat} (hi : i < 15) (hj : j < 15) (h : cAt N i = cAt N j) : i = j := grp_inj hi hj (by rw [← grp_at N hi, ← grp_at N hj, h])
/-! the domains -/
noncomputable def hostsS (N : Int) : List Str := ((dS N).drop 7).map fun d => Str.ofString "w" ++ d
theorem hosts_len (N : Int) : (hostsS N).length = 8 := by unfold hostsS; rw [List.length_map, List.length_drop, dS_len]
noncomputable def dvT : List (Nat × Nat) := [(0, 0), (1, 0), (1, 1), (2, 0), (2, 1), (2, 2), (2, 3), (3, 0), (3, 1), (3, 2), (3, 3), (3, 4), (3, 5), (3, 6), (3, 7)]
theorem dom15_map (w : Nat → List Nat) : dom15 w = dvT.map fun p => gd 66 w p.1 p.2 := rfl
theorem k_dv : ((List.range 15).all fun j => dvT.getD j (0, 0) == (dp j, j + 1 - 2 ^ dp j)) = true := by decide +kernel
theorem dAt_tx (N : Int) (j : Nat) (hj : j < 15) : dAt N j = tx (gd 66 (wd N) (dp j) (j + 1 - 2 ^ dp j)) := by
  have k := eq_of_beq (allX k_dv hj)
  have l : j < dvT.length := hj
  rw [List.getD_eq_getElem?_getD, List.getElem?_eq_getElem l] at k
  have k : dvT[j] = (dp j, j + 1 - 2 ^ dp j) := k
  unfold dAt
  show (domS (wordAt N) 7).getD j e0 = _
  rw [dom_tx, getD_map_tx, dom15_map, List.getD_eq_getElem?_getD, List.getElem?_map, List.getElem?_eq_getElem l, k]
  rfl
theorem w_tx : Str.ofString "w" = tx [119] := by decide +kernel
theorem k_d7 : ((List.range 8).all fun V => dp (7 + V) == 3) = true := by decide +kernel
theorem dAt_low (N : Int) {V : Nat} (h : V < 8) : dAt N (7 + V) = tx (gd 66 (wd N) 3 V) := by
  have e : dp (7 + V) = 3 := eq_of_beq (allX k_d7 h)
  have e2 : 7 + V + 1 - 2 ^ dp (7 + V) = V := by rw [e]; omega
  rw [dAt_tx N (7 + V) (by omega), e2, e]
theorem host_at (N : Int) {V : Nat} (h : V < 8) : (hostsS N).getD V e0 = tx (hst N V) := by
  have d := dAt_low N h
  have g := getD_get (l := dS N) (i := 7 + V) (by rw [dS_len]; omega)
  have d2 : (dS N).getD (7 + V) e0 = tx (gd 66 (wd N) 3 V) := d
  rw [d2] at g
  unfold hostsS hst
  generalize gd 66 (wd N) 3 V = q at g ⊢
  generalize dS N = ds at g ⊢
  rw [List.getD_eq_getElem?_getD, List.getElem?_map, List.getElem?_drop, g, Option.map_some, Option.getD_some, w_tx, tx_app, List.singleton_append]
noncomputable def uppS (N : Int) : List Str := (hostsS N).map Txt.upper
theorem k_dom : ((List.range 15).all fun j => ((List.range 8).filter fun V => decide (V / 2 ^ (3 - dp j) = j + 1 - 2 ^ dp j)) == grp j) = true := by decide +kernel
theorem k_dlt : ((List.range 15).all fun j => decide (dp j < 4) && decide (j + 1 - 2 ^ dp j < 2 ^ dp j)) = true := by decide +kernel
theorem B_at (N : Int) {j : Nat} (h : j < 15) : inK (dAt N j) (uppS N) = grp j := by
  unfold inK
  have l8 : (uppS N).length = 8 := by unfold uppS; rw [List.length_map, hosts_len]
  rw [l8, ← eq_of_beq (allX k_dom h)]
  refine List.filter_congr fun V hV => ?_
  have h8 : V < 8 := List.mem_range.mp hV
  have e : (uppS N).getD V e0 = Txt.upper (tx (hst N V)) := by
    have g := getD_get (l := hostsS N) (i := V) (by rw [hosts_len]; exact h8)
    rw [host_at N h8] at g
    unfold uppS
    rw [List.getD_eq_getElem?_getD, List.getElem?_map, g]; rfl
  have k := allX k_dlt h
  simp only [Bool.and_eq_true, decide_eq_true_eq] at k
  rw [e, dAt_tx N j h, hst_udm N k.1 k.2 h8]
theorem dAt_inj (N : Int) {i j : Nat} (hi : i < 15) (hj : j < 15) (h : dAt N i = dAt N j) : i = j := grp_inj hi hj (by rw [← B_at N hi, ← B_at N hj, h])
theorem up1_all (N : Int) : (dS N).map up1 = Str.ofString "local" :: (List.range 14).map fun k => dAt N (k / 2) := reach_all N
end Mine
end
section
open PySem PySem.W PyProof.Rows PySem.Calls PySem.Spec
set_option maxRecDepth 100000
set_option maxHeartbeats 0
namespace Mine
/-- the texts of a tree, and what is said to be the wider one -/
structure Tree (nd : Nat → Str) (W : Str → Str) : Prop where
  inj : ∀ {i j : Nat}, i < 15 → j < 15 → nd i = nd j → i = j
  top : ∀ {i : Nat}, i < 15 → W (nd 0) ≠ nd i
  up : ∀ {i : Nat}, 0 < i → i < 15 → W (nd i) = nd (pa i)
noncomputable def xs15 (nd : Nat → Str) : List Str := (List.range 15).map nd
theorem xs_mem {nd : Nat → Str} {x : Str} : x ∈ xs15 nd ↔ ∃ i, i < 15 ∧ x = nd i := by
  unfold xs15
  rw [List.mem_map]
  constructor
  · rintro ⟨i, hi, rfl⟩; exact ⟨i, List.mem_range.mp hi, rfl⟩
  · rintro ⟨i, hi, rfl⟩; exact ⟨i, List.mem_range.mpr hi, rfl⟩
theorem ov_get (f : Str → Str) {xs : List Str} {x : Str} (h : x ∈ xs) : dget (ovW f xs) x = some (.str (f x)) := by
  unfold ovW
  rw [dget_fold (fun c => .str (f c)) x xs [], if_pos h]
theorem dput_new {kvs : List (Str × D)} {k : Str} {v : D} (h : k ∉ kvs.map (·.1)) : dput kvs k v = kvs ++ [(k, v)] := by
  unfold dput
  rw [if_neg]
  intro e
  obtain ⟨q, hq, e⟩ := List.any_eq_true.mp e
  exact h (List.mem_map.mpr ⟨q, hq, by simpa using e⟩)
theorem ov_fold (f : Str → Str) : ∀ (xs : List Str) (kvs : List (Str × D)), xs.Nodup → (∀ x ∈ xs, x ∉ kvs.map (·.1)) → xs.foldl (fun kvs c => dput kvs c (.str (f c))) kvs = kvs ++ xs.map fun c => (c, .str (f c))
  | [], kvs, _, _ => by simp
  | x :: xs, kvs, nd, h => by
    obtain ⟨h1, h2⟩ := List.nodup_cons.mp nd
    rw [List.foldl_cons, dput_new (h x (List.mem_cons_self ..)), ov_fold f xs _ h2, List.append_assoc]
    · rfl
    · intro y hy
      rw [List.map_append, List.mem_append]
      rintro (q | q)
      · exact h y (List.mem_cons_of_mem _ hy) q
      · have : y = x := by simpa using q
        subst this; exact h1 hy
theorem ov_keys (f : Str → Str) {xs : List Str} (h : xs.Nodup) : ovW f xs = xs.map fun c => (c, .str (f c)) := by
  unfold ovW
  rw [ov_fold f xs [] h fun x _ => by simp]
  rfl
theorem lOf_step (ov acc : List (Str × D)) (t w : Str) : lOf (hvStep ov acc t) w = lOf acc w ++ (if wOf ov t = w then [.str t] else []) := by
  unfold hvStep
  by_cases h : wOf ov t = w
  · subst h
    rw [if_pos rfl]
    conv => lhs; unfold lOf
    rw [dget_dput, if_pos rfl]
    rfl
  · rw [if_neg h, List.append_nil]
    unfold lOf
    rw [dget_dput, if_neg h]
theorem lOf_fold (ov : List (Str × D)) (w : Str) : ∀ (ts : List Str) (acc : List (Str × D)), lOf (ts.foldl (hvStep ov) acc) w = lOf acc w ++ (ts.filter fun t => decide (wOf ov t = w)).map D.str
  | [], acc => by simp
  | t :: ts, acc => by
    rw [List.foldl_cons, lOf_fold ov w ts, lOf_step, List.append_assoc, List.filter_cons]
    by_cases h : wOf ov t = w
    · rw [if_pos h, if_pos (decide_eq_true h)]; rfl
    · rw [if_neg h, if_neg (by rw [decide_eq_false h]; decide)]; rfl
theorem lOf_get {acc : List (Str × D)} {w : Str} (h : lOf acc w ≠ []) : dget acc w = some (.list (lOf acc w)) := by
  unfold lOf at h ⊢
  split
  · assumption
  · rename_i hn
    split at h
    · rename_i l e; exact absurd e (hn l)
    · exact absurd rfl h
theorem xs_nodup {nd : Nat → Str} (inj : ∀ {i j : Nat}, i < 15 → j < 15 → nd i = nd j → i = j) : (xs15 nd).Nodup := by
  unfold xs15
  rw [List.nodup_iff_pairwise_ne, List.pairwise_map]
  refine List.Pairwise.imp_of_mem ?_ (List.nodup_iff_pairwise_ne.mp (List.nodup_range (n := 15)))
  intro a b ha hb hab e
  exact hab (inj (List.mem_range.mp ha) (List.mem_range.mp hb) e)
theorem k_kids : ((List.range 7).all fun i => ((List.range 15).filter fun k => decide (k ≠ 0 ∧ pa k = i)) == [2 * i + 1, 2 * i + 2]) = true := by decide +kernel
theorem pa_lt {i : Nat} (h : i < 15) : pa i < 15 := by unfold pa; omega
theorem kids {nd : Nat → Str} {W : Str → Str} (T : Tree nd W) {i : Nat} (hi : i < 7) : (xs15 nd).filter (fun t => decide (W t = nd i)) = [nd (2 * i + 1), nd (2 * i + 2)] := by
  unfold xs15
  rw [List.filter_map]
  have e : (List.range 15).filter ((fun t => decide (W t = nd i)) ∘ nd) = [2 * i + 1, 2 * i + 2] := by
    rw [← eq_of_beq (allX k_kids hi)]
    refine List.filter_congr fun k hk => ?_
    have hk := List.mem_range.mp hk
    show decide (W (nd k) = nd i) = _
    rw [Bool.eq_iff_iff, decide_eq_true_eq, decide_eq_true_eq]
    constructor
    · intro e
      by_cases h0 : k = 0
      · subst h0; exact absurd e (T.top (by omega))
      · rw [T.up (by omega) hk] at e
        exact ⟨h0, T.inj (pa_lt hk) (by omega) e⟩
    · rintro ⟨h0, e⟩
      rw [T.up (by omega) hk, e]
  rw [e]; rfl
theorem hv_get {nd : Nat → Str} {W : Str → Str} (T : Tree nd W) {i : Nat} (hi : i < 7) : dget (hvD (ovW W (xs15 nd))) (nd i) = some (.list [.str (nd (2 * i + 1)), .str (nd (2 * i + 2))]) := by
  have hl : lOf (hvD (ovW W (xs15 nd))) (nd i) = [.str (nd (2 * i + 1)), .str (nd (2 * i + 2))] := by
    unfold hvD
    have ek : (ovW W (xs15 nd)).map (·.1) = xs15 nd := by
      rw [ov_keys W (xs_nodup T.inj), List.map_map]
      exact (List.map_congr_left fun c _ => rfl).trans (List.map_id _)
    rw [ek, lOf_fold]
    have e2 : (xs15 nd).filter (fun t => decide (wOf (ovW W (xs15 nd)) t = nd i)) = (xs15 nd).filter fun t => decide (W t = nd i) := by
      refine List.filter_congr fun t ht => ?_
      have : wOf (ovW W (xs15 nd)) t = W t := by unfold wOf; rw [ov_get W ht]
      rw [this]
    rw [e2, kids T hi]; rfl
  rw [lOf_get (by rw [hl]; exact List.cons_ne_nil _ _), hl]
/-- the halves -/
noncomputable def ptT (nd : Nat → Str) (W : Str → Str) (x : Str) : Str × Str := (((xs15 nd).filter fun t => decide (W t = x)).getD 0 e0, ((xs15 nd).filter fun t => decide (W t = x)).getD 1 e0)
theorem ptT_at {nd : Nat → Str} {W : Str → Str} (T : Tree nd W) {i : Nat} (hi : i < 7) : ptT nd W (nd i) = (nd (2 * i + 1), nd (2 * i + 2)) := by
  unfold ptT; rw [kids T hi]; rfl
theorem k_sib : ((List.range 15).all fun a => (List.range 15).all fun b => (a == b) || (a == 0) || (b == 0) || (pa a != pa b) || (a == sb b)) = true := by decide +kernel
theorem k_sb : ((List.range 15).all fun b => (b == 0) || decide (0 < sb b) && decide (sb b < 15) && (pa (sb b) == pa b)) = true := by decide +kernel
theorem sib_of {nd : Nat → Str} {W : Str → Str} (T : Tree nd W) {a b : Nat} (ha : a < 15) (hb : b < 15) (h : a ≠ b) (e : W (nd a) = W (nd b)) : a = sb b ∧ b ≠ 0 := by
  by_cases b0 : b = 0
  · subst b0
    rw [T.up (Nat.pos_of_ne_zero h) ha] at e
    exact absurd e.symm (T.top (pa_lt ha))
  · by_cases a0 : a = 0
    · subst a0
      rw [T.up (Nat.pos_of_ne_zero b0) hb] at e
      exact absurd e (T.top (pa_lt hb))
    · rw [T.up (Nat.pos_of_ne_zero a0) ha, T.up (Nat.pos_of_ne_zero b0) hb] at e
      have := allX (allX k_sib ha) hb
      rw [beq_eq_false_iff_ne.mpr h, beq_eq_false_iff_ne.mpr a0, beq_eq_false_iff_ne.mpr b0, T.inj (pa_lt ha) (pa_lt hb) e, bne_self_eq_false] at this
      exact ⟨eq_of_beq this, b0⟩
theorem W_sb {nd : Nat → Str} {W : Str → Str} (T : Tree nd W) {b : Nat} (hb : b < 15) (h : b ≠ 0) : W (nd (sb b)) = W (nd b) := by
  have h1 := allX k_sb hb
  rw [beq_eq_false_iff_ne.mpr h, Bool.false_or, Bool.and_eq_true, Bool.and_eq_true] at h1
  rw [T.up (of_decide_eq_true h1.1.1) (of_decide_eq_true h1.1.2), T.up (Nat.pos_of_ne_zero h) hb, eq_of_beq h1.2]
theorem k_dp0 : ((List.range 15).all fun b => (dp b == 0) == (b == 0)) = true := by decide +kernel
theorem dp0 {b : Nat} (h : b < 15) : dp b ≠ 0 ↔ b ≠ 0 := by
  have := eq_of_beq (allX k_dp0 h)
  rw [Bool.eq_iff_iff, beq_iff_eq, beq_iff_eq] at this
  exact not_congr this
theorem ds2_eq (r : Ru) : ∀ s, s < 2 → ds2 s r = dp (sdI s r)
  | 0, _ | 1, _ => rfl
theorem sdI_lt {r : Ru} (h : r ∈ R32) (s : Nat) : sdI s r < 15 := by have := dep3 h; unfold sdI; split <;> omega
theorem sdI_sib {s : Nat} (hs : s < 2) {q r : Ru} (h1 : sdI (1 - s) q = sdI (1 - s) r) (h2 : sdI s q = sb (sdI s r)) : q = sibS s r := by
  match s, hs, h1, h2 with
  | 0, _, h1, h2 => exact Prod.ext h2 h1
  | 1, _, h1, h2 => exact Prod.ext h1 h2
theorem sib_sdI {s : Nat} (hs : s < 2) (r : Ru) : sdI (1 - s) (sibS s r) = sdI (1 - s) r ∧ sdI s (sibS s r) = sb (sdI s r) := by
  match s, hs with
  | 0, _ => exact ⟨rfl, rfl⟩
  | 1, _ => exact ⟨rfl, rfl⟩
theorem sdI_dep {s : Nat} (hs : s < 2) {r : Ru} (h : r ∈ R32) : dp (sdI s r) + dp (sdI (1 - s) r) = 3 := by
  have d := dep3 h
  match s, hs with
  | 0, _ => show dp r.1 + dp r.2 = 3; omega
  | 1, _ => show dp r.2 + dp r.1 = 3; omega
end Mine
end
section
open PySem PySem.W PyProof.Rows PySem.Calls PySem.Spec
set_option maxRecDepth 100000
set_option maxHeartbeats 0
namespace Mine
section
variable {n0 n1 : Nat → Str} {W0 W1 : Str → Str}
/-- a rule's two texts -/
noncomputable def stR (n0 n1 : Nat → Str) (r : Ru) : Str × Str := (n0 r.1, n1 r.2)
noncomputable def ndS (n0 n1 : Nat → Str) (s : Nat) : Nat → Str := if s = 0 then n0 else n1
noncomputable def wS (W0 W1 : Str → Str) (s : Nat) : Str → Str := if s = 0 then W0 else W1
noncomputable def pS (n0 n1 : Nat → Str) (W0 W1 : Str → Str) (s : Nat) : Str → Str × Str := ptT (ndS n0 n1 s) (wS W0 W1 s)
theorem tree_s (T0 : Tree n0 W0) (T1 : Tree n1 W1) : ∀ s, s < 2 → Tree (ndS n0 n1 s) (wS W0 W1 s)
  | 0, _ => T0
  | 1, _ => T1
theorem sd_st (r : Ru) : ∀ s, s < 2 → sd s (stR n0 n1 r) = ndS n0 n1 s (sdI s r)
  | 0, _ | 1, _ => rfl
theorem st_inj (T0 : Tree n0 W0) (T1 : Tree n1 W1) {r q : Ru} (hr : r ∈ R32) (hq : q ∈ R32) (h : stR n0 n1 r = stR n0 n1 q) : r = q := by
  have a := dep3 hr
  have b := dep3 hq
  injection h with h1 h2
  exact Prod.ext (T0.inj a.2.1 b.2.1 h1) (T1.inj a.2.2 b.2.2 h2)
theorem st_get {l : List Ru} {k : Nat} (h : k < l.length) : (l.map (stR n0 n1)).getD k e2p = stR n0 n1 (l.getD k (0, 0)) := by
  rw [List.getD_eq_getElem?_getD, List.getD_eq_getElem?_getD, List.getElem?_map, List.getElem?_eq_getElem h]; rfl
theorem mates_iff (T0 : Tree n0 W0) (T1 : Tree n1 W1) {l : List Ru} (L : Til l) {p s m : Nat} (hp : p < 8) (hs : s < 2) : m ∈ matesT (wS W0 W1 s) (l.map (stR n0 n1)) p s ↔ m < 8 ∧ m ≠ p ∧ l.getD m (0, 0) = sibS s (l.getD p (0, 0)) ∧ ds2 s (l.getD p (0, 0)) ≠ 0 := by
  have lp : p < l.length := by rw [L.len]; exact hp
  have rR := L.inR _ (get_in lp)
  have hs1 : 1 - s < 2 := by omega
  have Ts := tree_s T0 T1 s hs
  have T1s := tree_s T0 T1 (1 - s) hs1
  unfold matesT
  rw [List.mem_filter, List.mem_range, st_get lp, sd_st _ s hs, sd_st _ (1 - s) hs1]
  simp only [Bool.and_eq_true, decide_eq_true_eq]
  constructor
  · rintro ⟨hm, hne, e1, e2⟩
    have lm : m < l.length := by rw [L.len]; exact hm
    have qR := L.inR _ (get_in lm)
    rw [st_get lm, sd_st _ (1 - s) hs1] at e1
    rw [st_get lm, sd_st _ s hs] at e2
    have f1 := T1s.inj (sdI_lt qR _) (sdI_lt rR _) e1
    have hd := L.nodup hm hp hne
    have ne : sdI s (l.getD m (0, 0)) ≠ sdI s (l.getD p (0, 0)) := fun e => by
      apply hd
      match s, hs, f1, e with
      | 0, _, f1, e => exact Prod.ext e f1
      | 1, _, f1, e => exact Prod.ext f1 e
    obtain ⟨g1, g2⟩ := sib_of Ts (sdI_lt qR _) (sdI_lt rR _) ne e2
    refine ⟨hm, hne, sdI_sib hs f1 g1, ?_⟩
    rw [ds2_eq _ s hs]
    exact (dp0 (sdI_lt rR _)).mpr g2
  · rintro ⟨hm, hne, e, hd⟩
    have lm : m < l.length := by rw [L.len]; exact hm
    rw [ds2_eq _ s hs] at hd
    have g2 := (dp0 (sdI_lt rR _)).mp hd
    obtain ⟨a, b⟩ := sib_sdI hs (l.getD p (0, 0))
    rw [st_get lm, sd_st _ (1 - s) hs1, sd_st _ s hs, e, a, b]
    exact ⟨hm, hne, rfl, W_sb Ts (sdI_lt rR _) g2⟩
theorem mk_st (T0 : Tree n0 W0) (T1 : Tree n1 W1) {r : Ru} (rR : r ∈ R32) {s : Nat} (hs : s < 2) (hd : ds2 s r ≠ 0) :
    mkR s (pS n0 n1 W0 W1 (1 - s) (sd (1 - s) (stR n0 n1 r))).1 (wS W0 W1 s (sd s (stR n0 n1 r))) = stR n0 n1 (upA s r) ∧ mkR s (pS n0 n1 W0 W1 (1 - s) (sd (1 - s) (stR n0 n1 r))).2 (wS W0 W1 s (sd s (stR n0 n1 r))) = stR n0 n1 (upB s r) := by
  have hs1 : 1 - s < 2 := by omega
  have Ts := tree_s T0 T1 s hs
  have T1s := tree_s T0 T1 (1 - s) hs1
  rw [ds2_eq _ s hs] at hd
  have g2 := (dp0 (sdI_lt rR _)).mp hd
  have d3 := sdI_dep hs rR
  have lt7 : sdI (1 - s) r < 7 := node_lt (sdI_lt rR _) (by omega)
  rw [sd_st _ s hs, sd_st _ (1 - s) hs1]
  unfold pS
  rw [ptT_at T1s lt7, Ts.up (by omega) (sdI_lt rR _)]
  match s, hs with
  | 0, _ => exact ⟨rfl, rfl⟩
  | 1, _ => exact ⟨rfl, rfl⟩
theorem map_trn (f : Ru → Str × Str) (l : List Ru) (p m s : Nat) : (trn l p m s).map f = ((l.map f).set p (f (upA s (l.getD p (0, 0))))).set m (f (upB s (l.getD p (0, 0)))) := by
  unfold trn
  rw [List.map_set, List.map_set]
theorem turn_case (T0 : Tree n0 W0) (T1 : Tree n1 W1) {l : List Ru} (L : Til l) {p s : Nat} (hp : p < 8) (hs : s < 2) {rs' : List (Str × Str)} (h : turnT (wS W0 W1) (pS n0 n1 W0 W1) (l.map (stR n0 n1)) p s = some rs') :
    ∃ m, m < 8 ∧ p ≠ m ∧ ds2 s (l.getD p (0, 0)) ≠ 0 ∧ l.getD m (0, 0) = sibS s (l.getD p (0, 0)) ∧ rs' = (trn l p m s).map (stR n0 n1) := by
  have lp : p < l.length := by rw [L.len]; exact hp
  unfold turnT turnS at h
  split at h
  · cases h
  · rename_i m ms e
    have hm : m ∈ matesT (wS W0 W1 s) (l.map (stR n0 n1)) p s := by rw [e]; exact List.mem_cons_self ..
    obtain ⟨h1, h2, h3, h4⟩ := (mates_iff T0 T1 L hp hs).mp hm
    refine ⟨m, h1, Ne.symm h2, h4, h3, ?_⟩
    have h := Option.some.inj h
    rw [← h, map_trn, st_get lp]
    obtain ⟨k1, k2⟩ := mk_st T0 T1 (L.inR _ (get_in lp)) hs h4
    rw [k1, k2]
theorem turn_yes (T0 : Tree n0 W0) (T1 : Tree n1 W1) {l : List Ru} (L : Til l) {p s : Nat} (hp : p < 8) (hs : s < 2) (hd : ds2 s (l.getD p (0, 0)) ≠ 0) (h : sibS s (l.getD p (0, 0)) ∈ l) : turnT (wS W0 W1) (pS n0 n1 W0 W1) (l.map (stR n0 n1)) p s ≠ none := by
  have lp : p < l.length := by rw [L.len]; exact hp
  obtain ⟨m, hm, e⟩ := List.getElem_of_mem h
  have em : l.getD m (0, 0) = sibS s (l.getD p (0, 0)) := by rw [List.getD_eq_getElem?_getD, List.getElem?_eq_getElem hm]; exact e
  have hne : m ≠ p := fun q => by
    subst q
    exact (turn_facts (L.inR _ (get_in lp)) hs hd).2.2.2 em
  have hin := (mates_iff T0 T1 L hp hs).mpr ⟨by rw [← L.len]; exact hm, hne, em, hd⟩
  unfold turnT turnS
  split
  · rename_i e; rw [e] at hin; cases hin
  · exact fun h => nomatch h
/-- such lists as the law has -/
noncomputable def GT (n0 n1 : Nat → Str) (rs : List (Str × Str)) : Prop := ∃ l, Til l ∧ rs = l.map (stR n0 n1)
theorem turn_ok (T0 : Tree n0 W0) (T1 : Tree n1 W1) : TurnOk (ovW W0 (xs15 n0)) (ovW W1 (xs15 n1)) (hvD (ovW W0 (xs15 n0))) (hvD (ovW W1 (xs15 n1))) (wS W0 W1) (pS n0 n1 W0 W1) (GT n0 n1) := by
  refine ⟨?_, ?_, ?_, ?_⟩
  · rintro rs ⟨l, L, rfl⟩
    rw [List.length_map, L.len]
  · rintro rs ⟨l, L, rfl⟩ s hs r hr
    obtain ⟨q, hq, rfl⟩ := List.mem_map.mp hr
    have qR := L.inR q hq
    have lt := sdI_lt qR s
    rw [sd_st _ s hs]
    match s, hs with
    | 0, _ => exact ov_get W0 (xs_mem.mpr ⟨_, lt, rfl⟩)
    | 1, _ => exact ov_get W1 (xs_mem.mpr ⟨_, lt, rfl⟩)
  · rintro rs ⟨l, L, rfl⟩ p hp s hs hm
    have lp : p < l.length := by rw [L.len]; exact hp
    have rR := L.inR _ (get_in lp)
    obtain ⟨m, ms, e⟩ := List.exists_cons_of_ne_nil hm
    obtain ⟨_, _, _, hd⟩ := (mates_iff T0 T1 L hp hs (m := m)).mp (by rw [e]; exact List.mem_cons_self ..)
    rw [ds2_eq _ s hs] at hd
    have d3 := sdI_dep hs rR
    have lt7 : sdI (1 - s) (l.getD p (0, 0)) < 7 := node_lt (sdI_lt rR _) (by omega)
    have hs1 : 1 - s < 2 := by omega
    rw [st_get lp, sd_st _ (1 - s) hs1]
    unfold pS
    rw [ptT_at (tree_s T0 T1 (1 - s) hs1) lt7]
    generalize sdI (1 - s) (l.getD p (0, 0)) = i at lt7 ⊢
    have hc : 1 - s = 0 ∨ 1 - s = 1 := by omega
    rcases hc with e | e
    · rw [e]; exact hv_get T0 lt7
    · rw [e]; exact hv_get T1 lt7
  · rintro rs ⟨l, L, rfl⟩ p hp s hs rs' h
    obtain ⟨m, h1, h2, h3, h4, rfl⟩ := turn_case T0 T1 L hp hs h
    exact ⟨_, L.turn hp h1 h2 hs h3 h4, rfl⟩
theorem mem_st (T0 : Tree n0 W0) (T1 : Tree n1 W1) {U : List Ru} (hU : Til U) {r : Ru} (hr : r ∈ R32) : stR n0 n1 r ∈ U.map (stR n0 n1) ↔ r ∈ U := by
  rw [List.mem_map]
  constructor
  · rintro ⟨q, hq, e⟩
    rw [← st_inj T0 T1 (hU.inR q hq) hr e]; exact hq
  · intro h; exact ⟨r, h, rfl⟩
theorem ways_iff (T0 : Tree n0 W0) (T1 : Tree n1 W1) {T U : List Ru} (hT : Til T) (hU : Til U) {p k : Nat} (hp : p < 8) : k ∈ waysS (U.map (stR n0 n1)) (T.map (stR n0 n1)) p ↔ k < 8 ∧ T.getD k (0, 0) ∉ U := by
  constructor
  · intro h
    have hk := waysS_lt h
    have lk : k < T.length := by rw [hT.len]; exact hk
    refine ⟨hk, ?_⟩
    unfold waysS at h
    have := (List.mem_filter.mp h).2
    rw [st_get lk, decide_eq_true_eq, mem_st T0 T1 hU (hT.inR _ (get_in lk))] at this
    exact this
  · rintro ⟨hk, hn⟩
    have lk : k < T.length := by rw [hT.len]; exact hk
    unfold waysS
    refine List.mem_filter.mpr ⟨List.mem_map.mpr ⟨(k + 8 - p) % 8, List.mem_range.mpr (Nat.mod_lt _ (by decide)), by omega⟩, ?_⟩
    rw [st_get lk, decide_eq_true_eq, mem_st T0 T1 hU (hT.inR _ (get_in lk))]
    exact hn
theorem raise_ok (T0 : Tree n0 W0) (T1 : Tree n1 W1) {U : List Ru} (hU : Til U) {p : Nat} (hp : p < 8) : ∀ (f t : Nat) {T : List Ru}, Til T → le T U → 26 ≤ dsum T + 2 * f → ∃ n, raiseS (wS W0 W1) (pS n0 n1 W0 W1) (U.map (stR n0 n1)) p f t (T.map (stR n0 n1)) = .int ((t + n : Nat) : Int) ∧ dsum U = dsum T + 2 * n
  | 0, t, T, hT, _, h => by
    have := dsum_le hT
    omega
  | f + 1, t, T, hT, L, h => by
    unfold raiseS
    by_cases hw : waysS (U.map (stR n0 n1)) (T.map (stR n0 n1)) p = []
    · rw [if_pos hw]
      refine ⟨0, rfl, ?_⟩
      have sub : ∀ r ∈ T, r ∈ U := fun r hr => by
        obtain ⟨k, hk, e⟩ := List.getElem_of_mem hr
        have ek : T.getD k (0, 0) = r := by rw [List.getD_eq_getElem?_getD, List.getElem?_eq_getElem hk]; exact e
        refine Classical.byContradiction fun c => ?_
        have := (ways_iff T0 T1 hT hU hp (k := k)).mpr ⟨by rw [← hT.len]; exact hk, by rw [ek]; exact c⟩
        rw [hw] at this; cases this
      rw [dsum_eq hT hU sub]; omega
    · rw [if_neg hw]
      -- one can be turned up
      obtain ⟨k0, ks, ek⟩ := List.exists_cons_of_ne_nil hw
      obtain ⟨h1, h2⟩ := (ways_iff T0 T1 hT hU hp (k := k0)).mp (by rw [ek]; exact List.mem_cons_self ..)
      obtain ⟨q, hq, qn, qd, qs⟩ := raise_ex hT hU L _ (Nat.le_refl _) (get_in (by rw [hT.len]; exact h1)) h2
      obtain ⟨j, hj, ej⟩ := List.getElem_of_mem hq
      have ej' : T.getD j (0, 0) = q := by rw [List.getD_eq_getElem?_getD, List.getElem?_eq_getElem hj]; exact ej
      have hj8 : j < 8 := by rw [← hT.len]; exact hj
      have jw := (ways_iff T0 T1 hT hU hp (k := j)).mpr ⟨hj8, by rw [ej']; exact qn⟩
      have yes := turn_yes T0 T1 hT hj8 (s := 1) (by decide) (by rw [ej']; exact qd) (by rw [ej']; exact qs)
      cases ef : firstUp (wS W0 W1) (pS n0 n1 W0 W1) (T.map (stR n0 n1)) (waysS (U.map (stR n0 n1)) (T.map (stR n0 n1)) p) with
      | none =>
        unfold firstUp at ef
        exact absurd (List.findSome?_eq_none_iff.mp ef j jw) yes
      | some rs' =>
        unfold firstUp at ef
        obtain ⟨k, hk, e⟩ := List.exists_of_findSome?_eq_some ef
        obtain ⟨k8, kn⟩ := (ways_iff T0 T1 hT hU hp).mp hk
        obtain ⟨m, m8, hne, hd, hsib, rfl⟩ := turn_case T0 T1 hT k8 (by decide) e
        have T' := hT.turn k8 m8 hne (by decide) hd hsib
        have L' := raise_le hT hU L k8 m8 kn hd
        have D' := dsum_turn hT k8 m8 hne hd hsib
        obtain ⟨n, en, ed⟩ := raise_ok T0 T1 hU hp f (t + 1) T' L' (by omega)
        refine ⟨n + 1, ?_, by omega⟩
        show raiseS (wS W0 W1) (pS n0 n1 W0 W1) (U.map (stR n0 n1)) p f (t + 1) ((trn T k m 1).map (stR n0 n1)) = _
        rw [en]
        exact congrArg D.int (congrArg Int.ofNat (by omega))
end
end Mine
end
section
open PySem PySem.W PyProof.Rows PySem.Calls PySem.Spec
set_option maxRecDepth 100000
set_option maxHeartbeats 0
namespace Mine
noncomputable def gDom (ds : List Str) : D → D
  | .int k => .str (ds.getD (k.fdiv 2).toNat e0)
  | d => d
theorem r14 : rangeD 0 1 (14 : Int).toNat = nts (List.range 14) := rfl
theorem r8n : rangeD 0 1 (8 : Int).toNat = nts (List.range 8) := rfl
theorem gDom_map (ds : List Str) : (nts (List.range 14)).map (gDom ds) = sts ((List.range 14).map fun k => ds.getD (k / 2) e0) := rfl
theorem fd2 (k : Nat) : (k : Int).fdiv 2 = ((k / 2 : Nat) : Int) := by
  rw [Int.fdiv_eq_ediv_of_nonneg _ (by decide)]; rfl
theorem add16 {a b : Nat} (h : a ≤ 8) (h' : b ≤ 8) : a + b ≤ sizeLine := Nat.le_trans (Nat.add_le_add h h') (Nat.le_of_ble_eq_true rfl)
theorem le9 {n : Nat} (h : n = 8) : n ≤ 900 := h ▸ by decide
section
variable {C : Cx}
theorem Itm.insAt {l : List Int} {k : Nat} (h : l.length = 8) (hk : k < 8) : Itm C 0 (.list (ins l)) (.int (k : Int)) 0 (.int (l.getD k 0)) := Itm.nat (lt6 hk (by decide)) (ins_get (getI (by rw [h]; exact hk)))
theorem Itm.ruAt {l : List (Str × Str)} {k : Nat} (h : l.length = 8) (hk : k < 8) : Itm C 0 (.list (rulesD l)) (.int (k : Int)) 0 (ruD (l.getD k e2p)) := Itm.nat (lt6 hk (by decide)) (rulesD_get (by rw [h]; exact hk))
theorem Itm.half {l : List Str} {k : Nat} (h : l.length = 15) (hk : k < 14) : Itm C 0 (.list (sts l)) (.int ((k : Int).fdiv 2)) 0 (.str (l.getD ((k : Int).fdiv 2).toNat e0)) := by
  rw [fd2, Int.toNat_natCast]
  exact Itm.nat (by omega) (sts_get (getD_get (by omega)))
end
noncomputable def gNm : D × D → D
  | (.int k, .str c) => .str (hname k.toNat c)
  | _ => .none
theorem gNm_map (cs : List Str) : (numD (sts (cs.drop 7))).map gNm = sts (hnames cs) := by
  unfold numD sts hnames
  apply List.ext_getElem?
  intro i
  simp only [List.getElem?_map, List.getElem?_mapIdx]
  cases (List.drop 7 cs)[i]? with
  | none => rfl
  | some x => rfl
theorem numD_mem {l : List Str} {d : D × D} (h : d ∈ numD (sts l)) : ∃ (k : Nat) (x : Str), l[k]? = some x ∧ d = (.int (k : Int), .str x) := by
  obtain ⟨k, hk⟩ := List.getElem?_of_mem h
  unfold numD at hk
  rw [List.getElem?_mapIdx] at hk
  cases e : (sts l)[k]? with
  | none => rw [e] at hk; cases hk
  | some y =>
    rw [e] at hk
    obtain ⟨x, hx, rfl⟩ := sts_at e
    cases hk
    exact ⟨k, x, hx, rfl⟩
theorem mul_us (k : Int) : (Txt.mul (Str.ofString "_") (k.fmod 2)).length ≤ 1 := by
  have h1 := Int.fmod_nonneg_of_pos k (b := 2) (by decide)
  have h2 := Int.fmod_lt_of_pos k (b := 2) (by decide)
  have : k.fmod 2 = 0 ∨ k.fmod 2 = 1 := by omega
  rcases this with h | h <;> rw [h] <;> decide +kernel
noncomputable def gWid (f : Str → Str) : D → D
  | .str c => .str (f c)
  | d => d
theorem gWid_map (f : Str → Str) (l : List Str) : (sts l).map (gWid f) = sts (l.map f) := by unfold sts; rw [List.map_map, List.map_map]; rfl
noncomputable def gQ : D → D
  | .str d => .tup [.str (Str.ofString "Q"), .str d]
  | d => d
noncomputable def gL : D → D
  | .str c => .tup [.str c, .str (Str.ofString ".local")]
  | d => d
theorem gQ_map (l : List Str) : (sts l).map gQ = rulesD (l.map fun d => (Str.ofString "Q", d)) := by rw [rulesD_eq]; unfold sts; rw [List.map_map, List.map_map]; rfl
theorem gL_map (l : List Str) : (sts l).map gL = rulesD (l.map fun c => (c, Str.ofString ".local")) := by rw [rulesD_eq]; unfold sts; rw [List.map_map, List.map_map]; rfl
theorem Comp1.cast {C : Cx} {n : Nat} {nm nm' : Names} {ρ : Rho} {elt tgt iter : Expr} {ifs : List Expr} {ds ds' : List D} (h : ds = ds') (c : Comp1 C n nm ρ elt tgt iter ifs nm' ds) : Comp1 C n nm ρ elt tgt iter ifs nm' ds' := h ▸ c
noncomputable def gW : D → D
  | .str d => .str (Str.ofString "w" ++ d)
  | d => d
theorem gW_map (l : List Str) : (sts l).map gW = sts (l.map fun d => Str.ofString "w" ++ d) := by unfold sts; rw [List.map_map, List.map_map]; rfl
noncomputable def tMor2 (one two mo le : List Int) : D → Bool
  | .int k => (!anyEq [.int 0, .int (one.getD k.toNat 0)] (.int (mo.getD k.toNat 0))) || ((!anyEq [.int 0, .int (two.getD k.toNat 0)] (.int (le.getD k.toNat 0))) || false)
  | _ => false
theorem any2 {a b : Int} (h : a = 0 ∨ a = b) : anyEq [.int 0, .int b] (.int a) = true := by
  unfold anyEq
  simp only [List.any_cons, List.any_nil, Bool.or_false, eqD_int, Bool.or_eq_true, decide_eq_true_eq]
  rcases h with h | h
  · exact .inl h.symm
  · exact .inr h.symm
noncomputable def gR (f : List (Str × Str)) : D → D
  | .int k => ruD (f.getD k.toNat e2p)
  | d => d
noncomputable def tU1 (mo : List Int) : D → Bool
  | .int k => eqD (.int (mo.getD k.toNat 0)) (.int 0)
  | _ => false
noncomputable def tU2 (f s : List (Str × Str)) (le : List Int) : D → Bool
  | .int k => eqD (.int (le.getD k.toNat 0)) (.int 0) && (!anyEq (rulesD f) (ruD (s.getD k.toNat e2p)) && true)
  | _ => false
noncomputable def tL1 (f s : List (Str × Str)) (mo : List Int) : D → Bool
  | .int k => (!eqD (.int (mo.getD k.toNat 0)) (.int 0)) || (anyEq (rulesD s) (ruD (f.getD k.toNat e2p)) || false)
  | _ => false
noncomputable def tL2 (le : List Int) : D → Bool
  | .int k => !eqD (.int (le.getD k.toNat 0)) (.int 0)
  | _ => false
theorem up_map (f s : List (Str × Str)) (mo le : List Int) : ((nts (List.range 8)).filter (tU1 mo)).map (gR f) ++ ((nts (List.range 8)).filter (tU2 f s le)).map (gR s) = rulesD (upS f s mo le) := by
  unfold upS
  rw [← rulesD_app]
  congr 1
  · refine pick_nts _ (fun k _ => ?_) fun k _ => rfl
    show eqD _ _ = _
    rw [eqD_int]; rfl
  · refine pick_nts _ (fun k _ => ?_) fun k _ => rfl
    show (eqD _ _ && (!anyEq (rulesD f) (ruD (s.getD (k : Int).toNat e2p)) && true)) = _
    rw [eqD_int, any_ru, Bool.and_true]
    show (decide (le.getD k 0 = 0) && !decide (s.getD k e2p ∈ f)) = _
    by_cases h : s.getD k e2p ∈ f
    · rw [decide_eq_true h, decide_eq_false (show ¬ (s.getD k e2p ∉ f) from fun q => q h)]; rfl
    · rw [decide_eq_false h, decide_eq_true h]; rfl
theorem lo_map (f s : List (Str × Str)) (mo le : List Int) : ((nts (List.range 8)).filter (tL1 f s mo)).map (gR f) ++ ((nts (List.range 8)).filter (tL2 le)).map (gR s) = rulesD (loS f s mo le) := by
  unfold loS
  rw [← rulesD_app]
  congr 1
  · refine pick_nts _ (fun k _ => ?_) fun k _ => rfl
    show ((!eqD _ _) || (anyEq (rulesD s) (ruD (f.getD (k : Int).toNat e2p)) || false)) = _
    rw [eqD_int, any_ru, Bool.or_false]
    show (!decide (mo.getD k 0 = 0) || decide (f.getD k e2p ∈ s)) = _
    by_cases h : mo.getD k 0 = 0
    · rw [decide_eq_true h, decide_eq_false (show ¬ (mo.getD k 0 ≠ 0) from fun q => q h)]; rfl
    · rw [decide_eq_false h, decide_eq_true h]; rfl
  · refine pick_nts _ (fun k _ => ?_) fun k _ => rfl
    show (!eqD _ _) = _
    rw [eqD_int]
    show (!decide (le.getD k 0 = 0)) = _
    by_cases h : le.getD k 0 = 0
    · rw [decide_eq_true h, decide_eq_false (show ¬ (le.getD k 0 ≠ 0) from fun q => q h)]; rfl
    · rw [decide_eq_false h, decide_eq_true h]; rfl
noncomputable def gC : D → D
  | .tup (.str c :: _) => .int (Txt.count c (Str.ofString "__"))
  | d => d
noncomputable def gC2 : D × D → D
  | (.str c, _) => .int (Txt.count c (Str.ofString "__"))
  | _ => .none
noncomputable def gLab : D → D
  | .list ds => .int (isum (ds.map gC))
  | d => d
theorem gC_map (l : List (Str × Str)) : (rulesD l).map gC = ins (l.map fun r => Txt.count r.1 (Str.ofString "__")) := by
  rw [rulesD_eq]; unfold ins; rw [List.map_map, List.map_map]; rfl
theorem gC2_map (l : List (Str × Str)) : (prS l).map gC2 = ins (l.map fun r => Txt.count r.1 (Str.ofString "__")) := by
  unfold prS ins; rw [List.map_map, List.map_map]; rfl
noncomputable def tSp (A : Str → List Nat) (xs : List Str) : D → Bool
  | .str c => !eqD (.list (nts (A c))) (.list (nts (grp15.getD (xs.idxOf c) [])))
  | _ => false
noncomputable def lawRho (a0 a1 a2 a3 a4 a5 a6 a7 a8 a9 a10 a11 a12 a13 a14 a15 a16 a17 a18 a19 a20 a21 : Option (Nat × D)) : Rho := [a0, a1, a2, a3, a4, a5, a6, a7, a8, a9, a10, a11, a12, a13, a14, a15, a16, a17, a18, a19, a20, a21, none, none, none, none, none, none, none, none, none, none, none, none, none, none, none]
theorem Ex.of {C : Cx} {n : Nat} {nm : Names} {ρ ρ' : Rho} {ss : List Stmt} {o : Out} (h : ρ = ρ') (e : Ex C n nm ρ' ss o) : Ex C n nm ρ ss o := h ▸ e
section
variable {C : Cx} {P : Params}
theorem l_grown (hK : C.K = hd.heap_39 P) : nsIn C.K mainGlobals (("_law_grown" : Str)) = some (some (.ref 78)) := by rw [hK]; kernel_rfl
theorem l_over (hK : C.K = hd.heap_39 P) : nsIn C.K mainGlobals (("_law_over" : Str)) = some (some (.ref 92)) := by rw [hK]; kernel_rfl
theorem l_halves (hK : C.K = hd.heap_39 P) : nsIn C.K mainGlobals (("_law_halves" : Str)) = some (some (.ref 99)) := by rw [hK]; kernel_rfl
theorem l_walked (hK : C.K = hd.heap_39 P) : nsIn C.K mainGlobals (("_law_walked" : Str)) = some (some (.ref 111)) := by rw [hK]; kernel_rfl
theorem l_told (hK : C.K = hd.heap_39 P) : nsIn C.K mainGlobals (("_law_told" : Str)) = some (some (.ref 116)) := by rw [hK]; kernel_rfl
theorem l_letters (hK : C.K = hd.heap_39 P) : nsIn C.K mainGlobals (("_law_letters" : Str)) = some (some (.ref 121)) := by rw [hK]; kernel_rfl
theorem l_more (hK : C.K = hd.heap_39 P) : nsIn C.K mainGlobals (("_law_more" : Str)) = some (some (.ref 126)) := by rw [hK]; kernel_rfl
theorem l_raised (hK : C.K = hd.heap_39 P) : nsIn C.K mainGlobals (("_law_raised" : Str)) = some (some (.ref 136)) := by rw [hK]; kernel_rfl
theorem l_span (hK : C.K = hd.heap_39 P) : nsIn C.K mainGlobals (("_law_span" : Str)) = some (some (.ref 143)) := by rw [hK]; kernel_rfl
theorem l_corners (hK : C.K = hd.heap_39 P) : nsIn C.K mainGlobals (("_law_corners" : Str)) = some (some (.ref 148)) := by rw [hK]; kernel_rfl
theorem l_edges (hK : C.K = hd.heap_39 P) : nsIn C.K mainGlobals (("_law_edges" : Str)) = some (some (.ref 153)) := by rw [hK]; kernel_rfl
theorem w_fns (hK : C.K = hd.heap_39 P) {ns : List Int} {N : Int} {p : Nat} {cs ds : List Str} {W : Nat → Str → Str} {PT : Nat → Str → Str × Str} {G : List (Str × Str) → Prop} {first second upper lower : List (Str × Str)} {names hosts : List Str} {A B : Str → List Nat} {one two mo le : List Int} {turns : Nat} {z : Str}
    (L : Law01 ns N p cs ds W PT G first second upper lower names hosts A B one two mo le turns z) {t0 t1 : List (Str × D)} (d0 : ∀ r ∈ first ++ second, dget t0 r.1 = some (.list (nts (A r.1)))) (d1 : ∀ r ∈ first ++ second, dget t1 r.2 = some (.list (nts (B r.2)))) :
    (one.length = 8 ∧ two.length = 8 ∧ mo.length = 8 ∧ le.length = 8) ∧ (Fn C 19 121 [.list (rulesD first), .list [.dict t0, .dict t1]] (.list (ins one)) ∧ Fn C 19 121 [.list (rulesD second), .list [.dict t0, .dict t1]] (.list (ins two))) ∧
    (Fn C 19 126 [.list (rulesD first), .list (ins one), .list (rulesD second), .list (ins two), .list [.dict t0, .dict t1]] (.list (ins mo)) ∧ Fn C 19 126 [.list (rulesD second), .list (ins two), .list (rulesD first), .list (ins one), .list [.dict t0, .dict t1]] (.list (ins le))) ∧
    (Fn C 19 131 [.list (rulesD upper), .list [.dict t0, .dict t1], .list (nts (List.range 8)), .list (nts (List.range 8))] (.bool true) ∧ Fn C 19 131 [.list (rulesD lower), .list [.dict t0, .dict t1], .list (nts (List.range 8)), .list (nts (List.range 8))] (.bool true)) := by
  have tA := L.tA
  have tB := L.tB
  have f8 := L.f8
  have s8 := L.s8
  have u8 := L.u8
  have l8 := L.l8
  have inF : ∀ r ∈ first, r ∈ first ++ second := fun r h => List.mem_append.mpr (.inl h)
  have inS : ∀ r ∈ second, r ∈ first ++ second := fun r h => List.mem_append.mpr (.inr h)
  have tells : ∀ l : List (Str × Str), (∀ r ∈ l, r ∈ first ++ second) → Tells t0 t1 A B l := fun l h => ⟨fun r hr => ⟨d0 r (h r hr), (tA r (h r hr)).1, (tA r (h r hr)).2.2⟩, fun r hr => ⟨d1 r (h r hr), (tB r (h r hr)).1, (tB r (h r hr)).2.2⟩⟩
  have tellsC : ∀ l : List (Str × Str), (∀ r ∈ l, r ∈ first ++ second) → TellsC t0 A l := fun l h r hr => ⟨d0 r (h r hr), (tA r (h r hr)).1⟩
  have tellsS : ∀ l : List (Str × Str), (∀ r ∈ l, r ∈ first ++ second) → TellsS t0 t1 A B l := fun l h s hs r hr => by
    have hc : s = 0 ∨ s = 1 := by omega
    rcases hc with rfl | rfl
    · exact ⟨d0 r (h r hr), (tA r (h r hr)).1, (tA r (h r hr)).2.1⟩
    · exact ⟨d1 r (h r hr), (tB r (h r hr)).1, (tB r (h r hr)).2.1⟩
  have fL1 := f_letters (C := C) hK 18 (tells first inF) (le9 f8)
  have fL2 := f_letters (C := C) hK 18 (tells second inS) (le9 s8)
  have q1 := L.h1
  have q2 := L.h2
  unfold masks at q1 q2
  have l1 : one.length = 8 := by rw [← q1, List.length_map, f8]
  have l2 : two.length = 8 := by rw [← q2, List.length_map, s8]
  rw [q1] at fL1
  rw [q2] at fL2
  have fM1 := f_more (C := C) hK 18 (A := A) (t1 := t1) (ls := one) (ts := two) (tellsC first inF) (tellsC second inS) (le9 f8) (le9 s8) (f8.trans l1.symm) (s8.trans l2.symm)
  have fM2 := f_more (C := C) hK 18 (A := A) (t1 := t1) (ls := two) (ts := one) (tellsC second inS) (tellsC first inF) (le9 s8) (le9 f8) (s8.trans l2.symm) (f8.trans l1.symm)
  have lm : mo.length = 8 := by rw [← L.hmo]; unfold moreS; rw [List.length_map, List.length_zip, f8, l1]; rfl
  have lle : le.length = 8 := by rw [← L.hle]; unfold moreS; rw [List.length_map, List.length_zip, s8, l2]; rfl
  rw [L.hmo] at fM1
  rw [L.hle] at fM2
  have l88 : (List.range 8).length ≤ 900 := by decide
  exact ⟨⟨l1, l2, lm, lle⟩, ⟨fL1, fL2⟩, ⟨fM1, fM2⟩, ⟨f_asked (C := C) hK 15 3 L.a1 (tellsS upper L.mu) (le9 u8) l88 l88, f_asked (C := C) hK 15 3 L.a2 (tellsS lower L.ml) (le9 l8) l88 l88⟩⟩
set_option maxHeartbeats 4000000
theorem law01 (hK : C.K = hd.heap_39 P) {ns : List Int} (h63 : ns.length ≤ 63) {N : Int} {p : Nat} {cs ds : List Str} {W : Nat → Str → Str} {PT : Nat → Str → Str × Str} {G : List (Str × Str) → Prop} {first second upper lower : List (Str × Str)} {names hosts : List Str} {A B : Str → List Nat} {one two mo le : List Int} {turns : Nat} {z : Str}
    (L : Law01 ns N p cs ds W PT G first second upper lower names hosts A B one two mo le turns z) {A' : Around} {s' : Shared} {v : Value} (ok : Ok 20 A') (gold : ∀ b o, C.h₀.get? b = some o → s'.heap.get? b = some o) (hr : Mine.Rep C [] s'.heap v (.list (ins ns))) :
    Wp C A' (call (.ref 158) [v]) (fun r s'' => Kp s' s'' ∧ Mine.Rep C [] s''.heap r (.bool true)) s' := by
  refine law_call (n := 19) (lk hK rfl) rfl rfl rfl (by rw [hK]; kernel_rfl) rfl rfl rfl (fun v => rfl) rfl (NmOk.of (by kernel_rfl)) (by exact Nat.le_of_ble_eq_true rfl) ?_ ok gold (fun a m => by cases m) hr
  have eN : (65664 : Int) + isum (ins ns) = N := L.hN.symm
  have ep := L.hp
  have p8 := L.p8
  have hcs := L.hcs
  have hds := L.hds
  have fG := f_grown (C := C) hK 18 N
  rw [hcs, hds] at fG
  have lc : cs.length = 15 := by rw [← hcs]; exact clsS_len _ _
  have ld : ds.length = 15 := by rw [← hds]; exact domS_len _ _
  have csz := L.csz
  have dsz := L.dsz
  have sz : sizeLine = 16777216 := by decide +kernel
  have fO := f_over (C := C) hK 16 (cs := cs) (ds := ds) (lc.trans ld.symm) (by rw [lc]; decide) (fun c hc => ⟨(csz c hc).1, Nat.le_trans (csz c hc).2.1 (by decide)⟩) L.rgood
  have w1 := L.w1
  have w2 := L.w2
  have oc : ∀ c ∈ cs, dget (ovW wid cs) c = some (.str (wid c)) := fun c hc => by unfold ovW; rw [dget_fold (fun c => .str (wid c)) c cs [], if_pos hc]
  have od : ∀ c ∈ ds, dget (ovW up1 ds) c = some (.str (up1 c)) := fun c hc => by unfold ovW; rw [dget_fold (fun c => .str (up1 c)) c ds [], if_pos hc]
  have lo0 : (ovW wid cs).length ≤ 900 := by unfold ovW; exact Nat.le_trans (ovW_len wid cs []) (by rw [lc]; decide)
  have lo1 : (ovW up1 ds).length ≤ 900 := by unfold ovW; exact Nat.le_trans (ovW_len up1 ds []) (by rw [ld]; decide)
  have fH0 := f_halves (C := C) hK 18 lo0 L.ok0
  have fH1 := f_halves (C := C) hK 18 lo1 L.ok1
  have trn0 := L.turn
  have flh : ∀ l : List Str, D.flat 60 (.list (sts l)) = true := fun l => flats_sts l 59
  unfold overD at fO
  generalize ovW wid cs = o0 at *
  generalize ovW up1 ds = o1 at *
  generalize hvD o0 = h0 at *
  generalize hvD o1 = h1 at *
  refine Ex.of (ρ' := lawRho _ _ _ _ _ _ _ _ _ _ _ _ _ _ _ _ _ _ _ _ _ _) rfl ?_
  refine Ex.seq (Ex1.assign 1 rfl (Ev.cast (congrArg D.int eN) (Ev.bin Ev.int (Ev.sum 22 rfl (g_sum hK) (Ev.name 0 rfl rfl) (allInt_ins ns)) Bin.add_int))) ?_
  refine Ex.of (ρ' := lawRho _ _ _ _ _ _ _ _ _ _ _ _ _ _ _ _ _ _ _ _ _ _) rfl ?_
  refine Ex.seq (Ex1.assign 2 rfl (Ev.cast (congrArg D.int ep) (Ev.bin (Ev.name 1 rfl rfl) Ev.int (Bin.mod_int (by decide))))) ?_
  refine Ex.of (ρ' := lawRho _ _ _ _ _ _ _ _ _ _ _ _ _ _ _ _ _ _ _ _ _ _) rfl ?_
  refine Ex.of (ρ' := lawRho _ _ _ _ _ _ _ _ _ _ _ _ _ _ _ _ _ _ _ _ _ _) rfl ?_
  refine Ex.seq (Ex1.assignTup 3 4 rfl rfl (Ev.call 23 rfl (l_grown hK) (lk hK rfl) rfl (.one (Ev.name 1 rfl rfl)) fG)) ?_
  refine Ex.of (ρ' := lawRho _ _ _ _ _ _ _ _ _ _ _ _ _ _ _ _ _ _ _ _ _ _) rfl ?_
  refine Ex.seq (Ex1.assign 5 rfl (Ev.call 24 rfl (l_over hK) (lk hK rfl) rfl (.two (Ev.name 3 rfl rfl) (Ev.name 4 rfl rfl)) fO)) ?_
  -- over tells the wider ones
  have wl : ((List.range 14).map fun k => cs.getD (k / 2) e0).length = 14 := by simp
  have ul : ((List.range 14).map fun k => ds.getD (k / 2) e0).length = 14 := by simp
  have gw := gDom_map cs
  have gu := gDom_map ds
  generalize (List.range 14).map (fun k => cs.getD (k / 2) e0) = cl at w1 wl gw
  generalize (List.range 14).map (fun k => ds.getD (k / 2) e0) = dl at w2 ul gu
  have q1 : (!eqD (.list (sts (e0 :: cl))) (.list (sts (e0 :: cl)))) = false := by rw [eqD_sts]; rfl
  have q2 : (!eqD (.list (sts (Str.ofString "local" :: dl))) (.list (sts (Str.ofString "local" :: dl)))) = false := by rw [eqD_sts]; rfl
  have x1 := (gWid_map wid cs).trans (congrArg sts w1)
  have x2 := (gWid_map up1 ds).trans (congrArg sts w2)
  refine Ex.of (ρ' := lawRho _ _ _ _ _ _ _ _ _ _ _ _ _ _ _ _ _ _ _ _ _ _) rfl ?_
  refine Ex.seq (Ex1.skip (Tst.cast q1 (Tst.cmp (Ev.cast (congrArg D.list x1) (Ev.comp (Comp1.map1 [none, none, some 5] 1 (gWid wid) (Src1.list (Ev.name 3 rfl rfl)) rfl (by kernel_rfl) (by kernel_rfl) rfl (fun e h => nomatch h) (fun d hd => ?_) (by rw [sts_len]; first | (rw [lc]; decide) | (rw [ld]; decide) | (rw [ho8]; decide))))) (Ev.cast (d := .list ([.str e0] ++ sts cl)) (d' := .list (sts (e0 :: cl))) rfl (Ev.bin (Ev.list (.one (Ev.str (by decide +kernel))) (by simp)) (Ev.cast (congrArg D.list gw) (Ev.comp (Comp1.map1 [none, none, some 3] 1 (gDom cs) (.cast r14 (Src1.range1 25 rfl (g_range hK) Ev.int (by decide) (by decide))) rfl (by kernel_rfl) (by kernel_rfl) rfl (fun e h => nomatch h) (fun d hd => ?_) (by rw [nts_len]; simp)))) (Bin.add_list (by rw [sts_len, wl]; exact Nat.le_of_ble_eq_true rfl)))) (Cmp.ne (flh _) (flh _)))) Ex.nil) ?_
  · obtain ⟨x, hx, rfl⟩ := sts_mem hd
    exact Ev.sub (Ev.sub (Ev.name 2 rfl rfl) Ev.int (Itm.list (i := 0) (by decide) (by decide) rfl)) (Ev.name 1 rfl rfl) (Itm.dict (Nat.zero_le _) (oc x hx))
  · obtain ⟨k, hk, rfl⟩ := nts_mem hd
    have hk14 : k < 14 := by simpa using hk
    exact Ev.sub (Ev.name 2 rfl rfl) (Ev.bin (Ev.name 1 rfl rfl) Ev.int (Bin.fdiv_int (by decide) (by decide))) (Itm.half (by assumption) hk14)
  refine Ex.of (ρ' := lawRho _ _ _ _ _ _ _ _ _ _ _ _ _ _ _ _ _ _ _ _ _ _) rfl ?_
  refine Ex.seq (Ex1.skip (Tst.cast q2 (Tst.cmp (Ev.cast (congrArg D.list x2) (Ev.comp (Comp1.map1 [none, none, some 5] 1 (gWid up1) (Src1.list (Ev.name 4 rfl rfl)) rfl (by kernel_rfl) (by kernel_rfl) rfl (fun e h => nomatch h) (fun d hd => ?_) (by rw [sts_len]; first | (rw [lc]; decide) | (rw [ld]; decide) | (rw [ho8]; decide))))) (Ev.cast (d := .list ([.str (Str.ofString "local")] ++ sts dl)) (d' := .list (sts (Str.ofString "local" :: dl))) rfl (Ev.bin (Ev.list (.one (Ev.str (by decide +kernel))) (by simp)) (Ev.cast (congrArg D.list gu) (Ev.comp (Comp1.map1 [none, none, some 4] 1 (gDom ds) (.cast r14 (Src1.range1 25 rfl (g_range hK) Ev.int (by decide) (by decide))) rfl (by kernel_rfl) (by kernel_rfl) rfl (fun e h => nomatch h) (fun d hd => ?_) (by rw [nts_len]; simp)))) (Bin.add_list (by rw [sts_len, ul]; exact Nat.le_of_ble_eq_true rfl)))) (Cmp.ne (flh _) (flh _)))) Ex.nil) ?_
  · obtain ⟨x, hx, rfl⟩ := sts_mem hd
    exact Ev.sub (Ev.sub (Ev.name 2 rfl rfl) Ev.int (Itm.list (i := 1) (by decide) (by decide) rfl)) (Ev.name 1 rfl rfl) (Itm.dict (Nat.zero_le _) (od x hx))
  · obtain ⟨k, hk, rfl⟩ := nts_mem hd
    have hk14 : k < 14 := by simpa using hk
    exact Ev.sub (Ev.name 2 rfl rfl) (Ev.bin (Ev.name 1 rfl rfl) Ev.int (Bin.fdiv_int (by decide) (by decide))) (Itm.half (by assumption) hk14)
  clear q1 q2 x1 x2 gw gu wl ul w1 w2
  refine Ex.of (ρ' := lawRho _ _ _ _ _ _ _ _ _ _ _ _ _ _ _ _ _ _ _ _ _ _) rfl ?_
  refine Ex.seq (Ex1.assign 6 rfl (Ev.list (.two (Ev.call 26 rfl (l_halves hK) (lk hK rfl) rfl (.one (Ev.sub (Ev.name 5 rfl rfl) Ev.int (Itm.list (i := 0) (by decide) (by decide) rfl))) fH0) (Ev.call 26 rfl (l_halves hK) (lk hK rfl) rfl (.one (Ev.sub (Ev.name 5 rfl rfl) Ev.int (Itm.list (i := 1) (by decide) (by decide) rfl))) fH1)) (by simp))) ?_
  -- the two lists
  have e1 := L.e1
  have e2 := L.e2
  have fW := f_walked (C := C) hK 17 (ns := ns) trn0 L.g0 L.g1 (by omega)
  rw [e1, e2] at fW
  have bq := gQ_map (ds.drop 7)
  have bl := gL_map (cs.drop 7)
  clear e1 e2
  generalize (ds.drop 7).map (fun d => (Str.ofString "Q", d)) = b0 at bq fW
  generalize (cs.drop 7).map (fun c => (c, Str.ofString ".local")) = b1 at bl fW
  refine Ex.of (ρ' := lawRho _ _ _ _ _ _ _ _ _ _ _ _ _ _ _ _ _ _ _ _ _ _) rfl ?_
  refine Ex.seq (Ex1.assignF 7 rfl (EvF.list (.two (Ev.cast (congrArg D.list bq) (Ev.comp (Comp1.map1 [none, none] 1 gQ (Src1.list (Ev.cast (congrArg D.list (cut_drop ds 7)) (Ev.slice_list (Ev.name 4 rfl rfl) (.some Ev.int) .none (fun _ h => by cases h; decide) (fun _ h => nomatch h) (by rw [sts_len]; first | (rw [lc]; decide) | (rw [ld]; decide) | (rw [ho8]; decide))))) rfl (by kernel_rfl) (by kernel_rfl) rfl (fun e h => nomatch h) (fun d hd => ?_) (by rw [sts_len, List.length_drop]; first | (rw [lc]; decide) | (rw [ld]; decide))))) (Ev.cast (congrArg D.list bl) (Ev.comp (Comp1.map1 [none, none] 1 gL (Src1.list (Ev.cast (congrArg D.list (cut_drop cs 7)) (Ev.slice_list (Ev.name 3 rfl rfl) (.some Ev.int) .none (fun _ h => by cases h; decide) (fun _ h => nomatch h) (by rw [sts_len]; first | (rw [lc]; decide) | (rw [ld]; decide) | (rw [ho8]; decide))))) rfl (by kernel_rfl) (by kernel_rfl) rfl (fun e h => nomatch h) (fun d hd => ?_) (by rw [sts_len, List.length_drop]; first | (rw [lc]; decide) | (rw [ld]; decide)))))) (by simp))) ?_
  · obtain ⟨x, hx, rfl⟩ := sts_mem hd
    exact Ev.tup (.two (Ev.str (by decide +kernel)) (Ev.name 1 rfl rfl)) (by simp)
  · obtain ⟨x, hx, rfl⟩ := sts_mem hd
    exact Ev.tup (.two (Ev.name 1 rfl rfl) (Ev.str (by decide +kernel))) (by simp)
  refine Ex.of (ρ' := lawRho _ _ _ _ _ _ _ _ _ _ _ _ _ _ _ _ _ _ _ _ _ _) rfl ?_
  refine Ex.seq (Ex1.assignMv 8 9 7 27 rfl rfl rfl rfl rfl (l_walked hK) (lk hK rfl) rfl (Ev.name 0 rfl rfl) (Ev.name 5 rfl rfl) (Ev.name 6 rfl rfl) fW (fun env => rfl)) ?_
  have fR := f_raised (C := C) hK 17 trn0 L.gl (goal := upper) (by rw [L.u8]; decide) p8
  rw [L.rai] at fR
  clear fW bq bl trn0 fG fO fH0 fH1
  -- names and hosts
  have hnm := L.hnm
  have hho := L.hho
  have nml : ∀ m ∈ names, m.length ≤ 41 := fun m hm => by
    rw [← hnm] at hm
    obtain ⟨k, hk⟩ := List.getElem?_of_mem hm
    unfold hnames at hk
    rw [List.getElem?_mapIdx] at hk
    cases e : (cs.drop 7)[k]? with
    | none => rw [e] at hk; cases hk
    | some x =>
      rw [e] at hk
      cases hk
      have x1 := csz x (List.mem_of_mem_drop (List.mem_of_getElem? e))
      have k1 : (Str.ofString "_").length ≤ 1 := by decide +kernel
      have k2 : (Str.ofString "__x").length ≤ 3 := by decide +kernel
      exact lbS (lbS (lbS k1 x1.2.1) k2) (mul_us (k : Int))
  have nm8 : names.length = 8 := by rw [← hnm]; unfold hnames; simp [lc]
  have ho8 : hosts.length = 8 := by rw [← hho]; simp [ld]
  have k1 : (Str.ofString "_").length = 1 := by decide +kernel
  have k2 : (Str.ofString "__x").length = 3 := by decide +kernel
  have k3 : (Str.ofString "__").length = 2 := by decide +kernel
  have k4 : (Str.ofString "w").length = 1 := by decide +kernel
  refine Ex.of (ρ' := lawRho _ _ _ _ _ _ _ _ _ _ _ _ _ _ _ _ _ _ _ _ _ _) rfl ?_
  refine Ex.seq (Ex1.assignComp 10 rfl (Comp1.cast ((gNm_map cs).trans (congrArg sts hnm)) (Comp1.map2 (k := 0) [none, none, none] 1 2 gNm (Src2.cast (congrArg numD (cut_drop cs 7)) (Src2.enumerate 28 rfl (g_enum hK) (Ev.slice_list (Ev.name 3 rfl rfl) (.some Ev.int) .none (fun _ h => by cases h; decide) (fun _ h => nomatch h) (by rw [sts_len]; first | (rw [lc]; decide) | (rw [ld]; decide) | (rw [ho8]; decide))))) rfl rfl (by kernel_rfl) (by kernel_rfl) rfl (fun e h => nomatch h) (fun e h => nomatch h) (fun d hd => ?_) (by simp [numD, sts_len, lc])))) ?_
  · obtain ⟨k, x, hx, rfl⟩ := numD_mem hd
    have xl := csz x (List.mem_of_mem_drop (List.mem_of_getElem? hx))
    have ml := mul_us (k : Int)
    have m1 := Int.fmod_nonneg_of_pos (k : Int) (b := 2) (by decide)
    have m2 := Int.fmod_lt_of_pos (k : Int) (b := 2) (by decide)
    exact Ev.bin (Ev.bin (Ev.bin (Ev.str (by decide +kernel)) (Ev.name 2 rfl rfl) (Bin.add_str (adS (Nat.le_of_eq k1) xl.2.1 (by decide)))) (Ev.str (by decide +kernel)) (Bin.add_str (adS (lbS (Nat.le_of_eq k1) xl.2.1) (Nat.le_of_eq k2) (by decide)))) (Ev.bin (Ev.str (by decide +kernel)) (Ev.bin (Ev.name 1 rfl rfl) Ev.int (Bin.mod_int (by decide))) (Bin.mul_str m1 (Int.le_trans (Int.le_of_lt m2) (by decide)) (by rw [k1]; decide))) (Bin.add_str (adS (lbS (lbS (Nat.le_of_eq k1) xl.2.1) (Nat.le_of_eq k2)) ml (by decide)))
  refine Ex.of (ρ' := lawRho _ _ _ _ _ _ _ _ _ _ _ _ _ _ _ _ _ _ _ _ _ _) rfl ?_
  refine Ex.seq (Ex1.assignComp 11 rfl (Comp1.cast ((gW_map (ds.drop 7)).trans (congrArg sts hho)) (Comp1.map1 [none, none] 1 gW (Src1.list (Ev.cast (congrArg D.list (cut_drop ds 7)) (Ev.slice_list (Ev.name 4 rfl rfl) (.some Ev.int) .none (fun _ h => by cases h; decide) (fun _ h => nomatch h) (by rw [sts_len]; first | (rw [lc]; decide) | (rw [ld]; decide) | (rw [ho8]; decide))))) rfl (by kernel_rfl) (by kernel_rfl) rfl (fun e h => nomatch h) (fun d hd => ?_) (by rw [sts_len, List.length_drop]; first | (rw [lc]; decide) | (rw [ld]; decide))))) ?_
  · obtain ⟨x, hx, rfl⟩ := sts_mem hd
    have xl := dsz x (List.mem_of_mem_drop hx)
    exact Ev.bin (Ev.str (by decide +kernel)) (Ev.name 1 rfl rfl) (Bin.add_str (adS (Nat.le_of_eq k4) xl.1 (by decide)))
  -- what is told
  have f8 := L.f8
  have s8 := L.s8
  have hh := L.hh
  have gnm := getD_get (l := names) (i := p) (by rw [nm8]; exact p8)
  have lnm := nml _ (getD_in (l := names) (i := p) (by rw [nm8]; exact p8))
  have fT : Fn C 19 116 [.list (rulesD (first ++ second)), .list (sts (names ++ [names.getD p e0 ++ Str.ofString "__"])), .list (sts (hosts.map Txt.upper))] (.list [.dict (tellW A ((first ++ second).map (·.1))), .dict (tellW B ((first ++ second).map (·.2)))]) := by
    rw [L.eA, L.eB]
    exact f_told hK 16 (by rw [List.length_append, f8, s8]; decide) (by rw [List.length_append, nm8, List.length_singleton]; decide) (by rw [List.length_map, ho8]; decide) L.tame (fun m hm => by
      rcases List.mem_append.mp hm with h | h
      · exact Nat.le_trans (nml m h) (by decide)
      · rw [List.mem_singleton.mp h]; exact Nat.le_trans (lbS lnm (Nat.le_of_eq k3)) (by decide)) (fun h hx => by
      obtain ⟨y, hy, rfl⟩ := List.mem_map.mp hx
      exact (hh y hy).2.2)
  have d0 : ∀ r ∈ first ++ second, dget (tellW A ((first ++ second).map (·.1))) r.1 = some (.list (nts (A r.1))) := fun r hr => tellW_get A (List.mem_map.mpr ⟨r, hr, rfl⟩)
  have d1 : ∀ r ∈ first ++ second, dget (tellW B ((first ++ second).map (·.2))) r.2 = some (.list (nts (B r.2))) := fun r hr => tellW_get B (List.mem_map.mpr ⟨r, hr, rfl⟩)
  have y0 : ∀ q ∈ tellW A ((first ++ second).map (·.1)), ∃ r ∈ first ++ second, q.1 = r.1 := fun q hq => by
    obtain ⟨r, hr, e⟩ := List.mem_map.mp (tellW_keys A hq)
    exact ⟨r, hr, e.symm⟩
  have y1 : ∀ q ∈ tellW B ((first ++ second).map (·.2)), ∃ r ∈ first ++ second, q.1 = r.2 := fun q hq => by
    obtain ⟨r, hr, e⟩ := List.mem_map.mp (tellW_keys B hq)
    exact ⟨r, hr, e.symm⟩
  have tk0 : (tellW A ((first ++ second).map (·.1))).length ≤ 900 := by unfold tellW; exact Nat.le_trans (tell_len A _ []) (by rw [List.length_map, List.length_append, f8, s8]; decide)
  have tk1 : (tellW B ((first ++ second).map (·.2))).length ≤ 900 := by unfold tellW; exact Nat.le_trans (tell_len B _ []) (by rw [List.length_map, List.length_append, f8, s8]; decide)
  generalize tellW A ((first ++ second).map (·.1)) = t0 at *
  generalize tellW B ((first ++ second).map (·.2)) = t1 at *
  have upm : (sts hosts).map (gWid Txt.upper) = sts (hosts.map Txt.upper) := gWid_map Txt.upper hosts
  refine Ex.of (ρ' := lawRho _ _ _ _ _ _ _ _ _ _ _ _ _ _ _ _ _ _ _ _ _ _) rfl ?_
  refine Ex.seq (Ex1.assign 12 rfl (Ev.call 29 rfl (l_told hK) (lk hK rfl) rfl (.cons (Ev.cast (congrArg D.list (rulesD_app first second)) (Ev.bin (Ev.name 8 rfl rfl) (Ev.name 9 rfl rfl) (Bin.add_list (by rw [rulesD_len, rulesD_len, f8, s8]; exact Nat.le_of_ble_eq_true rfl)))) ns_BinOp (.cons (Ev.cast (d := .list (sts names ++ [.str (names.getD p e0 ++ Str.ofString "__")])) (congrArg D.list (by unfold sts; rw [List.map_append]; rfl)) (Ev.bin (Ev.name 10 rfl rfl) (Ev.list (.one (Ev.bin (Ev.sub (Ev.name 10 rfl rfl) (Ev.name 2 rfl rfl) (Itm.nat (lt6 p8 (by decide)) (sts_get gnm))) (Ev.str (by decide +kernel)) (Bin.add_str (adS lnm (Nat.le_of_eq k3) (by decide))))) (by simp)) (Bin.add_list (by rw [sts_len, nm8]; exact Nat.le_of_ble_eq_true rfl)))) ns_BinOp (.cons (Ev.cast (congrArg D.list upm) (Ev.comp (Comp1.map1 [none, none] 1 (gWid Txt.upper) (Src1.list (Ev.name 11 rfl rfl)) rfl (by kernel_rfl) (by kernel_rfl) rfl (fun e h => nomatch h) (fun d hd => ?_) (by rw [sts_len]; first | (rw [lc]; decide) | (rw [ld]; decide) | (rw [ho8]; decide))))) ns_ListComp .nil))) fT)) ?_
  · obtain ⟨x, hx, rfl⟩ := sts_mem hd
    have := hh x hx
    exact Ev.upper (Ev.name 1 rfl rfl) (fits_of this.1) this.2.1
  -- the letters
  obtain ⟨⟨l1, l2, lm, lle⟩, ⟨fL1, fL2⟩, ⟨fM1, fM2⟩, ⟨fA1, fA2⟩⟩ := w_fns hK L d0 d1
  refine Ex.of (ρ' := lawRho _ _ _ _ _ _ _ _ _ _ _ _ _ _ _ _ _ _ _ _ _ _) rfl ?_
  refine Ex.seq (Ex1.assign 13 rfl (Ev.call 30 rfl (l_letters hK) (lk hK rfl) rfl (.two (Ev.name 8 rfl rfl) (Ev.name 12 rfl rfl)) fL1)) ?_
  refine Ex.of (ρ' := lawRho _ _ _ _ _ _ _ _ _ _ _ _ _ _ _ _ _ _ _ _ _ _) rfl ?_
  refine Ex.seq (Ex1.assign 14 rfl (Ev.call 30 rfl (l_letters hK) (lk hK rfl) rfl (.two (Ev.name 9 rfl rfl) (Ev.name 12 rfl rfl)) fL2)) ?_
  have tst : ∀ {x y : Bool}, x = false → y = false → (x || (y || false)) = false := fun h h' => by rw [h, h']; rfl
  have big : (!eqD (.int (2 ^ 64 - 1)) (.int ((2 : Int) ^ (64 : Int).toNat - 1))) = false := by rw [eqD_int]; decide +kernel
  have hb2 : (Builtin.Int.intBits 2 : Int) * 64 ≤ 2 ^ 27 := by decide +kernel
  refine Ex.of (ρ' := lawRho _ _ _ _ _ _ _ _ _ _ _ _ _ _ _ _ _ _ _ _ _ _) rfl ?_
  refine Ex.seq (Ex1.skip (Tst.cast (tst big big) (Tst.all (.orCons (Tst.cmp (Ev.cast (congrArg D.int L.sum1) (Ev.sum 22 rfl (g_sum hK) (Ev.name 13 rfl rfl) (allInt_ins one))) (Ev.bin (Ev.bin Ev.int Ev.int (Bin.pow_int (by decide) hb2)) Ev.int Bin.sub_int) (Cmp.ne rfl rfl)) fun _ => .orCons (Tst.cmp (Ev.cast (congrArg D.int L.sum2) (Ev.sum 22 rfl (g_sum hK) (Ev.name 14 rfl rfl) (allInt_ins two))) (Ev.bin (Ev.bin Ev.int Ev.int (Bin.pow_int (by decide) hb2)) Ev.int Bin.sub_int) (Cmp.ne rfl rfl)) fun _ => .orNil))) Ex.nil) ?_
  refine Ex.of (ρ' := lawRho _ _ _ _ _ _ _ _ _ _ _ _ _ _ _ _ _ _ _ _ _ _) rfl ?_
  refine Ex.seq (Ex1.assign 15 rfl (Ev.call 31 rfl (l_more hK) (lk hK rfl) rfl (.cons (Ev.name 8 rfl rfl) ns_Name (.cons (Ev.name 13 rfl rfl) ns_Name (.cons (Ev.name 9 rfl rfl) ns_Name (.cons (Ev.name 14 rfl rfl) ns_Name (.cons (Ev.name 12 rfl rfl) ns_Name .nil))))) fM1)) ?_
  refine Ex.of (ρ' := lawRho _ _ _ _ _ _ _ _ _ _ _ _ _ _ _ _ _ _ _ _ _ _) rfl ?_
  refine Ex.seq (Ex1.assign 16 rfl (Ev.call 31 rfl (l_more hK) (lk hK rfl) rfl (.cons (Ev.name 9 rfl rfl) ns_Name (.cons (Ev.name 14 rfl rfl) ns_Name (.cons (Ev.name 8 rfl rfl) ns_Name (.cons (Ev.name 13 rfl rfl) ns_Name (.cons (Ev.name 12 rfl rfl) ns_Name .nil))))) fM2)) ?_
  clear fL1 fL2 fM1 fM2 big hb2
  -- all or none
  have m1 := L.m1
  have m2 := L.m2
  have nomore : ((nts (List.range 8)).filter (tMor2 one two mo le)).map (fun d => d) = [] := filt_nil fun d hd => by
    obtain ⟨k, hk, rfl⟩ := nts_mem hd
    have hk8 : k < 8 := List.mem_range.mp hk
    have a := any2 (m1 k hk8)
    have b := any2 (m2 k hk8)
    show ((!anyEq [.int 0, .int (one.getD k 0)] (.int (mo.getD k 0))) || ((!anyEq [.int 0, .int (two.getD k 0)] (.int (le.getD k 0))) || false)) = false
    rw [a, b]; rfl
  have nn : (!eqD (.list []) (.list [])) = false := rfl
  refine Ex.of (ρ' := lawRho _ _ _ _ _ _ _ _ _ _ _ _ _ _ _ _ _ _ _ _ _ _) rfl ?_
  refine Ex.seq (Ex1.skip (Tst.cast nn (Tst.cmp (Ev.cast (congrArg D.list nomore) (Ev.comp (Comp1.filter1 [none, none, some 16, some 15, some 13, some 14] 1 (fun d => d) (tMor2 one two mo le) (.cast r8n (Src1.range1 25 rfl (g_range hK) Ev.int (by decide) (by decide))) rfl (by kernel_rfl) (by kernel_rfl) rfl (fun e h => nomatch h) (fun d hd => ?_) (fun d hd ht => Ev.name 1 rfl rfl) (by rw [nts_len]; simp)))) (Ev.list .nil (by simp)) (Cmp.ne rfl rfl))) Ex.nil) ?_
  · obtain ⟨k, hk, rfl⟩ := nts_mem hd
    have hk8 : k < 8 := List.mem_range.mp hk
    exact Tst.all (.orCons (Tst.cmp (Ev.sub (Ev.name 3 rfl rfl) (Ev.name 1 rfl rfl) (Itm.insAt (by assumption) hk8)) (Ev.tup (.two Ev.int (Ev.sub (Ev.name 4 rfl rfl) (Ev.name 1 rfl rfl) (Itm.insAt (by assumption) hk8))) (by simp)) (Cmp.notin_tup rfl rfl)) fun _ => .orCons (Tst.cmp (Ev.sub (Ev.name 2 rfl rfl) (Ev.name 1 rfl rfl) (Itm.insAt (by assumption) hk8)) (Ev.tup (.two Ev.int (Ev.sub (Ev.name 5 rfl rfl) (Ev.name 1 rfl rfl) (Itm.insAt (by assumption) hk8))) (by simp)) (Cmp.notin_tup rfl rfl)) fun _ => .orNil)
  -- the upper and the lower list
  have u := (up_map first second mo le).trans (congrArg rulesD L.up)
  have lw := (lo_map first second mo le).trans (congrArg rulesD L.lo)
  have u8 := L.u8
  have l8 := L.l8
  have rl : ∀ (t : D → Bool) (g : D → D), (((nts (List.range 8)).filter t).map g).length ≤ 8 := fun t g => by
    rw [List.length_map]; exact Nat.le_trans (List.length_filter_le _ _) (by rw [nts_len]; simp)
  refine Ex.of (ρ' := lawRho _ _ _ _ _ _ _ _ _ _ _ _ _ _ _ _ _ _ _ _ _ _) rfl ?_
  refine Ex.seq (Ex1.assign 17 rfl (Ev.cast (congrArg D.list u) (Ev.bin (Ev.comp (Comp1.filter1 [none, none, some 8, some 15] 1 (gR first) (tU1 mo) (.cast r8n (Src1.range1 25 rfl (g_range hK) Ev.int (by decide) (by decide))) rfl (by kernel_rfl) (by kernel_rfl) rfl (fun e h => nomatch h) (fun d hd => ?_) (fun d hd ht => ?_) (by rw [nts_len]; simp))) (Ev.comp (Comp1.filter1 [none, none, some 8, some 16, some 9] 1 (gR second) (tU2 first second le) (.cast r8n (Src1.range1 25 rfl (g_range hK) Ev.int (by decide) (by decide))) rfl (by kernel_rfl) (by kernel_rfl) rfl (fun e h => nomatch h) (fun d hd => ?_) (fun d hd ht => ?_) (by rw [nts_len]; simp))) (Bin.add_list (add16 (rl (tU1 mo) (gR first)) (rl (tU2 first second le) (gR second))))))) ?_
  · obtain ⟨k, hk, rfl⟩ := nts_mem hd
    have hk8 : k < 8 := List.mem_range.mp hk
    exact Tst.cmp (Ev.sub (Ev.name 3 rfl rfl) (Ev.name 1 rfl rfl) (Itm.insAt (by assumption) hk8)) Ev.int (Cmp.eq rfl rfl)
  · obtain ⟨k, hk, rfl⟩ := nts_mem hd
    have hk8 : k < 8 := List.mem_range.mp hk
    exact Ev.sub (Ev.name 2 rfl rfl) (Ev.name 1 rfl rfl) (Itm.ruAt (by assumption) hk8)
  · obtain ⟨k, hk, rfl⟩ := nts_mem hd
    have hk8 : k < 8 := List.mem_range.mp hk
    exact Tst.all (.andCons (Tst.cmp (Ev.sub (Ev.name 3 rfl rfl) (Ev.name 1 rfl rfl) (Itm.insAt (by assumption) hk8)) Ev.int (Cmp.eq rfl rfl)) fun _ => .andCons (Tst.cmp (Ev.sub (Ev.name 4 rfl rfl) (Ev.name 1 rfl rfl) (Itm.ruAt (by assumption) hk8)) (Ev.name 2 rfl rfl) (Cmp.notin_list rfl (flats_ru first 48))) fun _ => .andNil)
  · obtain ⟨k, hk, rfl⟩ := nts_mem hd
    have hk8 : k < 8 := List.mem_range.mp hk
    exact Ev.sub (Ev.name 4 rfl rfl) (Ev.name 1 rfl rfl) (Itm.ruAt (by assumption) hk8)
  refine Ex.of (ρ' := lawRho _ _ _ _ _ _ _ _ _ _ _ _ _ _ _ _ _ _ _ _ _ _) rfl ?_
  refine Ex.seq (Ex1.assign 18 rfl (Ev.cast (congrArg D.list lw) (Ev.bin (Ev.comp (Comp1.filter1 [none, none, some 8, some 15, some 9] 1 (gR first) (tL1 first second mo) (.cast r8n (Src1.range1 25 rfl (g_range hK) Ev.int (by decide) (by decide))) rfl (by kernel_rfl) (by kernel_rfl) rfl (fun e h => nomatch h) (fun d hd => ?_) (fun d hd ht => ?_) (by rw [nts_len]; simp))) (Ev.comp (Comp1.filter1 [none, none, some 16, some 9] 1 (gR second) (tL2 le) (.cast r8n (Src1.range1 25 rfl (g_range hK) Ev.int (by decide) (by decide))) rfl (by kernel_rfl) (by kernel_rfl) rfl (fun e h => nomatch h) (fun d hd => ?_) (fun d hd ht => ?_) (by rw [nts_len]; simp))) (Bin.add_list (add16 (rl (tL1 first second mo) (gR first)) (rl (tL2 le) (gR second))))))) ?_
  · obtain ⟨k, hk, rfl⟩ := nts_mem hd
    have hk8 : k < 8 := List.mem_range.mp hk
    exact Tst.all (.orCons (Tst.cmp (Ev.sub (Ev.name 3 rfl rfl) (Ev.name 1 rfl rfl) (Itm.insAt (by assumption) hk8)) Ev.int (Cmp.ne rfl rfl)) fun _ => .orCons (Tst.cmp (Ev.sub (Ev.name 2 rfl rfl) (Ev.name 1 rfl rfl) (Itm.ruAt (by assumption) hk8)) (Ev.name 4 rfl rfl) (Cmp.in_list rfl (flats_ru second 48))) fun _ => .orNil)
  · obtain ⟨k, hk, rfl⟩ := nts_mem hd
    have hk8 : k < 8 := List.mem_range.mp hk
    exact Ev.sub (Ev.name 2 rfl rfl) (Ev.name 1 rfl rfl) (Itm.ruAt (by assumption) hk8)
  · obtain ⟨k, hk, rfl⟩ := nts_mem hd
    have hk8 : k < 8 := List.mem_range.mp hk
    exact Tst.cmp (Ev.sub (Ev.name 2 rfl rfl) (Ev.name 1 rfl rfl) (Itm.insAt (by assumption) hk8)) Ev.int (Cmp.ne rfl rfl)
  · obtain ⟨k, hk, rfl⟩ := nts_mem hd
    have hk8 : k < 8 := List.mem_range.mp hk
    exact Ev.sub (Ev.name 3 rfl rfl) (Ev.name 1 rfl rfl) (Itm.ruAt (by assumption) hk8)
  clear u lw m1 m2 nomore
  refine Ex.of (ρ' := lawRho _ _ _ _ _ _ _ _ _ _ _ _ _ _ _ _ _ _ _ _ _ _) rfl ?_
  refine Ex.seq (Ex1.assign 19 rfl (Ev.cast (congrArg D.list r8n) (Ev.range1 32 25 rfl rfl (g_list hK) (g_range hK) (.one Ev.int) (by decide) (by decide)))) ?_
  have tt : (!(true && (true && true))) = false := rfl
  refine Ex.of (ρ' := lawRho _ _ _ _ _ _ _ _ _ _ _ _ _ _ _ _ _ _ _ _ _ _) rfl ?_
  refine Ex.seq (Ex1.skip (Tst.cast tt (Tst.not (Tst.all (.andCons (Tst.value (Ev.call 33 rfl (g_asked hK) (lk hK rfl) rfl (.cons (Ev.name 17 rfl rfl) ns_Name (.cons (Ev.name 12 rfl rfl) ns_Name (.cons (Ev.name 19 rfl rfl) ns_Name (.cons (Ev.name 19 rfl rfl) ns_Name .nil)))) fA1) Tru.bool) fun _ => .andCons (Tst.value (Ev.call 33 rfl (g_asked hK) (lk hK rfl) rfl (.cons (Ev.name 18 rfl rfl) ns_Name (.cons (Ev.name 12 rfl rfl) ns_Name (.cons (Ev.name 19 rfl rfl) ns_Name (.cons (Ev.name 19 rfl rfl) ns_Name .nil)))) fA2) Tru.bool) fun _ => .andNil)))) Ex.nil) ?_
  refine Ex.of (ρ' := lawRho _ _ _ _ _ _ _ _ _ _ _ _ _ _ _ _ _ _ _ _ _ _) rfl ?_
  refine Ex.seq (Ex1.assign 20 rfl (Ev.call 34 rfl (l_raised hK) (lk hK rfl) rfl (.cons (Ev.name 18 rfl rfl) ns_Name (.cons (Ev.name 17 rfl rfl) ns_Name (.cons (Ev.name 2 rfl rfl) ns_Name (.cons (Ev.name 5 rfl rfl) ns_Name (.cons (Ev.name 6 rfl rfl) ns_Name .nil))))) fR)) ?_
  refine Ex.of (ρ' := lawRho _ _ _ _ _ _ _ _ _ _ _ _ _ _ _ _ _ _ _ _ _ _) rfl ?_
  refine Ex.seq (Ex1.assignComp 21 rfl (Comp1.map1 [none, none, none] 1 gLab (Src1.list (Ev.list (.two (Ev.name 18 rfl rfl) (Ev.name 17 rfl rfl)) (by simp))) rfl (by kernel_rfl) (by kernel_rfl) rfl (fun e h => nomatch h) (fun d hd => ?_) (by simp))) ?_
  · obtain ⟨l, hl, rfl⟩ : ∃ l : List (Str × Str), l.length = 8 ∧ d = .list (rulesD l) := by
      simp only [List.mem_cons, List.not_mem_nil, or_false] at hd
      rcases hd with rfl | rfl
      · exact ⟨lower, l8, rfl⟩
      · exact ⟨upper, u8, rfl⟩
    refine Ev.cast (congrArg (fun x => D.int (isum x)) ((gC2_map l).trans (gC_map l).symm)) (Ev.sum 2 rfl (g_sum hK) (Ev.comp (Comp1.map2 (k := 0) [none, none, none] 1 2 gC2 (Src2.pairs (Ev.name 1 rfl rfl)) rfl rfl (by kernel_rfl) (by kernel_rfl) rfl (fun e h => nomatch h) (fun e h => nomatch h) (fun q hq => ?_) (by rw [prS_len, hl]; decide))) (by rw [gC2_map]; exact allInt_ins _))
    obtain ⟨i, hi⟩ := List.getElem?_of_mem hq
    obtain ⟨r, hr, rfl⟩ := prS_at hi
    exact Ev.count (Ev.name 1 rfl rfl) (Ev.str (by decide +kernel))
  have lab := L.lab
  have lq0 : gLab (.list (rulesD lower)) = .int (isum (ins (lower.map fun r => Txt.count r.1 (Str.ofString "__")))) := congrArg (fun x => D.int (isum x)) (gC_map lower)
  have lq1 : gLab (.list (rulesD upper)) = .int (isum (ins (upper.map fun r => Txt.count r.1 (Str.ofString "__")))) := congrArg (fun x => D.int (isum x)) (gC_map upper)
  generalize isum (ins (lower.map fun r => Txt.count r.1 (Str.ofString "__"))) = c0 at lab lq0
  generalize isum (ins (upper.map fun r => Txt.count r.1 (Str.ofString "__"))) = c1 at lab lq1
  have tl : (!eqD (.int (c1 - c0)) (.int (2 * (turns : Int)))) = false := by rw [eqD_int, lab, decide_eq_true rfl]; rfl
  have ti : isD (.int (turns : Int)) .none = false := rfl
  refine Ex.of (ρ' := lawRho _ _ _ _ _ _ _ _ _ _ _ _ _ _ _ _ _ _ _ _ _ _) rfl ?_
  refine Ex.seq (Ex1.skip (Tst.cast (tst ti tl) (Tst.all (.orCons (Tst.cmp (Ev.name 20 rfl rfl) Ev.none (Cmp.is rfl)) fun _ => .orCons (Tst.cmp (Ev.bin (Ev.cast lq1 (Ev.sub (Ev.name 21 rfl rfl) Ev.int (Itm.list (i := 1) (by decide) (by decide) rfl))) (Ev.cast lq0 (Ev.sub (Ev.name 21 rfl rfl) Ev.int (Itm.list (i := 0) (by decide) (by decide) rfl))) Bin.sub_int) (Ev.bin Ev.int (Ev.name 20 rfl rfl) (Bin.mul_int (IntMulOk.of_left (by decide +kernel)))) (Cmp.ne rfl rfl)) fun _ => .orNil))) Ex.nil) ?_
  clear lab lq0 lq1 tl ti
  -- what was told
  have sp0 := L.sp0
  have sp1 := L.sp1
  have z0 : ((keysD t0).filter (tSp A cs)).map (fun d => d) = [] := filt_nil fun d hd => by
    unfold keysD at hd
    obtain ⟨q, hq, rfl⟩ := List.mem_map.mp hd
    obtain ⟨r, hr, e⟩ := y0 q hq
    show (!eqD (.list (nts (A q.1))) (.list (nts (grp15.getD (cs.idxOf q.1) [])))) = false
    rw [e, (sp0 r hr).2.2, eqD_nts]; rfl
  have z1 : ((keysD t1).filter (tSp B ds)).map (fun d => d) = [] := filt_nil fun d hd => by
    unfold keysD at hd
    obtain ⟨q, hq, rfl⟩ := List.mem_map.mp hd
    obtain ⟨r, hr, e⟩ := y1 q hq
    show (!eqD (.list (nts (B q.1))) (.list (nts (grp15.getD (ds.idxOf q.1) [])))) = false
    rw [e, (sp1 r hr).2.2, eqD_nts]; rfl
  have j0 : ∀ q ∈ t0, PyData.strOk q.1 = true := fun q hq => by
    obtain ⟨r, hr, e⟩ := y0 q hq
    rw [e]; exact (csz _ (sp0 r hr).1).2.2
  have j1 : ∀ q ∈ t1, PyData.strOk q.1 = true := fun q hq => by
    obtain ⟨r, hr, e⟩ := y1 q hq
    rw [e]; exact (dsz _ (sp1 r hr).1).2
  refine Ex.of (ρ' := lawRho _ _ _ _ _ _ _ _ _ _ _ _ _ _ _ _ _ _ _ _ _ _) rfl ?_
  refine Ex.seq (Ex1.skip (Tst.cast nn (Tst.cmp (Ev.cast (congrArg D.list z0) (Ev.comp (Comp1.filter1 [none, none, none, some 3, some 12] 1 (fun d => d) (tSp A cs) (Src1.keys (Ev.sub (Ev.name 12 rfl rfl) Ev.int (Itm.list (i := 0) (by decide) (by decide) rfl)) j0) rfl (by kernel_rfl) (by kernel_rfl) rfl (fun e h => nomatch h) (fun d hd => ?_) (fun d hd ht => Ev.name 1 rfl rfl) (by unfold keysD; rw [List.length_map]; exact Nat.le_trans (by assumption) (by decide))))) (Ev.list .nil (by simp)) (Cmp.ne rfl rfl))) Ex.nil) ?_
  · unfold keysD at hd
    obtain ⟨q, hq, rfl⟩ := List.mem_map.mp hd
    obtain ⟨r, hr, e⟩ := y0 q hq
    have s := sp0 r hr
    rw [e]
    exact Tst.cmp (Ev.sub (Ev.sub (Ev.name 4 rfl rfl) Ev.int (Itm.list (i := 0) (by decide) (by decide) rfl)) (Ev.name 1 rfl rfl) (Itm.dict (Nat.zero_le _) (d0 r hr))) (Ev.call 2 rfl (l_span hK) (lk hK rfl) rfl (.one (Ev.index (Ev.name 3 rfl rfl) (Ev.name 1 rfl rfl) s.1 (by first | (rw [lc]; decide) | (rw [ld]; decide)) (fun env => rfl))) (f_span hK 18 s.2.1)) (Cmp.ne (flats_nts' _ _) (flats_nts' _ _))
  refine Ex.of (ρ' := lawRho _ _ _ _ _ _ _ _ _ _ _ _ _ _ _ _ _ _ _ _ _ _) rfl ?_
  refine Ex.seq (Ex1.skip (Tst.cast nn (Tst.cmp (Ev.cast (congrArg D.list z1) (Ev.comp (Comp1.filter1 [none, none, none, some 4, some 12] 1 (fun d => d) (tSp B ds) (Src1.keys (Ev.sub (Ev.name 12 rfl rfl) Ev.int (Itm.list (i := 1) (by decide) (by decide) rfl)) j1) rfl (by kernel_rfl) (by kernel_rfl) rfl (fun e h => nomatch h) (fun d hd => ?_) (fun d hd ht => Ev.name 1 rfl rfl) (by unfold keysD; rw [List.length_map]; exact Nat.le_trans (by assumption) (by decide))))) (Ev.list .nil (by simp)) (Cmp.ne rfl rfl))) Ex.nil) ?_
  · unfold keysD at hd
    obtain ⟨q, hq, rfl⟩ := List.mem_map.mp hd
    obtain ⟨r, hr, e⟩ := y1 q hq
    have s := sp1 r hr
    rw [e]
    exact Tst.cmp (Ev.sub (Ev.sub (Ev.name 4 rfl rfl) Ev.int (Itm.list (i := 1) (by decide) (by decide) rfl)) (Ev.name 1 rfl rfl) (Itm.dict (Nat.zero_le _) (d1 r hr))) (Ev.call 2 rfl (l_span hK) (lk hK rfl) rfl (.one (Ev.index (Ev.name 3 rfl rfl) (Ev.name 1 rfl rfl) s.1 (by first | (rw [lc]; decide) | (rw [ld]; decide)) (fun env => rfl))) (f_span hK 18 s.2.1)) (Cmp.ne (flats_nts' _ _) (flats_nts' _ _))
  have gcl := getD_get (l := cs) (i := 7 + p) (by omega)
  have ghs := getD_get (l := hosts) (i := p) (by rw [ho8]; exact p8)
  have e7 : ((7 : Int) + (p : Int)).toNat = 7 + p := by omega
  have C1 := L.corn
  have Ed := L.edge
  refine Ex.of (ρ' := lawRho _ _ _ _ _ _ _ _ _ _ _ _ _ _ _ _ _ _ _ _ _ _) rfl ?_
  exact Ex.stop (Ex1.ret (Ev.cast (d := if true then .bool true else .bool true) rfl (Ev.and2 (Ev.call 35 rfl (l_corners hK) (lk hK rfl) rfl (.one (Ev.sub (Ev.name 3 rfl rfl) (Ev.bin Ev.int (Ev.name 2 rfl rfl) Bin.add_int) (Itm.list (by omega) (by omega) (sts_get (by rw [e7]; exact gcl))))) (f_corners hK 17 C1.len C1.ok C1.low C1.lowok C1.rep C1.repok C1.H)) Tru.bool fun _ => Ev.call 36 rfl (l_edges hK) (lk hK rfl) rfl (.one (Ev.sub (Ev.name 11 rfl rfl) (Ev.name 2 rfl rfl) (Itm.nat (lt6 p8 (by decide)) (sts_get ghs)))) (f_edges hK 16 Ed))))
end
end Mine
end
section
open PySem PySem.W PyProof.Rows PySem.Calls PySem.Spec
set_option maxRecDepth 100000
set_option maxHeartbeats 0
namespace Mine
/-! how often two signs stand in a class -/
noncomputable def hit2 (m : List Bool) (a : Nat) : Bool := m.getD a false && m.getD (a + 1) false
noncomputable def cnt2 (m : List Bool) : Nat → Nat → Nat
  | 0, _ => 0
  | k + 1, a => if hit2 m a then cnt2 m k (a + 2) + 1 else cnt2 m k (a + 1)
theorem at_two (l : List Nat) (i : Nat) : StrLaws.At (tx l) (tx [95, 95]) (tx l).length i ↔ hit2 (l.map (· == 95)) i = true := by
  have e4 : ∀ j, ((l.drop i).map (· == 95)).getD j false = (l.map (· == 95)).getD (i + j) false := fun j => by
    rw [List.getD_eq_getElem?_getD, List.getD_eq_getElem?_getD, List.getElem?_map, List.getElem?_map, List.getElem?_drop]
  have p := pref2 (l.drop i)
  rw [e4, e4] at p
  unfold hit2 StrLaws.At
  rw [StrLaws.subAt_eq, tx_list, tx_list, tx_len, tx_len, Bool.and_eq_true, beq_iff_eq]
  constructor
  · intro h
    exact p.mp (List.prefix_iff_eq_take.mpr h.2.symm)
  · intro h
    have q := p.mpr h
    refine ⟨?_, (List.prefix_iff_eq_take.mp q).symm⟩
    have := q.length_le
    rw [List.length_drop] at this
    simp only [List.length_cons, List.length_nil] at this ⊢
    omega
theorem chain_cnt {x y : Str} {m : List Bool} {n : Nat} (hy : y.length = 2) (hA : ∀ i, StrLaws.At x y n i ↔ hit2 m i = true) : ∀ (fuel a : Nat) {cuts : List Nat} {f : Nat}, StrLaws.ChainG x y n a cuts f → (∀ k, f ≤ k → ¬ StrLaws.At x y n k) → n ≤ a + fuel → cuts.length = cnt2 m fuel a
  | 0, a, cuts, f, h, hf, hn => by
    match cuts, h with
    | [], _ => rfl
    | c :: r, h =>
      have h1 := h.2.1.1
      have h2 := h.1
      omega
  | fuel + 1, a, cuts, f, h, hf, hn => by
    unfold cnt2
    cases e : hit2 m a with
    | true =>
      rw [if_pos rfl]
      have ha := (hA a).mpr e
      match cuts, h with
      | [], h =>
        have h : f = a := h
        exact absurd ha (hf a (by omega))
      | c :: r, h =>
        have hc : c = a := by
          have h1 := h.1
          have h3 := h.2.2.1
          apply Classical.byContradiction
          intro q
          exact h3 a (Nat.le_refl _) (by omega) ha
        subst hc
        have h4 := h.2.2.2
        rw [hy] at h4
        rw [List.length_cons, chain_cnt hy hA fuel (c + 2) h4 hf (by omega)]
    | false =>
      rw [if_neg (by decide)]
      have ha : ¬ StrLaws.At x y n a := fun q => by
        rw [(hA a).mp q] at e; cases e
      match cuts, h with
      | [], h =>
        have h : f = a := h
        subst h
        exact chain_cnt hy hA fuel (f + 1) (cuts := []) (f := f + 1) rfl (fun k hk => hf k (by omega)) (by omega)
      | c :: r, h =>
        obtain ⟨h1, h2, h3, h4⟩ := h
        have hc : c ≠ a := fun q => ha (q ▸ h2)
        exact chain_cnt hy hA fuel (a + 1) (cuts := c :: r) (f := f) ⟨by omega, h2, fun k hk hk' => h3 k (by omega) hk', h4⟩ hf (by omega)
theorem count_tx (l : List Nat) : Txt.count (tx l) (Str.ofString "__") = (cnt2 (l.map (· == 95)) l.length 0 : Int) := by
  rw [us2_tx]
  obtain ⟨f, h1, h2⟩ := StrLaws.occ_tight (tx l) (tx [95, 95]) (by rw [tx_len]; decide)
  have := chain_cnt (m := l.map (· == 95)) (by rw [tx_len]; rfl) (at_two l) l.length 0 h1 h2 (by rw [tx_len]; omega)
  show (((Builtin.Str.occurrences (tx l) (tx [95, 95]) 0 (tx l).length ((tx l).length + 1)).length : Nat) : Int) = _
  rw [this]
theorem k_cnt : (clsT.map fun l => l.map (· == 95)).map (fun m => cnt2 m m.length 0) = dpT := by decide +kernel
theorem cnt_table {a b c : Nat} (ha : a ≠ 95) (hb : b ≠ 95) (hc : c ≠ 95) : (cls15 a b c).map (fun l => cnt2 (l.map (· == 95)) l.length 0) = dpT := by
  have : (cls15 a b c).map (fun l => cnt2 (l.map (· == 95)) l.length 0) = ((cls15 a b c).map fun l => l.map (· == 95)).map fun m => cnt2 m m.length 0 := by
    rw [List.map_map]
    refine List.map_congr_left fun l _ => ?_
    show _ = cnt2 (l.map (· == 95)) (l.map (· == 95)).length 0
    rw [List.length_map]
  rw [this, us_map ha hb hc]
  exact k_cnt
theorem cAt_tx (N : Int) (i : Nat) : cAt N i = tx ((cls15 (sg N 0) (sg N 1) (sg N 2)).getD i []) := by
  unfold cAt
  show (clsS (sgn N) 7).getD i e0 = _
  rw [cls_tx, getD_map_tx]
theorem count_at (N : Int) {i : Nat} (h : i < 15) : Txt.count (cAt N i) (Str.ofString "__") = (dp i : Int) := by
  have t := cnt_table (sg_ok N 0).1 (sg_ok N 1).1 (sg_ok N 2).1
  rw [cAt_tx, count_tx]
  have l15 : (cls15 (sg N 0) (sg N 1) (sg N 2)).length = 15 := rfl
  generalize cls15 (sg N 0) (sg N 1) (sg N 2) = cl at t l15 ⊢
  have e : cl[i]? = some (cl.getD i []) := by rw [List.getD_eq_getElem?_getD, List.getElem?_eq_getElem (by omega)]; rfl
  have t2 := congrArg (fun l : List Nat => l[i]?) t
  simp only [List.getElem?_map, e, Option.map_some] at t2
  unfold dp
  rw [List.getD_eq_getElem?_getD (l := dpT), ← t2, Option.getD_some]
end Mine
end
section
open PySem PySem.W PyProof.Rows PySem.Calls PySem.Spec
set_option maxRecDepth 100000
set_option maxHeartbeats 0
namespace Mine
theorem list15 {l : List Str} (h : l.length = 15) : (List.range 15).map (fun i => l.getD i e0) = l := by
  apply List.ext_getElem?
  intro i
  rw [List.getElem?_map]
  by_cases hi : i < 15
  · rw [List.getElem?_range hi, getD_get (l := l) (i := i) (by omega)]; rfl
  · rw [List.getElem?_eq_none (by rw [List.length_range]; omega), List.getElem?_eq_none (by omega)]; rfl
theorem xs_c (N : Int) : xs15 (cAt N) = cS N := list15 (cS_len N)
theorem xs_d (N : Int) : xs15 (dAt N) = dS N := list15 (dS_len N)
theorem up_of {nd : Nat → Str} {l : List Str} {W : Str → Str} {x : Str} (hn : ∀ i, nd i = l.getD i e0) (hl : l.length = 15) (h : l.map W = x :: (List.range 14).map fun k => nd (k / 2)) : W (nd 0) = x ∧ ∀ {i : Nat}, 0 < i → i < 15 → W (nd i) = nd (pa i) := by
  have g : ∀ i, i < 15 → (x :: (List.range 14).map fun k => nd (k / 2))[i]? = some (W (nd i)) := fun i hi => by
    rw [← h, List.getElem?_map, getD_get (l := l) (i := i) (by omega), ← hn i]; rfl
  constructor
  · exact (Option.some.inj (g 0 (by decide))).symm
  · intro i h0 hi
    have := g i hi
    obtain ⟨j, rfl⟩ : ∃ j, i = j + 1 := ⟨i - 1, by omega⟩
    rw [List.getElem?_cons_succ, List.getElem?_map, List.getElem?_range (by omega)] at this
    exact (Option.some.inj this).symm
theorem c_tree (N : Int) : Tree (cAt N) wid := by
  obtain ⟨h0, hu⟩ := up_of (nd := cAt N) (l := cS N) (fun i => rfl) (cS_len N) (wid_all N)
  refine ⟨cAt_inj N, ?_, hu⟩
  intro i hi e
  rw [h0] at e
  obtain ⟨l, el, _, _, t, et⟩ := cls_at (N := N) (cAt_in N hi)
  rw [el, et, show e0 = tx [] from emp_tx] at e
  exact absurd (tx_inj e) (by simp)
theorem d_tree (N : Int) : Tree (dAt N) up1 := by
  obtain ⟨h0, hu⟩ := up_of (nd := dAt N) (l := dS N) (fun i => rfl) (dS_len N) (up1_all N)
  refine ⟨dAt_inj N, ?_, hu⟩
  intro i hi e
  rw [h0, dAt_tx N i hi] at e
  obtain ⟨r, hr⟩ := gd_dot 66 (wd N) (dp i) (i + 1 - 2 ^ dp i)
  rw [hr, lcl_tx] at e
  have := tx_inj e
  unfold lcl at this
  injection this with a _
  exact absurd a (by decide)
theorem c0_tx (N : Int) : cAt N 0 = Str.ofString "Q" := by rw [cAt_tx, Q_tx]; rfl
theorem d0_tx (N : Int) : dAt N 0 = Str.ofString ".local" := by
  rw [dAt_tx N 0 (by decide), root_tx]; rfl
noncomputable def bI0 : List Ru := ((List.range 15).drop 7).map fun j => (0, j)
noncomputable def bI1 : List Ru := ((List.range 15).drop 7).map fun i => (i, 0)
theorem k_b0 : ((bI0.all fun r => R32.contains r) && ((List.range 64).all fun x => cnt bI0 x == 1)) = true := by decide +kernel
theorem k_b1 : ((bI1.all fun r => R32.contains r) && ((List.range 64).all fun x => cnt bI1 x == 1)) = true := by decide +kernel
theorem til_k {l : List Ru} (h : ((l.all fun r => R32.contains r) && ((List.range 64).all fun x => cnt l x == 1)) = true) : Til l := by
  rw [Bool.and_eq_true] at h
  exact .of (fun r hr => List.contains_iff_mem.mp (List.all_eq_true.mp h.1 r hr)) fun x hx => eq_of_beq (allX h.2 hx)
theorem drop15 {l : List Str} (h : l.length = 15) : l.drop 7 = ((List.range 15).drop 7).map fun i => l.getD i e0 := by
  conv => lhs; rw [← list15 h]
  rw [List.map_drop]
theorem b0_eq (N : Int) : ((dS N).drop 7).map (fun d => (Str.ofString "Q", d)) = bI0.map (stR (cAt N) (dAt N)) := by
  rw [drop15 (dS_len N), List.map_map]
  unfold bI0
  rw [List.map_map]
  refine List.map_congr_left fun j _ => ?_
  show (Str.ofString "Q", dAt N j) = (cAt N 0, dAt N j)
  rw [c0_tx]
theorem b1_eq (N : Int) : ((cS N).drop 7).map (fun c => (c, Str.ofString ".local")) = bI1.map (stR (cAt N) (dAt N)) := by
  rw [drop15 (cS_len N), List.map_map]
  unfold bI1
  rw [List.map_map]
  refine List.map_congr_left fun j _ => ?_
  show (cAt N j, Str.ofString ".local") = (cAt N j, dAt N 0)
  rw [d0_tx]
/-! the sums -/
theorem isum_nat {α : Type} (g : α → Nat) : ∀ l : List α, isum (ins (l.map fun r => ((g r : Nat) : Int))) = (((l.map g).sum : Nat) : Int)
  | [] => rfl
  | r :: l => by
    have := isum_nat g l
    show ((g r : Nat) : Int) + isum (ins (l.map fun r => ((g r : Nat) : Int))) = _
    rw [this, List.map_cons, List.sum_cons]; omega
theorem bit_nat (a b : Nat) : Builtin.bitAnd (a : Int) (b : Int) = ((a &&& b : Nat) : Int) := by
  unfold Builtin.bitAnd
  rw [decide_eq_true (Int.natCast_nonneg a), decide_eq_true (Int.natCast_nonneg b)]
  rfl
theorem k_len : ((List.range 15).all fun i => (List.range 15).all fun j => decide ((grp j).length < (grp i).length) == Nat.blt (dp i) (dp j)) = true := by decide +kernel
section
variable {A B : Str → List Nat} {n0 n1 : Nat → Str}
theorem masks_eq (hA : ∀ r ∈ R32, A (stR n0 n1 r).1 = grp r.1) (hB : ∀ r ∈ R32, B (stR n0 n1 r).2 = grp r.2) {f : List Ru} (F : Til f) : masks A B (f.map (stR n0 n1)) = f.map fun r => ((mk r : Nat) : Int) := by
  unfold masks
  rw [List.map_map]
  refine List.map_congr_left fun r hr => ?_
  have rR := F.inR r hr
  show mask (A (stR n0 n1 r).1) (B (stR n0 n1 r).2) = _
  rw [hA r rR, hB r rR]
  exact eq_of_beq (allR k_mk rR)
theorem more_S (hA : ∀ r ∈ R32, A (stR n0 n1 r).1 = grp r.1) {f s : List Ru} (F : Til f) (S : Til s) : moreS A (s.map (stR n0 n1)) (s.map fun r => ((mk r : Nat) : Int)) (f.map (stR n0 n1)) (f.map fun r => ((mk r : Nat) : Int)) = f.map fun r => ((moreI s r : Nat) : Int) := by
  unfold moreS
  rw [List.zip_map', List.map_map]
  refine List.map_congr_left fun r hr => ?_
  have rR := F.inR r hr
  show moreAt A (s.map (stR n0 n1)) (s.map fun r => ((mk r : Nat) : Int)) (stR n0 n1 r) ((mk r : Nat) : Int) = _
  unfold moreAt moreI
  rw [List.zip_map', List.filter_map, List.map_map, ← isum_nat]
  have e : s.filter ((fun p : (Str × Str) × Int => decide ((A p.1.1).length < (A (stR n0 n1 r).1).length)) ∘ fun a => (stR n0 n1 a, ((mk a : Nat) : Int))) = s.filter fun t => Nat.blt (dp r.1) (dp t.1) := by
    refine List.filter_congr fun t ht => ?_
    have tR := S.inR t ht
    show decide ((A (stR n0 n1 t).1).length < (A (stR n0 n1 r).1).length) = _
    rw [hA t tR, hA r rR]
    exact eq_of_beq (allX (allX k_len (dep3 rR).2.1) (dep3 tR).2.1)
  rw [e]
  refine congrArg (fun l => isum (ins l)) (List.map_congr_left fun t _ => ?_)
  show Builtin.bitAnd ((mk r : Nat) : Int) ((mk t : Nat) : Int) = _
  rw [bit_nat]
end
theorem map_get {α : Type} {l : List Ru} {g : Ru → α} {d : α} {k : Nat} (h : k < l.length) : (l.map g).getD k d = g (l.getD k (0, 0)) := by
  rw [List.getD_eq_getElem?_getD, List.getD_eq_getElem?_getD, List.getElem?_map, List.getElem?_eq_getElem h]; rfl
theorem list8 {l : List Ru} (h : l.length = 8) : (List.range 8).map (fun i => l.getD i (0, 0)) = l := by
  apply List.ext_getElem?
  intro i
  rw [List.getElem?_map]
  by_cases hi : i < 8
  · rw [List.getElem?_range hi, Option.map_some, List.getD_eq_getElem?_getD, List.getElem?_eq_getElem (by omega)]; rfl
  · rw [List.getElem?_eq_none (by rw [List.length_range]; omega), List.getElem?_eq_none (by omega)]; rfl
theorem pick8 {l : List Ru} (h : l.length = 8) {f : List (Str × Str)} {st : Ru → Str × Str} (hf : f = l.map st) {P : Nat → Bool} {Q : Ru → Bool} (hP : ∀ k, k < 8 → P k = Q (l.getD k (0, 0))) : ((List.range 8).filter P).map (fun k => f.getD k e2p) = (l.filter Q).map st := by
  conv => rhs; rw [← list8 h]
  rw [List.filter_map, List.map_map]
  have e : (List.range 8).filter P = (List.range 8).filter (Q ∘ fun i => l.getD i (0, 0)) := List.filter_congr fun k hk => hP k (List.mem_range.mp hk)
  rw [e]
  refine List.map_congr_left fun k hk => ?_
  have hk8 : k < 8 := List.mem_range.mp (List.mem_filter.mp hk).1
  rw [hf, map_get (by omega)]; rfl
theorem mk_pos {r : Ru} (h : r ∈ R32) : mk r ≠ 0 := by
  have := allR k_pos h
  simpa using this
theorem more_0 {s : List Ru} (S : Til s) {r : Ru} (hr : r ∈ R32) : decide (((moreI s r : Nat) : Int) = 0) = !deeper r s := by
  rw [more_eq S hr]
  cases deeper r s with
  | true => rw [if_pos rfl]; exact decide_eq_false fun e => mk_pos hr (by omega)
  | false => rfl
theorem more_n0 {s : List Ru} (S : Til s) {r : Ru} (hr : r ∈ R32) : decide (((moreI s r : Nat) : Int) ≠ 0) = deeper r s := by
  have := more_0 S hr
  by_cases h : ((moreI s r : Nat) : Int) = 0
  · rw [decide_eq_true h] at this
    rw [decide_eq_false (fun q => q h)]
    cases e : deeper r s
    · rfl
    · rw [e] at this; cases this
  · rw [decide_eq_false h] at this
    rw [decide_eq_true h]
    cases e : deeper r s
    · rw [e] at this; cases this
    · rfl
theorem dec_mem {l : List (Str × Str)} {x : Str × Str} {f : List Ru} {r : Ru} (h : x ∈ l ↔ r ∈ f) : decide (x ∈ l) = f.contains r := by
  rw [Bool.eq_iff_iff, decide_eq_true_eq, List.contains_iff_mem]; exact h
theorem dec_nmem {l : List (Str × Str)} {x : Str × Str} {f : List Ru} {r : Ru} (h : x ∈ l ↔ r ∈ f) : decide (x ∉ l) = !f.contains r := by
  rw [← dec_mem h]
  by_cases q : x ∈ l
  · rw [decide_eq_true q, decide_eq_false (fun z => z q)]; rfl
  · rw [decide_eq_false q, decide_eq_true q]; rfl
section
variable {n0 n1 : Nat → Str} {W0 W1 : Str → Str}
theorem up_eq (T0 : Tree n0 W0) (T1 : Tree n1 W1) {f s : List Ru} (F : Til f) (S : Til s) : upS (f.map (stR n0 n1)) (s.map (stR n0 n1)) (f.map fun r => ((moreI s r : Nat) : Int)) (s.map fun r => ((moreI f r : Nat) : Int)) = (upI f s).map (stR n0 n1) := by
  unfold upS upI
  rw [List.map_append]
  have lf := F.len
  have ls := S.len
  congr 1
  · refine pick8 lf rfl fun k hk => ?_
    rw [map_get (by omega), more_0 S (F.inR _ (get_in (by omega)))]
  · refine pick8 ls rfl fun k hk => ?_
    have sR := S.inR _ (get_in (l := s) (p := k) (by omega))
    rw [map_get (l := s) (by omega), map_get (l := s) (by omega), more_0 F sR, dec_nmem (mem_st T0 T1 F sR)]
theorem lo_eq (T0 : Tree n0 W0) (T1 : Tree n1 W1) {f s : List Ru} (F : Til f) (S : Til s) : loS (f.map (stR n0 n1)) (s.map (stR n0 n1)) (f.map fun r => ((moreI s r : Nat) : Int)) (s.map fun r => ((moreI f r : Nat) : Int)) = (loI f s).map (stR n0 n1) := by
  unfold loS loI
  rw [List.map_append]
  have lf := F.len
  have ls := S.len
  congr 1
  · refine pick8 lf rfl fun k hk => ?_
    have fR := F.inR _ (get_in (l := f) (p := k) (by omega))
    rw [map_get (l := f) (by omega), map_get (l := f) (by omega), more_n0 S fR, dec_mem (mem_st T0 T1 S fR)]
  · refine pick8 ls rfl fun k hk => ?_
    rw [map_get (by omega), more_n0 F (S.inR _ (get_in (by omega)))]
end
end Mine
end
section
open PySem PySem.W PyProof.Rows PySem.Calls PySem.Spec
set_option maxRecDepth 100000
set_option maxHeartbeats 0
namespace Mine
theorem k_gl : ((List.range 15).all fun i => decide ((grp i).length ≤ 9) && decide (0 < (grp i).length) && (grp i).all fun x => decide (x < 9)) = true := by decide +kernel
theorem grp_ok {i : Nat} (h : i < 15) : (grp i).length ≤ 9 ∧ 0 < (grp i).length ∧ ∀ x ∈ grp i, x < 9 := by
  have := allX k_gl h
  simp only [Bool.and_eq_true, decide_eq_true_eq, List.all_eq_true] at this
  exact ⟨this.1.1, this.1.2, this.2⟩
theorem idx_of {l : List Str} {nd : Nat → Str} (hn : ∀ i, nd i = l.getD i e0) (hl : l.length = 15) (inj : ∀ {i j : Nat}, i < 15 → j < 15 → nd i = nd j → i = j) {i : Nat} (hi : i < 15) : nd i ∈ l ∧ l.idxOf (nd i) = i := by
  have m : nd i ∈ l := by rw [hn]; exact getD_in (by omega)
  have lt := List.idxOf_lt_length_of_mem m
  refine ⟨m, ?_⟩
  have e : l[l.idxOf (nd i)] = nd i := List.getElem_idxOf lt
  have e2 : nd (l.idxOf (nd i)) = nd i := by
    rw [hn (l.idxOf (nd i)), List.getD_eq_getElem?_getD, List.getElem?_eq_getElem lt]
    exact e
  exact inj (by omega) hi e2
theorem ov_ok (f : Str → Str) {l : List Str} (hn : l.Nodup) (hok : ∀ x ∈ l, PyData.strOk x = true) : ∀ q ∈ ovW f l, PyData.strOk q.1 = true ∧ ∃ w, dget (ovW f l) q.1 = some (.str w) := by
  intro q hq
  have hq' := hq
  rw [ov_keys f hn] at hq'
  obtain ⟨c, hc, rfl⟩ := List.mem_map.mp hq'
  exact ⟨hok c hc, _, ov_get f hc⟩
theorem rgood_of {d : Str} (h : d.length ≤ 900) (g : (own1 d).length ≤ 900 ∧ PyData.strOk (own1 d) = true ∧ (Txt.slice (own1 d) (some (Txt.find (own1 d) (Str.ofString ".") + 1)) none).length ≤ 900) : RGood d := ⟨h, g.1, g.2.1, g.2.2⟩
theorem csz_ok (N : Int) : ∀ x ∈ cS N, 1 ≤ x.length ∧ x.length ≤ 36 ∧ PyData.strOk x = true := fun x hx => by
  have l := clsS_size (fun k _ => Nat.le_of_eq (sgn_len N k)) 7 x hx
  obtain ⟨y, ey, ya, yl, t, yt⟩ := cls_at hx
  refine ⟨?_, by omega, ?_⟩
  · rw [ey, tx_len, yt, List.length_cons]; omega
  · rw [ey]; exact ok_tx ya
theorem dsz_ok (N : Int) : ∀ x ∈ dS N, x.length ≤ 55 ∧ PyData.strOk x = true := fun x hx => by
  have l := domS_size (fun k _ => word_len N k) 7 x hx
  obtain ⟨d, v, _, _, e⟩ := dom_at hx
  exact ⟨by omega, by rw [e]; exact ok_tx (dgd_asc N d v)⟩
theorem lawOk01 (ns : List Int) {R : Prop} (K : ∀ {N : Int} {p : Nat} {cs ds : List Str} {W : Nat → Str → Str} {PT : Nat → Str → Str × Str} {G : List (Str × Str) → Prop} {first second upper lower : List (Str × Str)} {names hosts : List Str} {A B : Str → List Nat} {one two mo le : List Int} {turns : Nat} {z : Str}, Law01 ns N p cs ds W PT G first second upper lower names hosts A B one two mo le turns z → R) : R := by
  generalize hN : (65664 + isum (ins ns) : Int) = N
  have m := mod8 N
  have hp : N.fmod 8 = ((N.fmod 8).toNat : Int) := (Int.toNat_of_nonneg m.1).symm
  have p8 : (N.fmod 8).toNat < 8 := by omega
  generalize (N.fmod 8).toNat = p at hp p8
  have T0 := c_tree N
  have T1 := d_tree N
  have O := turn_ok T0 T1
  rw [xs_c, xs_d] at O
  have G0 : GT (cAt N) (dAt N) (((dS N).drop 7).map fun d => (Str.ofString "Q", d)) := ⟨bI0, til_k k_b0, b0_eq N⟩
  have G1 : GT (cAt N) (dAt N) (((cS N).drop 7).map fun c => (c, Str.ofString ".local")) := ⟨bI1, til_k k_b1, b1_eq N⟩
  obtain ⟨⟨f, F, ef⟩, ⟨s, S, es⟩⟩ := wkS_ok O G0 G1 (deeds ns) (deeds ns).length
  obtain ⟨A, eA⟩ : ∃ A : Str → List Nat, A = fun c => hidK c (nms9 N p) := ⟨_, rfl⟩
  obtain ⟨B, eB⟩ : ∃ B : Str → List Nat, B = fun d => inK d (uppS N) := ⟨_, rfl⟩
  have hA : ∀ r ∈ R32, A (stR (cAt N) (dAt N) r).1 = grp r.1 := fun r hr => by rw [eA]; exact A_at N p (dep3 hr).2.1
  have hB : ∀ r ∈ R32, B (stR (cAt N) (dAt N) r).2 = grp r.2 := fun r hr => by rw [eB]; exact B_at N (dep3 hr).2.2
  have mem : ∀ r ∈ f.map (stR (cAt N) (dAt N)) ++ s.map (stR (cAt N) (dAt N)), ∃ q ∈ R32, r = stR (cAt N) (dAt N) q := fun r hr => by
    rcases List.mem_append.mp hr with h | h
    · obtain ⟨q, hq, rfl⟩ := List.mem_map.mp h; exact ⟨q, F.inR q hq, rfl⟩
    · obtain ⟨q, hq, rfl⟩ := List.mem_map.mp h; exact ⟨q, S.inR q hq, rfl⟩
  have U := F.upper S
  have Lo := F.lower S
  obtain ⟨n, er, ed⟩ := raise_ok T0 T1 U p8 13 0 Lo (lo_le_up F S) (by omega)
  obtain ⟨z, E⟩ := hst_edge N p
  rw [← host_at N p8] at E
  have sub : ∀ l : List Ru, (∀ r ∈ l, r ∈ f ∨ r ∈ s) → ∀ r ∈ l.map (stR (cAt N) (dAt N)), r ∈ f.map (stR (cAt N) (dAt N)) ++ s.map (stR (cAt N) (dAt N)) := fun l h r hr => by
    obtain ⟨q, hq, rfl⟩ := List.mem_map.mp hr
    rw [List.mem_append]
    rcases h q hq with h | h
    · exact .inl (List.mem_map.mpr ⟨q, h, rfl⟩)
    · exact .inr (List.mem_map.mpr ⟨q, h, rfl⟩)
  have subU : ∀ r ∈ upI f s, r ∈ f ∨ r ∈ s := fun r hr => by
    rcases List.mem_append.mp hr with h | h
    · exact .inl (List.mem_filter.mp h).1
    · exact .inr (List.mem_filter.mp h).1
  have subL : ∀ r ∈ loI f s, r ∈ f ∨ r ∈ s := fun r hr => by
    rcases List.mem_append.mp hr with h | h
    · exact .inl (List.mem_filter.mp h).1
    · exact .inr (List.mem_filter.mp h).1
  have lab : ∀ l : List Ru, Til l → isum (ins ((l.map (stR (cAt N) (dAt N))).map fun r => Txt.count r.1 (Str.ofString "__"))) = (dsum l : Int) := fun l T => by
    unfold dsum
    rw [← isum_nat, List.map_map]
    refine congrArg (fun l => isum (ins l)) (List.map_congr_left fun r hr => ?_)
    exact count_at N (dep3 (T.inR r hr)).2.1
  obtain ⟨x, ex⟩ : ∃ x, x = (cS N).getD (7 + p) e0 := ⟨_, rfl⟩
  have C : CornOk ((cS N).getD (7 + p) e0) := by
    obtain ⟨y, ey, ya, yl, t, yt⟩ := cls_at (N := N) (getD_in (l := cS N) (i := 7 + p) (by rw [cS_len]; omega))
    have C := corn_of ya yl yt
    rw [← ey] at C; exact C
  have hup : ∀ h ∈ hostsS N, (Txt.upper h).length ≤ 900 ∧ PyData.strOk (Txt.upper h) = true ∧ Tame (Txt.upper h) := fun h hh => by
    obtain ⟨i, hi⟩ := List.getElem?_of_mem hh
    have hlt : i < 8 := by
      have h1 := (List.getElem?_eq_some_iff.mp hi).1
      rw [hosts_len] at h1; exact h1
    have t := host_at N hlt
    rw [List.getD_eq_getElem?_getD, hi] at t
    have t : h = tx (hst N i) := t
    rw [t]
    have H := hst_host N i
    exact ⟨H.up, H.upok, H.tame⟩
  have hm1 : ∀ {a b : List Ru}, Til a → Til b → ∀ k, k < 8 → (a.map fun r => ((moreI b r : Nat) : Int)).getD k 0 = 0 ∨ (a.map fun r => ((moreI b r : Nat) : Int)).getD k 0 = (a.map fun r => ((mk r : Nat) : Int)).getD k 0 := fun {a b} Ta Tb k hk => by
    have la := Ta.len
    rw [map_get (by omega), map_get (by omega), more_eq Tb (Ta.inR _ (get_in (by omega)))]
    split
    · exact .inr rfl
    · exact .inl rfl
  have big : ((2 ^ 64 - 1 : Nat) : Int) = 2 ^ 64 - 1 := by decide +kernel
  refine K (show Law01 ns (N) (p) (cS N) (dS N) (wS wid up1) (pS (cAt N) (dAt N) wid up1) (GT (cAt N) (dAt N)) (f.map (stR (cAt N) (dAt N))) (s.map (stR (cAt N) (dAt N))) ((upI f s).map (stR (cAt N) (dAt N))) ((loI f s).map (stR (cAt N) (dAt N))) (hnames (cS N)) (hostsS N) (A) (B) (f.map (fun r => ((mk r : Nat) : Int))) (s.map (fun r => ((mk r : Nat) : Int))) (f.map (fun r => ((moreI s r : Nat) : Int))) (s.map (fun r => ((moreI f r : Nat) : Int))) (n) (z) from ?_)
  exact {
    hN := hN.symm
    hp := hp
    p8 := p8
    hcs := rfl
    hds := rfl
    csz := csz_ok N
    dsz := dsz_ok N
    rgood := fun d hd => rgood_of (by have := dsz_ok N d hd; omega) (dom_rgood d hd)
    w1 := wid_all N
    w2 := up1_all N
    ok0 := ov_ok wid (by rw [← xs_c]; exact xs_nodup T0.inj) fun x hx => (csz_ok N x hx).2.2
    ok1 := ov_ok up1 (by rw [← xs_d]; exact xs_nodup T1.inj) fun x hx => (dsz_ok N x hx).2
    turn := O
    g0 := G0
    g1 := G1
    e1 := ef
    e2 := es
    f8 := by rw [List.length_map, F.len]
    s8 := by rw [List.length_map, S.len]
    hnm := rfl
    hho := rfl
    tame := fun r hr => by
      obtain ⟨q, hq, rfl⟩ := mem r hr
      have d := dep3 hq
      exact ⟨by have := csz_ok N _ (cAt_in N d.2.1); show (cAt N q.1).length ≤ 1000; omega, dom_tame _ (dAt_in N d.2.2)⟩
    hh := hup
    eA := eA
    eB := eB
    tA := fun r hr => by
      obtain ⟨q, hq, rfl⟩ := mem r hr
      rw [hA q hq]; exact grp_ok (dep3 hq).2.1
    tB := fun r hr => by
      obtain ⟨q, hq, rfl⟩ := mem r hr
      rw [hB q hq]; exact grp_ok (dep3 hq).2.2
    h1 := masks_eq hA hB F
    h2 := masks_eq hA hB S
    sum1 := by rw [isum_nat, F.all, big]
    sum2 := by rw [isum_nat, S.all, big]
    hmo := more_S hA F S
    hle := more_S hA S F
    m1 := hm1 F S
    m2 := hm1 S F
    up := up_eq T0 T1 F S
    lo := lo_eq T0 T1 F S
    mu := sub _ subU
    ml := sub _ subL
    u8 := by rw [List.length_map, U.len]
    l8 := by rw [List.length_map, Lo.len]
    a1 := ask_of hA hB 3 U.box
    a2 := ask_of hA hB 3 Lo.box
    gl := ⟨_, Lo, rfl⟩
    rai := by rw [er, Nat.zero_add]
    lab := by rw [lab _ U, lab _ Lo, ed]; omega
    sp0 := fun r hr => by
      obtain ⟨q, hq, rfl⟩ := mem r hr
      have d := dep3 hq
      obtain ⟨i1, i2⟩ := idx_of (l := cS N) (nd := cAt N) (fun i => rfl) (cS_len N) (cAt_inj N) d.2.1
      refine ⟨i1, ?_, ?_⟩
      · show (cS N).idxOf (cAt N q.1) < 15
        rw [i2]; exact d.2.1
      · rw [hA q hq]
        show grp q.1 = grp ((cS N).idxOf (cAt N q.1))
        rw [i2]
    sp1 := fun r hr => by
      obtain ⟨q, hq, rfl⟩ := mem r hr
      have d := dep3 hq
      obtain ⟨i1, i2⟩ := idx_of (l := dS N) (nd := dAt N) (fun i => rfl) (dS_len N) (dAt_inj N) d.2.2
      refine ⟨i1, ?_, ?_⟩
      · show (dS N).idxOf (dAt N q.2) < 15
        rw [i2]; exact d.2.2
      · rw [hB q hq]
        show grp q.2 = grp ((dS N).idxOf (dAt N q.2))
        rw [i2]
    corn := C
    edge := E }
end Mine
end
section
open PySem PySem.W PyProof.Rows PySem.Calls PySem.Spec
set_option maxRecDepth 100000
set_option maxHeartbeats 0
namespace Mine
theorem well_ints {C : Cx} {P : Params} {h : Heap} : ∀ {vs : List Value} {ns : List Int}, WellAll P h vs (ofPys (ns.map PyData.int)) → RepL C [] h vs (ins ns)
  | _, [], w => by cases w; exact .nil
  | _, n :: ns, w => by
    cases w with
    | cons a r =>
      cases a with
      | int _ t => exact .cons (.int _ _) (well_ints r)
theorem law01_all {C : Cx} {P : Params} (hK : C.K = hd.heap_39 P) (ns : List Int) (h : ns.length ≤ 63) {A : Around} {s : Shared} {v : Value} (ok : Ok 20 A) (gold : ∀ b o, C.h₀.get? b = some o → s.heap.get? b = some o) (hr : Mine.Rep C [] s.heap v (.list (ins ns))) :
    Wp C A (call (.ref 158) [v]) (fun r s' => Kp s s' ∧ Mine.Rep C [] s'.heap r (.bool true)) s := by
  exact lawOk01 ns fun L => law01 hK h L ok gold hr
set_option pp.deepTerms false
set_option pp.maxSteps 3000
theorem final01 : PySem.Challenge.rw_sw0008_01.Holds := hd (by
  k_fill
  intro w s₀ s₁ mg mb G Y fa o pm cd doc dV kV ho hd' hcd hD hmg hg args vals as hpre hlay hrd hwl hlo
  have KX := kIn_of Y
  have X := (Ground.X G).1
  have V := (Ground.X G).2
  refine Ground.open G ?_
  intro T B D TE TW
  wrow_args hpre hlay hrd hwl hlo
  have TR := topRead_of T
  have hfa : mg (Str.ofString "law") = some (.ref 158) := mg_of KX TR.g (by kernel_rfl)
  rename_i ns hs hlay0 hLay hr1 hl2 as4 as3 l vs as0 hL ra w1 r0 hI hr2 hcond hc2
  have e158 : fa = 158 := by
    have h2 : mg (Str.ofString "law") = some (.ref fa) := hmg
    rw [hfa] at h2
    cases h2; rfl
  subst e158
  let C : Mine.Cx := { prog := PySem.Challenge.rw_sw0008_01.row.prog, w := w, K := hd.heap_39 w.params, h₀ := s₁.heap, mg := mg, mb := mb, inK := KX, g := TR.g, b := TR.b, nolimit := TR.nolimit, bi := TR.builtins }
  have hrep : Mine.Rep C [] s₁.heap (.ref l) (.list (Mine.ins ns)) := by
    have w2 : Well w.params s₁.heap (Value.ref l) (.list (ofPys (ns.map PyData.int))) := w1
    cases w2 with
    | list e a => exact .list (n := 0) (by simp) e (Mine.well_ints a)
  have hlaw := Mine.law01_all (C := C) (P := w.params) rfl ns (by omega) (A := callerA) (s := s₁) (v := .ref l) ⟨rfl, by decide, by decide⟩ (fun _ _ e => e) hrep
  refine wpAny_mono hlaw (fun v s' h => ?_) (fun _ _ x => x.elim)
  obtain ⟨k, r⟩ := h
  cases r
  obtain ⟨⟨h', t', rfl, kk⟩, _⟩ := k

  refine ⟨.inl ⟨_, _, [], rfl, ?_, ReadsW.bool true, ?_, fun _ => ⟨List.nodup_nil, fun _ hm => (nomatch hm)⟩⟩, ?_, rfl, ?_⟩
  · exact fun _ => rfl
  · first | rfl | wrow_post
  · exact OldK.of_keep kk
  · show AllBare s₁.gens
    rw [hg]; exact AllBare.empty)
end Mine
set_option maxRecDepth 100000 in
theorem PySem.Challenge.cw_sw0008_01_holds : PySem.Challenge.rw_sw0008_01.Holds :=
  Mine.final01
end
