import PyProof.Rows.All
import Wide.All
import OpenK.AllK
import Wide.FinOn
import PySem.Challenge.RW_sw0008_02
set_option Elab.async false
set_option linter.unusedVariables false
set_option linter.unusedSimpArgs false
set_option linter.unusedSectionVars false
section
open PySem PySem.W PyProof.Rows
set_option maxRecDepth 100000
set_option maxHeartbeats 0
namespace Mine
open_top hd for PySem.Challenge.rw_sw0008_02
end Mine
end
section
open PySem PySem.W PyProof.Rows PySem.Calls PySem.Spec
set_option maxRecDepth 10000
namespace Mine

/-- pure data -/
inductive D where
  | none
  | bool (b : Bool)
  | int (i : Int)
  | str (x : Str)
  | list (ds : List D)
  | tup (ds : List D)
  | dict (kvs : List (Str × D))

/-- what is fixed for the whole law: the ground heap and what is known of it -/
structure Cx where
  prog : Program
  w : World
  K : Frag
  h₀ : Heap
  mg : Str → Option Value
  mb : Str → Option Value
  inK : K.In h₀
  g : h₀.Ns mainGlobals mg
  b : h₀.Ns builtinsNs mb
  nolimit : h₀.NoLimit
  bi : ∀ x : Str, x ≠ "__name__" → mb x = bootBuiltins x

def listO (vs : List Value) (n : Nat) : Obj := { cls := .type "list", data := .seq vs.toArray n }
def tupO (vs : List Value) (n : Nat) : Obj := { cls := .type "tuple", data := .seq vs.toArray n }

section
variable (C : Cx)
abbrev Cx.dictOf (h : Heap) (a : Addr) (kvs : List (Str × Value)) : Prop := h.DictOf (PySem.strKind C.prog C.w) a kvs

mutual
/-- the value bears the datum, by objects that lie outside X -/
inductive Rep (X : List Addr) (h : Heap) : Value → D → Prop
  | none : Rep X h .none .none
  | bool (b : Bool) : Rep X h (.bool b) (.bool b)
  | int (i : Int) (t : Tok) : Rep X h (.int i t) (.int i)
  | str (x : Str) (t : Tok) : PyData.strOk x = true → Rep X h (.str x t) (.str x)
  | list {a : Addr} {vs : List Value} {n : Nat} {ds : List D} : a ∉ X → h.get? a = some (listO vs n) → RepL X h vs ds → Rep X h (.ref a) (.list ds)
  | tup {a : Addr} {vs : List Value} {n : Nat} {ds : List D} : a ∉ X → h.get? a = some (tupO vs n) → RepL X h vs ds → Rep X h (.ref a) (.tup ds)
  | dict {a : Addr} {kvs : List (Str × Value)} {ds : List (Str × D)} : a ∉ X → a ≠ sysModules → C.dictOf h a kvs → RepD X h kvs ds → Rep X h (.ref a) (.dict ds)
inductive RepL (X : List Addr) (h : Heap) : List Value → List D → Prop
  | nil : RepL X h [] []
  | cons {v : Value} {d : D} {vs : List Value} {ds : List D} : Rep X h v d → RepL X h vs ds → RepL X h (v :: vs) (d :: ds)
inductive RepD (X : List Addr) (h : Heap) : List (Str × Value) → List (Str × D) → Prop
  | nil : RepD X h [] []
  | cons {k : Str} {v : Value} {d : D} {vs : List (Str × Value)} {ds : List (Str × D)} : Rep X h v d → RepD X h vs ds → RepD X h ((k, v) :: vs) ((k, d) :: ds)
end
end

/-- the change of heap that data outside X live through -/
structure Keep (X X' : List Addr) (h h' : Heap) : Prop where
  get : ∀ b o, b ∉ X → h.get? b = some o → h'.get? b = some o
  sub : ∀ b o, h.get? b = some o → b ∈ X' → b ∈ X

theorem Keep.all {X : List Addr} {h h' : Heap} (k : ∀ b o, h.get? b = some o → h'.get? b = some o) : Keep X X h h' := ⟨fun b o _ e => k b o e, fun _ _ _ m => m⟩

theorem dictOf_at {C : Cx} {h h' : Heap} {a : Addr} {kvs : List (Str × Value)} (x : C.dictOf h a kvs) (e : ∀ o, h.get? a = some o → h'.get? a = some o) : C.dictOf h' a kvs :=
  let ⟨o, es, ep, ho, r⟩ := x; ⟨o, es, ep, e o ho, r⟩
theorem dictOf_get {C : Cx} {h : Heap} {a : Addr} {kvs : List (Str × Value)} (x : C.dictOf h a kvs) : ∃ o, h.get? a = some o := let ⟨o, _, _, ho, _⟩ := x; ⟨o, ho⟩

section
variable {C : Cx} {X X' : List Addr} {h h' : Heap}
mutual
theorem Rep.keep (k : Keep X X' h h') : ∀ {v : Value} {d : D}, Rep C X h v d → Rep C X' h' v d
  | _, _, .none => .none
  | _, _, .bool b => .bool b
  | _, _, .int i t => .int i t
  | _, _, .str x t q => .str x t q
  | _, _, .list (a := a) ha e r => .list (fun m => ha (k.sub a _ e m)) (k.get _ _ ha e) (RepL.keep k r)
  | _, _, .tup (a := a) ha e r => .tup (fun m => ha (k.sub a _ e m)) (k.get _ _ ha e) (RepL.keep k r)
  | _, _, .dict (a := a) ha hs e r => .dict (fun m => ha (let ⟨o, ho⟩ := dictOf_get e; k.sub a o ho m)) hs (dictOf_at e fun o ho => k.get _ _ ha ho) (RepD.keep k r)
theorem RepL.keep (k : Keep X X' h h') : ∀ {vs : List Value} {ds : List D}, RepL C X h vs ds → RepL C X' h' vs ds
  | _, _, .nil => .nil
  | _, _, .cons r s => .cons (Rep.keep k r) (RepL.keep k s)
theorem RepD.keep (k : Keep X X' h h') : ∀ {vs : List (Str × Value)} {ds : List (Str × D)}, RepD C X h vs ds → RepD C X' h' vs ds
  | _, _, .nil => .nil
  | _, _, .cons r s => .cons (Rep.keep k r) (RepD.keep k s)
end
theorem RepL.length {vs : List Value} {ds : List D} (r : RepL C X h vs ds) : vs.length = ds.length := by
  induction vs generalizing ds with
  | nil => cases r; rfl
  | cons v vs ih => cases r with | cons _ r => rw [List.length_cons, List.length_cons, ih r]
theorem RepL.append {vs ws : List Value} {ds es : List D} (r : RepL C X h vs ds) (q : RepL C X h ws es) : RepL C X h (vs ++ ws) (ds ++ es) := by
  induction vs generalizing ds with
  | nil => cases r; exact q
  | cons v vs ih => cases r with | cons a r => exact .cons a (ih r)
theorem RepL.get {vs : List Value} {ds : List D} (r : RepL C X h vs ds) {i : Nat} {d : D} (e : ds[i]? = some d) : ∃ v, vs[i]? = some v ∧ Rep C X h v d := by
  induction vs generalizing ds i with
  | nil => cases r; simp at e
  | cons v vs ih =>
    cases r with
    | cons a r =>
      cases i with
      | zero => simp at e; subst e; exact ⟨v, rfl, a⟩
      | succ i => exact ih r (by simpa using e)
theorem RepL.get' {vs : List Value} {ds : List D} (r : RepL C X h vs ds) {i : Nat} {v : Value} (e : vs[i]? = some v) : ∃ d, ds[i]? = some d ∧ Rep C X h v d := by
  induction vs generalizing ds i with
  | nil => simp at e
  | cons v vs ih =>
    cases r with
    | cons a r =>
      cases i with
      | zero => simp at e; subst e; exact ⟨_, rfl, a⟩
      | succ i => exact ih r (by simpa using e)
theorem RepL.take {vs : List Value} {ds : List D} (r : RepL C X h vs ds) (n : Nat) : RepL C X h (vs.take n) (ds.take n) := by
  induction vs generalizing ds n with
  | nil => cases r; simpa using RepL.nil
  | cons v vs ih =>
    cases r with
    | cons a r =>
      cases n with
      | zero => exact .nil
      | succ n => exact .cons a (ih r n)
theorem RepL.drop {vs : List Value} {ds : List D} (r : RepL C X h vs ds) (n : Nat) : RepL C X h (vs.drop n) (ds.drop n) := by
  induction vs generalizing ds n with
  | nil => cases r; simpa using RepL.nil
  | cons v vs ih =>
    cases r with
    | cons a r =>
      cases n with
      | zero => exact .cons a r
      | succ n => exact ih r n
theorem RepL.set {vs : List Value} {ds : List D} (r : RepL C X h vs ds) (i : Nat) {v : Value} {d : D} (q : Rep C X h v d) : RepL C X h (vs.set i v) (ds.set i d) := by
  induction vs generalizing ds i with
  | nil => cases r; exact .nil
  | cons w vs ih =>
    cases r with
    | cons a r =>
      cases i with
      | zero => exact .cons q r
      | succ i => exact .cons a (ih r i)

def dget (kvs : List (Str × D)) (k : Str) : Option D := (kvs.find? fun kv => kv.1 = k).map (·.2)
def dput (kvs : List (Str × D)) (k : Str) (v : D) : List (Str × D) :=
  if kvs.any (fun kv => kv.1 = k) then kvs.map (fun kv => if kv.1 = k then (kv.1, v) else kv) else kvs ++ [(k, v)]
theorem RepD.length {vs : List (Str × Value)} {ds : List (Str × D)} (r : RepD C X h vs ds) : vs.length = ds.length := by
  induction vs generalizing ds with
  | nil => cases r; rfl
  | cons v vs ih => cases r with | cons _ r => rw [List.length_cons, List.length_cons, ih r]
theorem RepD.any {vs : List (Str × Value)} {ds : List (Str × D)} (r : RepD C X h vs ds) (k : Str) : vs.any (fun kv => kv.1 = k) = ds.any (fun kv => kv.1 = k) := by
  induction vs generalizing ds with
  | nil => cases r; rfl
  | cons v vs ih => cases r with | cons _ r => rw [List.any_cons, List.any_cons, ih r]
theorem RepD.find {vs : List (Str × Value)} {ds : List (Str × D)} (r : RepD C X h vs ds) (k : Str) :
    match dget ds k with
    | some d => ∃ v, valueAt vs k = some v ∧ Rep C X h v d
    | none => valueAt vs k = none := by
  induction vs generalizing ds with
  | nil => cases r; rfl
  | cons v vs ih =>
    cases r with
    | @cons k' v d _ ds a r =>
      have ih := ih r
      by_cases e : k' = k
      · simp only [dget, valueAt, List.find?_cons, e, decide_true, Option.map_some]
        exact ⟨v, rfl, a⟩
      · simpa only [dget, valueAt, List.find?_cons, e, decide_false] using ih
theorem RepD.store {vs : List (Str × Value)} {ds : List (Str × D)} (r : RepD C X h vs ds) (k : Str) {v : Value} {d : D} (q : Rep C X h v d) :
    RepD C X h (vs.map (fun kv => if kv.1 = k then (kv.1, v) else kv)) (ds.map (fun kv => if kv.1 = k then (kv.1, d) else kv)) := by
  induction vs generalizing ds with
  | nil => cases r; exact .nil
  | cons w vs ih =>
    cases r with
    | @cons k' w d' _ ds a r =>
      simp only [List.map_cons]
      by_cases e : k' = k
      · simp only [e, if_true]; exact .cons q (ih r)
      · simp only [e, if_false]; exact .cons a (ih r)
theorem RepD.snoc {vs : List (Str × Value)} {ds : List (Str × D)} (r : RepD C X h vs ds) (k : Str) {v : Value} {d : D} (q : Rep C X h v d) : RepD C X h (vs ++ [(k, v)]) (ds ++ [(k, d)]) := by
  induction vs generalizing ds with
  | nil => cases r; exact .cons q .nil
  | cons w vs ih => cases r with | cons a r => exact .cons a (ih r)
theorem RepD.put {vs : List (Str × Value)} {ds : List (Str × D)} (r : RepD C X h vs ds) (k : Str) {v : Value} {d : D} (q : Rep C X h v d) : RepD C X h (stored vs k v) (dput ds k d) := by
  unfold stored dput
  rw [r.any k]
  split
  · exact r.store k q
  · exact r.snoc k q
end

mutual
/-- the same, but the top k levels are objects of one's own (their addresses: T) -/
inductive RepO (C : Cx) (X : List Addr) (h : Heap) : Nat → Value → D → List Addr → Prop
  | sh {v : Value} {d : D} : Rep C X h v d → RepO C X h 0 v d []
  | list {k : Nat} {a : Addr} {vs : List Value} {n : Nat} {ds : List D} {T : List Addr} : h.get? a = some (listO vs n) → RepOL C X h k vs ds T → RepO C X h (k + 1) (.ref a) (.list ds) (a :: T)
  | dict {k : Nat} {a : Addr} {kvs : List (Str × Value)} {ds : List (Str × D)} {T : List Addr} : a ≠ sysModules → C.dictOf h a kvs → RepOD C X h k kvs ds T → RepO C X h (k + 1) (.ref a) (.dict ds) (a :: T)
inductive RepOL (C : Cx) (X : List Addr) (h : Heap) : Nat → List Value → List D → List Addr → Prop
  | nil {k : Nat} : RepOL C X h k [] [] []
  | cons {k : Nat} {v : Value} {d : D} {vs : List Value} {ds : List D} {T T' : List Addr} : RepO C X h k v d T → RepOL C X h k vs ds T' → RepOL C X h k (v :: vs) (d :: ds) (T ++ T')
inductive RepOD (C : Cx) (X : List Addr) (h : Heap) : Nat → List (Str × Value) → List (Str × D) → List Addr → Prop
  | nil {k : Nat} : RepOD C X h k [] [] []
  | cons {k : Nat} {x : Str} {v : Value} {d : D} {vs : List (Str × Value)} {ds : List (Str × D)} {T T' : List Addr} : RepO C X h k v d T → RepOD C X h k vs ds T' → RepOD C X h k ((x, v) :: vs) ((x, d) :: ds) (T ++ T')
end
section
variable {C : Cx} {X X' : List Addr} {h h' : Heap}
mutual
theorem RepO.keep (k : Keep X X' h h') : ∀ {n : Nat} {v : Value} {d : D} {T : List Addr}, RepO C X h n v d T → (∀ b ∈ T, ∀ o, h.get? b = some o → h'.get? b = some o) → RepO C X' h' n v d T
  | _, _, _, _, .sh r, _ => .sh (r.keep k)
  | _, _, _, _, .list (a := a) e r, t => .list (t a (by simp) _ e) (RepOL.keep k r (fun b hb => t b (by simp [hb])))
  | _, _, _, _, .dict (a := a) hs e r, t => .dict hs (dictOf_at e (t a (by simp))) (RepOD.keep k r (fun b hb => t b (by simp [hb])))
theorem RepOL.keep (k : Keep X X' h h') : ∀ {n : Nat} {v : List Value} {d : List D} {T : List Addr}, RepOL C X h n v d T → (∀ b ∈ T, ∀ o, h.get? b = some o → h'.get? b = some o) → RepOL C X' h' n v d T
  | _, _, _, _, .nil, _ => .nil
  | _, _, _, _, .cons r s, t => .cons (RepO.keep k r (fun b hb => t b (by simp [hb]))) (RepOL.keep k s (fun b hb => t b (by simp [hb])))
theorem RepOD.keep (k : Keep X X' h h') : ∀ {n : Nat} {v : List (Str × Value)} {d : List (Str × D)} {T : List Addr}, RepOD C X h n v d T → (∀ b ∈ T, ∀ o, h.get? b = some o → h'.get? b = some o) → RepOD C X' h' n v d T
  | _, _, _, _, .nil, _ => .nil
  | _, _, _, _, .cons r s, t => .cons (RepO.keep k r (fun b hb => t b (by simp [hb]))) (RepOD.keep k s (fun b hb => t b (by simp [hb])))
end
theorem RepO.zero {v : Value} {d : D} {T : List Addr} (r : RepO C X h 0 v d T) : Rep C X h v d ∧ T = [] := by
  cases r with | sh r => exact ⟨r, rfl⟩
theorem RepOL.zero {v : List Value} {d : List D} {T : List Addr} (r : RepOL C X h 0 v d T) : RepL C X h v d ∧ T = [] := by
  induction v generalizing d T with
  | nil => cases r; exact ⟨.nil, rfl⟩
  | cons a v ih =>
    cases r with
    | cons r s => obtain ⟨q, rfl⟩ := r.zero; obtain ⟨z, rfl⟩ := ih s; exact ⟨.cons q z, rfl⟩
theorem RepOD.zero {v : List (Str × Value)} {d : List (Str × D)} {T : List Addr} (r : RepOD C X h 0 v d T) : RepD C X h v d ∧ T = [] := by
  induction v generalizing d T with
  | nil => cases r; exact ⟨.nil, rfl⟩
  | cons a v ih =>
    cases r with
    | cons r s => obtain ⟨q, rfl⟩ := r.zero; obtain ⟨z, rfl⟩ := ih s; exact ⟨.cons q z, rfl⟩
theorem RepL.toO {v : List Value} {d : List D} (r : RepL C X h v d) : RepOL C X h 0 v d [] := by
  induction v generalizing d with
  | nil => cases r; exact .nil
  | cons a v ih => cases r with | cons r s => exact .cons (.sh r) (ih s)
theorem RepD.toO {v : List (Str × Value)} {d : List (Str × D)} (r : RepD C X h v d) : RepOD C X h 0 v d [] := by
  induction v generalizing d with
  | nil => cases r; exact .nil
  | cons a v ih => cases r with | cons r s => exact .cons (.sh r) (ih s)
mutual
theorem RepO.live : ∀ {n : Nat} {v : Value} {d : D} {T : List Addr}, RepO C X h n v d T → ∀ b ∈ T, ∃ o, h.get? b = some o
  | _, _, _, _, .sh _, _, hb => by cases hb
  | _ + 1, .ref _, .list _, _ :: _, .list (a := a) e r, b, hb => by
    rcases List.mem_cons.mp hb with rfl | hb
    · exact ⟨_, e⟩
    · exact RepOL.live r b hb
  | _ + 1, .ref _, .dict _, _ :: _, .dict (a := a) _ e r, b, hb => by
    rcases List.mem_cons.mp hb with rfl | hb
    · exact dictOf_get e
    · exact RepOD.live r b hb
theorem RepOL.live : ∀ {n : Nat} {v : List Value} {d : List D} {T : List Addr}, RepOL C X h n v d T → ∀ b ∈ T, ∃ o, h.get? b = some o
  | _, _, _, _, .nil, _, hb => by cases hb
  | _, _, _, _, .cons r s, b, hb => by
    rcases List.mem_append.mp hb with hb | hb
    · exact RepO.live r b hb
    · exact RepOL.live s b hb
theorem RepOD.live : ∀ {n : Nat} {v : List (Str × Value)} {d : List (Str × D)} {T : List Addr}, RepOD C X h n v d T → ∀ b ∈ T, ∃ o, h.get? b = some o
  | _, _, _, _, .nil, _, hb => by cases hb
  | _, _, _, _, .cons r s, b, hb => by
    rcases List.mem_append.mp hb with hb | hb
    · exact RepO.live r b hb
    · exact RepOD.live s b hb
end
mutual
theorem RepO.share {Y : List Addr} (hs : ∀ b ∈ Y, b ∈ X) : ∀ {n : Nat} {v : Value} {d : D} {T : List Addr}, RepO C X h n v d T → (∀ b ∈ T, b ∉ Y) → Rep C Y h v d
  | _, _, _, _, .sh r, _ => r.keep ⟨fun _ _ _ e => e, fun b _ _ m => hs b m⟩
  | _, _, _, _, .list (a := a) e r, t => .list (t a (by simp)) e (RepOL.share hs r (fun b hb => t b (by simp [hb])))
  | _, _, _, _, .dict (a := a) hz e r, t => .dict (t a (by simp)) hz e (RepOD.share hs r (fun b hb => t b (by simp [hb])))
theorem RepOL.share {Y : List Addr} (hs : ∀ b ∈ Y, b ∈ X) : ∀ {n : Nat} {v : List Value} {d : List D} {T : List Addr}, RepOL C X h n v d T → (∀ b ∈ T, b ∉ Y) → RepL C Y h v d
  | _, _, _, _, .nil, _ => .nil
  | _, _, _, _, .cons r s, t => .cons (RepO.share hs r (fun b hb => t b (by simp [hb]))) (RepOL.share hs s (fun b hb => t b (by simp [hb])))
theorem RepOD.share {Y : List Addr} (hs : ∀ b ∈ Y, b ∈ X) : ∀ {n : Nat} {v : List (Str × Value)} {d : List (Str × D)} {T : List Addr}, RepOD C X h n v d T → (∀ b ∈ T, b ∉ Y) → RepD C Y h v d
  | _, _, _, _, .nil, _ => .nil
  | _, _, _, _, .cons r s, t => .cons (RepO.share hs r (fun b hb => t b (by simp [hb]))) (RepOD.share hs s (fun b hb => t b (by simp [hb])))
end
end
end Mine
end
section
open PySem PySem.W PyProof.Rows PySem.Calls PySem.Spec
set_option maxRecDepth 10000
namespace Mine

abbrev Names := List (Str × NameKind)
/-- what stands in a frame's names: by place; none: not bound, or of no interest -/
abbrev Rho := List (Option (Nat × D))

structure EnvOk (nm : Names) (env : Env) : Prop where
  kind : env.scope.kind = .function
  globals : env.globals = mainGlobals
  builtins : env.builtins = builtinsNs
  nodup : (nm.map (·.1)).Nodup
  plain : ∀ p ∈ nm, (p.1 == ("__debug__" : Str)) = false ∧ (p.1 == ("__classdict__" : Str)) = false
  loc : ∀ x, nm.lookup x = some .local → env.kindOf x = some .local
  cell : ∀ x, nm.lookup x = some .cell → env.kindOf x = some .cell
  free : ∀ x, nm.lookup x = some .free → env.kindOf x = some .free ∨ env.kindOf x = some .cell
  glob : ∀ x, nm.lookup x = some .globalImplicit → env.kindOf x = some .globalImplicit
  has : ∀ x, nm.lookup x = some .cell ∨ nm.lookup x = some .free → ∃ c, env.cells.lookup x = some c

theorem lookup_at {α : Type} : ∀ {nm : List (Str × α)} {i : Nat} {x : Str} {k : α}, (nm.map (·.1)).Nodup → nm[i]? = some (x, k) → nm.lookup x = some k
  | [], _, _, _, _, h => by simp at h
  | (y, c) :: r, 0, x, k, _, h => by
    simp at h; obtain ⟨rfl, rfl⟩ := h; simp [List.lookup_cons]
  | (y, c) :: r, i + 1, x, k, hn, h => by
    have hr : r[i]? = some (x, k) := by simpa using h
    rw [List.map_cons, List.nodup_cons] at hn
    have hne : ¬ x = y := fun e => hn.1 (e ▸ List.mem_map.mpr ⟨(x, k), List.mem_of_getElem? hr, rfl⟩)
    have hb : (x == y) = false := by simpa using hne
    rw [List.lookup_cons, hb]
    exact lookup_at hn.2 hr

inductive VarAt (env : Env) (h : Heap) (x : Str) : NameKind → Value → Prop
  | loc {m : Str → Option Value} {v : Value} : h.Ns env.locals m → m x = some v → VarAt env h x .local v
  | cell {c : Addr} {v : Value} : env.cells.lookup x = some c → h.IsCell c (some v) → VarAt env h x .cell v
  | free {c : Addr} {v : Value} : env.cells.lookup x = some c → h.IsCell c (some v) → VarAt env h x .free v
theorem VarAt.keeps {env : Env} {h h' : Heap} {x : Str} {k : NameKind} {v : Value} (k' : ∀ b o, h.get? b = some o → h'.get? b = some o) : VarAt env h x k v → VarAt env h' x k v
  | .loc n e => .loc (n.keeps k') e
  | .cell a b => .cell a (b.keeps k')
  | .free a b => .free a (b.keeps k')

/-- the names' values -/
def VarsOk (C : Cx) (nm : Names) (env : Env) (X : List Addr) (ρ : Rho) (h : Heap) : Prop :=
  ∀ (i : Nat) (k : Nat) (d : D), ρ[i]? = some (some (k, d)) → ∃ x kd v T, nm[i]? = some (x, kd) ∧ VarAt env h x kd v ∧ RepO C X h k v d T

/-- what an expression may do to the state -/
def Kp (s s' : Shared) : Prop := Keeps s s' ∧ s.toks ≤ s'.toks
theorem kGet {s s' : Shared} (a : Kp s s') : ∀ b o, s.heap.get? b = some o → s'.heap.get? b = some o := by
  obtain ⟨⟨h, t, rfl, k⟩, _⟩ := a; exact k
theorem kRefl (s : Shared) : Kp s s := ⟨⟨s.heap, s.toks, rfl, fun _ _ e => e⟩, Nat.le_refl _⟩
theorem kTrans {s s' s'' : Shared} (a : Kp s s') (b : Kp s' s'') : Kp s s'' := by
  obtain ⟨⟨h, t, rfl, k⟩, l⟩ := a
  obtain ⟨⟨h', t', rfl, k'⟩, l'⟩ := b
  exact ⟨⟨h', t', rfl, fun b o e => k' b o (k b o e)⟩, Nat.le_trans l l'⟩
theorem kToks {s : Shared} {t : Nat} (l : s.toks ≤ t) : Kp s { s with toks := t } := ⟨⟨s.heap, t, rfl, fun _ _ e => e⟩, l⟩
theorem kPush {s : Shared} {t : Nat} (o : Obj) (l : s.toks ≤ t) : Kp s { s with heap := s.heap.push o, toks := t } := ⟨⟨_, t, rfl, fun _ _ e => Heap.get?_push_of_some o e⟩, l⟩
theorem kHeap {s : Shared} {t : Nat} {h : Heap} (k : ∀ b o, s.heap.get? b = some o → h.get? b = some o) (l : s.toks ≤ t) : Kp s { s with heap := h, toks := t } := ⟨⟨h, t, rfl, k⟩, l⟩

/-- the ground, and what must not be met -/
structure Gr (C : Cx) (X : List Addr) (s : Shared) : Prop where
  old : ∀ b o, C.h₀.get? b = some o → s.heap.get? b = some o
  live : ∀ a ∈ X, ∃ o, s.heap.get? a = some o
  toks : 1 ≤ s.toks
theorem Gr.keeps {C : Cx} {X : List Addr} {s s' : Shared} (k : Kp s s') (x : Gr C X s) : Gr C X s' :=
  ⟨fun b o e => kGet k b o (x.old b o e), fun a m => let ⟨o, e⟩ := x.live a m; ⟨o, kGet k a o e⟩, Nat.le_trans x.toks k.2⟩
structure Pre (C : Cx) (nm : Names) (env : Env) (X : List Addr) (ρ : Rho) (s : Shared) : Prop where
  gr : Gr C X s
  vars : VarsOk C nm env X ρ s.heap
  lc : ∀ x c, (nm.lookup x = some .cell ∨ nm.lookup x = some .free) → env.cells.lookup x = some c → ∃ o, s.heap.get? c = some o
theorem VarsOk.keeps {C : Cx} {nm : Names} {env : Env} {X : List Addr} {ρ : Rho} {h h' : Heap} (k : ∀ b o, h.get? b = some o → h'.get? b = some o) (x : VarsOk C nm env X ρ h) : VarsOk C nm env X ρ h' :=
  fun i n d e => let ⟨y, kd, v, T, a, b, c⟩ := x i n d e; ⟨y, kd, v, T, a, b.keeps k, c.keep (.all k) fun b _ o => k b o⟩
theorem Pre.keeps {C : Cx} {nm : Names} {env : Env} {X : List Addr} {ρ : Rho} {s s' : Shared} (k : Kp s s') (x : Pre C nm env X ρ s) : Pre C nm env X ρ s' := ⟨x.gr.keeps k, x.vars.keeps (kGet k), fun y c a b => let ⟨o, e⟩ := x.lc y c a b; ⟨o, kGet k c o e⟩⟩

/-- room for n more calls -/
structure Ok (n : Nat) (A : Around) : Prop where
  handled : A.handled = none
  depth : A.depth + n ≤ 900
  units : A.units + 8 * n ≤ 9000
theorem Ok.room {n : Nat} {A : Around} (x : Ok n A) : A.depth < recursionLimit := by have := x.depth; simp only [recursionLimit]; omega
theorem Ok.deeper {n : Nat} {A : Around} (x : Ok (n + 1) A) (env : Env) : Ok n (A.deeper env) :=
  ⟨x.handled, by have := x.depth; show A.depth + 1 + n ≤ 900; omega, by have := x.units; show A.units + 3 + 8 * n ≤ 9000; omega⟩

theorem new_off {X : List Addr} {h : Heap} (l : ∀ a ∈ X, ∃ o, h.get? a = some o) : h.objs.size ∉ X := fun m => let ⟨_, e⟩ := l _ m; Nat.lt_irrefl _ (Heap.lt_size e)

abbrev NoE : Value → Shared → Prop := fun _ _ => False
abbrev Wp {α : Type} (C : Cx) (A : Around) (t : Sem α) (Q : α → Shared → Prop) (s : Shared) : Prop := wpAny (model C.prog C.w) A t Q NoE s

/-- the end of an expression: a value that bears d -/
def Gives (C : Cx) (X : List Addr) (k : Nat) (d : D) (s : Shared) (v : Value) (s' : Shared) : Prop := Kp s s' ∧ ∃ T, RepO C X s'.heap k v d T
def GivesB (b : Bool) (s : Shared) (c : Bool) (s' : Shared) : Prop := Kp s s' ∧ c = b
/-- the end of an expression: just what the names' frame is told -/
structure Ev (C : Cx) (n : Nat) (nm : Names) (ρ : Rho) (e : Expr) (k : Nat) (d : D) : Prop where
  go : ∀ (A : Around) (env : Env) (X : List Addr) (s : Shared), Ok n A → EnvOk nm env → Pre C nm env X ρ s → Wp C A (eval e env) (Gives C X k d s) s
/-- a test -/
structure Tst (C : Cx) (n : Nat) (nm : Names) (ρ : Rho) (e : Expr) (b : Bool) : Prop where
  go : ∀ (A : Around) (env : Env) (X : List Addr) (s : Shared), Ok n A → EnvOk nm env → Pre C nm env X ρ s → Wp C A (isTrue e env (eval e env)) (GivesB b s) s

section
variable {C : Cx} {n : Nat} {nm : Names} {ρ : Rho} {A : Around} {env : Env} {X : List Addr} {s : Shared}
theorem Gives.mk {d : D} {v : Value} {s' : Shared} (k : Kp s s') (r : Rep C X s'.heap v d) : Gives C X 0 d s v s' := ⟨k, [], .sh r⟩
theorem wp_mono {α : Type} {t : Sem α} {Q Q' : α → Shared → Prop} (h : Wp C A t Q s) (hq : ∀ a s', Q a s' → Q' a s') : Wp C A t Q' s := wpAny_mono h hq fun _ _ x => x
theorem wp_up {α : Type} {t : Sem α} {Q : α → Shared → Prop} (h : Wp C A t (fun v s' => s.toks ≤ s'.toks → Q v s') s) : Wp C A t Q s :=
  wpAny_with_toks (Nat.le_refl _) (wpAny_mono h (fun _ _ x => x) fun _ _ x => x.elim)
/-- one expression, then the rest -/
theorem Ev.then {e : Expr} {k : Nat} {d : D} {Q : Value → Shared → Prop} (h : Ev C n nm ρ e k d) (o : Ok n A) (ok : EnvOk nm env) (p : Pre C nm env X ρ s)
    (hq : ∀ v s', Kp s s' → Pre C nm env X ρ s' → (∃ T, RepO C X s'.heap k v d T) → Q v s') : Wp C A (eval e env) Q s :=
  wp_mono (h.go A env X s o ok p) fun v s' ⟨k, r⟩ => hq v s' k (p.keeps k) r
theorem Ev.then0 {e : Expr} {d : D} {Q : Value → Shared → Prop} (h : Ev C n nm ρ e 0 d) (o : Ok n A) (ok : EnvOk nm env) (p : Pre C nm env X ρ s)
    (hq : ∀ v s', Kp s s' → Pre C nm env X ρ s' → Rep C X s'.heap v d → Q v s') : Wp C A (eval e env) Q s :=
  h.then o ok p fun v s' k p ⟨_, r⟩ => hq v s' k p r.zero.1
theorem Tst.then {e : Expr} {b : Bool} {Q : Bool → Shared → Prop} (h : Tst C n nm ρ e b) (o : Ok n A) (ok : EnvOk nm env) (p : Pre C nm env X ρ s)
    (hq : ∀ s', Kp s s' → Pre C nm env X ρ s' → Q b s') : Wp C A (isTrue e env (eval e env)) Q s :=
  wp_mono (h.go A env X s o ok p) fun v s' ⟨k, r⟩ => by subst r; exact hq s' k (p.keeps k)

theorem Ev.int {i : Int} {k : Nat} {pos : Pos} : Ev C n nm ρ (.Constant (.int i) k pos) 0 (.int i) := .mk fun A env X s o ok p => wpAny_Constant_int (.mk (kToks (Nat.le_succ _)) (.int _ _))
theorem Ev.str {x : Str} {k : Nat} {pos : Pos} (h : PyData.strOk x = true) : Ev C n nm ρ (.Constant (.str x) k pos) 0 (.str x) := .mk fun A env X s o ok p => wpAny_Constant_str (.mk (kToks (Nat.le_succ _)) (.str _ _ h))
theorem Ev.bool {b : Bool} {k : Nat} {pos : Pos} : Ev C n nm ρ (.Constant (.bool b) k pos) 0 (.bool b) := .mk fun A env X s o ok p => wpAny_Constant_bool (.mk (kRefl _) (.bool _))
theorem Ev.none {k : Nat} {pos : Pos} : Ev C n nm ρ (.Constant .none k pos) 0 .none := .mk fun A env X s o ok p => wpAny_Constant_none (.mk (kRefl _) .none)

theorem load_var {x : Str} {kd : NameKind} {v : Value} {Q : Value → Shared → Prop} (ok : EnvOk nm env) {i : Nat} (hi : nm[i]? = some (x, kd)) (hv : VarAt env s.heap x kd v) (h : Q v s) : Wp C A (loadName env x) Q s := by
  have hl := lookup_at ok.nodup hi
  have hp := ok.plain _ (List.mem_of_getElem? hi)
  cases hv with
  | loc a b => exact wpAny_loadName_local ok.kind (ok.loc x hl) a b h
  | cell a b => exact wpAny_loadName_cell ok.kind (ok.cell x hl) a b h
  | free a b =>
    rcases ok.free x hl with q | q
    · exact wpAny_loadName_free ok.kind q a b h hp.2
    · exact wpAny_loadName_cell ok.kind q a b h
theorem Ev.name (i : Nat) {x : Str} {kd : NameKind} {k : Nat} {d : D} {pos : Pos} (hi : nm[i]? = some (x, kd)) (hρ : ρ[i]? = some (some (k, d))) : Ev C n nm ρ (.Name x pos) k d := .mk fun A env X s o ok p => by
  obtain ⟨y, kd', v, T, a, b, c⟩ := p.vars i k d hρ
  rw [hi] at a; cases a
  exact wpAny_Name (load_var ok hi b ⟨kRefl _, T, c⟩) (ok.plain _ (List.mem_of_getElem? hi)).1

theorem load_glob {x : Str} {v : Value} {Q : Value → Shared → Prop} (ok : EnvOk nm env) (p : Pre C nm env X ρ s) (hx : nm.lookup x = some .globalImplicit) (e : nsIn C.K mainGlobals x = some (some v)) (h : Q v s) (hd : (x == ("__debug__" : Str)) = false) (pos : Pos) :
    Wp C A (eval (.Name x pos) env) Q s :=
  Calls.Name_function_global ok.kind (ok.glob x hx) (Calls.loadGlobal_global (env := env) (by rw [ok.globals]; exact C.g.keeps p.gr.old) (mg_of C.inK C.g e) h) hd
theorem load_boot {x : Str} {v : Value} {Q : Value → Shared → Prop} (ok : EnvOk nm env) (p : Pre C nm env X ρ s) (hx : nm.lookup x = some .globalImplicit) (e : nsIn C.K mainGlobals x = some none) (hb : bootBuiltins x = some v) (hn : x ≠ "__name__")
    (h : Q v s) (hd : (x == ("__debug__" : Str)) = false) (pos : Pos) : Wp C A (eval (.Name x pos) env) Q s :=
  Calls.Name_function_global ok.kind (ok.glob x hx) (Calls.loadGlobal_builtin (env := env) (by rw [ok.globals]; exact C.g.keeps p.gr.old) (mg_none_of C.inK C.g e) (by rw [ok.builtins]; exact C.b.keeps p.gr.old) ((C.bi x hn).trans hb) h) hd
end
end Mine
end
section
open PySem PySem.W PyProof.Rows PySem.Calls PySem.Spec
set_option maxRecDepth 10000
namespace Mine

mutual
/-- the datum in the library's words (a dict: none; it is never compared) -/
def D.py : D → PyData
  | .none => .none
  | .bool b => .bool b
  | .int i => .int i
  | .str x => .str x
  | .list ds => .list (pys ds)
  | .tup ds => .tuple (pys ds)
  | .dict _ => .none
def pys : List D → List PyData
  | [] => []
  | d :: ds => d.py :: pys ds
end
mutual
/-- no dict in it, and no deeper than n -/
def D.flat : Nat → D → Bool
  | _, .none => true
  | _, .bool _ => true
  | _, .int _ => true
  | _, .str _ => true
  | n + 1, .list ds => flats n ds
  | n + 1, .tup ds => flats n ds
  | _, _ => false
def flats : Nat → List D → Bool
  | _, [] => true
  | n, d :: ds => d.flat n && flats n ds
end
theorem flats_iff (n : Nat) (ds : List D) : flats n ds = true ↔ ∀ d ∈ ds, d.flat n = true := by
  induction ds with
  | nil => simp [flats]
  | cons d ds ih => simp [flats, ih]

section
variable {C : Cx} {X : List Addr} {h : Heap}
mutual
theorem Rep.reads : ∀ {n : Nat} {v : Value} {d : D}, Rep C X h v d → d.flat n = true → (∃ as, Reads h v d.py as) ∧ d.py.canLay0 = true ∧ d.py.depth ≤ n
  | _, _, _, .none, _ => by simp only [D.py]; exact ⟨⟨_, .none⟩, by simp [PyData.canLay0], by simp [PyData.depth]⟩
  | _, _, _, .bool b, _ => by simp only [D.py]; exact ⟨⟨_, .bool b⟩, by simp [PyData.canLay0], by simp [PyData.depth]⟩
  | _, _, _, .int i t, _ => by simp only [D.py]; exact ⟨⟨_, .int i t⟩, by simp [PyData.canLay0], by simp [PyData.depth]⟩
  | _, _, _, .str x t q, _ => by simp only [D.py]; exact ⟨⟨_, .str x t⟩, by simp [PyData.canLay0, q], by simp [PyData.depth]⟩
  | n, _, _, .list ha e r, hf => by
    cases n with
    | zero => simp [D.flat] at hf
    | succ n =>
      simp only [D.flat] at hf
      obtain ⟨⟨as, q⟩, c, l⟩ := RepL.reads r hf
      simp only [D.py]
      exact ⟨⟨_, reads_list_at e rfl rfl (by simpa [listO] using q)⟩, by simpa [PyData.canLay0] using c, by simp only [PyData.depth]; omega⟩
  | n, _, _, .tup ha e r, hf => by
    cases n with
    | zero => simp [D.flat] at hf
    | succ n =>
      simp only [D.flat] at hf
      obtain ⟨⟨as, q⟩, c, l⟩ := RepL.reads r hf
      simp only [D.py]
      exact ⟨⟨_, reads_tuple_at e rfl rfl (by simpa [tupO] using q)⟩, by simpa [PyData.canLay0] using c, by simp only [PyData.depth]; omega⟩
  | n, _, _, .dict _ _ _ _, hf => by cases n <;> simp [D.flat] at hf
theorem RepL.reads : ∀ {n : Nat} {v : List Value} {d : List D}, RepL C X h v d → flats n d = true → (∃ as, ReadsAll h v (pys d) as) ∧ PyData.canLayAll0 (pys d) = true ∧ PyData.depthAll (pys d) ≤ n
  | _, _, _, .nil, _ => by simp only [pys]; exact ⟨⟨_, .nil⟩, by simp [PyData.canLayAll0], by simp [PyData.depthAll]⟩
  | n, _, _, .cons r s, hf => by
    simp only [flats, Bool.and_eq_true] at hf
    obtain ⟨⟨as, q⟩, c, l⟩ := Rep.reads r hf.1
    obtain ⟨⟨bs, q'⟩, c', l'⟩ := RepL.reads s hf.2
    simp only [pys]
    exact ⟨⟨_, .cons q q'⟩, by simp [PyData.canLayAll0, c, c'], by simp only [PyData.depthAll]; omega⟩
end
end

/-- == of two data -/
def eqD (a b : D) : Bool := PyData.eqv a.py b.py

/-- a binary operation: from any state -/
structure Bin (C : Cx) (op : Operator) (d₁ d₂ d : D) : Prop where
  go : ∀ (n : Nat) (A : Around) (X : List Addr) (s : Shared) (v₁ v₂ : Value), Ok n A → Gr C X s → Rep C X s.heap v₁ d₁ → Rep C X s.heap v₂ d₂ → Wp C A (binaryOp op v₁ v₂) (Gives C X 0 d s) s
/-- a comparison -/
structure Cmp (C : Cx) (op : CmpOp) (k₁ : Nat) (d₁ : D) (k₂ : Nat) (d₂ : D) (b : Bool) : Prop where
  go : ∀ (n : Nat) (A : Around) (X : List Addr) (s : Shared) (v₁ v₂ : Value) (T₁ T₂ : List Addr), Ok n A → Gr C X s → RepO C X s.heap k₁ v₁ d₁ T₁ → RepO C X s.heap k₂ v₂ d₂ T₂ → Wp C A (compareOp op v₁ v₂) (fun v s' => Kp s s' ∧ v = .bool b) s
/-- truth -/
structure Tru (C : Cx) (k : Nat) (d : D) (b : Bool) : Prop where
  go : ∀ (n : Nat) (A : Around) (X : List Addr) (s : Shared) (v : Value) (T : List Addr), Ok n A → Gr C X s → RepO C X s.heap k v d T → Wp C A (truthy v) (GivesB b s) s

theorem strOk_append {x y : Str} (a : PyData.strOk x = true) (b : PyData.strOk y = true) : PyData.strOk (x ++ y) = true := by
  have e : (x ++ y).cps = x.cps ++ y.cps := rfl
  simp only [PyData.strOk, e, Array.all_append, Bool.and_eq_true] at *
  exact ⟨a, b⟩

section
variable {C : Cx} {n : Nat} {nm : Names} {ρ : Rho} {A : Around} {env : Env} {X : List Addr} {s : Shared}
theorem Ev.bin {l r : Expr} {op : Operator} {pos : Pos} {d₁ d₂ d : D} (a : Ev C n nm ρ l 0 d₁) (b : Ev C n nm ρ r 0 d₂) (c : Bin C op d₁ d₂ d) : Ev C n nm ρ (.BinOp l op r pos) 0 d := .mk fun A env X s o ok p =>
  wpAny_BinOp (a.then0 o ok p fun v s' k p r => b.then0 o ok p fun u s'' k' p' r' => wp_mono (c.go n A X s'' v u o p'.gr (r.keep (.all (kGet k'))) r') fun w z g => ⟨kTrans k (kTrans k' g.1), g.2⟩)

theorem Bin.add_int {a b : Int} : Bin C .Add (.int a) (.int b) (.int (a + b)) := .mk fun n A X s v₁ v₂ o g r₁ r₂ => by
  cases r₁; cases r₂; exact P.add_int (.mk (kToks (Nat.le_succ _)) (.int _ _))
theorem Bin.sub_int {a b : Int} : Bin C .Sub (.int a) (.int b) (.int (a - b)) := .mk fun n A X s v₁ v₂ o g r₁ r₂ => by
  cases r₁; cases r₂; exact P.sub_int (.mk (kToks (Nat.le_succ _)) (.int _ _))
theorem Bin.fdiv_int {a b : Int} (hb : 0 < b) (hb' : b < 1073741824) : Bin C .FloorDiv (.int a) (.int b) (.int (a.fdiv b)) := .mk fun n A X s v₁ v₂ o g r₁ r₂ => by
  cases r₁; cases r₂; exact floordiv_int (by omega) (.mk (kToks (Nat.le_succ _)) (.int _ _)) (.inl (PyProof.noPylong_small (by omega)))
theorem Bin.mod_int {a b : Int} (hb : b ≠ 0) : Bin C .Mod (.int a) (.int b) (.int (a.fmod b)) := .mk fun n A X s v₁ v₂ o g r₁ r₂ => by
  cases r₁; cases r₂; exact mod_int' hb (.mk (kToks (Nat.le_succ _)) (.int _ _))
theorem Bin.pow_int {a b : Int} (hb : 0 ≤ b) (hs : (Builtin.Int.intBits a : Int) * b ≤ 2 ^ 27) : Bin C .Pow (.int a) (.int b) (.int (a ^ b.toNat)) := .mk fun n A X s v₁ v₂ o g r₁ r₂ => by
  cases r₁; cases r₂; exact PyProof.Rows.pow_int hb hs (.mk (kToks (Nat.le_succ _)) (.int _ _))
theorem Bin.add_str {a b : Str} (h : a.length + b.length ≤ sizeLine) : Bin C .Add (.str a) (.str b) (.str (a ++ b)) := .mk fun n A X s v₁ v₂ o g r₁ r₂ => by
  cases r₁ with | str _ _ q => cases r₂ with | str _ _ q' => exact wp_up (PyProof.Rows.add_str (fun t tk l => .mk (kToks l) (.str _ _ (strOk_append q q'))) h)

theorem listO_isList {h : Heap} {a : Addr} {vs : List Value} {m : Nat} (e : h.get? a = some (listO vs m)) : h.IsList a vs.toArray := ⟨_, e, rfl, m, rfl⟩
theorem Bin.add_list {ds es : List D} (hz : ds.length + es.length ≤ sizeLine) : Bin C .Add (.list ds) (.list es) (.list (ds ++ es)) := .mk fun n A X s v₁ v₂ o g r₁ r₂ => by
  cases r₁ with
  | list ha e r =>
    cases r₂ with
    | list hb e' r' =>
      rename_i a vs m b ws m'
      have hsz : vs.toArray.size + ws.toArray.size ≤ sizeLine := by simpa [r.length, r'.length] using hz
      refine concat_meets ⟨_, e, rfl⟩ ⟨_, e', rfl⟩ noFill_list_add seq_list_add PySem.F.slot_list_add PySem.F.entry_list_add (PySem.F.args_list_add_2 _ _) (list_addW a b vs.toArray ws.toArray m m' none none #[] #[] hsz) ⟨e, e', ?_⟩
      refine .mk (kPush _ (Nat.le_refl _)) ?_
      have e2 : vs.toArray ++ ws.toArray = (vs ++ ws).toArray := by simp
      rw [e2]
      have kk := kGet (kPush (s := s) (listO (vs ++ ws) 0) (Nat.le_refl _))
      exact .list (new_off g.live) (Heap.get?_push_size _ rfl) ((r.append r').keep (.all kk))
end
end Mine
end
section
open PySem PySem.W PyProof.Rows PySem.Calls PySem.Spec
set_option maxRecDepth 100000
namespace Mine

section
open PySem.Builtin PySem.Builtin.Str
end

section
variable {C : Cx}

theorem rep_replicate {X : List Addr} {h : Heap} {v : Value} {d : D} (r : Rep C X h v d) : ∀ k : Nat, RepL C X h (List.replicate k v) (List.replicate k d)
  | 0 => .nil
  | k + 1 => .cons r (rep_replicate r k)
theorem foldl_app : ∀ (k : Nat) (v : Value) (acc : Array Value), List.foldl (fun x1 x2 => x1 ++ x2) acc (List.replicate k #[v]) = acc ++ (List.replicate k v).toArray
  | 0, _, acc => by simp
  | k + 1, v, acc => by
    rw [List.replicate_succ, List.foldl_cons, foldl_app k v]
    apply Array.ext'
    simp [List.replicate_succ]
theorem Bin.mul_list1 {d : D} {k : Int} (h0 : 0 ≤ k) (hk : k ≤ 1000000) : Bin C .Mult (.list [d]) (.int k) (.list (List.replicate k.toNat d)) := .mk fun n A X s v₁ v₂ o g r₁ r₂ => by
  cases r₂ with
  | int _ u =>
    cases r₁ with
    | list ha e r =>
      cases r with
      | cons a r =>
        cases r
        rename_i l m v
        have hl : s.heap.get? l = some { cls := .type "list", dict := none, data := .seq #[v] m, slots := #[] } := e
        refine wpAny_binaryOp_repeat_ref (T := "list") (U := "int") (by decide) ⟨_, hl, rfl⟩ (fun s' => typeIs_int s' k u) noFill_list_mul F.fills_int_mul F.slot_int_rmul repeat_list F.slot_int_index.lookup
          (call_meets F.slot_int_rmul (typeIs_int s k u) F.entry_int_rmul (F.args_int_rmul_2 _ _) (int___rmul___int_list k u l #[v] m)
            ⟨hl, rfl, ⟨_, hl, rfl⟩, call_meets F.slot_list_mul ⟨_, hl, rfl⟩ F.entry_list_mul (F.args_list_mul_2 _ _)
              (AutoListH.list___mul___list_int_3 l #[v] m k u (by simp [Builtin.List.listFitsIndex]; omega) (by simp; omega) (by simp [Builtin.List.listTooLong, sizeLine]; omega)) ⟨hl, ?_⟩⟩)
        have e2 : List.foldl (fun x1 x2 => x1 ++ x2) #[] (List.replicate (if (#[v] : Array Value).isEmpty = true then 0 else k.toNat) #[v]) = (List.replicate k.toNat v).toArray := by
          simp [foldl_app]
        rw [e2]
        refine .mk (kPush _ (Nat.le_refl _)) (.list (vs := List.replicate k.toNat v) (n := 0) (new_off g.live) (Heap.get?_push_size _ rfl) ?_)
        exact rep_replicate (a.keep (.all fun b o e => Heap.get?_push_of_some _ e)) _

theorem strOk_mul {x : Str} {k : Int} (h : PyData.strOk x = true) : PyData.strOk (Txt.mul x k) = true := by
  unfold Txt.mul
  split
  · decide +kernel
  · split
    · exact h
    · have all : ∀ (n : Nat) (acc : Array Nat), acc.all (· < 0x110000) = true → (List.foldl (· ++ ·) acc (List.replicate n x.cps)).all (· < 0x110000) = true := by
        intro n
        induction n with
        | zero => intro acc ha; simpa using ha
        | succ n ih =>
          intro acc ha
          rw [List.replicate_succ, List.foldl_cons]
          refine ih _ ?_
          rw [Array.all_append, ha]
          exact h
      exact all _ _ (by simp)
theorem Bin.mul_str {x : Str} {k : Int} (h0 : 0 ≤ k) (hk : k ≤ 100) (hx : x.length ≤ 1000) : Bin C .Mult (.str x) (.int k) (.str (Txt.mul x k)) := .mk fun n A X s v₁ v₂ o g r₁ r₂ => by
  cases r₁ with
  | str _ t q =>
    cases r₂ with
    | int _ u =>
      refine wp_up (SB.mul ⟨by simp; omega, fun h1 h2 => ?_, fun h1 h2 => ?_⟩ fun t' tk l => .mk (kToks l) (.str _ _ (strOk_mul q)))
      · intro h3
        have hk1 : 1 ≤ k := by omega
        have h4 : (2 ^ 63 - 1 : Int) < (x.length : Int) * k := by
          have := Int.lt_mul_of_ediv_lt (by omega : 0 < k) h3
          omega
        have h5 : (x.length : Int) * k ≤ 1000 * 100 := Int.mul_le_mul (by omega) hk (by omega) (by omega)
        omega
      · have : x.length * k.toNat ≤ 1000 * 100 := Nat.mul_le_mul hx (by omega)
        unfold Builtin.Str.tooLong sizeLine
        exact decide_eq_false (by omega)
end
end Mine
end
section
open PySem PySem.W PyProof.Rows PySem.Calls PySem.Spec
set_option maxRecDepth 100000
namespace Mine
theorem ns_Constant {c : Const} {k : Nat} {p : Pos} {es : List Expr} (env : Env) : starEach ((.Constant c k p) :: es) env = (false, eval (.Constant c k p) env) :: starEach es env := rfl
theorem ns_Name {x : Str} {p : Pos} {es : List Expr} (env : Env) : starEach ((.Name x p) :: es) env = (false, eval (.Name x p) env) :: starEach es env := rfl
theorem ns_BinOp {l r : Expr} {o : Operator} {p : Pos} {es : List Expr} (env : Env) : starEach ((.BinOp l o r p) :: es) env = (false, eval (.BinOp l o r p) env) :: starEach es env := rfl
theorem ns_Call {f : Expr} {as : List Expr} {ks : List Keyword} {p : Pos} {es : List Expr} (env : Env) : starEach ((.Call f as ks p) :: es) env = (false, eval (.Call f as ks p) env) :: starEach es env := rfl
theorem ns_Subscript {a b : Expr} {p : Pos} {es : List Expr} (env : Env) : starEach ((.Subscript a b p) :: es) env = (false, eval (.Subscript a b p) env) :: starEach es env := rfl
theorem ns_Tuple {a : List Expr} {k : Nat} {p : Pos} {es : List Expr} (env : Env) : starEach ((.Tuple a k p) :: es) env = (false, eval (.Tuple a k p) env) :: starEach es env := rfl
theorem ns_ListComp {a : Expr} {g : List Comprehension} {s : Scope} {p : Pos} {es : List Expr} (env : Env) : starEach ((.ListComp a g s p) :: es) env = (false, eval (.ListComp a g s p) env) :: starEach es env := rfl
theorem ns_Compare {a : Expr} {o : List CmpOp} {b : List Expr} {p : Pos} {es : List Expr} (env : Env) : starEach ((.Compare a o b p) :: es) env = (false, eval (.Compare a o b p) env) :: starEach es env := rfl
theorem n1_Constant {c : Const} {k : Nat} {p : Pos} (env : Env) : starEach [(.Constant c k p)] env = [(false, eval (.Constant c k p) env)] := rfl
theorem n1_Name {x : Str} {p : Pos} (env : Env) : starEach [(.Name x p)] env = [(false, eval (.Name x p) env)] := rfl
theorem n1_BinOp {l r : Expr} {o : Operator} {p : Pos} (env : Env) : starEach [(.BinOp l o r p)] env = [(false, eval (.BinOp l o r p) env)] := rfl
theorem n1_Call {f : Expr} {as : List Expr} {ks : List Keyword} {p : Pos} (env : Env) : starEach [(.Call f as ks p)] env = [(false, eval (.Call f as ks p) env)] := rfl
theorem n1_Subscript {a b : Expr} {p : Pos} (env : Env) : starEach [(.Subscript a b p)] env = [(false, eval (.Subscript a b p) env)] := rfl
theorem n1_List {a : List Expr} {p : Pos} (env : Env) : starEach [(.List a p)] env = [(false, eval (.List a p) env)] := rfl
theorem n1_ListComp {a : Expr} {g : List Comprehension} {s : Scope} {p : Pos} (env : Env) : starEach [(.ListComp a g s p)] env = [(false, eval (.ListComp a g s p) env)] := rfl
theorem it_Name {x : Str} {p : Pos} (env : Env) (whole : Sem Value) : isTrue (.Name x p) env whole = (do let v ← whole; standAt ((.Name x p) : Expr).pos; holding [v] (truthy v)) := rfl
theorem it_Call {f : Expr} {as : List Expr} {ks : List Keyword} {p : Pos} (env : Env) (whole : Sem Value) : isTrue (.Call f as ks p) env whole = (do let v ← whole; standAt ((.Call f as ks p) : Expr).pos; holding [v] (truthy v)) := rfl
section
variable {C : Cx}
theorem Cmp.eq {d e : D} (hd : d.flat 60 = true) (he : e.flat 60 = true) : Cmp C .Eq 0 d 0 e (eqD d e) := .mk fun n A X s v₁ v₂ T₁ T₂ o g r₁ r₂ => by
  obtain ⟨⟨as, ra⟩, ca, la⟩ := r₁.zero.1.reads hd
  obtain ⟨⟨bs, rb⟩, cb, lb⟩ := r₂.zero.1.reads he
  exact eq_dataH ra rb (by unfold SeqAt.shaped; rw [ca, Bool.true_and]; exact decide_eq_true (by omega)) (by unfold SeqAt.shaped; rw [cb, Bool.true_and]; exact decide_eq_true (by omega)) (by have := o.units; simp only [cLine]; omega) ⟨kRefl _, rfl⟩
theorem Cmp.ne {d e : D} (hd : d.flat 60 = true) (he : e.flat 60 = true) : Cmp C .NotEq 0 d 0 e (!eqD d e) := .mk fun n A X s v₁ v₂ T₁ T₂ o g r₁ r₂ => by
  obtain ⟨⟨as, ra⟩, ca, la⟩ := r₁.zero.1.reads hd
  obtain ⟨⟨bs, rb⟩, cb, lb⟩ := r₂.zero.1.reads he
  exact ne_dataH ra rb (by unfold SeqAt.shaped; rw [ca, Bool.true_and]; exact decide_eq_true (by omega)) (by unfold SeqAt.shaped; rw [cb, Bool.true_and]; exact decide_eq_true (by omega)) (by have := o.units; simp only [cLine]; omega) ⟨kRefl _, rfl⟩
theorem Cmp.lt {a b : Int} : Cmp C .Lt 0 (.int a) 0 (.int b) (decide (a < b)) := .mk fun n A X s v₁ v₂ T₁ T₂ o g r₁ r₂ => by
  cases r₁.zero.1; cases r₂.zero.1; exact P.lt_int ⟨kRefl _, rfl⟩
theorem Cmp.gt {a b : Int} : Cmp C .Gt 0 (.int a) 0 (.int b) (decide (a > b)) := .mk fun n A X s v₁ v₂ T₁ T₂ o g r₁ r₂ => by
  cases r₁.zero.1; cases r₂.zero.1; exact P.gt_int ⟨kRefl _, rfl⟩
theorem Cmp.ge {a b : Int} : Cmp C .GtE 0 (.int a) 0 (.int b) (decide (a ≥ b)) := .mk fun n A X s v₁ v₂ T₁ T₂ o g r₁ r₂ => by
  cases r₁.zero.1; cases r₂.zero.1; exact P.ge_int ⟨kRefl _, rfl⟩

def anyEq (ds : List D) (d : D) : Bool := ds.any fun e => eqD e d
theorem any_pys (d : D) : ∀ ds : List D, ((pys ds).any fun y => PyData.eqv y d.py) = anyEq ds d
  | [] => rfl
  | e :: ds => by simp only [pys, List.any_cons, any_pys d ds, anyEq, eqD]
theorem Cmp.in_list {d : D} {ds : List D} (hd : d.flat 50 = true) (hs : flats 50 ds = true) : Cmp C .In 0 d 0 (.list ds) (anyEq ds d) := .mk fun n A X s v₁ v₂ T₁ T₂ o g r₁ r₂ => by
  obtain ⟨⟨as, ra⟩, ca, la⟩ := r₁.zero.1.reads hd
  obtain ⟨⟨bs, rb⟩, cb, lb⟩ := r₂.zero.1.reads (n := 51) (d := .list ds) (by simpa [D.flat] using hs)
  simp only [D.py, PyData.canLay0, PyData.depth] at rb cb lb
  have := o.units
  exact SeqAt.in_list_reads rb ra cb ca (by simp only [cLine]; omega) (by rw [any_pys]; exact ⟨kRefl _, rfl⟩)

theorem dict_of {X : List Addr} {h : Heap} {k : Nat} {v : Value} {ds : List (Str × D)} {T : List Addr} (hk : k ≤ 1) (r : RepO C X h k v (.dict ds) T) :
    ∃ a kvs, v = .ref a ∧ a ≠ sysModules ∧ C.dictOf h a kvs ∧ RepD C X h kvs ds := by
  cases r with
  | sh r => cases r with | dict _ hs e r => exact ⟨_, _, rfl, hs, e, r⟩
  | dict hs e r =>
    rename_i k _ _ _
    have : k = 0 := by omega
    subst this
    exact ⟨_, _, rfl, hs, e, r.zero.1⟩
theorem Cmp.notin_str {x y : Str} : Cmp C .NotIn 0 (.str x) 0 (.str y) (!Txt.contains y x) := .mk fun n A X s v₁ v₂ T₁ T₂ o g r₁ r₂ => by
  cases r₁.zero.1; cases r₂.zero.1; exact SB.notContains ⟨kRefl _, rfl⟩

/-- is: with None or a bool on one side -/
def isD : D → D → Bool
  | .none, .none => true
  | .bool a, .bool b => a == b
  | _, _ => false
def smallD : D → Bool
  | .none => true
  | .bool _ => true
  | _ => false
theorem isD_plain {X : List Addr} {h : Heap} {v u : Value} {d e : D} (he : smallD e = true) (r : Rep C X h v d) (q : Rep C X h u e) : plainIs v u = true ∧ (v == u) = isD d e := by
  cases q <;> first | (exfalso; simp [smallD] at he; done) | skip
  · cases r <;> exact ⟨rfl, rfl⟩
  · cases r <;> first | exact ⟨rfl, rfl⟩ | (rename_i x y; refine ⟨rfl, ?_⟩; cases x <;> cases y <;> decide)
theorem Cmp.is {d e : D} (he : smallD e = true) : Cmp C .Is 0 d 0 e (isD d e) := .mk fun n A X s v₁ v₂ T₁ T₂ o g r₁ r₂ => by
  obtain ⟨a, b⟩ := isD_plain he r₁.zero.1 r₂.zero.1
  exact wpAny_is_plain a ⟨kRefl _, by rw [b]⟩
theorem Cmp.isnot {d e : D} (he : smallD e = true) : Cmp C .IsNot 0 d 0 e (!isD d e) := .mk fun n A X s v₁ v₂ T₁ T₂ o g r₁ r₂ => by
  obtain ⟨a, b⟩ := isD_plain he r₁.zero.1 r₂.zero.1
  exact wpAny_isNot_plain a ⟨kRefl _, by rw [b]⟩

theorem Tru.bool {b : Bool} : Tru C 0 (.bool b) b := .mk fun n A X s v T o g r => by cases r.zero.1; exact wpAny_truthy_bool ⟨kRefl _, rfl⟩
end

section
variable {C : Cx} {n : Nat} {nm : Names} {ρ : Rho}
/-- what a test asks of any expression whose truth is its value's truth -/
theorem Tst.value {e : Expr} {k : Nat} {d : D} {b : Bool} (h : Ev C n nm ρ e k d) (t : Tru C k d b)
    (he : ∀ (env : Env) (whole : Sem Value), isTrue e env whole = (do let v ← whole; standAt e.pos; holding [v] (truthy v)) := by first | exact it_Name | exact it_BinOp | exact it_Call | exact it_Subscript | exact it_List | exact it_Tuple | exact it_ListComp | exact it_Dict | (intro _ _; rfl)) : Tst C n nm ρ e b := .mk fun A env X s o ok p =>
  wpAny_isTrue_value (h.then o ok p fun v s' k p' ⟨T, r⟩ => wp_mono (t.go n A X s' v T o p'.gr r) fun c s'' g => ⟨kTrans k g.1, g.2⟩) (he env _)
theorem Tst.cmp {l r : Expr} {op : CmpOp} {pos : Pos} {k₁ k₂ : Nat} {d₁ d₂ : D} {b : Bool} (a : Ev C n nm ρ l k₁ d₁) (c : Ev C n nm ρ r k₂ d₂) (m : Cmp C op k₁ d₁ k₂ d₂ b) (hm : behindInMarks op r = false := by with_unfolding_all rfl) :
    Tst C n nm ρ (.Compare l [op] [r] pos) b := .mk fun A env X s o ok p =>
  wpAny_isTrue_Compare1 (a.then o ok p fun v s' k p' ⟨T, q⟩ => c.then o ok p' fun u s'' k' p'' ⟨T', q'⟩ =>
    wp_mono (m.go n A X s'' v u T T' o p''.gr (q.keep (.all (kGet k')) fun b _ o => kGet k' b o) q') fun w z g => by
      obtain ⟨g1, rfl⟩ := g
      exact wpAny_truthy_bool ⟨kTrans k (kTrans k' g1), rfl⟩) hm
theorem Ev.cmp {l r : Expr} {op : CmpOp} {pos : Pos} {k₁ k₂ : Nat} {d₁ d₂ : D} {b : Bool} (a : Ev C n nm ρ l k₁ d₁) (c : Ev C n nm ρ r k₂ d₂) (m : Cmp C op k₁ d₁ k₂ d₂ b) (hm : behindInMarks op r = false := by with_unfolding_all rfl) :
    Ev C n nm ρ (.Compare l [op] [r] pos) 0 (.bool b) := .mk fun A env X s o ok p =>
  wpAny_Compare1 (a.then o ok p fun v s' k p' ⟨T, q⟩ => c.then o ok p' fun u s'' k' p'' ⟨T', q'⟩ =>
    wp_mono (m.go n A X s'' v u T T' o p''.gr (q.keep (.all (kGet k')) fun b _ o => kGet k' b o) q') fun w z g => by
      obtain ⟨g1, rfl⟩ := g
      exact .mk (kTrans k (kTrans k' g1)) (.bool b)) hm
theorem Tst.not {x : Expr} {pos : Pos} {b : Bool} (h : Tst C n nm ρ x b) : Tst C n nm ρ (.UnaryOp .Not x pos) (!b) := .mk fun A env X s o ok p =>
  wpAny_isTrue_Not (h.then o ok p fun s' k p' => ⟨k, rfl⟩)
/-- a row of tests under and | or -/
inductive TstAll (C : Cx) (n : Nat) (nm : Names) (ρ : Rho) : BoolOp → List Expr → Bool → Prop
  | andNil : TstAll C n nm ρ .And [] true
  | orNil : TstAll C n nm ρ .Or [] false
  | andCons {e : Expr} {es : List Expr} {b c : Bool} : Tst C n nm ρ e b → (b = true → TstAll C n nm ρ .And es c) → TstAll C n nm ρ .And (e :: es) (b && c)
  | orCons {e : Expr} {es : List Expr} {b c : Bool} : Tst C n nm ρ e b → (b = false → TstAll C n nm ρ .Or es c) → TstAll C n nm ρ .Or (e :: es) (b || c)
theorem TstAll.run {op : BoolOp} : ∀ {es : List Expr} {b : Bool}, TstAll C n nm ρ op es b → ∀ (A : Around) (env : Env) (X : List Addr) (s : Shared), Ok n A → EnvOk nm env → Pre C nm env X ρ s → Wp C A (allTrue op es env) (GivesB b s) s
  | _, _, .andNil, A, env, X, s, o, ok, p => wpAny_allTrue_And_nil ⟨kRefl _, rfl⟩
  | _, _, .orNil, A, env, X, s, o, ok, p => wpAny_allTrue_Or_nil ⟨kRefl _, rfl⟩
  | _, _, .andCons (b := b) h r, A, env, X, s, o, ok, p => wpAny_allTrue_And_cons (h.then o ok p fun s' k p' => by
      cases b with
      | false => exact ⟨k, rfl⟩
      | true => exact wp_mono (TstAll.run (r rfl) A env X s' o ok p') fun c s'' g => ⟨kTrans k g.1, g.2⟩)
  | _, _, .orCons (b := b) h r, A, env, X, s, o, ok, p => wpAny_allTrue_Or_cons (h.then o ok p fun s' k p' => by
      cases b with
      | true => exact ⟨k, rfl⟩
      | false => exact wp_mono (TstAll.run (r rfl) A env X s' o ok p') fun c s'' g => ⟨kTrans k g.1, g.2⟩)
theorem Tst.all {op : BoolOp} {es : List Expr} {pos : Pos} {b : Bool} (h : TstAll C n nm ρ op es b) : Tst C n nm ρ (.BoolOp op es pos) b := .mk fun A env X s o ok p => wpAny_isTrue_BoolOp (h.run A env X s o ok p)
theorem Ev.and2 {x y : Expr} {pos : Pos} {d d' : D} {b : Bool} (h : Ev C n nm ρ x 0 d) (t : Tru C 0 d b) (h' : b = true → Ev C n nm ρ y 0 d') : Ev C n nm ρ (.BoolOp .And [x, y] pos) 0 (if b then d' else d) := .mk fun A env X s o ok p =>
  wpAny_And2 (h.then o ok p fun v s' k p' ⟨T, r⟩ => wp_mono (t.go n A X s' v T o p'.gr r) fun c s'' g => by
    obtain ⟨g1, rfl⟩ := g
    cases c with
    | true => exact wp_mono ((h' rfl).go A env X s'' o ok (p'.keeps g1)) fun u z q => ⟨kTrans k (kTrans g1 q.1), q.2⟩
    | false => exact ⟨kTrans k g1, T, r.keep (.all (kGet g1)) fun b _ o => kGet g1 b o⟩)

/-- a row of expressions -/
inductive Evs (C : Cx) (n : Nat) (nm : Names) (ρ : Rho) : List Expr → List D → Prop
  | nil : Evs C n nm ρ [] []
  | cons {e : Expr} {es : List Expr} {d : D} {ds : List D} : Ev C n nm ρ e 0 d → (∀ env : Env, starEach (e :: es) env = (false, eval e env) :: starEach es env) → Evs C n nm ρ es ds → Evs C n nm ρ (e :: es) (d :: ds)
theorem Evs.run {pos : Pos} : ∀ {es : List Expr} {ds : List D}, Evs C n nm ρ es ds → ∀ (A : Around) (env : Env) (X : List Addr) (s : Shared), Ok n A → EnvOk nm env → Pre C nm env X ρ s →
    Wp C A (spliced (backTo pos (starEach es env))) (fun vs s' => Kp s s' ∧ RepL C X s'.heap vs ds) s
  | _, _, .nil, A, env, X, s, o, ok, p => args_nil ⟨kRefl _, .nil⟩
  | _, _, .cons h he r, A, env, X, s, o, ok, p => args_cons (h.then0 o ok p fun v s' k p' q => wp_mono (Evs.run r A env X s' o ok p') fun vs s'' ⟨k', q'⟩ => ⟨kTrans k k', .cons (q.keep (.all (kGet k'))) q'⟩) (he env)
theorem Ev.list {es : List Expr} {ds : List D} {pos : Pos} (h : Evs C n nm ρ es ds) (hz : ds.length ≤ 1000) : Ev C n nm ρ (.List es pos) 0 (.list ds) := .mk fun A env X s o ok p =>
  wpAny_List_spliced (wp_mono (h.run A env X s o ok p) fun vs s' ⟨k, q⟩ => ⟨by simp only [sizeLine]; rw [q.length]; omega,
    .mk (kTrans k (kPush _ (Nat.le_refl _))) (.list (vs := vs) (n := 0) (new_off (p.keeps k).gr.live) (Heap.get?_push_size _ rfl) (q.keep (.all fun b o e => Heap.get?_push_of_some _ e)))⟩)
theorem Ev.tup {es : List Expr} {ds : List D} {x1 : Nat} {pos : Pos} (h : Evs C n nm ρ es ds) (hz : ds.length ≤ 1000) : Ev C n nm ρ (.Tuple es x1 pos) 0 (.tup ds) := .mk fun A env X s o ok p =>
  wpAny_Tuple_spliced (wp_mono (h.run A env X s o ok p) fun vs s' ⟨k, q⟩ => ⟨by simp only [sizeLine]; rw [q.length]; omega,
    .mk (kTrans k (kPush _ (Nat.le_refl _))) (.tup (vs := vs) (n := 0) (new_off (p.keeps k).gr.live) (Heap.get?_push_size _ rfl) (q.keep (.all fun b o e => Heap.get?_push_of_some _ e)))⟩)
end
end Mine
end
section
open PySem PySem.W PyProof.Rows PySem.Calls PySem.Spec
set_option maxRecDepth 100000
namespace Mine

/-- reading an item: from any state -/
structure Itm (C : Cx) (k : Nat) (d₁ d₂ : D) (k' : Nat) (d : D) : Prop where
  go : ∀ (n : Nat) (A : Around) (X : List Addr) (s : Shared) (v₁ v₂ : Value) (T₁ : List Addr), Ok n A → Gr C X s → RepO C X s.heap k v₁ d₁ T₁ → Rep C X s.heap v₂ d₂ →
    ∃ T id, s.TypeIs v₁ T ∧ typeLookup (.type T) "__getitem__" = pure (some (.builtin id)) ∧ Wp C A (getItem v₁ v₂) (Gives C X k' d s) s

theorem RepOL.get {C : Cx} {X : List Addr} {h : Heap} {k : Nat} {vs : List Value} {ds : List D} {T : List Addr} (r : RepOL C X h k vs ds T) {i : Nat} {d : D} (e : ds[i]? = some d) : ∃ v T', vs[i]? = some v ∧ RepO C X h k v d T' ∧ ∀ b ∈ T', b ∈ T := by
  induction vs generalizing ds i T with
  | nil => cases r; simp at e
  | cons v vs ih =>
    cases r with
    | cons a r =>
      cases i with
      | zero => simp at e; subst e; exact ⟨v, _, rfl, a, fun b hb => by simp [hb]⟩
      | succ i => obtain ⟨w, T', h1, h2, h3⟩ := ih r (by simpa using e); exact ⟨w, T', h1, h2, fun b hb => by simp [h3 b hb]⟩

section
variable {C : Cx}
theorem strOk_one {c : Nat} {x : Str} (h : PyData.strOk x = true) (m : c ∈ x.cps) : PyData.strOk ⟨#[c]⟩ = true := by
  unfold PyData.strOk at *
  rw [Array.all_eq_true'] at h
  have := h c m
  simp only [List.all_toArray, List.all_cons, List.all_nil, Bool.and_true]
  exact this
theorem Itm.list {ds : List D} {i : Int} {d : D} (h0 : 0 ≤ i) (hi : i < 1000000) (e : ds[i.toNat]? = some d) : Itm C 0 (.list ds) (.int i) 0 d := .mk fun n A X s v₁ v₂ T₁ o g r₁ r₂ => by
  cases r₂ with
  | int _ u =>
    cases r₁.zero.1 with
    | list ha e' r =>
      obtain ⟨v, hv, q⟩ := r.get e
      exact ⟨"list", _, (listO_isList e').typeIs, PySem.slot_list_getitem.lookup, wpAny_getItem_list (listO_isList e') h0 (by omega) (by simpa using hv) (.mk (kRefl _) q)⟩
theorem Itm.own {ds : List D} {k : Nat} {i : Int} {d : D} (h0 : 0 ≤ i) (hi : i < 1000000) (e : ds[i.toNat]? = some d) : Itm C (k + 1) (.list ds) (.int i) k d := .mk fun n A X s v₁ v₂ T₁ o g r₁ r₂ => by
  cases r₂ with
  | int _ u =>
    cases r₁ with
    | list e' r =>
      obtain ⟨v, T', hv, q, _⟩ := r.get e
      exact ⟨"list", _, (listO_isList e').typeIs, PySem.slot_list_getitem.lookup, wpAny_getItem_list (listO_isList e') h0 (by omega) (by simpa using hv) ⟨kRefl _, T', q⟩⟩
theorem Itm.tup {ds : List D} {i : Int} {d : D} (h0 : 0 ≤ i) (hi : i < 1000000) (e : ds[i.toNat]? = some d) : Itm C 0 (.tup ds) (.int i) 0 d := .mk fun n A X s v₁ v₂ T₁ o g r₁ r₂ => by
  cases r₂ with
  | int _ u =>
    cases r₁.zero.1 with
    | tup ha e' r =>
      obtain ⟨v, hv, q⟩ := r.get e
      rename_i a vs m
      have ht : IsTup s.heap a vs.toArray := ⟨_, e', rfl, m, rfl⟩
      have hl : i.toNat < vs.length := (List.getElem?_eq_some_iff.mp hv).1
      refine ⟨"tuple", _, ht.typeIs, PyProof.Rows.slot_tuple_getitem.lookup, getItem_tuple (j := i.toNat) ht (by omega) (by omega) ?_ (by simpa using hv) (.mk (kRefl _) q)⟩
      unfold seqIndex?
      simp only [List.size_toArray]
      have h1 : ¬ i < 0 := by omega
      have h2 : i < (vs.length : Int) := by omega
      simp [h1, h0, h2]
theorem Itm.dict {k : Nat} {ds : List (Str × D)} {x : Str} {d : D} (hk : k ≤ 1) (e : dget ds x = some d) : Itm C k (.dict ds) (.str x) 0 d := .mk fun n A X s v₁ v₂ T₁ o g r₁ r₂ => by
  obtain ⟨a, kvs, rfl, hs, e', r⟩ := dict_of hk r₁
  cases r₂ with
  | str _ t _ =>
    have := r.find x
    rw [e] at this
    obtain ⟨v, hv, q⟩ := this
    exact ⟨"dict", _, e'.typeIs, PySem.slot_dict_getitem.lookup, wpAny_getItem_of (strKind_is _ _ x t) e'.mapOf hv (.mk (kToks (Nat.le_succ _)) q)⟩
theorem Itm.str {x : Str} {i : Int} {c : Nat} (h0 : -1000000 < i) (hi : i < 1000000) (e : Txt.charAt x i = some c) : Itm C 0 (.str x) (.int i) 0 (.str ⟨#[c]⟩) := .mk fun n A X s v₁ v₂ T₁ o g r₁ r₂ => by
  cases r₂ with
  | int _ u =>
    cases r₁.zero.1 with
    | str _ t q =>
      have hit : Txt.item x i = ⟨#[c]⟩ := by unfold Txt.item; rw [e]; rfl
      have hm : c ∈ x.cps := by
        unfold Txt.charAt at e
        cases hj : seqIndex? i x.length with
        | none => rw [hj] at e; cases e
        | some j => rw [hj] at e; exact Array.mem_of_getElem? e
      refine ⟨"str", _, typeIs_str _ _ _, F.slot_str_getitem.lookup, SB.getItem (by simp only [PySem.fitsSsize]; simp; omega) (by rw [e]; rfl) ?_⟩
      rw [hit]
      exact .mk (kToks (Nat.le_succ _)) (.str _ _ (strOk_one q hm))
end

section
variable {C : Cx} {n : Nat} {nm : Names} {ρ : Rho}
theorem Ev.sub {value slice : Expr} {pos : Pos} {k k' : Nat} {d₁ d₂ d : D} (a : Ev C n nm ρ value k d₁) (b : Ev C n nm ρ slice 0 d₂) (c : Itm C k d₁ d₂ k' d)
    (hs : ∀ o i, subscripted slice false o i = operate [o, i] (getItem o i) := by intro _ _; rfl) : Ev C n nm ρ (.Subscript value slice pos) k' d := .mk fun A env X s o ok p =>
  Subscript_ (a.then o ok p fun v s' k p' ⟨T, q⟩ => b.then0 o ok p' fun u s'' k' p'' q' => by
    obtain ⟨T', id, hT, hl, hg⟩ := c.go n A X s'' v u T o p''.gr (q.keep (.all (kGet k')) fun b _ o => kGet k' b o) q'
    exact tail_any hT hl (wp_mono hg fun w z g => ⟨kTrans k (kTrans k' g.1), g.2⟩) (hs v u))

/-- a slice's end: an int or nothing -/
inductive EvPart (C : Cx) (n : Nat) (nm : Names) (ρ : Rho) : Option Expr → Option Int → Prop
  | none : EvPart C n nm ρ none none
  | some {e : Expr} {i : Int} : Ev C n nm ρ e 0 (.int i) → EvPart C n nm ρ (some e) (some i)
theorem EvPart.then {A : Around} {env : Env} {X : List Addr} {s : Shared} {e : Option Expr} {i : Option Int} {Q : Value → Shared → Prop} (h : EvPart C n nm ρ e i) (o : Ok n A) (ok : EnvOk nm env) (p : Pre C nm env X ρ s)
    (hq : ∀ v s', Kp s s' → Pre C nm env X ρ s' → IsPart v i → Q v s') : Wp C A (evalPart e env) Q s := by
  cases h with
  | none => exact evalPart_none_step (hq _ _ (kRefl _) p .none)
  | some h => exact evalPart_some_step (h.then0 o ok p fun v s' k p' q => by cases q; exact hq _ _ k p' (.int _ _))

/-- xs[a:b] for ends that are not negative -/
def cut {α : Type} (xs : List α) (lo hi : Option Int) : List α := (xs.take (hi.elim xs.length (·.toNat))).drop (lo.elim 0 (·.toNat))
theorem slicePick_cut (vs : List Value) (lo hi : Option Int) (h0 : ∀ a, lo = some a → 0 ≤ a) (h1 : ∀ a, hi = some a → 0 ≤ a) : slicePick vs.toArray lo hi none = (cut vs lo hi).toArray := by
  rw [slicePick_plain]
  congr 1
  unfold cut
  simp only [List.size_toArray]
  have cl : ∀ a : Int, 0 ≤ a → clipAt vs.length a = min a.toNat vs.length := fun a ha => by
    have := clipAt_nat vs.length a.toNat
    rwa [Int.toNat_of_nonneg ha] at this
  have tk : ∀ k : Nat, vs.take (min k vs.length) = vs.take k := fun k => by
    rcases Nat.le_total k vs.length with h | h
    · rw [Nat.min_eq_left h]
    · rw [Nat.min_eq_right h, List.take_of_length_le h, List.take_of_length_le (Nat.le_refl _)]
  cases lo with
  | none =>
    cases hi with
    | none => simp
    | some b => simp only [Option.elim, cl b (h1 b rfl), List.drop_zero, Nat.sub_zero, tk]
  | some a =>
    cases hi with
    | none =>
      simp only [Option.elim, cl a (h0 a rfl), List.take_length]
      rcases Nat.le_total a.toNat vs.length with h | h
      · rw [Nat.min_eq_left h, List.take_of_length_le (by simp)]
      · rw [Nat.min_eq_right h, List.drop_of_length_le h]; simp
    | some b =>
      simp only [Option.elim, cl a (h0 a rfl), cl b (h1 b rfl), List.drop_take]
      rcases Nat.le_total a.toNat vs.length with h | h
      · rw [Nat.min_eq_left h]
        rcases Nat.le_total b.toNat vs.length with h' | h'
        · rw [Nat.min_eq_left h']
        · rw [Nat.min_eq_right h', List.take_of_length_le (by simp), List.take_of_length_le (by simp; omega)]
      · rw [Nat.min_eq_right h, List.drop_of_length_le h, List.drop_of_length_le (Nat.le_refl _)]; simp
theorem RepL.cut {X : List Addr} {h : Heap} {vs : List Value} {ds : List D} (r : RepL C X h vs ds) (lo hi : Option Int) : RepL C X h (cut vs lo hi) (cut ds lo hi) := by
  unfold Mine.cut
  rw [r.length]
  exact (r.take _).drop _
theorem Ev.slice_list {value : Expr} {lower upper : Option Expr} {p pos : Pos} {ds : List D} {lo hi : Option Int} (a : Ev C n nm ρ value 0 (.list ds)) (b : EvPart C n nm ρ lower lo) (c : EvPart C n nm ρ upper hi)
    (h0 : ∀ a, lo = some a → 0 ≤ a) (h1 : ∀ a, hi = some a → 0 ≤ a) (hz : ds.length ≤ 1000000) (ht : ∀ o r, letTemporaryGo value o r = pure () := by intro _ _; rfl) :
    Ev C n nm ρ (.Subscript value (.Slice lower upper Option.none p) pos) 0 (.list (cut ds lo hi)) := .mk fun A env X s o ok p =>
  Subscript_Slice (a.then0 o ok p fun v s' k p' q => wpAny_Slice (b.then o ok p' fun vl s₁ k₁ p₁ q₁ => c.then o ok p₁ fun vu s₂ k₂ p₂ q₂ => evalPart_none_step (by
    cases q with
    | list ha e r =>
      rename_i l vs m
      have e₂ := kGet k₂ _ _ (kGet k₁ _ _ e)
      have r₂ := r.keep (.all (kGet (kTrans k₁ k₂)))
      have kk := kTrans k (kTrans k₁ k₂)
      have pp : Kp s₂ { s₂ with heap := s₂.heap.push { cls := .type "slice", data := .fields #[vl, vu, .none] } } := kPush _ (Nat.le_refl _)
      refine ⟨"list", _, list_getitem_lookup, (listO_isList (kGet pp _ _ e₂)).typeIs, wpAny_getItem_list_slice ((listO_isList e₂).push _) (Heap.IsSliceOf.new ..) q₁ q₂ .none (by simp) ?_ (by simp only [sizeLine, List.size_toArray]; rw [r.length]; omega)⟩
      rw [slicePick_cut _ _ _ h0 h1]
      exact .mk (kTrans kk (kTrans pp (kPush _ (Nat.le_refl _)))) (.list (vs := cut vs lo hi) (n := 0) (new_off (p₂.keeps pp).gr.live) (Heap.get?_push_size _ rfl)
        ((r₂.cut lo hi).keep (.all fun b o e => Heap.get?_push_of_some _ (Heap.get?_push_of_some _ e))))))) ht

theorem strOk_slice {x : Str} (h : PyData.strOk x = true) (l u : Option Int) : PyData.strOk (Txt.slice x l u) = true := by
  unfold Txt.slice
  split
  · exact h
  · unfold PyData.strOk at *
    rw [Array.all_eq_true'] at *
    intro c hc
    simp only [List.mem_toArray, List.mem_filterMap] at hc
    obtain ⟨i, _, hi⟩ := hc
    exact h c (Array.mem_of_getElem? hi)
theorem Ev.slice_str {value : Expr} {lower upper : Option Expr} {p pos : Pos} {x : Str} {lo hi : Option Int} (a : Ev C n nm ρ value 0 (.str x)) (b : EvPart C n nm ρ lower lo) (c : EvPart C n nm ρ upper hi)
    (hz : x.length ≤ 1000000) (ht : ∀ o r, letTemporaryGo value o r = pure () := by intro _ _; rfl) :
    Ev C n nm ρ (.Subscript value (.Slice lower upper Option.none p) pos) 0 (.str (Txt.slice x lo hi)) := .mk fun A env X s o ok p => wp_up (
  Subscript_Slice (a.then0 o ok p fun v s' k p' q => wpAny_Slice (b.then o ok p' fun vl s₁ k₁ p₁ q₁ => c.then o ok p₁ fun vu s₂ k₂ p₂ q₂ => evalPart_none_step (by
    cases q with
    | str _ t ho =>
      have hs : x.length ≤ sizeLine := by simp only [sizeLine]; omega
      have kk := kTrans k (kTrans k₁ k₂)
      have hk : KeptByPush (fun z => Keeps s z) := fun z ob tk hz => by obtain ⟨h, t, rfl, k⟩ := hz; exact ⟨_, tk, rfl, fun b o e' => Heap.get?_push_of_some _ (k b o e')⟩
      have fin : ∀ z t', Keeps s z → s.toks ≤ z.toks → Gives C X 0 (.str (Txt.slice x lo hi)) s (.str (Txt.slice x lo hi) t') z := fun z t' k l => .mk ⟨k, l⟩ (.str _ _ (strOk_slice ho _ _))
      cases q₁ <;> cases q₂
      · exact SBG.sliceItem_nn hk kk.1 (fun z t' k l => fin z t' k l) hs
      · exact SBG.sliceItem_ns hk kk.1 (fun z t' k l => fin z t' k l) hs
      · exact SBG.sliceItem_sn hk kk.1 (fun z t' k l => fin z t' k l) hs
      · exact SBG.sliceItem_ss hk kk.1 (fun z t' k l => fin z t' k l) hs))) ht)
theorem Ev.neg {x : Expr} {pos : Pos} {i : Int} (h : Ev C n nm ρ x 0 (.int i)) : Ev C n nm ρ (.UnaryOp .USub x pos) 0 (.int (-i)) := .mk fun A env X s o ok p => by
  rw [arm_eval_UnaryOp]
  exact wpAny_bind (h.then0 o ok p fun v s' k p' q => wpAny_bind (wpAny_standAt (wpAny_holding (by cases q; exact P.neg_int (.mk (kTrans k (kToks (Nat.le_succ _))) (.int _ _))))))
end
end Mine
end
section
open PySem PySem.W PyProof.Rows PySem.Calls PySem.Spec
set_option maxRecDepth 100000
namespace Mine

/-- all but the moved is kept -/
def KpB (Mv : List Addr) (s s' : Shared) : Prop := (∃ h t, s' = { s with heap := h, toks := t }) ∧ s.toks ≤ s'.toks ∧ ∀ b o, b ∉ Mv → s.heap.get? b = some o → s'.heap.get? b = some o
theorem KpB.get {Mv : List Addr} {s s' : Shared} (k : KpB Mv s s') : ∀ b o, b ∉ Mv → s.heap.get? b = some o → s'.heap.get? b = some o := k.2.2
theorem KpB.of {Mv : List Addr} {s s' : Shared} (k : Kp s s') : KpB Mv s s' := by
  obtain ⟨⟨h, t, rfl, k⟩, l⟩ := k; exact ⟨⟨h, t, rfl⟩, l, fun b o _ e => k b o e⟩
theorem KpB.to {s s' : Shared} (k : KpB [] s s') : Kp s s' := by
  obtain ⟨⟨h, t, rfl⟩, l, k⟩ := k; exact ⟨⟨h, t, rfl, fun b o e => k b o (by simp) e⟩, l⟩
theorem KpB.trans {Mv : List Addr} {s s' s'' : Shared} (a : KpB Mv s s') (b : KpB Mv s' s'') : KpB Mv s s'' := by
  obtain ⟨⟨h, t, rfl⟩, l, k⟩ := a
  obtain ⟨⟨h', t', rfl⟩, l', k'⟩ := b
  exact ⟨⟨h', t', rfl⟩, Nat.le_trans l l', fun b o m e => k' b o m (k b o m e)⟩
/-- what is changed is one's own, or moved -/
theorem KpB.own {Mv M : List Addr} {s s' s'' : Shared} (a : KpB Mv s s') (b : KpB M s' s'') (n : ∀ x ∈ M, x ∉ Mv → s.heap.get? x = none) : KpB Mv s s'' := by
  obtain ⟨⟨h, t, rfl⟩, l, k⟩ := a
  obtain ⟨⟨h', t', rfl⟩, l', k'⟩ := b
  exact ⟨⟨h', t', rfl⟩, Nat.le_trans l l', fun b o m e => k' b o (fun hb => by rw [n b hb m] at e; cases e) (k b o m e)⟩
theorem KpB.refl {Mv : List Addr} (s : Shared) : KpB Mv s s := .of (kRefl s)

structure Frm (C : Cx) (nm : Names) (env : Env) (s₀ : Shared) (Mv Xc M : List Addr) (T : Nat → List Addr) (ρ : Rho) (s : Shared) : Prop where
  kp : KpB Mv s₀ s
  gr : Gr C (M ++ Xc) s
  new : ∀ b ∈ M, b ∉ Mv → s₀.heap.get? b = none
  off : ∀ b ∈ M, C.h₀.get? b = none
  dis : ∀ b ∈ M, b ∉ Xc
  loc : env.locals ∈ M
  ns : ∃ m, s.heap.Ns env.locals m
  cel : ∀ x, nm.lookup x = some .cell → ∃ c v, env.cells.lookup x = some c ∧ s.heap.IsCell c v ∧ c ∈ M
  one : ∀ x y c, nm.lookup x = some .cell → env.cells.lookup x = some c → env.cells.lookup y = some c → y = x
  fre : ∀ x c, nm.lookup x = some .free → env.cells.lookup x = some c → c ∉ M ∧ ∃ o, s.heap.get? c = some o
  vars : ∀ (i k : Nat) (d : D), ρ[i]? = some (some (k, d)) → ∃ x kd v, nm[i]? = some (x, kd) ∧ VarAt env s.heap x kd v ∧ RepO C (M ++ Xc) s.heap k v d (T i)
  ownM : ∀ i, ∀ b ∈ T i, b ∈ M
  ownL : ∀ i, env.locals ∉ T i
  ownC : ∀ x c, nm.lookup x = some .cell → env.cells.lookup x = some c → ∀ i, c ∉ T i
  apart : ∀ i j, i ≠ j → ∀ b ∈ T i, b ∉ T j
  nodup : ∀ i, (T i).Nodup

theorem ns_not_cell {h : Heap} {a : Addr} {m : Str → Option Value} {v : Option Value} (n : h.Ns a m) (c : h.IsCell a v) : False := by
  obtain ⟨o, es, ep, ho, hd, _⟩ := n
  obtain ⟨o', ho', hd'⟩ := c
  rw [ho] at ho'; cases ho'; rw [hd] at hd'; cases hd'

section
variable {C : Cx} {nm : Names} {env : Env} {s₀ s s' : Shared} {Mv Xc M : List Addr} {T : Nat → List Addr} {ρ : Rho}
theorem Frm.pre (f : Frm C nm env s₀ Mv Xc M T ρ s) : Pre C nm env (M ++ Xc) ρ s :=
  ⟨f.gr, fun i k d e => let ⟨x, kd, v, a, b, c⟩ := f.vars i k d e; ⟨x, kd, v, T i, a, b, c⟩, fun x c h e => by
    rcases h with h | h
    · obtain ⟨c', v, a, ⟨o, b, _⟩, _⟩ := f.cel x h
      rw [e] at a; cases a; exact ⟨o, b⟩
    · exact (f.fre x c h e).2⟩
theorem Frm.keeps (f : Frm C nm env s₀ Mv Xc M T ρ s) (k : Kp s s') : Frm C nm env s₀ Mv Xc M T ρ s' where
  kp := f.kp.trans (.of k)
  gr := f.gr.keeps k
  new := f.new
  off := f.off
  dis := f.dis
  loc := f.loc
  ns := let ⟨m, n⟩ := f.ns; ⟨m, n.keeps (kGet k)⟩
  cel := fun x h => let ⟨c, v, a, b, d⟩ := f.cel x h; ⟨c, v, a, b.keeps (kGet k), d⟩
  one := f.one
  fre := fun x c a b => let ⟨n, o, e⟩ := f.fre x c a b; ⟨n, o, kGet k c o e⟩
  vars := fun i n d e => let ⟨x, kd, v, a, b, c⟩ := f.vars i n d e; ⟨x, kd, v, a, b.keeps (kGet k), c.keep (.all (kGet k)) fun b _ o => kGet k b o⟩
  ownM := f.ownM
  ownL := f.ownL
  ownC := f.ownC
  apart := f.apart
  nodup := f.nodup
/-- new objects of one's own -/
theorem Frm.grow (f : Frm C nm env s₀ Mv Xc M T ρ s) (k : Kp s s') {N : List Addr} (hn : ∀ b ∈ N, s.heap.get? b = none) (hl : ∀ b ∈ N, ∃ o, s'.heap.get? b = some o) : Frm C nm env s₀ Mv Xc (N ++ M) T ρ s' where
  kp := f.kp.trans (.of k)
  gr := ⟨(f.gr.keeps k).old, fun a m => by
    rcases List.mem_append.mp m with m | m
    · rcases List.mem_append.mp m with m | m
      · exact hl a m
      · exact (f.gr.keeps k).live a (List.mem_append.mpr (.inl m))
    · exact (f.gr.keeps k).live a (List.mem_append.mpr (.inr m)), (f.gr.keeps k).toks⟩
  new := fun b m hb => by
    rcases List.mem_append.mp m with m | m
    · cases e : s₀.heap.get? b with
      | none => rfl
      | some o => have := f.kp.get b o hb e; rw [hn b m] at this; cases this
    · exact f.new b m hb
  off := fun b m => by
    rcases List.mem_append.mp m with m | m
    · cases e : C.h₀.get? b with
      | none => rfl
      | some o => have := f.gr.old b o e; rw [hn b m] at this; cases this
    · exact f.off b m
  dis := fun b m hX => by
    rcases List.mem_append.mp m with m | m
    · obtain ⟨o, e⟩ := f.gr.live b (List.mem_append.mpr (.inr hX))
      rw [hn b m] at e; cases e
    · exact f.dis b m hX
  loc := List.mem_append.mpr (.inr f.loc)
  ns := let ⟨m, n⟩ := f.ns; ⟨m, n.keeps (kGet k)⟩
  cel := fun x h => let ⟨c, v, a, b, d⟩ := f.cel x h; ⟨c, v, a, b.keeps (kGet k), List.mem_append.mpr (.inr d)⟩
  one := f.one
  fre := fun x c a b => by
    obtain ⟨n, o, e⟩ := f.fre x c a b
    refine ⟨fun m => ?_, o, kGet k c o e⟩
    rcases List.mem_append.mp m with m | m
    · rw [hn c m] at e; cases e
    · exact n m
  vars := fun i n d e => by
    obtain ⟨x, kd, v, a, b, c⟩ := f.vars i n d e
    refine ⟨x, kd, v, a, b.keeps (kGet k), c.keep ⟨fun b o _ => kGet k b o, fun b o e m => ?_⟩ fun b _ o => kGet k b o⟩
    rw [List.append_assoc] at m
    rcases List.mem_append.mp m with m | m
    · rw [hn b m] at e; cases e
    · exact m
  ownM := fun i b m => List.mem_append.mpr (.inr (f.ownM i b m))
  ownL := f.ownL
  ownC := f.ownC
  apart := f.apart
  nodup := f.nodup

/-- a change of the one object a, of one's own -/
structure Chg (a : Addr) (s s' : Shared) : Prop where
  same : ∃ h t, s' = { s with heap := h, toks := t }
  toks : s.toks ≤ s'.toks
  but : ∀ b, b ≠ a → ∀ o, s.heap.get? b = some o → s'.heap.get? b = some o
theorem Chg.of {a : Addr} {s : Shared} {h : Heap} {t : Nat} (b : Heap.SameBut a s.heap h) (l : s.toks ≤ t) : Chg a s { s with heap := h, toks := t } := ⟨⟨h, t, rfl⟩, l, fun x hx o e => (b.2 x hx).trans e⟩
theorem Chg.kpB {a : Addr} {Mv : List Addr} (c : Chg a s s') (ha : a ∈ Mv) : KpB Mv s s' := ⟨c.same, c.toks, fun b o hb e => c.but b (fun h => hb (h ▸ ha)) o e⟩
theorem Chg.kp {a : Addr} (f : Frm C nm env s₀ Mv Xc M T ρ s) (c : Chg a s s') (ha : a ∈ M) : KpB Mv s₀ s' := f.kp.own (c.kpB ha) f.new
theorem Chg.keep {a : Addr} {X : List Addr} (c : Chg a s s') (ha : a ∈ X) : Keep X X s.heap s'.heap := ⟨fun b o hb e => c.but b (fun h => hb (h ▸ ha)) o e, fun _ _ _ m => m⟩
theorem Chg.gr {a : Addr} {X : List Addr} (g : Gr C X s) (c : Chg a s s') (h0 : C.h₀.get? a = none) (hl : ∃ o, s'.heap.get? a = some o) : Gr C X s' :=
  ⟨fun b o e => c.but b (fun h => by subst h; rw [h0] at e; cases e) o (g.old b o e), fun b m => by
    by_cases h : b = a
    · subst h; exact hl
    · obtain ⟨o, e⟩ := g.live b m; exact ⟨o, c.but b h o e⟩, Nat.le_trans g.toks c.toks⟩

/-- what a change of one's own object a leaves of the frame -/
theorem Frm.chg {a : Addr} (f : Frm C nm env s₀ Mv Xc M T ρ s) (c : Chg a s s') (ha : a ∈ M) (hl : ∃ o, s'.heap.get? a = some o)
    (hns : ∃ m, s'.heap.Ns env.locals m) (hcel : ∀ x c, nm.lookup x = some .cell → env.cells.lookup x = some c → ∃ v, s'.heap.IsCell c v)
    {ρ' : Rho} {T' : Nat → List Addr} (hvars : ∀ (i k : Nat) (d : D), ρ'[i]? = some (some (k, d)) → ∃ x kd v, nm[i]? = some (x, kd) ∧ VarAt env s'.heap x kd v ∧ RepO C (M ++ Xc) s'.heap k v d (T' i))
    (hT : ∀ i, T' i = T i ∨ T' i = []) : Frm C nm env s₀ Mv Xc M T' ρ' s' where
  kp := Chg.kp f c ha
  gr := Chg.gr f.gr c (f.off a ha) hl
  new := f.new
  off := f.off
  dis := f.dis
  loc := f.loc
  ns := hns
  cel := fun x h => by obtain ⟨k, v, e, _, m⟩ := f.cel x h; obtain ⟨v', q⟩ := hcel x k h e; exact ⟨k, v', e, q, m⟩
  one := f.one
  fre := fun x k h e => by
    obtain ⟨n, o, q⟩ := f.fre x k h e
    exact ⟨n, o, c.but k (fun h => n (h ▸ ha)) o q⟩
  vars := hvars
  ownM := fun i b m => by rcases hT i with e | e <;> rw [e] at m; exact f.ownM i b m; cases m
  ownL := fun i m => by rcases hT i with e | e <;> rw [e] at m; exact f.ownL i m; cases m
  ownC := fun x k h e i m => by rcases hT i with e' | e' <;> rw [e'] at m; exact f.ownC x k h e i m; cases m
  apart := fun i j h b m m' => by
    rcases hT i with e | e <;> rw [e] at m
    · rcases hT j with e' | e' <;> rw [e'] at m'
      · exact f.apart i j h b m m'
      · cases m'
    · cases m
  nodup := fun i => by rcases hT i with e | e <;> rw [e]; exact f.nodup i; exact List.nodup_nil

theorem names_at (h : (nm.map (·.1)).Nodup) {i j : Nat} {x : Str} {k k' : NameKind} (a : nm[i]? = some (x, k)) (b : nm[j]? = some (x, k')) : i = j := by
  have hi : i < (nm.map (·.1)).length := by simpa using (List.getElem?_eq_some_iff.mp a).1
  have hj : j < (nm.map (·.1)).length := by simpa using (List.getElem?_eq_some_iff.mp b).1
  have e1 : (nm.map (·.1))[i]? = some x := by rw [List.getElem?_map, a]; rfl
  have e2 : (nm.map (·.1))[j]? = some x := by rw [List.getElem?_map, b]; rfl
  exact (List.getElem?_inj hi h).mp (e1.trans e2.symm)

theorem set_some {ρ : Rho} {i : Nat} {e : Option (Nat × D)} {j : Nat} {k : Nat} {d : D} (h : (ρ.set i e)[j]? = some (some (k, d))) : (j = i ∧ e = some (k, d)) ∨ (j ≠ i ∧ ρ[j]? = some (some (k, d))) := by
  rw [List.getElem?_set] at h
  by_cases hij : i = j
  · subst hij
    rw [if_pos rfl] at h
    split at h
    · left; exact ⟨rfl, by simpa using h⟩
    · cases h
  · rw [if_neg hij] at h; exact .inr ⟨fun e => hij e.symm, h⟩

/-- a name is bound to a value that is shared -/
theorem Frm.store (f : Frm C nm env s₀ Mv Xc M T ρ s) (ok : EnvOk nm env) {A : Around} {i : Nat} {x : Str} {kd : NameKind} (hi : nm[i]? = some (x, kd)) (hk : kd = .local ∨ kd = .cell) {v : Value} {k : Nat} {d : D} {N : List Addr}
    (r : RepO C (M ++ Xc) s.heap k v d N) (hN : N = [] ∨ (∀ b ∈ N, b ∈ M) ∧ env.locals ∉ N ∧ (∀ x c, nm.lookup x = some .cell → env.cells.lookup x = some c → c ∉ N) ∧ (∀ j, j ≠ i → ∀ b ∈ N, b ∉ T j) ∧ N.Nodup) {Q : Unit → Shared → Prop}
    (h : ∀ s', Frm C nm env s₀ Mv Xc M (fun j => if j = i then N else T j) (ρ.set i (some (k, d))) s' → (∃ a, a ∈ M ∧ Chg a s s') → Q () s') : Wp C A (storeName env x v) Q s := by
  have hx := lookup_at ok.nodup hi
  obtain ⟨m, hm⟩ := f.ns
  have other : ∀ {j : Nat} {y : Str} {kd' : NameKind}, nm[j]? = some (y, kd') → j ≠ i → y ≠ x := fun hj hne e => hne (names_at ok.nodup (e ▸ hj) hi)
  have fin : ∀ (a : Addr) (s' : Shared), a ∈ M → Chg a s s' → (∀ b ∈ N, b ≠ a) → (∀ j, a ∉ T j) → (∃ o, s'.heap.get? a = some o) → (∃ m, s'.heap.Ns env.locals m) → (∀ x c, nm.lookup x = some .cell → env.cells.lookup x = some c → ∃ v, s'.heap.IsCell c v) →
      VarAt env s'.heap x kd v → (∀ j y kd' u, nm[j]? = some (y, kd') → j ≠ i → VarAt env s.heap y kd' u → VarAt env s'.heap y kd' u) → Q () s' := fun a s' ha c hNa hTa hl hns hcel hv hvs => by
    have kk := c.keep (X := M ++ Xc) (List.mem_append.mpr (.inl ha))
    have hvars : ∀ (j k' : Nat) (d' : D), (ρ.set i (some (k, d)))[j]? = some (some (k', d')) → ∃ y kd' u, nm[j]? = some (y, kd') ∧ VarAt env s'.heap y kd' u ∧ RepO C (M ++ Xc) s'.heap k' u d' ((fun j => if j = i then N else T j) j) := fun j k' d' e => by
      rcases set_some e with ⟨rfl, e'⟩ | ⟨hne, e⟩
      · cases e'
        refine ⟨x, kd, v, hi, hv, ?_⟩
        simp only [if_true]
        exact r.keep kk fun b hb o e => c.but b (hNa b hb) o e
      · obtain ⟨y, kd', u, a1, a2, a3⟩ := f.vars j k' d' e
        refine ⟨y, kd', u, a1, hvs j y kd' u a1 hne a2, ?_⟩
        simp only [if_neg hne]
        exact a3.keep kk fun b hb o e => c.but b (fun h => hTa j (h ▸ hb)) o e
    refine h s' ?_ ⟨a, ha, c⟩
    have f1 : Frm C nm env s₀ Mv Xc M (fun j => if j = i then [] else T j) (ρ.set i none) s' :=
      f.chg c ha hl hns hcel (fun j k' d' e => by
        rcases set_some e with ⟨rfl, e'⟩ | ⟨hne, e⟩
        · cases e'
        · obtain ⟨y, kd', u, a1, a2, a3⟩ := f.vars j k' d' e
          refine ⟨y, kd', u, a1, hvs j y kd' u a1 hne a2, ?_⟩
          simp only [if_neg hne]
          exact a3.keep kk fun b hb o e => c.but b (fun h => hTa j (h ▸ hb)) o e) fun j => by by_cases h : j = i <;> simp [h]
    rcases hN with rfl | ⟨n1, n2, n3, n4, n5⟩
    · exact { f1 with vars := hvars }
    · exact { f1 with
        vars := hvars
        ownM := fun j b hb => by
          by_cases e : j = i
          · simp only [e, if_true] at hb; exact n1 b hb
          · simp only [e, if_false] at hb; exact f.ownM j b hb
        ownL := fun j hb => by
          by_cases e : j = i
          · simp only [e, if_true] at hb; exact n2 hb
          · simp only [e, if_false] at hb; exact f.ownL j hb
        ownC := fun y c hy hc j hb => by
          by_cases e : j = i
          · simp only [e, if_true] at hb; exact n3 y c hy hc hb
          · simp only [e, if_false] at hb; exact f.ownC y c hy hc j hb
        apart := fun j j' hne b hb hb' => by
          by_cases e : j = i
          · subst e
            simp only [if_true] at hb
            simp only [Ne.symm hne, if_false] at hb'
            exact n4 j' (Ne.symm hne) b hb hb'
          · simp only [e, if_false] at hb
            by_cases e' : j' = i
            · subst e'
              simp only [if_true] at hb'
              exact n4 j e b hb' hb
            · simp only [e', if_false] at hb'
              exact f.apart j j' hne b hb hb'
        nodup := fun j => by
          by_cases e : j = i
          · simp only [e, if_true]; exact n5
          · simp only [e, if_false]; exact f.nodup j }
  have hNL : env.locals ∉ N := by rcases hN with rfl | hN; simp; exact hN.2.1
  rcases hk with rfl | rfl
  · refine wpAny_storeName_local (ok.loc x hx) hm (fun h' hn' hs' => ?_) (by rw [ok.kind]; rfl)
    have c : Chg env.locals s { s with heap := h', toks := s.toks + 1 } := .of hs' (Nat.le_succ _)
    refine fin env.locals _ f.loc c (fun b hb e => hNL (e ▸ hb)) f.ownL (by obtain ⟨o, _, _, e, _⟩ := hn'; exact ⟨o, e⟩) ⟨_, hn'⟩ (fun y k hy hk' => ?_) (.loc hn' (by simp)) ?_
    · obtain ⟨k', w, e, q, _⟩ := f.cel y hy
      rw [hk'] at e; cases e
      exact ⟨w, q.sameBut hs' fun e => ns_not_cell hm (e ▸ q)⟩
    · intro j y kd' u hj hne hv
      cases hv with
      | loc a b =>
        refine .loc (m := fun z => if z = x then some v else m z) hn' ?_
        have : m y = some u := by
          obtain ⟨o, es, ep, e1, e2, e3, e4⟩ := a
          obtain ⟨o', es', ep', e1', e2', e3', e4'⟩ := hm
          rw [e1] at e1'; cases e1'; rw [e2] at e2'; cases e2'
          rw [← e4', e4, b]
        simp only [other hj hne, if_false, this]
      | cell a b => exact .cell a (b.sameBut hs' fun e => ns_not_cell hm (e ▸ b))
      | free a b => exact .free a (b.sameBut hs' fun e => ns_not_cell hm (e ▸ b))
  · obtain ⟨k₀, w, hc, hq, hM⟩ := f.cel x hx
    refine wpAny_storeName_cell ok.kind (ok.cell x hx) hc hq fun h' hc' hs' => ?_
    have c : Chg k₀ s { s with heap := h' } := .of (t := s.toks) hs' (Nat.le_refl _)
    have hLk : env.locals ≠ k₀ := fun e => ns_not_cell hm (e ▸ hq)
    refine fin k₀ _ hM c (fun b hb e => ?_) (f.ownC x k₀ hx hc) (by obtain ⟨o, e, _⟩ := hc'; exact ⟨o, e⟩) ⟨m, hm.sameBut hs' hLk⟩ (fun y k hy hk' => ?_) (.cell hc hc') ?_
    · subst e
      rcases hN with rfl | hN
      · cases hb
      · exact hN.2.2.1 x b hx hc hb
    · obtain ⟨k', w', e, q, _⟩ := f.cel y hy
      rw [hk'] at e; cases e
      by_cases e : k = k₀
      · subst e; exact ⟨_, hc'⟩
      · exact ⟨w', q.sameBut hs' e⟩
    · intro j y kd' u hj hne hv
      cases hv with
      | loc a b => exact .loc (a.sameBut hs' hLk) b
      | cell a b => exact .cell a (b.sameBut hs' fun e => other hj hne (f.one x y k₀ hx hc (e ▸ a)))
      | free a b => exact .free a (b.sameBut hs' fun e => (f.fre y _ (lookup_at ok.nodup hj) a).1 (e ▸ hM))
end
end Mine
end
section
open PySem PySem.W PyProof.Rows PySem.Calls PySem.Spec
set_option maxRecDepth 100000
namespace Mine
section
variable {C : Cx} {nm : Names} {env : Env} {s₀ s s' : Shared} {Mv Xc M M' : List Addr} {T T' : Nat → List Addr} {ρ ρ' : Rho}
theorem Frm.growX (f : Frm C nm env s₀ Mv Xc M T ρ s) (k : Kp s s') {N : List Addr} (hn : ∀ b ∈ N, s.heap.get? b = none) (hl : ∀ b ∈ N, ∃ o, s'.heap.get? b = some o) : Frm C nm env s₀ Mv (N ++ Xc) M T ρ s' :=
  let f' := f.keeps k
  { f' with
    dis := fun b m hX => by
      rcases List.mem_append.mp hX with hX | hX
      · obtain ⟨o, e⟩ := f.gr.live b (List.mem_append.mpr (.inl m))
        rw [hn b hX] at e; cases e
      · exact f.dis b m hX
    gr := ⟨f'.gr.old, fun a m => by
      rcases List.mem_append.mp m with m | m
      · exact f'.gr.live a (List.mem_append.mpr (.inl m))
      · rcases List.mem_append.mp m with m | m
        · exact hl a m
        · exact f'.gr.live a (List.mem_append.mpr (.inr m)), f'.gr.toks⟩
    vars := fun i n d e => by
      obtain ⟨x, kd, v, a, b, c⟩ := f.vars i n d e
      refine ⟨x, kd, v, a, b.keeps (kGet k), c.keep ⟨fun b o _ => kGet k b o, fun b o e m => ?_⟩ fun b _ o => kGet k b o⟩
      rcases List.mem_append.mp m with m | m
      · exact List.mem_append.mpr (.inl m)
      · rcases List.mem_append.mp m with m | m
        · rw [hn b m] at e; cases e
        · exact List.mem_append.mpr (.inr m) }
theorem Frm.shrinkX {N : List Addr} (f : Frm C nm env s₀ Mv (N ++ Xc) M T ρ s) : Frm C nm env s₀ Mv Xc M T ρ s :=
  { f with
    dis := fun b m hX => f.dis b m (List.mem_append.mpr (.inr hX))
    gr := ⟨f.gr.old, fun a m => f.gr.live a (by rcases List.mem_append.mp m with m | m <;> simp [m]), f.gr.toks⟩
    vars := fun i n d e => by
      obtain ⟨x, kd, v, a, b, c⟩ := f.vars i n d e
      exact ⟨x, kd, v, a, b, c.keep ⟨fun b o _ e => e, fun b o e m => by rcases List.mem_append.mp m with m | m <;> simp [m]⟩ fun b _ o e => e⟩ }
/-- only objects of W change -/
structure Touch (W : List Addr) (s s' : Shared) : Prop where
  same : ∃ h t, s' = { s with heap := h, toks := t }
  toks : s.toks ≤ s'.toks
  but : ∀ b o, b ∉ W → s.heap.get? b = some o → s'.heap.get? b = some o
theorem Frm.touchY {W Xd : List Addr} (f : Frm C nm env s₀ Mv Xc M T ρ s) (ok : EnvOk nm env) (t : Touch W s s') (hX : ∀ b ∈ W, b ∈ Xc) (h0 : ∀ b ∈ W, s₀.heap.get? b = none) (h00 : ∀ b ∈ W, C.h₀.get? b = none)
    (hd : ∀ b ∈ Xd, b ∈ Xc) (hl : ∀ b ∈ W, b ∈ Xd → ∃ o, s'.heap.get? b = some o) (hf : ∀ x c, nm.lookup x = some .free → env.cells.lookup x = some c → c ∉ W) : Frm C nm env s₀ Mv Xd M T ρ s' :=
  have hM : ∀ b ∈ W, b ∉ M := fun b hb m => f.dis b m (hX b hb)
{ kp := f.kp.own (M := W) ⟨t.same, t.toks, t.but⟩ fun b m _ => h0 b m
  gr := ⟨fun b o e => t.but b o (fun m => by rw [h00 b m] at e; cases e) (f.gr.old b o e), fun a m => by
    by_cases h : a ∈ W
    · rcases List.mem_append.mp m with m | m
      · exact absurd m (hM a h)
      · exact hl a h m
    · obtain ⟨o, e⟩ := f.gr.live a (by
        rcases List.mem_append.mp m with m | m
        · exact List.mem_append.mpr (.inl m)
        · exact List.mem_append.mpr (.inr (hd a m)))
      exact ⟨o, t.but a o h e⟩, Nat.le_trans f.gr.toks t.toks⟩
  new := f.new
  off := f.off
  dis := fun b m hx => f.dis b m (hd b hx)
  loc := f.loc
  ns := by
    obtain ⟨m, n⟩ := f.ns
    exact ⟨m, n.at' fun o e => t.but _ o (fun m => hM _ m f.loc) e⟩
  cel := fun x h => by
    obtain ⟨c, v, a, b, d⟩ := f.cel x h
    obtain ⟨o, e, q⟩ := b
    exact ⟨c, v, a, ⟨o, t.but c o (fun m => hM _ m d) e, q⟩, d⟩
  one := f.one
  fre := fun x c a b => let ⟨n, o, e⟩ := f.fre x c a b; ⟨n, o, t.but c o (hf x c a b) e⟩
  vars := fun i n d e => by
    obtain ⟨x, kd, v, a, b, c⟩ := f.vars i n d e
    refine ⟨x, kd, v, a, ?_, c.keep ⟨fun b o hb e => t.but b o (fun m => hb (List.mem_append.mpr (.inr (hX b m)))) e, fun b o _ m => by
      rcases List.mem_append.mp m with m | m
      · exact List.mem_append.mpr (.inl m)
      · exact List.mem_append.mpr (.inr (hd b m))⟩ fun b hb o e => t.but b o (fun m => hM b m (f.ownM i b hb)) e⟩
    cases b with
    | loc p q => exact .loc (p.at' fun o e => t.but _ o (fun m => hM _ m f.loc) e) q
    | cell p q =>
      obtain ⟨o, e, q⟩ := q
      refine .cell p ⟨o, t.but _ o (fun m => hM _ m ?_) e, q⟩
      obtain ⟨c', v', a', b', d'⟩ := f.cel x (lookup_at ok.nodup a)
      rw [p] at a'; cases a'; exact d'
    | free p q =>
      obtain ⟨o, e, q⟩ := q
      exact .free p ⟨o, t.but _ o (hf x _ (lookup_at ok.nodup a) p) e, q⟩
  ownM := f.ownM
  ownL := f.ownL
  ownC := f.ownC
  apart := f.apart
  nodup := f.nodup }
theorem Frm.rebase (f : Frm C nm env s₀ Mv Xc M T ρ s) : Frm C nm env s M Xc M T ρ s := { f with kp := .refl s, new := fun b m h => absurd m h }
theorem Frm.unbase {Xd : List Addr} (f : Frm C nm env s₀ Mv Xd M T ρ s) (f' : Frm C nm env s M Xc M' T' ρ' s') : Frm C nm env s₀ Mv Xc M' T' ρ' s' :=
  { f' with
    kp := f.kp.own f'.kp f.new
    new := fun b m h => by
      by_cases hb : b ∈ M
      · exact f.new b hb h
      · cases e : s₀.heap.get? b with
        | none => rfl
        | some o => have := f.kp.get b o h e; rw [f'.new b m hb] at this; cases this }
/-- less is known -/
def Less (ρ' ρ : Rho) : Prop := ∀ (i : Nat) (e : Nat × D), ρ'[i]? = some (some e) → ρ[i]? = some (some e)
theorem Frm.less (f : Frm C nm env s₀ Mv Xc M T ρ s) (l : Less ρ' ρ) : Frm C nm env s₀ Mv Xc M T ρ' s := { f with vars := fun i k d e => f.vars i k d (l i _ e) }

theorem Chg.isCell {a c : Addr} {v : Option Value} (g : Chg a s s') (h : c ≠ a) (x : s.heap.IsCell c v) : s'.heap.IsCell c v := let ⟨o, e, q⟩ := x; ⟨o, g.but c h o e, q⟩
/-- an object of the variable at i is changed -/
theorem Frm.mutate (f : Frm C nm env s₀ Mv Xc M T ρ s) (ok : EnvOk nm env) {a : Addr} (c : Chg a s s') {i K : Nat} {D₀ D' : D} (hi : ρ[i]? = some (some (K, D₀))) (ha : a ∈ T i) (hl : ∃ o, s'.heap.get? a = some o)
    (hr : ∃ x kd v, nm[i]? = some (x, kd) ∧ VarAt env s.heap x kd v ∧ RepO C (M ++ Xc) s'.heap K v D' (T i)) : Frm C nm env s₀ Mv Xc M T (ρ.set i (some (K, D'))) s' := by
  have haM := f.ownM i a ha
  have hL : env.locals ≠ a := fun e => f.ownL i (e ▸ ha)
  have hC : ∀ x k, nm.lookup x = some .cell → env.cells.lookup x = some k → k ≠ a := fun x k h e h' => f.ownC x k h e i (h' ▸ ha)
  have hv : ∀ {j : Nat} {x : Str} {kd : NameKind} {v : Value}, nm[j]? = some (x, kd) → VarAt env s.heap x kd v → VarAt env s'.heap x kd v := fun hj hv => by
    have hx := lookup_at ok.nodup hj
    cases hv with
    | loc p q => exact .loc (p.at' fun o e => c.but _ hL o e) q
    | cell p q => exact .cell p (c.isCell (hC _ _ hx p) q)
    | free p q => exact .free p (c.isCell (fun e => (f.fre _ _ hx p).1 (e ▸ haM)) q)
  refine f.chg (T' := T) c haM hl ?_ (fun x k h e => ?_) (fun j k d e => ?_) fun _ => .inl rfl
  · obtain ⟨m, n⟩ := f.ns
    exact ⟨m, n.at' fun o e => c.but _ hL o e⟩
  · obtain ⟨k', v, e', q, _⟩ := f.cel x h
    rw [e] at e'; cases e'
    exact ⟨v, c.isCell (hC x k h e) q⟩
  · rcases set_some e with ⟨rfl, e'⟩ | ⟨hne, e⟩
    · cases e'
      obtain ⟨x, kd, v, a1, a2, a3⟩ := hr
      exact ⟨x, kd, v, a1, hv a1 a2, a3⟩
    · obtain ⟨x, kd, v, a1, a2, a3⟩ := f.vars j k d e
      exact ⟨x, kd, v, a1, hv a1 a2, a3.keep (c.keep (List.mem_append.mpr (.inl haM))) fun b hb o e => c.but b (fun h => f.apart i j (Ne.symm hne) a ha (h ▸ hb)) o e⟩

/-- what a statement comes to -/
inductive Out where
  | next (ρ : Rho)
  | ret (d : D)
def OutOk (C : Cx) (nm : Names) (env : Env) (s₀ : Shared) (Mv Xc : List Addr) (o : Out) (f : Flow) (s : Shared) : Prop :=
  match o with
  | .next ρ => f = .next ∧ ∃ M T, Frm C nm env s₀ Mv Xc M T ρ s
  | .ret d => ∃ v, f = .ret v ∧ KpB Mv s₀ s ∧ Rep C Xc s.heap v d ∧ Gr C Xc s
/-- statements, run in a frame -/
structure Ex (C : Cx) (n : Nat) (nm : Names) (ρ : Rho) (ss : List Stmt) (o : Out) : Prop where
  go : ∀ (A : Around) (env : Env) (s₀ : Shared) (Mv Xc M : List Addr) (T : Nat → List Addr) (s : Shared), Ok n A → EnvOk nm env → Frm C nm env s₀ Mv Xc M T ρ s → Wp C A (execs ss env) (OutOk C nm env s₀ Mv Xc o) s
structure Ex1 (C : Cx) (n : Nat) (nm : Names) (ρ : Rho) (st : Stmt) (o : Out) : Prop where
  go : ∀ (A : Around) (env : Env) (s₀ : Shared) (Mv Xc M : List Addr) (T : Nat → List Addr) (s : Shared), Ok n A → EnvOk nm env → Frm C nm env s₀ Mv Xc M T ρ s → Wp C A (exec st env) (OutOk C nm env s₀ Mv Xc o) s
end
section
variable {C : Cx} {n : Nat} {nm : Names} {ρ ρ' ρ₁ : Rho}
theorem Ex.nil : Ex C n nm ρ [] (.next ρ) := .mk fun A env s₀ Mv Xc M T s o ok f => wpAny_execs_nil ⟨rfl, M, T, f⟩
theorem Ex.seq {st : Stmt} {ss : List Stmt} {o : Out} (a : Ex1 C n nm ρ st (.next ρ₁)) (b : Ex C n nm ρ₁ ss o) : Ex C n nm ρ (st :: ss) o := .mk fun A env s₀ Mv Xc M T s o ok f =>
  wpAny_execs_cons (wp_mono (a.go A env s₀ Mv Xc M T s o ok f) fun fl s' h => by
    obtain ⟨rfl, M', T', f'⟩ := h
    exact b.go A env s₀ Mv Xc M' T' s' o ok f')
theorem Ex.stop {st : Stmt} {ss : List Stmt} {d : D} (a : Ex1 C n nm ρ st (.ret d)) : Ex C n nm ρ (st :: ss) (.ret d) := .mk fun A env s₀ Mv Xc M T s o ok f =>
  wpAny_execs_cons (wp_mono (a.go A env s₀ Mv Xc M T s o ok f) fun fl s' h => by
    obtain ⟨v, rfl, h⟩ := h
    exact ⟨v, rfl, h⟩)
theorem Ex1.less {ss : Stmt} {o : Out} (a : Ex1 C n nm ρ' ss o) (l : Less ρ' ρ) : Ex1 C n nm ρ ss o := .mk fun A env s₀ Mv Xc M T s o ok f => a.go A env s₀ Mv Xc M T s o ok (f.less l)
theorem Ex.most {ss : List Stmt} (a : Ex C n nm ρ ss (.next ρ₁)) (l : Less ρ' ρ₁) : Ex C n nm ρ ss (.next ρ') := .mk fun A env s₀ Mv Xc M T s o ok f =>
  wp_mono (a.go A env s₀ Mv Xc M T s o ok f) fun fl s' ⟨h, M', T', f'⟩ => ⟨h, M', T', f'.less l⟩

theorem Ex1.assign (i : Nat) {x : Str} {kd : NameKind} {px pos : Pos} {e : Expr} {d : D} (hi : nm[i]? = some (x, kd)) (h : Ev C n nm ρ e 0 d) (hk : kd = .local ∨ kd = .cell := by first | exact .inl rfl | exact .inr rfl)
    (hs : ∀ env, EnvOk nm env → swapsWith e (some (.Name x px)) pos.line env = pure false := by intro _ _; rfl) : Ex1 C n nm ρ (.Assign [.Name x px] e pos) (.next (ρ.set i (some (0, d)))) := .mk fun A env s₀ Mv Xc M T s o ok f =>
  wpAny_Assign_Name (h.then0 o ok f.pre fun v s' k p r => (f.keeps k).store ok hi hk (.sh r) (.inl rfl) fun s'' f' _ => ⟨rfl, M, _, f'⟩) (hs env ok)
/-- a fresh object of one's own -/
structure EvF (C : Cx) (n : Nat) (nm : Names) (ρ : Rho) (e : Expr) (k : Nat) (d : D) : Prop where
  go : ∀ (A : Around) (env : Env) (X : List Addr) (s : Shared), Ok n A → EnvOk nm env → Pre C nm env X ρ s → Wp C A (eval e env) (fun v s' => Kp s s' ∧ ∃ N, RepO C (N ++ X) s'.heap k v d N ∧ (∀ b ∈ N, s.heap.get? b = none) ∧ N.Nodup) s
theorem Frm.fresh {C : Cx} {nm : Names} {env : Env} {s₀ s : Shared} {Mv Xc M : List Addr} {T : Nat → List Addr} {ρ : Rho} (f : Frm C nm env s₀ Mv Xc M T ρ s) {N : List Addr} (hn : ∀ b ∈ N, s.heap.get? b = none) :
    env.locals ∉ N ∧ (∀ x c, nm.lookup x = some .cell → env.cells.lookup x = some c → c ∉ N) ∧ ∀ j, ∀ b ∈ N, b ∉ T j := by
  refine ⟨fun m => ?_, fun x c h e m => ?_, fun j b m m' => ?_⟩
  · obtain ⟨_, o, _, _, e, _⟩ := f.ns
    rw [hn _ m] at e; cases e
  · obtain ⟨c', v, e', ⟨o, q, _⟩, _⟩ := f.cel x h
    rw [e] at e'; cases e'
    rw [hn _ m] at q; cases q
  · obtain ⟨o, e⟩ := f.gr.live b (List.mem_append.mpr (.inl (f.ownM j b m')))
    rw [hn _ m] at e; cases e
theorem Ex1.assignF (i : Nat) {x : Str} {kd : NameKind} {px pos : Pos} {e : Expr} {k : Nat} {d : D} (hi : nm[i]? = some (x, kd)) (h : EvF C n nm ρ e k d) (hk : kd = .local ∨ kd = .cell := by first | exact .inl rfl | exact .inr rfl)
    (hs : ∀ env, EnvOk nm env → swapsWith e (some (.Name x px)) pos.line env = pure false := by intro _ _; rfl) : Ex1 C n nm ρ (.Assign [.Name x px] e pos) (.next (ρ.set i (some (k, d)))) := .mk fun A env s₀ Mv Xc M T s o ok f =>
  wpAny_Assign_Name (wp_mono (h.go A env (M ++ Xc) s o ok f.pre) fun v s' ⟨k, N, r, hn, nd⟩ => by
    obtain ⟨f1, f2, f3⟩ := f.fresh hn
    exact (f.grow k hn r.live).store ok hi hk (by rw [List.append_assoc]; exact r) (.inr ⟨fun b m => List.mem_append.mpr (.inl m), f1, f2, fun j _ => f3 j, nd⟩) fun s'' f' _ => ⟨rfl, _, _, f'⟩) (hs env ok)
theorem Ex1.if_ {t : Expr} {a b : List Stmt} {pos : Pos} {c : Bool} {o : Out} (h : Tst C n nm ρ t c) (h1 : c = true → Ex C n nm ρ a o) (h0 : c = false → Ex C n nm ρ b o) : Ex1 C n nm ρ (.If t a b pos) o := .mk fun A env s₀ Mv Xc M T s oo ok f =>
  wpAny_If (h.then oo ok f.pre fun s' k p => by
    cases c with
    | true => exact (h1 rfl).go A env s₀ Mv Xc M T s' oo ok (f.keeps k)
    | false => exact (h0 rfl).go A env s₀ Mv Xc M T s' oo ok (f.keeps k))
theorem Ex1.skip {t : Expr} {a b : List Stmt} {pos : Pos} {o : Out} (h : Tst C n nm ρ t false) (h0 : Ex C n nm ρ b o) : Ex1 C n nm ρ (.If t a b pos) o := .if_ h (fun e => nomatch e) fun _ => h0
theorem Ex1.take {t : Expr} {a b : List Stmt} {pos : Pos} {o : Out} (h : Tst C n nm ρ t true) (h1 : Ex C n nm ρ a o) : Ex1 C n nm ρ (.If t a b pos) o := .if_ h (fun _ => h1) fun e => nomatch e
theorem Frm.out {C : Cx} {nm : Names} {env : Env} {s₀ s : Shared} {Mv Xc M : List Addr} {T : Nat → List Addr} {ρ : Rho} (f : Frm C nm env s₀ Mv Xc M T ρ s) : Gr C Xc s := ⟨f.gr.old, fun a m => f.gr.live a (List.mem_append.mpr (.inr m)), f.gr.toks⟩
theorem Ex1.ret {e : Expr} {pos : Pos} {d : D} (h : Ev C n nm ρ e 0 d) : Ex1 C n nm ρ (.Return (some e) pos) (.ret d) := .mk fun A env s₀ Mv Xc M T s o ok f =>
  wpAny_Return_some (h.then0 o ok f.pre fun v s' k p r => ⟨v, rfl, f.kp.trans (.of k), r.keep ⟨fun b o _ e => e, fun b o e m => List.mem_append.mpr (.inr m)⟩, (f.keeps k).out⟩)
end
end Mine
end
section
open PySem PySem.W PyProof.Rows PySem.Calls PySem.Spec
set_option maxRecDepth 100000
namespace Mine
section
variable {C : Cx} {n : Nat} {nm : Names} {ρ ρ' ρ₁ : Rho}
/-- a variable of one's own is given back -/
theorem Ex1.retName (i : Nat) {x : Str} {kd : NameKind} {px pos : Pos} {k : Nat} {d : D} (hi : nm[i]? = some (x, kd)) (hρ : ρ[i]? = some (some (k, d))) : Ex1 C n nm ρ (.Return (some (.Name x px)) pos) (.ret d) := .mk fun A env s₀ Mv Xc M T s o ok f => by
  obtain ⟨y, kd', v, a, b, c⟩ := f.vars i k d hρ
  rw [hi] at a; cases a
  exact wpAny_Return_some (wpAny_Name (load_var ok hi b ⟨v, rfl, f.kp, c.share (fun b m => List.mem_append.mpr (.inr m)) (fun b m => f.dis b (f.ownM i b m)), f.out⟩) (ok.plain _ (List.mem_of_getElem? hi)).1)

/-- a place: an object of one's own that is changed -/
structure Plc (C : Cx) (n : Nat) (nm : Names) (ρ : Rho) (o : Expr) (i K k : Nat) (d : D) (up : D → D) : Prop where
  go : ∀ (A : Around) (env : Env) (s₀ : Shared) (Mv Xc M : List Addr) (T : Nat → List Addr) (s : Shared), Ok n A → EnvOk nm env → Frm C nm env s₀ Mv Xc M T ρ s →
    Wp C A (eval o env) (fun ov s' => Kp s s' ∧ ∃ T', RepO C (M ++ Xc) s'.heap k ov d T' ∧ (∀ b ∈ T', b ∈ T i) ∧ T'.Nodup ∧
      ∀ s₁ s₂ a d', Kp s' s₁ → Chg a s₁ s₂ → a ∈ T' → (∃ o, s₂.heap.get? a = some o) → RepO C (M ++ Xc) s₂.heap k ov d' T' → Frm C nm env s₀ Mv Xc M T (ρ.set i (some (K, up d'))) s₂ ∧
        ∃ x kd v, nm[i]? = some (x, kd) ∧ VarAt env s₁.heap x kd v ∧ RepO C (M ++ Xc) s₂.heap K v (up d') (T i)) s
theorem Plc.name (i : Nat) {x : Str} {kd : NameKind} {px : Pos} {k : Nat} {d : D} (hi : nm[i]? = some (x, kd)) (hρ : ρ[i]? = some (some (k, d))) : Plc C n nm ρ (.Name x px) i k k d id := .mk fun A env s₀ Mv Xc M T s o ok f => by
  obtain ⟨y, kd', v, a, b, c⟩ := f.vars i k d hρ
  rw [hi] at a; cases a
  refine wpAny_Name (load_var ok hi b ⟨kRefl _, T i, c, fun _ m => m, f.nodup i, fun s₁ s₂ a d' kk cc ha hl r => ?_⟩) (ok.plain _ (List.mem_of_getElem? hi)).1
  have hv := b.keeps (kGet kk)
  exact ⟨(f.keeps kk).mutate ok cc hρ ha hl ⟨x, kd, v, hi, hv, r⟩, x, kd, v, hi, hv, r⟩


theorem setItem_listO {A : Around} {s : Shared} {l : Addr} {vs : List Value} {m : Nat} {k : Int} {t : Tok} {v : Value} {Q : Unit → Shared → Prop} (ho : s.heap.get? l = some (listO vs m)) (h0 : 0 ≤ k) (hk : k < 1000000) (hn : k < vs.length)
    (hQ : ∀ h' m', h'.get? l = some (listO (vs.set k.toNat v) m') → Heap.SameBut l s.heap h' → Q () { s with heap := h' }) : Wp C A (setItem (.ref l) (.int k t) v) Q s := by
  have hl := listO_isList ho
  unfold setItem
  refine wpAny_holding ?_
  refine wpAny_bind (wpAny_sequenceKey hl.typeIs (by decide) ?_)
  refine wpAny_bind (wpAny_callSpecial?_slot (name := Str.ofString "__setitem__") hl.typeIs slot_list_setitem
    (wpAny_call_entry slot_list_setitem hl.typeIs entry_list_setitem ?_ (args_list_setitem _ _ _)))
  show wpAny _ _ (Builtin.List.listSubscript? (.int k t) >>= _) _ _ s
  refine wpAny_bind (wpAny_listSubscript_int (fitsIndex_of h0 (by omega)) ?_)
  obtain ⟨j, rfl⟩ := Int.eq_ofNat_of_zero_le h0
  have hj : j < vs.toArray.size := by simp; omega
  have hx' : vs.toArray[j]? = some vs.toArray[j] := Array.getElem?_eq_getElem hj
  show wpAny _ _ ((seqItemAt l j >>= fun r => pure (r.map (j, ·))) >>= _) _ _ s
  refine wpAny_bind (wpAny_bind (wpAny_seqItemAt ho rfl (wpAny_pure ?_)))
  rw [hx']
  show wpAny _ _ (setSeqItemAt l j v >>= _) _ _ s
  have e1 : Obj.mapSeq (·.setIfInBounds j v) (listO vs m) = listO (vs.set j v) m := by simp [Obj.mapSeq, listO]
  have hfin : (s.heap.update l (Obj.mapSeq (·.setIfInBounds j v))).get? l = some (listO (vs.set j v) m) := by
    rw [Heap.get?_update_self _ ho (by rw [e1]; rfl), e1]
  refine wpAny_bind (wpAny_setSeqItemAt ho rfl ?_)
  first
    | exact wpAny_bind (wpAny_pure (wpAny_pure ⟨.none, rfl, wpAny_pure (hQ _ _ hfin (Heap.SameBut.update ..))⟩))
    | exact wpAny_pure ⟨.none, rfl, wpAny_pure (hQ _ _ hfin (Heap.SameBut.update ..))⟩

theorem Ex1.put_list {o ix value : Expr} {p pos : Pos} {i K : Nat} {ds : List D} {up : D → D} {j : Int} {d : D} (P : Plc C n nm ρ o i K 1 (.list ds) up) (b : Ev C n nm ρ ix 0 (.int j)) (v : Ev C n nm ρ value 0 d) (h0 : 0 ≤ j) (hj : j < 1000000) (hn : j < ds.length)
    (hs : ∀ env, swapsWith value (some (.Subscript o ix p)) pos.line env = pure false := by intro _; rfl) : Ex1 C n nm ρ (.Assign [.Subscript o ix p] value pos) (.next (ρ.set i (some (K, up (.list (ds.set j.toNat d)))))) := .mk fun A env s₀ Mv Xc M T s oo ok f =>
  wpAny_Assign_Subscript (v.then0 oo ok f.pre fun vv s' k1 p1 q1 => wp_mono (P.go A env s₀ Mv Xc M T s' oo ok (f.keeps k1)) fun ov s₂ ⟨k2, T', r, h1, nd, hup⟩ => b.then0 oo ok ((f.keeps k1).keeps k2).pre fun iv s₃ k3 p3 q3 => by
    cases q3 with
    | int _ u =>
      have r2 := r.keep (.all (kGet k3)) fun b _ o => kGet k3 b o
      cases r2 with
      | @list _ a vs m _ Tl e' rl =>
        obtain ⟨rz, rfl⟩ := rl.zero
        have haM : a ∈ M ++ Xc := List.mem_append.mpr (.inl (f.ownM i a (h1 a (by simp))))
        refine setItem_listO e' h0 hj (by rw [rz.length]; exact hn) fun h' m' e2 sb => ?_
        have cc : Chg a s₃ { s₃ with heap := h' } := .of (t := s₃.toks) sb (Nat.le_refl _)
        have K1 := cc.keep haM
        refine ⟨rfl, M, T, (hup s₃ _ a (.list (ds.set j.toNat d)) k3 cc (by simp) ⟨_, e2⟩ (.list e2 (RepL.toO ?_))).1⟩
        exact (rz.keep K1).set _ ((q1.keep (.all (kGet (kTrans k2 k3)))).keep K1)) (hs env)
theorem Ex1.put_dict {o ix value : Expr} {p pos : Pos} {i K : Nat} {ds : List (Str × D)} {up : D → D} {x : Str} {d : D} (P : Plc C n nm ρ o i K 1 (.dict ds) up) (b : Ev C n nm ρ ix 0 (.str x)) (v : Ev C n nm ρ value 0 d) (hn : ds.length ≤ 1000)
    (hs : ∀ env, swapsWith value (some (.Subscript o ix p)) pos.line env = pure false := by intro _; rfl) : Ex1 C n nm ρ (.Assign [.Subscript o ix p] value pos) (.next (ρ.set i (some (K, up (.dict (dput ds x d)))))) := .mk fun A env s₀ Mv Xc M T s oo ok f =>
  wpAny_Assign_Subscript (v.then0 oo ok f.pre fun vv s' k1 p1 q1 => wp_mono (P.go A env s₀ Mv Xc M T s' oo ok (f.keeps k1)) fun ov s₂ ⟨k2, T', r, h1, nd, hup⟩ => b.then0 oo ok ((f.keeps k1).keeps k2).pre fun iv s₃ k3 p3 q3 => by
    cases q3 with
    | str _ u _ =>
      have r2 := r.keep (.all (kGet k3)) fun b _ o => kGet k3 b o
      cases r2 with
      | @dict _ a kvs _ Tl hz e' rl =>
        obtain ⟨rz, rfl⟩ := rl.zero
        have haM : a ∈ M ++ Xc := List.mem_append.mpr (.inl (f.ownM i a (h1 a (by simp))))
        refine wpAny_setItem_pairs (strKind_is _ _ x u) e' (fun h' e2 sb => ?_) (by rw [rz.length]; simp only [sizeLine]; omega)
        have cc : Chg a s₃ { s₃ with heap := h', toks := s₃.toks + 1 } := .of sb (Nat.le_succ _)
        have K1 := cc.keep haM
        refine ⟨rfl, M, T, (hup s₃ _ a (.dict (dput ds x d)) k3 cc (by simp) (dictOf_get e2) (.dict hz e2 (RepD.toO ?_))).1⟩
        exact (rz.keep K1).put _ ((q1.keep (.all (kGet (kTrans k2 k3)))).keep K1)) (hs env)
end
end Mine
end
section
open PySem PySem.W PyProof.Rows PySem.Calls PySem.Spec
set_option maxRecDepth 100000
namespace Mine

theorem Touch.of {W : List Addr} {s : Shared} {h : Heap} {t : Nat} (l : s.toks ≤ t) (k : ∀ b o, b ∉ W → s.heap.get? b = some o → h.get? b = some o) : Touch W s { s with heap := h, toks := t } := ⟨⟨h, t, rfl⟩, l, k⟩
theorem Touch.keep {W X : List Addr} {s s' : Shared} (t : Touch W s s') (h : ∀ b ∈ W, b ∈ X) : Keep X X s.heap s'.heap := ⟨fun b o hb e => t.but b o (fun m => hb (h b m)) e, fun _ _ _ m => m⟩

/-- a walk over data -/
structure Walk1 (C : Cx) (A : Around) (I : Addr) (wr : List Addr) (ds : List D) (Ph : Nat → List Addr → Heap → Prop) : Prop where
  next : ∀ i X s d (Q : Option Value → Shared → Prop), Ph i X s.heap → ds[i]? = some d → (∀ v s', Touch wr s s' → Rep C X s'.heap v d → Ph (i + 1) X s'.heap → Q (some v) s') → Wp C A (pyNext (.ref I)) Q s
  done : ∀ X s (Q : Option Value → Shared → Prop), Ph ds.length X s.heap → (∀ s', Touch wr s s' → Q none s') → Wp C A (pyNext (.ref I)) Q s
  self : ∀ i X s (Q : Value → Shared → Prop), Ph i X s.heap → Q (.ref I) s → Wp C A (pyIter (.ref I)) Q s
  stay : ∀ i X X' h h', Ph i X h → Keep X X' h h' → (∀ b ∈ wr, ∀ o, h.get? b = some o → h'.get? b = some o) → (∀ b ∈ wr, b ∈ X') → Ph i X' h'
  live : ∀ i X h, Ph i X h → ∀ b ∈ wr, ∃ o, h.get? b = some o
/-- a walk over pairs -/
structure Walk2 (C : Cx) (A : Around) (I : Addr) (wr : List Addr) (ds : List (D × D)) (Ph : Nat → List Addr → Heap → Prop) : Prop where
  next : ∀ i X s d (Q : Option Value → Shared → Prop), Ph i X s.heap → ds[i]? = some d →
    (∀ T v₁ v₂ s' (Md : Heap → Prop), Touch wr s s' → IsTup s'.heap T #[v₁, v₂] → T ∉ wr → Rep C X s'.heap v₁ d.1 → Rep C X s'.heap v₂ d.2 → Md s'.heap →
      (∀ elts k pos s'' (Q' : Unit → Shared → Prop), Md s''.heap → (∀ s₃, Touch wr s'' s₃ → Ph (i + 1) X s₃.heap → Q' () s₃) → Wp C A (letOwnedTupleGo (.Tuple elts k pos) (.ref I) (.ref T)) Q' s'') → Q (some (.ref T)) s') → Wp C A (pyNext (.ref I)) Q s
  done : ∀ X s (Q : Option Value → Shared → Prop), Ph ds.length X s.heap → (∀ s', Touch wr s s' → Q none s') → Wp C A (pyNext (.ref I)) Q s
  self : ∀ i X s (Q : Value → Shared → Prop), Ph i X s.heap → Q (.ref I) s → Wp C A (pyIter (.ref I)) Q s
  stay : ∀ i X X' h h', Ph i X h → Keep X X' h h' → (∀ b ∈ wr, ∀ o, h.get? b = some o → h'.get? b = some o) → (∀ b ∈ wr, b ∈ X') → Ph i X' h'
  live : ∀ i X h, Ph i X h → ∀ b ∈ wr, ∃ o, h.get? b = some o

section
variable {C : Cx} {A : Around} {I : Addr} {fp wr : List Addr} {n : Nat}
/-- the state of a walk of the library's, and the data -/
structure PhOf (C : Cx) (fp wr : List Addr) (St : Nat → Heap → Prop) (Rp : List Addr → Heap → Prop) (i : Nat) (X : List Addr) (h : Heap) : Prop where
  st : St i h
  hw : ∀ b ∈ wr, b ∈ X
  hf : ∀ b ∈ fp, b ∈ wr ∨ b ∉ X
  rp : Rp X h
theorem PhOf.stay {St : Nat → Heap → Prop} {Rp : List Addr → Heap → Prop} (frame : ∀ i h h', St i h → (∀ b ∈ fp, ∀ o, h.get? b = some o → h'.get? b = some o) → St i h')
    (live : ∀ i h, St i h → ∀ b ∈ fp, ∃ o, h.get? b = some o) (rp : ∀ X X' h h', Keep X X' h h' → Rp X h → Rp X' h') :
    ∀ i X X' h h', PhOf C fp wr St Rp i X h → Keep X X' h h' → (∀ b ∈ wr, ∀ o, h.get? b = some o → h'.get? b = some o) → (∀ b ∈ wr, b ∈ X') → PhOf C fp wr St Rp i X' h' := fun i X X' h h' p k hw hX =>
  ⟨frame i h h' p.st fun b hb o e => by
      rcases p.hf b hb with m | m
      · exact hw b m o e
      · exact k.get b o m e, hX, fun b hb => by
      rcases p.hf b hb with m | m
      · exact .inl m
      · obtain ⟨o, e⟩ := live i h p.st b hb
        exact .inr fun m' => m (k.sub b o e m'), rp X X' h h' k p.rp⟩
theorem Walk1.of {P : Nat → Value → Prop} {St : Nat → Heap → Prop} (W : Walks C.prog C.w A I fp wr n P St) (ds : List D) (hn : ds.length = n) (live : ∀ i h, St i h → ∀ b ∈ fp, ∃ o, h.get? b = some o) :
    Walk1 C A I wr ds (PhOf C fp wr St fun X h => ∀ i v d, P i v → ds[i]? = some d → Rep C X h v d) where
  next := fun i X s d Q p hd hQ => by
    have hi : i < n := by rw [← hn]; exact (List.getElem?_eq_some_iff.mp hd).1
    refine wp_up (W.item i s _ _ hi p.st fun v h' tk hP hst hk l => ?_)
    have t : Touch wr s { s with heap := h', toks := tk } := .of l hk
    have K := t.keep p.hw
    exact hQ v _ t ((p.rp i v d hP hd).keep K) ⟨hst, p.hw, p.hf, fun j u e a b => (p.rp j u e a b).keep K⟩
  done := fun X s Q p hQ => by
    rw [hn] at p
    exact wp_up (W.done s _ _ p.st fun h' tk hk l => hQ _ (.of l hk))
  self := fun i X s Q p hQ => W.self i s Q _ p.st hQ
  stay := PhOf.stay W.frame live fun X X' h h' k r i v d a b => (r i v d a b).keep k
  live := fun i X h p b hb => live i h p.st b (W.sub b hb)
theorem Walk2.of {P : Nat → Array Value → Prop} {St : Nat → Heap → Prop} {Mid : Nat → Addr → Heap → Prop} (W : WalksU C.prog C.w A I fp wr n P St Mid) (ds : List (D × D)) (hn : ds.length = n) (live : ∀ i h, St i h → ∀ b ∈ fp, ∃ o, h.get? b = some o) :
    Walk2 C A I wr ds (PhOf C fp wr St fun X h => ∀ i vs d, P i vs → ds[i]? = some d → ∃ v₁ v₂, vs = #[v₁, v₂] ∧ Rep C X h v₁ d.1 ∧ Rep C X h v₂ d.2) where
  next := fun i X s d Q p hd hQ => by
    have hi : i < n := by rw [← hn]; exact (List.getElem?_eq_some_iff.mp hd).1
    refine wp_up (W.item i s _ _ hi p.st fun T vs h' tk hP hT hm hk l => ?_)
    have t : Touch wr s { s with heap := h', toks := tk } := .of l hk
    have K := t.keep p.hw
    obtain ⟨v₁, v₂, rfl, r₁, r₂⟩ := p.rp i vs d hP hd
    refine hQ T v₁ v₂ _ (fun h => Mid i T h ∧ ∀ i vs d, P i vs → ds[i]? = some d → ∃ v₁ v₂, vs = #[v₁, v₂] ∧ Rep C X h v₁ d.1 ∧ Rep C X h v₂ d.2) t hT (W.apart i T _ hm) (r₁.keep K) (r₂.keep K)
      ⟨hm, fun j us e a b => let ⟨u₁, u₂, x, y, z⟩ := p.rp j us e a b; ⟨u₁, u₂, x, y.keep K, z.keep K⟩⟩ fun elts k pos s'' Q' md hQ' => ?_
    refine W.go elts k pos i T s'' _ _ md.1 fun h₃ hst hk₃ => ?_
    have t₃ : Touch wr s'' { s'' with heap := h₃ } := .of (t := s''.toks) (Nat.le_refl _) hk₃
    have K₃ := t₃.keep p.hw
    exact hQ' _ t₃ ⟨hst, p.hw, p.hf, fun j us e a b => let ⟨u₁, u₂, x, y, z⟩ := md.2 j us e a b; ⟨u₁, u₂, x, y.keep K₃, z.keep K₃⟩⟩
  done := fun X s Q p hQ => by
    rw [hn] at p
    exact wp_up (W.done s _ _ p.st fun h' tk hk l => hQ _ (.of l hk))
  self := fun i X s Q p hQ => W.self i s Q _ p.st hQ
  stay := PhOf.stay W.frame live fun X X' h h' k r i v d a b => let ⟨u₁, u₂, x, y, z⟩ := r i v d a b; ⟨u₁, u₂, x, y.keep k, z.keep k⟩
  live := fun i X h p b hb => live i h p.st b (W.sub b hb)
end

/-- an expression to walk over -/
structure Src1 (C : Cx) (n : Nat) (nm : Names) (ρ : Rho) (e : Expr) (ds : List D) : Prop where
  go : ∀ (A : Around) (env : Env) (X : List Addr) (s : Shared), Ok n A → EnvOk nm env → Pre C nm env X ρ s → Wp C A (eval e env) (fun xv s₁ => Wp C A (pyIter xv) (fun it s₂ => Kp s s₂ ∧ ∃ I wr Ph, it = .ref I ∧ (∀ b ∈ wr, s.heap.get? b = none) ∧ Walk1 C A I wr ds Ph ∧ Ph 0 (wr ++ X) s₂.heap) s₁) s
structure Src2 (C : Cx) (n : Nat) (nm : Names) (ρ : Rho) (e : Expr) (ds : List (D × D)) : Prop where
  go : ∀ (A : Around) (env : Env) (X : List Addr) (s : Shared), Ok n A → EnvOk nm env → Pre C nm env X ρ s → Wp C A (eval e env) (fun xv s₁ => Wp C A (pyIter xv) (fun it s₂ => Kp s s₂ ∧ ∃ I wr Ph, it = .ref I ∧ (∀ b ∈ wr, s.heap.get? b = none) ∧ Walk2 C A I wr ds Ph ∧ Ph 0 (wr ++ X) s₂.heap) s₁) s

/-- what the iterators must keep off -/
structure Apt (C : Cx) (nm : Names) (env : Env) (s₀ : Shared) (wr Xc : List Addr) : Prop where
  sub : ∀ b ∈ wr, b ∈ Xc
  new : ∀ b ∈ wr, s₀.heap.get? b = none
  off : ∀ b ∈ wr, C.h₀.get? b = none
  fre : ∀ x c, nm.lookup x = some .free → env.cells.lookup x = some c → c ∉ wr
/-- a turn of a loop: the next item, and the names bound to it -/
structure Trn (C : Cx) (A : Around) (nm : Names) (tgt : Expr) (I : Addr) (wr : List Addr) (n : Nat) (bind : Nat → Rho → Rho) (Ph : Nat → List Addr → Heap → Prop) : Prop where
  turn : ∀ env s₀ Mv Xc M T ρ s i (Q : Shared → Prop), EnvOk nm env → Frm C nm env s₀ Mv Xc M T ρ s → Apt C nm env s₀ wr Xc → i < n → Ph i (M ++ Xc) s.heap →
    (∀ s₂ T₂, Frm C nm env s₀ Mv Xc M T₂ (bind i ρ) s₂ → Ph (i + 1) (M ++ Xc) s₂.heap → KpB (wr ++ M) s s₂ → Q s₂) →
    Wp C A (pyNext (.ref I)) (fun r s₁ => ∃ v, r = some v ∧ Wp C A (letOwnedTupleGo tgt (.ref I) v) (fun _ s₁' => Wp C A (assign tgt env v) (fun _ s₂ => Q s₂) s₁') s₁) s
  done : ∀ X s (Q : Option Value → Shared → Prop), Ph n X s.heap → (∀ s', Touch wr s s' → Q none s') → Wp C A (pyNext (.ref I)) Q s
  self : ∀ i X s (Q : Value → Shared → Prop), Ph i X s.heap → Q (.ref I) s → Wp C A (pyIter (.ref I)) Q s
  stay : ∀ i X X' h h', Ph i X h → Keep X X' h h' → (∀ b ∈ wr, ∀ o, h.get? b = some o → h'.get? b = some o) → (∀ b ∈ wr, b ∈ X') → Ph i X' h'
  live : ∀ i X h, Ph i X h → ∀ b ∈ wr, ∃ o, h.get? b = some o

section
variable {C : Cx} {A : Around} {nm : Names} {I : Addr} {wr : List Addr} {Ph : Nat → List Addr → Heap → Prop}
theorem touch_frm {env : Env} {s₀ s s' : Shared} {Mv Xc M : List Addr} {T : Nat → List Addr} {ρ : Rho} (f : Frm C nm env s₀ Mv Xc M T ρ s) (ok : EnvOk nm env) (a : Apt C nm env s₀ wr Xc) (t : Touch wr s s') (hl : ∀ b ∈ wr, ∃ o, s'.heap.get? b = some o) : Frm C nm env s₀ Mv Xc M T ρ s' :=
  f.touchY ok t a.sub a.new a.off (fun _ m => m) (fun b m _ => hl b m) a.fre
theorem Touch.kpB {W M : List Addr} {s s' : Shared} (t : Touch W s s') : KpB (W ++ M) s s' := ⟨t.same, t.toks, fun b o h e => t.but b o (fun m => h (by simp [m])) e⟩
def getD (ds : List D) (i : Nat) : D := (ds[i]?).getD .none
def getD2 (ds : List (D × D)) (i : Nat) : D × D := (ds[i]?).getD (.none, .none)
theorem Trn.of1 {ds : List D} (W : Walk1 C A I wr ds Ph) {p : Nat} {x : Str} {kd : NameKind} {px : Pos} (hp : nm[p]? = some (x, kd)) (hk : kd = .local ∨ kd = .cell) :
    Trn C A nm (.Name x px) I wr ds.length (fun i ρ => ρ.set p (some (0, getD ds i))) Ph where
  turn := fun env s₀ Mv Xc M T ρ s i Q ok f a hi ph hQ => by
    have hd : ds[i]? = some (getD ds i) := by unfold getD; rw [List.getElem?_eq_getElem hi]; rfl
    refine W.next i _ s _ _ ph hd fun v s' t r ph' => ⟨v, rfl, ?_⟩
    show wpAny _ A (pure ()) _ _ _
    refine wpAny_pure ?_
    have f' := touch_frm f ok a t (W.live _ _ _ ph')
    have hM : ∀ b ∈ wr, b ∉ M := fun b hb m => f.dis b m (a.sub b hb)
    refine wpAny_assign_Name (f'.store ok hp hk (.sh r) (.inl rfl) fun s₂ f₂ ⟨z, hz, c⟩ => hQ s₂ _ f₂ (W.stay _ _ _ _ _ ph' (c.keep (List.mem_append.mpr (.inl hz))) (fun b hb o e => c.but b (fun h => hM b hb (h ▸ hz)) o e) fun b hb => List.mem_append.mpr (.inr (a.sub b hb))) ?_)
    exact t.kpB.trans (c.kpB (List.mem_append.mpr (.inr hz)))
  done := W.done
  self := W.self
  stay := W.stay
  live := W.live
theorem Trn.of2 (hA : A.handled = none) {ds : List (D × D)} (W : Walk2 C A I wr ds Ph) {p q : Nat} {x y : Str} {kd kd' : NameKind} {px py tp : Pos} {k : Nat} (hp : nm[p]? = some (x, kd)) (hk : kd = .local ∨ kd = .cell) (hq : nm[q]? = some (y, kd')) (hk' : kd' = .local ∨ kd' = .cell) :
    Trn C A nm (.Tuple [.Name x px, .Name y py] k tp) I wr ds.length (fun i ρ => (ρ.set p (some (0, (getD2 ds i).1))).set q (some (0, (getD2 ds i).2))) Ph where
  turn := fun env s₀ Mv Xc M T ρ s i Q ok f a hi ph hQ => by
    have hd : ds[i]? = some (getD2 ds i) := by unfold getD2; rw [List.getElem?_eq_getElem hi]; rfl
    have hM : ∀ b ∈ wr, b ∉ M := fun b hb m => f.dis b m (a.sub b hb)
    have hX : ∀ b ∈ wr, b ∈ M ++ Xc := fun b hb => List.mem_append.mpr (.inr (a.sub b hb))
    refine W.next i _ s _ _ ph hd fun tu v₁ v₂ s' Md t ht hTw r₁ r₂ md go => ⟨_, rfl, go _ _ _ s' _ md fun s₃ t₃ ph₃ => ?_⟩
    have ht₃ : IsTup s₃.heap tu #[v₁, v₂] := by obtain ⟨o, e, r⟩ := ht; exact ⟨o, t₃.but _ o hTw e, r⟩
    refine assign_Tuple_tuple hA ht₃ rfl rfl fun h₅ he => ?_
    have k₅ : Kp s₃ { s₃ with heap := h₅ } := kHeap (t := s₃.toks) (fun b o e => he b o (Nat.ne_of_lt (Heap.lt_size e)) e) (Nat.le_refl _)
    have K₃ := t₃.keep hX
    have tt : Touch wr s s₃ := by
      obtain ⟨h1, t1, rfl⟩ := t.same
      obtain ⟨h2, t2, rfl⟩ := t₃.same
      exact ⟨⟨h2, t2, rfl⟩, Nat.le_trans t.toks t₃.toks, fun b o hb e => t₃.but b o hb (t.but b o hb e)⟩
    have f₃ := (touch_frm f ok a tt (W.live _ _ _ ph₃)).keeps k₅
    have ph₅ := W.stay _ _ _ _ _ ph₃ (.all (kGet k₅)) (fun b _ o e => kGet k₅ b o e) hX
    refine assignInOrder_cons (wpAny_assign_Name (f₃.store ok hp hk (.sh ((r₁.keep K₃).keep (.all (kGet k₅)))) (.inl rfl) fun s₆ f₆ ⟨z, hz, c⟩ => ?_))
    have K₆ := c.keep (X := M ++ Xc) (List.mem_append.mpr (.inl hz))
    refine assignInOrder_cons (wpAny_assign_Name (f₆.store ok hq hk' (.sh (((r₂.keep K₃).keep (.all (kGet k₅))).keep K₆)) (.inl rfl) fun s₇ f₇ ⟨z', hz', c'⟩ => assignInOrder_nil ?_))
    have ph₆ := W.stay _ _ _ _ _ ph₅ K₆ (fun b hb o e => c.but b (fun h => hM b hb (h ▸ hz)) o e) hX
    exact hQ s₇ _ f₇ (W.stay _ _ _ _ _ ph₆ (c'.keep (List.mem_append.mpr (.inl hz'))) (fun b hb o e => c'.but b (fun h => hM b hb (h ▸ hz')) o e) hX)
      (tt.kpB.trans ((KpB.of k₅).trans ((c.kpB (List.mem_append.mpr (.inr hz))).trans (c'.kpB (List.mem_append.mpr (.inr hz'))))))
  done := W.done
  self := W.self
  stay := W.stay
  live := W.live
end
end Mine
end
section
open PySem PySem.W PyProof.Rows PySem.Calls PySem.Spec
set_option maxRecDepth 100000
namespace Mine

/-- the turns of a for, from the i-th on -/
inductive ForRun (C : Cx) (n : Nat) (nm : Names) (bind : Nat → Rho → Rho) (body : List Stmt) (N : Nat) : Nat → Rho → Out → Prop
  | done {ρ : Rho} : ForRun C n nm bind body N N ρ (.next ρ)
  | turn {i : Nat} {ρ ρ₁ : Rho} {o : Out} : i < N → Ex C n nm (bind i ρ) body (.next ρ₁) → ForRun C n nm bind body N (i + 1) ρ₁ o → ForRun C n nm bind body N i ρ o
  | ret {i : Nat} {ρ : Rho} {d : D} : i < N → Ex C n nm (bind i ρ) body (.ret d) → ForRun C n nm bind body N i ρ (.ret d)
/-- the turns of a while, at most k -/
inductive WhileRun (C : Cx) (n : Nat) (nm : Names) (t : Expr) (body : List Stmt) : Nat → Rho → Out → Prop
  | done {k : Nat} {ρ : Rho} : Tst C n nm ρ t false → WhileRun C n nm t body k ρ (.next ρ)
  | turn {k : Nat} {ρ ρ₁ : Rho} {o : Out} : Tst C n nm ρ t true → Ex C n nm ρ body (.next ρ₁) → WhileRun C n nm t body k ρ₁ o → WhileRun C n nm t body (k + 1) ρ o

section
variable {C : Cx} {n : Nat} {nm : Names} {ρ : Rho}
theorem OutOk.rebase {env : Env} {s₀ s s' : Shared} {Mv Xc Xd M : List Addr} {T : Nat → List Addr} {ρ : Rho} {d : D} {fl : Flow} (f : Frm C nm env s₀ Mv Xc M T ρ s) (h : OutOk C nm env s M Xd (.ret d) fl s') (hd : ∀ b ∈ Xc, b ∈ Xd) : OutOk C nm env s₀ Mv Xc (.ret d) fl s' := by
  obtain ⟨v, rfl, k, r, g⟩ := h
  exact ⟨v, rfl, f.kp.own k f.new, r.keep ⟨fun b o _ e => e, fun b o _ m => hd b m⟩, g.old, fun a m => g.live a (hd a m), g.toks⟩
structure Src (C : Cx) (n : Nat) (nm : Names) (ρ : Rho) (iter : Expr) (nm' : Names) (tgt : Expr) (N : Nat) (bind : Nat → Rho → Rho) : Prop where
  go : ∀ (A : Around) (env : Env) (X : List Addr) (s : Shared), Ok n A → EnvOk nm env → Pre C nm env X ρ s → Wp C A (eval iter env) (fun xv s₁ => Wp C A (pyIter xv) (fun it s₂ => Kp s s₂ ∧ ∃ I wr Ph, it = .ref I ∧ (∀ b ∈ wr, s.heap.get? b = none) ∧ Trn C A nm' tgt I wr N bind Ph ∧ Ph 0 (wr ++ X) s₂.heap) s₁) s
theorem Src.of1 {e : Expr} {ds : List D} (h : Src1 C n nm ρ e ds) {nm' : Names} (p : Nat) {x : Str} {kd : NameKind} {px : Pos} (hp : nm'[p]? = some (x, kd)) (hk : kd = .local ∨ kd = .cell := by first | exact .inl rfl | exact .inr rfl) :
    Src C n nm ρ e nm' (.Name x px) ds.length (fun i ρ => ρ.set p (some (0, getD ds i))) := .mk fun A env X s o ok pr =>
  wp_mono (h.go A env X s o ok pr) fun xv s₁ h₁ => wp_mono h₁ fun it s₂ ⟨k, I, wr, Ph, e, n, W, ph⟩ => ⟨k, I, wr, Ph, e, n, .of1 W hp hk, ph⟩
theorem Src.of2 {e : Expr} {ds : List (D × D)} (h : Src2 C n nm ρ e ds) {nm' : Names} (p q : Nat) {x y : Str} {kd kd' : NameKind} {px py tp : Pos} {k : Nat} (hp : nm'[p]? = some (x, kd)) (hq : nm'[q]? = some (y, kd')) (hk : kd = .local ∨ kd = .cell := by first | exact .inl rfl | exact .inr rfl) (hk' : kd' = .local ∨ kd' = .cell := by first | exact .inl rfl | exact .inr rfl) :
    Src C n nm ρ e nm' (.Tuple [.Name x px, .Name y py] k tp) ds.length (fun i ρ => (ρ.set p (some (0, (getD2 ds i).1))).set q (some (0, (getD2 ds i).2))) := .mk fun A env X s o ok pr =>
  wp_mono (h.go A env X s o ok pr) fun xv s₁ h₁ => wp_mono h₁ fun it s₂ ⟨k, I, wr, Ph, e, n, W, ph⟩ => ⟨k, I, wr, Ph, e, n, .of2 o.handled W hp hk hq hk', ph⟩

theorem Ex1.for_ {tgt iter : Expr} {body : List Stmt} {pos : Pos} {N : Nat} {bind : Nat → Rho → Rho} {out : Out} (src : Src C n nm ρ iter nm tgt N bind) (run : ForRun C n nm bind body N 0 ρ out)
    (hs : ∀ env x, foldedSetIterable iter env x = pure x := by intro _ _; rfl) : Ex1 C n nm ρ (.For tgt iter body [] pos) out := .mk fun A env s₀ Mv Xc M T s oo ok f =>
  wpAny_For (wp_mono (src.go A env (M ++ Xc) s oo ok f.pre) fun xv s₁ h₁ => wp_mono h₁ fun it s₂ h => by
    obtain ⟨k, I, wr, Ph, rfl, hn, W, ph⟩ := h
    have f1 := f.rebase
    have f2 : Frm C nm env s M (wr ++ Xc) M T ρ s₂ := f1.growX k hn (W.live _ _ _ ph)
    have hoff : ∀ b ∈ wr, C.h₀.get? b = none := fun b hb => by
      cases e : C.h₀.get? b with
      | none => rfl
      | some o => have := f.gr.old b o e; rw [hn b hb] at this; cases this
    have hfre : ∀ x c, nm.lookup x = some .free → env.cells.lookup x = some c → c ∉ wr := fun x c hx hc hb => by
      obtain ⟨_, o, e⟩ := f.fre x c hx hc
      rw [hn c hb] at e; cases e
    have apt : Apt C nm env s wr (wr ++ Xc) := ⟨fun b hb => List.mem_append.mpr (.inl hb), hn, hoff, hfre⟩
    have ph2 : Ph 0 (M ++ (wr ++ Xc)) s₂.heap := W.stay _ _ _ _ _ ph ⟨fun b o _ e => e, fun b o _ m => by simp only [List.mem_append] at m ⊢; rcases m with m | m | m <;> simp [m]⟩ (fun _ _ _ e => e) fun b hb => by simp [hb]
    refine codeAny_forLoop_any (fun k' s' => ∃ i ρ' M' T', k' = N + 1 - i ∧ i ≤ N ∧ ForRun C n nm bind body N i ρ' out ∧ Frm C nm env s M (wr ++ Xc) M' T' ρ' s' ∧ Ph i (M' ++ (wr ++ Xc)) s'.heap) ?_ (N + 1) ⟨0, ρ, M, T, rfl, Nat.zero_le _, run, f2, ph2⟩
    rintro _ s' ⟨i, ρ', M', T', rfl, hi, rn, f', ph'⟩
    have body_ok : ∀ {out' : Out}, i < N → Ex C n nm (bind i ρ') body out' → (∀ fl s₃ s₄ T₃, Frm C nm env s M (wr ++ Xc) M' T₃ (bind i ρ') s₃ → Ph (i + 1) (M' ++ (wr ++ Xc)) s₃.heap → OutOk C nm env s₃ M' (wr ++ Xc) out' fl s₄ →
        (match fl with
            | .next | .cont => ∃ m, m < N + 1 - i ∧ ∃ i' ρ' M' T', m = N + 1 - i' ∧ i' ≤ N ∧ ForRun C n nm bind body N i' ρ' out ∧ Frm C nm env s M (wr ++ Xc) M' T' ρ' s₄ ∧ Ph i' (M' ++ (wr ++ Xc)) s₄.heap
            | .brk => OutOk C nm env s₀ Mv Xc out .next s₄
            | .ret v => OutOk C nm env s₀ Mv Xc out (.ret v) s₄)) →
        wpAny (model C.prog C.w) A (pyNext (.ref I)) (fun r s₁ => match r with
      | none => wpAny (model C.prog C.w) A (execs [] env) (fun f s₃ => OutOk C nm env s₀ Mv Xc out f s₃) (notedBy (model C.prog C.w) A env fun e s' => cameBackBy (model C.prog C.w) A env NoE e s') s₁
      | some v => wpAny (model C.prog C.w) A (letOwnedTupleGo tgt (.ref I) v) (fun _ s₁' =>
          wpAny (model C.prog C.w) A (PySem.assign tgt env v) (fun _ s₂ => wpAny (model C.prog C.w) A (execs body env) (fun f s₃ => match f with
            | .next | .cont => ∃ m, m < N + 1 - i ∧ ∃ i' ρ' M' T', m = N + 1 - i' ∧ i' ≤ N ∧ ForRun C n nm bind body N i' ρ' out ∧ Frm C nm env s M (wr ++ Xc) M' T' ρ' s₃ ∧ Ph i' (M' ++ (wr ++ Xc)) s₃.heap
            | .brk => OutOk C nm env s₀ Mv Xc out .next s₃
            | .ret v => OutOk C nm env s₀ Mv Xc out (.ret v) s₃) (notedBy (model C.prog C.w) A env fun e s' => cameBackBy (model C.prog C.w) A env NoE e s') s₂) (notedBy (model C.prog C.w) A env fun e s' => cameBackBy (model C.prog C.w) A env NoE e s') s₁') (notedBy (model C.prog C.w) A env fun e s' => cameBackBy (model C.prog C.w) A env NoE e s') s₁) (notedBy (model C.prog C.w) A env fun e s' => cameBackBy (model C.prog C.w) A env NoE e s') s' := fun {out'} hlt hex hfin => by
      refine wpAny_mono (W.turn env s M (wr ++ Xc) M' T' ρ' s' i (fun s₃ => Wp C A (execs body env) (fun fl s₄ => ∃ T₃, Frm C nm env s M (wr ++ Xc) M' T₃ (bind i ρ') s₃ ∧ Ph (i + 1) (M' ++ (wr ++ Xc)) s₃.heap ∧ OutOk C nm env s₃ M' (wr ++ Xc) out' fl s₄) s₃)
        ok f' apt hlt ph' fun s₃ T₃ f₃ ph₃ _ => wp_mono (hex.go A env s₃ M' (wr ++ Xc) M' T₃ s₃ oo ok f₃.rebase) fun fl s₄ h => ⟨T₃, f₃, ph₃, h⟩) (fun r s₁ h => ?_) fun _ _ x => x.elim
      obtain ⟨v, rfl, h⟩ := h
      exact wpAny_mono h (fun _ _ h => wpAny_mono h (fun _ _ h => wpAny_mono h (fun fl s₄ ⟨T₃, a, b, c⟩ => hfin fl _ s₄ T₃ a b c) fun _ _ x => x.elim) fun _ _ x => x.elim) fun _ _ x => x.elim
    cases rn with
    | done =>
      refine wpAny_mono (W.done _ _ (fun r s₁ => r = none ∧ Touch wr s' s₁) ph' fun s₁ t => ⟨rfl, t⟩) (fun r s₁ h => ?_) fun _ _ x => x.elim
      obtain ⟨rfl, t⟩ := h
      refine wpAny_execs_nil ⟨rfl, M', T', f.unbase (f'.touchY ok t apt.sub apt.new apt.off (fun b hb => List.mem_append.mpr (.inr hb)) (fun b hb hx => ?_) apt.fre)⟩
      obtain ⟨o, e⟩ := f.gr.live b (List.mem_append.mpr (.inr hx))
      rw [hn b hb] at e; cases e
    | @turn _ _ ρ₁ _ hlt hex rest =>
      refine body_ok hlt hex fun fl s₃ s₄ T₃ f₃ ph₃ h => ?_
      obtain ⟨rfl, M₄, T₄, f₄⟩ := h
      refine ⟨N + 1 - (i + 1), by omega, i + 1, ρ₁, M₄, T₄, rfl, hlt, rest, f₃.unbase f₄, ?_⟩
      refine W.stay _ _ _ _ _ ph₃ ⟨fun b o hb e => f₄.kp.get b o (fun m => hb (List.mem_append.mpr (.inl m))) e, fun b o e m => ?_⟩ (fun b hb o e => f₄.kp.get b o (fun m => f₃.dis b m (apt.sub b hb)) e) fun b hb => by simp [hb]
      rcases List.mem_append.mp m with m | m
      · by_cases hb : b ∈ M'
        · exact List.mem_append.mpr (.inl hb)
        · have := f₄.new b m hb; rw [e] at this; cases this
      · exact List.mem_append.mpr (.inr m)
    | @ret _ _ d hlt hex =>
      refine body_ok hlt hex fun fl s₃ s₄ T₃ f₃ ph₃ h => ?_
      have h2 := OutOk.rebase (f.unbase f₃).shrinkX h fun b hb => List.mem_append.mpr (.inr hb)
      obtain ⟨v, rfl, _⟩ := h
      exact h2) (hs env)

theorem Ex1.while_ {t : Expr} {body : List Stmt} {pos : Pos} {N : Nat} {out : Out} (run : WhileRun C n nm t body N ρ out) : Ex1 C n nm ρ (.While t body [] pos) out := .mk fun A env s₀ Mv Xc M T s oo ok f =>
  wpAny_While (by
    refine codeAny_whileLoop (fun k s' => ∃ ρ' M' T', WhileRun C n nm t body k ρ' out ∧ Frm C nm env s₀ Mv Xc M' T' ρ' s') ?_ N ⟨ρ, M, T, run, f⟩
    rintro k s' ⟨ρ', M', T', rn, f'⟩
    cases rn with
    | done h => exact wpAny_mono (h.then (Q := fun b s₂ => b = false ∧ Kp s' s₂) oo ok f'.pre fun s₂ k _ => ⟨rfl, k⟩) (fun b s₂ ⟨e, k⟩ => by subst e; exact wpAny_execs_nil ⟨rfl, M', T', f'.keeps k⟩) fun _ _ x => x.elim
    | turn h hex rest =>
      refine wpAny_mono (h.then (Q := fun b s₂ => b = true ∧ Kp s' s₂) oo ok f'.pre fun s₂ k _ => ⟨rfl, k⟩) (fun b s₂ ⟨e, k⟩ => ?_) fun _ _ x => x.elim
      subst e
      refine wpAny_mono (hex.go A env s₀ Mv Xc M' T' s₂ oo ok (f'.keeps k)) (fun fl s₃ h => ?_) fun _ _ x => x.elim
      obtain ⟨rfl, M₃, T₃, f₃⟩ := h
      exact ⟨_, Nat.lt_succ_self _, _, M₃, T₃, rest, f₃⟩)
end
end Mine
end
section
open PySem PySem.W PyProof.Rows PySem.Calls PySem.Spec
set_option maxRecDepth 100000
namespace Mine

/-- a function's promise for data -/
structure Fn (C : Cx) (n : Nat) (a : Addr) (ds : List D) (d : D) : Prop where
  go : ∀ (A : Around) (X : List Addr) (s : Shared) (vs : List Value), Ok n A → Gr C X s → RepL C X s.heap vs ds → Wp C A (call (.ref a) vs) (Gives C X 0 d s) s

theorem lookup_cellsFrom_acc : ∀ {names : List (Str × NameKind)} {n : Nat} {acc : List (Str × Addr)} {x : Str}, (∃ c, acc.lookup x = some c) → ∃ c, (cellsFrom n names acc).lookup x = some c
  | [], _, _, _, h => h
  | (y, k) :: r, n, acc, x, ⟨c, h⟩ => by
    unfold cellsFrom
    split
    · refine lookup_cellsFrom_acc ?_
      rw [List.lookup_cons]
      cases x == y with
      | true => exact ⟨_, rfl⟩
      | false => exact ⟨c, h⟩
    · exact lookup_cellsFrom_acc ⟨c, h⟩
theorem lookup_cellsFrom : ∀ {names : List (Str × NameKind)} {n : Nat} {acc : List (Str × Addr)} {x : Str}, (x, NameKind.cell) ∈ names → ∃ c, (cellsFrom n names acc).lookup x = some c
  | (y, k) :: r, n, acc, x, h => by
    unfold cellsFrom
    rcases List.mem_cons.mp h with e | h
    · cases e
      rw [if_pos (by rfl)]
      exact lookup_cellsFrom_acc ⟨n, by simp [List.lookup_cons]⟩
    · split
      · exact lookup_cellsFrom h
      · exact lookup_cellsFrom h

theorem bindL_off {kindOf : Str → Option NameKind} : ∀ {binds : List (Str × Value)} {m : Str → Option Value} {x : Str}, x ∉ binds.map (·.1) → bindL kindOf binds m x = m x
  | [], _, _, _ => rfl
  | (y, v) :: r, m, x, h => by
    unfold bindL
    simp only [List.map_cons, List.mem_cons, not_or] at h
    rw [bindL_off h.2]
    split
    · simp only [if_neg h.1]
    · rfl
theorem bindC_off {kindOf : Str → Option NameKind} : ∀ {binds : List (Str × Value)} {m : Str → Option Value} {x : Str}, x ∉ binds.map (·.1) → bindC kindOf binds m x = m x
  | [], _, _, _ => rfl
  | (y, v) :: r, m, x, h => by
    unfold bindC
    simp only [List.map_cons, List.mem_cons, not_or] at h
    rw [bindC_off h.2]
    split
    · rfl
    · simp only [if_neg h.1]
theorem bindL_at {kindOf : Str → Option NameKind} : ∀ {binds : List (Str × Value)} {m : Str → Option Value} {x : Str} {v : Value}, (binds.map (·.1)).Nodup → (x, v) ∈ binds → kindOf x = some .local → bindL kindOf binds m x = some v
  | (y, u) :: r, m, x, v, nd, h, hk => by
    rw [List.map_cons, List.nodup_cons] at nd
    unfold bindL
    rcases List.mem_cons.mp h with e | h
    · cases e
      rw [bindL_off nd.1, if_pos hk, if_pos rfl]
    · exact bindL_at nd.2 h hk
theorem bindC_at {kindOf : Str → Option NameKind} : ∀ {binds : List (Str × Value)} {m : Str → Option Value} {x : Str} {v : Value}, (binds.map (·.1)).Nodup → (x, v) ∈ binds → kindOf x = some .cell → bindC kindOf binds m x = some v
  | (y, u) :: r, m, x, v, nd, h, hk => by
    rw [List.map_cons, List.nodup_cons] at nd
    unfold bindC
    rcases List.mem_cons.mp h with e | h
    · cases e
      rw [bindC_off nd.1, if_neg (by rw [hk]; decide), if_pos rfl]
    · exact bindC_at nd.2 h hk

/-- the names' values at a call -/
def rho0 (nm : Names) (ds : List D) : Rho := ds.map (fun d => some (0, d)) ++ List.replicate (nm.length - ds.length) none
theorem rho0_at {nm : Names} {ds : List D} {i k : Nat} {d : D} (h : (rho0 nm ds)[i]? = some (some (k, d))) : k = 0 ∧ ds[i]? = some d := by
  unfold rho0 at h
  rw [List.getElem?_append] at h
  split at h
  · rw [List.getElem?_map] at h
    cases e : ds[i]? with
    | none => rw [e] at h; cases h
    | some d' => rw [e] at h; cases h; exact ⟨rfl, rfl⟩
  · have := List.mem_of_getElem? h
    have := List.eq_of_mem_replicate this
    cases this

/-- what is asked of a names' list: to be decided -/
structure NmOk (nm : Names) (k : Nat) : Prop where
  nodup : (nm.map (·.1)).Nodup
  plain : ∀ p ∈ nm, (p.1 == ("__debug__" : Str)) = false ∧ (p.1 == ("__classdict__" : Str)) = false
  nofree : ∀ p ∈ nm, p.2 ≠ .free
  params : ∀ p ∈ nm.take k, p.2 = .local ∨ p.2 = .cell


theorem Frm.begin {C : Cx} {nm : Names} {env : Env} {s s₁ : Shared} {X : List Addr} {vs : List Value} {ds : List D} {names : Names} {L : Addr} (g : Gr C X s) (hr : RepL C X s.heap vs ds) (hlen : ds.length ≤ nm.length) (q : NmOk nm ds.length)
    (hL : env.locals = L) (hsc : env.scope.names = nm) (hcs : env.cells = cellsFrom (L + 1) nm [])
    (x : InCallC s env.locals (bindL env.kindOf (((nm.take ds.length).map (·.1)).zip vs) fun _ => none) env.cells (bindC env.kindOf (((nm.take ds.length).map (·.1)).zip vs) fun _ => none) s₁) (ht : s.toks ≤ s₁.toks) :
    ∃ M, Frm C nm env s [] X M (fun _ => []) (rho0 nm ds) s₁ := by
  have hkp : Kp s s₁ := by
    obtain ⟨h', tk, rfl, k⟩ := x.done
    exact ⟨⟨h', tk, rfl, k⟩, ht⟩
  have hkind : ∀ y, env.kindOf y = nm.lookup y := fun y => by rw [← hsc]; rfl
  have hnames : ((nm.take ds.length).map (·.1)).length = vs.length := by rw [List.length_map, List.length_take, hr.length]; exact Nat.min_eq_left hlen
  have hzip : ((((nm.take ds.length).map (·.1)).zip vs).map (·.1)) = (nm.take ds.length).map (·.1) := by
    rw [List.map_fst_zip]; omega
  have hnd : ((((nm.take ds.length).map (·.1)).zip vs).map (·.1)).Nodup := by
    rw [hzip, List.map_take]; exact q.nodup.sublist (List.take_sublist _ _)
  have fresh : ∀ b, s.heap.objs.size ≤ b → s.heap.get? b = none := fun b hb => by
    cases e : s.heap.get? b with
    | none => rfl
    | some o => exact absurd (Heap.lt_size e) (Nat.not_lt.mpr hb)
  have hLs : s.heap.objs.size ≤ env.locals := x.toInCall.fresh
  have new : ∀ b ∈ env.locals :: nm.filterMap (fun p => env.cells.lookup p.1), s.heap.get? b = none := fun b hb => by
    rcases List.mem_cons.mp hb with rfl | hb
    · exact fresh _ hLs
    · obtain ⟨p, hm, e⟩ := List.mem_filterMap.mp hb
      exact fresh _ (Nat.le_of_lt (Nat.lt_of_le_of_lt hLs (x.above _ b (mem_of_lookup e))))
  refine ⟨env.locals :: nm.filterMap (fun p => env.cells.lookup p.1), { kp := .of hkp, gr := ⟨fun b o e => kGet hkp b o (g.old b o e), fun a m => ?_, Nat.le_trans g.toks ht⟩, new := fun b m _ => new b m, off := fun b m => ?_, dis := fun b m hX => ?_, loc := List.mem_cons_self, ns := ⟨_, x.toInCall.ns⟩, cel := fun y hy => ?_, one := fun y z c hy hc hc' => ?_, fre := fun y c hy _ => ?_, vars := fun i k d e => ?_, ownM := fun _ _ m => (by cases m), ownL := fun _ m => (by cases m), ownC := fun _ _ _ _ _ m => (by cases m), apart := fun _ _ _ _ m => (by cases m), nodup := fun _ => List.nodup_nil }⟩
  · rcases List.mem_append.mp m with m | m
    · rcases List.mem_cons.mp m with rfl | m
      · obtain ⟨o, _, _, e, _⟩ := x.toInCall.ns; exact ⟨o, e⟩
      · obtain ⟨p, hm, e⟩ := List.mem_filterMap.mp m
        obtain ⟨o, e, _⟩ := x.cell _ _ e
        exact ⟨o, e⟩
    · obtain ⟨o, e⟩ := g.live a m; exact ⟨o, kGet hkp a o e⟩
  · cases e : C.h₀.get? b with
    | none => rfl
    | some o => have := g.old b o e; rw [new b m] at this; cases this
  · obtain ⟨o, e⟩ := g.live b hX
    rw [new b m] at e; cases e
  · obtain ⟨c, hc⟩ := lookup_cellsFrom (n := L + 1) (acc := []) (mem_of_lookup hy)
    rw [← hcs] at hc
    exact ⟨c, _, hc, x.cell y c hc, List.mem_cons_of_mem _ (List.mem_filterMap.mpr ⟨(y, .cell), mem_of_lookup hy, hc⟩)⟩
  · exact name_of_addr x.apart (mem_of_lookup hc') (mem_of_lookup hc)
  · exact absurd rfl (q.nofree _ (mem_of_lookup hy))
  · obtain ⟨rfl, hd⟩ := rho0_at e
    obtain ⟨v, hv, hrv⟩ := hr.get hd
    have hi : i < ds.length := (List.getElem?_eq_some_iff.mp hd).1
    have hin : i < nm.length := Nat.lt_of_lt_of_le hi hlen
    have hnm : nm[i]? = some (nm[i].1, nm[i].2) := by rw [List.getElem?_eq_getElem hin]
    have hmem : (nm[i].1, v) ∈ ((nm.take ds.length).map (·.1)).zip vs := by
      refine List.mem_of_getElem? (i := i) ?_
      rw [List.getElem?_zip_eq_some]
      refine ⟨?_, hv⟩
      rw [List.getElem?_map, List.getElem?_take_of_lt hi, List.getElem?_eq_getElem hin]; rfl
    have hkd := lookup_at q.nodup hnm
    refine ⟨nm[i].1, nm[i].2, v, hnm, ?_, .sh (hrv.keep ⟨fun b o _ e => kGet hkp b o e, fun b o e m => ?_⟩)⟩
    · rcases q.params nm[i] (by
        rw [List.mem_take_iff_getElem]
        exact ⟨i, by omega, rfl⟩) with hk | hk
      · rw [hk] at hkd ⊢
        exact .loc x.toInCall.ns (bindL_at hnd hmem (by rw [hkind]; exact hkd))
      · rw [hk] at hkd ⊢
        obtain ⟨c, hc⟩ := lookup_cellsFrom (n := L + 1) (acc := []) (mem_of_lookup hkd)
        rw [← hcs] at hc
        have := x.cell _ c hc
        rw [bindC_at hnd hmem (by rw [hkind]; exact hkd)] at this
        exact .cell hc this
    · rcases List.mem_append.mp m with m | m
      · rw [new b m] at e; cases e
      · exact m

theorem Fn.of_body {C : Cx} {n : Nat} {a : Addr} {o : Obj} {fd : FuncData} {body : List Stmt} {nm : Names} {mr : List (Str × Const)} {ds : List D} {d : D} (ho : C.K.lookup a = some o) (hd : o.data = .func fd) (hb : fd.body = .stmts body) (hsc0 : fd.scope = { kind := .function, names := nm, isGenerator := false, isCoroutine := false, more := mr })
    (hc : codeIn C.K fd.code fd.qualname = true) (hclo : fd.closure = []) (hg : fd.globals = mainGlobals) (hbu : fd.builtins = builtinsNs)
    (hbind : ∀ vs : List Value, vs.length = ds.length → bindArgs fd ⟨vs, []⟩ = pure (((nm.take ds.length).map (·.1)).zip vs)) (q : NmOk nm ds.length) (hlen : ds.length ≤ nm.length) (h : Ex C n nm (rho0 nm ds) body (.ret d)) : Fn C (n + 1) a ds d := .mk fun A X s vs ok g hr => by
  have hsc : fd.scope.names = nm := by rw [hsc0]
  have hfk : fd.scope.kind = .function := by rw [hsc0]
  have hfg : fd.scope.isGenerator = false := by rw [hsc0]
  have hfc : fd.scope.isCoroutine = false := by rw [hsc0]
  have hK := C.inK.keeps g.old
  refine wpAny_call ?_
  refine codeAny_call_function ok.room (hK a o ho) hd hfc hfg hb (codeRec_of hK hc) ?_
  rw [hbind vs hr.length, hclo]
  refine wpAny_pure ?_
  have hkind : ∀ x ∈ ((nm.take ds.length).map (·.1)).zip vs, fd.scope.names.lookup x.1 = some .local ∨ (fd.scope.names.lookup x.1 = some .cell ∧ ((cellsFrom (s.heap.objs.size + 1) fd.scope.names []).lookup x.1).isSome = true) := fun x hx => by
    rw [hsc]
    obtain ⟨y, v⟩ := x
    have h1 := (List.of_mem_zip hx).1
    obtain ⟨p, hp, rfl⟩ := List.mem_map.mp h1
    have hm : p ∈ nm := List.mem_of_mem_take hp
    obtain ⟨i, hi⟩ := List.getElem?_of_mem hm
    have hl := lookup_at q.nodup (x := p.1) (k := p.2) hi
    rcases q.params p hp with e | e
    · exact .inl (by rw [← e]; exact hl)
    · refine .inr ⟨by rw [← e]; exact hl, ?_⟩
      obtain ⟨c, hc⟩ := lookup_cellsFrom (n := s.heap.objs.size + 1) (acc := []) (mem_of_lookup (hl.trans (by rw [e])))
      rw [hc]; rfl
  refine wpAny_with_toks (n := s.toks) (Nat.le_refl _) (wpAny_newFunctionEnv_cells hfk hkind fun env he s' x ht => ?_)
  have hsn : env.scope = fd.scope := by rw [he]; rfl
  have hcs : env.cells = cellsFrom (s.heap.objs.size + 1) nm [] := by rw [he]; show cellsFrom _ fd.scope.names [] = _; rw [hsc]
  obtain ⟨M, f⟩ := Frm.begin (env := env) (L := s.heap.objs.size) (names := nm) g hr hlen q (by rw [he]; rfl) (by rw [hsn, hsc]) hcs x ht
  have hki : ∀ y, env.kindOf y = nm.lookup y := fun y => by show env.scope.names.lookup y = _; rw [hsn, hsc]
  have henv : EnvOk nm env := ⟨by rw [hsn, hfk], by rw [he]; exact hg, by rw [he]; exact hbu, q.nodup, q.plain, fun y e => (hki y).trans e, fun y e => (hki y).trans e, fun y e => .inl ((hki y).trans e), fun y e => (hki y).trans e,
    fun y e => by
      rcases e with e | e
      · rw [hcs]; exact lookup_cellsFrom (mem_of_lookup e)
      · exact absurd rfl (q.nofree _ (mem_of_lookup e))⟩
  refine ⟨C.nolimit.keeps fun b o e => kGet f.kp.to b o (g.old b o e), codeAny_func ?_⟩
  refine wpAny_mono (h.go (A.deeper env) env s [] X M _ s' (ok.deeper env) henv f) (fun fl s'' h => ?_) fun _ _ x => x.elim
  obtain ⟨v, rfl, k, r, _⟩ := h
  exact .mk k.to r

/-- a call of a function of the program -/
theorem Ev.call {C : Cx} {n : Nat} {nm : Names} {ρ : Rho} {x : Str} {px pos : Pos} {e : Expr} {es : List Expr} {a : Addr} {o : Obj} {fd : FuncData} {ds : List D} {d : D} (i : Nat) (hi : nm[i]? = some (x, .globalImplicit)) (hK : nsIn C.K mainGlobals x = some (some (.ref a))) (ho : C.K.lookup a = some o) (hd : o.data = .func fd)
    (h : Evs C n nm ρ (e :: es) ds) (f : Fn C n a ds d) (hxd : (x == ("__debug__" : Str)) = false := by decide) : Ev C n nm ρ (.Call (.Name x px) (e :: es) [] pos) 0 d := .mk fun A env X s ok env' p => by
  cases h with
  | @cons _ _ d₁ ds₁ h he rest =>
    refine Call_Name rfl (load_glob env' p (lookup_at env'.nodup hi) hK ?_ hxd px)
    have hrun := (Evs.cons h he rest).run (pos := pos) A env X s ok env' p
    rw [he env] at hrun ⊢
    refine callWith_function (o := o) (fd := fd) (evalArgs_plain (wp_mono hrun fun vs s' ⟨k, r⟩ => ⟨⟨kGet k _ _ (p.gr.old _ _ (C.inK _ _ ho)), hd⟩, ?_⟩))
    exact wp_mono (f.go A X s' vs ok (p.gr.keeps k) r) fun v s'' g => ⟨kTrans k g.1, g.2⟩
end Mine
end
section
open PySem PySem.W PyProof.Rows PySem.Calls PySem.Spec
set_option maxRecDepth 100000
namespace Mine

theorem cellsFrom_off : ∀ {names : List (Str × NameKind)} {n : Nat} {acc : List (Str × Addr)} {x : Str}, (x, NameKind.cell) ∉ names → (cellsFrom n names acc).lookup x = acc.lookup x
  | [], _, _, _, _ => rfl
  | (y, k) :: r, n, acc, x, h => by
    have h1 : (x, NameKind.cell) ∉ r := fun m => h (List.mem_cons_of_mem _ m)
    unfold cellsFrom
    split
    · rename_i hk
      rw [cellsFrom_off h1, List.lookup_cons]
      have : (x == y) = false := by
        cases e : x == y with
        | false => rfl
        | true =>
          rw [beq_iff_eq] at e hk
          subst e; subst hk
          exact absurd List.mem_cons_self h
      rw [this]
    · exact cellsFrom_off h1
/-- the own cells lie above -/
theorem cellsFrom_ge : ∀ {names : List (Str × NameKind)} {n : Nat} {acc : List (Str × Addr)} {x : Str} {c : Addr}, (x, NameKind.cell) ∈ names → (names.map (·.1)).Nodup → (cellsFrom n names acc).lookup x = some c → n ≤ c
  | (y, k) :: r, n, acc, x, c, h, nd, e => by
    rw [List.map_cons, List.nodup_cons] at nd
    unfold cellsFrom at e
    rcases List.mem_cons.mp h with h | h
    · cases h
      rw [if_pos (by rfl), cellsFrom_off (fun m => nd.1 (List.mem_map.mpr ⟨_, m, rfl⟩))] at e
      simp [List.lookup_cons] at e
      exact Nat.le_of_eq e
    · split at e
      · have := cellsFrom_ge h nd.2 e; omega
      · exact cellsFrom_ge h nd.2 e

/-- what closureFor gives -/
def closOf (env : Env) : List (Str × NameKind) → List (Str × Addr) → List (Str × Addr)
  | [], acc => acc
  | (x, k) :: r, acc => if k == .free then closOf env r ((x, (env.cells.lookup x).getD 0) :: acc) else closOf env r acc
theorem closureFor_eq {scope : Scope} {env : Env} (h : ∀ p ∈ scope.names, p.2 = .free → ∃ c, env.cells.lookup p.1 = some c) : closureFor scope env = pure (closOf env scope.names []) := by
  have key : ∀ (names : List (Str × NameKind)) (acc : List (Str × Addr)) (f : Str × NameKind → List (Str × Addr) → Sem (ForInStep (List (Str × Addr)))),
      (∀ name kind cs, f (name, kind) cs = if kind == .free then (do let c ← cellOf env name; pure (.yield ((name, c) :: cs))) else pure (.yield cs)) → (∀ p ∈ names, p.2 = .free → ∃ c, env.cells.lookup p.1 = some c) →
      forIn names acc f = pure (closOf env names acc) := by
    intro names
    induction names with
    | nil => intro acc f _ _; rfl
    | cons p r ih =>
      intro acc f hf h
      obtain ⟨x, k⟩ := p
      rw [List.forIn_cons, hf]
      unfold closOf
      cases e : k == NameKind.free with
      | false =>
        simp only [e, Bool.false_eq_true, if_false]
        exact ih acc f hf fun p hp => h p (List.mem_cons_of_mem _ hp)
      | true =>
        simp only [e, if_true]
        obtain ⟨c, hc⟩ := h (x, k) List.mem_cons_self (beq_iff_eq.mp e)
        have : cellOf env x = pure c := by unfold cellOf; rw [hc]
        rw [this, hc]
        exact ih _ f hf fun p hp => h p (List.mem_cons_of_mem _ hp)
  unfold closureFor
  exact (congrArg (· >>= fun s => pure s) (key scope.names [] _ (fun _ _ _ => rfl) h)).trans rfl
theorem closOf_acc {env : Env} : ∀ {names : List (Str × NameKind)} {acc : List (Str × Addr)} {x : Str}, x ∉ names.map (·.1) → (closOf env names acc).lookup x = acc.lookup x
  | [], _, _, _ => rfl
  | (y, k) :: r, acc, x, h => by
    simp only [List.map_cons, List.mem_cons, not_or] at h
    unfold closOf
    split
    · rw [closOf_acc h.2, List.lookup_cons]
      have : (x == y) = false := by simpa using h.1
      rw [this]
    · exact closOf_acc h.2
theorem closOf_at {env : Env} : ∀ {names : List (Str × NameKind)} {acc : List (Str × Addr)} {x : Str} {c : Addr}, (names.map (·.1)).Nodup → (x, NameKind.free) ∈ names → env.cells.lookup x = some c → (closOf env names acc).lookup x = some c
  | (y, k) :: r, acc, x, c, nd, h, e => by
    rw [List.map_cons, List.nodup_cons] at nd
    unfold closOf
    rcases List.mem_cons.mp h with h | h
    · cases h
      rw [if_pos (by rfl), closOf_acc nd.1, e]
      simp [List.lookup_cons]
    · split <;> exact closOf_at nd.2 h e
theorem lookup_relabel {env : Env} : ∀ {names : List (Str × NameKind)} {x : Str} {k : NameKind}, names.lookup x = some k → k ≠ .free →
    (names.map fun (n, k) => if (k == NameKind.free && env.scope.kind == .function && env.kindOf n == some .cell) then (n, NameKind.cell) else (n, k)).lookup x = some k
  | (n, k') :: r, x, k, h, hk => by
    show List.lookup x ((if (k' == NameKind.free && env.scope.kind == .function && env.kindOf n == some .cell) = true then (n, NameKind.cell) else (n, k')) :: _) = _
    cases hx : x == n with
    | true =>
      simp only [List.lookup_cons, hx] at h
      cases h
      have : (k' == NameKind.free) = false := by simpa using hk
      simp [List.lookup_cons, hx, this]
    | false =>
      simp only [List.lookup_cons, hx] at h
      split <;> simp only [List.lookup_cons, hx] <;> exact lookup_relabel h hk
theorem lookup_relabel_free {env : Env} : ∀ {names : List (Str × NameKind)} {x : Str}, names.lookup x = some .free →
    (names.map fun (n, k) => if (k == NameKind.free && env.scope.kind == .function && env.kindOf n == some .cell) then (n, NameKind.cell) else (n, k)).lookup x = some .free ∨
    (names.map fun (n, k) => if (k == NameKind.free && env.scope.kind == .function && env.kindOf n == some .cell) then (n, NameKind.cell) else (n, k)).lookup x = some .cell
  | (n, k') :: r, x, h => by
    show List.lookup x ((if (k' == NameKind.free && env.scope.kind == .function && env.kindOf n == some .cell) = true then (n, NameKind.cell) else (n, k')) :: _) = _ ∨ List.lookup x ((if (k' == NameKind.free && env.scope.kind == .function && env.kindOf n == some .cell) = true then (n, NameKind.cell) else (n, k')) :: _) = _
    cases hx : x == n with
    | true =>
      simp only [List.lookup_cons, hx] at h
      cases h
      split
      · exact .inr (by simp [List.lookup_cons, hx])
      · exact .inl (by simp [List.lookup_cons, hx])
    | false =>
      simp only [List.lookup_cons, hx] at h
      split <;> simp only [List.lookup_cons, hx] <;> exact lookup_relabel_free h

/-- what is asked of a comprehension's names: to be decided -/
structure CmOk (nm nm' : Names) : Prop where
  nodup : (nm'.map (·.1)).Nodup
  plain : ∀ p ∈ nm', (p.1 == ("__debug__" : Str)) = false ∧ (p.1 == ("__classdict__" : Str)) = false
  outer : ∀ p ∈ nm', p.2 = .free → nm.lookup p.1 = some .cell ∨ nm.lookup p.1 = some .free
/-- the names' values in a comprehension -/
structure RhoC (nm : Names) (ρ : Rho) (nm' : Names) (ρ' : Rho) : Prop where
  at_ : ∀ (i k : Nat) (d : D), ρ'[i]? = some (some (k, d)) → k = 0 ∧ ∃ (x : Str) (j : Nat) (kd : NameKind), nm'[i]? = some (x, .free) ∧ nm[j]? = some (x, kd) ∧ (kd = .cell ∨ kd = .free) ∧ ρ[j]? = some (some (0, d))

theorem newEnv_comp {A : Around} {C : Cx} {scope : Scope} {globals : Addr} {cl : List (Str × Addr)} {qual : Str} {env : Env} {s : Shared} {Q : Env → Shared → Prop}
    (h : ∀ h', (∀ b o, s.heap.get? b = some o → h'.get? b = some o) → h'.Ns s.heap.objs.size (fun _ => none) →
      (∀ x c, (x, NameKind.cell) ∈ scope.names → (scope.names.map (·.1)).Nodup → (cellsFrom (s.heap.objs.size + 1) scope.names cl).lookup x = some c → h'.IsCell c none) →
      Q { scope := scope, locals := s.heap.objs.size, globals := globals, cells := cellsFrom (s.heap.objs.size + 1) scope.names cl, qual := qual, func := none, code := env.code, frame := env.frame, builtins := env.builtins } { s with heap := h' }) :
    Wp C A (newFunctionEnv scope globals cl [] qual none .none (some env)) Q s := by
  simp only [newFunctionEnv, Option.isSome_some, if_true]
  refine wpAny_bind (wpAny_alloc ?_)
  refine wpAny_bind (wpAny_layCells _ (fun name kind cells => by cases hkc : kind == NameKind.cell <;> simp [hkc]) _ _ _ _ ?_)
  rw [show ({ s with heap := s.heap.push { cls := .type "dict", data := .dict #[] } } : Shared).heap.objs.size = s.heap.objs.size + 1 from Heap.size_push ..]
  refine wpAny_bind (wpAny_pure (wpAny_pure (h _ (fun b o e => pushCells_keeps _ _ b o (Heap.get?_push_of_some _ e)) ((Heap.Ns.new s.heap (.type "dict")).keeps (pushCells_keeps _ _)) fun x c hx nd hc => ?_)))
  have key : ∀ (names : List (Str × NameKind)) (H : Heap) (acc : List (Str × Addr)), (x, NameKind.cell) ∈ names → (names.map (·.1)).Nodup → (cellsFrom H.objs.size names acc).lookup x = some c → (pushCells H names).IsCell c none := by
    intro names
    induction names with
    | nil => intro H acc h; cases h
    | cons p r ih =>
      intro H acc hm nd e
      obtain ⟨y, k⟩ := p
      rw [List.map_cons, List.nodup_cons] at nd
      unfold pushCells
      unfold cellsFrom at e
      rcases List.mem_cons.mp hm with hm | hm
      · cases hm
        rw [if_pos (by rfl), cellsFrom_off (fun m => nd.1 (List.mem_map.mpr ⟨_, m, rfl⟩))] at e
        rw [if_pos (by rfl)]
        simp [List.lookup_cons] at e
        subst e
        exact ⟨_, pushCells_keeps _ _ _ _ (Heap.get?_push_size _ rfl), rfl⟩
      · split at e
        · rename_i hk
          rw [if_pos hk]
          exact ih _ _ hm nd.2 (by rw [Heap.size_push]; exact e)
        · rename_i hk
          rw [if_neg hk]
          exact ih _ _ hm nd.2 e
  refine key scope.names _ cl hx nd ?_
  rw [Heap.size_push]; exact hc
end Mine
end
section
open PySem PySem.W PyProof.Rows PySem.Calls PySem.Spec
set_option maxRecDepth 100000
namespace Mine

theorem cellsFrom_inj : ∀ {names : List (Str × NameKind)} {n : Nat} {acc : List (Str × Addr)} {x y : Str} {c : Addr}, (names.map (·.1)).Nodup → (x, NameKind.cell) ∈ names → (y, NameKind.cell) ∈ names → (cellsFrom n names acc).lookup x = some c → (cellsFrom n names acc).lookup y = some c → y = x
  | (z, k) :: r, n, acc, x, y, c, nd, hx, hy, ex, ey => by
    rw [List.map_cons, List.nodup_cons] at nd
    have off : (z, NameKind.cell) ∉ r := fun m => nd.1 (List.mem_map.mpr ⟨_, m, rfl⟩)
    unfold cellsFrom at ex ey
    rcases List.mem_cons.mp hx with e1 | e1 <;> rcases List.mem_cons.mp hy with e2 | e2
    · cases e1; cases e2; rfl
    · cases e1
      rw [if_pos (by rfl)] at ex ey
      rw [cellsFrom_off off] at ex
      simp [List.lookup_cons] at ex
      have := cellsFrom_ge e2 nd.2 ey
      exact absurd ex (Nat.ne_of_lt this)
    · cases e2
      rw [if_pos (by rfl)] at ex ey
      rw [cellsFrom_off off] at ey
      simp [List.lookup_cons] at ey
      have := cellsFrom_ge e1 nd.2 ex
      exact absurd ey (Nat.ne_of_lt this)
    · split at ex
      · rename_i hk; rw [if_pos hk] at ey; exact cellsFrom_inj nd.2 e1 e2 ex ey
      · rename_i hk; rw [if_neg hk] at ey; exact cellsFrom_inj nd.2 e1 e2 ex ey
theorem closOf_mem {env : Env} : ∀ {names : List (Str × NameKind)} {acc : List (Str × Addr)} {x : Str} {c : Addr}, (closOf env names acc).lookup x = some c → acc.lookup x = some c ∨ ((x, NameKind.free) ∈ names ∧ c = (env.cells.lookup x).getD 0)
  | [], _, _, _, h => .inl h
  | (y, k) :: r, acc, x, c, h => by
    unfold closOf at h
    split at h
    · rename_i hk
      rcases closOf_mem h with h | ⟨a, b⟩
      · rw [List.lookup_cons] at h
        cases e : x == y with
        | false => rw [e] at h; exact .inl h
        | true =>
          rw [e] at h; cases h
          rw [beq_iff_eq] at e hk
          subst e; subst hk
          exact .inr ⟨List.mem_cons_self, rfl⟩
      · exact .inr ⟨List.mem_cons_of_mem _ a, b⟩
    · rcases closOf_mem h with h | ⟨a, b⟩
      · exact .inl h
      · exact .inr ⟨List.mem_cons_of_mem _ a, b⟩

section
variable {C : Cx} {nm nm' : Names} {ρ ρ' : Rho} {env : Env} {X : List Addr} {s s₃ : Shared}
abbrev envC (scope : Scope) (env : Env) (L : Addr) : Env :=
  { scope := relabel scope env, locals := L, globals := env.globals, cells := cellsFrom (L + 1) scope.names (closOf env scope.names []), qual := env.qual, func := none, code := env.code, frame := env.frame, builtins := env.builtins }
theorem envC_ok {scope : Scope} (ok : EnvOk nm env) (cm : CmOk nm nm') (hsc : scope.names = nm') (hk : scope.kind = .function) (L : Addr) : EnvOk nm' (envC scope env L) := by
  subst hsc
  have off : ∀ x k k', scope.names.lookup x = some k → (x, k') ∈ scope.names → k' = k := fun x k k' e m => by
    obtain ⟨i, hi⟩ := List.getElem?_of_mem m
    have := lookup_at cm.nodup hi
    rw [e] at this; cases this; rfl
  exact ⟨hk, ok.globals, ok.builtins, cm.nodup, cm.plain, fun x e => lookup_relabel e (by decide), fun x e => lookup_relabel e (by decide), fun x e => lookup_relabel_free e, fun x e => lookup_relabel e (by decide), fun x e => by
    rcases e with e | e
    · exact lookup_cellsFrom (mem_of_lookup e)
    · obtain ⟨c, hc⟩ := ok.has x (cm.outer _ (mem_of_lookup e) rfl)
      exact ⟨c, (cellsFrom_off (fun m => nomatch (off x _ _ e m))).trans (closOf_at cm.nodup (mem_of_lookup e) hc)⟩⟩
theorem Frm.beginC {scope : Scope} (p : Pre C nm env X ρ s) (ok : EnvOk nm env) (k : Kp s s₃) (cm : CmOk nm nm') (rc : RhoC nm ρ nm' ρ') (hsc : scope.names = nm') {W : List Addr} (hW : ∀ b ∈ W, s.heap.get? b = none) (hWl : ∀ b ∈ W, ∃ o, s₃.heap.get? b = some o)
    {h' : Heap} (hk : ∀ b o, s₃.heap.get? b = some o → h'.get? b = some o) (hns : h'.Ns s₃.heap.objs.size (fun _ => none))
    (hcl : ∀ x c, (x, NameKind.cell) ∈ scope.names → (scope.names.map (·.1)).Nodup → (envC scope env s₃.heap.objs.size).cells.lookup x = some c → h'.IsCell c none) :
    ∃ M, (∀ b ∈ M, s₃.heap.get? b = none) ∧ s₃.heap.objs.size ∈ M ∧ Frm C nm' (envC scope env s₃.heap.objs.size) s [] (W ++ X) M (fun _ => []) ρ' { s₃ with heap := h' } := by
  subst hsc
  have uniq : ∀ x k k', scope.names.lookup x = some k → (x, k') ∈ scope.names → k' = k := fun x k k' e m => by
    obtain ⟨i, hi⟩ := List.getElem?_of_mem m
    have := lookup_at cm.nodup hi
    rw [e] at this; cases this; rfl
  have kk : Kp s { s₃ with heap := h' } := kTrans k (kHeap (t := s₃.toks) hk (Nat.le_refl _))
  have fresh : ∀ b, s₃.heap.objs.size ≤ b → s₃.heap.get? b = none := fun b hb => by
    cases e : s₃.heap.get? b with
    | none => rfl
    | some o => exact absurd (Heap.lt_size e) (Nat.not_lt.mpr hb)
  have hfree : ∀ x, scope.names.lookup x = some .free → ∃ c, env.cells.lookup x = some c ∧ (envC scope env s₃.heap.objs.size).cells.lookup x = some c ∧ ∃ o, s.heap.get? c = some o := fun x e => by
    have ho := cm.outer _ (mem_of_lookup e) rfl
    obtain ⟨c, hc⟩ := ok.has x ho
    exact ⟨c, hc, (cellsFrom_off (fun m => nomatch (uniq x _ _ e m))).trans (closOf_at cm.nodup (mem_of_lookup e) hc), p.lc x c ho hc⟩
  have below : ∀ x c, (x, NameKind.cell) ∉ scope.names → (envC scope env s₃.heap.objs.size).cells.lookup x = some c → ∃ o, s.heap.get? c = some o := fun x c hx e => by
    rw [show (envC scope env s₃.heap.objs.size).cells.lookup x = _ from cellsFrom_off hx] at e
    rcases closOf_mem e with h | ⟨hm, _⟩
    · cases h
    · obtain ⟨i, hi⟩ := List.getElem?_of_mem hm
      obtain ⟨c', _, e', r⟩ := hfree x (lookup_at cm.nodup hi)
      rw [show (envC scope env s₃.heap.objs.size).cells.lookup x = _ from cellsFrom_off hx] at e'
      rw [e] at e'; cases e'; exact r
  let M := s₃.heap.objs.size :: scope.names.filterMap (fun p => if p.2 = .cell then (envC scope env s₃.heap.objs.size).cells.lookup p.1 else none)
  have hMge : ∀ b ∈ M, s₃.heap.objs.size ≤ b := fun b m => by
    rcases List.mem_cons.mp m with rfl | m
    · exact Nat.le_refl _
    · obtain ⟨q, hq, e⟩ := List.mem_filterMap.mp m
      split at e
      · rename_i h
        have hq' : (q.1, NameKind.cell) ∈ scope.names := by rw [← h]; exact hq
        have := cellsFrom_ge hq' cm.nodup e
        omega
      · cases e
  have hMnew : ∀ b ∈ M, s₃.heap.get? b = none := fun b m => fresh b (hMge b m)
  have hlt : ∀ c o, s.heap.get? c = some o → c ∉ M := fun c o e m => by
    have := hMnew c m; rw [kGet k c o e] at this; cases this
  refine ⟨M, hMnew, List.mem_cons_self, { kp := .of kk, gr := ⟨fun b o e => kGet kk b o (p.gr.old b o e), fun a m => ?_, Nat.le_trans p.gr.toks kk.2⟩, new := fun b m _ => ?_, off := fun b m => ?_, dis := fun b m hX => ?_, loc := List.mem_cons_self, ns := ⟨_, hns⟩, cel := fun y hy => ?_, one := fun y z c hy hc hc' => ?_, fre := fun y c hy hc => ?_, vars := fun i k d e => ?_, ownM := fun _ _ m => (by cases m), ownL := fun _ m => (by cases m), ownC := fun _ _ _ _ _ m => (by cases m), apart := fun _ _ _ _ m => (by cases m), nodup := fun _ => List.nodup_nil }⟩
  · rcases List.mem_append.mp m with m | m
    · rcases List.mem_cons.mp m with rfl | m
      · obtain ⟨o, _, _, e, _⟩ := hns; exact ⟨o, e⟩
      · obtain ⟨q, hq, e⟩ := List.mem_filterMap.mp m
        split at e
        · rename_i h
          obtain ⟨o, e', _⟩ := hcl q.1 a (by rw [← h]; exact hq) cm.nodup e
          exact ⟨o, e'⟩
        · cases e
    · rcases List.mem_append.mp m with m | m
      · obtain ⟨o, e⟩ := hWl a m; exact ⟨o, hk a o e⟩
      · obtain ⟨o, e⟩ := p.gr.live a m; exact ⟨o, kGet kk a o e⟩
  · cases e : s.heap.get? b with
    | none => rfl
    | some o => exact absurd m (hlt b o e)
  · cases e : C.h₀.get? b with
    | none => rfl
    | some o => exact absurd m (hlt b o (p.gr.old b o e))
  · rcases List.mem_append.mp hX with hX | hX
    · obtain ⟨o, e⟩ := hWl b hX; rw [hMnew b m] at e; cases e
    · obtain ⟨o, e⟩ := p.gr.live b hX; exact hlt b o e m
  · obtain ⟨c, hc⟩ := lookup_cellsFrom (n := s₃.heap.objs.size + 1) (acc := closOf env scope.names []) (mem_of_lookup hy)
    refine ⟨c, none, hc, hcl y c (mem_of_lookup hy) cm.nodup hc, List.mem_cons_of_mem _ (List.mem_filterMap.mpr ⟨(y, .cell), mem_of_lookup hy, ?_⟩)⟩
    rw [if_pos rfl]; exact hc
  · by_cases hz : (z, NameKind.cell) ∈ scope.names
    · exact cellsFrom_inj cm.nodup (mem_of_lookup hy) hz hc hc'
    · obtain ⟨o, e⟩ := below z c hz hc'
      have h1 := cellsFrom_ge (mem_of_lookup hy) cm.nodup hc
      have h2 := Heap.lt_size (kGet k c o e)
      exact absurd h2 (Nat.not_lt.mpr (Nat.le_of_succ_le h1))
  · obtain ⟨c', _, e', o, eo⟩ := hfree y hy
    have hc2 : (envC scope env s₃.heap.objs.size).cells.lookup y = some c := hc
    rw [e'] at hc2; cases hc2
    exact ⟨hlt c o eo, o, kGet kk c o eo⟩
  · obtain ⟨rfl, x, j, kd, h1, h2, h3, h4⟩ := rc.at_ i k d e
    obtain ⟨y, kd', v, T, a1, a2, a3⟩ := p.vars j 0 d h4
    rw [h2] at a1; cases a1
    have hx := lookup_at cm.nodup h1
    obtain ⟨c', q1, q2, _⟩ := hfree x hx
    refine ⟨x, .free, v, h1, ?_, .sh (a3.zero.1.keep ⟨fun b o _ e => kGet kk b o e, fun b o e m => ?_⟩)⟩
    · have cellv : ∀ {c}, env.cells.lookup x = some c → s.heap.IsCell c (some v) → VarAt (envC scope env s₃.heap.objs.size) h' x .free v := fun hc hcv => by
        rw [q1] at hc; cases hc
        exact .free q2 (hcv.keeps (kGet kk))
      rcases h3 with rfl | rfl
      · cases a2 with | cell u v => exact cellv u v
      · cases a2 with | free u v => exact cellv u v
    · rcases List.mem_append.mp m with m | m
      · exact absurd m (hlt b o e)
      · rcases List.mem_append.mp m with m | m
        · rw [hW b m] at e; cases e
        · exact m
end

/-- the tests of a comprehension -/
inductive Tsts (C : Cx) (n : Nat) (nm : Names) (ρ : Rho) : List Expr → Bool → Prop
  | nil : Tsts C n nm ρ [] true
  | one {c : Expr} {b : Bool} : Tst C n nm ρ c b → Tsts C n nm ρ [c] b
theorem Tsts.run {C : Cx} {n : Nat} {nm : Names} {ρ : Rho} {ifs : List Expr} {b : Bool} (h : Tsts C n nm ρ ifs b) {A : Around} {env : Env} {X : List Addr} {s : Shared} (o : Ok n A) (ok : EnvOk nm env) (p : Pre C nm env X ρ s) :
    Wp C A (forIn ifs true fun c r => if r = true then do let ok ← isTrue c env (eval c env); pure (ForInStep.yield ok) else pure (ForInStep.yield r)) (GivesB b s) s := by
  cases h with
  | nil => exact wpAny_tests_nil ⟨kRefl _, rfl⟩
  | one h => exact wpAny_tests_one (h.go A env X s o ok p)

/-- the turns of a comprehension -/
inductive CLoop (C : Cx) (n : Nat) (nm : Names) (ifs : List Expr) (bind : Nat → Rho → Rho) (N : Nat) (EM : Rho → List D → Prop) (ρ : Rho) : Nat → List D → Prop
  | done : CLoop C n nm ifs bind N EM ρ N []
  | turn {i : Nat} {ds ds' : List D} : i < N → Tsts C n nm (bind i ρ) ifs true → EM (bind i ρ) ds → CLoop C n nm ifs bind N EM ρ (i + 1) ds' → CLoop C n nm ifs bind N EM ρ i (ds ++ ds')
  | skip {i : Nat} {ds' : List D} : i < N → Tsts C n nm (bind i ρ) ifs false → CLoop C n nm ifs bind N EM ρ (i + 1) ds' → CLoop C n nm ifs bind N EM ρ i ds'
def Acc (C : Cx) (X : List Addr) (l : Addr) (ds : List D) (s : Shared) : Prop := ∃ vs m, s.heap.get? l = some (listO vs m) ∧ RepL C X s.heap vs ds
def EmitOk (C : Cx) (A : Around) (nm : Names) (env : Env) (s : Shared) (l : Addr) (ρ : Rho) (em : Sem Unit) (ds : List D) : Prop :=
  ∀ Xc M T s' outs, Frm C nm env s [] Xc M T ρ s' → l ∈ Xc → outs.length + ds.length ≤ 100000 → Acc C (M ++ Xc) l outs s' →
    Wp C A em (fun _ s'' => ∃ T', Frm C nm env s [] Xc M T' ρ s'' ∧ Acc C (M ++ Xc) l (outs ++ ds) s'' ∧ KpB (l :: M) s' s'') s'
theorem KpB.mono {Mv Mv' : List Addr} {s s' : Shared} (k : KpB Mv s s') (h : ∀ b ∈ Mv, b ∈ Mv') : KpB Mv' s s' := ⟨k.1, k.2.1, fun b o hb e => k.2.2 b o (fun m => hb (h b m)) e⟩
theorem Acc.keep {C : Cx} {X X' : List Addr} {l : Addr} {ds : List D} {s s' : Shared} (a : Acc C X l ds s) (k : Keep X X' s.heap s'.heap) (hl : ∀ o, s.heap.get? l = some o → s'.heap.get? l = some o) : Acc C X' l ds s' :=
  let ⟨vs, m, e, r⟩ := a; ⟨vs, m, hl _ e, r.keep k⟩

theorem cloop_core {C : Cx} {n : Nat} {A : Around} {nm : Names} {env : Env} {tgt iter : Expr} {ifs : List Expr} {elt : Expr} {gens : List Comprehension} {scope : Scope} {pos : Pos} {d : Nat} {I l : Addr} {wr Xd M : List Addr} {N : Nat} {bind : Nat → Rho → Rho} {Ph : Nat → List Addr → Heap → Prop} {EM : Rho → List D → Prop} {ρ : Rho} {em : Sem Unit} {s s' : Shared} {T : Nat → List Addr} {i : Nat} {ds outs : List D} {R : Result → Shared → Prop}
    (hturn : compTurn (.ListComp elt gens scope pos) d (.ref I) (.ref l) env = (do
      standAt iter.pos
      match ← pyNext (.ref I) with
      | none => pure (.done .next)
      | some v =>
        letOwnedTupleGo tgt (.ref I) v
        PySem.assign tgt env v
        let mut ok := true
        for c in ifs do
          if ok then ok ← isTrue c env (eval c env)
        if ok then em
        again (.compLoop (.ListComp elt gens scope pos) d (.ref I) (.ref l) env)))
    (W : Trn C A nm tgt I wr N bind Ph) (ok : EnvOk nm env) (oo : Ok n A) (lb : ∀ i, i < N → Less ρ (bind i ρ)) (hem : ∀ ρ₁ ds, EM ρ₁ ds → EmitOk C A nm env s l ρ₁ em ds) (apt : Apt C nm env s wr (wr ++ Xd)) (hXd : ∀ b ∈ Xd, ∃ o, s'.heap.get? b = some o) (hwd : ∀ b ∈ wr, b ∉ Xd) (hl : l ∈ Xd)
    (run : CLoop C n nm ifs bind N EM ρ i ds) (hi : i ≤ N) (f : Frm C nm env s [] (wr ++ Xd) M T ρ s') (ph : Ph i (M ++ (wr ++ Xd)) s'.heap) (acc : Acc C (M ++ (wr ++ Xd)) l outs s') (hz : outs.length + ds.length ≤ 100000)
    (hR : ∀ s'' T', Frm C nm env s [] Xd M T' ρ s'' → Acc C (M ++ Xd) l (outs ++ ds) s'' → KpB (wr ++ l :: M) s' s'' → R (.ok .next) s'') :
    codeAny (model C.prog C.w) A (.compLoop (.ListComp elt gens scope pos) d (.ref I) (.ref l) env) R s' := by
  have hlw : l ∉ wr := fun m => hwd l m hl
  have hlX : l ∈ wr ++ Xd := List.mem_append.mpr (.inr hl)
  refine codeAny_loop rfl (fun k st => ∃ j ds' outs' T', k = N + 1 - j ∧ j ≤ N ∧ CLoop C n nm ifs bind N EM ρ j ds' ∧ outs' ++ ds' = outs ++ ds ∧ Frm C nm env s [] (wr ++ Xd) M T' ρ st ∧ Ph j (M ++ (wr ++ Xd)) st.heap ∧ Acc C (M ++ (wr ++ Xd)) l outs' st ∧ KpB (wr ++ l :: M) s' st) ?_ (N + 1 - i)
    ⟨i, ds, outs, T, rfl, hi, run, rfl, f, ph, acc, .refl _⟩
  rintro _ st ⟨j, ds', outs', T', rfl, hj, rn, hcat, f', ph', acc', kst⟩
  show wpAny _ A ((compTurn (.ListComp elt gens scope pos) d (.ref I) (.ref l) env).onRaise (fun x => do noteFrame x env; theTreesLotGoes x)) _ _ st
  refine wpAny_noted ?_
  rw [hturn]
  have hlen : outs'.length + ds'.length = outs.length + ds.length := by rw [← List.length_append, hcat, List.length_append]
  have head : ∀ {Q : Fin → Shared → Prop}, j < N → (∀ s₂ T₂, Frm C nm env s [] (wr ++ Xd) M T₂ (bind j ρ) s₂ → Ph (j + 1) (M ++ (wr ++ Xd)) s₂.heap → KpB (wr ++ M) st s₂ →
      wpAny (model C.prog C.w) A (forIn ifs true fun c r => if r = true then do let ok ← isTrue c env (eval c env); pure (ForInStep.yield ok) else pure (ForInStep.yield r)) (fun b s₃ => wpAny (model C.prog C.w) A (if b = true then em >>= fun _ => again (.compLoop (.ListComp elt gens scope pos) d (.ref I) (.ref l) env) else again (.compLoop (.ListComp elt gens scope pos) d (.ref I) (.ref l) env)) Q (notedBy (model C.prog C.w) A env fun e s' => R (.error e) s') s₃) (notedBy (model C.prog C.w) A env fun e s' => R (.error e) s') s₂) →
      wpAny (model C.prog C.w) A (do
      standAt iter.pos
      match ← pyNext (.ref I) with
      | none => pure (.done .next)
      | some v =>
        letOwnedTupleGo tgt (.ref I) v
        PySem.assign tgt env v
        let mut ok := true
        for c in ifs do
          if ok then ok ← isTrue c env (eval c env)
        if ok then em
        again (.compLoop (.ListComp elt gens scope pos) d (.ref I) (.ref l) env)) Q (notedBy (model C.prog C.w) A env fun e s' => R (.error e) s') st := fun {Q} hlt h => by
    refine wpAny_bind (wpAny_standAt (wpAny_bind (wpAny_mono (W.turn env s [] (wr ++ Xd) M T' ρ st j _ ok f' apt hlt ph' h) (fun r s₁ h₁ => ?_) fun _ _ x => x.elim)))
    obtain ⟨v, rfl, h₁⟩ := h₁
    refine wpAny_bind (wpAny_mono h₁ (fun _ s₂ h₂ => wpAny_bind (wpAny_mono h₂ (fun _ s₃ h₃ => ?_) fun _ _ x => x.elim)) fun _ _ x => x.elim)
    exact wpAny_bind h₃
  have stayK : ∀ {s₂ s₃ : Shared} {T₂ : Nat → List Addr} {ρ₂ : Rho}, Frm C nm env s [] (wr ++ Xd) M T₂ ρ₂ s₂ → Ph (j + 1) (M ++ (wr ++ Xd)) s₂.heap → KpB (l :: M) s₂ s₃ → Ph (j + 1) (M ++ (wr ++ Xd)) s₃.heap := fun {s₂ s₃ T₂ ρ₂} f₂ ph₂ k₂ =>
    W.stay _ _ _ _ _ ph₂ ⟨fun b o hb e => k₂.get b o (fun m => by
        rcases List.mem_cons.mp m with rfl | m
        · exact hb (List.mem_append.mpr (.inr hlX))
        · exact hb (List.mem_append.mpr (.inl m))) e, fun _ _ _ m => m⟩ (fun b hb o e => k₂.get b o (fun m => by
        rcases List.mem_cons.mp m with rfl | m
        · exact hlw hb
        · exact f₂.dis b m (apt.sub b hb)) e) fun b hb => by simp [hb]
  cases rn with
  | done =>
    refine wpAny_bind (wpAny_standAt (wpAny_bind (wpAny_mono (W.done _ _ (fun r s₁ => r = none ∧ Touch wr st s₁) ph' fun s₁ t => ⟨rfl, t⟩) (fun r s₁ h => ?_) fun _ _ x => x.elim)))
    obtain ⟨rfl, t⟩ := h
    refine wpAny_pure (hR s₁ T' (f'.touchY ok t apt.sub apt.new apt.off (fun b hb => List.mem_append.mpr (.inr hb)) (fun b hb hx => absurd hx (hwd b hb)) apt.fre) ?_ ?_)
    · rw [← hcat, List.append_nil]
      refine acc'.keep ⟨fun b o hb e => t.but b o (fun m => hb (by simp [m])) e, fun b o _ m => ?_⟩ fun o e => t.but l o hlw e
      rcases List.mem_append.mp m with m | m <;> simp [m]
    · exact kst.trans ((t.kpB (M := [])).mono fun b hb => by
        rw [List.append_nil] at hb
        exact List.mem_append.mpr (.inl hb))
  | @turn _ ds₁ ds₂ hlt ts em₁ rest =>
    refine head hlt fun s₂ T₂ f₂ ph₂ k₂ => wpAny_mono (ts.run oo ok f₂.pre) (fun b s₃ g => ?_) fun _ _ x => x.elim
    obtain ⟨g1, rfl⟩ := g
    simp only [if_true]
    have f₃ := f₂.keeps g1
    have ph₃ := stayK f₂ ph₂ (KpB.of g1)
    have acc₃ : Acc C (M ++ (wr ++ Xd)) l outs' s₃ := (acc'.keep (s' := s₂) ⟨fun b o hb e => k₂.get b o (fun m => hb (by rcases List.mem_append.mp m with m | m <;> simp [m])) e, fun _ _ _ m => m⟩ fun o e => k₂.get l o (fun m => by
      rcases List.mem_append.mp m with m | m
      · exact hlw m
      · exact f₂.dis l m hlX) e).keep (.all (kGet g1)) fun o e => kGet g1 l o e
    rw [List.length_append] at hlen
    refine wpAny_bind (wpAny_mono (hem _ _ em₁ (wr ++ Xd) M T₂ s₃ outs' f₃ hlX (by omega) acc₃) (fun _ s₄ h₄ => ?_) fun _ _ x => x.elim)
    obtain ⟨T₄, f₄, acc₄, k₄⟩ := h₄
    refine wpAny_pure ⟨rfl, N + 1 - (j + 1), by omega, j + 1, ds₂, outs' ++ ds₁, T₄, rfl, hlt, rest, by rw [List.append_assoc, hcat], f₄.less (lb j hlt), stayK f₃ ph₃ k₄, acc₄, ?_⟩
    exact (kst.trans (k₂.mono fun b hb => by rcases List.mem_append.mp hb with m | m <;> simp [m])).trans ((KpB.of g1).trans (k₄.mono fun b hb => by rcases List.mem_cons.mp hb with rfl | m <;> simp [*]))
  | skip hlt ts rest =>
    refine head hlt fun s₂ T₂ f₂ ph₂ k₂ => wpAny_mono (ts.run oo ok f₂.pre) (fun b s₃ g => ?_) fun _ _ x => x.elim
    obtain ⟨g1, rfl⟩ := g
    simp only [Bool.false_eq_true, if_false]
    refine wpAny_pure ⟨rfl, N + 1 - (j + 1), by omega, j + 1, ds', outs', T₂, rfl, hlt, rest, hcat, (f₂.keeps g1).less (lb j hlt), stayK f₂ ph₂ (KpB.of g1), ?_, ?_⟩
    · exact (acc'.keep (s' := s₂) ⟨fun b o hb e => k₂.get b o (fun m => hb (by rcases List.mem_append.mp m with m | m <;> simp [m])) e, fun _ _ _ m => m⟩ fun o e => k₂.get l o (fun m => by
        rcases List.mem_append.mp m with m | m
        · exact hlw m
        · exact f₂.dis l m hlX) e).keep (.all (kGet g1)) fun o e => kGet g1 l o e
    · exact (kst.trans (k₂.mono fun b hb => by rcases List.mem_append.mp hb with m | m <;> simp [m])).trans (.of g1)
end Mine
end
section
open PySem PySem.W PyProof.Rows PySem.Calls PySem.Spec
set_option maxRecDepth 100000
namespace Mine

/-- what the list that is being made must be off -/
structure NewL (C : Cx) (nm : Names) (env : Env) (s : Shared) (l : Addr) : Prop where
  new : s.heap.get? l = none
  off : C.h₀.get? l = none
  fre : ∀ x c, nm.lookup x = some .free → env.cells.lookup x = some c → c ≠ l
/-- what a turn gives: one value -/
def EM1 (C : Cx) (n : Nat) (nm : Names) (elt : Expr) (ρ : Rho) (ds : List D) : Prop := ∃ d, ds = [d] ∧ Ev C n nm ρ elt 0 d
def em1 (elt : Expr) (env : Env) (l : Addr) : Sem Unit := do let _ ← call (.builtin "list.append") [.ref l, ← eval elt env]
theorem emit1 {C : Cx} {n : Nat} {nm : Names} {elt : Expr} (env : Env) (A : Around) (l : Addr) (s : Shared) (oo : Ok n A) (ok : EnvOk nm env) (nl : NewL C nm env s l) (ρ : Rho) (ds : List D) (h : EM1 C n nm elt ρ ds) : EmitOk C A nm env s l ρ (em1 elt env l) ds := by
  obtain ⟨d, rfl, h⟩ := h
  intro Xc M T s' outs f hl hz acc
  unfold em1
  refine wpAny_bind (h.then0 oo ok f.pre fun v s₁ k p r => ?_)
  obtain ⟨vs, m, e, rl⟩ := acc
  have e1 := kGet k _ _ e
  have f1 := f.keeps k
  refine wpAny_bind (wpAny_list_append_plain ⟨m, e1⟩ (fun h' pl sb => wpAny_pure ?_) (by simp only [sizeLine, List.size_toArray]; rw [rl.length]; omega))
  obtain ⟨m', e2⟩ := pl
  have t : Touch [l] s₁ { s₁ with heap := h' } := .of (t := s₁.toks) (Nat.le_refl _) fun b o hb e => (sb.2 b (by simpa using hb)).trans e
  have K := t.keep (X := M ++ Xc) fun b hb => by simp at hb; subst hb; exact List.mem_append.mpr (.inr hl)
  have e3 : h'.get? l = some (listO (vs ++ [v]) m') := by rw [e2]; simp [listO]
  refine ⟨T, f1.touchY ok t (fun b hb => by simp at hb; subst hb; exact hl) (fun b hb => by simp at hb; subst hb; exact nl.new) (fun b hb => by simp at hb; subst hb; exact nl.off) (fun _ m => m) (fun b hb _ => by simp at hb; subst hb; exact ⟨_, e3⟩) (fun x c a b hb => nl.fre x c a b (by simpa using hb)), ⟨_, m', e3, ?_⟩, ?_⟩
  · exact ((rl.keep (.all (kGet k))).keep K).append (.cons (r.keep K) .nil)
  · exact (KpB.of k).trans ((t.kpB (M := M)).mono fun b hb => by simpa using hb)

section
variable {C : Cx} {n : Nat} {nm nm' : Names} {ρ ρ' : Rho}
theorem comp_core {A : Around} {env : Env} {X : List Addr} {s : Shared} {elt tgt iter : Expr} {ifs : List Expr} {rest : List Comprehension} {scope : Scope} {pos pos' : Pos} {use : Option (Value → Sem Unit)} {Q : Value → Shared → Prop} {N : Nat} {bind : Nat → Rho → Rho} {EM : Rho → List D → Prop} {em : Env → Addr → Sem Unit} {ds : List D}
    (hturn : ∀ env I l, compTurn (.ListComp elt (⟨tgt, iter, ifs, 0⟩ :: rest) scope pos) 0 (.ref I) (.ref l) env = (do
      standAt iter.pos
      match ← pyNext (.ref I) with
      | none => pure (.done .next)
      | some v =>
        letOwnedTupleGo tgt (.ref I) v
        PySem.assign tgt env v
        let mut ok := true
        for c in ifs do
          if ok then ok ← isTrue c env (eval c env)
        if ok then em env l
        again (.compLoop (.ListComp elt (⟨tgt, iter, ifs, 0⟩ :: rest) scope pos) 0 (.ref I) (.ref l) env)))
    (hem : ∀ (env : Env) (A : Around) (l : Addr) (s : Shared), Ok n A → EnvOk nm' env → NewL C nm' env s l → ∀ ρ₁ ds, EM ρ₁ ds → EmitOk C A nm' env s l ρ₁ (em env l) ds)
    (oo : Ok n A) (ok : EnvOk nm env) (p : Pre C nm env X ρ s) (cm : CmOk nm nm') (rc : RhoC nm ρ nm' ρ') (hsc : scope.names = nm') (hkind : scope.kind = .function) (src : Src C n nm ρ iter nm' tgt N bind) (lb : ∀ i, i < N → Less ρ' (bind i ρ'))
    (run : CLoop C n nm' ifs bind N EM ρ' 0 ds) (hz : ds.length ≤ 100000) (hs : ∀ x, foldedSetIterable iter env x = pure x)
    (hQ : ∀ s' l Cc m vs, Kp s s' → s.heap.get? l = none → s.heap.get? Cc = none → l ≠ Cc → s'.heap.get? l = some (listO vs m) → RepL C (l :: Cc :: X) s'.heap vs ds → (∃ mm, s'.heap.Ns Cc mm) → compPost (model C.prog C.w) A NoE use Q (.ref l) Cc (.ok .next) s') :
    Wp C A (comprehension (.ListComp elt (⟨tgt, iter, ifs, 0⟩ :: rest) scope pos) scope env pos' (newList []) false (eval iter env) use) Q s := by
  have hout : ∀ q ∈ scope.names, q.2 = .free → ∃ c, env.cells.lookup q.1 = some c := fun q hq e => ok.has q.1 (cm.outer q (hsc ▸ hq) e)
  refine wpAny_comprehension_free rfl hs (closureFor_eq hout) hkind (fun q hq e => ?_) (wp_mono (src.go A env X s oo ok p) fun xv s₁ h₁ => wp_mono h₁ fun it s₂ h => ?_)
  · obtain ⟨i, hi⟩ := List.getElem?_of_mem hq
    have := lookup_at (by rw [hsc]; exact cm.nodup) (x := q.1) (k := q.2) hi
    rw [this, e]
  obtain ⟨k, I, wr, Ph, rfl, hn, W, ph⟩ := h
  refine wpAny_newObj_type ?_
  have k3 : Kp s₂ { s₂ with heap := s₂.heap.push (listO [] 0) } := kPush (t := s₂.toks) _ (Nat.le_refl _)
  have ks := kTrans k k3
  have hl2 : s₂.heap.get? s₂.heap.objs.size = none := by
    cases e : s₂.heap.get? s₂.heap.objs.size with
    | none => rfl
    | some o => exact absurd (Heap.lt_size e) (Nat.lt_irrefl _)
  have hl : s.heap.get? s₂.heap.objs.size = none := by
    cases e : s.heap.get? s₂.heap.objs.size with
    | none => rfl
    | some o => have := kGet k _ _ e; rw [hl2] at this; cases this
  have hlnew : (s₂.heap.push (listO [] 0)).get? s₂.heap.objs.size = some (listO [] 0) := Heap.get?_push_size _ rfl
  generalize hl' : s₂.heap.objs.size = l at hl2 hl hlnew ⊢
  refine newEnv_comp (env := env) fun h' hk hns hcl => ?_
  have hlw : l ∉ wr := fun m => by obtain ⟨o, e⟩ := W.live _ _ _ ph l m; rw [hl2] at e; cases e
  have hwl : ∀ b ∈ wr ++ [l], ∃ o, (s₂.heap.push (listO [] 0)).get? b = some o := fun b hb => by
    rcases List.mem_append.mp hb with m | m
    · obtain ⟨o, e⟩ := W.live _ _ _ ph b m; exact ⟨o, kGet k3 b o e⟩
    · simp at m; subst m; exact ⟨_, hlnew⟩
  have hwn : ∀ b ∈ wr ++ [l], s.heap.get? b = none := fun b hb => by
    rcases List.mem_append.mp hb with m | m
    · exact hn b m
    · simp at m; subst m; exact hl
  obtain ⟨M, hMn, hLM, f⟩ := Frm.beginC (s₃ := { s₂ with heap := s₂.heap.push (listO [] 0) }) p ok ks cm rc hsc hwn hwl hk hns hcl
  have ok' := envC_ok ok cm hsc hkind (s₂.heap.push (listO [] 0)).objs.size
  rw [List.append_assoc] at f
  have hoff : ∀ b, s.heap.get? b = none → C.h₀.get? b = none := fun b hb => by
    cases e : C.h₀.get? b with
    | none => rfl
    | some o => have := p.gr.old b o e; rw [hb] at this; cases this
  have hfre : ∀ b, s.heap.get? b = none → ∀ x c, nm'.lookup x = some .free → (envC scope env (s₂.heap.push (listO [] 0)).objs.size).cells.lookup x = some c → c ≠ b := fun b hb x c hx hc e => by
    have hm := mem_of_lookup hx
    obtain ⟨c', hc'⟩ := ok.has x (cm.outer _ hm rfl)
    obtain ⟨o, eo⟩ := p.lc x c' (cm.outer _ hm rfl) hc'
    have h1 : (envC scope env (s₂.heap.push (listO [] 0)).objs.size).cells.lookup x = some c' := by
      show (cellsFrom _ scope.names (closOf env scope.names [])).lookup x = _
      rw [hsc]
      refine (cellsFrom_off fun m => ?_).trans (closOf_at cm.nodup hm hc')
      obtain ⟨i, hi⟩ := List.getElem?_of_mem m
      have := lookup_at cm.nodup hi
      rw [hx] at this; cases this
    rw [h1] at hc; cases hc
    rw [e, hb] at eo; cases eo
  have apt : Apt C nm' (envC scope env (s₂.heap.push (listO [] 0)).objs.size) s wr (wr ++ ([l] ++ X)) := ⟨fun b hb => List.mem_append.mpr (.inl hb), hn, fun b hb => hoff b (hn b hb), fun x c hx hc m => hfre c (hn c m) x c hx hc rfl⟩
  have nl : NewL C nm' (envC scope env (s₂.heap.push (listO [] 0)).objs.size) s l := ⟨hl, hoff l hl, hfre l hl⟩
  have ph2 : Ph 0 (M ++ (wr ++ ([l] ++ X))) h' := W.stay _ _ _ _ _ ph ⟨fun b o _ e => hk b o (kGet k3 b o e), fun b o e m => by
      rcases List.mem_append.mp m with m | m
      · have := kGet k3 b o e; rw [hMn b m] at this; cases this
      · rcases List.mem_append.mp m with m | m
        · exact List.mem_append.mpr (.inl m)
        · rcases List.mem_append.mp m with m | m
          · simp at m; subst m; rw [hl2] at e; cases e
          · exact List.mem_append.mpr (.inr m)⟩ (fun b _ o e => hk b o (kGet k3 b o e)) fun b hb => List.mem_append.mpr (.inr (List.mem_append.mpr (.inl hb)))
  have loop : codeAny (model C.prog C.w) A (.compLoop (.ListComp elt (⟨tgt, iter, ifs, 0⟩ :: rest) scope pos) 0 (.ref I) (.ref l) (envC scope env (s₂.heap.push (listO [] 0)).objs.size)) (compPost (model C.prog C.w) A NoE use Q (.ref l) (s₂.heap.push (listO [] 0)).objs.size) { s₂ with heap := h' } := by
    refine cloop_core (outs := []) (hturn _ _ _) W ok' oo lb (hem _ A l s oo ok' nl) apt (fun b hb => ?_) (fun b hb m => ?_) (List.mem_append.mpr (.inl (by simp))) run (Nat.zero_le _) f ph2 ⟨[], 0, hk _ _ hlnew, .nil⟩ (by simpa using hz) fun s'' T' f'' acc _ => ?_
    · exact f.gr.live b (List.mem_append.mpr (.inr (List.mem_append.mpr (.inr hb))))
    · rcases List.mem_append.mp m with m | m
      · simp at m; subst m; exact hlw hb
      · obtain ⟨o, e⟩ := p.gr.live b m; rw [hn b hb] at e; cases e
    · obtain ⟨vs, m, e, r⟩ := acc
      refine hQ s'' l _ m vs f''.kp.to hl ?_ ?_ e (r.keep ⟨fun _ _ _ e => e, fun b _ _ m => ?_⟩) f''.ns
      · exact f''.new _ f''.loc (by simp)
      · intro e'
        have h1 := hMn _ hLM
        rw [← e', hlnew] at h1; cases h1
      · rcases List.mem_cons.mp m with rfl | m
        · exact List.mem_append.mpr (.inr (List.mem_append.mpr (.inl (by simp))))
        · rcases List.mem_cons.mp m with rfl | m
          · exact List.mem_append.mpr (.inl f''.loc)
          · exact List.mem_append.mpr (.inr (List.mem_append.mpr (.inr m)))
  refine codeAny_compStart_list loop (wpAny_mono (W.self 0 _ { s₂ with heap := h' } (fun it' s' => it' = .ref I ∧ s' = { s₂ with heap := h' }) ph2 ⟨rfl, rfl⟩) (fun it' s' h => ?_) fun _ _ x => x.elim)
  obtain ⟨rfl, rfl⟩ := h
  exact loop

/-- a comprehension with one for -/
structure Comp1 (C : Cx) (n : Nat) (nm : Names) (ρ : Rho) (elt tgt iter : Expr) (ifs : List Expr) (nm' : Names) (ds : List D) : Prop where
  h : ∃ ρ' N bind, CmOk nm nm' ∧ RhoC nm ρ nm' ρ' ∧ Src C n nm ρ iter nm' tgt N bind ∧ (∀ i, i < N → Less ρ' (bind i ρ')) ∧ CLoop C n nm' ifs bind N (EM1 C n nm' elt) ρ' 0 ds ∧ ds.length ≤ 100000 ∧ (∀ env x, foldedSetIterable iter env x = pure x)
abbrev fnScope (nm : Names) : Scope := { kind := .function, names := nm, isGenerator := false, isCoroutine := false }
theorem comp1_run {A : Around} {env : Env} {X : List Addr} {s : Shared} {elt tgt iter : Expr} {ifs : List Expr} {pos pos' : Pos} {use : Option (Value → Sem Unit)} {Q : Value → Shared → Prop} {ds : List D} (c : Comp1 C n nm ρ elt tgt iter ifs nm' ds) (oo : Ok n A) (ok : EnvOk nm env) (p : Pre C nm env X ρ s)
    (hQ : ∀ s' l Cc m vs, Kp s s' → s.heap.get? l = none → s.heap.get? Cc = none → l ≠ Cc → s'.heap.get? l = some (listO vs m) → RepL C (l :: Cc :: X) s'.heap vs ds → (∃ mm, s'.heap.Ns Cc mm) → compPost (model C.prog C.w) A NoE use Q (.ref l) Cc (.ok .next) s') :
    Wp C A (comprehension (.ListComp elt [⟨tgt, iter, ifs, 0⟩] (fnScope nm') pos) (fnScope nm') env pos' (newList []) false (eval iter env) use) Q s := by
  obtain ⟨ρ', N, bind, cm, rc, src, lb, run, hz, hs⟩ := c.h
  exact comp_core (em := em1 elt) (fun env I l => compTurn_list elt tgt iter ifs _ pos (.ref I) (.ref l) env) emit1 oo ok p cm rc rfl rfl src lb run hz (hs env) hQ
theorem Frm.compDone {s s' : Shared} {X : List Addr} {l Cc : Addr} {m : Nat} {vs : List Value} {ds : List D} (k : Kp s s') (hl : s.heap.get? l = none) (hC : s.heap.get? Cc = none) (hne : l ≠ Cc) (e : s'.heap.get? l = some (listO vs m)) (r : RepL C (l :: Cc :: X) s'.heap vs ds) {h' : Heap} (sb : Heap.SameBut Cc s'.heap h') :
    Kp s { s' with heap := h' } ∧ h'.get? l = some (listO vs m) ∧ RepL C ([l] ++ X) h' vs ds := by
  refine ⟨?_, (sb.2 l hne).trans e, r.keep ⟨fun b o hb e => (sb.2 b (fun h => hb (by simp [h]))).trans e, fun b _ _ m => by
    rcases List.mem_append.mp m with m | m
    · simp at m; simp [m]
    · simp [m]⟩⟩
  obtain ⟨⟨h, t, rfl, kk⟩, lt⟩ := k
  exact ⟨⟨h', t, rfl, fun b o e => (sb.2 b (fun h => by rw [h, hC] at e; cases e)).trans (kk b o e)⟩, lt⟩
theorem Ev.comp {elt tgt iter : Expr} {ifs : List Expr} {pos : Pos} {ds : List D} (c : Comp1 C n nm ρ elt tgt iter ifs nm' ds) : Ev C n nm ρ (.ListComp elt [⟨tgt, iter, ifs, 0⟩] (fnScope nm') pos) 0 (.list ds) := .mk fun A env X s oo ok p => by
  rw [eval_ListComp]
  refine comp1_run c oo ok p fun s' l Cc m vs k hl hC hne e r hns => ?_
  obtain ⟨mm, hns⟩ := hns
  refine ⟨mm, hns, fun h' sb => ?_⟩
  obtain ⟨k', e', r'⟩ := Frm.compDone k hl hC hne e r sb
  refine .mk k' (.list (fun m => ?_) e' (r'.keep ⟨fun _ _ _ e => e, fun b _ _ m => by simp [m]⟩))
  obtain ⟨o, e⟩ := p.gr.live l m
  rw [hl] at e; cases e
theorem swaps_true {elt : Expr} {gens : List Comprehension} {pos px : Pos} {y : Str} {line : Nat} {env : Env} (ok : EnvOk nm env) (hy : nm.lookup y = some .local) (hl : (px.line == pos.line) = true) (hn : (nm'.any fun q => q.1 == y && (q.2 == .local || q.2 == .cell)) = false) :
    swapsWith (.ListComp elt gens (fnScope nm') pos) (some (.Name y px)) line env = pure true := by
  unfold swapsWith
  have h1 : (env.blockKind == ScopeKind.function) = true := by rw [show env.blockKind = env.scope.kind from by unfold Env.blockKind; rw [ok.kind]; rfl, ok.kind]; rfl
  have h2 : (env.kindOf y == some NameKind.local) = true := by rw [ok.loc y hy]; rfl
  show (pure (env.blockKind == .function && env.kindOf y == some .local && px.line == pos.line && !(nm'.any fun (n, k) => n == y && (k == .local || k == .cell))) : Sem Bool) = pure true
  rw [h1, h2, hl]
  show (pure (!(nm'.any fun q => q.1 == y && (q.2 == .local || q.2 == .cell))) : Sem Bool) = pure true
  rw [hn]; rfl
theorem swaps_false {elt : Expr} {gens : List Comprehension} {scope : Scope} {pos px : Pos} {y : Str} {line : Nat} {env : Env} (ok : EnvOk nm env) (hy : nm.lookup y = some .cell) : swapsWith (.ListComp elt gens scope pos) (some (.Name y px)) line env = pure false := by
  show (pure (env.blockKind == .function && env.kindOf y == some .local && px.line == pos.line && !(scope.names.any fun (n, k) => n == y && (k == .local || k == .cell))) : Sem Bool) = pure false
  have h2 : (env.kindOf y == some NameKind.local) = false := by rw [ok.cell y hy]; rfl
  rw [h2, Bool.and_false, Bool.false_and, Bool.false_and]
/-- x = [..] in one row -/
theorem Ex1.assignComp (i : Nat) {x : Str} {px pos cpos : Pos} {elt tgt iter : Expr} {ifs : List Expr} {ds : List D} (hi : nm[i]? = some (x, .local)) (c : Comp1 C n nm ρ elt tgt iter ifs nm' ds) (hline : (px.line == cpos.line) = true := by rfl) (hn : (nm'.any fun q => q.1 == x && (q.2 == .local || q.2 == .cell)) = false := by decide +kernel) :
    Ex1 C n nm ρ (.Assign [.Name x px] (.ListComp elt [⟨tgt, iter, ifs, 0⟩] (fnScope nm') cpos) pos) (.next (ρ.set i (some (0, .list ds)))) := .mk fun A env s₀ Mv Xc M T s oo ok f => by
  rw [exec_Assign_Name_used _ _ _ _ (swaps_true ok (lookup_at ok.nodup hi) hline hn)]
  refine wpAny_bind (wpAny_standAt (wpAny_bind ?_))
  show wpAny _ A (do let _ ← comprehension (.ListComp elt [⟨tgt, iter, ifs, 0⟩] (fnScope nm') cpos) (fnScope nm') env _ (newList []) false (eval iter env) (some (PySem.assign (.Name x px) env))) _ _ s
  refine wpAny_bind (wp_mono (comp1_run (use := some (PySem.assign (.Name x px) env)) (Q := fun _ s' => OutOk C nm env s₀ Mv Xc (.next (ρ.set i (some (0, .list ds)))) .next s') c oo ok f.pre fun s' l Cc m vs k hl hC hne e r hns => ?_) fun _ s' h => wpAny_pure (wpAny_pure h))
  have f1 := f.rebase
  have hCl : ∃ o, s'.heap.get? Cc = some o := by obtain ⟨_, o, _, _, e, _⟩ := hns; exact ⟨o, e⟩
  have f2 := f1.growX k (N := [Cc]) (fun b hb => by simp at hb; subst hb; exact hC) (fun b hb => by simp at hb; subst hb; exact hCl)
  have hoff : C.h₀.get? Cc = none := by
    cases e : C.h₀.get? Cc with
    | none => rfl
    | some o => have := f.gr.old Cc o e; rw [hC] at this; cases this
  have hlv : ∀ b, b ∈ M ++ ([Cc] ++ Xc) → b ≠ l := fun b m h => by
    subst h
    rcases List.mem_append.mp m with m | m
    · obtain ⟨o, e⟩ := f.gr.live b (List.mem_append.mpr (.inl m)); rw [hl] at e; cases e
    · rcases List.mem_append.mp m with m | m
      · simp at m; exact hne m
      · obtain ⟨o, e⟩ := f.gr.live b (List.mem_append.mpr (.inr m)); rw [hl] at e; cases e
  show wpAny _ A (PySem.assign (.Name x px) env (.ref l)) _ _ _
  refine wpAny_assign_Name (f2.store ok hi (.inl rfl) (.sh (.list (fun m => hlv l m rfl) e (r.keep ⟨fun _ _ _ e => e, fun b _ _ m => ?_⟩))) (.inl rfl) fun s'' f3 ⟨a, ha, cc⟩ => ?_)
  · rcases List.mem_append.mp m with m | m
    · simp [m]
    · rcases List.mem_append.mp m with m | m
      · simp at m; simp [m]
      · simp [m]
  · obtain ⟨mm, hns⟩ := hns
    have hCM : Cc ∉ M := fun m => f2.dis Cc m (List.mem_append.mpr (.inl (by simp)))
    refine ⟨mm, hns.at' fun o e => cc.but Cc (fun h => hCM (h ▸ ha)) o e, fun h' sb => ?_⟩
    have t : Touch [Cc] s'' { s'' with heap := h' } := .of (t := s''.toks) (Nat.le_refl _) fun b o hb e => (sb.2 b (by simpa using hb)).trans e
    have f4 := f3.touchY (Xd := Xc) ok t (fun b hb => List.mem_append.mpr (.inl hb)) (fun b hb => by simp at hb; subst hb; exact hC) (fun b hb => by simp at hb; subst hb; exact hoff) (fun b hb => List.mem_append.mpr (.inr hb)) (fun b hb hx => by
      simp at hb; subst hb
      obtain ⟨o, e⟩ := f.gr.live b (List.mem_append.mpr (.inr hx)); rw [hC] at e; cases e) (fun y c hy hc hb => by
      simp at hb; subst hb
      obtain ⟨_, o, e⟩ := f.fre y c hy hc; rw [hC] at e; cases e)
    exact ⟨rfl, _, _, f.unbase f4⟩
end
end Mine
end
section
open PySem PySem.W PyProof.Rows PySem.Calls PySem.Spec
set_option maxRecDepth 100000
namespace Mine
section
variable {C : Cx} {n : Nat} {nm : Names} {ρ : Rho} {A : Around} {env : Env} {X : List Addr} {s : Shared}
theorem Evs.plain {es : List Expr} {ds : List D} (h : Evs C n nm ρ es ds) (env : Env) (pos : Pos) : (backTo pos (starEach es env)).any (·.1) = false := by
  induction h with
  | nil => rfl
  | cons h he r ih => rw [he env]; exact ih
/-- a call of a built-in function by its name -/
theorem bcall {x : Str} {id : String} {px pos : Pos} {e : Expr} {es : List Expr} {ds : List D} {Q : Value → Shared → Prop} (i : Nat) (hi : nm[i]? = some (x, .globalImplicit)) (hK : nsIn C.K mainGlobals x = some none) (hb : bootBuiltins x = some (.builtin id)) (hn : x ≠ "__name__") (hd : (x == ("__debug__" : Str)) = false)
    (h : Evs C n nm ρ (e :: es) ds) (o : Ok n A) (ok : EnvOk nm env) (p : Pre C nm env X ρ s) (hq : ∀ vs s', Kp s s' → Pre C nm env X ρ s' → RepL C X s'.heap vs ds → Wp C A (call (.builtin id) vs) Q s') : Wp C A (eval (.Call (.Name x px) (e :: es) [] pos) env) Q s := by
  have hp := h.plain env pos
  have hrun := h.run (pos := pos) A env X s o ok p
  refine Call_Name rfl (load_boot ok p (lookup_at ok.nodup hi) hK hb hn ?_ hd px)
  cases h with
  | @cons _ _ d₁ ds₁ h he rest =>
    rw [he env] at hp hrun ⊢
    exact callWith_builtin hp (evalArgs_plain (wp_mono hrun fun vs s' ⟨k, r⟩ => hq vs s' k (p.keeps k) r))
theorem tcall {x : Str} {T : String} {px pos : Pos} {e : Expr} {es : List Expr} {ds : List D} {Q : Value → Shared → Prop} (i : Nat) (hi : nm[i]? = some (x, .globalImplicit)) (hK : nsIn C.K mainGlobals x = some none) (hb : bootBuiltins x = some (.type T)) (hn : x ≠ "__name__") (hd : (x == ("__debug__" : Str)) = false)
    (h : Evs C n nm ρ (e :: es) ds) (o : Ok n A) (ok : EnvOk nm env) (p : Pre C nm env X ρ s) (hq : ∀ vs s', Kp s s' → Pre C nm env X ρ s' → RepL C X s'.heap vs ds → Wp C A (call (.type T) vs) Q s') : Wp C A (eval (.Call (.Name x px) (e :: es) [] pos) env) Q s := by
  have hp := h.plain env pos
  have hrun := h.run (pos := pos) A env X s o ok p
  refine Call_Name rfl (load_boot ok p (lookup_at ok.nodup hi) hK hb hn ?_ hd px)
  cases h with
  | @cons _ _ d₁ ds₁ h he rest =>
    rw [he env] at hp hrun ⊢
    exact PySem.callWith_type hp (evalArgs_plain (wp_mono hrun fun vs s' ⟨k, r⟩ => hq vs s' k (p.keeps k) r))
theorem Evs.one {e : Expr} {d : D} (h : Ev C n nm ρ e 0 d) (he : ∀ env : Env, starEach [e] env = [(false, eval e env)] := by first | exact n1_Constant | exact n1_Name | exact n1_BinOp | exact n1_Call | exact n1_Subscript | exact n1_List | exact n1_Tuple | exact n1_ListComp | exact n1_Compare | exact n1_BoolOp | exact n1_UnaryOp | exact n1_IfExp | exact n1_JoinedStr | exact n1_Dict | exact ns_Constant | exact ns_Name | exact ns_BinOp | exact ns_Call | exact ns_Subscript | exact ns_List | exact ns_Tuple | exact ns_ListComp | exact ns_Compare | exact ns_BoolOp | exact ns_UnaryOp | exact ns_IfExp | exact ns_JoinedStr | exact ns_Dict | (intro _; rfl)) : Evs C n nm ρ [e] [d] := .cons h he .nil
theorem Evs.two {e e' : Expr} {d d' : D} (h : Ev C n nm ρ e 0 d) (h' : Ev C n nm ρ e' 0 d') (he : ∀ env : Env, starEach [e, e'] env = (false, eval e env) :: starEach [e'] env := by first | exact n1_Constant | exact n1_Name | exact n1_BinOp | exact n1_Call | exact n1_Subscript | exact n1_List | exact n1_Tuple | exact n1_ListComp | exact n1_Compare | exact n1_BoolOp | exact n1_UnaryOp | exact n1_IfExp | exact n1_JoinedStr | exact n1_Dict | exact ns_Constant | exact ns_Name | exact ns_BinOp | exact ns_Call | exact ns_Subscript | exact ns_List | exact ns_Tuple | exact ns_ListComp | exact ns_Compare | exact ns_BoolOp | exact ns_UnaryOp | exact ns_IfExp | exact ns_JoinedStr | exact ns_Dict | (intro _; rfl)) (he' : ∀ env : Env, starEach [e'] env = [(false, eval e' env)] := by first | exact n1_Constant | exact n1_Name | exact n1_BinOp | exact n1_Call | exact n1_Subscript | exact n1_List | exact n1_Tuple | exact n1_ListComp | exact n1_Compare | exact n1_BoolOp | exact n1_UnaryOp | exact n1_IfExp | exact n1_JoinedStr | exact n1_Dict | exact ns_Constant | exact ns_Name | exact ns_BinOp | exact ns_Call | exact ns_Subscript | exact ns_List | exact ns_Tuple | exact ns_ListComp | exact ns_Compare | exact ns_BoolOp | exact ns_UnaryOp | exact ns_IfExp | exact ns_JoinedStr | exact ns_Dict | (intro _; rfl)) : Evs C n nm ρ [e, e'] [d, d'] := .cons h he (.one h' he')
theorem Evs.three {e e' e'' : Expr} {d d' d'' : D} (h : Ev C n nm ρ e 0 d) (h' : Ev C n nm ρ e' 0 d') (h'' : Ev C n nm ρ e'' 0 d'') (he : ∀ env : Env, starEach [e, e', e''] env = (false, eval e env) :: starEach [e', e''] env := by first | exact n1_Constant | exact n1_Name | exact n1_BinOp | exact n1_Call | exact n1_Subscript | exact n1_List | exact n1_Tuple | exact n1_ListComp | exact n1_Compare | exact n1_BoolOp | exact n1_UnaryOp | exact n1_IfExp | exact n1_JoinedStr | exact n1_Dict | exact ns_Constant | exact ns_Name | exact ns_BinOp | exact ns_Call | exact ns_Subscript | exact ns_List | exact ns_Tuple | exact ns_ListComp | exact ns_Compare | exact ns_BoolOp | exact ns_UnaryOp | exact ns_IfExp | exact ns_JoinedStr | exact ns_Dict | (intro _; rfl)) (he' : ∀ env : Env, starEach [e', e''] env = (false, eval e' env) :: starEach [e''] env := by first | exact n1_Constant | exact n1_Name | exact n1_BinOp | exact n1_Call | exact n1_Subscript | exact n1_List | exact n1_Tuple | exact n1_ListComp | exact n1_Compare | exact n1_BoolOp | exact n1_UnaryOp | exact n1_IfExp | exact n1_JoinedStr | exact n1_Dict | exact ns_Constant | exact ns_Name | exact ns_BinOp | exact ns_Call | exact ns_Subscript | exact ns_List | exact ns_Tuple | exact ns_ListComp | exact ns_Compare | exact ns_BoolOp | exact ns_UnaryOp | exact ns_IfExp | exact ns_JoinedStr | exact ns_Dict | (intro _; rfl)) (he'' : ∀ env : Env, starEach [e''] env = [(false, eval e'' env)] := by first | exact n1_Constant | exact n1_Name | exact n1_BinOp | exact n1_Call | exact n1_Subscript | exact n1_List | exact n1_Tuple | exact n1_ListComp | exact n1_Compare | exact n1_BoolOp | exact n1_UnaryOp | exact n1_IfExp | exact n1_JoinedStr | exact n1_Dict | exact ns_Constant | exact ns_Name | exact ns_BinOp | exact ns_Call | exact ns_Subscript | exact ns_List | exact ns_Tuple | exact ns_ListComp | exact ns_Compare | exact ns_BoolOp | exact ns_UnaryOp | exact ns_IfExp | exact ns_JoinedStr | exact ns_Dict | (intro _; rfl)) : Evs C n nm ρ [e, e', e''] [d, d', d''] := .cons h he (.two h' h'' he' he'')
end

theorem boot_len : bootBuiltins "len" = some (.builtin "len") := by kernel_rfl
theorem boot_sum : bootBuiltins "sum" = some (.builtin "sum") := by kernel_rfl
theorem boot_range : bootBuiltins "range" = some (.type "range") := by kernel_rfl
theorem boot_enumerate : bootBuiltins "enumerate" = some (.type "enumerate") := by kernel_rfl

section
variable {C : Cx} {n : Nat} {nm : Names} {ρ : Rho}
theorem Ev.len_str {px pos : Pos} {e : Expr} {x : Str} (i : Nat) (hi : nm[i]? = some (("len" : Str), NameKind.globalImplicit)) (hK : nsIn C.K mainGlobals ("len" : Str) = some Option.none) (h : Ev C n nm ρ e 0 (.str x)) (hx : x.length ≤ 1000000) (he : ∀ env : Env, starEach [e] env = [(false, eval e env)] := by first | exact n1_Constant | exact n1_Name | exact n1_BinOp | exact n1_Call | exact n1_Subscript | exact n1_List | exact n1_Tuple | exact n1_ListComp | exact n1_Compare | exact n1_BoolOp | exact n1_UnaryOp | exact n1_IfExp | exact n1_JoinedStr | exact n1_Dict | exact ns_Constant | exact ns_Name | exact ns_BinOp | exact ns_Call | exact ns_Subscript | exact ns_List | exact ns_Tuple | exact ns_ListComp | exact ns_Compare | exact ns_BoolOp | exact ns_UnaryOp | exact ns_IfExp | exact ns_JoinedStr | exact ns_Dict | (intro _; rfl)) :
    Ev C n nm ρ (.Call (.Name "len" px) [e] [] pos) 0 (.int x.length) := .mk fun A env X s o ok p =>
  wp_up (bcall i hi hK boot_len (by decide) (by decide) (.one h he) o ok p fun vs s' k p' r => by
    cases r with
    | cons a r =>
      cases r
      cases a
      exact P.len_str (by omega) fun l => .mk ⟨(kTrans k (kToks (by omega))).1, l⟩ (.int _ _))
theorem Ev.len_list {px pos : Pos} {e : Expr} {ds : List D} (i : Nat) (hi : nm[i]? = some (("len" : Str), NameKind.globalImplicit)) (hK : nsIn C.K mainGlobals ("len" : Str) = some Option.none) (h : Ev C n nm ρ e 0 (.list ds)) (hx : ds.length ≤ 1000000) (he : ∀ env : Env, starEach [e] env = [(false, eval e env)] := by first | exact n1_Constant | exact n1_Name | exact n1_BinOp | exact n1_Call | exact n1_Subscript | exact n1_List | exact n1_Tuple | exact n1_ListComp | exact n1_Compare | exact n1_BoolOp | exact n1_UnaryOp | exact n1_IfExp | exact n1_JoinedStr | exact n1_Dict | exact ns_Constant | exact ns_Name | exact ns_BinOp | exact ns_Call | exact ns_Subscript | exact ns_List | exact ns_Tuple | exact ns_ListComp | exact ns_Compare | exact ns_BoolOp | exact ns_UnaryOp | exact ns_IfExp | exact ns_JoinedStr | exact ns_Dict | (intro _; rfl)) :
    Ev C n nm ρ (.Call (.Name "len" px) [e] [] pos) 0 (.int ds.length) := .mk fun A env X s o ok p =>
  bcall i hi hK boot_len (by decide) (by decide) (.one h he) o ok p fun vs s' k p' r => by
    cases r with
    | cons a r =>
      cases r
      cases a with
      | @list l vs m _ ha e rl =>
        refine Calls.call_len_list (listO_isList e) (by simp; rw [rl.length]; omega) ?_
        have : (vs.toArray.size : Int) = (ds.length : Int) := by rw [List.size_toArray, rl.length]
        rw [this]
        exact .mk (kTrans k (kToks (by omega))) (.int _ _)

def isum : List D → Int
  | [] => 0
  | .int i :: r => i + isum r
  | _ :: r => isum r
def allInt : List D → Bool
  | [] => true
  | .int _ :: r => allInt r
  | _ => false
theorem allInt_get : ∀ {ds : List D} {i : Nat} {d : D}, allInt ds = true → ds[i]? = some d → ∃ k, d = .int k
  | [], _, _, _, h => by simp at h
  | d :: r, 0, e, h, he => by
    simp at he; subst he
    cases d <;> first | exact ⟨_, rfl⟩ | (simp [allInt] at h)
  | d :: r, i + 1, e, h, he => by
    cases d <;> first | (simp [allInt] at h; done) | exact allInt_get (ds := r) (by simpa [allInt] using h) (by simpa using he)
def intAt (ds : List D) (i : Nat) : Int := match ds[i]? with | some (.int k) => k | _ => 0
theorem preSum_isum : ∀ (ds : List D), allInt ds = true → preSum (intAt ds) ds.length = isum ds := by
  have shift : ∀ (f : Nat → Int) (n : Nat), preSum f (n + 1) = f 0 + preSum (fun i => f (i + 1)) n := by
    intro f n
    induction n with
    | zero => simp [preSum]
    | succ n ih => rw [preSum, ih, preSum, Int.add_assoc]
  intro ds
  induction ds with
  | nil => intro _; rfl
  | cons d r ih =>
    intro h
    cases d with
    | int k =>
      rw [List.length_cons, shift]
      show k + preSum (intAt r) r.length = k + isum r
      rw [ih (by simpa [allInt] using h)]
    | _ => simp [allInt] at h
theorem Ev.sum {px pos : Pos} {e : Expr} {ds : List D} (i : Nat) (hi : nm[i]? = some (("sum" : Str), NameKind.globalImplicit)) (hK : nsIn C.K mainGlobals ("sum" : Str) = some Option.none) (h : Ev C n nm ρ e 0 (.list ds)) (hx : allInt ds = true) (he : ∀ env : Env, starEach [e] env = [(false, eval e env)] := by first | exact n1_Constant | exact n1_Name | exact n1_BinOp | exact n1_Call | exact n1_Subscript | exact n1_List | exact n1_Tuple | exact n1_ListComp | exact n1_Compare | exact n1_BoolOp | exact n1_UnaryOp | exact n1_IfExp | exact n1_JoinedStr | exact n1_Dict | exact ns_Constant | exact ns_Name | exact ns_BinOp | exact ns_Call | exact ns_Subscript | exact ns_List | exact ns_Tuple | exact ns_ListComp | exact ns_Compare | exact ns_BoolOp | exact ns_UnaryOp | exact ns_IfExp | exact ns_JoinedStr | exact ns_Dict | (intro _; rfl)) :
    Ev C n nm ρ (.Call (.Name "sum" px) [e] [] pos) 0 (.int (isum ds)) := .mk fun A env X s o ok p =>
  wp_up (bcall i hi hK boot_sum (by decide) (by decide) (.one h he) o ok p fun vs s' k p' r => by
    cases r with
    | cons a r =>
      cases r
      cases a with
      | @list l vs m _ ha e rl =>
        have hl := listO_isList e
        have hne : l ≠ s'.heap.objs.size := Nat.ne_of_lt (Heap.lt_size e)
        refine call_sum_walkG (wpAny_pyIter_list hl ?_)
        refine ⟨s'.heap.objs.size, [s'.heap.objs.size, l], [s'.heap.objs.size], vs.toArray.size, _, _, intAt ds, rfl, Walks.list (A := A.in1) o.handled _ l hne vs.toArray, ⟨⟨_, Heap.get?_push_size _ rfl, rfl, rfl⟩, hl.push _⟩, fun b hb => ?_, fun j v hv => ?_, fun h' tk t' hk l => ?_⟩
        · simp at hb
          rw [Heap.size_push]
          rcases hb with rfl | rfl
          · exact Nat.lt_succ_self _
          · exact Nat.lt_succ_of_lt (Heap.lt_size e)
        · obtain ⟨d, hd, rd⟩ := rl.get' (i := j) (v := v) (by simpa using hv)
          obtain ⟨k', rfl⟩ := allInt_get hx hd
          cases rd with
          | int _ t => exact ⟨t, by unfold intAt; rw [hd]⟩
        · have : preSum (intAt ds) vs.toArray.size = isum ds := by rw [List.size_toArray, rl.length]; exact preSum_isum ds hx
          rw [this]
          refine .mk ⟨?_, l⟩ (.int _ _)
          obtain ⟨⟨h1, t1, rfl, kk⟩, _⟩ := k
          exact ⟨h', tk, rfl, fun b o e => hk b o (by simpa using Nat.ne_of_lt (Heap.lt_size (kk b o e))) (Heap.get?_push_of_some _ (kk b o e))⟩)
end
end Mine
end
section
open PySem PySem.W PyProof.Rows PySem.Calls PySem.Spec
set_option maxRecDepth 100000
namespace Mine
theorem size_none {h : Heap} {b : Addr} (hb : h.objs.size ≤ b) : h.get? b = none := by
  cases e : h.get? b with
  | none => rfl
  | some o => exact absurd (Heap.lt_size e) (Nat.not_lt.mpr hb)
theorem kNone {s s' : Shared} (k : Kp s s') {b : Addr} (h : s'.heap.get? b = none) : s.heap.get? b = none := by
  cases e : s.heap.get? b with
  | none => rfl
  | some o => have := kGet k b o e; rw [h] at this; cases this
section
variable {C : Cx} {n : Nat} {nm : Names} {ρ : Rho}
theorem Src1.list {e : Expr} {ds : List D} (h : Ev C n nm ρ e 0 (.list ds)) : Src1 C n nm ρ e ds := .mk fun A env X s o ok p =>
  h.then0 o ok p fun v s₁ k p' r => by
    cases r with
    | @list l vs m _ ha e rl =>
      have hl := listO_isList e
      have hne : l ≠ s₁.heap.objs.size := Nat.ne_of_lt (Heap.lt_size e)
      refine wpAny_pyIter_list hl ⟨kTrans k (kPush (t := s₁.toks) _ (Nat.le_refl _)), _, [s₁.heap.objs.size], _, rfl, fun b hb => ?_, Walk1.of (Walks.list o.handled s₁.heap.objs.size l hne vs.toArray) ds (by simp [rl.length]) (fun i h st b hb => ?_), ⟨⟨⟨_, Heap.get?_push_size _ rfl, rfl, rfl⟩, hl.push _⟩, fun b hb => by simp at hb; simp [hb], fun b hb => ?_, fun j u d hu hd => ?_⟩⟩
      · simp at hb; subst hb; exact kNone k (size_none (Nat.le_refl _))
      · simp at hb
        rcases hb with rfl | rfl
        · obtain ⟨o, e, _⟩ := st.1; exact ⟨o, e⟩
        · obtain ⟨o, e, _⟩ := st.2; exact ⟨o, e⟩
      · simp at hb
        rcases hb with rfl | rfl
        · exact .inl (by simp)
        · exact .inr fun m => by
            rcases List.mem_append.mp m with m | m
            · simp at m; exact hne m
            · exact ha m
      · obtain ⟨d', hd', rd⟩ := rl.get' (i := j) (v := u) (by simpa using hu)
        rw [hd] at hd'; cases hd'
        refine rd.keep ⟨fun b o _ e => Heap.get?_push_of_some _ e, fun b o e m => ?_⟩
        rcases List.mem_append.mp m with m | m
        · simp at m; subst m; exact absurd (Heap.lt_size e) (Nat.lt_irrefl _)
        · exact m

def rangeD (a c : Int) (n : Nat) : List D := (List.range n).map fun (i : Nat) => .int (a + (i : Int) * c)
theorem src_range {A : Around} {X : List Addr} {s s₁ : Shared} {r : Addr} {a b c : Int} {t u v : Tok} {m : Nat} (o : Ok n A) (k : Kp s s₁) (hr : IsRange s₁.heap r a b c t u v) (hs : Builtin.Range.small a b c = true) (hm : Builtin.Range.rangeSize a b c = m) :
    Wp C A (pyIter (.ref r)) (fun it s₂ => Kp s s₂ ∧ ∃ I wr Ph, it = .ref I ∧ (∀ b ∈ wr, s.heap.get? b = none) ∧ Walk1 C A I wr (rangeD a c m) Ph ∧ Ph 0 (wr ++ X) s₂.heap) s₁ := by
  refine wpAny_pyIter_range hr hs ⟨kTrans k (kPush (t := s₁.toks) _ (Nat.le_refl _)), _, [s₁.heap.objs.size], _, rfl, fun b hb => ?_, Walk1.of (Walks.range o.handled s₁.heap.objs.size a c m) (rangeD a c m) (by simp [rangeD]) (fun i h st b hb => ?_), ⟨?_, fun b hb => by simp at hb; simp [hb], fun b hb => .inl hb, fun j u d hu hd => ?_⟩⟩
  · simp at hb; subst hb; exact kNone k (size_none (Nat.le_refl _))
  · simp at hb; subst hb; exact ⟨_, st⟩
  · have : IsRangeIter (s₁.heap.push { cls := .type "range_iterator", data := .fields #[rawInt a, rawInt (Builtin.Range.rangeSize a b c), rawInt c] }) s₁.heap.objs.size a (Builtin.Range.rangeSize a b c) c := Heap.get?_push_size _ rfl
    simpa [hm] using this
  · obtain ⟨t, rfl⟩ := hu
    unfold rangeD at hd
    rw [List.getElem?_map] at hd
    cases e : (List.range m)[j]? with
    | none => rw [e] at hd; cases hd
    | some j' =>
      rw [e] at hd; cases hd
      have := List.getElem?_eq_some_iff.mp e
      obtain ⟨h1, h2⟩ := this
      simp at h2; subst h2
      exact .int _ _
theorem rangeSize_nat {a b : Int} (h : a ≤ b) : Builtin.Range.rangeSize a b 1 = ((b - a).toNat : Int) := by
  rw [rangeSize_one]; split <;> omega
theorem Src1.range1 {px pos : Pos} {e : Expr} {b : Int} (i : Nat) (hi : nm[i]? = some (("range" : Str), NameKind.globalImplicit)) (hK : nsIn C.K mainGlobals ("range" : Str) = some Option.none) (h : Ev C n nm ρ e 0 (.int b)) (h0 : 0 ≤ b) (h1 : b < 1000000) (he : ∀ env : Env, starEach [e] env = [(false, eval e env)] := by first | exact n1_Constant | exact n1_Name | exact n1_BinOp | exact n1_Call | exact n1_Subscript | exact n1_List | exact n1_Tuple | exact n1_ListComp | exact n1_Compare | exact n1_BoolOp | exact n1_UnaryOp | exact n1_IfExp | exact n1_JoinedStr | exact n1_Dict | exact ns_Constant | exact ns_Name | exact ns_BinOp | exact ns_Call | exact ns_Subscript | exact ns_List | exact ns_Tuple | exact ns_ListComp | exact ns_Compare | exact ns_BoolOp | exact ns_UnaryOp | exact ns_IfExp | exact ns_JoinedStr | exact ns_Dict | (intro _; rfl)) :
    Src1 C n nm ρ (.Call (.Name "range" px) [e] [] pos) (rangeD 0 1 b.toNat) := .mk fun A env X s o ok p =>
  bcallT o ok p
where
  bcallT {A : Around} {env : Env} {X : List Addr} {s : Shared} (o : Ok n A) (ok : EnvOk nm env) (p : Pre C nm env X ρ s) := tcall (Q := fun xv s₁ => Wp C A (pyIter xv) (fun it s₂ => Kp s s₂ ∧ ∃ I wr Ph, it = .ref I ∧ (∀ b ∈ wr, s.heap.get? b = none) ∧ Walk1 C A I wr (rangeD 0 1 b.toNat) Ph ∧ Ph 0 (wr ++ X) s₂.heap) s₁) i hi hK boot_range (by decide) (by decide) (.one h he) o ok p fun vs s' k p' r => by
    cases r with
    | cons a r =>
      cases r
      cases a with
      | int _ u =>
        refine call_range_1 (src_range o (kTrans k (kPush _ (by omega))) (IsRange.new ..) (small_one (by omega) (by omega) (by omega) (by omega)) ?_)
        rw [rangeSize_nat h0]; simp

def numD (ds : List D) : List (D × D) := ds.mapIdx fun i d => (.int i, d)
theorem Src2.enumerate {px pos : Pos} {e : Expr} {ds : List D} (i : Nat) (hi : nm[i]? = some (("enumerate" : Str), NameKind.globalImplicit)) (hK : nsIn C.K mainGlobals ("enumerate" : Str) = some Option.none) (h : Ev C n nm ρ e 0 (.list ds)) (he : ∀ env : Env, starEach [e] env = [(false, eval e env)] := by first | exact n1_Constant | exact n1_Name | exact n1_BinOp | exact n1_Call | exact n1_Subscript | exact n1_List | exact n1_Tuple | exact n1_ListComp | exact n1_Compare | exact n1_BoolOp | exact n1_UnaryOp | exact n1_IfExp | exact n1_JoinedStr | exact n1_Dict | exact ns_Constant | exact ns_Name | exact ns_BinOp | exact ns_Call | exact ns_Subscript | exact ns_List | exact ns_Tuple | exact ns_ListComp | exact ns_Compare | exact ns_BoolOp | exact ns_UnaryOp | exact ns_IfExp | exact ns_JoinedStr | exact ns_Dict | (intro _; rfl)) :
    Src2 C n nm ρ (.Call (.Name "enumerate" px) [e] [] pos) (numD ds) := .mk fun A env X s o ok p =>
  tcall (Q := fun xv s₁ => Wp C A (pyIter xv) (fun it s₂ => Kp s s₂ ∧ ∃ I wr Ph, it = .ref I ∧ (∀ b ∈ wr, s.heap.get? b = none) ∧ Walk2 C A I wr (numD ds) Ph ∧ Ph 0 (wr ++ X) s₂.heap) s₁) i hi hK boot_enumerate (by decide) (by decide) (.one h he) o ok p fun vs s' k p' r => by
    cases r with
    | cons a r =>
      cases r
      cases a with
      | @list l vs m _ ha e rl =>
        refine call_enumerate_1 e fun h' hen hit hsz hk => ?_
        have e' := hk _ _ e
        have hl' : h'.IsList l vs.toArray := listO_isList e'
        have hlt := Heap.lt_size e
        have hle : l ≠ s'.heap.objs.size + 1 := Nat.ne_of_lt (Nat.lt_succ_of_lt hlt)
        have hli : l ≠ s'.heap.objs.size := Nat.ne_of_lt hlt
        have hei : s'.heap.objs.size + 1 ≠ s'.heap.objs.size := Nat.succ_ne_self _
        have kk : Kp s' { s' with heap := h' } := kHeap (t := s'.toks) hk (Nat.le_refl _)
        have newb : ∀ b ∈ [s'.heap.objs.size + 1, s'.heap.objs.size], s'.heap.get? b = none := fun b hb => by
          simp at hb
          rcases hb with rfl | rfl
          · exact size_none (Nat.le_succ _)
          · exact size_none (Nat.le_refl _)
        refine wpAny_pyIter_enum hen ⟨kTrans k kk, _, [s'.heap.objs.size + 1, s'.heap.objs.size], _, rfl, fun b hb => kNone k (newb b hb), Walk2.of (WalksT.enumerate o.handled (s'.heap.objs.size + 1) s'.heap.objs.size l hei hle hli vs.toArray).toU (numD ds) (by simp [numD, rl.length]) (fun i h st b hb => ?_), ⟨⟨⟨_, hen⟩, hit, hl'⟩, fun b hb => List.mem_append.mpr (.inl hb), fun b hb => ?_, fun j us d hu hd => ?_⟩⟩
        · simp at hb
          obtain ⟨⟨old, q1⟩, ⟨o2, q2, _⟩, ⟨o3, q3, _⟩⟩ := st
          rcases hb with rfl | rfl | rfl
          · exact ⟨_, q1⟩
          · exact ⟨_, q2⟩
          · exact ⟨_, q3⟩
        · simp at hb
          rcases hb with rfl | rfl | rfl
          · exact .inl (by simp)
          · exact .inl (by simp)
          · exact .inr fun m => by
              rcases List.mem_append.mp m with m | m
              · simp at m; rcases m with m | m; exact hle m; exact hli m
              · exact ha m
        · obtain ⟨t, x, hx, rfl⟩ := hu
          obtain ⟨d', hd', rd⟩ := rl.get' (i := j) (v := x) (by simpa using hx)
          unfold numD at hd
          rw [List.getElem?_mapIdx, hd'] at hd
          cases hd
          refine ⟨_, _, rfl, .int _ _, rd.keep ⟨fun b o _ e => hk b o e, fun b o e m => ?_⟩⟩
          rcases List.mem_append.mp m with m | m
          · rw [newb b m] at e; cases e
          · exact m
end
end Mine
end
section
open PySem PySem.Sre
set_option maxRecDepth 100000
namespace Mine.Re
def code4 : Array Nat := #[14, 8, 1, 2, 4294967295, 1, 1, 46, 0, 16, 46, 24, 9, 1, 4294967295, 13, 4, 8, 0, 0, 1, 6, 5, 1]

/-- the machine at the head of an attempt -/
def st (text : Array Nat) (s start : Nat) (out : Bool) (seen : Seen) : M :=
  { code := code4, text, lim := text.size, start, lastStart := text.size, pc := 9, pos := s, handed := s, outermost := out, marks := #[],
    frames := [{ wait := .nextStart, pc := 9, pos := s, outermost := out }], weight := 1, seen }
theorem runFor_succ (n : Nat) (m : M) : M.runFor (n + 1) m = if m.outcome.isSome then m else M.runFor n m.step := rfl
theorem runFor_end {m : M} (h : m.outcome.isSome = true) : ∀ n, M.runFor n m = m
  | 0 => rfl
  | n + 1 => by rw [runFor_succ, h]; rfl
theorem runFor_add : ∀ (a b : Nat) (m : M), M.runFor (a + b) m = M.runFor b (M.runFor a m)
  | 0, b, m => by rw [Nat.zero_add]; rfl
  | a + 1, b, m => by
    rw [Nat.succ_add, runFor_succ, runFor_succ]
    cases h : m.outcome.isSome with
    | true => simp only [if_true]; rw [runFor_end h]
    | false => simp only [Bool.false_eq_true, if_false]; exact runFor_add a b _
theorem runFor_step {m : M} {n : Nat} (h : m.outcome = none) : M.runFor (n + 1) m = M.runFor n m.step := by rw [runFor_succ, h]; rfl

theorem start_small (text : Array Nat) (h : text.size < 2) : (forSearch code4 text 0 0 text.size false).outcome = none ∧ (forSearch code4 text 0 0 text.size false).answer = some false ∧ (forSearch code4 text 0 0 text.size false).frames = [] := by
  unfold forSearch
  have h2 : (0 > text.size || text.size - 0 < (header code4).1) = true := by
    have : (header code4).1 = 2 := rfl
    rw [this]; simp; omega
  simp only [h2, if_true]
  exact ⟨rfl, rfl, rfl⟩
theorem start_big (text : Array Nat) (h : 2 ≤ text.size) : forSearch code4 text 0 0 text.size false = st text 0 0 true (({} : Seen).add 14) := by
  unfold forSearch
  have h2 : (0 > text.size || text.size - 0 < (header code4).1) = false := by
    have : (header code4).1 = 2 := rfl
    rw [this]; simp; omega
  simp only [h2, Bool.false_eq_true, if_false]
  rfl
/-- no dot here: on to the next start -/
theorem no_dot (text : Array Nat) (s start : Nat) (out : Bool) (seen : Seen) (hs : s < text.size) (hd : text.getD s 0 ≠ 46) : ∃ seen', M.runFor 2 (st text s start out seen) = st text (s + 1) (s + 1) false seen' := by
  have e1 : (st text s start out seen).step = { st text s start out seen with seen := seen.add 16, answer := some false } := by
    show M.exec (st text s start out seen) = _
    unfold M.exec
    have : ops[(st text s start out seen).word 0]? = some .LITERAL := rfl
    simp only [this]
    have hlim : ¬ (s ≥ text.size) := by omega
    show (if s ≥ text.size then _ else _) = _
    rw [if_neg hlim]
    have : accepts code4 9 (text.getD s 0) (seen.add 16) = .ok (false, seen.add 16) := by
      show Except.ok (text.getD s 0 == 46, seen.add 16) = _
      rw [show (text.getD s 0 == 46) = false by simpa using hd]
    show (match accepts code4 9 (text.getD s 0) (seen.add 16) with | .error why => _ | .ok (false, seen) => _ | .ok (true, seen) => _) = _
    rw [this]
    rfl
  refine ⟨seen.add 16, ?_⟩
  rw [runFor_step rfl, e1, runFor_step rfl]
  show M.step _ = _
  show (if (false : Bool) = true then _ else if s < text.size then _ else _) = _
  rw [if_neg (by decide), if_pos hs]
  rfl

/-- the digits from p on, at most k -/
def dg (text : Array Nat) : Nat → Nat → Nat
  | 0, _ => 0
  | k + 1, p => if isDigit (text.getD p 0) then dg text k (p + 1) + 1 else 0
theorem dg_le (text : Array Nat) : ∀ k p, dg text k p ≤ k
  | 0, _ => Nat.le_refl _
  | k + 1, p => by unfold dg; split; exact Nat.succ_le_succ (dg_le text k _); exact Nat.zero_le _
theorem dg_digit (text : Array Nat) : ∀ k p i, i < dg text k p → isDigit (text.getD (p + i) 0) = true
  | 0, _, i, h => absurd h (Nat.not_lt_zero i)
  | k + 1, p, i, h => by
    unfold dg at h
    split at h
    · rename_i hd
      cases i with
      | zero => exact hd
      | succ i =>
        have := dg_digit text k (p + 1) i (Nat.lt_of_succ_lt_succ h)
        rwa [show p + 1 + i = p + (i + 1) by omega] at this
    · exact absurd h (Nat.not_lt_zero i)
theorem accepts_digit (c : Nat) (seen : Seen) : ∃ seen', accepts code4 15 c seen = .ok (isDigit c, seen') := by
  cases h : isDigit c with
  | true =>
    refine ⟨(seen.add 8).add 55, ?_⟩
    show inSet code4 c 24 17 true seen = _
    unfold inSet
    show (do if ← category 0 c then pure (true, (seen.add 8).add (55 + 0)) else inSet code4 c 23 19 true ((seen.add 8).add (55 + 0))) = _
    have : category 0 c = .ok true := by
      unfold category
      show Except.ok (isDigit c != false) = _
      rw [h]; rfl
    rw [this]; rfl
  | false =>
    refine ⟨((seen.add 8).add 55).add 0, ?_⟩
    show inSet code4 c 24 17 true seen = _
    unfold inSet
    show (do if ← category 0 c then pure (true, (seen.add 8).add (55 + 0)) else inSet code4 c 23 19 true ((seen.add 8).add (55 + 0))) = _
    have : category 0 c = .ok false := by
      unfold category
      show Except.ok (isDigit c != false) = _
      rw [h]; rfl
    rw [this]; rfl
theorem run_digits (text : Array Nat) : ∀ (k p found : Nat) (seen : Seen), ∃ seen', Sre.run code4 text 15 k p found seen = .ok (found + dg text k p, seen')
  | 0, p, found, seen => ⟨seen, rfl⟩
  | k + 1, p, found, seen => by
    obtain ⟨s1, h1⟩ := accepts_digit (text.getD p 0) seen
    unfold Sre.run dg
    rw [h1]
    cases h : isDigit (text.getD p 0) with
    | true =>
      obtain ⟨s2, h2⟩ := run_digits text k (p + 1) (found + 1) s1
      refine ⟨s2, ?_⟩
      show Sre.run code4 text 15 k (p + 1) (found + 1) s1 = _
      rw [h2]
      simp only [if_true]
      congr 2
      omega
    | false => exact ⟨s1, rfl⟩

/-- after the digits, before the end is asked for -/
def gb (text : Array Nat) (s start : Nat) (out : Bool) (seen : Seen) (p : Nat) (c : Int) : M :=
  { code := code4, text, lim := text.size, start, lastStart := text.size, pc := 21, pos := p, handed := p, outermost := out, marks := #[],
    frames := [{ wait := .giveBack, pc := 11, pos := p, outermost := out, count := c }, { wait := .nextStart, pc := 9, pos := s, outermost := out }], weight := 2, seen }
def atEnd (text : Array Nat) (p : Nat) : Bool := p == text.size || (p + 1 == text.size && text.getD p 0 == 10)
theorem at_step (text : Array Nat) (s start : Nat) (out : Bool) (seen : Seen) (p : Nat) (c : Int) :
    (gb text s start out seen p c).step = if atEnd text p then { gb text s start out seen p c with seen := (seen.add 6).add 48, pc := 23 } else { gb text s start out seen p c with seen := (seen.add 6).add 48, answer := some false } := by
  show M.exec (gb text s start out seen p c) = _
  unfold M.exec
  have : ops[(gb text s start out seen p c).word 0]? = some .AT := rfl
  simp only [this]
  show (if atEnd text p then _ else _) = _
  cases atEnd text p <;> rfl
theorem gb_yes (text : Array Nat) (s start : Nat) (out : Bool) (seen : Seen) (p : Nat) (c : Int) (h : atEnd text p = true) : (M.runFor 5 (gb text s start out seen p c)).outcome = some .matched := by
  rw [runFor_step rfl, at_step, h]
  simp only [if_true]
  rw [runFor_step rfl]
  have e : M.step { gb text s start out seen p c with seen := (seen.add 6).add 48, pc := 23 } = { gb text s start out seen p c with seen := ((seen.add 6).add 48).add 1, pc := 23, handed := p, answer := some true } := by
    cases out <;> rfl
  rw [e]
  rfl
theorem gb_no (text : Array Nat) (s start : Nat) (out : Bool) (seen : Seen) (p : Nat) (c : Nat) (hs : s < text.size) (h : ∀ i, i ≤ c → atEnd text (p - i) = false) : ∃ k seen', k ≤ 2 * c + 5 ∧ M.runFor k (gb text s start out seen p ((c : Int) + 1)) = st text (s + 1) (s + 1) false seen' := by
  induction c generalizing p seen with
  | zero =>
    refine ⟨3, (seen.add 6).add 48, by omega, ?_⟩
    rw [runFor_step rfl, at_step, show atEnd text p = false from h 0 (Nat.le_refl _)]
    simp only [Bool.false_eq_true, if_false]
    rw [runFor_step rfl]
    have e : M.step { gb text s start out seen p ((0 : Nat) + 1 : Int) with seen := (seen.add 6).add 48, answer := some false } = { st text s start out ((seen.add 6).add 48) with pc := 11, pos := p, handed := p, answer := some false } := by rfl
    rw [e, runFor_step rfl]
    show M.step _ = _
    show (if (false : Bool) = true then _ else if s < text.size then _ else _) = _
    rw [if_neg (by decide), if_pos hs]
    rfl
  | succ c ih =>
    obtain ⟨k, seen', hk, hr⟩ := ih ((seen.add 6).add 48) (p - 1) fun i hi => by
      have := h (i + 1) (by omega)
      rwa [show p - (i + 1) = p - 1 - i by omega] at this
    refine ⟨k + 2, seen', by omega, ?_⟩
    rw [Nat.add_comm, runFor_add]
    rw [← hr]
    congr 1
    rw [runFor_step rfl, at_step, show atEnd text p = false from h 0 (Nat.zero_le _)]
    simp only [Bool.false_eq_true, if_false]
    rw [runFor_step rfl]
    show M.step _ = _
    show (if (false : Bool) = true then _ else if ((((c + 1 : Nat) : Int) + 1) - 1 < ((1 : Nat) : Int)) then _ else _) = _
    rw [if_neg (by decide), if_neg (by omega)]
    have e : (((c + 1 : Nat) : Int) + 1) - 1 = (c : Int) + 1 := by omega
    rw [e]
    rfl

def digs (text : Array Nat) (s : Nat) : Nat := dg text (text.size - (s + 1)) (s + 1)
/-- a match begins at s -/
def hit (text : Array Nat) (s : Nat) : Bool := text.getD s 0 == 46 && (decide (1 ≤ digs text s) && atEnd text (s + 1 + digs text s))
theorem dot_step (text : Array Nat) (s start : Nat) (out : Bool) (seen : Seen) (hs : s < text.size) (hd : text.getD s 0 = 46) :
    (st text s start out seen).step = { st text s start out seen with seen := seen.add 16, pc := 11, pos := s + 1 } := by
  show M.exec (st text s start out seen) = _
  unfold M.exec
  have : ops[(st text s start out seen).word 0]? = some .LITERAL := rfl
  simp only [this]
  have hlim : ¬ (s ≥ text.size) := by omega
  show (if s ≥ text.size then _ else _) = _
  rw [if_neg hlim]
  have : accepts code4 9 (text.getD s 0) (seen.add 16) = .ok (true, seen.add 16) := by
    show Except.ok (text.getD s 0 == 46, seen.add 16) = _
    rw [show (text.getD s 0 == 46) = true by simpa using hd]
  show (match accepts code4 9 (text.getD s 0) (seen.add 16) with | .error why => _ | .ok (false, seen) => _ | .ok (true, seen) => _) = _
  rw [this]
  rfl
theorem next_start (text : Array Nat) (s start : Nat) (out : Bool) (seen : Seen) (pc pos handed : Nat) (hs : s < text.size) :
    M.step { st text s start out seen with pc := pc, pos := pos, handed := handed, answer := some false } = st text (s + 1) (s + 1) false seen := by
  show (if (false : Bool) = true then _ else if s < text.size then _ else _) = _
  rw [if_neg (by decide), if_pos hs]
  rfl
theorem rep_step (text : Array Nat) (s start : Nat) (out : Bool) (seen : Seen) (hs : s < text.size) (hz : text.size ≤ 1000000) :
    ∃ seen', M.step { st text s start out seen with pc := 11, pos := s + 1 } =
      (if digs text s < 1 then { st text s start out seen' with pc := 11, pos := s + 1, answer := some false } else gb text s start out seen' (s + 1 + digs text s) (digs text s)) := by
  have hexec : M.step { st text s start out seen with pc := 11, pos := s + 1 } = M.exec { st text s start out seen with pc := 11, pos := s + 1 } := rfl
  have hop : ops[M.word { st text s start out seen with pc := 11, pos := s + 1 } 0]? = some .REPEAT_ONE := rfl
  by_cases hroom : s + 1 = text.size
  · refine ⟨seen.add 24, ?_⟩
    have hz : digs text s = 0 := by unfold digs; rw [show text.size - (s + 1) = 0 by omega]; rfl
    rw [hz, if_pos (by decide), hexec]
    unfold M.exec
    simp only [hop]
    show (if ((1 : Nat) : Int) > (text.size : Int) - ((s + 1 : Nat) : Int) then _ else _) = _
    rw [if_pos (by omega)]
    rfl
  · have hmin : min 4294967295 ((text.size : Int) - ((s + 1 : Nat) : Int)).toNat = text.size - (s + 1) := by omega
    obtain ⟨seen', hr⟩ := run_digits text (text.size - (s + 1)) (s + 1) 0 ((seen.add 24).add 13)
    refine ⟨seen', ?_⟩
    rw [hexec]
    unfold M.exec
    simp only [hop]
    show (if ((1 : Nat) : Int) > (text.size : Int) - ((s + 1 : Nat) : Int) then _ else _) = _
    rw [if_neg (by omega)]
    show (match Sre.run code4 text 15 (min 4294967295 ((text.size : Int) - ((s + 1 : Nat) : Int)).toNat) (s + 1) 0 ((seen.add 24).add 13) with | .error why => _ | .ok (n, seen) => _) = _
    rw [hmin, hr, Nat.zero_add]
    show (if dg text (text.size - (s + 1)) (s + 1) < 1 then _ else _) = _
    show _ = if dg text (text.size - (s + 1)) (s + 1) < 1 then _ else _
    split
    · rfl
    · rfl
theorem hit_end (text : Array Nat) (s start : Nat) (out : Bool) (seen : Seen) (hs : s < text.size) (hz : text.size ≤ 1000000) (h : hit text s = true) : (M.runFor 7 (st text s start out seen)).outcome = some .matched := by
  unfold hit at h
  simp only [Bool.and_eq_true, beq_iff_eq, decide_eq_true_eq] at h
  obtain ⟨h1, h2, h3⟩ := h
  rw [show 7 = 1 + (1 + 5) from rfl, runFor_add, runFor_add]
  have e1 : M.runFor 1 (st text s start out seen) = { st text s start out (seen.add 16) with pc := 11, pos := s + 1 } := by
    rw [runFor_step rfl, dot_step text s start out seen hs h1]; rfl
  obtain ⟨seen', e2⟩ := rep_step text s start out (seen.add 16) hs hz
  rw [if_neg (by omega)] at e2
  have e3 : M.runFor 1 { st text s start out (seen.add 16) with pc := 11, pos := s + 1 } = gb text s start out seen' (s + 1 + digs text s) (digs text s) := by
    rw [runFor_step rfl, e2]; rfl
  rw [e1, e3]
  exact gb_yes _ _ _ _ _ _ _ h3
theorem no_hit (text : Array Nat) (s start : Nat) (out : Bool) (seen : Seen) (hs : s < text.size) (hz : text.size ≤ 1000000) (h : hit text s = false) :
    ∃ k seen', k ≤ 2 * text.size + 10 ∧ M.runFor k (st text s start out seen) = st text (s + 1) (s + 1) false seen' := by
  by_cases h1 : text.getD s 0 = 46
  · have e1 : M.runFor 1 (st text s start out seen) = { st text s start out (seen.add 16) with pc := 11, pos := s + 1 } := by
      rw [runFor_step rfl, dot_step text s start out seen hs h1]; rfl
    obtain ⟨seen', e2⟩ := rep_step text s start out (seen.add 16) hs hz
    by_cases h2 : digs text s < 1
    · rw [if_pos h2] at e2
      refine ⟨1 + 2, seen', by omega, ?_⟩
      rw [runFor_add, e1, runFor_step rfl, e2, runFor_step rfl]
      exact next_start text s start out seen' 11 (s + 1) s hs
    · rw [if_neg h2] at e2
      have h3 : atEnd text (s + 1 + digs text s) = false := by
        unfold hit at h
        rw [show (text.getD s 0 == 46) = true by simpa using h1, show decide (1 ≤ digs text s) = true from decide_eq_true (by omega)] at h
        simpa using h
      have hle : digs text s ≤ text.size - (s + 1) := dg_le text _ _
      obtain ⟨k, seen2, hk, hr⟩ := gb_no text s start out seen' (s + 1 + digs text s) (digs text s - 1) hs fun i hi => by
        cases i with
        | zero => exact h3
        | succ i =>
          have hd := dg_digit text (text.size - (s + 1)) (s + 1) (digs text s - (i + 1)) (show _ < digs text s by omega)
          rw [show s + 1 + (digs text s - (i + 1)) = s + 1 + digs text s - (i + 1) by omega] at hd
          unfold atEnd
          have a1 : (s + 1 + digs text s - (i + 1) == text.size) = false := by simp; omega
          have a2 : (text.getD (s + 1 + digs text s - (i + 1)) 0 == 10) = false := by
            cases e : (text.getD (s + 1 + digs text s - (i + 1)) 0 == 10) with
            | false => rfl
            | true =>
              rw [beq_iff_eq] at e
              rw [e] at hd
              exact absurd hd (by decide)
          rw [a1, a2, Bool.and_false]; rfl
      have e4 : ((digs text s - 1 : Nat) : Int) + 1 = (digs text s : Int) := by omega
      rw [e4] at hr
      refine ⟨1 + (1 + k), seen2, by omega, ?_⟩
      rw [runFor_add, e1, runFor_add]
      have e3 : M.runFor 1 { st text s start out (seen.add 16) with pc := 11, pos := s + 1 } = gb text s start out seen' (s + 1 + digs text s) (digs text s) := by
        rw [runFor_step rfl, e2]; rfl
      rw [e3, hr]
  · obtain ⟨seen', e⟩ := no_dot text s start out seen hs h1
    exact ⟨2, seen', by omega, e⟩
theorem last_start (text : Array Nat) (start : Nat) (out : Bool) (seen : Seen) : (M.runFor 3 (st text text.size start out seen)).outcome = some .failed := by
  have e1 : (st text text.size start out seen).step = { st text text.size start out seen with seen := seen.add 16, answer := some false } := by
    show M.exec (st text text.size start out seen) = _
    unfold M.exec
    have : ops[(st text text.size start out seen).word 0]? = some .LITERAL := rfl
    simp only [this]
    show (if text.size ≥ text.size then _ else _) = _
    rw [if_pos (Nat.le_refl _)]
    rfl
  rw [runFor_step rfl, e1, runFor_step rfl]
  have e2 : M.step { st text text.size start out seen with seen := seen.add 16, answer := some false } = { st text text.size start out (seen.add 16) with frames := [], weight := 0, answer := some false } := by
    show (if (false : Bool) = true then _ else if text.size < text.size then _ else _) = _
    rw [if_neg (by decide), if_neg (Nat.lt_irrefl _)]
    rfl
  rw [e2]
  rfl
/-- is there a dot and digits at the end -/
def found (text : Array Nat) : Nat → Nat → Bool
  | 0, _ => false
  | k + 1, s => hit text s || found text k (s + 1)
theorem from_start (text : Array Nat) (hz : text.size ≤ 1000000) : ∀ (k s start : Nat) (out : Bool) (seen : Seen), s + k = text.size →
    ∃ N, N ≤ (k + 1) * (2 * text.size + 10) ∧ (M.runFor N (st text s start out seen)).outcome = some (if found text k s then .matched else .failed)
  | 0, s, start, out, seen, h => by
    have : s = text.size := by omega
    subst this
    exact ⟨3, by omega, last_start text start out seen⟩
  | k + 1, s, start, out, seen, h => by
    cases hh : hit text s with
    | true =>
      refine ⟨7, ?_, ?_⟩
      · have : 1 * (2 * text.size + 10) ≤ (k + 1 + 1) * (2 * text.size + 10) := Nat.mul_le_mul_right _ (by omega)
        omega
      · rw [hit_end text s start out seen (by omega) hz hh]
        rw [show found text (k + 1) s = (hit text s || found text k (s + 1)) from rfl, hh]; rfl
    | false =>
      obtain ⟨j, seen', hj, e⟩ := no_hit text s start out seen (by omega) hz hh
      obtain ⟨N, hN, e'⟩ := from_start text hz k (s + 1) (s + 1) false seen' (by omega)
      refine ⟨j + N, ?_, ?_⟩
      · rw [show (k + 1 + 1) * (2 * text.size + 10) = (2 * text.size + 10) + (k + 1) * (2 * text.size + 10) by rw [Nat.add_mul (k + 1) 1, Nat.one_mul, Nat.add_comm]]
        omega
      · rw [runFor_add, e, e']
        rw [show found text (k + 1) s = (hit text s || found text k (s + 1)) from rfl, hh, Bool.false_or]
def isNum (text : Array Nat) : Bool := if text.size < 2 then false else found text text.size 0
theorem search_runs (text : Array Nat) (hz : text.size ≤ 1000000) : ∃ N, N ≤ 10000000000000 ∧ (M.runFor N (forSearch code4 text 0 0 text.size false)).outcome = some (if isNum text then .matched else .failed) := by
  unfold isNum
  by_cases h : text.size < 2
  · rw [if_pos h]
    obtain ⟨h1, h2, h3⟩ := start_small text h
    refine ⟨1, by omega, ?_⟩
    rw [runFor_step h1]
    show (M.step _).outcome = _
    unfold M.step
    rw [h1, h2, h3]
    rfl
  · rw [if_neg h, start_big text (by omega)]
    obtain ⟨N, hN, e⟩ := from_start text hz text.size 0 0 true (({} : Seen).add 14) (by omega)
    refine ⟨N, ?_, e⟩
    have : (text.size + 1) * (2 * text.size + 10) ≤ 1000001 * 2000010 := Nat.mul_le_mul (by omega) (by omega)
    omega
end Mine.Re
end
section
open PySem PySem.W PyProof.Rows PySem.Calls PySem.Spec
set_option maxRecDepth 100000
namespace Mine.Re
open PySem.Sre PySem.Builtin.Re
theorem plainAttrs : PlainAttrs "re.Pattern" :=
  ⟨⟨"object.__getattribute__", by rw [typeLookup_type, builtinLookup_eq_fast]; kernel_rfl, by decide +kernel⟩, by rw [typeLookup_type, builtinLookup_eq_fast]; kernel_rfl⟩
theorem slot_search : Slot "re.Pattern" "search" "re.Pattern.search" :=
  .of (owner := "re.Pattern") (n := "search") (by rw [typeLookup_type, builtinLookup_eq_fast]; kernel_rfl) (by decide +kernel) (by decide +kernel) (by decide +kernel)
    (by first | exact .inl (by decide +kernel) | exact .inr (by decide +kernel)) (by rw [isSubtype_type]; kernel_rfl)
theorem type_search : typeOf (.builtin "re.Pattern.search") = pure (.type "method_descriptor") := by show builtinType _ = _; rw [builtinType_eq_fast]; kernel_rfl
theorem entry_search : entryFor table "re.Pattern.search" = some Builtin.«re.Pattern.search» := entryFor_of_tree (by kernel_rfl)
theorem owner_Pattern : Manifest.owners.lookup (String.ofList ['n', 'r', 'e', 't', 't', 'a', 'P', '.', 'e', 'r'].reverse) = some Manifest.sig_re_Pattern := by kernel_rfl
theorem args_search (a b : Value) : argsOk "re.Pattern.search" ⟨[a, b], []⟩ := by
  unfold argsOk; rw [signature?_of (id := "re.Pattern.search") (n := ['h', 'c', 'r', 'a', 'e', 's']) (o := ['n', 'r', 'e', 't', 't', 'a', 'P', '.', 'e', 'r']) (by kernel_rfl) owner_Pattern]; kernel_rfl
theorem noBool_Match : typeLookup (.type "re.Match") "__bool__" = pure none := by rw [typeLookup_type, builtinLookup_eq_fast]; kernel_rfl
theorem noLen_Match : typeLookup (.type "re.Match") "__len__" = pure none := by rw [typeLookup_type, builtinLookup_eq_fast]; kernel_rfl
section
variable {C : Cx} {A : Around} {s : Shared}
theorem truthy_match {a : Addr} {Q : Bool → Shared → Prop} (hT : s.TypeIs (.ref a) "re.Match") (h : Q true s) : Wp C A (truthy (.ref a)) Q s := by
  unfold truthy
  refine wpAny_bind (wpAny_callSpecial?_none (name := Str.ofString "__bool__") hT noBool_Match ?_)
  refine wpAny_bind (wpAny_specialOf (name := Str.ofString "__len__") hT noLen_Match ?_)
  exact wpAny_pure h
theorem drive : ∀ (turns : Nat) (m : Sre.M) (N : Nat) (o : Sre.Outcome) (Q : Sre.M → Shared → Prop), N ≤ 4 * turns → 0 < turns → (M.runFor N m).outcome = some o → (∀ m', m'.outcome = some o → Q m' s) → Wp C A (reDrive turns m) Q s
  | 0, _, _, _, _, _, h, _, _ => absurd h (Nat.lt_irrefl 0)
  | t + 1, m, N, o, Q, hN, _, ho, hq => by
    show Wp C A (if (M.runFor 4 m).outcome.isSome then pure (M.runFor 4 m) else do rule "sre.turn"; reDrive t (M.runFor 4 m)) Q s
    have hsome : (M.runFor N m).outcome.isSome = true := by rw [ho]; rfl
    cases h4 : (M.runFor 4 m).outcome.isSome with
    | true =>
      simp only [if_true]
      refine wpAny_pure (hq _ ?_)
      rcases Nat.le_total 4 N with h | h
      · have e : M.runFor N m = M.runFor 4 m := by
          rw [show N = 4 + (N - 4) by omega, runFor_add, runFor_end h4]
        rw [← e]; exact ho
      · have e : M.runFor 4 m = M.runFor N m := by
          rw [show 4 = N + (4 - N) by omega, runFor_add, runFor_end hsome]
        rw [e]; exact ho
    | false =>
      simp only [Bool.false_eq_true, if_false]
      have h : 4 < N := by
        rcases Nat.lt_or_ge 4 N with h | h
        · exact h
        · have e : M.runFor 4 m = M.runFor N m := by
            rw [show 4 = N + (4 - N) by omega, runFor_add, runFor_end hsome]
          rw [e, hsome] at h4; cases h4
      refine wpAny_bind (wpAny_rule (drive t (M.runFor 4 m) (N - 4) o Q (by omega) (by omega) ?_ hq))
      rw [← runFor_add, show 4 + (N - 4) = N by omega]
      exact ho
theorem say_all (c : Nat → Bool) (g : Nat → String) : ∀ (l : List Nat) (Q : PUnit → Shared → Prop), Q ⟨⟩ s → Wp C A (forIn l PUnit.unit fun i r => if c i = true then do rule (g i); pure (ForInStep.yield PUnit.unit) else pure (ForInStep.yield PUnit.unit)) Q s
  | [], Q, h => wpAny_pure h
  | i :: l, Q, h => by
    rw [List.forIn_cons]
    refine wpAny_bind ?_
    cases c i
    · exact wpAny_pure (say_all c g l Q h)
    · exact wpAny_bind (wpAny_rule (wpAny_pure (say_all c g l Q h)))
theorem runToEnd {m : Sre.M} {N : Nat} {b : Bool} {Q : Option Sre.M → Shared → Prop} (hN : N ≤ 10000000000000) (ho : (M.runFor N m).outcome = some (if b then .matched else .failed)) (hq : if b then ∀ m', Q (some m') s else Q none s) : Wp C A (reRunToEnd m) Q s := by
  unfold reRunToEnd
  refine wpAny_bind (drive (2 ^ 64) m N _ _ (by omega) (by omega) ho fun m' hm' => ?_)
  refine wpAny_bind (say_all (fun i => m'.seen.has i) (fun i => Sre.names.getD i "") _ _ ?_)
  rw [hm']
  cases b with
  | true => exact wpAny_pure (hq m')
  | false => exact wpAny_pure hq

/-- the pattern, as it lies in the ground -/
structure IsPat (h : Heap) (p : Addr) : Prop where
  obj : ∃ o vs q n, h.get? p = some o ∧ o.cls = .type "re.Pattern" ∧ o.dict = none ∧ o.data = .fields vs ∧ vs[5]? = some (.ref q) ∧ vs.getD 5 .none = .ref q ∧ reRawNat (vs.getD 6 .none) = 0 ∧ reRawNat (vs.getD 2 .none) = 0 ∧
    ∃ oq vq, h.get? q = some oq ∧ oq.data = .seq vq n ∧ (vq.map reRawOf).map (·.toNat) = code4
theorem IsPat.keeps {h h' : Heap} {p : Addr} (x : IsPat h p) (k : ∀ b o, h.get? b = some o → h'.get? b = some o) : IsPat h' p := by
  obtain ⟨o, vs, q, n, h1, h2, h3, h4, h5, h5', h6, h7, oq, vq, h8, h9⟩ := x.obj
  exact ⟨o, vs, q, n, k _ _ h1, h2, h3, h4, h5, h5', h6, h7, oq, vq, k _ _ h8, h9⟩
theorem named_eq (id f : String) (v : Value) : reNamed id f ["string", "pos", "endpos"] 1 [v] [] = pure [some v, none, none] := rfl
theorem search_call {p : Addr} {x : Str} {t : Tok} {Q : Value → Shared → Prop} (hp : IsPat s.heap p) (hx : x.length ≤ 1000000) (hq : if isNum x.cps then ∀ s' a, Kp s s' → s'.TypeIs (.ref a) "re.Match" → Q (.ref a) s' else Q .none s) :
    Wp C A (call (.builtin "re.Pattern.search") [.ref p, .str x t]) Q s := by
  obtain ⟨o, vs, q, n, h1, h2, h3, h4, h5, h5', h6, h7, oq, vq, h8, h9, h10⟩ := hp.obj
  have hT : s.TypeIs (.ref p) "re.Pattern" := ⟨o, h1, h2⟩
  refine wpAny_call_entry slot_search hT entry_search ?_ (args_search _ _)
  unfold Builtin.«re.Pattern.search»
  refine wpAny_bind ?_
  unfold reTarget
  refine wpAny_bind (wpAny_of_eq (named_eq _ _ _) ?_)
  refine wpAny_bind (wpAny_pure (wpAny_bind (wpAny_pure ?_)))
  refine wpAny_bind (wpAny_fieldsOf h1 h4 ?_)
  unfold reTextOf
  refine wpAny_bind (wpAny_bind (wpAny_pure (wpAny_pure ?_)))
  simp only [h6, h7, h5']
  rw [if_neg (by decide), if_neg (by decide)]
  unfold reNoCollectionInside
  refine wpAny_bind ?_
  show Wp C A.in1 (if ((0 : Nat) == 1) = true then _ else pure ()) _ s
  rw [if_neg (by decide)]
  refine wpAny_pure ?_
  unfold reRawItems
  refine wpAny_bind (wpAny_bind (wpAny_seqItems h8 h9 (wpAny_pure (wpAny_pure ?_))))
  have hlim : min (2 ^ 63 - 1 : Int).toNat x.cps.size = x.cps.size := by
    have : x.cps.size ≤ 1000000 := hx
    omega
  have hpos : min (Int.toNat 0) x.cps.size = 0 := by simp
  simp only [Option.getD_some, h10, hlim, hpos]
  obtain ⟨N, hN, ho⟩ := search_runs x.cps hx
  unfold reAnswer
  refine wpAny_bind (runToEnd hN ho ?_)
  cases hb : isNum x.cps with
  | false =>
    rw [hb] at hq
    exact wpAny_pure ⟨_, rfl, hq⟩
  | true =>
    rw [hb] at hq
    intro m'
    refine wpAny_bind ?_
    unfold reNewMatch
    show Wp C A.in1 (do
      let tup ← newTuple (rawInt m'.start :: rawInt m'.handed :: [])
      newFields "re.Match" [Value.str x t, Value.ref p, rawInt 0, rawInt x.cps.size, rawInt m'.lastindex, tup]) _ s
    refine wpAny_bind (wpAny_newTuple ?_ (by simp [sizeLine]))
    refine wpAny_newObj_type (wpAny_pure ⟨_, rfl, hq _ _ ?_ ⟨_, Heap.get?_push_size _ rfl, rfl⟩⟩)
    exact kHeap (t := s.toks) (fun b o e => Heap.get?_push_of_some _ (Heap.get?_push_of_some _ e)) (Nat.le_refl _)
end
end Mine.Re
namespace Mine
section
variable {C : Cx} {n : Nat} {nm : Names} {ρ : Rho}
/-- the test IPV4_RE.search(text) -/
theorem Tst.search {e : Expr} {px apos pos : Pos} {p : Addr} {x : Str} (i : Nat) (hi : nm[i]? = some (("IPV4_RE" : Str), NameKind.globalImplicit)) (hK : nsIn C.K mainGlobals ("IPV4_RE" : Str) = some (some (.ref p))) (hp : ∀ h, C.K.In h → Re.IsPat h p) (h : Ev C n nm ρ e 0 (.str x)) (hx : x.length ≤ 1000000)
    (hst : ∀ env, starEach [e] env = [(false, eval e env)] := by first | exact n1_Constant | exact n1_Name | exact n1_BinOp | exact n1_Call | exact n1_Subscript | exact n1_List | exact n1_Tuple | exact n1_ListComp | exact n1_Compare | exact n1_BoolOp | exact n1_UnaryOp | exact n1_IfExp | exact n1_JoinedStr | exact n1_Dict | exact ns_Constant | exact ns_Name | exact ns_BinOp | exact ns_Call | exact ns_Subscript | exact ns_List | exact ns_Tuple | exact ns_ListComp | exact ns_Compare | exact ns_BoolOp | exact ns_UnaryOp | exact ns_IfExp | exact ns_JoinedStr | exact ns_Dict | (intro _; rfl)) (hline : (apos.endLine == pos.line) = true := by rfl) :
    Tst C n nm ρ (.Call (.Attribute (.Name "IPV4_RE" px) "search" apos) [e] [] pos) (Re.isNum x.cps) := .mk fun A env X s o ok p' =>
  wpAny_isTrue_value (Call_method1 rfl (hst env) hline (load_glob ok p' (lookup_at ok.nodup hi) hK (by
    have hpat := hp _ (C.inK.keeps p'.gr.old)
    obtain ⟨ob, vs, q, m, h1, h2, h3, _⟩ := hpat.obj
    refine ⟨"re.Pattern", _, Re.plainAttrs, Re.slot_search, Re.type_search, ⟨ob, h1, h2⟩, (fun _ h => by cases h; exact ⟨ob, h1, h3⟩), callWith_builtin rfl (evalArgs_plain (spliced_cons (h.then0 o ok p' fun v s₁ k p₁ r => spliced_nil ?_)))⟩
    cases r with
    | str _ t _ =>
      refine Re.search_call (hpat.keeps (kGet k)) hx ?_
      cases hb : Re.isNum x.cps with
      | false => exact truthy_none ⟨k, rfl⟩
      | true => exact fun s' a k' hT => Re.truthy_match hT ⟨kTrans k k', rfl⟩) (by decide) px)) rfl
end
end Mine
end
section
open PySem PySem.W PyProof.Rows PySem.Calls PySem.Spec
set_option maxRecDepth 100000
namespace Mine
section
variable {C : Cx} {n : Nat} {nm : Names} {ρ : Rho}
theorem Ev.lower {o : Expr} {apos pos : Pos} {x : Str} (h : Ev C n nm ρ o 0 (.str x)) (hf : Builtin.Str.tooLong (Txt.lower x).length = false) (ho : PyData.strOk (Txt.lower x) = true)
    (hbase : ∀ env, attributeBase o "lower" env (eval o env) = eval o env := by intro _; rfl) (hline : (apos.endLine == pos.line) = true := by rfl) : Ev C n nm ρ (.Call (.Attribute o "lower" apos) [] [] pos) 0 (.str (Txt.lower x)) := .mk fun A env X s oo ok p =>
  Call_method0 (hbase env) hline (h.then0 oo ok p fun v s₁ k p₁ r => by
    cases r with
    | str _ t _ => exact SB.lower hf (.mk (kTrans k (kToks (Nat.le_succ _))) (.str _ _ ho)))
theorem Ev.upper {o : Expr} {apos pos : Pos} {x : Str} (h : Ev C n nm ρ o 0 (.str x)) (hf : Builtin.Str.tooLong (Txt.upper x).length = false) (ho : PyData.strOk (Txt.upper x) = true)
    (hbase : ∀ env, attributeBase o "upper" env (eval o env) = eval o env := by intro _; rfl) (hline : (apos.endLine == pos.line) = true := by rfl) : Ev C n nm ρ (.Call (.Attribute o "upper" apos) [] [] pos) 0 (.str (Txt.upper x)) := .mk fun A env X s oo ok p =>
  Call_method0 (hbase env) hline (h.then0 oo ok p fun v s₁ k p₁ r => by
    cases r with
    | str _ t _ => exact SB.upper hf (.mk (kTrans k (kToks (Nat.le_succ _))) (.str _ _ ho)))
theorem Ev.startswith {o e : Expr} {apos pos : Pos} {x y : Str} (h : Ev C n nm ρ o 0 (.str x)) (h' : Ev C n nm ρ e 0 (.str y))
    (hbase : ∀ env, attributeBase o "startswith" env (eval o env) = eval o env := by intro _; rfl) (hst : ∀ env, starEach [e] env = [(false, eval e env)] := by first | exact n1_Constant | exact n1_Name | exact n1_BinOp | exact n1_Call | exact n1_Subscript | exact n1_List | exact n1_Tuple | exact n1_ListComp | exact n1_Compare | exact n1_BoolOp | exact n1_UnaryOp | exact n1_IfExp | exact n1_JoinedStr | exact n1_Dict | exact ns_Constant | exact ns_Name | exact ns_BinOp | exact ns_Call | exact ns_Subscript | exact ns_List | exact ns_Tuple | exact ns_ListComp | exact ns_Compare | exact ns_BoolOp | exact ns_UnaryOp | exact ns_IfExp | exact ns_JoinedStr | exact ns_Dict | (intro _; rfl)) (hline : (apos.endLine == pos.line) = true := by rfl) : Ev C n nm ρ (.Call (.Attribute o "startswith" apos) [e] [] pos) 0 (.bool (Txt.startswith x y)) := .mk fun A env X s oo ok p =>
  Call_method1 (hbase env) (hst env) hline (h.then0 oo ok p fun v s₁ k p₁ r => by
    cases r with
    | str _ t _ => exact SB.startswith (h'.then0 oo ok p₁ fun u s₂ k₂ p₂ r₂ => by
        cases r₂ with
        | str _ t' _ => exact ⟨_, _, rfl, .mk (kTrans k k₂) (.bool _)⟩))
theorem Ev.endswith {o e : Expr} {apos pos : Pos} {x y : Str} (h : Ev C n nm ρ o 0 (.str x)) (h' : Ev C n nm ρ e 0 (.str y))
    (hbase : ∀ env, attributeBase o "endswith" env (eval o env) = eval o env := by intro _; rfl) (hst : ∀ env, starEach [e] env = [(false, eval e env)] := by first | exact n1_Constant | exact n1_Name | exact n1_BinOp | exact n1_Call | exact n1_Subscript | exact n1_List | exact n1_Tuple | exact n1_ListComp | exact n1_Compare | exact n1_BoolOp | exact n1_UnaryOp | exact n1_IfExp | exact n1_JoinedStr | exact n1_Dict | exact ns_Constant | exact ns_Name | exact ns_BinOp | exact ns_Call | exact ns_Subscript | exact ns_List | exact ns_Tuple | exact ns_ListComp | exact ns_Compare | exact ns_BoolOp | exact ns_UnaryOp | exact ns_IfExp | exact ns_JoinedStr | exact ns_Dict | (intro _; rfl)) (hline : (apos.endLine == pos.line) = true := by rfl) : Ev C n nm ρ (.Call (.Attribute o "endswith" apos) [e] [] pos) 0 (.bool (Txt.endswith x y)) := .mk fun A env X s oo ok p =>
  Call_method1 (hbase env) (hst env) hline (h.then0 oo ok p fun v s₁ k p₁ r => by
    cases r with
    | str _ t _ => exact SB.endswith (h'.then0 oo ok p₁ fun u s₂ k₂ p₂ r₂ => by
        cases r₂ with
        | str _ t' _ => exact ⟨_, _, rfl, .mk (kTrans k k₂) (.bool _)⟩))
theorem Ev.find {o e : Expr} {apos pos : Pos} {x y : Str} (h : Ev C n nm ρ o 0 (.str x)) (h' : Ev C n nm ρ e 0 (.str y))
    (hbase : ∀ env, attributeBase o "find" env (eval o env) = eval o env := by intro _; rfl) (hst : ∀ env, starEach [e] env = [(false, eval e env)] := by first | exact n1_Constant | exact n1_Name | exact n1_BinOp | exact n1_Call | exact n1_Subscript | exact n1_List | exact n1_Tuple | exact n1_ListComp | exact n1_Compare | exact n1_BoolOp | exact n1_UnaryOp | exact n1_IfExp | exact n1_JoinedStr | exact n1_Dict | exact ns_Constant | exact ns_Name | exact ns_BinOp | exact ns_Call | exact ns_Subscript | exact ns_List | exact ns_Tuple | exact ns_ListComp | exact ns_Compare | exact ns_BoolOp | exact ns_UnaryOp | exact ns_IfExp | exact ns_JoinedStr | exact ns_Dict | (intro _; rfl)) (hline : (apos.endLine == pos.line) = true := by rfl) : Ev C n nm ρ (.Call (.Attribute o "find" apos) [e] [] pos) 0 (.int (Txt.find x y)) := .mk fun A env X s oo ok p =>
  Call_method1 (hbase env) (hst env) hline (h.then0 oo ok p fun v s₁ k p₁ r => by
    cases r with
    | str _ t _ => exact SB.find (h'.then0 oo ok p₁ fun u s₂ k₂ p₂ r₂ => by
        cases r₂ with
        | str _ t' _ => exact ⟨_, _, rfl, .mk (kTrans k (kTrans k₂ (kToks (Nat.le_succ _)))) (.int _ _)⟩))
/-- x.replace(y, z) for two different constants -/
theorem Ev.replace {o : Expr} {y z : Str} {k₁ k₂ : Nat} {p₁ p₂ apos pos : Pos} {x : Str} (h : Ev C n nm ρ o 0 (.str x)) (hyz : (y == z) = false) (hz : x.length + (x.length + 1) * z.length ≤ 16777216) (ho : PyData.strOk (Txt.replace x y z) = true)
    (hbase : ∀ env, attributeBase o "replace" env (eval o env) = eval o env := by intro _; rfl) (hline : (apos.endLine == pos.line) = true := by rfl) :
    Ev C n nm ρ (.Call (.Attribute o "replace" apos) [.Constant (.str y) k₁ p₁, .Constant (.str z) k₂ p₂] [] pos) 0 (.str (Txt.replace x y z)) := .mk fun A env X s oo ok p => wp_up (
  Call_method2 (hbase env) rfl hline (h.then0 oo ok p fun v s₁ k pp r => by
    cases r with
    | str _ t _ =>
      refine ⟨"str", _, F.plainAttrs_str, F.slot_str_replace, F.type_str_replace, typeIs_str _ _ _, (fun _ e => nomatch e), callWith_builtin rfl (evalArgs_plain (spliced_cons (wpAny_Constant_str (spliced_cons (wpAny_Constant_str (spliced_nil ?_))))))⟩
      have h1 := pp.gr.toks
      refine SC.replace (x := x) (t := t) (by show s₁.toks ≠ 0; omega) (by show s₁.toks + 1 ≠ 0; omega) (by show s₁.toks ≠ s₁.toks + 1; omega) hyz hz fun t' k' l => ?_
      refine .mk ⟨?_, l⟩ (.str _ _ ho)
      obtain ⟨⟨h, t, rfl, kk⟩, _⟩ := k
      exact ⟨h, k', rfl, kk⟩))
/-- x.split(y)[0] for a constant y -/
theorem Ev.splitHead {o : Expr} {y : Str} {k₁ k₀ : Nat} {p₁ p₀ apos cpos pos : Pos} {x z : Str} {l : List Str} (h : Ev C n nm ρ o 0 (.str x)) (hy : (y.length == 0) = false) (hx : x.length ≤ 1000000)
    (hn : (Builtin.Str.partsBetween x (Builtin.Str.occurrences x y 0 x.length (x.length + 1)) y.length).length ≤ sizeLine) (hl : Txt.split x y = z :: l) (ho : PyData.strOk z = true)
    (hbase : ∀ env, attributeBase o "split" env (eval o env) = eval o env := by intro _; rfl) (hline : (apos.endLine == cpos.line) = true := by rfl) :
    Ev C n nm ρ (.Subscript (.Call (.Attribute o "split" apos) [.Constant (.str y) k₁ p₁] [] cpos) (.Constant (.int 0) k₀ p₀) pos) 0 (.str z) := .mk fun A env X s oo ok p => wp_up (
  Subscript_ (Call_method1 (hbase env) rfl hline (h.then0 oo ok p fun v s₁ k pp r => by
    cases r with
    | str _ t _ =>
      have hk : KeptByPush (fun z => Keeps s z) := fun z ob tk hz => by obtain ⟨h, t, rfl, k⟩ := hz; exact ⟨_, tk, rfl, fun b o e' => Heap.get?_push_of_some _ (k b o e')⟩
      refine SBG.split1 (Fm := fun z => Keeps s z) hk (wpAny_Constant_str ⟨y, _, rfl, hy, ?_, hn, fun D ll s₂ hm hs₂ hD => ?_⟩) (by simp only [sizeLine]; omega)
      · obtain ⟨h, t, rfl, kk⟩ := k.1; exact ⟨h, _, rfl, kk⟩
      · rw [hl] at hm
        obtain ⟨⟨z', tz⟩, ll', rfl⟩ : ∃ q ll', ll = q :: ll' := by cases ll with | nil => simp at hm | cons q ll' => exact ⟨q, ll', rfl⟩
        simp at hm
        obtain ⟨rfl, _⟩ := hm
        refine wpAny_Constant_int (tail_any hD.typeIs PySem.slot_list_getitem.lookup (wpAny_getItem_list (x := .str z' tz) hD (by omega) (by omega) (by simp [strValues]) fun l => ?_) rfl)
        refine .mk ⟨?_, l⟩ (.str _ _ ho)
        obtain ⟨h, t, rfl, kk⟩ := hs₂
        exact ⟨h, _, rfl, kk⟩)))
/-- an f-string of a constant, a name's text and a constant -/
theorem Ev.joined {e : Expr} {a b : Str} {k₁ k₂ : Nat} {p₁ p₂ p₃ pos : Pos} {y : Str} (h : Ev C n nm ρ e 0 (.str y)) (ha : a.length ≤ 1000) (hb : b.length ≤ 1000) (hy : y.length ≤ 1000000) (oa : PyData.strOk a = true) (ob : PyData.strOk b = true) :
    Ev C n nm ρ (.JoinedStr [.Constant (.str a) k₁ p₁, .FormattedValue e 115 Option.none p₂, .Constant (.str b) k₂ p₃] pos) 0 (.str (a ++ y ++ b)) := .mk fun A env X s oo ok p => wp_up (by
  have e0 : Str.empty ++ a = a := Str.append_left_empty rfl
  refine wpAny_JoinedStr (Joins_cons (wpAny_Constant_str ⟨_, _, rfl, ?_, Joins_cons (wpAny_FormattedValue_s (h.then0 oo ok (p.keeps (kToks (Nat.le_succ _))) fun v s₁ k p₁ r => ?_))⟩))
  · rw [e0]; simp only [sizeLine]; omega
  · cases r with
    | str _ t q =>
      have fin : ∀ (s₂ : Shared) (t₂ : Tok), Keeps s s₂ → ∃ y' t', Value.str y t₂ = .str y' t' ∧ (Str.empty ++ a ++ y').length ≤ sizeLine ∧ Joins (model C.prog C.w) A NoE (evalEach [.Constant (.str b) k₂ p₃] env) (Str.empty ++ a ++ y')
          (fun out s₁ => out.length ≤ sizeLine ∧ (s.toks ≤ ({ s₁ with toks := s₁.toks + 1 } : Shared).toks → Gives C X 0 (.str (a ++ y ++ b)) s (.str out s₁.toks) { s₁ with toks := s₁.toks + 1 })) s₂ := fun s₂ t₂ hk => by
        refine ⟨y, t₂, rfl, ?_, Joins_cons (wpAny_Constant_str ⟨_, _, rfl, ?_, Joins_nil ⟨?_, fun l => ?_⟩⟩)⟩
        · rw [e0, Str.length_append]; simp only [sizeLine]; omega
        · rw [e0, Str.length_append, Str.length_append]; simp only [sizeLine]; omega
        · rw [e0, Str.length_append, Str.length_append]; simp only [sizeLine]; omega
        · rw [e0]
          refine .mk ⟨?_, l⟩ (.str _ _ (strOk_append (strOk_append oa q) ob))
          obtain ⟨h, t, rfl, kk⟩ := hk
          exact ⟨h, _, rfl, kk⟩
      have hk₁ : Keeps s s₁ := by
        obtain ⟨h, t, rfl, kk⟩ := k.1; exact ⟨h, _, rfl, kk⟩
      have hy' : y.length ≤ sizeLine := by simp only [sizeLine]; omega
      refine SB.convS_str (fun t₁ k₁ => SB.field_str (fun t₂ k₂ => fin _ _ ?_) hy') hy'
      obtain ⟨h, t, rfl, kk⟩ := hk₁
      exact ⟨h, _, rfl, kk⟩)

/-- an empty dict of one's own -/
theorem EvF.dict0 {pos : Pos} : EvF C n nm ρ (.Dict [] [] pos) 1 (.dict []) := .mk fun A env X s oo ok p =>
  wpAny_Dict_empty ⟨kPush (t := s.toks) _ (Nat.le_refl _), [s.heap.objs.size], .dict (kvs := []) (fun h => by have := (C.g.keeps p.gr.old).lt; rw [h] at this; exact absurd this (by decide)) ⟨_, #[], 0, Heap.get?_push_size _ rfl, ⟨rfl, rfl, rfl⟩, rfl, fun _ h => absurd h (by simp), .nil, List.nodup_nil⟩ .nil, fun b hb => by simp at hb; subst hb; exact size_none (Nat.le_refl _), by simp⟩
theorem EvF.list {es : List Expr} {ds : List D} {pos : Pos} (h : Evs C n nm ρ es ds) (hz : ds.length ≤ 1000) : EvF C n nm ρ (.List es pos) 1 (.list ds) := .mk fun A env X s o ok p =>
  wpAny_List_spliced (wp_mono (h.run A env X s o ok p) fun vs s' ⟨k, q⟩ => ⟨by simp only [sizeLine]; rw [q.length]; omega, kTrans k (kPush (t := s'.toks) _ (Nat.le_refl _)), [s'.heap.objs.size],
    .list (vs := vs) (n := 0) (Heap.get?_push_size _ rfl) (RepL.toO (q.keep ⟨fun b o _ e => Heap.get?_push_of_some _ e, fun b o e m => by
      rcases List.mem_append.mp m with m | m
      · simp at m; subst m; exact absurd (Heap.lt_size e) (Nat.lt_irrefl _)
      · exact m⟩)), fun b hb => by simp at hb; subst hb; exact kNone k (size_none (Nat.le_refl _)), by simp⟩)
end
end Mine
end
section
open PySem PySem.W PyProof.Rows PySem.Calls PySem.Spec
set_option maxRecDepth 100000
namespace Mine
def nmOk (nm : Names) (k : Nat) : Bool :=
  decide (nm.map (·.1)).Nodup && nm.all (fun p => !(p.1 == ("__debug__" : Str)) && !(p.1 == ("__classdict__" : Str)) && !(p.2 == .free)) && (nm.take k).all fun p => p.2 == .local || p.2 == .cell
theorem NmOk.of {nm : Names} {k : Nat} (h : nmOk nm k = true) : NmOk nm k := by
  unfold nmOk at h
  simp only [Bool.and_eq_true, decide_eq_true_eq, List.all_eq_true, Bool.not_eq_true', Bool.or_eq_true, beq_iff_eq] at h
  obtain ⟨⟨h1, h2⟩, h3⟩ := h
  exact ⟨h1, fun p hp => ⟨(h2 p hp).1.1, (h2 p hp).1.2⟩, fun p hp e => by have := (h2 p hp).2; rw [e] at this; exact absurd this (by decide), fun p hp => h3 p hp⟩
def cmOk (nm nm' : Names) : Bool :=
  decide (nm'.map (·.1)).Nodup && nm'.all (fun p => !(p.1 == ("__debug__" : Str)) && !(p.1 == ("__classdict__" : Str))) && nm'.all fun p => !(p.2 == .free) || (nm.lookup p.1 == some .cell || nm.lookup p.1 == some .free)
theorem CmOk.of {nm nm' : Names} (h : cmOk nm nm' = true) : CmOk nm nm' := by
  unfold cmOk at h
  simp only [Bool.and_eq_true, decide_eq_true_eq, List.all_eq_true, Bool.not_eq_true', Bool.or_eq_true, beq_iff_eq] at h
  obtain ⟨⟨h1, h2⟩, h3⟩ := h
  exact ⟨h1, fun p hp => h2 p hp, fun p hp e => by
    rcases h3 p hp with h | h
    · rw [e] at h; exact absurd h (by decide)
    · exact h⟩
/-- the comprehension's names' values: by the places of the outer names -/
def rhoC (fr : List (Option Nat)) (ρ : Rho) : Rho := fr.map fun o => match o with
  | some j => (match ρ[j]? with
    | some (some (0, d)) => some (0, d)
    | _ => none)
  | none => none
def frOk (nm nm' : Names) (fr : List (Option Nat)) : Bool :=
  (nm'.zip fr).all fun q => match q.2 with
    | none => true
    | some j => q.1.2 == .free && (match nm[j]? with
      | some r => r.1 == q.1.1 && (r.2 == .cell || r.2 == .free)
      | none => false)
theorem RhoC.of {nm nm' : Names} {ρ : Rho} {fr : List (Option Nat)} (h : frOk nm nm' fr = true) (hl : fr.length = nm'.length) : RhoC nm ρ nm' (rhoC fr ρ) := by
  refine ⟨fun i k d e => ?_⟩
  unfold rhoC at e
  rw [List.getElem?_map] at e
  cases ho : fr[i]? with
  | none => rw [ho] at e; cases e
  | some o =>
    rw [ho] at e
    cases o with
    | none => cases e
    | some j =>
      simp only [Option.map_some, Option.some.injEq] at e
      split at e
      · rename_i d' hd'
        cases e
        have hi : i < nm'.length := by rw [← hl]; exact (List.getElem?_eq_some_iff.mp ho).1
        have hnm : nm'[i]? = some nm'[i] := List.getElem?_eq_getElem hi
        have hz : (nm'[i], some j) ∈ nm'.zip fr := by
          refine List.mem_of_getElem? (i := i) ?_
          rw [List.getElem?_zip_eq_some]
          exact ⟨hnm, ho⟩
        unfold frOk at h
        rw [List.all_eq_true] at h
        have h1 := h _ hz
        simp only [Bool.and_eq_true, beq_iff_eq] at h1
        obtain ⟨h2, h3⟩ := h1
        cases hj : nm[j]? with
        | none => rw [hj] at h3; cases h3
        | some r =>
          rw [hj] at h3
          simp only [Bool.and_eq_true, Bool.or_eq_true, beq_iff_eq] at h3
          refine ⟨rfl, nm'[i].1, j, r.2, ?_, ?_, h3.2, hd'⟩
          · rw [hnm, ← h2]
          · rw [← h3.1]; exact hj
      · cases e

section
variable {C : Cx} {n : Nat} {nm nm' : Names} {ρ ρ' : Rho}
theorem Less.set {p : Nat} {e : Option (Nat × D)} (h : ∀ e, ρ[p]? ≠ some (some e)) : Less ρ (ρ.set p e) := fun i x hx => by
  by_cases hip : i = p
  · subst hip; exact absurd hx (h x)
  · rw [List.getElem?_set_ne (Ne.symm hip)]; exact hx
theorem cloop_filter {elt : Expr} {c : Expr} {N : Nat} {bind : Nat → Rho → Rho} {f : Nat → D} {t : Nat → Bool} (ht : ∀ i, i < N → Tst C n nm (bind i ρ) c (t i)) (h : ∀ i, i < N → t i = true → Ev C n nm (bind i ρ) elt 0 (f i)) :
    ∀ k i, i + k = N → CLoop C n nm [c] bind N (EM1 C n nm elt) ρ i (((List.range' i k).filter t).map f)
  | 0, i, e => by
    have : i = N := by omega
    subst this; exact .done
  | k + 1, i, e => by
    have r := cloop_filter ht h k (i + 1) (by omega)
    rw [List.range'_succ, List.filter_cons]
    cases hti : t i with
    | true =>
      simp only [if_true, List.map_cons]
      have ht' := ht i (by omega)
      rw [hti] at ht'
      exact CLoop.turn (ds := [f i]) (by omega) (.one ht') ⟨f i, rfl, h i (by omega) hti⟩ r
    | false =>
      simp only [Bool.false_eq_true, if_false]
      have ht' := ht i (by omega)
      rw [hti] at ht'
      exact CLoop.skip (by omega) (.one ht') r
theorem cloop_map {elt : Expr} {N : Nat} {bind : Nat → Rho → Rho} {f : Nat → D} (h : ∀ i, i < N → Ev C n nm (bind i ρ) elt 0 (f i)) :
    ∀ k i, i + k = N → CLoop C n nm [] bind N (EM1 C n nm elt) ρ i ((List.range' i k).map f)
  | 0, i, e => by
    have : i = N := by omega
    subst this; exact .done
  | k + 1, i, e => by
    have r := cloop_map h k (i + 1) (by omega)
    rw [List.range'_succ, List.map_cons]
    exact CLoop.turn (ds := [f i]) (by omega) .nil ⟨f i, rfl, h i (by omega)⟩ r
theorem map_getD {β : Type} (g : D → β) : ∀ (ds : List D), (List.range' 0 ds.length).map (fun i => g (getD ds i)) = ds.map g := fun ds => by
  apply List.ext_getElem?
  intro i
  rw [List.getElem?_map, List.getElem?_map]
  by_cases h : i < ds.length
  · rw [List.getElem?_range' (by simpa using h), List.getElem?_eq_getElem h]
    simp [getD, List.getElem?_eq_getElem h]
  · rw [List.getElem?_eq_none (by simp; omega), List.getElem?_eq_none (by omega)]; rfl
theorem map_getD2 {β : Type} (g : D × D → β) : ∀ (ds : List (D × D)), (List.range' 0 ds.length).map (fun i => g (getD2 ds i)) = ds.map g := fun ds => by
  apply List.ext_getElem?
  intro i
  rw [List.getElem?_map, List.getElem?_map]
  by_cases h : i < ds.length
  · rw [List.getElem?_range' (by simpa using h), List.getElem?_eq_getElem h]
    simp [getD2, List.getElem?_eq_getElem h]
  · rw [List.getElem?_eq_none (by simp; omega), List.getElem?_eq_none (by omega)]; rfl
theorem filter_getD (t : D → Bool) (g : D → D) (ds : List D) : ((List.range' 0 ds.length).filter fun i => t (getD ds i)).map (fun i => g (getD ds i)) = (ds.filter t).map g := by
  have h1 := map_getD (fun d => d) ds
  simp only [List.map_id'] at h1
  conv => rhs; rw [← h1]
  rw [List.filter_map, List.map_map]
  rfl
theorem getD_mem {ds : List D} {i : Nat} (h : i < ds.length) : getD ds i ∈ ds := by unfold getD; rw [List.getElem?_eq_getElem h]; exact List.getElem_mem h
theorem getD2_mem {ds : List (D × D)} {i : Nat} (h : i < ds.length) : getD2 ds i ∈ ds := by unfold getD2; rw [List.getElem?_eq_getElem h]; exact List.getElem_mem h

theorem Comp1.map1 {elt iter : Expr} {x : Str} {kd : NameKind} {px : Pos} {ds : List D} (fr : List (Option Nat)) (p : Nat) (g : D → D) (src : Src1 C n nm ρ iter ds) (hp : nm'[p]? = some (x, kd)) (q : cmOk nm nm' = true) (hf : frOk nm nm' fr = true) (hl : fr.length = nm'.length)
    (hρ : ∀ e, (rhoC fr ρ)[p]? ≠ some (some e)) (h : ∀ d, d ∈ ds → Ev C n nm' ((rhoC fr ρ).set p (some (0, d))) elt 0 (g d)) (hz : ds.length ≤ 100000) (hk : kd = .local ∨ kd = .cell := by first | exact .inl rfl | exact .inr rfl) (hs : ∀ env x, foldedSetIterable iter env x = pure x := by intro _ _; rfl) :
    Comp1 C n nm ρ elt (.Name x px) iter [] nm' (ds.map g) :=
  ⟨rhoC fr ρ, ds.length, _, .of q, .of hf hl, .of1 src p hp hk, fun i hi => .set hρ, by
    rw [← map_getD g ds]
    exact cloop_map (fun i hi => h _ (getD_mem hi)) ds.length 0 (by omega), by simpa using hz, hs⟩
theorem Comp1.filter1 {elt iter c : Expr} {x : Str} {kd : NameKind} {px : Pos} {ds : List D} (fr : List (Option Nat)) (p : Nat) (g : D → D) (t : D → Bool) (src : Src1 C n nm ρ iter ds) (hp : nm'[p]? = some (x, kd)) (q : cmOk nm nm' = true) (hf : frOk nm nm' fr = true) (hl : fr.length = nm'.length)
    (hρ : ∀ e, (rhoC fr ρ)[p]? ≠ some (some e)) (ht : ∀ d, d ∈ ds → Tst C n nm' ((rhoC fr ρ).set p (some (0, d))) c (t d)) (h : ∀ d, d ∈ ds → t d = true → Ev C n nm' ((rhoC fr ρ).set p (some (0, d))) elt 0 (g d)) (hz : ds.length ≤ 100000) (hk : kd = .local ∨ kd = .cell := by first | exact .inl rfl | exact .inr rfl) (hs : ∀ env x, foldedSetIterable iter env x = pure x := by intro _ _; rfl) :
    Comp1 C n nm ρ elt (.Name x px) iter [c] nm' ((ds.filter t).map g) :=
  ⟨rhoC fr ρ, ds.length, _, .of q, .of hf hl, .of1 src p hp hk, fun i hi => .set hρ, by
    rw [← filter_getD t g ds]
    exact cloop_filter (fun i hi => ht _ (getD_mem hi)) (fun i hi => h _ (getD_mem hi)) ds.length 0 (by omega), Nat.le_trans (by rw [List.length_map]; exact List.length_filter_le _ _) hz, hs⟩
theorem Less.set2 {p p' : Nat} {e e' : Option (Nat × D)} (h : ∀ e, ρ[p]? ≠ some (some e)) (h' : ∀ e, ρ[p']? ≠ some (some e)) : Less ρ ((ρ.set p e).set p' e') := fun i x hx => by
  by_cases h1 : i = p
  · subst h1; exact absurd hx (h x)
  · by_cases h2 : i = p'
    · subst h2; exact absurd hx (h' x)
    · rw [List.getElem?_set_ne (Ne.symm h2), List.getElem?_set_ne (Ne.symm h1)]; exact hx
theorem Comp1.map2 {elt iter : Expr} {x x' : Str} {kd kd' : NameKind} {px px' tp : Pos} {k : Nat} {ds : List (D × D)} (fr : List (Option Nat)) (p p' : Nat) (g : D × D → D) (src : Src2 C n nm ρ iter ds) (hp : nm'[p]? = some (x, kd)) (hp' : nm'[p']? = some (x', kd')) (q : cmOk nm nm' = true) (hf : frOk nm nm' fr = true) (hl : fr.length = nm'.length)
    (hρ : ∀ e, (rhoC fr ρ)[p]? ≠ some (some e)) (hρ' : ∀ e, (rhoC fr ρ)[p']? ≠ some (some e)) (h : ∀ d, d ∈ ds → Ev C n nm' (((rhoC fr ρ).set p (some (0, d.1))).set p' (some (0, d.2))) elt 0 (g d)) (hz : ds.length ≤ 100000) (hk : kd = .local ∨ kd = .cell := by first | exact .inl rfl | exact .inr rfl) (hk' : kd' = .local ∨ kd' = .cell := by first | exact .inl rfl | exact .inr rfl) (hs : ∀ env x, foldedSetIterable iter env x = pure x := by intro _ _; rfl) :
    Comp1 C n nm ρ elt (.Tuple [.Name x px, .Name x' px'] k tp) iter [] nm' (ds.map g) :=
  ⟨rhoC fr ρ, ds.length, _, .of q, .of hf hl, .of2 src p p' hp hp' hk hk', fun i hi => .set2 hρ hρ', by
    rw [← map_getD2 g ds]
    exact cloop_map (fun i hi => h _ (getD2_mem hi)) ds.length 0 (by omega), by simpa using hz, hs⟩

/-- a for over a list: what is known before each turn -/
theorem Ex1.forL {iter : Expr} {body : List Stmt} {x : Str} {kd : NameKind} {px pos : Pos} {ds : List D} (p : Nat) (inv : Nat → Rho) (src : Src1 C n nm (inv 0) iter ds) (hp : nm[p]? = some (x, kd)) (h : ∀ i d, ds[i]? = some d → Ex C n nm ((inv i).set p (some (0, d))) body (.next (inv (i + 1)))) (hk : kd = .local ∨ kd = .cell := by first | exact .inl rfl | exact .inr rfl)
    (hs : ∀ env x, foldedSetIterable iter env x = pure x := by intro _ _; rfl) : Ex1 C n nm (inv 0) (.For (.Name x px) iter body [] pos) (.next (inv ds.length)) := by
  refine .for_ (.of1 src p hp hk) ?_ hs
  have key : ∀ k i, i + k = ds.length → ForRun C n nm (fun i ρ => ρ.set p (some (0, getD ds i))) body ds.length i (inv i) (.next (inv ds.length)) := by
    intro k
    induction k with
    | zero => intro i e; have : i = ds.length := by omega
              subst this; exact .done
    | succ k ih => intro i e; exact .turn (by omega) (h i _ (by unfold getD; rw [List.getElem?_eq_getElem (by omega)]; rfl)) (ih (i + 1) (by omega))
  exact key ds.length 0 (by omega)
theorem Ex1.forL2 {iter : Expr} {body : List Stmt} {x x' : Str} {kd kd' : NameKind} {px px' tp pos : Pos} {k : Nat} {ds : List (D × D)} (p p' : Nat) (inv : Nat → Rho) (src : Src2 C n nm (inv 0) iter ds) (hp : nm[p]? = some (x, kd)) (hp' : nm[p']? = some (x', kd')) (h : ∀ i d, ds[i]? = some d → Ex C n nm (((inv i).set p (some (0, d.1))).set p' (some (0, d.2))) body (.next (inv (i + 1)))) (hk : kd = .local ∨ kd = .cell := by first | exact .inl rfl | exact .inr rfl) (hk' : kd' = .local ∨ kd' = .cell := by first | exact .inl rfl | exact .inr rfl)
    (hs : ∀ env x, foldedSetIterable iter env x = pure x := by intro _ _; rfl) : Ex1 C n nm (inv 0) (.For (.Tuple [.Name x px, .Name x' px'] k tp) iter body [] pos) (.next (inv ds.length)) := by
  refine .for_ (.of2 src p p' hp hp' hk hk') ?_ hs
  have key : ∀ k i, i + k = ds.length → ForRun C n nm (fun i ρ => (ρ.set p (some (0, (getD2 ds i).1))).set p' (some (0, (getD2 ds i).2))) body ds.length i (inv i) (.next (inv ds.length)) := by
    intro k
    induction k with
    | zero => intro i e; have : i = ds.length := by omega
              subst this; exact .done
    | succ k ih => intro i e; exact .turn (by omega) (h i _ (by unfold getD2; rw [List.getElem?_eq_getElem (by omega)]; rfl)) (ih (i + 1) (by omega))
  exact key ds.length 0 (by omega)
end
end Mine
end
section
open PySem PySem.W PyProof.Rows PySem.Calls PySem.Spec
set_option maxRecDepth 100000
namespace Mine
section
variable {C : Cx} {n : Nat} {nm : Names} {ρ : Rho}
theorem Ex1.assignTup (i j : Nat) {x y : Str} {kd kd' : NameKind} {px py tp pos : Pos} {k : Nat} {e : Expr} {d d' : D} (hi : nm[i]? = some (x, kd)) (hj : nm[j]? = some (y, kd')) (h : Ev C n nm ρ e 0 (.tup [d, d'])) (hk : kd = .local ∨ kd = .cell := by first | exact .inl rfl | exact .inr rfl) (hk' : kd' = .local ∨ kd' = .cell := by first | exact .inl rfl | exact .inr rfl)
    (hs : ∀ env, swapsWithSole [.Tuple [.Name x px, .Name y py] k tp] e pos.line env = pure false := by intro _; rfl) (hw : ∀ env, swappedStores [.Tuple [.Name x px, .Name y py] k tp] e env = pure Option.none := by intro _; rfl) :
    Ex1 C n nm ρ (.Assign [.Tuple [.Name x px, .Name y py] k tp] e pos) (.next ((ρ.set i (some (0, d))).set j (some (0, d')))) := .mk fun A env s₀ Mv Xc M T s oo ok f =>
  PyProof.Rows.Assign_Tuple (h.then0 oo ok f.pre fun v s₁ k₁ p₁ r => by
    cases r with
    | @tup a vs m _ ha e' rl =>
      cases rl with
      | @cons v₁ _ _ _ r₁ rl =>
        cases rl with
        | @cons v₂ _ _ _ r₂ rl =>
          cases rl
          have ht : IsTup s₁.heap a #[v₁, v₂] := ⟨_, e', rfl, m, rfl⟩
          refine assign_Tuple_tuple oo.handled ht rfl rfl fun h₅ he => ?_
          have k₅ : Kp s₁ { s₁ with heap := h₅ } := kHeap (t := s₁.toks) (fun b o e => he b o (Nat.ne_of_lt (Heap.lt_size e)) e) (Nat.le_refl _)
          have f₅ := (f.keeps k₁).keeps k₅
          refine assignInOrder_cons (wpAny_assign_Name (f₅.store ok hi hk (.sh (r₁.keep (.all (kGet k₅)))) (.inl rfl) fun s₆ f₆ ⟨z, hz, c⟩ => ?_))
          have K₆ := c.keep (X := M ++ Xc) (List.mem_append.mpr (.inl hz))
          exact assignInOrder_cons (wpAny_assign_Name (f₆.store ok hj hk' (.sh ((r₂.keep (.all (kGet k₅))).keep K₆)) (.inl rfl) fun s₇ f₇ _ => assignInOrder_nil ⟨rfl, M, _, f₇⟩))) (hs env) (hw env)

/-- if t: return .. and what stands behind -/
theorem Ex.ifStop {t : Expr} {a ss : List Stmt} {pos : Pos} {c : Bool} {d : D} (h : Tst C n nm ρ t c) (h1 : c = true → Ex C n nm ρ a (.ret d)) (h0 : c = false → Ex C n nm ρ ss (.ret d)) : Ex C n nm ρ (.If t a [] pos :: ss) (.ret d) := by
  cases c with
  | true => exact Ex.stop (Ex1.take h (h1 rfl))
  | false => exact Ex.seq (Ex1.skip h Ex.nil) (h0 rfl)

/-- if t: .., t being so, and what stands behind; the block ends by itself if c -/
theorem Ex.takeBoth {t : Expr} {a ss : List Stmt} {pos : Pos} {c : Bool} {d : D} (h : Tst C n nm ρ t true) (h1 : c = true → Ex C n nm ρ a (.ret d)) (h0 : c = false → ∃ ρ₁, Ex C n nm ρ a (.next ρ₁) ∧ Ex C n nm ρ₁ ss (.ret d)) : Ex C n nm ρ (.If t a [] pos :: ss) (.ret d) := by
  cases c with
  | true => exact Ex.stop (Ex1.take h (h1 rfl))
  | false => obtain ⟨ρ₁, x, y⟩ := h0 rfl; exact Ex.seq (Ex1.take h x) y

theorem map_getD_self (es : List D) : (List.range' 0 es.length).map (getD es) = es := by
  have := map_getD (fun d => d) es
  simpa using this
theorem Comp1.rows1 {nm' : Names} {elt iter : Expr} {x : Str} {kd : NameKind} {px : Pos} {ds : List D} (fr : List (Option Nat)) (p : Nat) (es : List D) (src : Src1 C n nm ρ iter ds) (hp : nm'[p]? = some (x, kd)) (q : cmOk nm nm' = true) (hf : frOk nm nm' fr = true) (hl : fr.length = nm'.length)
    (hρ : ∀ e, (rhoC fr ρ)[p]? ≠ some (some e)) (hlen : es.length = ds.length) (h : ∀ i, i < ds.length → Ev C n nm' ((rhoC fr ρ).set p (some (0, getD ds i))) elt 0 (getD es i)) (hz : ds.length ≤ 100000) (hk : kd = .local ∨ kd = .cell := by first | exact .inl rfl | exact .inr rfl) (hs : ∀ env x, foldedSetIterable iter env x = pure x := by intro _ _; rfl) :
    Comp1 C n nm ρ elt (.Name x px) iter [] nm' es :=
  ⟨rhoC fr ρ, ds.length, _, .of q, .of hf hl, .of1 src p hp hk, fun i hi => .set hρ, by
    have := cloop_map (C := C) (n := n) (nm := nm') (ρ := rhoC fr ρ) (elt := elt) (N := ds.length) (bind := fun i ρ => ρ.set p (some (0, getD ds i))) (f := getD es) (fun i hi => h i hi) ds.length 0 (by omega)
    rw [← hlen, map_getD_self es] at this
    rw [← hlen]; exact this, by omega, hs⟩

theorem Src1.cast {e : Expr} {ds ds' : List D} (h : ds = ds') (s : Src1 C n nm ρ e ds) : Src1 C n nm ρ e ds' := h ▸ s
theorem Src2.cast {e : Expr} {ds ds' : List (D × D)} (h : ds = ds') (s : Src2 C n nm ρ e ds) : Src2 C n nm ρ e ds' := h ▸ s
theorem Ev.cast {e : Expr} {k : Nat} {d d' : D} (h : d = d') (s : Ev C n nm ρ e k d) : Ev C n nm ρ e k d' := h ▸ s

/-- [d] * k, of one's own -/
theorem EvF.mul1 {e e' : Expr} {pos lpos : Pos} {d : D} {k : Int} (h : Ev C n nm ρ e 0 d) (h' : Ev C n nm ρ e' 0 (.int k)) (h0 : 0 ≤ k) (hk : k ≤ 1000000) (he : ∀ env : Env, starEach [e] env = [(false, eval e env)]) :
    EvF C n nm ρ (.BinOp (.List [e] lpos) .Mult e' pos) 1 (.list (List.replicate k.toNat d)) := .mk fun A env X s o ok p =>
  wpAny_BinOp ((Ev.list (.one h he) (by simp)).then0 o ok p fun v₁ s₁ k₁ p₁ r₁ => h'.then0 o ok p₁ fun v₂ s₂ k₂ p₂ r₂ => by
    cases r₂ with
    | int _ u =>
      have r₁' := r₁.keep (.all (kGet k₂))
      cases r₁' with
      | list ha e r =>
        cases r with
        | cons a r =>
          cases r
          rename_i l m v
          have hl : s₂.heap.get? l = some { cls := .type "list", dict := none, data := .seq #[v] m, slots := #[] } := e
          refine wpAny_binaryOp_repeat_ref (T := "list") (U := "int") (by decide) ⟨_, hl, rfl⟩ (fun s' => typeIs_int s' k u) noFill_list_mul F.fills_int_mul F.slot_int_rmul repeat_list F.slot_int_index.lookup
            (call_meets F.slot_int_rmul (typeIs_int s₂ k u) F.entry_int_rmul (F.args_int_rmul_2 _ _) (int___rmul___int_list k u l #[v] m)
              ⟨hl, rfl, ⟨_, hl, rfl⟩, call_meets F.slot_list_mul ⟨_, hl, rfl⟩ F.entry_list_mul (F.args_list_mul_2 _ _)
                (AutoListH.list___mul___list_int_3 l #[v] m k u (by simp [Builtin.List.listFitsIndex]; omega) (by simp; omega) (by simp [Builtin.List.listTooLong, sizeLine]; omega)) ⟨hl, ?_⟩⟩)
          have e2 : List.foldl (fun x1 x2 => x1 ++ x2) #[] (List.replicate (if (#[v] : Array Value).isEmpty = true then 0 else k.toNat) #[v]) = (List.replicate k.toNat v).toArray := by
            simp [foldl_app]
          rw [e2]
          refine ⟨kTrans k₁ (kTrans k₂ (kPush (t := s₂.toks) _ (Nat.le_refl _))), [s₂.heap.objs.size], .list (vs := List.replicate k.toNat v) (n := 0) (Heap.get?_push_size _ rfl) (RepL.toO ?_), fun b hb => by simp at hb; subst hb; exact kNone (kTrans k₁ k₂) (size_none (Nat.le_refl _)), by simp⟩
          refine rep_replicate (a.keep ⟨fun b o _ e => Heap.get?_push_of_some _ e, fun b o e m => ?_⟩) _
          rcases List.mem_append.mp m with m | m
          · simp at m; subst m; exact absurd (Heap.lt_size e) (Nat.lt_irrefl _)
          · exact m)
end
end Mine
end
section
open PySem PySem.W PyProof.Rows PySem.Calls PySem.Spec
set_option maxRecDepth 100000
namespace Mine
section
variable {C : Cx}
/-- a new frame for one local parameter: storing it draws a token -/
theorem newFrame1 {A : Around} {scope : Scope} {x : Str} {v : Value} {qual : Str} {func : Option Addr} {code : Value} {globals builtins : Addr} {s : Shared} {Q : Env → Shared → Prop} (hk : scope.kind = .function) (hx : scope.names.lookup x = some .local)
    (hQ : ∀ env, env = newEnv scope s.heap.objs.size globals (cellsFrom (s.heap.objs.size + 1) scope.names []) qual func code none builtins →
      ∀ s', InCallC s env.locals (bindL env.kindOf [(x, v)] fun _ => none) env.cells (bindC env.kindOf [(x, v)] fun _ => none) s' → s.toks + 1 ≤ s'.toks → Q env s') :
    Wp C A (newFunctionEnv scope globals [] [(x, v)] qual func code none builtins) Q s := by
  simp only [newFunctionEnv, Option.isSome_none, Bool.false_eq_true, if_false]
  refine wpAny_bind (wpAny_alloc ?_)
  refine wpAny_bind (wpAny_layCells _ (fun name kind cells => by cases hkc : kind == NameKind.cell <;> simp [hkc]) _ _ _ _ ?_)
  have ok := cellsFrom_ok scope.names (s.heap.push { cls := .type "frame", data := .dict #[] }) (s.heap.objs.size + 1) [] ⟨fun _ _ hm => (nomatch hm), List.Pairwise.nil⟩ (by rw [Heap.size_push]; exact Nat.le_refl _)
  rw [Heap.size_push] at ok
  rw [show ({ s with heap := s.heap.push { cls := .type "frame", data := .dict #[] } } : Shared).heap.objs.size = s.heap.objs.size + 1 from Heap.size_push ..]
  generalize henv : newEnv scope s.heap.objs.size globals (cellsFrom (s.heap.objs.size + 1) scope.names []) qual func code none builtins = env
  have hL : env.locals = s.heap.objs.size := by rw [← henv]; rfl
  have hC : env.cells = cellsFrom (s.heap.objs.size + 1) scope.names [] := by rw [← henv]; rfl
  have hkd : env.kindOf x = some .local := by rw [← henv]; exact hx
  have hkf : env.scope.kind = .function := by rw [← henv]; exact hk
  have hin : InCallC s env.locals (fun _ => none) env.cells (fun _ => none) { s with heap := pushCells (s.heap.push { cls := .type "frame", data := .dict #[] }) scope.names } := by
    rw [hL, hC]
    exact ⟨⟨⟨_, _, rfl⟩, (Heap.Ns.new s.heap (.type "frame")).keeps (pushCells_keeps _ _), fun b o e => pushCells_keeps _ _ b o (Heap.get?_push_of_some _ e), Nat.le_refl _⟩,
      fun n c hc => (ok.empty n c (mem_of_lookup hc)).1, ok.apart, fun n c hm => (ok.empty n c hm).2⟩
  have e0 : ({ scope := scope, locals := s.heap.objs.size, globals := globals, cells := cellsFrom (s.heap.objs.size + 1) scope.names [], qual := qual, func := func, code := code, frame := some s.heap.objs.size, builtins := builtins } : Env) = env := henv
  simp only [e0]
  rw [List.forIn_cons]
  refine wpAny_bind (wpAny_bind (wpAny_bind (wpAny_storeName_local hkd hin.toInCall.ns (fun h' hn' hs' => ?_) (by rw [hkf]; rfl))))
  refine wpAny_pure ?_
  simp only [List.forIn_nil]
  refine wpAny_pure (wpAny_pure (hQ env henv.symm _ ?_ (Nat.le_refl _)))
  unfold bindL bindC bindL bindC
  rw [if_pos hkd, if_pos hkd]
  refine ⟨⟨⟨h', _, rfl⟩, hn', fun b o e => ?_, hin.toInCall.fresh⟩, fun k c hc => ?_, hin.apart, hin.above⟩
  · exact hs'.extBut b o (Nat.ne_of_lt (Nat.lt_of_lt_of_le (Heap.lt_size e) hin.toInCall.fresh)) (hin.toInCall.keep b o e)
  · exact (hin.cell k c hc).sameBut hs' (Nat.ne_of_gt (hin.above k c (mem_of_lookup hc)))
end
theorem Frm.begin0 {C : Cx} {nm : Names} {env : Env} {s s₁ : Shared} {X : List Addr} {vs : List Value} {ds : List D} {names : Names} {L : Addr} (gold : ∀ b o, C.h₀.get? b = some o → s.heap.get? b = some o) (glive : ∀ a ∈ X, ∃ o, s.heap.get? a = some o) (hr : RepL C X s.heap vs ds) (hlen : ds.length ≤ nm.length) (q : NmOk nm ds.length)
    (hL : env.locals = L) (hsc : env.scope.names = nm) (hcs : env.cells = cellsFrom (L + 1) nm [])
    (x : InCallC s env.locals (bindL env.kindOf (((nm.take ds.length).map (·.1)).zip vs) fun _ => none) env.cells (bindC env.kindOf (((nm.take ds.length).map (·.1)).zip vs) fun _ => none) s₁) (ht : s.toks ≤ s₁.toks) (h1 : 1 ≤ s₁.toks) :
    ∃ M, Frm C nm env s [] X M (fun _ => []) (rho0 nm ds) s₁ := by
  have hkp : Kp s s₁ := by
    obtain ⟨h', tk, rfl, k⟩ := x.done
    exact ⟨⟨h', tk, rfl, k⟩, ht⟩
  have hkind : ∀ y, env.kindOf y = nm.lookup y := fun y => by rw [← hsc]; rfl
  have hnames : ((nm.take ds.length).map (·.1)).length = vs.length := by rw [List.length_map, List.length_take, hr.length]; exact Nat.min_eq_left hlen
  have hzip : ((((nm.take ds.length).map (·.1)).zip vs).map (·.1)) = (nm.take ds.length).map (·.1) := by
    rw [List.map_fst_zip]; omega
  have hnd : ((((nm.take ds.length).map (·.1)).zip vs).map (·.1)).Nodup := by
    rw [hzip, List.map_take]; exact q.nodup.sublist (List.take_sublist _ _)
  have fresh : ∀ b, s.heap.objs.size ≤ b → s.heap.get? b = none := fun b hb => by
    cases e : s.heap.get? b with
    | none => rfl
    | some o => exact absurd (Heap.lt_size e) (Nat.not_lt.mpr hb)
  have hLs : s.heap.objs.size ≤ env.locals := x.toInCall.fresh
  have new : ∀ b ∈ env.locals :: nm.filterMap (fun p => env.cells.lookup p.1), s.heap.get? b = none := fun b hb => by
    rcases List.mem_cons.mp hb with rfl | hb
    · exact fresh _ hLs
    · obtain ⟨p, hm, e⟩ := List.mem_filterMap.mp hb
      exact fresh _ (Nat.le_of_lt (Nat.lt_of_le_of_lt hLs (x.above _ b (mem_of_lookup e))))
  refine ⟨env.locals :: nm.filterMap (fun p => env.cells.lookup p.1), { kp := .of hkp, gr := ⟨fun b o e => kGet hkp b o (gold b o e), fun a m => ?_, h1⟩, new := fun b m _ => new b m, off := fun b m => ?_, dis := fun b m hX => ?_, loc := List.mem_cons_self, ns := ⟨_, x.toInCall.ns⟩, cel := fun y hy => ?_, one := fun y z c hy hc hc' => ?_, fre := fun y c hy _ => ?_, vars := fun i k d e => ?_, ownM := fun _ _ m => (by cases m), ownL := fun _ m => (by cases m), ownC := fun _ _ _ _ _ m => (by cases m), apart := fun _ _ _ _ m => (by cases m), nodup := fun _ => List.nodup_nil }⟩
  · rcases List.mem_append.mp m with m | m
    · rcases List.mem_cons.mp m with rfl | m
      · obtain ⟨o, _, _, e, _⟩ := x.toInCall.ns; exact ⟨o, e⟩
      · obtain ⟨p, hm, e⟩ := List.mem_filterMap.mp m
        obtain ⟨o, e, _⟩ := x.cell _ _ e
        exact ⟨o, e⟩
    · obtain ⟨o, e⟩ := glive a m; exact ⟨o, kGet hkp a o e⟩
  · cases e : C.h₀.get? b with
    | none => rfl
    | some o => have := gold b o e; rw [new b m] at this; cases this
  · obtain ⟨o, e⟩ := glive b hX
    rw [new b m] at e; cases e
  · obtain ⟨c, hc⟩ := lookup_cellsFrom (n := L + 1) (acc := []) (mem_of_lookup hy)
    rw [← hcs] at hc
    exact ⟨c, _, hc, x.cell y c hc, List.mem_cons_of_mem _ (List.mem_filterMap.mpr ⟨(y, .cell), mem_of_lookup hy, hc⟩)⟩
  · exact name_of_addr x.apart (mem_of_lookup hc') (mem_of_lookup hc)
  · exact absurd rfl (q.nofree _ (mem_of_lookup hy))
  · obtain ⟨rfl, hd⟩ := rho0_at e
    obtain ⟨v, hv, hrv⟩ := hr.get hd
    have hi : i < ds.length := (List.getElem?_eq_some_iff.mp hd).1
    have hin : i < nm.length := Nat.lt_of_lt_of_le hi hlen
    have hnm : nm[i]? = some (nm[i].1, nm[i].2) := by rw [List.getElem?_eq_getElem hin]
    have hmem : (nm[i].1, v) ∈ ((nm.take ds.length).map (·.1)).zip vs := by
      refine List.mem_of_getElem? (i := i) ?_
      rw [List.getElem?_zip_eq_some]
      refine ⟨?_, hv⟩
      rw [List.getElem?_map, List.getElem?_take_of_lt hi, List.getElem?_eq_getElem hin]; rfl
    have hkd := lookup_at q.nodup hnm
    refine ⟨nm[i].1, nm[i].2, v, hnm, ?_, .sh (hrv.keep ⟨fun b o _ e => kGet hkp b o e, fun b o e m => ?_⟩)⟩
    · rcases q.params nm[i] (by
        rw [List.mem_take_iff_getElem]
        exact ⟨i, by omega, rfl⟩) with hk | hk
      · rw [hk] at hkd ⊢
        exact .loc x.toInCall.ns (bindL_at hnd hmem (by rw [hkind]; exact hkd))
      · rw [hk] at hkd ⊢
        obtain ⟨c, hc⟩ := lookup_cellsFrom (n := L + 1) (acc := []) (mem_of_lookup hkd)
        rw [← hcs] at hc
        have := x.cell _ c hc
        rw [bindC_at hnd hmem (by rw [hkind]; exact hkd)] at this
        exact .cell hc this
    · rcases List.mem_append.mp m with m | m
      · rw [new b m] at e; cases e
      · exact m


/-- the law's own call: nothing is asked of the tokens -/
theorem law_call {C : Cx} {n : Nat} {a : Addr} {o : Obj} {fd : FuncData} {body : List Stmt} {nm : Names} {mr : List (Str × Const)} {x : Str} {d₁ d : D} (ho : C.K.lookup a = some o) (hd : o.data = .func fd) (hb : fd.body = .stmts body) (hsc0 : fd.scope = { kind := .function, names := nm, isGenerator := false, isCoroutine := false, more := mr })
    (hc : codeIn C.K fd.code fd.qualname = true) (hclo : fd.closure = []) (hg : fd.globals = mainGlobals) (hbu : fd.builtins = builtinsNs)
    (hbind : ∀ v : Value, bindArgs fd ⟨[v], []⟩ = pure [(x, v)]) (hx : nm[0]? = some (x, .local)) (q : NmOk nm 1) (hlen : 1 ≤ nm.length) (h : Ex C n nm (rho0 nm [d₁]) body (.ret d))
    {A : Around} {X : List Addr} {s : Shared} {v : Value} (ok : Ok (n + 1) A) (gold : ∀ b o, C.h₀.get? b = some o → s.heap.get? b = some o) (glive : ∀ a ∈ X, ∃ o, s.heap.get? a = some o) (hr : Rep C X s.heap v d₁) :
    Wp C A (call (.ref a) [v]) (fun r s' => Kp s s' ∧ Rep C X s'.heap r d) s := by
  have hsc : fd.scope.names = nm := by rw [hsc0]
  have hfk : fd.scope.kind = .function := by rw [hsc0]
  have hfg : fd.scope.isGenerator = false := by rw [hsc0]
  have hfc : fd.scope.isCoroutine = false := by rw [hsc0]
  have hK := C.inK.keeps gold
  have hz : ((nm.take [d₁].length).map (·.1)).zip [v] = [(x, v)] := by
    match nm, hx with
    | p :: r, hx => simp at hx; subst hx; rfl
  refine wpAny_call ?_
  refine codeAny_call_function ok.room (hK a o ho) hd hfc hfg hb (codeRec_of hK hc) ?_
  rw [hbind v, hclo]
  refine wpAny_pure ?_
  refine newFrame1 hfk (by rw [hsc]; exact lookup_at q.nodup hx) fun env he s' xx ht => ?_
  have hsn : env.scope = fd.scope := by rw [he]; rfl
  have hcs : env.cells = cellsFrom (s.heap.objs.size + 1) nm [] := by rw [he]; show cellsFrom _ fd.scope.names [] = _; rw [hsc]
  rw [← hz] at xx
  obtain ⟨M, f⟩ := Frm.begin0 (C := C) (env := env) (ds := [d₁]) (L := s.heap.objs.size) (names := nm) gold glive (.cons hr .nil) hlen q (by rw [he]; rfl) (by rw [hsn, hsc]) hcs xx (by omega) (by omega)
  have hki : ∀ y, env.kindOf y = nm.lookup y := fun y => by show env.scope.names.lookup y = _; rw [hsn, hsc]
  have henv : EnvOk nm env := ⟨by rw [hsn, hfk], by rw [he]; exact hg, by rw [he]; exact hbu, q.nodup, q.plain, fun y e => (hki y).trans e, fun y e => (hki y).trans e, fun y e => .inl ((hki y).trans e), fun y e => (hki y).trans e,
    fun y e => by
      rcases e with e | e
      · rw [hcs]; exact lookup_cellsFrom (mem_of_lookup e)
      · exact absurd rfl (q.nofree _ (mem_of_lookup e))⟩
  refine ⟨C.nolimit.keeps fun b o e => kGet f.kp.to b o (gold b o e), codeAny_func ?_⟩
  refine wpAny_mono (h.go (A.deeper env) env s [] X M _ s' (ok.deeper env) henv f) (fun fl s'' h => ?_) fun _ _ x => x.elim
  obtain ⟨v', rfl, k, r, _⟩ := h
  exact ⟨k.to, r⟩
end Mine
end
section
open PySem PySem.W PyProof.Rows PySem.Calls PySem.Spec
set_option maxRecDepth 100000
set_option maxHeartbeats 0
namespace Mine
theorem len1 {α : Type} {vs : List α} (h : vs.length = 1) : ∃ a, vs = [a] := by
  cases vs with
  | nil => cases h
  | cons a vs => cases vs with
    | nil => exact ⟨a, rfl⟩
    | cons b vs => cases h
theorem lenS {α : Type} {vs : List α} {k : Nat} (h : vs.length = k + 1) : ∃ a l, vs = a :: l ∧ l.length = k := by
  cases vs with
  | nil => cases h
  | cons a vs => exact ⟨a, vs, rfl, Nat.succ.inj h⟩
theorem len2 {α : Type} {vs : List α} (h : vs.length = 2) : ∃ a b, vs = [a, b] := by
  obtain ⟨a, l, rfl, h'⟩ := lenS h
  obtain ⟨b, rfl⟩ := len1 h'
  exact ⟨a, b, rfl⟩
theorem len3 {α : Type} {vs : List α} (h : vs.length = 3) : ∃ a b c, vs = [a, b, c] := by
  obtain ⟨a, l, rfl, h'⟩ := lenS h
  obtain ⟨b, c, rfl⟩ := len2 h'
  exact ⟨a, b, c, rfl⟩
theorem len4 {α : Type} {vs : List α} (h : vs.length = 4) : ∃ a b c d, vs = [a, b, c, d] := by
  obtain ⟨a, l, rfl, h'⟩ := lenS h
  obtain ⟨b, c, d, rfl⟩ := len3 h'
  exact ⟨a, b, c, d, rfl⟩
theorem len5 {α : Type} {vs : List α} (h : vs.length = 5) : ∃ a b c d e, vs = [a, b, c, d, e] := by
  obtain ⟨a, l, rfl, h'⟩ := lenS h
  obtain ⟨b, c, d, e, rfl⟩ := len4 h'
  exact ⟨a, b, c, d, e, rfl⟩
theorem Less.nil {ρ : Rho} : Less [] ρ := fun j e h => by cases h
theorem Less.same {a : Option (Nat × D)} {ρ' ρ : Rho} (h : Less ρ' ρ) : Less (a :: ρ') (a :: ρ) := fun j e hj => by
  cases j with
  | zero => exact hj
  | succ j => exact h j e hj
theorem Less.gone {b : Option (Nat × D)} {ρ' ρ : Rho} (h : Less ρ' ρ) : Less (none :: ρ') (b :: ρ) := fun j e hj => by
  cases j with
  | zero => cases hj
  | succ j => exact h j e hj
theorem lt8 {k : Nat} (h : k < 8) : (k : Int) < 1000000 := by omega
def pat (c : Str) : Str := Str.ofString "_" ++ c ++ Str.ofString "__"
def isPriv (c m : Str) : Bool := decide ((m.length : Int) > ((pat c).length : Int)) && (Txt.startswith m (pat c) && (((!(eqD (.str (Txt.item m (-1))) (.str (Str.ofString "_"))) || (!(eqD (.str (Txt.item m (-2))) (.str (Str.ofString "_"))) || false))) && true))
theorem charAt_some {m : Str} {i : Int} (h : i < 0) (h' : 0 ≤ (m.length : Int) + i) : Txt.charAt m i = some ((Txt.charAt m i).getD 0) := by
  have := charAt_isSome (x := m) (i := i) (by omega) (by omega)
  obtain ⟨c, hc⟩ := Option.isSome_iff_exists.mp this
  rw [hc]; rfl
theorem item_of {m : Str} {i : Int} {c : Nat} (h : Txt.charAt m i = some c) : Txt.item m i = ⟨#[c]⟩ := by unfold Txt.item; rw [h]; rfl
theorem len_pat (c : Str) : (pat c).length = c.length + 3 := by
  unfold pat; rw [Str.length_append, Str.length_append]
  have h1 : (Str.ofString "_").length = 1 := by decide +kernel
  have h2 : (Str.ofString "__").length = 2 := by decide +kernel
  omega
section
variable {C : Cx} {P : Params}
theorem lk {a : Addr} {o : Obj} (hK : C.K = hd.heap_39 P) (h : (hd.heap_39 P).lookup a = some o) : C.K.lookup a = some o := by rw [hK]; exact h
theorem g_len (hK : C.K = hd.heap_39 P) : nsIn C.K mainGlobals (("len" : Str)) = some Option.none := by rw [hK]; kernel_rfl
theorem f_private (hK : C.K = hd.heap_39 P) (n : Nat) {c m : Str} (hc : c.length ≤ 1000) (hm : m.length ≤ 1000) : Fn C (n + 1) 71 [.str c, .str m] (.bool (isPriv c m)) := by
  refine Fn.of_body (lk hK rfl) rfl rfl rfl (by rw [hK]; kernel_rfl) rfl rfl rfl (fun vs h => ?_) (NmOk.of (by kernel_rfl)) (Nat.le_of_ble_eq_true rfl) ?_
  · obtain ⟨v0, v1, rfl⟩ := len2 h; rfl
  have hp : (pat c).length ≤ 1003 := by rw [len_pat]; omega
  refine Ex.seq (Ex1.assign 2 rfl (Ev.joined (Ev.name 0 rfl rfl) (by decide +kernel) (by decide +kernel) (by omega) (by decide +kernel) (by decide +kernel))) ?_
  refine Ex.seq (Ex1.assign 3 rfl (Ev.len_str 4 rfl (g_len hK) (Ev.name 2 rfl rfl) (show (pat c).length ≤ 1000000 by omega))) ?_
  refine Ex.stop (Ex1.if_ (c := isPriv c m) (Tst.all (.andCons (Tst.cmp (Ev.len_str 4 rfl (g_len hK) (Ev.name 1 rfl rfl) (by omega)) (Ev.name 3 rfl rfl) Cmp.gt) fun h1 => ?_)) (fun h => ?_) fun h => ?_)
  · have h1 : (m.length : Int) > ((pat c).length : Int) := of_decide_eq_true h1
    rw [len_pat] at h1
    have hi (i : Int) (a : i < 0) (b : -3 < i) := charAt_some (m := m) a (by omega)
    have i1 := item_of (hi (-1) (by omega) (by omega))
    have i2 := item_of (hi (-2) (by omega) (by omega))
    rw [i1, i2]
    refine .andCons (Tst.value (Ev.startswith (Ev.name 1 rfl rfl) (Ev.name 2 rfl rfl)) Tru.bool) fun _ => .andCons (Tst.all (.orCons (Tst.cmp (Ev.sub (Ev.name 1 rfl rfl) (Ev.neg Ev.int) (Itm.str (by omega) (by omega) (hi (-1) (by omega) (by omega)))) (Ev.str (by decide +kernel)) (Cmp.ne rfl rfl)) fun _ =>
      .orCons (Tst.cmp (Ev.sub (Ev.name 1 rfl rfl) (Ev.neg Ev.int) (Itm.str (by omega) (by omega) (hi (-2) (by omega) (by omega)))) (Ev.str (by decide +kernel)) (Cmp.ne rfl rfl)) fun _ => .orNil)) fun _ => .andNil
  · rw [h]; exact Ex.stop (Ex1.ret Ev.bool)
  · rw [h]; exact Ex.stop (Ex1.ret Ev.bool)

theorem pat02 (hK : C.K = hd.heap_39 P) : ∀ h, C.K.In h → Re.IsPat h 36 := fun h X => by
  have e1 := X 36 _ (by rw [hK]; rfl)
  have e2 := X 35 _ (by rw [hK]; rfl)
  exact ⟨_, _, 35, 0, e1, rfl, rfl, rfl, rfl, rfl, rfl, rfl, _, _, e2, rfl, by kernel_rfl⟩
theorem g_IPV4 (hK : C.K = hd.heap_39 P) : nsIn C.K mainGlobals (("IPV4_RE" : Str)) = some (some (.ref 36)) := by rw [hK]; kernel_rfl
def hdn (x : Str) : Bool := if Re.isNum x.cps then false else if eqD (.str x) (.str (Str.ofString "")) then false else if (eqD (.str (Txt.item x 0)) (.str (Str.ofString ".")) || (eqD (.str (Txt.item x (-1))) (.str (Str.ofString ".")) || false)) then false else true
theorem eqD_str (a b : Str) : eqD (.str a) (.str b) = decide (a = b) := by
  show PyData.eqv (.str a) (.str b) = _
  simp only [PyData.eqv]
  rw [Bool.eq_iff_iff]
  simp
theorem f_hdn (hK : C.K = hd.heap_39 P) (n : Nat) {x : Str} (hx : x.length ≤ 1000) : Fn C (n + 1) 43 [.str x] (.bool (hdn x)) := by
  refine Fn.of_body (lk hK rfl) rfl rfl rfl (by rw [hK]; kernel_rfl) rfl rfl rfl (fun vs h => ?_) (NmOk.of (by kernel_rfl)) (Nat.le_of_ble_eq_true rfl) ?_
  · obtain ⟨v0, rfl⟩ := len1 h; rfl
  unfold hdn
  cases h1 : Re.isNum x.cps with
  | true => exact Ex.stop (Ex1.if_ (c := true) (h1 ▸ Tst.search 1 rfl (g_IPV4 hK) (pat02 hK) (Ev.name 0 rfl rfl) (by omega)) (fun _ => Ex.stop (Ex1.ret Ev.bool)) (fun h => nomatch h))
  | false =>
    refine Ex.seq (Ex1.skip (h1 ▸ Tst.search 1 rfl (g_IPV4 hK) (pat02 hK) (Ev.name 0 rfl rfl) (by omega)) Ex.nil) ?_
    cases h2 : eqD (.str x) (.str (Str.ofString "")) with
    | true => exact Ex.stop (Ex1.if_ (c := true) (h2 ▸ Tst.cmp (Ev.name 0 rfl rfl) (Ev.str (by decide +kernel)) (Cmp.eq rfl rfl)) (fun _ => Ex.stop (Ex1.ret Ev.bool)) (fun h => nomatch h))
    | false =>
      refine Ex.seq (Ex1.skip (h2 ▸ Tst.cmp (Ev.name 0 rfl rfl) (Ev.str (by decide +kernel)) (Cmp.eq rfl rfl)) Ex.nil) ?_
      have hlen : 0 < x.length := by
        rcases Nat.eq_zero_or_pos x.length with h | h
        · exfalso
          rw [eqD_str] at h2
          have hx0 : x = Str.ofString "" := by
            obtain ⟨a⟩ := x
            have : a = #[] := Array.eq_empty_of_size_eq_zero h
            subst this
            decide +kernel
          rw [hx0] at h2
          simp at h2
        · exact h
      have c0 : Txt.charAt x 0 = some ((Txt.charAt x 0).getD 0) := by
        obtain ⟨c, hc⟩ := Option.isSome_iff_exists.mp (charAt_isSome (x := x) (i := 0) (by omega) (by omega))
        rw [hc]; rfl
      have c1 := charAt_some (m := x) (i := -1) (by omega) (by omega)
      rw [item_of c0, item_of c1]
      have tst : ∀ {ρ : Rho}, ρ = rho0 [(Str.ofString "text", NameKind.local), (Str.ofString "IPV4_RE", NameKind.globalImplicit)] [D.str x] → True := fun _ => trivial
      refine (fun {b} (hb : b = (eqD (.str ⟨#[(Txt.charAt x 0).getD 0]⟩) (.str (Str.ofString ".")) || (eqD (.str ⟨#[(Txt.charAt x (-1)).getD 0]⟩) (.str (Str.ofString ".")) || false))) => ?_ : ∀ {b : Bool}, _ → _) rfl
      rw [← hb]
      cases b with
      | true => exact Ex.stop (Ex1.take (hb ▸ Tst.all (.orCons (Tst.cmp (Ev.sub (Ev.name 0 rfl rfl) Ev.int (Itm.str (by omega) (by omega) c0)) (Ev.str (by decide +kernel)) (Cmp.eq rfl rfl)) fun _ =>
          .orCons (Tst.cmp (Ev.sub (Ev.name 0 rfl rfl) (Ev.neg Ev.int) (Itm.str (by omega) (by omega) c1)) (Ev.str (by decide +kernel)) (Cmp.eq rfl rfl)) fun _ => .orNil)) (Ex.stop (Ex1.ret Ev.bool)))
      | false => exact Ex.seq (Ex1.skip (hb ▸ Tst.all (.orCons (Tst.cmp (Ev.sub (Ev.name 0 rfl rfl) Ev.int (Itm.str (by omega) (by omega) c0)) (Ev.str (by decide +kernel)) (Cmp.eq rfl rfl)) fun _ =>
          .orCons (Tst.cmp (Ev.sub (Ev.name 0 rfl rfl) (Ev.neg Ev.int) (Itm.str (by omega) (by omega) c1)) (Ev.str (by decide +kernel)) (Cmp.eq rfl rfl)) fun _ => .orNil)) Ex.nil) (Ex.stop (Ex1.ret Ev.bool))

def lib (x : Str) : Bool := if Re.isNum x.cps then false else true
theorem f_lib (hK : C.K = hd.heap_39 P) (n : Nat) {x : Str} (hx : x.length ≤ 1000) : Fn C (n + 1) 50 [.str x] (.bool (lib x)) := by
  refine Fn.of_body (lk hK rfl) rfl rfl rfl (by rw [hK]; kernel_rfl) rfl rfl rfl (fun vs h => ?_) (NmOk.of (by kernel_rfl)) (Nat.le_of_ble_eq_true rfl) ?_
  · obtain ⟨v0, rfl⟩ := len1 h; rfl
  refine Ex.ifStop (Tst.search 1 rfl (g_IPV4 hK) (pat02 hK) (Ev.name 0 rfl rfl) (by omega)) (fun h => ?_) fun h => ?_
  · unfold lib; rw [h]; exact Ex.stop (Ex1.ret Ev.bool)
  · unfold lib; rw [h]; exact Ex.stop (Ex1.ret Ev.bool)
theorem g_lib (hK : C.K = hd.heap_39 P) : nsIn C.K mainGlobals (("liberal_is_HDN" : Str)) = some (some (.ref 50)) := by rw [hK]; kernel_rfl
theorem g_hdn (hK : C.K = hd.heap_39 P) : nsIn C.K mainGlobals (("is_HDN" : Str)) = some (some (.ref 43)) := by rw [hK]; kernel_rfl
theorem g_private (hK : C.K = hd.heap_39 P) : nsIn C.K mainGlobals (("_is_private" : Str)) = some (some (.ref 71)) := by rw [hK]; kernel_rfl
/-- a text that the lower case leaves tame -/
structure Tame (x : Str) : Prop where
  len : x.length ≤ 900
  low : (Txt.lower x).length ≤ 900
  ok : PyData.strOk (Txt.lower x) = true
def udm0 (a b : Str) : Bool := if !(lib a && (lib b && true)) then eqD (.str a) (.str b) else if Txt.startswith b (Str.ofString ".") && (Txt.endswith a b && true) then true else if (!Txt.startswith b (Str.ofString ".")) && (eqD (.str a) (.str b) && true) then true else false
def udm (a b : Str) : Bool := udm0 (Txt.lower a) (Txt.lower b)
theorem fits_of {n : Nat} (h : n ≤ 900) : Builtin.Str.tooLong n = false := by unfold Builtin.Str.tooLong sizeLine; exact decide_eq_false (by omega)
theorem f_udm (hK : C.K = hd.heap_39 P) (n : Nat) {a b : Str} (ha : Tame a) (hb : Tame b) : Fn C (n + 2) 57 [.str a, .str b] (.bool (udm a b)) := by
  refine Fn.of_body (lk hK rfl) rfl rfl rfl (by rw [hK]; kernel_rfl) rfl rfl rfl (fun vs h => ?_) (NmOk.of (by kernel_rfl)) (Nat.le_of_ble_eq_true rfl) ?_
  · obtain ⟨v0, v1, rfl⟩ := len2 h; rfl
  have h1 := ha.low
  have h2 := hb.low
  refine Ex.seq (Ex1.assign 0 rfl (Ev.lower (Ev.name 0 rfl rfl) (fits_of ha.low) ha.ok)) ?_
  refine Ex.seq (Ex1.assign 1 rfl (Ev.lower (Ev.name 1 rfl rfl) (fits_of hb.low) hb.ok)) ?_
  unfold udm udm0
  generalize Txt.lower a = a at *
  generalize Txt.lower b = b at *
  refine Ex.ifStop (Tst.not (Tst.all (.andCons (Tst.value (Ev.call 3 rfl (g_lib hK) (lk hK rfl) rfl (.one (Ev.name 0 rfl rfl)) (f_lib hK n (by omega))) Tru.bool) fun _ => .andCons (Tst.value (Ev.call 3 rfl (g_lib hK) (lk hK rfl) rfl (.one (Ev.name 1 rfl rfl)) (f_lib hK n (by omega))) Tru.bool) fun _ => .andNil))) (fun h => ?_) fun h => ?_
  · rw [h]
    refine Ex.ifStop (Tst.cmp (Ev.name 0 rfl rfl) (Ev.name 1 rfl rfl) (Cmp.eq rfl rfl)) (fun h => ?_) fun h => ?_
    · rw [h]; exact Ex.stop (Ex1.ret Ev.bool)
    · rw [h]; exact Ex.stop (Ex1.ret Ev.bool)
  · rw [h]
    refine Ex.seq (Ex1.assign 2 rfl (Ev.startswith (Ev.name 1 rfl rfl) (Ev.str (by decide +kernel)))) ?_
    refine Ex.ifStop (Tst.all (.andCons (Tst.value (Ev.name 2 rfl rfl) Tru.bool) fun _ => .andCons (Tst.value (Ev.endswith (Ev.name 0 rfl rfl) (Ev.name 1 rfl rfl)) Tru.bool) fun _ => .andNil)) (fun h => ?_) fun h => ?_
    · rw [h]; exact Ex.stop (Ex1.ret Ev.bool)
    · rw [h]
      refine Ex.ifStop (Tst.all (.andCons (Tst.not (Tst.value (Ev.name 2 rfl rfl) Tru.bool)) fun _ => .andCons (Tst.cmp (Ev.name 0 rfl rfl) (Ev.name 1 rfl rfl) (Cmp.eq rfl rfl)) fun _ => .andNil)) (fun h => ?_) fun h => ?_
      · rw [h]; exact Ex.stop (Ex1.ret Ev.bool)
      · rw [h]; exact Ex.stop (Ex1.ret Ev.bool)
def reachS (h : Str) : Str :=
  if decide (Txt.find h (Str.ofString ".") ≥ 0) then
    (if hdn h && ((decide (Txt.find (Txt.slice h (some (Txt.find h (Str.ofString ".") + 1)) none) (Str.ofString ".") ≥ 0) || (eqD (.str (Txt.slice h (some (Txt.find h (Str.ofString ".") + 1)) none)) (.str (Str.ofString "local")) || false)) && true)
      then Str.ofString "." ++ Txt.slice h (some (Txt.find h (Str.ofString ".") + 1)) none else h)
  else h
theorem f_reach (hK : C.K = hd.heap_39 P) (n : Nat) {h : Str} (hh : h.length ≤ 900) (ho : PyData.strOk h = true) (hs : (Txt.slice h (some (Txt.find h (Str.ofString ".") + 1)) none).length ≤ 900) : Fn C (n + 2) 64 [.str h] (.str (reachS h)) := by
  refine Fn.of_body (lk hK rfl) rfl rfl rfl (by rw [hK]; kernel_rfl) rfl rfl rfl (fun vs h => ?_) (NmOk.of (by kernel_rfl)) (Nat.le_of_ble_eq_true rfl) ?_
  · obtain ⟨v0, rfl⟩ := len1 h; rfl
  unfold reachS
  refine Ex.seq (Ex1.assign 1 rfl (Ev.find (Ev.name 0 rfl rfl) (Ev.str (by decide +kernel)))) ?_
  cases h1 : decide (Txt.find h (Str.ofString ".") ≥ 0) with
  | false =>
    refine Ex.seq (Ex1.skip (h1 ▸ Tst.cmp (Ev.name 1 rfl rfl) Ev.int Cmp.ge) Ex.nil) ?_
    exact Ex.stop (Ex1.ret (Ev.name 0 rfl rfl))
  | true =>
    simp only [if_true]
    have hl : (Str.ofString ".").length = 1 := by decide +kernel
    refine Ex.takeBoth (h1 ▸ Tst.cmp (Ev.name 1 rfl rfl) Ev.int Cmp.ge) (c := hdn h && ((decide (Txt.find (Txt.slice h (some (Txt.find h (Str.ofString ".") + 1)) none) (Str.ofString ".") ≥ 0) || (eqD (.str (Txt.slice h (some (Txt.find h (Str.ofString ".") + 1)) none)) (.str (Str.ofString "local")) || false)) && true)) (fun hc => ?_) fun hc => ?_
    · rw [hc]
      refine Ex.seq (Ex1.assign 2 rfl (Ev.slice_str (Ev.name 0 rfl rfl) (.some (Ev.bin (Ev.name 1 rfl rfl) Ev.int Bin.add_int)) .none (by omega))) ?_
      refine Ex.seq (Ex1.assign 1 rfl (Ev.find (Ev.name 2 rfl rfl) (Ev.str (by decide +kernel)))) ?_
      refine Ex.stop (Ex1.take (hc ▸ Tst.all (.andCons (Tst.value (Ev.call 3 rfl (g_hdn hK) (lk hK rfl) rfl (.one (Ev.name 0 rfl rfl)) (f_hdn hK n (by omega))) Tru.bool) fun _ => .andCons (Tst.all (.orCons (Tst.cmp (Ev.name 1 rfl rfl) Ev.int Cmp.ge) fun _ => .orCons (Tst.cmp (Ev.name 2 rfl rfl) (Ev.str (by decide +kernel)) (Cmp.eq rfl rfl)) fun _ => .orNil)) fun _ => .andNil)) ?_)
      exact Ex.stop (Ex1.ret (Ev.bin (Ev.str (by decide +kernel)) (Ev.name 2 rfl rfl) (Bin.add_str (by simp only [sizeLine]; omega))))
    apply Exists.intro
    apply And.intro
    · refine Ex.seq (Ex1.assign 2 rfl (Ev.slice_str (Ev.name 0 rfl rfl) (.some (Ev.bin (Ev.name 1 rfl rfl) Ev.int Bin.add_int)) .none (by omega))) ?_
      refine Ex.seq (Ex1.assign 1 rfl (Ev.find (Ev.name 2 rfl rfl) (Ev.str (by decide +kernel)))) ?_
      exact Ex.seq (Ex1.skip (hc ▸ Tst.all (.andCons (Tst.value (Ev.call 3 rfl (g_hdn hK) (lk hK rfl) rfl (.one (Ev.name 0 rfl rfl)) (f_hdn hK n (by omega))) Tru.bool) fun _ => .andCons (Tst.all (.orCons (Tst.cmp (Ev.name 1 rfl rfl) Ev.int Cmp.ge) fun _ => .orCons (Tst.cmp (Ev.name 2 rfl rfl) (Ev.str (by decide +kernel)) (Cmp.eq rfl rfl)) fun _ => .orNil)) fun _ => .andNil)) Ex.nil) Ex.nil
    · rw [hc]
      exact Ex.stop (Ex1.ret (Ev.name 0 rfl rfl))
end
end Mine
end
section
open PySem PySem.W PyProof.Rows PySem.Calls PySem.Spec
set_option maxRecDepth 100000
set_option maxHeartbeats 0
namespace Mine
def dig (N : Int) (k : Nat) : Int := (N.fdiv (8 ^ k)).fmod 8
def wordsL : List Str := [Str.ofString "local", Str.ofString "a", Str.ofString "7", Str.ofString "x-y", Str.ofString "Com", Str.ofString "b", Str.ofString "0", Str.ofString "Zb"]
def sts (l : List Str) : List D := l.map .str
theorem sts_get {l : List Str} {i : Nat} {x : Str} (h : l[i]? = some x) : (sts l)[i]? = some (.str x) := by unfold sts; rw [List.getElem?_map, h]; rfl
def wordAt (N : Int) (k : Nat) : Str := wordsL.getD (dig N k).toNat (Str.ofString "")
theorem dig_lo (N : Int) (k : Nat) : 0 ≤ dig N k := Int.fmod_nonneg_of_pos _ (by decide)
theorem dig_hi (N : Int) (k : Nat) : dig N k < 8 := Int.fmod_lt_of_pos _ (by decide)
theorem word_get (N : Int) (k : Nat) : wordsL[(dig N k).toNat]? = some (wordAt N k) := by
  have h1 := dig_lo N k
  have h2 := dig_hi N k
  have : (dig N k).toNat < wordsL.length := by show _ < 8; omega
  unfold wordAt
  rw [List.getElem?_eq_getElem this, List.getD_eq_getElem?_getD, List.getElem?_eq_getElem this]; rfl
section
variable {C : Cx} {P : Params}
theorem g_range (hK : C.K = hd.heap_39 P) : nsIn C.K mainGlobals (("range" : Str)) = some Option.none := by rw [hK]; kernel_rfl
theorem r3 : rangeD 0 1 (3 : Int).toNat = [.int 0, .int 1, .int 2] := rfl
theorem r8 : rangeD 0 1 (8 : Int).toNat = [.int 0, .int 1, .int 2, .int 3, .int 4, .int 5, .int 6, .int 7] := rfl
theorem f_words (hK : C.K = hd.heap_39 P) (n : Nat) (N : Int) : Fn C (n + 1) 76 [.int N] (.list (sts [wordAt N 0, wordAt N 1, wordAt N 2])) := by
  refine Fn.of_body (lk hK rfl) rfl rfl rfl (by rw [hK]; kernel_rfl) rfl rfl rfl (fun vs h => ?_) (NmOk.of (by kernel_rfl)) (by exact Nat.le_of_ble_eq_true rfl) ?_
  · obtain ⟨v0, rfl⟩ := len1 h; rfl
  refine Ex.seq (Ex1.assign 1 rfl (Ev.list (ds := sts wordsL) (.cons (Ev.str (by decide +kernel)) ns_Constant (.cons (Ev.str (by decide +kernel)) ns_Constant (.cons (Ev.str (by decide +kernel)) ns_Constant (.cons (Ev.str (by decide +kernel)) ns_Constant
    (.cons (Ev.str (by decide +kernel)) ns_Constant (.cons (Ev.str (by decide +kernel)) ns_Constant (.cons (Ev.str (by decide +kernel)) ns_Constant (.cons (Ev.str (by decide +kernel)) ns_Constant .nil)))))))) (by decide))) ?_
  refine Ex.stop (Ex1.ret (Ev.comp (Comp1.rows1 [none, none, some 0, some 1] 1 (sts [wordAt N 0, wordAt N 1, wordAt N 2]) (.cast r3 (Src1.range1 2 rfl (g_range hK) Ev.int (by omega) (by omega))) rfl (by kernel_rfl) (by kernel_rfl) rfl (fun e h => nomatch h) rfl (fun i hi => ?_) (by decide))))
  have key : ∀ k : Nat, k < 3 → ∀ {kd : NameKind} {nm' : Names} {ρ : Rho}, True := fun _ _ _ _ _ => trivial
  match i, hi with
  | 0, _ => exact Ev.sub (Ev.name 3 rfl rfl) (Ev.bin (Ev.bin (Ev.name 2 rfl rfl) (Ev.bin Ev.int (Ev.name 1 rfl rfl) (Bin.pow_int (by decide) (by decide +kernel))) (Bin.fdiv_int (by decide) (by decide))) Ev.int (Bin.mod_int (by decide))) (Itm.list (dig_lo N 0) (Int.lt_trans (dig_hi N 0) (by decide)) (sts_get (word_get N 0)))
  | 1, _ => exact Ev.sub (Ev.name 3 rfl rfl) (Ev.bin (Ev.bin (Ev.name 2 rfl rfl) (Ev.bin Ev.int (Ev.name 1 rfl rfl) (Bin.pow_int (by decide) (by decide +kernel))) (Bin.fdiv_int (by decide) (by decide))) Ev.int (Bin.mod_int (by decide))) (Itm.list (dig_lo N 1) (Int.lt_trans (dig_hi N 1) (by decide)) (sts_get (word_get N 1)))
  | 2, _ => exact Ev.sub (Ev.name 3 rfl rfl) (Ev.bin (Ev.bin (Ev.name 2 rfl rfl) (Ev.bin Ev.int (Ev.name 1 rfl rfl) (Bin.pow_int (by decide) (by decide +kernel))) (Bin.fdiv_int (by decide) (by decide))) Ev.int (Bin.mod_int (by decide))) (Itm.list (dig_lo N 2) (Int.lt_trans (dig_hi N 2) (by decide)) (sts_get (word_get N 2)))

theorem g_words (hK : C.K = hd.heap_39 P) : nsIn C.K mainGlobals (("_law_words" : Str)) = some (some (.ref 76)) := by rw [hK]; kernel_rfl
theorem g_enum (hK : C.K = hd.heap_39 P) : nsIn C.K mainGlobals (("enumerate" : Str)) = some Option.none := by rw [hK]; kernel_rfl
end
def dpt : Nat → Nat
  | 0 => 0 | 1 => 1 | 2 => 1 | _ => 2
theorem dpt_lt (i : Nat) : dpt i < 3 := by unfold dpt; split <;> omega
def signsS : Str := Str.ofString "Qa7%.-zA"
def sgn (N : Int) (k : Nat) : Str := Txt.item signsS (dig N (k + 3))
def e0 : Str := Str.ofString ""
def clsS (sg : Nat → Str) : Nat → List Str
  | 0 => [Str.ofString "Q"]
  | i + 1 => clsS sg i ++ [(clsS sg i).getD i e0 ++ Str.ofString "__" ++ sg (dpt i), (clsS sg i).getD i e0 ++ Str.ofString "__" ++ sg (dpt i) ++ Str.ofString "_" ++ sg (dpt i)]
def domS (wd : Nat → Str) : Nat → List Str
  | 0 => [Str.ofString ".local"]
  | i + 1 => domS wd i ++ [Str.ofString "." ++ wd (dpt i) ++ (domS wd i).getD i e0, Str.ofString ".B" ++ wd (dpt i) ++ (domS wd i).getD i e0]
theorem clsS_len (sg : Nat → Str) : ∀ i, (clsS sg i).length = 2 * i + 1
  | 0 => rfl
  | i + 1 => by unfold clsS; rw [List.length_append, clsS_len sg i]; simp; omega
theorem domS_len (wd : Nat → Str) : ∀ i, (domS wd i).length = 2 * i + 1
  | 0 => rfl
  | i + 1 => by unfold domS; rw [List.length_append, domS_len wd i]; simp; omega
theorem getD_get {l : List Str} {i : Nat} (h : i < l.length) : l[i]? = some (l.getD i e0) := by rw [List.getD_eq_getElem?_getD, List.getElem?_eq_getElem h]; rfl
theorem getD_in {l : List Str} {i : Nat} (h : i < l.length) : l.getD i e0 ∈ l := List.mem_of_getElem? (getD_get h)
theorem clsS_size {sg : Nat → Str} (h : ∀ k, k < 3 → (sg k).length ≤ 1) : ∀ i, ∀ x ∈ clsS sg i, x.length ≤ 1 + 5 * i
  | 0, x, hx => by
    have : x = Str.ofString "Q" := by simpa [clsS] using hx
    subst this
    decide +kernel
  | i + 1, x, hx => by
    have ih := clsS_size h i
    have hs := h _ (dpt_lt i)
    have hg := ih _ (getD_in (l := clsS sg i) (i := i) (by rw [clsS_len]; omega))
    have h2 : (Str.ofString "__").length = 2 := by decide +kernel
    have h1 : (Str.ofString "_").length = 1 := by decide +kernel
    unfold clsS at hx
    rcases List.mem_append.mp hx with hx | hx
    · have := ih x hx; omega
    · rcases List.mem_cons.mp hx with rfl | hx
      · simp only [Str.length_append]; omega
      · have := List.mem_singleton.mp hx
        subst this
        simp only [Str.length_append]; omega
theorem domS_size {wd : Nat → Str} (h : ∀ k, k < 3 → (wd k).length ≤ 5) : ∀ i, ∀ x ∈ domS wd i, x.length ≤ 6 + 7 * i
  | 0, x, hx => by
    have : x = Str.ofString ".local" := by simpa [domS] using hx
    subst this
    decide +kernel
  | i + 1, x, hx => by
    have ih := domS_size h i
    have hs := h _ (dpt_lt i)
    have hg := ih _ (getD_in (l := domS wd i) (i := i) (by rw [domS_len]; omega))
    have h2 : (Str.ofString ".B").length = 2 := by decide +kernel
    have h1 : (Str.ofString ".").length = 1 := by decide +kernel
    unfold domS at hx
    rcases List.mem_append.mp hx with hx | hx
    · have := ih x hx; omega
    · rcases List.mem_cons.mp hx with rfl | hx
      · simp only [Str.length_append]; omega
      · have := List.mem_singleton.mp hx
        subst this
        simp only [Str.length_append]; omega
theorem word_len (N : Int) (k : Nat) : (wordAt N k).length ≤ 5 := by
  have : ∀ x ∈ wordsL, x.length ≤ 5 := by decide +kernel
  exact this _ (List.mem_of_getElem? (word_get N k))
theorem signs_at : ∀ j : Fin 8, (Txt.charAt signsS (j.val : Int)).isSome = true := by decide +kernel
theorem sgn_at (N : Int) (k : Nat) : Txt.charAt signsS (dig N (k + 3)) = some ((Txt.charAt signsS (dig N (k + 3))).getD 0) := by
  have h1 := dig_lo N (k + 3)
  have h2 := dig_hi N (k + 3)
  have := signs_at ⟨(dig N (k + 3)).toNat, by omega⟩
  simp only [Int.toNat_of_nonneg h1] at this
  obtain ⟨c, hc⟩ := Option.isSome_iff_exists.mp this
  rw [hc]; rfl
theorem sgn_len (N : Int) (k : Nat) : (sgn N k).length = 1 := by unfold sgn; rw [item_of (sgn_at N k)]; rfl
theorem pow_ok : ∀ k : Nat, k < 6 → (0 : Int) < 8 ^ k ∧ (8 : Int) ^ k < 1073741824
  | 0, _ | 1, _ | 2, _ | 3, _ | 4, _ | 5, _ => by decide
theorem words_get (N : Int) : ∀ k : Nat, k < 3 → (sts [wordAt N 0, wordAt N 1, wordAt N 2])[k]? = some (.str (wordAt N k))
  | 0, _ | 1, _ | 2, _ => rfl
abbrev dL : List D := [.int 0, .int 1, .int 1, .int 2, .int 2, .int 2, .int 2]
theorem pairs7 : ∀ (i : Nat) (d : D × D), (numD dL)[i]? = some d → i < 7 ∧ d = (.int i, .int (dpt i))
  | 0, d, h | 1, d, h | 2, d, h | 3, d, h | 4, d, h | 5, d, h | 6, d, h => by cases h; exact ⟨by decide, rfl⟩
  | i + 7, d, h => by cases h
section
variable {C : Cx} {P : Params}
abbrev grownNm : Names := [(Str.ofString "number", .local), (Str.ofString "words", .local), (Str.ofString "classes", .local), (Str.ofString "domains", .local), (Str.ofString "k", .local), (Str.ofString "depth", .local), (Str.ofString "sign", .local), (Str.ofString "_law_words", .globalImplicit), (Str.ofString "enumerate", .globalImplicit)]
def grownInv (N : Int) (i : Nat) : Rho := [some (0, .int N), some (0, .list (sts [wordAt N 0, wordAt N 1, wordAt N 2])), some (0, .list (sts (clsS (sgn N) i))), some (0, .list (sts (domS (wordAt N) i))), none, none, none, none, none]
theorem f_grown (hK : C.K = hd.heap_39 P) (n : Nat) (N : Int) : Fn C (n + 2) 83 [.int N] (.tup [.list (sts (clsS (sgn N) 7)), .list (sts (domS (wordAt N) 7))]) := by
  refine Fn.of_body (lk hK rfl) rfl rfl rfl (by rw [hK]; kernel_rfl) rfl rfl rfl (fun vs h => ?_) (NmOk.of (by kernel_rfl)) (by exact Nat.le_of_ble_eq_true rfl) ?_
  · obtain ⟨v0, rfl⟩ := len1 h; rfl
  refine Ex.seq (Ex1.assign 1 rfl (Ev.call 7 rfl (g_words hK) (lk hK rfl) rfl (.one (Ev.name 0 rfl rfl)) (f_words hK n N))) ?_
  refine Ex.seq (Ex1.assign 2 rfl (Ev.list (.one (Ev.str (by decide +kernel))) (by decide))) ?_
  refine Ex.seq (Ex1.assign 3 rfl (Ev.list (.one (Ev.str (by decide +kernel))) (by decide))) ?_
  refine Ex.seq (Ex1.forL2 (k := 0) (ds := numD dL) 4 5 (grownInv N) (Src2.enumerate 8 rfl (g_enum hK) (Ev.list (.cons Ev.int ns_Constant (.cons Ev.int ns_Constant (.cons Ev.int ns_Constant (.cons Ev.int ns_Constant (.cons Ev.int ns_Constant (.cons Ev.int ns_Constant (.cons Ev.int ns_Constant .nil))))))) (by decide))) rfl rfl (fun i d h => ?_)) ?_
  · obtain ⟨hi, rfl⟩ := pairs7 i d h
    have hd3 := dpt_lt i
    have e3 : ((dpt i : Int) + 3).toNat = dpt i + 3 := by omega
    have hp := pow_ok (dpt i + 3) (by omega)
    rw [← e3] at hp
    have hsg : (N.fdiv (8 ^ ((dpt i : Int) + 3).toNat)).fmod 8 = dig N (dpt i + 3) := by rw [e3]; rfl
    have hc := sgn_at N (dpt i)
    rw [← hsg] at hc
    have hb : Builtin.Int.intBits 8 = 4 := by decide +kernel
    have c1 := getD_get (l := clsS (sgn N) i) (i := i) (by rw [clsS_len]; omega)
    have d1 := getD_get (l := domS (wordAt N) i) (i := i) (by rw [domS_len]; omega)
    have cl := clsS_size (sg := sgn N) (fun k _ => Nat.le_of_eq (sgn_len N k)) i _ (getD_in (l := clsS (sgn N) i) (i := i) (by rw [clsS_len]; omega))
    have dl := domS_size (wd := wordAt N) (fun k _ => word_len N k) i _ (getD_in (l := domS (wordAt N) i) (i := i) (by rw [domS_len]; omega))
    have wl := word_len N (dpt i)
    have sl := sgn_len N (dpt i)
    have es : (⟨#[(Txt.charAt signsS ((N.fdiv (8 ^ ((dpt i : Int) + 3).toNat)).fmod 8)).getD 0]⟩ : Str) = sgn N (dpt i) := by
      unfold sgn; rw [← hsg, item_of hc]
    have l1 : (Str.ofString "_").length = 1 := by decide +kernel
    have l2 : (Str.ofString "__").length = 2 := by decide +kernel
    have l3 : (Str.ofString ".").length = 1 := by decide +kernel
    have l4 : (Str.ofString ".B").length = 2 := by decide +kernel
    have sz : sizeLine = 16777216 := by decide +kernel
    refine Ex.seq (Ex1.assign 6 rfl (Ev.cast (congrArg D.str es) (Ev.sub (Ev.str (by decide +kernel)) (Ev.bin (Ev.bin (Ev.name 0 rfl rfl) (Ev.bin Ev.int (Ev.bin (Ev.name 5 rfl rfl) Ev.int Bin.add_int) (Bin.pow_int (by omega) (by rw [hb]; omega))) (Bin.fdiv_int hp.1 hp.2)) Ev.int (Bin.mod_int (by decide))) (Itm.str (by rw [hsg]; have := dig_lo N (dpt i + 3); omega) (by rw [hsg]; have := dig_hi N (dpt i + 3); omega) hc)))) ?_
    have gc : ∀ {ρ : Rho}, ρ[2]? = some (some (0, .list (sts (clsS (sgn N) i)))) → ρ[4]? = some (some (0, .int i)) → ∀ {p₁ p₂ p₃ : Pos}, Ev C (n + 1) grownNm ρ (.Subscript (.Name (Str.ofString "classes") p₁) (.Name (Str.ofString "k") p₂) p₃) 0 (.str ((clsS (sgn N) i).getD i e0)) := fun h1 h2 => Ev.sub (Ev.name 2 rfl h1) (Ev.name 4 rfl h2) (Itm.list (by first | exact Int.natCast_nonneg _ | omega) (by first | exact lt8 (by assumption) | omega) (sts_get (by rw [Int.toNat_natCast]; exact c1)))
    have gd : ∀ {ρ : Rho}, ρ[3]? = some (some (0, .list (sts (domS (wordAt N) i)))) → ρ[4]? = some (some (0, .int i)) → ∀ {p₁ p₂ p₃ : Pos}, Ev C (n + 1) grownNm ρ (.Subscript (.Name (Str.ofString "domains") p₁) (.Name (Str.ofString "k") p₂) p₃) 0 (.str ((domS (wordAt N) i).getD i e0)) := fun h1 h2 => Ev.sub (Ev.name 3 rfl h1) (Ev.name 4 rfl h2) (Itm.list (by first | exact Int.natCast_nonneg _ | omega) (by first | exact lt8 (by assumption) | omega) (sts_get (by rw [Int.toNat_natCast]; exact d1)))
    have gw : ∀ {ρ : Rho}, ρ[1]? = some (some (0, .list (sts [wordAt N 0, wordAt N 1, wordAt N 2]))) → ρ[5]? = some (some (0, .int (dpt i))) → ∀ {p₁ p₂ p₃ : Pos}, Ev C (n + 1) grownNm ρ (.Subscript (.Name (Str.ofString "words") p₁) (.Name (Str.ofString "depth") p₂) p₃) 0 (.str (wordAt N (dpt i))) := fun h1 h2 => Ev.sub (Ev.name 1 rfl h1) (Ev.name 5 rfl h2) (Itm.list (by first | exact Int.natCast_nonneg _ | omega) (by first | exact lt8 (by assumption) | omega) (by rw [Int.toNat_natCast]; exact words_get N _ hd3))
    have add : ∀ {a b : Str}, a.length + b.length ≤ 1000 → a.length + b.length ≤ sizeLine := fun h => by omega
    refine Ex.seq (Ex1.assign 2 rfl (Ev.bin (Ev.name 2 rfl rfl) (Ev.list (.two
      (Ev.bin (Ev.bin (gc rfl rfl) (Ev.str (by decide +kernel)) (Bin.add_str (add (by omega)))) (Ev.name 6 rfl rfl) (Bin.add_str (add (by rw [Str.length_append]; omega))))
      (Ev.bin (Ev.bin (Ev.bin (Ev.bin (gc rfl rfl) (Ev.str (by decide +kernel)) (Bin.add_str (add (by omega)))) (Ev.name 6 rfl rfl) (Bin.add_str (add (by rw [Str.length_append]; omega)))) (Ev.str (by decide +kernel)) (Bin.add_str (add (by rw [Str.length_append, Str.length_append]; omega)))) (Ev.name 6 rfl rfl) (Bin.add_str (add (by rw [Str.length_append, Str.length_append, Str.length_append]; omega))))) (by simp)) (Bin.add_list (by unfold sts; rw [List.length_map, clsS_len]; simp only [List.length_cons, List.length_nil]; omega)))) ?_
    refine Ex.most (Ex.seq (Ex1.assign 3 rfl (Ev.bin (Ev.name 3 rfl rfl) (Ev.list (.two
      (Ev.bin (Ev.bin (Ev.str (by decide +kernel)) (gw rfl rfl) (Bin.add_str (add (by omega)))) (gd rfl rfl) (Bin.add_str (add (by rw [Str.length_append]; omega))))
      (Ev.bin (Ev.bin (Ev.str (by decide +kernel)) (gw rfl rfl) (Bin.add_str (add (by omega)))) (gd rfl rfl) (Bin.add_str (add (by rw [Str.length_append]; omega))))) (by simp)) (Bin.add_list (by unfold sts; rw [List.length_map, domS_len]; simp only [List.length_cons, List.length_nil]; omega)))) Ex.nil) ?_
    intro j e hj
    have e1 : sts (clsS (sgn N) (i + 1)) = sts (clsS (sgn N) i) ++ [.str ((clsS (sgn N) i).getD i e0 ++ Str.ofString "__" ++ sgn N (dpt i)), .str ((clsS (sgn N) i).getD i e0 ++ Str.ofString "__" ++ sgn N (dpt i) ++ Str.ofString "_" ++ sgn N (dpt i))] := by
      unfold sts; rw [clsS, List.map_append]; rfl
    have e2 : sts (domS (wordAt N) (i + 1)) = sts (domS (wordAt N) i) ++ [.str (Str.ofString "." ++ wordAt N (dpt i) ++ (domS (wordAt N) i).getD i e0), .str (Str.ofString ".B" ++ wordAt N (dpt i) ++ (domS (wordAt N) i).getD i e0)] := by
      unfold sts; rw [domS, List.map_append]; rfl
    unfold grownInv at hj
    rw [e1, e2] at hj
    match j, hj with
    | 0, hj => exact hj
    | 1, hj => exact hj
    | 2, hj => exact hj
    | 3, hj => exact hj
    | j + 4, hj =>
      exfalso
      match j, hj with
      | 0, hj | 1, hj | 2, hj | 3, hj | 4, hj => cases hj
      | j + 5, hj => cases hj
  · exact Ex.stop (Ex1.ret (Ev.tup (.two (Ev.name 2 rfl rfl) (Ev.name 3 rfl rfl)) (by simp)))
end
end Mine
end
section
open PySem PySem.W PyProof.Rows PySem.Calls PySem.Spec
set_option maxRecDepth 100000
set_option maxHeartbeats 0
namespace Mine
def ins (l : List Int) : List D := l.map .int
theorem ins_get {l : List Int} {i : Nat} {x : Int} (h : l[i]? = some x) : (ins l)[i]? = some (.int x) := by unfold ins; rw [List.getElem?_map, h]; rfl
theorem ins_set (l : List Int) (i : Nat) (x : Int) : (ins l).set i (.int x) = ins (l.set i x) := by unfold ins; rw [List.map_set]
theorem getI {l : List Int} {i : Nat} (h : i < l.length) : l[i]? = some (l.getD i 0) := by rw [List.getD_eq_getElem?_getD, List.getElem?_eq_getElem h]; rfl
/-- one exchange -/
def swp (l : List Int) (x : Int) : List Int := (l.set (x.fmod 8).toNat (l.getD ((x.fdiv 8).fmod 8).toNat 0)).set ((x.fdiv 8).fmod 8).toNat (l.getD (x.fmod 8).toNat 0)
def exch (ns : List Int) : List Int := ns.foldl swp [3, 0, 5, 2, 1, 6, 7, 4]
theorem swp_len (l : List Int) (x : Int) : (swp l x).length = l.length := by unfold swp; simp
theorem foldl_swp_len (ns : List Int) : ∀ l : List Int, (ns.foldl swp l).length = l.length := by
  induction ns with
  | nil => intro l; rfl
  | cons x ns ih => intro l; rw [List.foldl_cons, ih, swp_len]
theorem mod8 (x : Int) : 0 ≤ x.fmod 8 ∧ x.fmod 8 < 8 := ⟨Int.fmod_nonneg_of_pos _ (by decide), Int.fmod_lt_of_pos _ (by decide)⟩
section
variable {C : Cx} {P : Params}
def exInv (ns : List Int) (i : Nat) : Rho := [some (0, .list (ins ns)), some (1, .list (ins (exch (ns.take i)))), none, none]
theorem f_exch (hK : C.K = hd.heap_39 P) (n : Nat) (ns : List Int) : Fn C (n + 1) 90 [.list (ins ns)] (.list (ins (exch ns))) := by
  refine Fn.of_body (lk hK rfl) rfl rfl rfl (by rw [hK]; kernel_rfl) rfl rfl rfl (fun vs h => ?_) (NmOk.of (by kernel_rfl)) (by exact Nat.le_of_ble_eq_true rfl) ?_
  · obtain ⟨v0, rfl⟩ := len1 h; rfl
  refine Ex.seq (Ex1.assignF 1 rfl (EvF.list (.cons Ev.int ns_Constant (.cons Ev.int ns_Constant (.cons Ev.int ns_Constant (.cons Ev.int ns_Constant (.cons Ev.int ns_Constant (.cons Ev.int ns_Constant (.cons Ev.int ns_Constant (.cons Ev.int ns_Constant .nil)))))))) (by decide))) ?_
  refine Ex.seq (Ex1.forL (ds := ins ns) 2 (exInv ns) (Src1.list (Ev.name 0 rfl rfl)) rfl (fun i d h => ?_)) ?_
  · obtain ⟨x, hx, rfl⟩ : ∃ x, ns[i]? = some x ∧ d = .int x := by
      unfold ins at h
      rw [List.getElem?_map] at h
      cases e : ns[i]? with
      | none => rw [e] at h; cases h
      | some x => rw [e] at h; cases h; exact ⟨x, rfl, rfl⟩
    have hl : (exch (ns.take i)).length = 8 := foldl_swp_len _ _
    have hE : exch (ns.take (i + 1)) = swp (exch (ns.take i)) x := by
      unfold exch; rw [List.take_add_one, hx, List.foldl_append]; rfl
    have m1 := mod8 x
    have m2 := mod8 (x.fdiv 8)
    unfold exInv
    rw [hE]
    generalize exch (ns.take i) = l at hl ⊢
    have ga := getI (l := l) (i := (x.fmod 8).toNat) (by omega)
    have gb := getI (l := l) (i := ((x.fdiv 8).fmod 8).toNat) (by omega)
    refine Ex.seq (Ex1.assign 3 rfl (Ev.sub (Ev.name 1 rfl rfl) (Ev.bin (Ev.name 2 rfl rfl) Ev.int (Bin.mod_int (by decide))) (Itm.own m1.1 (by omega) (ins_get ga)))) ?_
    refine Ex.seq (Ex1.put_list (Plc.name 1 rfl rfl) (Ev.bin (Ev.name 2 rfl rfl) Ev.int (Bin.mod_int (by decide))) (Ev.sub (Ev.name 1 rfl rfl) (Ev.bin (Ev.bin (Ev.name 2 rfl rfl) Ev.int (Bin.fdiv_int (by decide) (by decide))) Ev.int (Bin.mod_int (by decide))) (Itm.own m2.1 (by omega) (ins_get gb))) m1.1 (by omega) (by unfold ins; rw [List.length_map]; omega)) ?_
    refine Ex.most (Ex.seq (Ex1.put_list (Plc.name 1 rfl rfl) (Ev.bin (Ev.bin (Ev.name 2 rfl rfl) Ev.int (Bin.fdiv_int (by decide) (by decide))) Ev.int (Bin.mod_int (by decide))) (Ev.name 3 rfl rfl) m2.1 (by omega) (by simp only [ins, List.length_set, List.length_map]; omega)) Ex.nil) ?_
    intro j e hj
    have es : ins (swp l x) = ((ins l).set (x.fmod 8).toNat (.int (l.getD ((x.fdiv 8).fmod 8).toNat 0))).set ((x.fdiv 8).fmod 8).toNat (.int (l.getD (x.fmod 8).toNat 0)) := by
      unfold swp; rw [ins_set, ins_set]
    rw [es] at hj
    match j, hj with
    | 0, hj => exact hj
    | 1, hj => exact hj
    | 2, hj => cases hj
    | 3, hj => cases hj
    | j + 4, hj => cases hj
  · refine Ex.stop (Ex1.retName (k := 1) 1 rfl ?_)
    show some (some (1, D.list (ins (exch (ns.take (ins ns).length))))) = _
    have : (ins ns).length = ns.length := by unfold ins; simp
    rw [this, List.take_length]
end
end Mine
end
section
open PySem PySem.W PyProof.Rows PySem.Calls PySem.Spec
set_option maxRecDepth 100000
set_option maxHeartbeats 0
namespace Mine
abbrev i8 : List D := [.int 0, .int 1, .int 2, .int 3, .int 4, .int 5, .int 6, .int 7]
theorem i8_mem {d : D} (h : d ∈ i8) : ∃ k : Nat, k < 8 ∧ d = .int k := by
  simp only [i8, List.mem_cons, List.not_mem_nil, or_false] at h
  rcases h with rfl | rfl | rfl | rfl | rfl | rfl | rfl | rfl
  · exact ⟨0, by omega, rfl⟩
  · exact ⟨1, by omega, rfl⟩
  · exact ⟨2, by omega, rfl⟩
  · exact ⟨3, by omega, rfl⟩
  · exact ⟨4, by omega, rfl⟩
  · exact ⟨5, by omega, rfl⟩
  · exact ⟨6, by omega, rfl⟩
  · exact ⟨7, by omega, rfl⟩
theorem dput_len (kvs : List (Str × D)) (k : Str) (d : D) : (dput kvs k d).length ≤ kvs.length + 1 := by
  unfold dput; split <;> simp
def tHid (c : Str) (ms : List Str) : D → Bool
  | .int k => isD (.bool (isPriv c (ms.getD k.toNat e0))) (.bool true)
  | _ => false
def hidL (c : Str) (ms : List Str) : List D := (i8.filter (tHid c ms)).map fun d => d
def hidD (cs ms : List Str) : List (Str × D) := cs.foldl (fun kvs c => dput kvs c (.list (hidL c ms))) []
theorem hidD_len (ms : List Str) : ∀ (cs : List Str) (kvs : List (Str × D)), (cs.foldl (fun kvs c => dput kvs c (.list (hidL c ms))) kvs).length ≤ kvs.length + cs.length
  | [], _ => by simp
  | c :: cs, kvs => by
    rw [List.foldl_cons]
    have := hidD_len ms cs (dput kvs c (.list (hidL c ms)))
    have := dput_len kvs c (.list (hidL c ms))
    rw [List.length_cons]; omega
section
variable {C : Cx} {P : Params}
def hidInv (cs ms : List Str) (i : Nat) : Rho := [some (0, .list (sts cs)), some (0, .list (sts ms)), some (1, .dict (hidD (cs.take i) ms)), none, none]
theorem f_hidden (hK : C.K = hd.heap_39 P) (n : Nat) {cs ms : List Str} (hc : ∀ c ∈ cs, c.length ≤ 1000) (hm : ∀ m ∈ ms, m.length ≤ 1000) (h8 : ms.length = 8) (hn : cs.length ≤ 900) : Fn C (n + 2) 95 [.list (sts cs), .list (sts ms)] (.dict (hidD cs ms)) := by
  refine Fn.of_body (lk hK rfl) rfl rfl rfl (by rw [hK]; kernel_rfl) rfl rfl rfl (fun vs h => ?_) (NmOk.of (by kernel_rfl)) (by exact Nat.le_of_ble_eq_true rfl) ?_
  · obtain ⟨v0, v1, rfl⟩ := len2 h; rfl
  refine Ex.seq (Ex1.assignF 2 rfl EvF.dict0) ?_
  refine Ex.seq (Ex1.forL (ds := sts cs) 3 (hidInv cs ms) (Src1.list (Ev.name 0 rfl rfl)) rfl (fun i d h => ?_)) ?_
  · obtain ⟨c, hci, rfl⟩ : ∃ c, cs[i]? = some c ∧ d = .str c := by
      unfold sts at h
      rw [List.getElem?_map] at h
      cases e : cs[i]? with
      | none => rw [e] at h; cases h
      | some x => rw [e] at h; cases h; exact ⟨x, rfl, rfl⟩
    have hcl := hc c (List.mem_of_getElem? hci)
    have hE : hidD (cs.take (i + 1)) ms = dput (hidD (cs.take i) ms) c (.list (hidL c ms)) := by
      unfold hidD; rw [List.take_add_one, hci, List.foldl_append]; rfl
    have hL : (hidD (cs.take i) ms).length ≤ 1000 := by
      have := hidD_len ms (cs.take i) []
      have h2 : (cs.take i).length ≤ cs.length := by rw [List.length_take]; omega
      unfold hidD; simp at this; omega
    unfold hidInv
    rw [hE]
    generalize hidD (cs.take i) ms = kvs at hL ⊢
    refine Ex.most (Ex.seq (Ex1.put_dict (Plc.name 2 rfl rfl) (Ev.name 3 rfl rfl) (Ev.comp (Comp1.filter1 [none, none, none, some 3, some 1] 1 (fun d => d) (tHid c ms) (.cast r8 (Src1.range1 4 rfl (g_range hK) Ev.int (by omega) (by omega))) rfl (by kernel_rfl) (by kernel_rfl) rfl (fun e h => nomatch h) (fun d hd => ?_) (fun d hd ht => Ev.name 1 rfl rfl) (by simp))) hL) Ex.nil) ?_
    · obtain ⟨k, hk, rfl⟩ := i8_mem hd
      have hmk := getD_get (l := ms) (i := k) (by omega)
      have hml := hm _ (getD_in (l := ms) (i := k) (by omega))
      exact Tst.cmp (Ev.call 2 rfl (g_private hK) (lk hK rfl) rfl (.two (Ev.name 3 rfl rfl) (Ev.sub (Ev.name 4 rfl rfl) (Ev.name 1 rfl rfl) (Itm.list (by first | exact Int.natCast_nonneg _ | omega) (by first | exact lt8 (by assumption) | omega) (sts_get (by rw [Int.toNat_natCast]; exact hmk))))) (f_private hK n hcl hml)) Ev.bool (Cmp.is rfl)
    · exact .same (.same (.same (.gone (.gone (.nil)))))
  · refine Ex.stop (Ex1.retName (k := 1) 2 rfl ?_)
    show some (some (1, D.dict (hidD (cs.take (sts cs).length) ms))) = _
    have : (sts cs).length = cs.length := by unfold sts; simp
    rw [this, List.take_length]
end
end Mine
end
section
open PySem PySem.W PyProof.Rows PySem.Calls PySem.Spec
set_option maxRecDepth 100000
set_option maxHeartbeats 0
namespace Mine
def nts (l : List Nat) : List D := l.map fun (k : Nat) => .int (k : Int)
theorem nts_get {l : List Nat} {i : Nat} {x : Nat} (h : l[i]? = some x) : (nts l)[i]? = some (.int (x : Int)) := by unfold nts; rw [List.getElem?_map, h]; rfl
theorem nts_mem {l : List Nat} {d : D} (h : d ∈ nts l) : ∃ k ∈ l, d = .int (k : Int) := by
  unfold nts at h
  obtain ⟨k, hk, rfl⟩ := List.mem_map.mp h
  exact ⟨k, hk, rfl⟩
theorem nts_at {l : List Nat} {i : Nat} {d : D} (h : (nts l)[i]? = some d) : ∃ k, l[i]? = some k ∧ d = .int (k : Int) := by
  unfold nts at h
  rw [List.getElem?_map] at h
  cases e : l[i]? with
  | none => rw [e] at h; cases h
  | some x => rw [e] at h; cases h; exact ⟨x, rfl, rfl⟩
def tOth (homes : List Str) (x : Nat) : D → Bool
  | .int y => (!eqD (.int y) (.int (x : Int))) && (eqD (.str (homes.getD y.toNat e0)) (.str (homes.getD x e0)) && true)
  | _ => false
def oth (homes : List Str) (g : List Nat) (x : Nat) : List D := ((nts g).filter (tOth homes x)).map fun d => d
def mst (homes : List Str) (g : List Nat) (l : List D) (x : Nat) : List D := if eqD (.int ((oth homes g x).length : Int)) (.int 1) then l.set x ((oth homes g x).getD 0 .none) else l
def mgr (homes : List Str) (l : List D) (g : List Nat) : List D := g.foldl (mst homes g) l
def matesL (homes : List Str) (gs : List (List Nat)) : List D := gs.foldl (mgr homes) (List.replicate 8 .none)
theorem mst_len (homes : List Str) (g : List Nat) (l : List D) (x : Nat) : (mst homes g l x).length = l.length := by unfold mst; split <;> simp
theorem mst_foldl_len (homes : List Str) (g : List Nat) : ∀ (xs : List Nat) (l : List D), (xs.foldl (mst homes g) l).length = l.length
  | [], _ => rfl
  | x :: xs, l => by rw [List.foldl_cons, mst_foldl_len homes g xs, mst_len]
theorem mgr_foldl_len (homes : List Str) : ∀ (gs : List (List Nat)) (l : List D), (gs.foldl (mgr homes) l).length = l.length
  | [], _ => rfl
  | g :: gs, l => by rw [List.foldl_cons, mgr_foldl_len homes gs]; exact mst_foldl_len homes g g l
theorem eqD_int (a b : Int) : eqD (.int a) (.int b) = decide (a = b) := by
  show PyData.eqv (.int a) (.int b) = _
  simp only [PyData.eqv]
  rw [Bool.eq_iff_iff]
  simp
def nns (gs : List (List Nat)) : List D := gs.map fun g => .list (nts g)
section
variable {C : Cx} {P : Params}
def matInv (homes : List Str) (gs : List (List Nat)) (i : Nat) : Rho := [some (0, .list (nns gs)), some (0, .list (sts homes)), some (1, .list (matesL homes (gs.take i))), none, none, none, none]
def matInv2 (homes : List Str) (gs : List (List Nat)) (l : List D) (g : List Nat) (i : Nat) : Rho := [some (0, .list (nns gs)), some (0, .list (sts homes)), some (1, .list ((g.take i).foldl (mst homes g) l)), some (0, .list (nts g)), none, none, none]
theorem f_mates (hK : C.K = hd.heap_39 P) (n : Nat) {gs : List (List Nat)} {homes : List Str} (hg : ∀ g ∈ gs, g.length ≤ 8 ∧ ∀ x ∈ g, x < 8) (h8 : homes.length = 8) (hn : gs.length ≤ 900) : Fn C (n + 1) 100 [.list (nns gs), .list (sts homes)] (.list (matesL homes gs)) := by
  refine Fn.of_body (lk hK rfl) rfl rfl rfl (by rw [hK]; kernel_rfl) rfl rfl rfl (fun vs h => ?_) (NmOk.of (by kernel_rfl)) (by exact Nat.le_of_ble_eq_true rfl) ?_
  · obtain ⟨v0, v1, rfl⟩ := len2 h; rfl
  refine Ex.seq (Ex1.assignF 2 rfl (EvF.mul1 Ev.none Ev.int (by decide) (by decide) n1_Constant)) ?_
  refine Ex.seq (Ex1.forL (ds := nns gs) 3 (matInv homes gs) (Src1.list (Ev.name 0 rfl rfl)) rfl (fun i d h => ?_)) ?_
  · obtain ⟨g, hgi, rfl⟩ : ∃ g, gs[i]? = some g ∧ d = .list (nts g) := by
      unfold nns at h
      rw [List.getElem?_map] at h
      cases e : gs[i]? with
      | none => rw [e] at h; cases h
      | some x => rw [e] at h; cases h; exact ⟨x, rfl, rfl⟩
    obtain ⟨hgl, hgx⟩ := hg g (List.mem_of_getElem? hgi)
    have hE : matesL homes (gs.take (i + 1)) = mgr homes (matesL homes (gs.take i)) g := by
      unfold matesL; rw [List.take_add_one, hgi, List.foldl_append]; rfl
    have hL : (matesL homes (gs.take i)).length = 8 := by unfold matesL; rw [mgr_foldl_len]; simp
    unfold matInv
    rw [hE]
    generalize matesL homes (gs.take i) = l at hL ⊢
    refine Ex.most (Ex.seq (Ex1.less (ρ' := matInv2 homes gs l g 0) (Ex1.forL (ds := nts g) 4 (matInv2 homes gs l g) (Src1.list (Ev.name 3 rfl rfl)) rfl (fun j d h => ?_)) ?_) Ex.nil) ?_
    · obtain ⟨x, hx, rfl⟩ := nts_at h
      have hx8 := hgx x (List.mem_of_getElem? hx)
      have hE2 : (g.take (j + 1)).foldl (mst homes g) l = mst homes g ((g.take j).foldl (mst homes g) l) x := by
        rw [List.take_add_one, hx, List.foldl_append]; rfl
      have hL2 : ((g.take j).foldl (mst homes g) l).length = 8 := by rw [mst_foldl_len]; exact hL
      unfold matInv2
      rw [hE2]
      generalize (g.take j).foldl (mst homes g) l = l2 at hL2 ⊢
      have ghx := getD_get (l := homes) (i := x) (by omega)
      refine Ex.seq (Ex1.assignComp 5 rfl (Comp1.filter1 [none, none, some 1, some 4] 1 (fun d => d) (tOth homes x) (Src1.list (Ev.name 3 rfl rfl)) rfl (by kernel_rfl) (by kernel_rfl) rfl (fun e h => nomatch h) (fun d hd => ?_) (fun d hd ht => Ev.name 1 rfl rfl) (by unfold nts; rw [List.length_map]; omega))) ?_
      · obtain ⟨y, hy, rfl⟩ := nts_mem hd
        have hy8 := hgx y hy
        have ghy := getD_get (l := homes) (i := y) (by omega)
        exact Tst.all (.andCons (Tst.cmp (Ev.name 1 rfl rfl) (Ev.name 3 rfl rfl) (Cmp.ne rfl rfl)) fun _ => .andCons (Tst.cmp (Ev.sub (Ev.name 2 rfl rfl) (Ev.name 1 rfl rfl) (Itm.list (by first | exact Int.natCast_nonneg _ | omega) (by first | exact lt8 (by assumption) | omega) (sts_get (by rw [Int.toNat_natCast]; exact ghy)))) (Ev.sub (Ev.name 2 rfl rfl) (Ev.name 3 rfl rfl) (Itm.list (by first | exact Int.natCast_nonneg _ | omega) (by first | exact lt8 (by assumption) | omega) (sts_get (by rw [Int.toNat_natCast]; exact ghx)))) (Cmp.eq rfl rfl)) fun _ => .andNil)
      · have hol : (oth homes g x).length ≤ 8 := by
          unfold oth; rw [List.length_map]
          exact Nat.le_trans (List.length_filter_le _ _) (by unfold nts; rw [List.length_map]; exact hgl)
        show Ex C n _ (List.set (List.set [some (0, .list (nns gs)), some (0, .list (sts homes)), some (1, .list l2), some (0, .list (nts g)), none, none, none] 4 (some (0, .int (x : Int)))) 5 (some (0, .list (oth homes g x)))) _ _
        unfold mst
        cases hc : eqD (.int ((oth homes g x).length : Int)) (.int 1) with
        | false =>
          refine Ex.most (Ex.seq (Ex1.skip (hc ▸ Tst.cmp (Ev.len_list 6 rfl (g_len hK) (Ev.name 5 rfl rfl) (by omega)) Ev.int (Cmp.eq rfl rfl)) Ex.nil) Ex.nil) ?_
          exact .same (.same (.same (.same (.gone (.gone (.gone (.nil)))))))
        | true =>
          have h1 : (oth homes g x).length = 1 := by
            rw [eqD_int] at hc
            have := of_decide_eq_true hc
            omega
          have h0 : (oth homes g x)[0]? = some ((oth homes g x).getD 0 .none) := by
            rw [List.getD_eq_getElem?_getD, List.getElem?_eq_getElem (by omega)]; rfl
          refine Ex.most (Ex.seq (Ex1.take (hc ▸ Tst.cmp (Ev.len_list 6 rfl (g_len hK) (Ev.name 5 rfl rfl) (by omega)) Ev.int (Cmp.eq rfl rfl)) (Ex.seq (Ex1.put_list (Plc.name 2 rfl rfl) (Ev.name 4 rfl rfl) (Ev.sub (Ev.name 5 rfl rfl) Ev.int (Itm.list (by decide) (by decide) h0)) (by omega) (by omega) (by omega)) Ex.nil)) Ex.nil) ?_
          intro k e hk
          rw [Int.toNat_natCast]
          match k, hk with
          | 0, hk => exact hk
          | 1, hk => exact hk
          | 2, hk => exact hk
          | 3, hk => exact hk
          | 4, hk => cases hk
          | 5, hk => cases hk
          | 6, hk => cases hk
          | k + 7, hk => cases hk
    · exact .same (.same (.same (.same (.gone (.gone (.gone (.nil)))))))
    · intro k e hk
      have e1 : (g.take (nts g).length).foldl (mst homes g) l = mgr homes l g := by
        have : (nts g).length = g.length := by unfold nts; simp
        rw [this, List.take_length]; rfl
      unfold matInv2
      rw [e1]
      match k, hk with
      | 0, hk => exact hk
      | 1, hk => exact hk
      | 2, hk => exact hk
      | 3, hk => cases hk
      | 4, hk => cases hk
      | 5, hk => cases hk
      | 6, hk => cases hk
      | k + 7, hk => cases hk
  · refine Ex.stop (Ex1.retName (k := 1) 2 rfl ?_)
    show some (some (1, D.list (matesL homes (gs.take (nns gs).length)))) = _
    have : (nns gs).length = gs.length := by unfold nns; simp
    rw [this, List.take_length]
end
end Mine
end
section
open PySem PySem.W PyProof.Rows PySem.Calls PySem.Spec
set_option maxRecDepth 100000
set_option maxHeartbeats 0
namespace Mine
def wlk (f s : List Nat) (b : Int) : Nat → List D → Nat → List D
  | 0, l, _ => l
  | k + 1, l, y => if isD (l.getD y .none) .none then wlk f s b k ((l.set y (.int b)).set (f.getD y 0) (.int (1 - b))) (s.getD (f.getD y 0) 0) else l
def wlkY (f s : List Nat) (b : Int) : Nat → List D → Nat → Nat
  | 0, _, y => y
  | k + 1, l, y => if isD (l.getD y .none) .none then wlkY f s b k ((l.set y (.int b)).set (f.getD y 0) (.int (1 - b))) (s.getD (f.getD y 0) 0) else y
def cnt : List D → Nat
  | [] => 0
  | d :: l => (if isD d .none then 1 else 0) + cnt l
theorem cnt_le : ∀ l : List D, cnt l ≤ l.length
  | [] => Nat.le_refl _
  | d :: l => by unfold cnt; have := cnt_le l; rw [List.length_cons]; split <;> omega
theorem cnt_set (b : Int) : ∀ (l : List D) (i : Nat), cnt (l.set i (.int b)) ≤ cnt l
  | [], _ => Nat.le_refl _
  | d :: l, 0 => by
    show (if isD (.int b) .none then 1 else 0) + cnt l ≤ (if isD d .none then 1 else 0) + cnt l
    have : isD (.int b) .none = false := rfl
    rw [this]; simp
  | d :: l, i + 1 => by
    show (if isD d .none then 1 else 0) + cnt (l.set i (.int b)) ≤ (if isD d .none then 1 else 0) + cnt l
    have := cnt_set b l i
    omega
theorem cnt_set_lt (b : Int) : ∀ (l : List D) (i : Nat), i < l.length → isD (l.getD i .none) .none = true → cnt (l.set i (.int b)) < cnt l
  | [], _, h, _ => absurd h (Nat.not_lt_zero _)
  | d :: l, 0, _, h => by
    have hd : isD d .none = true := h
    show (if isD (.int b) .none then 1 else 0) + cnt l < (if isD d .none then 1 else 0) + cnt l
    have : isD (.int b) .none = false := rfl
    rw [this, hd]; simp
  | d :: l, i + 1, hi, h => by
    show (if isD d .none then 1 else 0) + cnt (l.set i (.int b)) < (if isD d .none then 1 else 0) + cnt l
    have := cnt_set_lt b l i (by simpa using hi) h
    omega
theorem wlk_len (f s : List Nat) (b : Int) : ∀ (k : Nat) (l : List D) (y : Nat), (wlk f s b k l y).length = l.length
  | 0, _, _ => rfl
  | k + 1, l, y => by
    unfold wlk
    split
    · rw [wlk_len f s b k]; simp
    · rfl
def colS (f s : List Nat) (bits : List Int) (i : Nat) : List D := (List.range i).foldl (fun l x => wlk f s (bits.getD x 0) 8 l x) (List.replicate 8 .none)
theorem colS_succ (f s : List Nat) (bits : List Int) (i : Nat) : colS f s bits (i + 1) = wlk f s (bits.getD i 0) 8 (colS f s bits i) i := by
  unfold colS; rw [List.range_succ, List.foldl_append]; rfl
theorem colS_len (f s : List Nat) (bits : List Int) : ∀ i, (colS f s bits i).length = 8
  | 0 => rfl
  | i + 1 => by rw [colS_succ, wlk_len, colS_len f s bits i]
theorem getN {l : List Nat} {i : Nat} (h : i < l.length) : l[i]? = some (l.getD i 0) := by rw [List.getD_eq_getElem?_getD, List.getElem?_eq_getElem h]; rfl
theorem getN_in {l : List Nat} {i : Nat} (h : i < l.length) : l.getD i 0 ∈ l := List.mem_of_getElem? (getN h)
theorem getDD {l : List D} {i : Nat} (h : i < l.length) : l[i]? = some (l.getD i .none) := by rw [List.getD_eq_getElem?_getD, List.getElem?_eq_getElem h]; rfl
section
variable {C : Cx} {P : Params}
abbrev colNm : Names := [(Str.ofString "first", .local), (Str.ofString "second", .local), (Str.ofString "bits", .local), (Str.ofString "colours", .local), (Str.ofString "x", .local), (Str.ofString "y", .local), (Str.ofString "z", .local), (Str.ofString "range", .globalImplicit)]
def colR (f s : List Nat) (bits : List Int) (x y : Nat) (l : List D) : Rho := [some (0, .list (nts f)), some (0, .list (nts s)), some (0, .list (ins bits)), some (1, .list l), some (0, .int (x : Int)), some (0, .int (y : Int)), none, none]
def colI (f s : List Nat) (bits : List Int) (i : Nat) : Rho := [some (0, .list (nts f)), some (0, .list (nts s)), some (0, .list (ins bits)), some (1, .list (colS f s bits i)), none, none, none, none]
theorem f_coloured (hK : C.K = hd.heap_39 P) (n : Nat) {f s : List Nat} {bits : List Int} (hf : f.length = 8) (hs : s.length = 8) (hb : bits.length = 8) (hf8 : ∀ x ∈ f, x < 8) (hs8 : ∀ x ∈ s, x < 8) : Fn C (n + 1) 107 [.list (nts f), .list (nts s), .list (ins bits)] (.list (colS f s bits 8)) := by
  refine Fn.of_body (lk hK rfl) rfl rfl rfl (by rw [hK]; kernel_rfl) rfl rfl rfl (fun vs h => ?_) (NmOk.of (by kernel_rfl)) (by exact Nat.le_of_ble_eq_true rfl) ?_
  · obtain ⟨v0, v1, v2, rfl⟩ := len3 h; rfl
  refine Ex.seq (Ex1.assignF 3 rfl (EvF.mul1 Ev.none Ev.int (by decide) (by decide) n1_Constant)) ?_
  refine Ex.seq (Ex1.forL (ds := i8) 4 (colI f s bits) (.cast r8 (Src1.range1 7 rfl (g_range hK) Ev.int (by decide) (by decide))) rfl (fun i d h => ?_)) ?_
  · obtain ⟨hi, rfl⟩ : i < 8 ∧ d = .int (i : Int) := by
      match i, h with
      | 0, h | 1, h | 2, h | 3, h | 4, h | 5, h | 6, h | 7, h => cases h; exact ⟨by decide, rfl⟩
      | i + 8, h => cases h
    have hE := colS_succ f s bits i
    have hL := colS_len f s bits i
    unfold colI
    rw [hE]
    generalize colS f s bits i = l at hL ⊢
    have gb := getI (l := bits) (i := i) (by omega)
    refine Ex.seq (Ex1.assign 5 rfl (Ev.name 4 rfl rfl)) ?_
    have run : ∀ (k : Nat) (l : List D) (y : Nat), l.length = 8 → y < 8 → cnt l ≤ k → ∀ {t : Expr} {body : List Stmt},
        (∀ l y, l.length = 8 → y < 8 → Tst C n colNm (colR f s bits i y l) t (isD (l.getD y .none) .none)) →
        (∀ l y, l.length = 8 → y < 8 → Ex C n colNm (colR f s bits i y l) body (.next (colR f s bits i (s.getD (f.getD y 0) 0) ((l.set y (.int (bits.getD i 0))).set (f.getD y 0) (.int (1 - bits.getD i 0)))))) →
        WhileRun C n colNm t body k (colR f s bits i y l) (.next (colR f s bits i (wlkY f s (bits.getD i 0) k l y) (wlk f s (bits.getD i 0) k l y))) := by
      intro k
      induction k with
      | zero =>
        intro l y hl hy hc t body ht hbd
        refine .done ?_
        have := ht l y hl hy
        cases e : isD (l.getD y .none) .none with
        | false => rw [e] at this; exact this
        | true =>
          have := cnt_set_lt 0 l y (by omega) e
          omega
      | succ k ih =>
        intro l y hl hy hc t body ht hbd
        have h1 := ht l y hl hy
        have hz : f.getD y 0 < 8 := hf8 _ (getN_in (by omega))
        have hy' : s.getD (f.getD y 0) 0 < 8 := hs8 _ (getN_in (by omega))
        unfold wlk wlkY
        cases e : isD (l.getD y .none) .none with
        | false =>
          rw [e] at h1
          exact .done h1
        | true =>
          rw [e] at h1
          have c1 := cnt_set_lt (bits.getD i 0) l y (by omega) e
          have c2 := cnt_set (1 - bits.getD i 0) (l.set y (.int (bits.getD i 0))) (f.getD y 0)
          have r := ih ((l.set y (.int (bits.getD i 0))).set (f.getD y 0) (.int (1 - bits.getD i 0))) _ (by simpa using hl) hy' (by omega) ht hbd
          exact .turn h1 (hbd l y hl hy) r
    refine Ex.most (Ex.seq (Ex1.while_ (run 8 l i hL hi (Nat.le_trans (cnt_le l) (by omega)) (fun l y hl hy => Tst.cmp (Ev.sub (Ev.name 3 rfl rfl) (Ev.name 5 rfl rfl) (Itm.own (by first | exact Int.natCast_nonneg _ | omega) (by first | exact lt8 (by assumption) | omega) (by rw [Int.toNat_natCast]; exact getDD (by omega)))) Ev.none (Cmp.is rfl)) (fun l y hl hy => ?_))) Ex.nil) ?_
    · have gy := getN (l := f) (i := y) (by omega)
      have hz : f.getD y 0 < 8 := hf8 _ (getN_in (by omega))
      have gz := getN (l := s) (i := f.getD y 0) (by omega)
      refine Ex.seq (Ex1.put_list (Plc.name 3 rfl rfl) (Ev.name 5 rfl rfl) (Ev.sub (Ev.name 2 rfl rfl) (Ev.name 4 rfl rfl) (Itm.list (by first | exact Int.natCast_nonneg _ | omega) (by first | exact lt8 (by assumption) | omega) (ins_get (by rw [Int.toNat_natCast]; exact gb)))) (by omega) (by omega) (by omega)) ?_
      refine Ex.seq (Ex1.assign 6 rfl (Ev.sub (Ev.name 0 rfl rfl) (Ev.name 5 rfl rfl) (Itm.list (by first | exact Int.natCast_nonneg _ | omega) (by first | exact lt8 (by assumption) | omega) (nts_get (by rw [Int.toNat_natCast]; exact gy))))) ?_
      refine Ex.seq (Ex1.put_list (Plc.name 3 rfl rfl) (Ev.name 6 rfl rfl) (Ev.bin Ev.int (Ev.sub (Ev.name 2 rfl rfl) (Ev.name 4 rfl rfl) (Itm.list (by first | exact Int.natCast_nonneg _ | omega) (by first | exact lt8 (by assumption) | omega) (ins_get (by rw [Int.toNat_natCast]; exact gb)))) Bin.sub_int) (by omega) (by omega) (by rw [List.length_set]; omega)) ?_
      refine Ex.most (Ex.seq (Ex1.assign 5 rfl (Ev.sub (Ev.name 1 rfl rfl) (Ev.name 6 rfl rfl) (Itm.list (by first | exact Int.natCast_nonneg _ | omega) (by first | exact lt8 (by assumption) | omega) (nts_get (by rw [Int.toNat_natCast]; exact gz))))) Ex.nil) ?_
      intro k e hk
      rw [Int.toNat_natCast, Int.toNat_natCast]
      match k, hk with
      | 0, hk => exact hk
      | 1, hk => exact hk
      | 2, hk => exact hk
      | 3, hk => exact hk
      | 4, hk => exact hk
      | 5, hk => exact hk
      | 6, hk => cases hk
      | 7, hk => cases hk
      | k + 8, hk => cases hk
    intro k e hk
    match k, hk with
    | 0, hk => exact hk
    | 1, hk => exact hk
    | 2, hk => exact hk
    | 3, hk => exact hk
    | 4, hk => cases hk
    | 5, hk => cases hk
    | 6, hk => cases hk
    | 7, hk => cases hk
    | k + 8, hk => cases hk
  · exact Ex.stop (Ex1.retName (k := 1) 3 rfl rfl)
end
end Mine
end
section
open PySem PySem.W PyProof.Rows PySem.Calls PySem.Spec
set_option maxRecDepth 100000
set_option maxHeartbeats 0
namespace Mine
/-- a host that is tame in great letters, too -/
structure Host (h : Str) : Prop where
  len : h.length ≤ 900
  ok : PyData.strOk h = true
  up : (Txt.upper h).length ≤ 900
  upok : PyData.strOk (Txt.upper h) = true
  tame : Tame (Txt.upper h)
  sl : (Txt.slice h (some (Txt.find h (Str.ofString ".") + 1)) none).length ≤ 900
theorem sts_at {l : List Str} {i : Nat} {d : D} (h : (sts l)[i]? = some d) : ∃ x, l[i]? = some x ∧ d = .str x := by
  unfold sts at h
  rw [List.getElem?_map] at h
  cases e : l[i]? with
  | none => rw [e] at h; cases h
  | some x => rw [e] at h; cases h; exact ⟨x, rfl, rfl⟩
theorem sts_mem {l : List Str} {d : D} (h : d ∈ sts l) : ∃ x ∈ l, d = .str x := by
  unfold sts at h
  obtain ⟨x, hx, rfl⟩ := List.mem_map.mp h
  exact ⟨x, hx, rfl⟩
theorem sts_len (l : List Str) : (sts l).length = l.length := by unfold sts; simp
theorem cut_take (l : List Str) (k : Nat) : cut (sts l) Option.none (some (k : Int)) = sts (l.take k) := by
  unfold cut sts; simp [List.map_take]
theorem cut_drop (l : List Str) (k : Nat) : cut (sts l) (some (k : Int)) Option.none = sts (l.drop k) := by
  unfold cut sts
  simp only [Option.elim, List.take_length, Int.toNat_natCast, List.map_drop]
theorem map_str (l : List Str) (f : Str → Str) : (sts l).map (fun d => match d with | .str x => D.str (f x) | d => d) = sts (l.map f) := by
  unfold sts; rw [List.map_map, List.map_map]; rfl
def tGreat (dom : Str) (hs : List Str) : D → Bool
  | .int k => isD (.bool (udm (Txt.upper (hs.getD k.toNat e0)) dom)) (.bool true)
  | _ => false
def tOwn (dom : Str) (hs : List Str) : D → Bool
  | .int k => eqD (.str (reachS (hs.getD k.toNat e0))) (.str dom)
  | _ => false
def put1 (hs : List Str) (kvs : List (Str × D)) (dom : Str) : List (Str × D) := dput kvs dom (.list ((i8.filter (tGreat dom hs)).map fun d => d))
def put2 (hs : List Str) (kvs : List (Str × D)) (dom : Str) : List (Str × D) := dput kvs dom (.list ((i8.filter (tOwn dom hs)).map fun d => d))
def heldD (ds hs : List Str) : List (Str × D) := (ds.drop 7).foldl (put2 hs) ((ds.take 7).foldl (put1 hs) [])
theorem put_foldl_len (f : List (Str × D) → Str → List (Str × D)) (hf : ∀ kvs d, (f kvs d).length ≤ kvs.length + 1) : ∀ (ds : List Str) (kvs : List (Str × D)), (ds.foldl f kvs).length ≤ kvs.length + ds.length
  | [], _ => by simp
  | d :: ds, kvs => by
    rw [List.foldl_cons]
    have := put_foldl_len f hf ds (f kvs d)
    have := hf kvs d
    rw [List.length_cons]; omega
section
variable {C : Cx} {P : Params}
theorem g_udm (hK : C.K = hd.heap_39 P) : nsIn C.K mainGlobals (("user_domain_match" : Str)) = some (some (.ref 57)) := by rw [hK]; kernel_rfl
theorem g_reach (hK : C.K = hd.heap_39 P) : nsIn C.K mainGlobals (("reach" : Str)) = some (some (.ref 64)) := by rw [hK]; kernel_rfl
def heldI (ds hs : List Str) (kvs : List (Str × D)) : Rho := [some (0, .list (sts ds)), some (0, .list (sts hs)), some (1, .dict kvs), some (0, .list (sts (hs.map Txt.upper))), some (0, .list (sts (hs.map reachS))), none, none]
theorem f_held (hK : C.K = hd.heap_39 P) (n : Nat) {ds hs : List Str} (hd' : ∀ d ∈ ds, Tame d) (hh : ∀ h ∈ hs, Host h) (h8 : hs.length = 8) (hn : ds.length ≤ 900) : Fn C (n + 3) 117 [.list (sts ds), .list (sts hs)] (.dict (heldD ds hs)) := by
  refine Fn.of_body (lk hK rfl) rfl rfl rfl (by rw [hK]; kernel_rfl) rfl rfl rfl (fun vs h => ?_) (NmOk.of (by kernel_rfl)) (by exact Nat.le_of_ble_eq_true rfl) ?_
  · obtain ⟨v0, v1, rfl⟩ := len2 h; rfl
  refine Ex.seq (Ex1.assignF 2 rfl EvF.dict0) ?_
  refine Ex.seq (Ex1.assign 3 rfl (Ev.cast (congrArg D.list (map_str hs Txt.upper)) (Ev.comp (Comp1.map1 [none, none] 1 _ (Src1.list (Ev.name 1 rfl rfl)) rfl (by kernel_rfl) (by kernel_rfl) rfl (fun e h => nomatch h) (fun d hd => ?_) (by rw [sts_len]; omega)))) (hs := fun env ok => swaps_false ok (lookup_at ok.nodup (i := 3) rfl))) ?_
  · obtain ⟨x, hx, rfl⟩ := sts_mem hd
    have H := hh x hx
    exact Ev.upper (Ev.name 1 rfl rfl) (fits_of H.up) H.upok
  refine Ex.seq (Ex1.assign 4 rfl (Ev.cast (congrArg D.list (map_str hs reachS)) (Ev.comp (Comp1.map1 [none, none, none] 1 _ (Src1.list (Ev.name 1 rfl rfl)) rfl (by kernel_rfl) (by kernel_rfl) rfl (fun e h => nomatch h) (fun d hd => ?_) (by rw [sts_len]; omega)))) (hs := fun env ok => swaps_false ok (lookup_at ok.nodup (i := 4) rfl))) ?_
  · obtain ⟨x, hx, rfl⟩ := sts_mem hd
    have H := hh x hx
    exact Ev.call 2 rfl (g_reach hK) (lk hK rfl) rfl (.one (Ev.name 1 rfl rfl)) (f_reach hK n H.len H.ok H.sl)
  refine Ex.seq (Ex1.less (ρ' := heldI ds hs (([] : List Str).foldl (put1 hs) [])) (Ex1.forL (ds := sts (ds.take 7)) 5 (fun i => heldI ds hs (((ds.take 7).take i).foldl (put1 hs) [])) (.cast (cut_take ds 7) (Src1.list (Ev.slice_list (Ev.name 0 rfl rfl) .none (.some Ev.int) (fun _ h => nomatch h) (fun _ h => by cases h; decide) (by rw [sts_len]; omega)))) rfl (fun i d h => ?_)) ?_) ?_
  · obtain ⟨x, hx, rfl⟩ := sts_at h
    have hT := hd' x (List.mem_of_mem_take (List.mem_of_getElem? hx))
    have hL := put_foldl_len (put1 hs) (fun kvs d => dput_len kvs d _) ((ds.take 7).take i) []
    have hL2 : ((ds.take 7).take i).length ≤ ds.length := by rw [List.length_take, List.length_take]; omega
    have hE : ((ds.take 7).take (i + 1)).foldl (put1 hs) [] = put1 hs (((ds.take 7).take i).foldl (put1 hs) []) x := by
      rw [List.take_add_one, hx, List.foldl_append]; rfl
    unfold heldI
    rw [hE]
    generalize ((ds.take 7).take i).foldl (put1 hs) [] = kvs at hL ⊢
    refine Ex.most (Ex.seq (Ex1.put_dict (Plc.name 2 rfl rfl) (Ev.name 5 rfl rfl) (Ev.comp (Comp1.filter1 [none, none, none, some 5, some 3] 1 (fun d => d) (tGreat x hs) (.cast r8 (Src1.range1 6 rfl (g_range hK) Ev.int (by omega) (by omega))) rfl (by kernel_rfl) (by kernel_rfl) rfl (fun e h => nomatch h) (fun d hd => ?_) (fun d hd ht => Ev.name 1 rfl rfl) (by simp))) (by simp at hL; omega)) Ex.nil) ?_
    · obtain ⟨k, hk, rfl⟩ := i8_mem hd
      have H := hh _ (getD_in (l := hs) (i := k) (by omega))
      have hg : (hs.map Txt.upper)[k]? = some (Txt.upper (hs.getD k e0)) := by rw [List.getElem?_map, getD_get (l := hs) (i := k) (by omega)]; rfl
      exact Tst.cmp (Ev.call 2 rfl (g_udm hK) (lk hK rfl) rfl (.two (Ev.sub (Ev.name 4 rfl rfl) (Ev.name 1 rfl rfl) (Itm.list (by first | exact Int.natCast_nonneg _ | omega) (by first | exact lt8 (by assumption) | omega) (sts_get (by rw [Int.toNat_natCast]; exact hg)))) (Ev.name 3 rfl rfl)) (f_udm hK n H.tame hT)) Ev.bool (Cmp.is rfl)
    · intro j e hj
      match j, hj with
      | 0, hj => exact hj
      | 1, hj => exact hj
      | 2, hj => exact hj
      | 3, hj => exact hj
      | 4, hj => exact hj
      | 5, hj => cases hj
      | 6, hj => cases hj
      | j + 7, hj => cases hj
  · intro j e hj
    match j, hj with
    | 0, hj => exact hj
    | 1, hj => exact hj
    | 2, hj => exact hj
    | 3, hj => exact hj
    | 4, hj => exact hj
    | 5, hj => cases hj
    | 6, hj => cases hj
    | j + 7, hj => cases hj
  have hE1 : ((ds.take 7).take (sts (ds.take 7)).length).foldl (put1 hs) [] = (ds.take 7).foldl (put1 hs) [] := by rw [sts_len, List.take_length]
  show Ex C _ _ (heldI ds hs (((ds.take 7).take (sts (ds.take 7)).length).foldl (put1 hs) [])) _ _
  rw [hE1]
  have hL0 := put_foldl_len (put1 hs) (fun kvs d => dput_len kvs d _) (ds.take 7) []
  have hL00 : (ds.take 7).length ≤ 7 := by rw [List.length_take]; omega
  unfold heldD
  generalize (ds.take 7).foldl (put1 hs) [] = kv0 at hL0 ⊢
  refine Ex.seq (Ex1.forL (ds := sts (ds.drop 7)) 5 (fun i => heldI ds hs (((ds.drop 7).take i).foldl (put2 hs) kv0)) (.cast (cut_drop ds 7) (Src1.list (Ev.slice_list (Ev.name 0 rfl rfl) (.some Ev.int) .none (fun _ h => by cases h; decide) (fun _ h => nomatch h) (by rw [sts_len]; omega)))) rfl (fun i d h => ?_)) ?_
  · obtain ⟨x, hx, rfl⟩ := sts_at h
    have hL := put_foldl_len (put2 hs) (fun kvs d => dput_len kvs d _) ((ds.drop 7).take i) kv0
    have hL2 : ((ds.drop 7).take i).length ≤ ds.length := by rw [List.length_take, List.length_drop]; omega
    have hE : ((ds.drop 7).take (i + 1)).foldl (put2 hs) kv0 = put2 hs (((ds.drop 7).take i).foldl (put2 hs) kv0) x := by
      rw [List.take_add_one, hx, List.foldl_append]; rfl
    unfold heldI
    rw [hE]
    generalize ((ds.drop 7).take i).foldl (put2 hs) kv0 = kvs at hL ⊢
    refine Ex.most (Ex.seq (Ex1.put_dict (Plc.name 2 rfl rfl) (Ev.name 5 rfl rfl) (Ev.comp (Comp1.filter1 [none, none, some 5, some 4] 1 (fun d => d) (tOwn x hs) (.cast r8 (Src1.range1 6 rfl (g_range hK) Ev.int (by omega) (by omega))) rfl (by kernel_rfl) (by kernel_rfl) rfl (fun e h => nomatch h) (fun d hd => ?_) (fun d hd ht => Ev.name 1 rfl rfl) (by simp))) (by simp at hL0; omega)) Ex.nil) ?_
    · obtain ⟨k, hk, rfl⟩ := i8_mem hd
      have hg : (hs.map reachS)[k]? = some (reachS (hs.getD k e0)) := by rw [List.getElem?_map, getD_get (l := hs) (i := k) (by omega)]; rfl
      exact Tst.cmp (Ev.sub (Ev.name 3 rfl rfl) (Ev.name 1 rfl rfl) (Itm.list (by first | exact Int.natCast_nonneg _ | omega) (by first | exact lt8 (by assumption) | omega) (sts_get (by rw [Int.toNat_natCast]; exact hg)))) (Ev.name 2 rfl rfl) (Cmp.eq rfl rfl)
    · intro j e hj
      match j, hj with
      | 0, hj => exact hj
      | 1, hj => exact hj
      | 2, hj => exact hj
      | 3, hj => exact hj
      | 4, hj => exact hj
      | 5, hj => cases hj
      | 6, hj => cases hj
      | j + 7, hj => cases hj
  · refine Ex.stop (Ex1.retName (k := 1) 2 rfl ?_)
    show some (some (1, D.dict (((ds.drop 7).take (sts (ds.drop 7)).length).foldl (put2 hs) kv0))) = _
    rw [sts_len, List.take_length]
end
end Mine
end
section
open PySem PySem.W PyProof.Rows PySem.Calls PySem.Spec
set_option maxRecDepth 100000
set_option maxHeartbeats 0
namespace Mine
def cutN (l : List Str) (a b : Nat) : List Str := (l.take b).drop a
theorem cut_both (l : List Str) (a b : Nat) {x y : Int} (hx : x = (a : Int)) (hy : y = (b : Int)) : cut (sts l) (some x) (some y) = sts (cutN l a b) := by
  subst hx; subst hy
  unfold cut sts cutN
  simp only [Option.elim, Int.toNat_natCast, List.map_drop, List.map_take]
def tIn (la : List D) (d : D) : Bool := anyEq la d
def tIn2 (sec : List Int) (la : List D) : D → Bool
  | .int x => anyEq la (.int (sec.getD x.toNat 0))
  | _ => false
theorem flats_nts (l : List Nat) : flats 50 (nts l) = true := by
  rw [flats_iff]
  intro d hd
  obtain ⟨k, _, rfl⟩ := nts_mem hd
  rfl
theorem nts_len (l : List Nat) : (nts l).length = l.length := by unfold nts; simp
/-- what the net must be: of each class and each domain of three labels together just one letter is left, by either name -/
structure Spread (cs ds : List Str) (kh kd : List (Str × D)) (sec : List Int) : Prop where
  at_ : ∀ k, k < 4 → ∀ c ∈ cutN cs (2 ^ k - 1) (2 ^ (k + 1) - 1), ∀ d ∈ cutN ds (2 ^ (3 - k) - 1) (2 ^ (4 - k) - 1), ∃ a b : List Nat, dget kh c = some (.list (nts a)) ∧ dget kd d = some (.list (nts b)) ∧ (∀ x ∈ b, x < 8) ∧ b.length ≤ 8 ∧ a.length ≤ 8 ∧
    ((nts b).filter (tIn (nts a))).length = 1 ∧ ((nts b).filter (tIn2 sec (nts a))).length = 1
section
variable {C : Cx} {P : Params}
def spR (cs ds : List Str) (kh kd : List (Str × D)) (sec : List Int) (dep cl : Option (Nat × D)) : Rho := [some (0, .list (sts cs)), some (0, .list (sts ds)), some (0, .dict kh), some (0, .dict kd), some (0, .list (ins sec)), dep, cl, none, none, none, none, none]
theorem less_of {ρ ρ' : Rho} (h : ∀ j, j < 12 → ∀ e, ρ'[j]? = some (some e) → ρ[j]? = some (some e)) (hl : ρ'.length ≤ 12) : Less ρ' ρ := fun j e hj => by
  have : j < ρ'.length := (List.getElem?_eq_some_iff.mp hj).1
  exact h j (by omega) e hj
theorem r4 : rangeD 0 1 (4 : Int).toNat = [.int 0, .int 1, .int 2, .int 3] := rfl
theorem f_spread (hK : C.K = hd.heap_39 P) (n : Nat) {cs ds : List Str} {kh kd : List (Str × D)} {sec : List Int} (S : Spread cs ds kh kd sec) (h8 : sec.length = 8) (hc : cs.length ≤ 900) (hd' : ds.length ≤ 900) :
    Fn C (n + 1) 122 [.list (sts cs), .list (sts ds), .dict kh, .dict kd, .list (ins sec)] (.bool true) := by
  refine Fn.of_body (lk hK rfl) rfl rfl rfl (by rw [hK]; kernel_rfl) rfl rfl rfl (fun vs h => ?_) (NmOk.of (by kernel_rfl)) (by exact Nat.le_of_ble_eq_true rfl) ?_
  · obtain ⟨v0, v1, v2, v3, v4, rfl⟩ := len5 h; rfl
  refine Ex.seq (Ex1.forL (ds := [.int 0, .int 1, .int 2, .int 3]) 5 (fun _ => spR cs ds kh kd sec none none) (.cast r4 (Src1.range1 10 rfl (g_range hK) Ev.int (by decide) (by decide))) rfl (fun i d h => ?_)) (Ex.stop (Ex1.ret Ev.bool))
  obtain ⟨hi, rfl⟩ : i < 4 ∧ d = .int (i : Int) := by
    match i, h with
    | 0, h | 1, h | 2, h | 3, h => cases h; exact ⟨by decide, rfl⟩
    | i + 4, h => cases h
  have hS := S.at_ i hi
  have e1 : (2 : Int) ^ ((i : Int)).toNat - 1 = ((2 ^ i - 1 : Nat) : Int) := by
    match i, hi with
    | 0, _ | 1, _ | 2, _ | 3, _ => rfl
  have e2 : (2 : Int) ^ ((i : Int) + 1).toNat - 1 = ((2 ^ (i + 1) - 1 : Nat) : Int) := by
    match i, hi with
    | 0, _ | 1, _ | 2, _ | 3, _ => rfl
  have e3 : (2 : Int) ^ ((3 : Int) - (i : Int)).toNat - 1 = ((2 ^ (3 - i) - 1 : Nat) : Int) := by
    match i, hi with
    | 0, _ | 1, _ | 2, _ | 3, _ => rfl
  have e4 : (2 : Int) ^ ((4 : Int) - (i : Int)).toNat - 1 = ((2 ^ (4 - i) - 1 : Nat) : Int) := by
    match i, hi with
    | 0, _ | 1, _ | 2, _ | 3, _ => rfl
  have hb : Builtin.Int.intBits 2 = 2 := by decide +kernel
  have lc : (sts cs).length ≤ 1000000 := by rw [sts_len]; omega
  have ld : (sts ds).length ≤ 1000000 := by rw [sts_len]; omega
  generalize hcc : cutN cs (2 ^ i - 1) (2 ^ (i + 1) - 1) = cc at hS
  generalize hdc : cutN ds (2 ^ (3 - i) - 1) (2 ^ (4 - i) - 1) = dc at hS
  refine Ex.most (Ex.seq (Ex1.less (ρ' := spR cs ds kh kd sec (some (0, .int (i : Int))) none) (Ex1.forL (ds := sts cc) 6 (fun _ => spR cs ds kh kd sec (some (0, .int (i : Int))) none)
    (.cast ((cut_both cs _ _ e1 e2).trans (by rw [hcc])) (Src1.list (Ev.slice_list (Ev.name 0 rfl rfl) (.some (Ev.bin (Ev.bin Ev.int (Ev.name 5 rfl rfl) (Bin.pow_int (by omega) (by rw [hb]; omega))) Ev.int Bin.sub_int)) (.some (Ev.bin (Ev.bin Ev.int (Ev.bin (Ev.name 5 rfl rfl) Ev.int Bin.add_int) (Bin.pow_int (by omega) (by rw [hb]; omega))) Ev.int Bin.sub_int)) (fun a h => by cases h; omega) (fun a h => by cases h; omega) lc))) rfl (fun j d h => ?_)) ?_) Ex.nil) ?_
  · obtain ⟨c, hcj, rfl⟩ := sts_at h
    have hS2 := hS c (List.mem_of_getElem? hcj)
    refine Ex.most (Ex.seq (Ex1.less (ρ' := spR cs ds kh kd sec (some (0, .int (i : Int))) (some (0, .str c))) (Ex1.forL (ds := sts dc) 7 (fun _ => spR cs ds kh kd sec (some (0, .int (i : Int))) (some (0, .str c)))
      (.cast ((cut_both ds _ _ e3 e4).trans (by rw [hdc])) (Src1.list (Ev.slice_list (Ev.name 1 rfl rfl) (.some (Ev.bin (Ev.bin Ev.int (Ev.bin Ev.int (Ev.name 5 rfl rfl) Bin.sub_int) (Bin.pow_int (by omega) (by rw [hb]; omega))) Ev.int Bin.sub_int)) (.some (Ev.bin (Ev.bin Ev.int (Ev.bin Ev.int (Ev.name 5 rfl rfl) Bin.sub_int) (Bin.pow_int (by omega) (by rw [hb]; omega))) Ev.int Bin.sub_int)) (fun a h => by cases h; omega) (fun a h => by cases h; omega) ld))) rfl (fun k d h => ?_)) ?_) Ex.nil) ?_
    · obtain ⟨x, hx, rfl⟩ := sts_at h
      obtain ⟨a, b, q1, q2, q3, q4, q5, q6, q7⟩ := hS2 x (List.mem_of_getElem? hx)
      have lb : (nts b).length ≤ 100000 := by rw [nts_len]; omega
      refine Ex.seq (Ex1.assignComp 8 rfl (Comp1.filter1 [none, none, some 6, some 2] 1 (fun d => d) (tIn (nts a)) (Src1.list (Ev.sub (Ev.name 3 rfl rfl) (Ev.name 7 rfl rfl) (Itm.dict (Nat.zero_le _) q2))) rfl (by kernel_rfl) (by kernel_rfl) rfl (fun e h => nomatch h) (fun d hd => ?_) (fun d hd ht => Ev.name 1 rfl rfl) lb)) ?_
      · obtain ⟨y, hy, rfl⟩ := nts_mem hd
        exact Tst.cmp (Ev.name 1 rfl rfl) (Ev.sub (Ev.name 3 rfl rfl) (Ev.name 2 rfl rfl) (Itm.dict (Nat.zero_le _) q1)) (Cmp.in_list rfl (flats_nts a))
      refine Ex.seq (Ex1.assignComp 9 rfl (Comp1.filter1 [none, none, some 6, some 2, some 4] 1 (fun d => d) (tIn2 sec (nts a)) (Src1.list (Ev.sub (Ev.name 3 rfl rfl) (Ev.name 7 rfl rfl) (Itm.dict (Nat.zero_le _) q2))) rfl (by kernel_rfl) (by kernel_rfl) rfl (fun e h => nomatch h) (fun d hd => ?_) (fun d hd ht => Ev.name 1 rfl rfl) lb)) ?_
      · obtain ⟨y, hy, rfl⟩ := nts_mem hd
        have hy8 := q3 y hy
        exact Tst.cmp (Ev.sub (Ev.name 4 rfl rfl) (Ev.name 1 rfl rfl) (Itm.list (by first | exact Int.natCast_nonneg _ | omega) (by first | exact lt8 (by assumption) | omega) (ins_get (by rw [Int.toNat_natCast]; exact getI (by omega))))) (Ev.sub (Ev.name 3 rfl rfl) (Ev.name 2 rfl rfl) (Itm.dict (Nat.zero_le _) q1)) (Cmp.in_list rfl (flats_nts a))
      have w1 : (!eqD (.int (((List.map (fun d => d) ((nts b).filter (tIn (nts a)))).length : Nat) : Int)) (.int 1)) = false := by rw [List.length_map, q6, eqD_int]; rfl
      have w2 : (!eqD (.int (((List.map (fun d => d) ((nts b).filter (tIn2 sec (nts a)))).length : Nat) : Int)) (.int 1)) = false := by rw [List.length_map, q7, eqD_int]; rfl
      have tst : ∀ {x y : Bool}, x = false → y = false → (x || (y || false)) = false := fun h h' => by rw [h, h']; rfl
      refine Ex.most (Ex.seq (Ex1.skip (tst w1 w2 ▸ Tst.all (.orCons (Tst.cmp (Ev.len_list 11 rfl (g_len hK) (Ev.name 8 rfl rfl) (by rw [List.length_map, q6]; omega)) Ev.int (Cmp.ne rfl rfl)) fun _ => .orCons (Tst.cmp (Ev.len_list 11 rfl (g_len hK) (Ev.name 9 rfl rfl) (by rw [List.length_map, q7]; omega)) Ev.int (Cmp.ne rfl rfl)) fun _ => .orNil)) Ex.nil) Ex.nil) ?_
      exact .same (.same (.same (.same (.same (.same (.same (.gone (.gone (.gone (.gone (.gone (.nil))))))))))))
    · exact .same (.same (.same (.same (.same (.same (.same (.gone (.gone (.gone (.gone (.gone (.nil))))))))))))
    · exact .same (.same (.same (.same (.same (.same (.gone (.gone (.gone (.gone (.gone (.gone (.nil))))))))))))
  · exact .same (.same (.same (.same (.same (.same (.gone (.gone (.gone (.gone (.gone (.gone (.nil))))))))))))
  · exact .same (.same (.same (.same (.same (.gone (.gone (.gone (.gone (.gone (.gone (.gone (.nil))))))))))))
end
end Mine
end
section
open PySem PySem.W PyProof.Rows PySem.Calls PySem.Spec
set_option maxRecDepth 100000
set_option maxHeartbeats 0
namespace Mine
def corP (c : Str) : List (Str × Str) := [(c, Str.ofString "_" ++ c ++ Str.ofString "___x"), (Str.ofString "_" ++ c, Str.ofString "__" ++ c ++ Str.ofString "__x"), (Str.ofString "_" ++ c, Str.ofString "_" ++ c ++ Str.ofString "__x"), (Txt.lower c, Str.ofString "_" ++ c ++ Str.ofString "__x"),
  (c, Str.ofString "_" ++ c ++ Str.ofString "___"), (c, Str.ofString "x" ++ c ++ Str.ofString "__x"), (c, Str.ofString "__" ++ c ++ Str.ofString "__x"), (c, Str.ofString "_" ++ Txt.replace c (Str.ofString ".") (Str.ofString "+") ++ Str.ofString "__x")]
def corD (c : Str) : List Bool := [true, true, false, false, false, false, false, !Txt.contains c (Str.ofString ".")]
def pairD (l : List (Str × Str)) : List D := l.map fun p => .tup [.str p.1, .str p.2]
theorem pairD_get {l : List (Str × Str)} {i : Nat} {x : Str × Str} (h : l[i]? = some x) : (pairD l)[i]? = some (.tup [.str x.1, .str x.2]) := by unfold pairD; rw [List.getElem?_map, h]; rfl
def bls (l : List Bool) : List D := l.map .bool
theorem bls_get {l : List Bool} {i : Nat} {x : Bool} (h : l[i]? = some x) : (bls l)[i]? = some (.bool x) := by unfold bls; rw [List.getElem?_map, h]; rfl
def e2s : Str × Str := (e0, e0)
theorem getP {l : List (Str × Str)} {i : Nat} (h : i < l.length) : l[i]? = some (l.getD i e2s) := by rw [List.getD_eq_getElem?_getD, List.getElem?_eq_getElem h]; rfl
theorem getP_in {l : List (Str × Str)} {i : Nat} (h : i < l.length) : l.getD i e2s ∈ l := List.mem_of_getElem? (getP h)
theorem getB {l : List Bool} {i : Nat} (h : i < l.length) : l[i]? = some (l.getD i false) := by rw [List.getD_eq_getElem?_getD, List.getElem?_eq_getElem h]; rfl
def tCor (c : Str) : D → Bool
  | .int k => !isD (.bool (isPriv ((corP c).getD k.toNat e2s).1 ((corP c).getD k.toNat e2s).2)) (.bool ((corD c).getD k.toNat false))
  | _ => false
section
variable {C : Cx} {P : Params}
theorem f_corners (hK : C.K = hd.heap_39 P) (n : Nat) {c : Str} (hc : c.length ≤ 100) (ho : PyData.strOk c = true) (hl : (Txt.lower c).length ≤ 900) (hlo : PyData.strOk (Txt.lower c) = true) (hr : (Txt.replace c (Str.ofString ".") (Str.ofString "+")).length ≤ 900) (hro : PyData.strOk (Txt.replace c (Str.ofString ".") (Str.ofString "+")) = true)
    (H : ∀ k, k < 8 → isPriv ((corP c).getD k e2s).1 ((corP c).getD k e2s).2 = (corD c).getD k false) : Fn C (n + 2) 127 [.str c] (.bool true) := by
  refine Fn.of_body (lk hK rfl) rfl rfl rfl (by rw [hK]; kernel_rfl) rfl rfl rfl (fun vs h => ?_) (NmOk.of (by kernel_rfl)) (by exact Nat.le_of_ble_eq_true rfl) ?_
  · obtain ⟨v0, rfl⟩ := len1 h; rfl
  have sz : sizeLine = 16777216 := by decide +kernel
  have k1 : (Str.ofString "_").length = 1 := by decide +kernel
  have k2 : (Str.ofString "__").length = 2 := by decide +kernel
  have k3 : (Str.ofString "___x").length = 4 := by decide +kernel
  have k4 : (Str.ofString "__x").length = 3 := by decide +kernel
  have k5 : (Str.ofString "___").length = 3 := by decide +kernel
  have k6 : (Str.ofString "x").length = 1 := by decide +kernel
  have k7 : (Str.ofString "+").length = 1 := by decide +kernel
  have hmul : c.length + (c.length + 1) * (Str.ofString "+").length ≤ 16777216 := by rw [k7]; omega
  have add : ∀ {a b : Str}, a.length + b.length ≤ 2000 → a.length + b.length ≤ sizeLine := fun h => by omega
  have cat : ∀ {ρ : Rho} {nm : Names} {u v : Str} {k k' : Nat} {p p' p₁ p₂ : Pos} {e : Expr} {x : Str}, Ev C (n + 1) nm ρ e 0 (.str x) → PyData.strOk u = true → PyData.strOk v = true → u.length + x.length + v.length ≤ 1900 → Ev C (n + 1) nm ρ (.BinOp (.BinOp (.Constant (.str u) k p) .Add e p₁) .Add (.Constant (.str v) k' p') p₂) 0 (.str (u ++ x ++ v)) :=
    fun h hu hv hz => Ev.bin (Ev.bin (Ev.str hu) h (Bin.add_str (add (by omega)))) (Ev.str hv) (Bin.add_str (add (by rw [Str.length_append]; omega)))
  refine Ex.seq (Ex1.assign 1 rfl (Ev.list (.cons (Ev.tup (.two (Ev.name 0 rfl rfl) (cat (Ev.name 0 rfl rfl) (by decide +kernel) (by decide +kernel) (by omega))) (by simp)) ns_Tuple
    (.cons (Ev.tup (.two (Ev.bin (Ev.str (by decide +kernel)) (Ev.name 0 rfl rfl) (Bin.add_str (add (by omega)))) (cat (Ev.name 0 rfl rfl) (by decide +kernel) (by decide +kernel) (by omega))) (by simp)) ns_Tuple
    (.cons (Ev.tup (.two (Ev.bin (Ev.str (by decide +kernel)) (Ev.name 0 rfl rfl) (Bin.add_str (add (by omega)))) (cat (Ev.name 0 rfl rfl) (by decide +kernel) (by decide +kernel) (by omega))) (by simp)) ns_Tuple
    (.cons (Ev.tup (.two (Ev.lower (Ev.name 0 rfl rfl) (fits_of hl) hlo) (cat (Ev.name 0 rfl rfl) (by decide +kernel) (by decide +kernel) (by omega))) (by simp)) ns_Tuple .nil)))) (by simp))) ?_
  refine Ex.seq (Ex1.assign 1 rfl (Ev.cast (d' := .list (pairD (corP c))) rfl (Ev.bin (Ev.name 1 rfl rfl) (Ev.list (.cons (Ev.tup (.two (Ev.name 0 rfl rfl) (cat (Ev.name 0 rfl rfl) (by decide +kernel) (by decide +kernel) (by omega))) (by simp)) ns_Tuple
    (.cons (Ev.tup (.two (Ev.name 0 rfl rfl) (cat (Ev.name 0 rfl rfl) (by decide +kernel) (by decide +kernel) (by omega))) (by simp)) ns_Tuple
    (.cons (Ev.tup (.two (Ev.name 0 rfl rfl) (cat (Ev.name 0 rfl rfl) (by decide +kernel) (by decide +kernel) (by omega))) (by simp)) ns_Tuple
    (.cons (Ev.tup (.two (Ev.name 0 rfl rfl) (cat (Ev.replace (Ev.name 0 rfl rfl) (by decide +kernel) hmul hro) (by decide +kernel) (by decide +kernel) (by omega))) (by simp)) ns_Tuple .nil)))) (by simp)) (Bin.add_list (by simp only [List.length_cons, List.length_nil]; omega))))) ?_
  refine Ex.seq (Ex1.assign 2 rfl (Ev.list (ds := bls (corD c)) (.cons Ev.bool ns_Constant (.cons Ev.bool ns_Constant (.cons Ev.bool ns_Constant (.cons Ev.bool ns_Constant (.cons Ev.bool ns_Constant (.cons Ev.bool ns_Constant (.cons Ev.bool ns_Constant (.cons (Ev.cmp (Ev.str (by decide +kernel)) (Ev.name 0 rfl rfl) Cmp.notin_str) ns_Compare .nil)))))))) (by simp [bls, corD]))) ?_
  have hnil : (i8.filter (tCor c)).map (fun d => d) = [] := by
    rw [List.map_id', List.filter_eq_nil_iff]
    intro d hd
    obtain ⟨k, hk, rfl⟩ := i8_mem hd
    have := H k hk
    show ¬ ((!isD (.bool (isPriv ((corP c).getD (k : Int).toNat e2s).1 ((corP c).getD (k : Int).toNat e2s).2)) (.bool ((corD c).getD (k : Int).toNat false))) = true)
    rw [Int.toNat_natCast, this]
    cases (corD c).getD k false <;> decide
  refine Ex.stop (Ex1.ret (Ev.cast rfl (Ev.cmp (Ev.cast (congrArg D.list hnil) (Ev.comp (Comp1.filter1 [none, none, none, some 2, some 1] 1 (fun d => d) (tCor c) (.cast r8 (Src1.range1 3 rfl (g_range hK) Ev.int (by omega) (by omega))) rfl (by kernel_rfl) (by kernel_rfl) rfl (fun e h => nomatch h) (fun d hd => ?_) (fun d hd ht => Ev.name 1 rfl rfl) (by simp)))) (Ev.list .nil (by simp)) (Cmp.eq rfl rfl))))
  obtain ⟨k, hk, rfl⟩ := i8_mem hd
  have gp := getP (l := corP c) (i := k) hk
  have gb := getB (l := corD c) (i := k) hk
  have sizes : ∀ p ∈ corP c, p.1.length ≤ 1000 ∧ p.2.length ≤ 1000 := by
    intro p hp
    simp only [corP, List.mem_cons, List.not_mem_nil, or_false] at hp
    rcases hp with rfl | rfl | rfl | rfl | rfl | rfl | rfl | rfl <;> simp only [Str.length_append] <;> omega
  have sp := sizes _ (getP_in (l := corP c) (i := k) hk)
  exact Tst.cmp (Ev.call 2 rfl (g_private hK) (lk hK rfl) rfl (.two (Ev.sub (Ev.sub (Ev.name 4 rfl rfl) (Ev.name 1 rfl rfl) (Itm.list (by first | exact Int.natCast_nonneg _ | omega) (by first | exact lt8 (by assumption) | omega) (pairD_get (l := corP c) (by rw [Int.toNat_natCast]; exact gp)))) Ev.int (Itm.tup (by decide) (by decide) rfl)) (Ev.sub (Ev.sub (Ev.name 4 rfl rfl) (Ev.name 1 rfl rfl) (Itm.list (by first | exact Int.natCast_nonneg _ | omega) (by first | exact lt8 (by assumption) | omega) (pairD_get (l := corP c) (by rw [Int.toNat_natCast]; exact gp)))) Ev.int (Itm.tup (by decide) (by decide) rfl))) (f_private hK n sp.1 sp.2)) (Ev.sub (Ev.name 3 rfl rfl) (Ev.name 1 rfl rfl) (Itm.list (by first | exact Int.natCast_nonneg _ | omega) (by first | exact lt8 (by assumption) | omega) (bls_get (l := corD c) (by rw [Int.toNat_natCast]; exact gb)))) (Cmp.isnot rfl)
end
end Mine
end
section
open PySem PySem.W PyProof.Rows PySem.Calls PySem.Spec
set_option maxRecDepth 100000
set_option maxHeartbeats 0
namespace Mine
theorem eqD_sts (l : List Str) : eqD (.list (sts l)) (.list (sts l)) = true := by
  show PyData.eqv (.list (pys (sts l))) (.list (pys (sts l))) = true
  simp only [PyData.eqv]
  induction l with
  | nil => rfl
  | cons x l ih =>
    show PyData.eqvAll (.str x :: pys (sts l)) (.str x :: pys (sts l)) = true
    simp only [PyData.eqvAll, PyData.eqv, beq_self_eq_true, Bool.true_and]
    exact ih
theorem flats_sts (l : List Str) (k : Nat) : flats k (sts l) = true := by
  rw [flats_iff]
  intro d hd
  obtain ⟨x, _, rfl⟩ := sts_mem hd
  cases k <;> rfl
def bare (h : Str) : Str := Txt.slice h (some 2) none
def own1 (h : Str) : Str := Txt.slice h (some 1) none
def edP (h : Str) : List (Str × Str) := [(Txt.upper (bare h), bare h), (h ++ Str.ofString ".7", Txt.upper h ++ Str.ofString ".7"), (h ++ Str.ofString "7", own1 h ++ Str.ofString "7"), (own1 h, Txt.upper (own1 h)),
  (bare h, own1 h), (h, bare h), (h ++ Str.ofString ".7", own1 h ++ Str.ofString ".7"), (h ++ Str.ofString ".", own1 h)]
def tEd (h : Str) : D → Bool
  | .int k => !isD (.bool (udm ((edP h).getD k.toNat e2s).1 ((edP h).getD k.toNat e2s).2)) (.bool (decide (k < 4)))
  | _ => false
def alone (h z : Str) : List Str := [Str.ofString "w." ++ Txt.replace (bare h) (Str.ofString ".") (Str.ofString "-"), z ++ Str.ofString ".LOCAL", h ++ Str.ofString ".", h ++ Str.ofString ".7"]
/-- what is asked of the host's text -/
structure Edge (h z : Str) : Prop where
  len : h.length ≤ 100
  ok : PyData.strOk h = true
  bl : (bare h).length ≤ 100
  ol : (own1 h).length ≤ 100
  upb : (Txt.upper (bare h)).length ≤ 300 ∧ PyData.strOk (Txt.upper (bare h)) = true
  uph : (Txt.upper h).length ≤ 300 ∧ PyData.strOk (Txt.upper h) = true
  upo : (Txt.upper (own1 h)).length ≤ 300 ∧ PyData.strOk (Txt.upper (own1 h)) = true
  tame : ∀ k, k < 8 → Tame ((edP h).getD k e2s).1 ∧ Tame ((edP h).getD k e2s).2
  udm : ∀ k, k < 8 → udm ((edP h).getD k e2s).1 ((edP h).getD k e2s).2 = decide (k < 4)
  rok : PyData.strOk (Txt.replace (bare h) (Str.ofString ".") (Str.ofString "-")) = true
  rl : (Txt.replace (bare h) (Str.ofString ".") (Str.ofString "-")).length ≤ 300
  parts : (Builtin.Str.partsBetween (bare h) (Builtin.Str.occurrences (bare h) (Str.ofString ".") 0 (bare h).length ((bare h).length + 1)) (Str.ofString ".").length).length ≤ sizeLine
  split : ∃ l, Txt.split (bare h) (Str.ofString ".") = z :: l
  zok : PyData.strOk z = true
  zl : z.length ≤ 100
  reach : ∀ x ∈ h :: (h ++ Str.ofString "7") :: alone h z, x.length ≤ 900 ∧ PyData.strOk x = true ∧ (Txt.slice x (some (Txt.find x (Str.ofString ".") + 1)) none).length ≤ 900
  alone : (alone h z).map reachS = alone h z
  two : [reachS h, reachS (h ++ Str.ofString "7")] = [own1 h, own1 h ++ Str.ofString "7"]
section
variable {C : Cx} {P : Params}
theorem f_edges (hK : C.K = hd.heap_39 P) (n : Nat) {h z : Str} (E : Edge h z) : Fn C (n + 3) 132 [.str h] (.bool true) := by
  refine Fn.of_body (lk hK rfl) rfl rfl rfl (by rw [hK]; kernel_rfl) rfl rfl rfl (fun vs h => ?_) (NmOk.of (by kernel_rfl)) (by exact Nat.le_of_ble_eq_true rfl) ?_
  · obtain ⟨v0, rfl⟩ := len1 h; rfl
  obtain ⟨sl, hsl⟩ := E.split
  have E1 := E.len
  have E2 := E.bl
  have E3 := E.ol
  have E4 := E.upb.1
  have E5 := E.uph.1
  have E6 := E.upo.1
  have E7 := E.rl
  have E8 := E.zl
  have sz : sizeLine = 16777216 := by decide +kernel
  have k1 : (Str.ofString ".7").length = 2 := by decide +kernel
  have k2 : (Str.ofString "7").length = 1 := by decide +kernel
  have k3 : (Str.ofString ".").length = 1 := by decide +kernel
  have k4 : (Str.ofString "w.").length = 2 := by decide +kernel
  have k5 : (Str.ofString ".LOCAL").length = 6 := by decide +kernel
  have k6 : (Str.ofString "-").length = 1 := by decide +kernel
  have hmul : (bare h).length + ((bare h).length + 1) * (Str.ofString "-").length ≤ 16777216 := by rw [k6]; omega
  have cat : ∀ {ρ : Rho} {nm : Names} {v : Str} {k' : Nat} {p' p₂ : Pos} {e : Expr} {x : Str}, Ev C (n + 2) nm ρ e 0 (.str x) → PyData.strOk v = true → x.length + v.length ≤ 1900 → Ev C (n + 2) nm ρ (.BinOp e .Add (.Constant (.str v) k' p') p₂) 0 (.str (x ++ v)) :=
    fun h hv hz => Ev.bin h (Ev.str hv) (Bin.add_str (by omega))
  have own : ∀ {ρ : Rho} {p p₁ p₂ p₃ : Pos} {q : Nat}, ρ[0]? = some (some (0, .str h)) → Ev C (n + 2) [(Str.ofString "host", .local), (Str.ofString "bare", .local), (Str.ofString "pairs", .cell), (Str.ofString "alone", .local), (Str.ofString "range", .globalImplicit), (Str.ofString "reach", .globalImplicit)] ρ (.Subscript (.Name (Str.ofString "host") p) (.Slice (some (.Constant (.int 1) q p₁)) none none p₂) p₃) 0 (.str (own1 h)) :=
    fun h0 => Ev.slice_str (Ev.name 0 rfl h0) (.some Ev.int) .none (by omega)
  refine Ex.seq (Ex1.assign 1 rfl (Ev.slice_str (Ev.name 0 rfl rfl) (.some Ev.int) .none (by omega))) ?_
  refine Ex.seq (Ex1.assign 2 rfl (Ev.list (.cons (Ev.tup (.two (Ev.upper (Ev.name 1 rfl rfl) (fits_of (by show (Txt.upper (bare h)).length ≤ 900; omega)) E.upb.2) (Ev.name 1 rfl rfl)) (by simp)) ns_Tuple
    (.cons (Ev.tup (.two (cat (Ev.name 0 rfl rfl) (by decide +kernel) (by omega)) (cat (Ev.upper (Ev.name 0 rfl rfl) (fits_of (by omega)) E.uph.2) (by decide +kernel) (by omega))) (by simp)) ns_Tuple
    (.cons (Ev.tup (.two (cat (Ev.name 0 rfl rfl) (by decide +kernel) (by omega)) (cat (own rfl) (by decide +kernel) (by omega))) (by simp)) ns_Tuple
    (.cons (Ev.tup (.two (own rfl) (Ev.upper (own rfl) (fits_of (by omega)) E.upo.2)) (by simp)) ns_Tuple .nil)))) (by simp))) ?_
  refine Ex.seq (Ex1.assign 2 rfl (Ev.cast (d' := .list (pairD (edP h))) rfl (Ev.bin (Ev.name 2 rfl rfl) (Ev.list (.cons (Ev.tup (.two (Ev.name 1 rfl rfl) (own rfl)) (by simp)) ns_Tuple
    (.cons (Ev.tup (.two (Ev.name 0 rfl rfl) (Ev.name 1 rfl rfl)) (by simp)) ns_Tuple
    (.cons (Ev.tup (.two (cat (Ev.name 0 rfl rfl) (by decide +kernel) (by omega)) (cat (own rfl) (by decide +kernel) (by omega))) (by simp)) ns_Tuple
    (.cons (Ev.tup (.two (cat (Ev.name 0 rfl rfl) (by decide +kernel) (by omega)) (own rfl)) (by simp)) ns_Tuple .nil)))) (by simp)) (Bin.add_list (by simp only [List.length_cons, List.length_nil]; omega))))) ?_
  have hnil : (i8.filter (tEd h)).map (fun d => d) = [] := by
    rw [List.map_id', List.filter_eq_nil_iff]
    intro d hd
    obtain ⟨k, hk, rfl⟩ := i8_mem hd
    have := E.udm k hk
    show ¬ ((!isD (.bool (udm ((edP h).getD (k : Int).toNat e2s).1 ((edP h).getD (k : Int).toNat e2s).2)) (.bool (decide ((k : Int) < 4)))) = true)
    have e : decide ((k : Int) < 4) = decide (k < 4) := by rw [Bool.eq_iff_iff]; simp; omega
    rw [Int.toNat_natCast, this, e]
    cases decide (k < 4) <;> decide
  refine Ex.seq (Ex1.skip (Tst.cmp (Ev.cast (congrArg D.list hnil) (Ev.comp (Comp1.filter1 [none, none, none, some 2] 1 (fun d => d) (tEd h) (.cast r8 (Src1.range1 4 rfl (g_range hK) Ev.int (by omega) (by omega))) rfl (by kernel_rfl) (by kernel_rfl) rfl (fun e h => nomatch h) (fun d hd => ?_) (fun d hd ht => Ev.name 1 rfl rfl) (by simp)))) (Ev.list .nil (by simp)) (Cmp.ne rfl rfl)) Ex.nil) ?_
  · obtain ⟨k, hk, rfl⟩ := i8_mem hd
    have gp := getP (l := edP h) (i := k) hk
    have tm := E.tame k hk
    exact Tst.cmp (Ev.call 2 rfl (g_udm hK) (lk hK rfl) rfl (.two (Ev.sub (Ev.sub (Ev.name 3 rfl rfl) (Ev.name 1 rfl rfl) (Itm.list (by first | exact Int.natCast_nonneg _ | omega) (by first | exact lt8 (by assumption) | omega) (pairD_get (l := edP h) (by rw [Int.toNat_natCast]; exact gp)))) Ev.int (Itm.tup (by decide) (by decide) rfl)) (Ev.sub (Ev.sub (Ev.name 3 rfl rfl) (Ev.name 1 rfl rfl) (Itm.list (by first | exact Int.natCast_nonneg _ | omega) (by first | exact lt8 (by assumption) | omega) (pairD_get (l := edP h) (by rw [Int.toNat_natCast]; exact gp)))) Ev.int (Itm.tup (by decide) (by decide) rfl))) (f_udm hK n tm.1 tm.2)) (Ev.cmp (Ev.name 1 rfl rfl) Ev.int Cmp.lt) (Cmp.isnot rfl)
  · refine Ex.seq (Ex1.assign 3 rfl (Ev.cast (d' := .list (sts (alone h z))) rfl (Ev.list (.cons (Ev.bin (Ev.str (by decide +kernel)) (Ev.replace (Ev.name 1 rfl rfl) (by decide +kernel) hmul E.rok) (Bin.add_str (by show (Str.ofString "w.").length + (Txt.replace (bare h) (Str.ofString ".") (Str.ofString "-")).length ≤ sizeLine; omega))) ns_BinOp
      (.cons (cat (Ev.splitHead (Ev.name 1 rfl rfl) (by decide +kernel) (by show (bare h).length ≤ 1000000; omega) E.parts hsl E.zok) (by decide +kernel) (by omega)) ns_BinOp
      (.cons (cat (Ev.name 0 rfl rfl) (by decide +kernel) (by omega)) ns_BinOp
      (.cons (cat (Ev.name 0 rfl rfl) (by decide +kernel) (by omega)) ns_BinOp .nil)))) (by exact Nat.le_of_ble_eq_true rfl)))) ?_
    have er : ∀ {x : Str} {nm : Names} {ρ : Rho} {i : Nat} {e : Expr} {px pos : Pos}, nm[i]? = some (Str.ofString "reach", NameKind.globalImplicit) → Ev C (n + 2) nm ρ e 0 (.str x) → (x.length ≤ 900 ∧ PyData.strOk x = true ∧ (Txt.slice x (some (Txt.find x (Str.ofString ".") + 1)) none).length ≤ 900) → (∀ env : Env, starEach [e] env = [(false, eval e env)]) → Ev C (n + 2) nm ρ (.Call (.Name (Str.ofString "reach") px) [e] [] pos) 0 (.str (reachS x)) :=
      fun hi hx hh hs => Ev.call _ hi (g_reach hK) (lk hK rfl) rfl (.one hx hs) (f_reach hK n hh.1 hh.2.1 hh.2.2)
    have c1 : (sts (alone h z)).map (fun d => match d with | .str x => D.str (reachS x) | d => d) = sts (alone h z) := (map_str (alone h z) reachS).trans (congrArg sts E.alone)
    have c2 : [D.str (reachS h), D.str (reachS (h ++ Str.ofString "7"))] = sts [own1 h, own1 h ++ Str.ofString "7"] := by
      have := congrArg sts E.two; exact this
    have q1 := eqD_sts (alone h z)
    have q2 := eqD_sts [own1 h, own1 h ++ Str.ofString "7"]
    have fl : ∀ l : List Str, D.flat 60 (.list (sts l)) = true := fun l => flats_sts l 59
    have fin : (if eqD (.list (sts (alone h z))) (.list (sts (alone h z))) then D.bool (eqD (.list (sts [own1 h, own1 h ++ Str.ofString "7"])) (.list (sts [own1 h, own1 h ++ Str.ofString "7"]))) else D.bool (eqD (.list (sts (alone h z))) (.list (sts (alone h z))))) = .bool true := by
      rw [q1, q2]; rfl
    refine Ex.stop (Ex1.ret (Ev.cast fin (Ev.and2 (Ev.cmp (Ev.cast (congrArg D.list c1) (Ev.comp (Comp1.map1 [none, none, none] 1 _ (Src1.list (Ev.name 3 rfl rfl)) rfl (by kernel_rfl) (by kernel_rfl) rfl (fun e h => nomatch h) (fun d hd => ?_) (by rw [sts_len]; simp [alone])))) (Ev.name 3 rfl rfl) (Cmp.eq (fl _) (fl _))) Tru.bool fun _ => Ev.cmp (Ev.cast (congrArg D.list c2) (Ev.list (.two (er (i := 5) rfl (Ev.name 0 rfl rfl) (E.reach h (by simp)) n1_Name) (er (i := 5) rfl (cat (Ev.name 0 rfl rfl) (by decide +kernel) (by omega)) (E.reach _ (by simp)) n1_BinOp)) (by exact Nat.le_of_ble_eq_true rfl))) (Ev.cast (d' := .list (sts [own1 h, own1 h ++ Str.ofString "7"])) rfl (Ev.list (.two (own rfl) (cat (own rfl) (by decide +kernel) (by omega))) (by exact Nat.le_of_ble_eq_true rfl))) (Cmp.eq (fl _) (fl _)))))
    obtain ⟨x, hx, rfl⟩ := sts_mem hd
    exact er (i := 2) rfl (Ev.name 1 rfl rfl) (E.reach x (List.mem_cons_of_mem _ (List.mem_cons_of_mem _ hx))) n1_Name
end
end Mine
end
section
open PySem PySem.W PyProof.Rows PySem.Calls PySem.Spec
set_option maxRecDepth 100000
set_option maxHeartbeats 0
namespace Mine
def lvl (cs : List Str) (st : Nat) : List Str := cutN cs (2 ^ (2 - st) - 1) (2 ^ (3 - st) - 1)
def secG (sec g : List Nat) : List Nat := (List.range 8).filter fun x => g.contains (sec.getD x 0)
def bitsL (N : Int) (st : Nat) : List Int := (List.range 8).map fun x => (N.fdiv (2 ^ (x + st))).fmod 2
def hms (N : Int) (c : Nat → List Nat) : Nat → List Str
  | 0 => List.replicate 8 (Str.ofString ".local")
  | st + 1 => (List.range 8).map fun x => Str.ofString "." ++ Txt.mul (Str.ofString "B") (((c st).getD x 0 : Nat) : Int) ++ wordAt N st ++ (hms N c st).getD x e0
/-- what the dealing is to give -/
structure Dealt (N : Int) (cs : List Str) (kh : List (Str × D)) (sec : List Nat) (grp : Str → List Nat) (f s c : Nat → List Nat) : Prop where
  sec8 : sec.length = 8
  cs9 : cs.length ≤ 900
  hid : ∀ st, st < 3 → ∀ x ∈ lvl cs st, dget kh x = some (.list (nts (grp x))) ∧ (grp x).length ≤ 8 ∧ ∀ y ∈ grp x, y < 8
  lv : ∀ st, st < 3 → (lvl cs st).length ≤ 8
  f8 : ∀ st, st < 3 → (f st).length = 8 ∧ ∀ x ∈ f st, x < 8
  s8 : ∀ st, st < 3 → (s st).length = 8 ∧ ∀ x ∈ s st, x < 8
  c8 : ∀ st, st < 3 → (c st).length = 8 ∧ ∀ x ∈ c st, x < 2
  m1 : ∀ st, st < 3 → matesL (hms N c st) ((lvl cs st).map grp) = nts (f st)
  m2 : ∀ st, st < 3 → matesL (hms N c st) ((lvl cs st).map fun x => secG sec (grp x)) = nts (s st)
  col : ∀ st, st < 3 → colS (f st) (s st) (bitsL N st) 8 = nts (c st)
theorem hms_len (N : Int) (c : Nat → List Nat) : ∀ st, (hms N c st).length = 8
  | 0 => by unfold hms; simp
  | st + 1 => by unfold hms; simp
theorem anyEq_nts (l : List Nat) (y : Nat) : anyEq (nts l) (.int (y : Int)) = l.contains y := by
  unfold anyEq nts
  rw [List.any_map]
  induction l with
  | nil => rfl
  | cons x l ih =>
    rw [List.any_cons, List.contains_cons, ih]
    congr 1
    show eqD (.int (x : Int)) (.int (y : Int)) = (y == x)
    rw [eqD_int, Bool.eq_iff_iff]
    simp; omega
theorem anyEq_none (l : List Nat) : anyEq (nts l) .none = false := by
  unfold anyEq nts
  rw [List.any_map]
  induction l with
  | nil => rfl
  | cons x l ih => rw [List.any_cons, ih]; rfl
def tS2 (sec g : List Nat) : D → Bool
  | .int x => anyEq (nts g) (.int ((sec.getD x.toNat 0 : Nat) : Int))
  | _ => false
theorem secG_D (sec g : List Nat) : (i8.filter (tS2 sec g)).map (fun d => d) = nts (secG sec g) := by
  have e : i8 = nts (List.range 8) := rfl
  rw [e, List.map_id']
  unfold nts secG
  rw [List.filter_map]
  congr 1
  apply List.filter_congr
  intro x _
  show anyEq (nts g) (.int ((sec.getD (x : Int).toNat 0 : Nat) : Int)) = _
  rw [Int.toNat_natCast, anyEq_nts]
theorem secG_lt (sec g : List Nat) : (secG sec g).length ≤ 8 ∧ ∀ x ∈ secG sec g, x < 8 := by
  unfold secG
  refine ⟨Nat.le_trans (List.length_filter_le _ _) (by simp), fun x hx => ?_⟩
  have := (List.mem_filter.mp hx).1
  simpa using this
theorem mulB_len : ∀ k : Nat, k < 2 → (Txt.mul (Str.ofString "B") (k : Int)).length ≤ 1
  | 0, _ | 1, _ => by decide +kernel
theorem hms_size (N : Int) (c : Nat → List Nat) (hc : ∀ st, st < 3 → (c st).length = 8 ∧ ∀ x ∈ c st, x < 2) : ∀ st, st ≤ 3 → ∀ x ∈ hms N c st, x.length ≤ 6 + 7 * st
  | 0, _, x, hx => by
    unfold hms at hx
    have := List.eq_of_mem_replicate hx
    subst this
    decide +kernel
  | st + 1, hs, x, hx => by
    unfold hms at hx
    obtain ⟨k, hk, rfl⟩ := List.mem_map.mp hx
    have hk8 : k < 8 := by simpa using hk
    have ih := hms_size N c hc st (by omega) _ (getD_in (l := hms N c st) (i := k) (by rw [hms_len]; omega))
    have h1 : (Str.ofString ".").length = 1 := by decide +kernel
    have h2 := mulB_len _ ((hc st (by omega)).2 _ (getN_in (l := c st) (i := k) (by rw [(hc st (by omega)).1]; omega)))
    have h3 := word_len N st
    simp only [Str.length_append]; omega
end Mine
end
section
open PySem PySem.W PyProof.Rows PySem.Calls PySem.Spec
set_option maxRecDepth 100000
set_option maxHeartbeats 0
namespace Mine
theorem pow2_ok : ∀ k : Nat, k < 10 → (0 : Int) < 2 ^ k ∧ (2 : Int) ^ k < 1073741824
  | 0, _ | 1, _ | 2, _ | 3, _ | 4, _ | 5, _ | 6, _ | 7, _ | 8, _ | 9, _ => by decide
def gBit (N : Int) (i : Nat) : D → D
  | .int x => .int ((N.fdiv (2 ^ (x + (i : Int)).toNat)).fmod 2)
  | d => d
theorem gBit_map (N : Int) : ∀ i : Nat, i < 3 → i8.map (gBit N i) = ins (bitsL N i)
  | 0, _ | 1, _ | 2, _ => rfl
def gHom (l : List Str) : D → D
  | .int k => .str (l.getD k.toNat e0)
  | d => d
theorem gHom_map : ∀ (l : List Str), l.length = 8 → i8.map (gHom l) = sts l
  | [a, b, c, d, e, f, g, h], _ => rfl
theorem hms_at (N : Int) (c : Nat → List Nat) (st k : Nat) (hk : k < 8) : (hms N c (st + 1)).getD k e0 = Str.ofString "." ++ Txt.mul (Str.ofString "B") (((c st).getD k 0 : Nat) : Int) ++ wordAt N st ++ (hms N c st).getD k e0 := by
  conv => lhs; unfold hms
  rw [List.getD_eq_getElem?_getD, List.getElem?_map, List.getElem?_range hk]; rfl
theorem numW (N : Int) : ∀ (i : Nat) (d : D × D), (numD (sts [wordAt N 0, wordAt N 1, wordAt N 2]))[i]? = some d → i < 3 ∧ d = (.int i, .str (wordAt N i))
  | 0, d, h | 1, d, h | 2, d, h => by cases h; exact ⟨by decide, rfl⟩
  | i + 3, d, h => by cases h
section
variable {C : Cx} {P : Params}
theorem g_mates (hK : C.K = hd.heap_39 P) : nsIn C.K mainGlobals (("_law_mates" : Str)) = some (some (.ref 100)) := by rw [hK]; kernel_rfl
theorem g_col (hK : C.K = hd.heap_39 P) : nsIn C.K mainGlobals (("_law_coloured" : Str)) = some (some (.ref 107)) := by rw [hK]; kernel_rfl
def dealI (N : Int) (cs : List Str) (kh : List (Str × D)) (sec : List Nat) (c : Nat → List Nat) (st : Nat) : Rho :=
  [some (0, .int N), some (0, .list (sts cs)), some (0, .dict kh), some (0, .list (nts sec)), some (0, .list (sts (hms N c st))), none, none, none, none, none, none, none, none, none, none, none]
def gGrp (grp : Str → List Nat) : D → D
  | .str x => .list (nts (grp x))
  | d => d
theorem gGrp_map (grp : Str → List Nat) (l : List Str) : (sts l).map (gGrp grp) = nns (l.map grp) := by
  unfold sts nns; rw [List.map_map, List.map_map]; rfl
theorem f_dealt (hK : C.K = hd.heap_39 P) (n : Nat) {N : Int} {cs : List Str} {kh : List (Str × D)} {sec : List Nat} {grp : Str → List Nat} {f s c : Nat → List Nat} (Dl : Dealt N cs kh sec grp f s c) :
    Fn C (n + 2) 112 [.int N, .list (sts cs), .dict kh, .list (nts sec)] (.list (sts ((hms N c 3).map fun x => Str.ofString "w" ++ x))) := by
  refine Fn.of_body (lk hK rfl) rfl rfl rfl (by rw [hK]; kernel_rfl) rfl rfl rfl (fun vs h => ?_) (NmOk.of (by kernel_rfl)) (by exact Nat.le_of_ble_eq_true rfl) ?_
  · obtain ⟨v0, v1, v2, v3, rfl⟩ := len4 h; rfl
  have sz : sizeLine = 16777216 := by decide +kernel
  refine Ex.seq (Ex1.assign 4 rfl (Ev.cast (d' := .list (sts (hms N c 0))) rfl (Ev.bin (Ev.list (.one (Ev.str (by decide +kernel))) (by simp)) Ev.int (Bin.mul_list1 (by decide) (by decide))))) ?_
  refine Ex.seq (Ex1.forL2 (k := 0) (ds := numD (sts [wordAt N 0, wordAt N 1, wordAt N 2])) 5 6 (dealI N cs kh sec c) (Src2.enumerate 11 rfl (g_enum hK) (Ev.call 12 rfl (g_words hK) (lk hK rfl) rfl (.one (Ev.name 0 rfl rfl)) (f_words hK n N))) rfl rfl (fun i d h => ?_)) ?_
  · obtain ⟨hi, rfl⟩ := numW N i d h
    have hb : Builtin.Int.intBits 2 = 2 := by decide +kernel
    have e1 : (2 : Int) ^ ((2 : Int) - (i : Int)).toNat - 1 = ((2 ^ (2 - i) - 1 : Nat) : Int) := by
      match i, hi with
      | 0, _ | 1, _ | 2, _ => rfl
    have e2 : (2 : Int) ^ ((3 : Int) - (i : Int)).toNat - 1 = ((2 ^ (3 - i) - 1 : Nat) : Int) := by
      match i, hi with
      | 0, _ | 1, _ | 2, _ => rfl
    have lc : (sts cs).length ≤ 1000000 := by rw [sts_len]; have := Dl.cs9; omega
    have lv := Dl.lv i hi
    have hid := Dl.hid i hi
    obtain ⟨f8, fl⟩ := Dl.f8 i hi
    obtain ⟨s8, sl⟩ := Dl.s8 i hi
    obtain ⟨c8, cl⟩ := Dl.c8 i hi
    have hl := hms_len N c i
    refine Ex.seq (Ex1.assign 7 rfl (Ev.cast (congrArg D.list (cut_both cs _ _ e1 e2)) (Ev.slice_list (Ev.name 1 rfl rfl) (.some (Ev.bin (Ev.bin Ev.int (Ev.bin Ev.int (Ev.name 5 rfl rfl) Bin.sub_int) (Bin.pow_int (by omega) (by rw [hb]; omega))) Ev.int Bin.sub_int)) (.some (Ev.bin (Ev.bin Ev.int (Ev.bin Ev.int (Ev.name 5 rfl rfl) Bin.sub_int) (Bin.pow_int (by omega) (by rw [hb]; omega))) Ev.int Bin.sub_int)) (fun a h => by cases h; omega) (fun a h => by cases h; omega) lc))) ?_
    refine Ex.seq (Ex1.assign 8 rfl (Ev.cast (congrArg D.list (Dl.m1 i hi)) (Ev.call 13 rfl (g_mates hK) (lk hK rfl) rfl (.two (Ev.cast (congrArg D.list (gGrp_map grp (lvl cs i))) (Ev.comp (Comp1.map1 [none, none, some 2] 1 (gGrp grp) (Src1.list (Ev.name 7 rfl rfl)) rfl (by kernel_rfl) (by kernel_rfl) rfl (fun e h => nomatch h) (fun d hd => ?_) (by rw [sts_len]; show (lvl cs i).length ≤ 100000; omega)))) (Ev.name 4 rfl rfl)) (f_mates hK n (fun g hg => ?_) hl (by rw [List.length_map]; omega))))) ?_
    · obtain ⟨x, hx, rfl⟩ := sts_mem hd
      exact Ev.sub (Ev.name 2 rfl rfl) (Ev.name 1 rfl rfl) (Itm.dict (Nat.zero_le _) (hid x hx).1)
    · obtain ⟨x, hx, rfl⟩ := List.mem_map.mp hg
      exact (hid x hx).2
    refine Ex.seq (Ex1.assign 9 rfl (Ev.cast (congrArg D.list (Dl.m2 i hi)) (Ev.call 13 rfl (g_mates hK) (lk hK rfl) rfl (.two (Ev.cast (congrArg D.list (gGrp_map (fun x => secG sec (grp x)) (lvl cs i))) (Ev.comp (Comp1.map1 [none, none, none, some 2, some 3] 1 (gGrp fun x => secG sec (grp x)) (Src1.list (Ev.name 7 rfl rfl)) rfl (by kernel_rfl) (by kernel_rfl) rfl (fun e h => nomatch h) (fun d hd => ?_) (by rw [sts_len]; show (lvl cs i).length ≤ 100000; omega)))) (Ev.name 4 rfl rfl)) (f_mates hK n (fun g hg => ?_) hl (by rw [List.length_map]; omega))))) ?_
    · obtain ⟨x, hx, rfl⟩ := sts_mem hd
      refine Ev.cast (congrArg D.list (secG_D sec (grp x))) (Ev.comp (Comp1.filter1 [none, none, some 1, some 3, some 4] 1 (fun d => d) (tS2 sec (grp x)) (.cast r8 (Src1.range1 2 rfl (g_range hK) Ev.int (by omega) (by omega))) rfl (by kernel_rfl) (by kernel_rfl) rfl (fun e h => nomatch h) (fun d hd => ?_) (fun d hd ht => Ev.name 1 rfl rfl) (by simp)))
      obtain ⟨k, hk, rfl⟩ := i8_mem hd
      exact Tst.cmp (Ev.sub (Ev.name 4 rfl rfl) (Ev.name 1 rfl rfl) (Itm.list (by first | exact Int.natCast_nonneg _ | omega) (by first | exact lt8 (by assumption) | omega) (nts_get (by rw [Int.toNat_natCast]; exact getN (by rw [Dl.sec8]; omega))))) (Ev.sub (Ev.name 3 rfl rfl) (Ev.name 2 rfl rfl) (Itm.dict (Nat.zero_le _) (hid x hx).1)) (Cmp.in_list rfl (flats_nts _))
    · obtain ⟨x, hx, rfl⟩ := List.mem_map.mp hg
      exact secG_lt _ _
    have tst : ∀ {x y : Bool}, x = false → y = false → (x || (y || false)) = false := fun h h' => by rw [h, h']; rfl
    refine Ex.seq (Ex1.skip (tst (anyEq_none (f i)) (anyEq_none (s i)) ▸ Tst.all (.orCons (Tst.cmp Ev.none (Ev.name 8 rfl rfl) (Cmp.in_list rfl (flats_nts _))) fun _ => .orCons (Tst.cmp Ev.none (Ev.name 9 rfl rfl) (Cmp.in_list rfl (flats_nts _))) fun _ => .orNil)) Ex.nil) ?_
    refine Ex.seq (Ex1.assign 10 rfl (Ev.cast (congrArg D.list (Dl.col i hi)) (Ev.call 14 rfl (g_col hK) (lk hK rfl) rfl (.three (Ev.name 8 rfl rfl) (Ev.name 9 rfl rfl) (Ev.cast (congrArg D.list (gBit_map N i hi)) (Ev.comp (Comp1.map1 [none, none, some 0, some 5] 1 (gBit N i) (.cast r8 (Src1.range1 15 rfl (g_range hK) Ev.int (by omega) (by omega))) rfl (by kernel_rfl) (by kernel_rfl) rfl (fun e h => nomatch h) (fun d hd => ?_) (by simp))))) (f_coloured hK n f8 s8 (by simp [bitsL]) fl sl)))) ?_
    · obtain ⟨k, hk, rfl⟩ := i8_mem hd
      have hp := pow2_ok ((k : Int) + (i : Int)).toNat (by omega)
      exact Ev.bin (Ev.bin (Ev.name 2 rfl rfl) (Ev.bin Ev.int (Ev.bin (Ev.name 1 rfl rfl) (Ev.name 3 rfl rfl) Bin.add_int) (Bin.pow_int (by omega) (by rw [hb]; omega))) (Bin.fdiv_int hp.1 hp.2)) Ev.int (Bin.mod_int (by decide))
    refine Ex.most (Ex.seq (Ex1.assign 4 rfl (Ev.cast (congrArg D.list (gHom_map (hms N c (i + 1)) (hms_len N c (i + 1)))) (Ev.comp (Comp1.map1 [none, none, some 10, some 4, some 6] 1 (gHom (hms N c (i + 1))) (.cast r8 (Src1.range1 15 rfl (g_range hK) Ev.int (by omega) (by omega))) rfl (by kernel_rfl) (by kernel_rfl) rfl (fun e h => nomatch h) (fun d hd => ?_) (by simp)))) (hs := fun env ok => swaps_false ok (lookup_at ok.nodup (i := 4) rfl))) Ex.nil) ?_
    · obtain ⟨k, hk, rfl⟩ := i8_mem hd
      have w1 := word_len N i
      have w2 := hms_size N c Dl.c8 i (by omega) _ (getD_in (l := hms N c i) (i := k) (by omega))
      have w3 := cl _ (getN_in (l := c i) (i := k) (by omega))
      have w4 := mulB_len _ w3
      have k1 : (Str.ofString ".").length = 1 := by decide +kernel
      have k2 : (Str.ofString "B").length = 1 := by decide +kernel
      have eq : D.str (Str.ofString "." ++ Txt.mul (Str.ofString "B") (((c i).getD k 0 : Nat) : Int) ++ wordAt N i ++ (hms N c i).getD k e0) = gHom (hms N c (i + 1)) (.int (k : Int)) := by
        show _ = D.str ((hms N c (i + 1)).getD (k : Int).toNat e0)
        rw [Int.toNat_natCast, hms_at N c i k hk]
      refine Ev.cast eq (Ev.bin (Ev.bin (Ev.bin (Ev.str (by decide +kernel)) (Ev.bin (Ev.str (by decide +kernel)) (Ev.sub (Ev.name 2 rfl rfl) (Ev.name 1 rfl rfl) (Itm.list (by first | exact Int.natCast_nonneg _ | omega) (by first | exact lt8 (by assumption) | omega) (nts_get (by rw [Int.toNat_natCast]; exact getN (by omega))))) (Bin.mul_str (by omega) (by omega) (by omega))) (Bin.add_str (by omega))) (Ev.name 4 rfl rfl) (Bin.add_str (by rw [Str.length_append]; omega))) (Ev.sub (Ev.name 3 rfl rfl) (Ev.name 1 rfl rfl) (Itm.list (by first | exact Int.natCast_nonneg _ | omega) (by first | exact lt8 (by assumption) | omega) (sts_get (by rw [Int.toNat_natCast]; exact getD_get (by omega))))) (Bin.add_str (by rw [Str.length_append, Str.length_append]; omega)))
    · exact .same (.same (.same (.same (.same (.gone (.gone (.gone (.gone (.gone (.gone (.gone (.gone (.gone (.gone (.gone (.nil))))))))))))))))
  · have k3 : (Str.ofString "w").length = 1 := by decide +kernel
    refine Ex.stop (Ex1.ret (Ev.cast (congrArg D.list (map_str (hms N c 3) fun x => Str.ofString "w" ++ x)) (Ev.comp (Comp1.map1 [none, none] 1 _ (Src1.list (Ev.name 4 rfl rfl)) rfl (by kernel_rfl) (by kernel_rfl) rfl (fun e h => nomatch h) (fun d hd => ?_) (by rw [sts_len, hms_len]; omega)))))
    obtain ⟨x, hx, rfl⟩ := sts_mem hd
    have := hms_size N c Dl.c8 3 (by omega) x hx
    exact Ev.bin (Ev.str (by decide +kernel)) (Ev.name 1 rfl rfl) (Bin.add_str (by omega))
end
end Mine
end
section
open PySem PySem.W PyProof.Rows PySem.Calls PySem.Spec
set_option maxRecDepth 100000
set_option maxHeartbeats 0
namespace Mine
/-- the k-th hidden name -/
def hname (k : Nat) (c : Str) : Str := Str.ofString "_" ++ c ++ Str.ofString "__x" ++ Txt.mul (Str.ofString "_") ((k : Int).fmod 2)
def hnames (cs : List Str) : List Str := (cs.drop 7).mapIdx hname
structure CornOk (c : Str) : Prop where
  len : c.length ≤ 100
  ok : PyData.strOk c = true
  low : (Txt.lower c).length ≤ 900
  lowok : PyData.strOk (Txt.lower c) = true
  rep : (Txt.replace c (Str.ofString ".") (Str.ofString "+")).length ≤ 900
  repok : PyData.strOk (Txt.replace c (Str.ofString ".") (Str.ofString "+")) = true
  H : ∀ k, k < 8 → isPriv ((corP c).getD k e2s).1 ((corP c).getD k e2s).2 = (corD c).getD k false
/-- what the plain law is to show of a script -/
structure LawOk (ns : List Int) (N : Int) (p : Nat) (sec : List Nat) (grp : Str → List Nat) (f s c : Nat → List Nat) (z : Str) : Prop where
  hN : N = 65664 + isum (ins ns)
  hp : N.fmod 8 = (p : Int)
  p8 : p < 8
  hsec : ins (exch (ns.take 12)) = nts sec
  dealt : Dealt N (clsS (sgn N) 7) (hidD (clsS (sgn N) 7) (hnames (clsS (sgn N) 7))) sec grp f s c
  spread : Spread (clsS (sgn N) 7) (domS (wordAt N) 7) (hidD (clsS (sgn N) 7) (hnames (clsS (sgn N) 7))) (heldD (domS (wordAt N) 7) ((hms N c 3).map fun x => Str.ofString "w" ++ x)) (exch (ns.take 12))
  host : ∀ h ∈ (hms N c 3).map fun x => Str.ofString "w" ++ x, Host h
  tame : ∀ d ∈ domS (wordAt N) 7, Tame d
  priv : ∀ x ∈ clsS (sgn N) 7, isPriv x ((hnames (clsS (sgn N) 7)).getD p e0 ++ Str.ofString "__") = false
  rgood : ∀ d ∈ domS (wordAt N) 7, (own1 d).length ≤ 900 ∧ PyData.strOk (own1 d) = true ∧ (Txt.slice (own1 d) (some (Txt.find (own1 d) (Str.ofString ".") + 1)) none).length ≤ 900
  reach : (domS (wordAt N) 7).map (fun d => reachS (own1 d)) = Str.ofString "local" :: (List.range 14).map fun k => (domS (wordAt N) 7).getD (k / 2) e0
  corn : CornOk ((clsS (sgn N) 7).getD (7 + p) e0)
  edge : Edge (((hms N c 3).map fun x => Str.ofString "w" ++ x).getD p e0) z
end Mine
end
section
open PySem PySem.W PyProof.Rows PySem.Calls PySem.Spec
set_option maxRecDepth 100000
set_option maxHeartbeats 0
namespace Mine
section
variable {C : Cx} {P : Params}
theorem g_sum (hK : C.K = hd.heap_39 P) : nsIn C.K mainGlobals (("sum" : Str)) = some Option.none := by rw [hK]; kernel_rfl
theorem g_grown (hK : C.K = hd.heap_39 P) : nsIn C.K mainGlobals (("_law_grown" : Str)) = some (some (.ref 83)) := by rw [hK]; kernel_rfl
theorem g_exch (hK : C.K = hd.heap_39 P) : nsIn C.K mainGlobals (("_law_exchanged" : Str)) = some (some (.ref 90)) := by rw [hK]; kernel_rfl
theorem g_hidden (hK : C.K = hd.heap_39 P) : nsIn C.K mainGlobals (("_law_hidden" : Str)) = some (some (.ref 95)) := by rw [hK]; kernel_rfl
theorem g_dealt (hK : C.K = hd.heap_39 P) : nsIn C.K mainGlobals (("_law_dealt" : Str)) = some (some (.ref 112)) := by rw [hK]; kernel_rfl
theorem g_held (hK : C.K = hd.heap_39 P) : nsIn C.K mainGlobals (("_law_held" : Str)) = some (some (.ref 117)) := by rw [hK]; kernel_rfl
theorem g_spread (hK : C.K = hd.heap_39 P) : nsIn C.K mainGlobals (("_law_spread" : Str)) = some (some (.ref 122)) := by rw [hK]; kernel_rfl
theorem g_corners (hK : C.K = hd.heap_39 P) : nsIn C.K mainGlobals (("_law_corners" : Str)) = some (some (.ref 127)) := by rw [hK]; kernel_rfl
theorem g_edges (hK : C.K = hd.heap_39 P) : nsIn C.K mainGlobals (("_law_edges" : Str)) = some (some (.ref 132)) := by rw [hK]; kernel_rfl
theorem allInt_ins (l : List Int) : allInt (ins l) = true := by
  unfold ins
  induction l with
  | nil => rfl
  | cons x l ih => exact ih
theorem cut_ins (l : List Int) (k : Nat) : cut (ins l) Option.none (some (k : Int)) = ins (l.take k) := by
  unfold cut ins; simp [List.map_take]
theorem ins_len (l : List Int) : (ins l).length = l.length := by unfold ins; simp
def tPr (m : Str) : D → Bool
  | .str c => isPriv c m
  | _ => false
theorem tPr_none {cs : List Str} {m : Str} (h : ∀ c ∈ cs, isPriv c m = false) : ((sts cs).filter (tPr m)).map (fun d => d) = [] := by
  rw [List.map_id', List.filter_eq_nil_iff]
  intro d hd
  obtain ⟨c, hc, rfl⟩ := sts_mem hd
  show ¬ (isPriv c m = true)
  rw [h c hc]; decide
def gDom (ds : List Str) : D → D
  | .int k => .str (ds.getD (k.fdiv 2).toNat e0)
  | d => d
theorem r14 : rangeD 0 1 (14 : Int).toNat = nts (List.range 14) := rfl
theorem gDom_map (ds : List Str) : (nts (List.range 14)).map (gDom ds) = sts ((List.range 14).map fun k => ds.getD (k / 2) e0) := rfl
theorem fd2 (k : Nat) : (k : Int).fdiv 2 = ((k / 2 : Nat) : Int) := by
  rw [Int.fdiv_eq_ediv_of_nonneg _ (by decide)]; rfl
theorem Tst.cast {n : Nat} {nm : Names} {ρ : Rho} {e : Expr} {b b' : Bool} (h : b = b') (t : Tst C n nm ρ e b) : Tst C n nm ρ e b' := h ▸ t
theorem eqD_nil_cons (d : D) (l : List D) : eqD (.list (d :: l)) (.list []) = false := by
  show PyData.eqv (.list (d.py :: pys l)) (.list []) = false
  simp only [PyData.eqv, PyData.eqvAll]
theorem ne_nil8 (hosts : List Str) (h : hosts.length = 8) : eqD (.list (sts hosts)) (.list []) = false := by
  cases hosts with
  | nil => cases h
  | cons a l => exact eqD_nil_cons _ _
def gNm : D × D → D
  | (.int k, .str c) => .str (hname k.toNat c)
  | _ => .none
theorem gNm_map (cs : List Str) : (numD (sts (cs.drop 7))).map gNm = sts (hnames cs) := by
  unfold numD sts hnames
  apply List.ext_getElem?
  intro i
  simp only [List.getElem?_map, List.getElem?_mapIdx]
  cases (List.drop 7 cs)[i]? with
  | none => rfl
  | some x => rfl
theorem numD_mem {l : List Str} {d : D × D} (h : d ∈ numD (sts l)) : ∃ (k : Nat) (x : Str), l[k]? = some x ∧ d = (.int (k : Int), .str x) := by
  obtain ⟨k, hk⟩ := List.getElem?_of_mem h
  unfold numD at hk
  rw [List.getElem?_mapIdx] at hk
  cases e : (sts l)[k]? with
  | none => rw [e] at hk; cases hk
  | some y =>
    rw [e] at hk
    obtain ⟨x, hx, rfl⟩ := sts_at e
    cases hk
    exact ⟨k, x, hx, rfl⟩
theorem mul_us (k : Int) : (Txt.mul (Str.ofString "_") (k.fmod 2)).length ≤ 1 := by
  have h1 := Int.fmod_nonneg_of_pos k (b := 2) (by decide)
  have h2 := Int.fmod_lt_of_pos k (b := 2) (by decide)
  have : k.fmod 2 = 0 ∨ k.fmod 2 = 1 := by omega
  rcases this with h | h <;> rw [h] <;> decide +kernel
theorem law02 (hK : C.K = hd.heap_39 P) (ns : List Int) (h63 : ns.length ≤ 63) {N : Int} {p : Nat} {sec : List Nat} {grp : Str → List Nat} {f s c : Nat → List Nat} {z : Str} (L : LawOk ns N p sec grp f s c z) {A : Around} {s' : Shared} {v : Value} (ok : Ok 20 A) (gold : ∀ b o, C.h₀.get? b = some o → s'.heap.get? b = some o) (hr : Mine.Rep C [] s'.heap v (.list (ins ns))) :
    Wp C A (call (.ref 137) [v]) (fun r s'' => Kp s' s'' ∧ Mine.Rep C [] s''.heap r (.bool true)) s' := by
  refine law_call (n := 19) (lk hK rfl) rfl rfl rfl (by rw [hK]; kernel_rfl) rfl rfl rfl (fun v => rfl) rfl (NmOk.of (by kernel_rfl)) (by exact Nat.le_of_ble_eq_true rfl) ?_ ok gold (fun a m => by cases m) hr
  have eN : (65664 : Int) + isum (ins ns) = N := L.hN.symm
  have ep := L.hp
  refine Ex.seq (Ex1.assign 1 rfl (Ev.cast (congrArg D.int eN) (Ev.bin Ev.int (Ev.sum 9 rfl (g_sum hK) (Ev.name 0 rfl rfl) (allInt_ins ns)) Bin.add_int))) ?_
  refine Ex.seq (Ex1.assign 2 rfl (Ev.cast (congrArg D.int ep) (Ev.bin (Ev.name 1 rfl rfl) Ev.int (Bin.mod_int (by decide))))) ?_
  refine Ex.seq (Ex1.assignTup 3 4 rfl rfl (Ev.call 10 rfl (g_grown hK) (lk hK rfl) rfl (.one (Ev.name 1 rfl rfl)) (f_grown hK 17 N))) ?_
  have hcl : (clsS (sgn N) 7).length = 15 := clsS_len _ _
  have hdl : (domS (wordAt N) 7).length = 15 := domS_len _ _
  have csz : ∀ x ∈ clsS (sgn N) 7, x.length ≤ 36 := fun x hx => clsS_size (fun k _ => Nat.le_of_eq (sgn_len N k)) 7 x hx
  have dsz : ∀ x ∈ domS (wordAt N) 7, x.length ≤ 55 := fun x hx => domS_size (fun k _ => word_len N k) 7 x hx
  have D1 := L.dealt
  have S1 := L.spread
  have H1 := L.host
  have T1 := L.tame
  have P1 := L.priv
  have R0 := L.rgood
  have R1 := L.reach
  have C1 := L.corn
  have Ed := L.edge
  have p8 := L.p8
  have hsec := L.hsec
  clear L
  have sz : sizeLine = 16777216 := by decide +kernel
  have k1 : (Str.ofString "_").length = 1 := by decide +kernel
  have k2 : (Str.ofString "__x").length = 3 := by decide +kernel
  have k3 : (Str.ofString "__").length = 2 := by decide +kernel
  have nml : ∀ m ∈ hnames (clsS (sgn N) 7), m.length ≤ 41 := fun m hm => by
    obtain ⟨k, hk⟩ := List.getElem?_of_mem hm
    unfold hnames at hk
    rw [List.getElem?_mapIdx] at hk
    cases e : ((clsS (sgn N) 7).drop 7)[k]? with
    | none => rw [e] at hk; cases hk
    | some x =>
      rw [e] at hk
      cases hk
      have := csz x (List.mem_of_mem_drop (List.mem_of_getElem? e))
      have := mul_us (k : Int)
      unfold hname
      simp only [Str.length_append]; omega
  have nm8 : (hnames (clsS (sgn N) 7)).length = 8 := by unfold hnames; simp [hcl]
  refine Ex.seq (Ex1.assign 5 rfl (Ev.cast (congrArg D.list (gNm_map (clsS (sgn N) 7))) (Ev.comp (Comp1.map2 (k := 0) [none, none, none] 1 2 gNm (Src2.cast (congrArg numD (cut_drop (clsS (sgn N) 7) 7)) (Src2.enumerate 11 rfl (g_enum hK) (Ev.slice_list (Ev.name 3 rfl rfl) (.some Ev.int) .none (fun _ h => by cases h; decide) (fun _ h => nomatch h) (by rw [sts_len]; omega)))) rfl rfl (by kernel_rfl) (by kernel_rfl) rfl (fun e h => nomatch h) (fun e h => nomatch h) (fun d hd => ?_) (by simp [numD, sts_len, hcl])))) (hs := fun env ok => swaps_false ok (lookup_at ok.nodup (i := 5) rfl))) ?_
  · obtain ⟨k, x, hx, rfl⟩ := numD_mem hd
    have xl := csz x (List.mem_of_mem_drop (List.mem_of_getElem? hx))
    have ml := mul_us (k : Int)
    have m1 := Int.fmod_nonneg_of_pos (k : Int) (b := 2) (by decide)
    have m2 := Int.fmod_lt_of_pos (k : Int) (b := 2) (by decide)
    exact Ev.bin (Ev.bin (Ev.bin (Ev.str (by decide +kernel)) (Ev.name 2 rfl rfl) (Bin.add_str (by omega))) (Ev.str (by decide +kernel)) (Bin.add_str (by rw [Str.length_append]; omega))) (Ev.bin (Ev.str (by decide +kernel)) (Ev.bin (Ev.name 1 rfl rfl) Ev.int (Bin.mod_int (by decide))) (Bin.mul_str m1 (by omega) (by omega))) (Bin.add_str (by rw [Str.length_append, Str.length_append]; omega))
  refine Ex.seq (Ex1.assign 6 rfl (Ev.call 12 rfl (g_hidden hK) (lk hK rfl) rfl (.two (Ev.name 3 rfl rfl) (Ev.name 5 rfl rfl)) (f_hidden hK 17 (fun c hc => by have := csz c hc; omega) (fun m hm => by have := nml m hm; omega) nm8 (by omega)))) ?_
  refine Ex.seq (Ex1.assign 7 rfl (Ev.cast (congrArg D.list hsec) (Ev.call 13 rfl (g_exch hK) (lk hK rfl) rfl (.one (Ev.cast (congrArg D.list (cut_ins ns 12)) (Ev.slice_list (Ev.name 0 rfl rfl) .none (.some Ev.int) (fun _ h => nomatch h) (fun _ h => by cases h; decide) (by rw [ins_len]; omega)))) (f_exch hK 18 (ns.take 12))))) ?_
  refine Ex.seq (Ex1.assign 8 rfl (Ev.call 14 rfl (g_dealt hK) (lk hK rfl) rfl (.cons (Ev.name 1 rfl rfl) ns_Name (.cons (Ev.name 3 rfl rfl) ns_Name (.cons (Ev.name 6 rfl rfl) ns_Name (.cons (Ev.name 7 rfl rfl) ns_Name .nil)))) (f_dealt hK 17 D1))) ?_
  generalize hh : (hms N c 3).map (fun x => Str.ofString "w" ++ x) = hosts at *
  have h8 : hosts.length = 8 := by rw [← hh, List.length_map, hms_len]
  have t1 := ne_nil8 hosts h8
  have tst : ∀ {x y : Bool}, x = false → y = false → (x || (y || false)) = false := fun h h' => by rw [h, h']; rfl
  have flh : ∀ l : List Str, D.flat 60 (.list (sts l)) = true := fun l => flats_sts l 59
  refine Ex.seq (Ex1.skip (tst t1 (y := !true) rfl ▸ Tst.all (.orCons (Tst.cmp (Ev.name 8 rfl rfl) (Ev.list .nil (by simp)) (Cmp.eq (flh _) rfl)) fun _ => .orCons (Tst.not (Tst.value (Ev.call 15 rfl (g_spread hK) (lk hK rfl) rfl (.cons (Ev.name 3 rfl rfl) ns_Name (.cons (Ev.name 4 rfl rfl) ns_Name (.cons (Ev.name 6 rfl rfl) ns_Name (.cons (Ev.call 16 rfl (g_held hK) (lk hK rfl) rfl (.two (Ev.name 4 rfl rfl) (Ev.name 8 rfl rfl)) (f_held hK 16 T1 H1 h8 (by omega))) ns_Call (.cons (Ev.cast (congrArg D.list hsec.symm) (Ev.name 7 rfl rfl)) ns_Name .nil))))) (f_spread hK 18 S1 (by unfold exch; rw [foldl_swp_len]; rfl) (by omega) (by omega))) Tru.bool)) fun _ => .orNil)) Ex.nil) ?_
  have flc : D.flat 60 (.list []) = true := rfl
  have gnm := getD_get (l := hnames (clsS (sgn N) 7)) (i := p) (by omega)
  have lnm := nml _ (getD_in (l := hnames (clsS (sgn N) 7)) (i := p) (by omega))
  refine Ex.seq (Ex1.skip (Tst.cmp (Ev.cast (congrArg D.list (tPr_none P1)) (Ev.comp (Comp1.filter1 [none, none, none, some 5, some 2] 1 (fun d => d) (tPr ((hnames (clsS (sgn N) 7)).getD p e0 ++ Str.ofString "__")) (Src1.list (Ev.name 3 rfl rfl)) rfl (by kernel_rfl) (by kernel_rfl) rfl (fun e h => nomatch h) (fun d hd => ?_) (fun d hd ht => Ev.name 1 rfl rfl) (by rw [sts_len]; omega)))) (Ev.list .nil (by simp)) (Cmp.ne rfl rfl)) Ex.nil) ?_
  · obtain ⟨c, hc, rfl⟩ := sts_mem hd
    have := csz c hc
    exact Tst.value (Ev.call 2 rfl (g_private hK) (lk hK rfl) rfl (.two (Ev.name 1 rfl rfl) (Ev.bin (Ev.sub (Ev.name 3 rfl rfl) (Ev.name 4 rfl rfl) (Itm.list (by first | exact Int.natCast_nonneg _ | omega) (by first | exact lt8 (by assumption) | omega) (sts_get (by rw [Int.toNat_natCast]; exact gnm)))) (Ev.str (by decide +kernel)) (Bin.add_str (by omega)))) (f_private hK 18 (by omega) (by rw [Str.length_append]; omega))) Tru.bool
  have g14 := gDom_map (domS (wordAt N) 7)
  have l14l : ((List.range 14).map fun k => (domS (wordAt N) 7).getD (k / 2) e0).length = 14 := by simp
  generalize (List.range 14).map (fun k => (domS (wordAt N) 7).getD (k / 2) e0) = l14 at R1 g14 l14l
  have rq := (map_str (domS (wordAt N) 7) fun d => reachS (own1 d)).trans (congrArg sts R1)
  have q1 : (!eqD (.list (sts (Str.ofString "local" :: l14))) (.list (sts (Str.ofString "local" :: l14)))) = false := by rw [eqD_sts]; rfl
  refine Ex.seq (Ex1.skip (Tst.cast q1 (Tst.cmp (Ev.cast (congrArg D.list rq) (Ev.comp (Comp1.map1 [none, none, none] 1 _ (Src1.list (Ev.name 4 rfl rfl)) rfl (by kernel_rfl) (by kernel_rfl) rfl (fun e h => nomatch h) (fun d hd => ?_) (by rw [sts_len]; omega)))) (Ev.cast (d := .list ([.str (Str.ofString "local")] ++ sts l14)) (d' := .list (sts (Str.ofString "local" :: l14))) rfl (Ev.bin (Ev.list (.one (Ev.str (by decide +kernel))) (by simp)) (Ev.cast (congrArg D.list g14) (Ev.comp (Comp1.map1 [none, none, some 4] 1 (gDom (domS (wordAt N) 7)) (.cast r14 (Src1.range1 17 rfl (g_range hK) Ev.int (by omega) (by omega))) rfl (by kernel_rfl) (by kernel_rfl) rfl (fun e h => nomatch h) (fun d hd => ?_) (by rw [nts_len]; simp)))) (Bin.add_list (by rw [sts_len, l14l]; exact Nat.le_of_ble_eq_true rfl)))) (Cmp.ne (flh _) (flh _)))) Ex.nil) ?_
  · obtain ⟨x, hx, rfl⟩ := sts_mem hd
    have := dsz x hx
    have r := R0 x hx
    exact Ev.call 2 rfl (g_reach hK) (lk hK rfl) rfl (.one (Ev.slice_str (Ev.name 1 rfl rfl) (.some Ev.int) .none (by omega))) (f_reach hK 17 r.1 r.2.1 r.2.2)
  · obtain ⟨k, hk, rfl⟩ := nts_mem hd
    have hk14 : k < 14 := by simpa using hk
    exact Ev.sub (Ev.name 2 rfl rfl) (Ev.bin (Ev.name 1 rfl rfl) Ev.int (Bin.fdiv_int (by decide) (by decide))) (Itm.list (by rw [fd2]; omega) (by rw [fd2]; omega) (sts_get (getD_get (by rw [fd2, Int.toNat_natCast]; omega))))
  have gcl := getD_get (l := clsS (sgn N) 7) (i := 7 + p) (by omega)
  have ghs := getD_get (l := hosts) (i := p) (by omega)
  have e7 : ((7 : Int) + (p : Int)).toNat = 7 + p := by omega
  exact Ex.stop (Ex1.ret (Ev.cast (d := if true then .bool true else .bool true) rfl (Ev.and2 (Ev.call 18 rfl (g_corners hK) (lk hK rfl) rfl (.one (Ev.sub (Ev.name 3 rfl rfl) (Ev.bin Ev.int (Ev.name 2 rfl rfl) Bin.add_int) (Itm.list (by first | exact Int.natCast_nonneg _ | omega) (by first | exact lt8 (by assumption) | omega) (sts_get (by rw [e7]; exact gcl))))) (f_corners hK 17 C1.len C1.ok C1.low C1.lowok C1.rep C1.repok C1.H)) Tru.bool fun _ => Ev.call 19 rfl (g_edges hK) (lk hK rfl) rfl (.one (Ev.sub (Ev.name 8 rfl rfl) (Ev.name 2 rfl rfl) (Itm.list (by first | exact Int.natCast_nonneg _ | omega) (by first | exact lt8 (by assumption) | omega) (sts_get (by rw [Int.toNat_natCast]; exact ghs))))) (f_edges hK 16 Ed))))
end
end Mine
end
section
open PySem PySem.W PyProof.Rows PySem.Calls PySem.Spec
open PySem.Builtin PySem.Builtin.Str
set_option maxRecDepth 100000
namespace Mine
/-! texts as lists of code points -/
def tx (l : List Nat) : Str := ⟨l.toArray⟩
theorem tx_list (l : List Nat) : (tx l).cps.toList = l := by simp [tx]
theorem tx_len (l : List Nat) : (tx l).length = l.length := by simp [tx, Str.length]
theorem tx_app (a b : List Nat) : tx a ++ tx b = tx (a ++ b) := Str.ext' (by simp [Str.cps_append, tx])
theorem tx_inj {a b : List Nat} (h : tx a = tx b) : a = b := by
  have := congrArg (fun x : Str => x.cps.toList) h
  simpa [tx_list] using this
theorem tx_eq {x : Str} {l : List Nat} (h : x.cps.toList = l) : x = tx l := by
  cases x with
  | mk a => subst h; simp [tx]
def asc (l : List Nat) : Prop := ∀ c ∈ l, c < 128
theorem asc_app {a b : List Nat} (ha : asc a) (hb : asc b) : asc (a ++ b) := fun c hc => (List.mem_append.mp hc).elim (ha c) (hb c)
theorem asc_cons {c : Nat} {b : List Nat} (ha : c < 128) (hb : asc b) : asc (c :: b) := fun d hd => (List.mem_cons.mp hd).elim (fun e => e ▸ ha) (hb d)
theorem asc_map {l : List Nat} {f : Nat → Nat} (h : asc l) (hf : ∀ c, c < 128 → f c < 128) : asc (l.map f) := fun c hc => by
  obtain ⟨d, hd, rfl⟩ := List.mem_map.mp hc
  exact hf d (h d hd)
theorem ok_tx {l : List Nat} (h : asc l) : PyData.strOk (tx l) = true := by
  unfold PyData.strOk tx
  rw [List.all_toArray, List.all_eq_true]
  intro c hc
  have := h c hc
  simp; omega
/-! cases -/
def loC (c : Nat) : Nat := if 65 ≤ c ∧ c ≤ 90 then c + 32 else c
def upC (c : Nat) : Nat := if 97 ≤ c ∧ c ≤ 122 then c - 32 else c
theorem lower_c : ∀ c : Fin 128, Unicode.lowerOf c.val = [loC c.val] := by decide +kernel
theorem upper_c : ∀ c : Fin 128, Unicode.upperOf c.val = [upC c.val] := by decide +kernel
theorem flat_one (g : Nat → Nat) : ∀ l : List Nat, (l.map fun c => [g c]).flatten = l.map g
  | [] => rfl
  | c :: l => by rw [List.map_cons, List.flatten_cons, flat_one g l]; rfl
theorem placed_one {l : List Nat} {f : Nat → Nat → List Nat} {g : Nat → Nat} (h : ∀ i c, l[i]? = some c → f i c = [g c]) : (⟨placed (tx l) f⟩ : Str) = tx (l.map g) := by
  apply tx_eq
  show (placed (tx l) f).toList = _
  unfold placed tx
  have e : (l.toArray.mapIdx fun i c => (f i c).toArray) = l.toArray.map fun c => #[g c] := by
    apply Array.ext
    · simp
    · intro i h1 h2
      have hi : i < l.length := by simpa using h1
      rw [Array.getElem_mapIdx, Array.getElem_map]
      rw [h i (l.toArray[i]'(by simpa using hi)) (by rw [List.getElem?_eq_getElem hi]; simp)]
  show (Array.mapIdx (fun i c => (f i c).toArray) l.toArray).flatten.toList = _
  rw [e]
  rw [Array.toList_flatten]
  simp only [List.map_toArray, List.map_map]
  exact flat_one g l
theorem lower_tx {l : List Nat} (h : asc l) : Txt.lower (tx l) = tx (l.map loC) := by
  unfold Txt.lower
  refine placed_one fun i c hc => ?_
  have h1 : (tx l).cps[i]? = some c := by simp [tx, hc]
  have h2 := h c (List.mem_of_getElem? hc)
  unfold Unicode.lowerAt
  rw [h1]
  have h3 : (c == 0x3A3) = false := by simp; omega
  simp only [h3, Bool.false_and, Bool.false_eq_true, if_false]
  exact lower_c ⟨c, h2⟩
theorem upper_tx {l : List Nat} (h : asc l) : Txt.upper (tx l) = tx (l.map upC) := by
  unfold Txt.upper
  exact placed_one fun i c hc => upper_c ⟨c, h c (List.mem_of_getElem? hc)⟩
theorem loC_lt (c : Nat) (h : c < 128) : loC c < 128 := by unfold loC; split <;> omega
theorem upC_lt (c : Nat) (h : c < 128) : upC c < 128 := by unfold upC; split <;> omega
theorem lo_up (c : Nat) : loC (upC c) = loC c := by unfold loC upC; (repeat' split) <;> omega
theorem lo_up_map (l : List Nat) : (l.map upC).map loC = l.map loC := by rw [List.map_map]; exact List.map_congr_left fun c _ => lo_up c
/-! beginnings and ends -/
theorem starts_tx (l p : List Nat) : Txt.startswith (tx l) (tx p) = true ↔ p <+: l := by
  unfold Txt.startswith
  rw [StrLaws.subAt_eq, tx_list, tx_list, tx_len, tx_len, List.drop_zero, Bool.and_eq_true, decide_eq_true_eq, beq_iff_eq, List.prefix_iff_eq_take]
  constructor
  · intro h; exact h.2.symm
  · intro h
    refine ⟨?_, h.symm⟩
    have := congrArg List.length h
    rw [List.length_take] at this; omega
theorem ends_tx (l p : List Nat) : Txt.endswith (tx l) (tx p) = true ↔ p <:+ l := by
  unfold Txt.endswith
  rw [StrLaws.subAt_eq, tx_list, tx_list, tx_len, tx_len, Bool.and_eq_true, decide_eq_true_eq, beq_iff_eq, List.suffix_iff_eq_drop]
  constructor
  · intro h
    have t : (l.drop (l.length - p.length)).take p.length = l.drop (l.length - p.length) := List.take_of_length_le (by rw [List.length_drop]; omega)
    rw [t] at h; exact h.2.symm
  · intro h
    refine ⟨?_, by rw [← h]; exact List.take_length⟩
    have := congrArg List.length h
    rw [List.length_drop] at this; omega
theorem bool_not {b : Bool} {p : Prop} (h : b = true ↔ p) (hp : ¬ p) : b = false := by
  cases b with
  | false => rfl
  | true => exact absurd (h.mp rfl) hp
/-! parts -/
theorem slice_tx (l : List Nat) (k : Nat) (h : k ≤ l.length) : Txt.slice (tx l) (some (k : Int)) none = tx (l.drop k) := by
  have e := StrLaws.sliceText_from (x := tx l) (i := (k : Int)) ⟨by omega, by rw [tx_list]; omega⟩
  rw [tx_list] at e
  refine Eq.trans (show Txt.slice (tx l) (some (k : Int)) none = StrLaws.sliceText (tx l) (some (k : Int)) none from rfl) (e.trans ?_)
  unfold tx
  rw [Int.toNat_natCast, List.take_of_length_le (by rw [List.length_drop]; omega)]
theorem dot_tx : Str.ofString "." = tx [46] := by decide +kernel
theorem at_one (l : List Nat) (c i : Nat) : StrLaws.At (tx l) ⟨#[c]⟩ (tx l).length i ↔ l[i]? = some c := by
  have := StrLaws.subAt_one (tx l) c i
  rw [tx_list] at this
  exact this
theorem find_yes {z r : List Nat} {c : Nat} (h : c ∉ z) : Txt.find (tx (z ++ c :: r)) (tx [c]) = (z.length : Int) := by
  unfold Txt.find
  have hit : (z ++ c :: r)[z.length]? = some c := by simp
  rcases StrLaws.occ_head (tx (z ++ c :: r)) ⟨#[c]⟩ 1 (Nat.le_refl _) with ⟨_, e2⟩ | ⟨i, q, e1, e2, e3⟩
  · exact absurd ((at_one _ _ _).mpr hit) (e2 z.length)
  · show (match occurrences (tx (z ++ c :: r)) ⟨#[c]⟩ 0 (tx (z ++ c :: r)).length 1 with | i :: _ => (i : Int) | [] => -1) = _
    rw [e1]
    have h1 : (z ++ c :: r)[i]? = some c := (at_one _ _ _).mp e2
    have h2 : ¬ z.length < i := fun hlt => e3 z.length hlt ((at_one _ _ _).mpr hit)
    have h3 : ¬ i < z.length := fun hlt => by
      rw [List.getElem?_append_left hlt] at h1
      exact h (List.mem_of_getElem? h1)
    show (i : Int) = _
    omega
theorem find_no {l : List Nat} {c : Nat} (h : c ∉ l) : Txt.find (tx l) (tx [c]) = -1 := by
  unfold Txt.find
  rcases StrLaws.occ_head (tx l) ⟨#[c]⟩ 1 (Nat.le_refl _) with ⟨e1, _⟩ | ⟨i, q, e1, e2, e3⟩
  · show (match occurrences (tx l) ⟨#[c]⟩ 0 (tx l).length 1 with | i :: _ => (i : Int) | [] => -1) = _
    rw [e1]
  · exact absurd (List.mem_of_getElem? ((at_one _ _ _).mp e2)) h
theorem contains_tx (l : List Nat) (c : Nat) : Txt.contains (tx l) (tx [c]) = decide (c ∈ l) := by
  have := StrLaws.found_one (tx l) c
  rw [tx_list] at this
  exact this
theorem item_last (l : List Nat) (c : Nat) : Txt.item (tx (l ++ [c])) (-1) = tx [c] := by
  refine item_of ?_
  unfold Txt.charAt
  refine StrLaws.at_neg (x := tx (l ++ [c])) (by decide) (by rw [tx_len]; simp; omega) ?_
  have : ((-1 : Int) + ((tx (l ++ [c])).length : Nat)).toNat = l.length := by rw [tx_len, List.length_append]; simp only [List.length_cons, List.length_nil]; omega
  rw [this]; simp [tx]
theorem item_last2 (l : List Nat) (c d : Nat) : Txt.item (tx (l ++ [c, d])) (-2) = tx [c] := by
  refine item_of ?_
  unfold Txt.charAt
  refine StrLaws.at_neg (x := tx (l ++ [c, d])) (by decide) (by rw [tx_len]; simp; omega) ?_
  have : ((-2 : Int) + ((tx (l ++ [c, d])).length : Nat)).toNat = l.length := by rw [tx_len, List.length_append]; simp only [List.length_cons, List.length_nil]; omega
  rw [this]; simp [tx]
theorem item_zero (c : Nat) (l : List Nat) : Txt.item (tx (c :: l)) 0 = tx [c] := by
  refine item_of ?_
  unfold Txt.charAt
  exact StrLaws.at_nonneg (x := tx (c :: l)) (by decide) (by simp [tx])
theorem eqD_tx (a b : List Nat) : eqD (.str (tx a)) (.str (tx b)) = decide (a = b) := by
  rw [eqD_str, Bool.eq_iff_iff, decide_eq_true_eq, decide_eq_true_eq]
  exact ⟨tx_inj, fun h => h ▸ rfl⟩
end Mine
end
section
open PySem PySem.W PyProof.Rows PySem.Calls PySem.Spec
open PySem.Builtin PySem.Builtin.Str
set_option maxRecDepth 100000
namespace Mine
theorem found_no {t : Array Nat} : ∀ (k s : Nat), (∀ i, s ≤ i → i < s + k → Re.hit t i = false) → Re.found t k s = false
  | 0, _, _ => rfl
  | k + 1, s, h => by
    show (Re.hit t s || Re.found t k (s + 1)) = false
    rw [h s (Nat.le_refl _) (by omega), found_no k (s + 1) fun i h1 h2 => h i (by omega) (by omega)]; rfl
theorem found_yes {t : Array Nat} : ∀ (k s i : Nat), s ≤ i → i < s + k → Re.hit t i = true → Re.found t k s = true
  | 0, _, _, _, _, _ => by omega
  | k + 1, s, i, h1, h2, h => by
    show (Re.hit t s || Re.found t k (s + 1)) = true
    by_cases e : i = s
    · subst e; rw [h]; rfl
    · rw [found_yes k (s + 1) i (by omega) (by omega) h, Bool.or_true]
theorem tx_size (l : List Nat) : (tx l).cps.size = l.length := by simp [tx]
theorem tx_getD (l : List Nat) (i : Nat) : (tx l).cps.getD i 0 = l.getD i 0 := by simp [tx, Array.getD_eq_getD_getElem?, List.getD_eq_getElem?_getD]
/-- a match at s: all from there on are digits -/
theorem hit_digits {l : List Nat} {s : Nat} (h : Re.hit (tx l).cps s = true) (hz : ∀ c, l[l.length - 1]? = some c → c ≠ 10) : l.getD s 0 = 46 ∧ s + 1 < l.length ∧ ∀ i, s < i → i < l.length → Sre.isDigit (l.getD i 0) = true := by
  unfold Re.hit at h
  simp only [Bool.and_eq_true, beq_iff_eq, decide_eq_true_eq] at h
  obtain ⟨h1, h2, h3⟩ := h
  rw [tx_getD] at h1
  have hle : Re.digs (tx l).cps s ≤ l.length - (s + 1) := by
    have := Re.dg_le (tx l).cps ((tx l).cps.size - (s + 1)) (s + 1)
    unfold Re.digs
    rw [tx_size] at this ⊢
    exact this
  have hdg : ∀ i, i < Re.digs (tx l).cps s → Sre.isDigit (l.getD (s + 1 + i) 0) = true := fun i hi => by
    have := Re.dg_digit (tx l).cps ((tx l).cps.size - (s + 1)) (s + 1) i hi
    rwa [tx_getD] at this
  unfold Re.atEnd at h3
  rw [tx_size, tx_getD] at h3
  simp only [Bool.or_eq_true, beq_iff_eq, Bool.and_eq_true] at h3
  have hend : s + 1 + Re.digs (tx l).cps s = l.length := by
    rcases h3 with h3 | ⟨h3, h4⟩
    · exact h3
    · have hlt : s + 1 + Re.digs (tx l).cps s < l.length := by omega
      rw [List.getD_eq_getElem?_getD, List.getElem?_eq_getElem hlt] at h4
      have := hz 10 (by rw [← h3, Nat.add_sub_cancel, List.getElem?_eq_getElem hlt]; exact congrArg some h4)
      exact absurd rfl this
  refine ⟨h1, by omega, fun i hi hl => ?_⟩
  have := hdg (i - (s + 1)) (by omega)
  rwa [show s + 1 + (i - (s + 1)) = i by omega] at this
theorem isNum_no (l : List Nat) (c : Nat) (hd : Sre.isDigit c = false) (hn : c ≠ 10) : Re.isNum (tx (l ++ [c])).cps = false := by
  unfold Re.isNum
  split
  · rfl
  · refine found_no _ _ fun i _ hi => ?_
    rw [tx_size] at hi
    cases e : Re.hit (tx (l ++ [c])).cps i with
    | false => rfl
    | true =>
      obtain ⟨_, h2, h3⟩ := hit_digits e (fun d hd' => by
        rw [List.length_append, List.length_singleton, Nat.add_sub_cancel, List.getElem?_append_right (Nat.le_refl _), Nat.sub_self] at hd'
        cases hd'; exact hn)
      have hl : (l ++ [c]).length = l.length + 1 := by simp
      have := h3 l.length (by omega) (by omega)
      rw [List.getD_eq_getElem?_getD, List.getElem?_append_right (Nat.le_refl _), Nat.sub_self] at this
      have t : Sre.isDigit c = true := this
      rw [hd] at t; cases t
theorem isNum_no2 (l : List Nat) (c d : Nat) (hc : Sre.isDigit c = false) (h46 : c ≠ 46) (hd46 : d ≠ 46) (hn : d ≠ 10) : Re.isNum (tx (l ++ [c, d])).cps = false := by
  unfold Re.isNum
  split
  · rfl
  · refine found_no _ _ fun i _ hi => ?_
    rw [tx_size] at hi
    have hl : (l ++ [c, d]).length = l.length + 2 := by simp
    have g0 : (l ++ [c, d]).getD l.length 0 = c := by
      rw [List.getD_eq_getElem?_getD, List.getElem?_append_right (Nat.le_refl _), Nat.sub_self]; rfl
    have g1 : (l ++ [c, d]).getD (l.length + 1) 0 = d := by
      rw [List.getD_eq_getElem?_getD, List.getElem?_append_right (by omega), Nat.add_sub_cancel_left]; rfl
    cases e : Re.hit (tx (l ++ [c, d])).cps i with
    | false => rfl
    | true =>
      obtain ⟨h1, h2, h3⟩ := hit_digits e (fun d' hd' => by
        rw [hl, show l.length + 2 - 1 = l.length + 1 by omega, List.getElem?_append_right (by omega), Nat.add_sub_cancel_left] at hd'
        cases hd'; exact hn)
      rw [hl] at h2
      by_cases e1 : i = l.length
      · rw [e1, g0] at h1; exact absurd h1 h46
      · have := h3 l.length (by omega) (by omega)
        rw [g0, hc] at this; cases this
theorem isNum_yes (l : List Nat) (d : Nat) (hd : Sre.isDigit d = true) : Re.isNum (tx (l ++ [46, d])).cps = true := by
  have hl : (l ++ [46, d]).length = l.length + 2 := by simp
  unfold Re.isNum
  rw [tx_size, hl, if_neg (by omega)]
  refine found_yes _ _ l.length (by omega) (by omega) ?_
  have g0 : (l ++ [46, d]).getD l.length 0 = 46 := by
    rw [List.getD_eq_getElem?_getD, List.getElem?_append_right (Nat.le_refl _), Nat.sub_self]; rfl
  have g1 : (l ++ [46, d]).getD (l.length + 1) 0 = d := by
    rw [List.getD_eq_getElem?_getD, List.getElem?_append_right (by omega), Nat.add_sub_cancel_left]; rfl
  have e1 : Re.digs (tx (l ++ [46, d])).cps l.length = 1 := by
    unfold Re.digs
    rw [tx_size, hl, show l.length + 2 - (l.length + 1) = 1 by omega]
    show (if Sre.isDigit ((tx (l ++ [46, d])).cps.getD (l.length + 1) 0) then Re.dg _ 0 _ + 1 else 0) = 1
    rw [tx_getD, g1, hd]; rfl
  unfold Re.hit Re.atEnd
  rw [e1, tx_getD, g0, tx_size, hl]
  simp
/-! cut and put together -/
def repC (a b c : Nat) : Nat := if c = a then b else c
theorem rep_free (a b : Nat) : ∀ l : List Nat, a ∉ l → l.map (repC a b) = l
  | [], _ => rfl
  | k :: r, h => by
    rw [List.map_cons, rep_free a b r fun hm => h (List.mem_cons_of_mem _ hm)]
    unfold repC
    have hk : k ≠ a := fun e => h (by rw [e]; exact List.mem_cons_self ..)
    rw [if_neg hk]
theorem rep_join (a b : Nat) : ∀ parts : List Str, (∀ p ∈ parts, a ∉ p.cps.toList) → (Str.join ⟨#[a]⟩ parts).cps.toList.map (repC a b) = (Str.join ⟨#[b]⟩ parts).cps.toList
  | [], _ => rfl
  | [p], h => rep_free a b _ (h p (List.mem_singleton.mpr rfl))
  | p :: q :: r, h => by
    have ih := rep_join a b (q :: r) fun x hx => h x (List.mem_cons_of_mem _ hx)
    show (p ++ ⟨#[a]⟩ ++ Str.join ⟨#[a]⟩ (q :: r)).cps.toList.map (repC a b) = (p ++ ⟨#[b]⟩ ++ Str.join ⟨#[b]⟩ (q :: r)).cps.toList
    simp only [Str.cps_append, Array.toList_append, List.map_append]
    rw [ih, rep_free a b _ (h p (List.mem_cons_self ..))]
    have : [a].map (repC a b) = [b] := by simp [repC]
    rw [this]
theorem replace_tx (l : List Nat) (a b : Nat) : Txt.replace (tx l) (tx [a]) (tx [b]) = tx (l.map (repC a b)) := by
  apply tx_eq
  show (Txt.replace (tx l) ⟨#[a]⟩ ⟨#[b]⟩).cps.toList = _
  rw [StrLaws.replace_one, ← rep_join a b _ (StrLaws.split_free (tx l) a), StrLaws.join_split, tx_list]
theorem first_dot {c : Nat} : ∀ {p u z r : List Nat}, c ∉ p → c ∉ z → p ++ c :: u = z ++ c :: r → p = z
  | [], u, [], r, _, _, _ => rfl
  | [], u, y :: z, r, _, hz, e => by
    have : c = y := by injection e
    exact absurd (List.mem_cons.mpr (.inl this)) hz
  | x :: p, u, [], r, hp, _, e => by
    have : x = c := by injection e
    exact absurd (List.mem_cons.mpr (.inl this.symm)) hp
  | x :: p, u, y :: z, r, hp, hz, e => by
    injection e with e1 e2
    rw [e1, first_dot (fun m => hp (List.mem_cons_of_mem _ m)) (fun m => hz (List.mem_cons_of_mem _ m)) e2]
theorem split_tx {z r : List Nat} {c : Nat} (h : c ∉ z) : ∃ l, Txt.split (tx (z ++ c :: r)) (tx [c]) = tx z :: l := by
  show ∃ l, Txt.split (tx (z ++ c :: r)) ⟨#[c]⟩ = tx z :: l
  have h1 := StrLaws.join_split (tx (z ++ c :: r)) ⟨#[c]⟩
  have h2 := StrLaws.split_free (tx (z ++ c :: r)) c
  match e : Txt.split (tx (z ++ c :: r)) ⟨#[c]⟩ with
  | [] =>
    rw [e] at h1
    have := congrArg (fun x : Str => x.cps.toList) h1
    simp only [tx_list] at this
    have t : ([] : List Nat) = z ++ c :: r := this
    simp at t
  | [p] =>
    rw [e] at h1 h2
    have t : p = tx (z ++ c :: r) := h1
    have := h2 p (List.mem_singleton.mpr rfl)
    rw [t, tx_list] at this
    exact absurd (List.mem_append.mpr (.inr (List.mem_cons_self ..))) this
  | p :: q :: l =>
    rw [e] at h1 h2
    have hp := h2 p (List.mem_cons_self ..)
    have t : p ++ ⟨#[c]⟩ ++ Str.join ⟨#[c]⟩ (q :: l) = tx (z ++ c :: r) := h1
    have := congrArg (fun x : Str => x.cps.toList) t
    simp only [tx_list, Str.cps_append, Array.toList_append] at this
    have e2 : p.cps.toList ++ c :: (Str.join ⟨#[c]⟩ (q :: l)).cps.toList = z ++ c :: r := by
      rw [← this]; simp
    exact ⟨q :: l, by rw [tx_eq (first_dot hp h e2)]⟩
theorem parts_le (x : Str) (w n : Nat) (y : Str) : (partsBetween x (occurrences x y 0 x.length n) w).length ≤ n + 1 := by
  have := StrLaws.occ_length_le x y 0 x.length n
  unfold partsBetween
  simp only [List.length_map, List.length_zip, List.length_cons, List.length_append, List.length_nil]
  omega
end Mine
end
section
open PySem PySem.W PyProof.Rows PySem.Calls PySem.Spec
open PySem.Builtin PySem.Builtin.Str
set_option maxRecDepth 100000
namespace Mine
def lcl : List Nat := [108, 111, 99, 97, 108]
theorem lcl_tx : Str.ofString "local" = tx lcl := by decide +kernel
theorem emp_tx : Str.ofString "" = tx [] := by decide +kernel
theorem hdn_yes {c d : Nat} {l q : List Nat} (e : c :: l = q ++ [d]) (hc : c ≠ 46) (hd : d ≠ 46) (hn : Re.isNum (tx (c :: l)).cps = false) : hdn (tx (c :: l)) = true := by
  have e1 : Txt.item (tx (c :: l)) (-1) = tx [d] := by rw [e]; exact item_last q d
  unfold hdn
  rw [hn, emp_tx, dot_tx, eqD_tx, item_zero, e1, eqD_tx, eqD_tx]
  simp [hc, hd]
theorem hdn_num {l : List Nat} (h : Re.isNum (tx l).cps = true) : hdn (tx l) = false := by unfold hdn; rw [h]; rfl
theorem hdn_dot (q : List Nat) : hdn (tx (q ++ [46])) = false := by
  unfold hdn
  rw [item_last, dot_tx, eqD_tx]
  simp
theorem reach_cut {z r : List Nat} (hz : 46 ∉ z) : reachS (tx (z ++ 46 :: r)) = if hdn (tx (z ++ 46 :: r)) && (decide (46 ∈ r) || decide (r = lcl)) then tx (46 :: r) else tx (z ++ 46 :: r) := by
  have e1 := find_yes (r := r) hz
  have e2 : Txt.slice (tx (z ++ 46 :: r)) (some ((z.length : Int) + 1)) none = tx r := by
    have := slice_tx (z ++ 46 :: r) (z.length + 1) (by simp)
    rw [show ((z.length + 1 : Nat) : Int) = (z.length : Int) + 1 by omega] at this
    rw [this]
    congr 1
    rw [List.drop_append]; simp
  have e3 : decide (Txt.find (tx r) (tx [46]) ≥ 0) = decide (46 ∈ r) := by
    by_cases h : 46 ∈ r
    · obtain ⟨a, b, rfl, ha⟩ : ∃ a b, r = a ++ 46 :: b ∧ 46 ∉ a := by
        have := List.append_of_mem h
        clear e1 e2
        induction r with
        | nil => cases h
        | cons x r ih =>
          by_cases hx : x = 46
          · exact ⟨[], r, by rw [hx]; rfl, by simp⟩
          · have hm : 46 ∈ r := by
              rcases List.mem_cons.mp h with h | h
              · exact absurd h.symm hx
              · exact h
            obtain ⟨a, b, e, ha⟩ := ih hm (List.append_of_mem hm)
            exact ⟨x :: a, b, by rw [e]; rfl, fun m => (List.mem_cons.mp m).elim (fun e => hx e.symm) ha⟩
      rw [find_yes ha]
      have : 46 ∈ a ++ 46 :: b := List.mem_append.mpr (.inr (List.mem_cons_self ..))
      simp
    · rw [find_no h]; simp [h]
  unfold reachS
  rw [dot_tx, e1, e2, e3, lcl_tx, eqD_tx, tx_app]
  simp
theorem reach_up {z r : List Nat} (hz : 46 ∉ z) (h : hdn (tx (z ++ 46 :: r)) = true) (hr : 46 ∈ r ∨ r = lcl) : reachS (tx (z ++ 46 :: r)) = tx (46 :: r) := by
  rw [reach_cut hz, h]
  rcases hr with hr | hr <;> simp [hr]
theorem reach_hd {z r : List Nat} (hz : 46 ∉ z) (h : hdn (tx (z ++ 46 :: r)) = false) : reachS (tx (z ++ 46 :: r)) = tx (z ++ 46 :: r) := by
  rw [reach_cut hz, h]; simp
theorem reach_low {z r : List Nat} (hz : 46 ∉ z) (h1 : 46 ∉ r) (h2 : r ≠ lcl) : reachS (tx (z ++ 46 :: r)) = tx (z ++ 46 :: r) := by
  rw [reach_cut hz]; simp [h1, h2]
theorem reach_flat {l : List Nat} (h : 46 ∉ l) : reachS (tx l) = tx l := by
  unfold reachS
  rw [dot_tx, find_no h]; simp
/-! user_domain_match -/
theorem lib_no {l : List Nat} (h : Re.isNum (tx l).cps = false) : lib (tx l) = true := by unfold lib; rw [h]; rfl
theorem lib_yes {l : List Nat} (h : Re.isNum (tx l).cps = true) : lib (tx l) = false := by unfold lib; rw [h]; rfl
theorem udm_lo {a b : List Nat} (ha : asc a) (hb : asc b) : udm (tx a) (tx b) = udm0 (tx (a.map loC)) (tx (b.map loC)) := by unfold udm; rw [lower_tx ha, lower_tx hb]
theorem udm_num {a b : List Nat} (h : Re.isNum (tx b).cps = true) : udm0 (tx a) (tx b) = decide (a = b) := by
  unfold udm0
  rw [lib_yes h, eqD_tx]; simp
theorem starts_dot (b : List Nat) : Txt.startswith (tx (46 :: b)) (Str.ofString ".") = true := by
  rw [dot_tx, starts_tx]; exact List.cons_prefix_cons.mpr ⟨rfl, List.nil_prefix⟩
theorem starts_nodot {c : Nat} {b : List Nat} (h : c ≠ 46) : Txt.startswith (tx (c :: b)) (Str.ofString ".") = false := by
  rw [dot_tx]
  refine bool_not (starts_tx _ _) fun h' => ?_
  exact h (List.cons_prefix_cons.mp h').1.symm
theorem udm_dot {a b : List Nat} (ha : Re.isNum (tx a).cps = false) (hb : Re.isNum (tx (46 :: b)).cps = false) : udm0 (tx a) (tx (46 :: b)) = true ↔ 46 :: b <:+ a := by
  unfold udm0
  rw [lib_no ha, lib_no hb, starts_dot]
  simp only [Bool.and_true, Bool.not_true, Bool.false_eq_true, if_false, Bool.true_and, Bool.false_and]
  rw [← ends_tx]
  cases Txt.endswith (tx a) (tx (46 :: b)) <;> simp
theorem udm_bare {a b : List Nat} {c : Nat} (hc : c ≠ 46) (ha : Re.isNum (tx a).cps = false) (hb : Re.isNum (tx (c :: b)).cps = false) : udm0 (tx a) (tx (c :: b)) = decide (a = c :: b) := by
  unfold udm0
  rw [lib_no ha, lib_no hb, starts_nodot hc, eqD_tx]
  simp
/-! the host -/
structure Bare (a z : List Nat) : Prop where
  asc : asc a
  cut : ∃ r, a = z ++ 46 :: r
  zdot : 46 ∉ z
  z0 : ∃ c y, z = c :: y ∧ c ≠ 46
  last : ∃ q, a = q ++ [108]
  len : a.length ≤ 60
def edL (a : List Nat) : List (List Nat × List Nat) := [(a.map upC, a), (119 :: 46 :: (a ++ [46, 55]), (119 :: 46 :: a).map upC ++ [46, 55]), (119 :: 46 :: (a ++ [55]), 46 :: (a ++ [55])), (46 :: a, (46 :: a).map upC),
  (a, 46 :: a), (119 :: 46 :: a, a), (119 :: 46 :: (a ++ [46, 55]), 46 :: (a ++ [46, 55])), (119 :: 46 :: (a ++ [46]), 46 :: a)]
theorem dot7_tx : Str.ofString ".7" = tx [46, 55] := by decide +kernel
theorem seven_tx : Str.ofString "7" = tx [55] := by decide +kernel
theorem bare_tx (a : List Nat) (c d : Nat) : bare (tx (c :: d :: a)) = tx a := slice_tx (c :: d :: a) 2 (by simp)
theorem own1_tx (a : List Nat) (c : Nat) : own1 (tx (c :: a)) = tx a := slice_tx (c :: a) 1 (by simp)
theorem edP_tx {a : List Nat} (h : asc a) : edP (tx (119 :: 46 :: a)) = (edL a).map fun p => (tx p.1, tx p.2) := by
  have h1 : asc (46 :: a) := asc_cons (by decide) h
  have h2 : asc (119 :: 46 :: a) := asc_cons (by decide) h1
  unfold edP
  rw [bare_tx, own1_tx, upper_tx h, upper_tx h1, upper_tx h2, dot7_tx, seven_tx, dot_tx]
  simp only [tx_app]
  rfl
theorem tame_tx {l : List Nat} (h : asc l) (hl : l.length ≤ 900) : Tame (tx l) := ⟨by rw [tx_len]; exact hl, by rw [lower_tx h, tx_len, List.length_map]; exact hl, by rw [lower_tx h]; exact ok_tx (asc_map h loC_lt)⟩
theorem host_tx {l : List Nat} (h : asc l) (hl : l.length ≤ 900) : Host (tx l) := ⟨by rw [tx_len]; exact hl, ok_tx h, by rw [upper_tx h, tx_len, List.length_map]; exact hl, by rw [upper_tx h]; exact ok_tx (asc_map h upC_lt), by rw [upper_tx h]; exact tame_tx (asc_map h upC_lt) (by rw [List.length_map]; exact hl), Nat.le_trans (Txt.slice_le _ _ _) (by rw [tx_len]; exact hl)⟩
theorem edL_asc {a : List Nat} (h : asc a) (hl : a.length ≤ 60) : ∀ p ∈ edL a, (asc p.1 ∧ p.1.length ≤ 900) ∧ (asc p.2 ∧ p.2.length ≤ 900) := by
  have h1 : asc (46 :: a) := asc_cons (by decide) h
  have h2 : asc (119 :: 46 :: a) := asc_cons (by decide) h1
  have h3 : asc [46, 55] := by unfold asc; decide
  have h4 : asc [55] := by unfold asc; decide
  have h5 : asc [46] := by unfold asc; decide
  have c46 : ∀ {l : List Nat}, asc l → asc (46 :: l) := fun h => asc_cons (by decide) h
  have c119 : ∀ {l : List Nat}, asc l → asc (119 :: l) := fun h => asc_cons (by decide) h
  intro p hp
  simp only [edL, List.mem_cons, List.not_mem_nil, or_false] at hp
  rcases hp with rfl | rfl | rfl | rfl | rfl | rfl | rfl | rfl
  · exact ⟨⟨asc_map h upC_lt, by simp; omega⟩, h, by show a.length ≤ 900; omega⟩
  · exact ⟨⟨c119 (c46 (asc_app h h3)), by simp; omega⟩, asc_app (asc_map h2 upC_lt) h3, by simp; omega⟩
  · exact ⟨⟨c119 (c46 (asc_app h h4)), by simp; omega⟩, c46 (asc_app h h4), by simp; omega⟩
  · exact ⟨⟨h1, by simp; omega⟩, asc_map h1 upC_lt, by simp; omega⟩
  · exact ⟨⟨h, by show a.length ≤ 900; omega⟩, h1, by simp; omega⟩
  · exact ⟨⟨h2, by simp; omega⟩, h, by show a.length ≤ 900; omega⟩
  · exact ⟨⟨c119 (c46 (asc_app h h3)), by simp; omega⟩, c46 (asc_app h h3), by simp; omega⟩
  · exact ⟨⟨c119 (c46 (asc_app h h5)), by simp; omega⟩, h1, by simp; omega⟩
theorem udm_lists {a b : List Nat} (ha : asc a) (hb : asc b) : udm (tx a) (tx b) = udm0 (tx (a.map loC)) (tx (b.map loC)) := udm_lo ha hb
theorem num_l (q : List Nat) : Re.isNum (tx (q ++ [108])).cps = false := isNum_no q 108 (by decide) (by decide)
theorem num_l7 (q : List Nat) : Re.isNum (tx (q ++ [108, 55])).cps = false := isNum_no2 q 108 55 (by decide) (by decide) (by decide) (by decide)
theorem num_7 (q : List Nat) : Re.isNum (tx (q ++ [46, 55])).cps = true := isNum_yes q 55 (by decide)
theorem loC_nz {c : Nat} (h : c ≠ 46) : loC c ≠ 46 := by unfold loC; split <;> omega
theorem edge_udm {a z : List Nat} (B : Bare a z) : ∀ k, k < 8 → udm ((edP (tx (119 :: 46 :: a))).getD k e2s).1 ((edP (tx (119 :: 46 :: a))).getD k e2s).2 = decide (k < 4) := by
  obtain ⟨r, hr⟩ := B.cut
  obtain ⟨c, y, hz, hc⟩ := B.z0
  obtain ⟨q, hq⟩ := B.last
  have ha := B.asc
  rw [edP_tx ha]
  have A := edL_asc ha B.len
  have e1 : a.map loC = q.map loC ++ [108] := by rw [hq, List.map_append]; rfl
  have e2 : ∃ t, a.map loC = loC c :: t := ⟨_, by rw [hr, hz]; rfl⟩
  obtain ⟨t, e2⟩ := e2
  have nc := loC_nz hc
  have n0 : Re.isNum (tx (a.map loC)).cps = false := by rw [e1]; exact num_l _
  have n1 : Re.isNum (tx (46 :: a.map loC)).cps = false := by rw [e1]; exact num_l (46 :: q.map loC)
  have n2 : Re.isNum (tx (119 :: 46 :: a.map loC)).cps = false := by rw [e1]; exact num_l (119 :: 46 :: q.map loC)
  have n3 : Re.isNum (tx (46 :: (a.map loC ++ [55]))).cps = false := by rw [e1, List.append_assoc]; exact num_l7 (46 :: q.map loC)
  have n4 : Re.isNum (tx (119 :: 46 :: (a.map loC ++ [55]))).cps = false := by rw [e1, List.append_assoc]; exact num_l7 (119 :: 46 :: q.map loC)
  have n5 : Re.isNum (tx (119 :: 46 :: (a.map loC ++ [46, 55]))).cps = true := num_7 (119 :: 46 :: a.map loC)
  have n6 : Re.isNum (tx (46 :: (a.map loC ++ [46, 55]))).cps = true := num_7 (46 :: a.map loC)
  have n7 : Re.isNum (tx (119 :: 46 :: (a.map loC ++ [46]))).cps = false := isNum_no (119 :: 46 :: a.map loC) 46 (by decide) (by decide)
  have m46 : loC 46 = 46 := rfl
  have m119 : loC 119 = 119 := rfl
  have m55 : loC 55 = 55 := rfl
  intro k hk
  match k, hk with
  | 0, _ =>
    have h := A (a.map upC, a) (by simp [edL])
    show udm (tx (a.map upC)) (tx a) = true
    rw [udm_lists h.1.1 h.2.1, lo_up_map, e2, udm_bare nc (e2 ▸ n0) (e2 ▸ n0)]; simp
  | 1, _ =>
    have h := A (119 :: 46 :: (a ++ [46, 55]), (119 :: 46 :: a).map upC ++ [46, 55]) (by simp [edL])
    show udm (tx (119 :: 46 :: (a ++ [46, 55]))) (tx ((119 :: 46 :: a).map upC ++ [46, 55])) = true
    rw [udm_lists h.1.1 h.2.1]
    have x1 : (119 :: 46 :: (a ++ [46, 55])).map loC = 119 :: 46 :: (a.map loC ++ [46, 55]) := by simp [loC]
    have x2 : ((119 :: 46 :: a).map upC ++ [46, 55]).map loC = 119 :: 46 :: (a.map loC ++ [46, 55]) := by rw [List.map_append, lo_up_map]; simp [loC]
    rw [x1, x2, udm_num n5]; simp
  | 2, _ =>
    have h := A (119 :: 46 :: (a ++ [55]), 46 :: (a ++ [55])) (by simp [edL])
    show udm (tx (119 :: 46 :: (a ++ [55]))) (tx (46 :: (a ++ [55]))) = true
    rw [udm_lists h.1.1 h.2.1]
    have x1 : (119 :: 46 :: (a ++ [55])).map loC = 119 :: 46 :: (a.map loC ++ [55]) := by simp [loC]
    have x2 : (46 :: (a ++ [55])).map loC = 46 :: (a.map loC ++ [55]) := by simp [loC]
    rw [x1, x2]
    exact (udm_dot n4 n3).mpr ⟨[119], rfl⟩
  | 3, _ =>
    have h := A (46 :: a, (46 :: a).map upC) (by simp [edL])
    show udm (tx (46 :: a)) (tx ((46 :: a).map upC)) = true
    rw [udm_lists h.1.1 h.2.1, lo_up_map]
    have x1 : (46 :: a).map loC = 46 :: a.map loC := rfl
    rw [x1]
    exact (udm_dot n1 n1).mpr (List.suffix_refl _)
  | 4, _ =>
    have h := A (a, 46 :: a) (by simp [edL])
    show udm (tx a) (tx (46 :: a)) = false
    rw [udm_lists h.1.1 h.2.1]
    have x1 : (46 :: a).map loC = 46 :: a.map loC := rfl
    rw [x1]
    exact bool_not (udm_dot n0 n1) fun hs => by
      have : (46 :: a.map loC).length ≤ (a.map loC).length := hs.length_le
      rw [List.length_cons] at this; omega
  | 5, _ =>
    have h := A (119 :: 46 :: a, a) (by simp [edL])
    show udm (tx (119 :: 46 :: a)) (tx a) = false
    rw [udm_lists h.1.1 h.2.1]
    have x1 : (119 :: 46 :: a).map loC = 119 :: 46 :: a.map loC := rfl
    rw [x1]
    have := udm_bare (a := 119 :: 46 :: a.map loC) (b := t) nc n2 (e2 ▸ n0)
    rw [← e2] at this
    rw [this, decide_eq_false_iff_not]
    intro e
    have := congrArg List.length e
    simp only [List.length_cons] at this; omega
  | 6, _ =>
    have h := A (119 :: 46 :: (a ++ [46, 55]), 46 :: (a ++ [46, 55])) (by simp [edL])
    show udm (tx (119 :: 46 :: (a ++ [46, 55]))) (tx (46 :: (a ++ [46, 55]))) = false
    rw [udm_lists h.1.1 h.2.1]
    have x1 : (119 :: 46 :: (a ++ [46, 55])).map loC = 119 :: 46 :: (a.map loC ++ [46, 55]) := by simp [loC]
    have x2 : (46 :: (a ++ [46, 55])).map loC = 46 :: (a.map loC ++ [46, 55]) := by simp [loC]
    rw [x1, x2, udm_num n6, decide_eq_false_iff_not]
    intro e
    have := congrArg List.length e
    simp only [List.length_cons] at this; omega
  | 7, _ =>
    have h := A (119 :: 46 :: (a ++ [46]), 46 :: a) (by simp [edL])
    show udm (tx (119 :: 46 :: (a ++ [46]))) (tx (46 :: a)) = false
    rw [udm_lists h.1.1 h.2.1]
    have x1 : (119 :: 46 :: (a ++ [46])).map loC = 119 :: 46 :: (a.map loC ++ [46]) := by simp [loC]
    have x2 : (46 :: a).map loC = 46 :: a.map loC := rfl
    rw [x1, x2]
    refine bool_not (udm_dot n7 n1) fun hs => ?_
    obtain ⟨u, hu⟩ := hs
    rw [e1] at hu
    have h1 := congrArg List.getLast? hu
    have g1 : (u ++ 46 :: (q.map loC ++ [108])).getLast? = some 108 := by
      rw [show u ++ 46 :: (q.map loC ++ [108]) = (u ++ 46 :: q.map loC) ++ [108] by simp, List.getLast?_concat]
    have g2 : (119 :: 46 :: (q.map loC ++ [108] ++ [46])).getLast? = some 46 := by
      rw [show 119 :: 46 :: (q.map loC ++ [108] ++ [46]) = (119 :: 46 :: (q.map loC ++ [108])) ++ [46] by simp, List.getLast?_concat]
    rw [g1, g2] at h1
    cases h1
theorem wdot_tx : Str.ofString "w." = tx [119, 46] := by decide +kernel
theorem LOC_tx : Str.ofString ".LOCAL" = tx (46 :: [76, 79, 67, 65, 76]) := by decide +kernel
theorem minus_tx : Str.ofString "-" = tx [45] := by decide +kernel
theorem edge_of {a z : List Nat} (B : Bare a z) : Edge (tx (119 :: 46 :: a)) (tx z) := by
  obtain ⟨r, hr⟩ := B.cut
  obtain ⟨c, y, hz, hc⟩ := B.z0
  obtain ⟨q, hq⟩ := B.last
  have ha := B.asc
  have hl := B.len
  have A := edL_asc ha hl
  have h1 : asc (46 :: a) := asc_cons (by decide) ha
  have h2 : asc (119 :: 46 :: a) := asc_cons (by decide) h1
  have z1 : asc z := fun d hd => ha d (by rw [hr]; exact List.mem_append.mpr (.inl hd))
  have zl : z.length ≤ 60 := by rw [hr, List.length_append] at hl; omega
  have m46 : 46 ∈ a := by rw [hr]; exact List.mem_append.mpr (.inr (List.mem_cons_self ..))
  have w1 : 46 ∉ [119] := by decide
  have r1 : asc (a.map (repC 46 45)) := asc_map ha fun c h => by unfold repC; split <;> omega
  have r2 : Txt.replace (tx a) (Str.ofString ".") (Str.ofString "-") = tx (a.map (repC 46 45)) := by rw [dot_tx, minus_tx]; exact replace_tx a 46 45
  have r3 : 46 ∉ a.map (repC 46 45) := fun m => by
    obtain ⟨d, _, e⟩ := List.mem_map.mp m
    unfold repC at e
    split at e
    · cases e
    · rename_i hd; exact hd e
  have r4 : a.map (repC 46 45) ≠ lcl := fun e => by
    have : 45 ∈ a.map (repC 46 45) := List.mem_map.mpr ⟨46, m46, rfl⟩
    rw [e] at this
    revert this; decide
  have al : alone (tx (119 :: 46 :: a)) (tx z) = [tx ([119] ++ 46 :: a.map (repC 46 45)), tx (z ++ 46 :: [76, 79, 67, 65, 76]), tx ([119] ++ 46 :: (a ++ [46])), tx ([119] ++ 46 :: (a ++ [46, 55]))] := by
    unfold alone
    rw [bare_tx, r2, wdot_tx, LOC_tx, dot7_tx, dot_tx]
    simp only [tx_app]; rfl
  have h7 : tx (119 :: 46 :: a) ++ Str.ofString "7" = tx ([119] ++ 46 :: (a ++ [55])) := by rw [seven_tx, tx_app]; rfl
  have c46 : ∀ {l : List Nat}, asc l → asc (46 :: l) := fun h => asc_cons (by decide) h
  have c119 : ∀ {l : List Nat}, asc l → asc (119 :: l) := fun h => asc_cons (by decide) h
  have h5 : asc [46, 55] := by unfold asc; decide
  have h6 : asc [55] := by unfold asc; decide
  have h8 : asc [46] := by unfold asc; decide
  have h9 : asc (46 :: [76, 79, 67, 65, 76]) := by unfold asc; decide
  have big : ∀ {l : List Nat}, asc l → l.length ≤ 900 → (tx l).length ≤ 900 ∧ PyData.strOk (tx l) = true ∧ (Txt.slice (tx l) (some (Txt.find (tx l) (Str.ofString ".") + 1)) none).length ≤ 900 :=
    fun h hl => ⟨by rw [tx_len]; exact hl, ok_tx h, Nat.le_trans (Txt.slice_le _ _ _) (by rw [tx_len]; exact hl)⟩
  refine Edge.mk (by rw [tx_len]; simp; omega) (ok_tx h2) (by rw [bare_tx, tx_len]; omega) (by rw [own1_tx, tx_len]; simp; omega) ?_ ?_ ?_ ?_ (edge_udm B) (by rw [bare_tx, r2]; exact ok_tx r1) (by rw [bare_tx, r2, tx_len, List.length_map]; omega) ?_ ?_ (ok_tx z1) (by rw [tx_len]; omega) ?_ ?_ ?_
  · rw [bare_tx, upper_tx ha, tx_len, List.length_map]
    exact ⟨by omega, ok_tx (asc_map ha upC_lt)⟩
  · rw [upper_tx h2, tx_len, List.length_map]
    exact ⟨by simp; omega, ok_tx (asc_map h2 upC_lt)⟩
  · rw [own1_tx, upper_tx h1, tx_len, List.length_map]
    exact ⟨by simp; omega, ok_tx (asc_map h1 upC_lt)⟩
  · intro k hk
    rw [edP_tx ha]
    have : ∀ p ∈ (edL a).map (fun p => (tx p.1, tx p.2)), Tame p.1 ∧ Tame p.2 := fun p hp => by
      obtain ⟨p', hp', rfl⟩ := List.mem_map.mp hp
      have := A p' hp'
      exact ⟨tame_tx this.1.1 this.1.2, tame_tx this.2.1 this.2.2⟩
    exact this _ (getP_in (l := (edL a).map fun p => (tx p.1, tx p.2)) (i := k) hk)
  · rw [bare_tx, tx_len]
    refine Nat.le_trans (parts_le _ _ _ _) ?_
    have sz : sizeLine = 16777216 := by decide +kernel
    omega
  · rw [bare_tx, hr, dot_tx]; exact split_tx B.zdot
  · intro x hx
    rw [h7, al] at hx
    simp only [List.mem_cons, List.not_mem_nil, or_false] at hx
    rcases hx with rfl | rfl | rfl | rfl | rfl | rfl
    · exact big h2 (by simp; omega)
    · exact big (c119 (c46 (asc_app ha h6))) (by simp; omega)
    · exact big (c119 (c46 r1)) (by simp; omega)
    · exact big (asc_app z1 h9) (by simp; omega)
    · exact big (c119 (c46 (asc_app ha h8))) (by simp; omega)
    · exact big (c119 (c46 (asc_app ha h5))) (by simp; omega)
  · rw [al]
    have q3 : (119 :: 46 :: a) ++ [46] = [119] ++ 46 :: (a ++ [46]) := rfl
    have q4 : (119 :: 46 :: a) ++ [46, 55] = [119] ++ 46 :: (a ++ [46, 55]) := rfl
    have e1 := reach_low (z := [119]) w1 r3 r4
    have e2 := reach_low (z := z) (r := [76, 79, 67, 65, 76]) B.zdot (by decide) (by decide)
    have e3 := reach_hd (z := [119]) (r := a ++ [46]) w1 (q3 ▸ hdn_dot (119 :: 46 :: a))
    have e4 := reach_hd (z := [119]) (r := a ++ [46, 55]) w1 (q4 ▸ hdn_num (num_7 (119 :: 46 :: a)))
    simp only [List.map_cons, List.map_nil, e1, e2, e3, e4]
  · rw [own1_tx, h7]
    have q5 : [119] ++ 46 :: a = (119 :: 46 :: q) ++ [108] := by rw [hq]; rfl
    have q6 : [119] ++ 46 :: (a ++ [55]) = (119 :: 46 :: q) ++ [108, 55] := by rw [hq, List.append_assoc]; rfl
    have q7 : [119] ++ 46 :: a = 119 :: 46 :: a := rfl
    have q8 : [119] ++ 46 :: (a ++ [55]) = 119 :: 46 :: (a ++ [55]) := rfl
    have q9 : 119 :: 46 :: (a ++ [55]) = (119 :: 46 :: a) ++ [55] := rfl
    have q10 : (46 :: a) ++ [55] = 46 :: (a ++ [55]) := rfl
    have n2 : Re.isNum (tx ([119] ++ 46 :: a)).cps = false := q5 ▸ num_l (119 :: 46 :: q)
    have n4 : Re.isNum (tx ([119] ++ 46 :: (a ++ [55]))).cps = false := q6 ▸ num_l7 (119 :: 46 :: q)
    have d1 : hdn (tx ([119] ++ 46 :: a)) = true := by
      rw [q7] at n2 q5 ⊢
      exact hdn_yes q5 (by decide) (by decide) n2
    have d2 : hdn (tx ([119] ++ 46 :: (a ++ [55]))) = true := by
      rw [q8] at n4 ⊢
      exact hdn_yes q9 (by decide) (by decide) n4
    have e1 := reach_up (z := [119]) (r := a) w1 d1 (.inl m46)
    have e2 := reach_up (z := [119]) (r := a ++ [55]) w1 d2 (.inl (List.mem_append.mpr (.inl m46)))
    rw [q7] at e1
    rw [e1, e2, seven_tx, tx_app, q10]
end Mine
end
section
open PySem PySem.W PyProof.Rows PySem.Calls PySem.Spec
open PySem.Builtin PySem.Builtin.Str
set_option maxRecDepth 100000
namespace Mine
theorem us_tx : Str.ofString "_" = tx [95] := by decide +kernel
theorem us2_tx : Str.ofString "__" = tx [95, 95] := by decide +kernel
theorem us2x_tx : Str.ofString "__x" = tx [95, 95, 120] := by decide +kernel
theorem us3x_tx : Str.ofString "___x" = tx [95, 95, 95, 120] := by decide +kernel
theorem us3_tx : Str.ofString "___" = tx [95, 95, 95] := by decide +kernel
theorem x_tx : Str.ofString "x" = tx [120] := by decide +kernel
theorem plus_tx : Str.ofString "+" = tx [43] := by decide +kernel
theorem Q_tx : Str.ofString "Q" = tx [81] := by decide +kernel
theorem pat_tx (c : List Nat) : pat (tx c) = tx (95 :: (c ++ [95, 95])) := by
  unfold pat; rw [us_tx, us2_tx, tx_app, tx_app]; rfl
/-- what the program's _is_private says, on lists -/
def privL (c m : List Nat) : Bool := (95 :: (c ++ [95, 95])).isPrefixOf m && decide (c.length + 3 < m.length)
theorem priv_tx (c q : List Nat) (x y : Nat) : isPriv (tx c) (tx (q ++ [x, y])) = (privL c (q ++ [x, y]) && !(decide (x = 95) && decide (y = 95))) := by
  have e1 : Txt.item (tx (q ++ [x, y])) (-1) = tx [y] := by
    rw [show q ++ [x, y] = (q ++ [x]) ++ [y] by simp]; exact item_last _ _
  have e2 : Txt.startswith (tx (q ++ [x, y])) (tx (95 :: (c ++ [95, 95]))) = (95 :: (c ++ [95, 95])).isPrefixOf (q ++ [x, y]) := by
    rw [Bool.eq_iff_iff, starts_tx, List.isPrefixOf_iff_prefix]
  unfold isPriv
  rw [pat_tx, e1, item_last2, e2, us_tx, eqD_tx, eqD_tx, tx_len, tx_len]
  unfold privL
  have e3 : decide (((q ++ [x, y]).length : Int) > ((95 :: (c ++ [95, 95])).length : Int)) = decide (c.length + 3 < (q ++ [x, y]).length) := by
    rw [Bool.eq_iff_iff, decide_eq_true_eq, decide_eq_true_eq]
    simp only [List.length_cons, List.length_append, List.length_nil]; omega
  rw [e3]
  by_cases h1 : x = 95 <;> by_cases h2 : y = 95 <;> simp [h1, h2, Bool.and_comm]
/-! the classes' tree -/
def clsL (s : Nat → Nat) : Nat → List (List Nat)
  | 0 => [[81]]
  | i + 1 => clsL s i ++ [(clsL s i).getD i [] ++ [95, 95, s (dpt i)], (clsL s i).getD i [] ++ [95, 95, s (dpt i), 95, s (dpt i)]]
theorem getD_map_tx (l : List (List Nat)) (i : Nat) : (l.map tx).getD i e0 = tx (l.getD i []) := by
  rw [List.getD_eq_getElem?_getD, List.getD_eq_getElem?_getD, List.getElem?_map]
  cases l[i]? with
  | none => exact emp_tx
  | some x => rfl
theorem clsS_tx {sg : Nat → Str} {s : Nat → Nat} (h : ∀ k, sg k = tx [s k]) : ∀ i, clsS sg i = (clsL s i).map tx
  | 0 => by unfold clsS clsL; rw [Q_tx]; rfl
  | i + 1 => by
    unfold clsS clsL
    rw [clsS_tx h i, getD_map_tx, h, us2_tx, us_tx, tx_app, tx_app, tx_app, tx_app, List.map_append]
    simp
def nameL (k : Nat) (c : List Nat) : List Nat := 95 :: (c ++ [95, 95, 120]) ++ List.replicate (k % 2) 95
theorem mul_tx : ∀ k : Nat, k < 2 → Txt.mul (Str.ofString "_") (k : Int) = tx (List.replicate k 95)
  | 0, _ | 1, _ => by decide +kernel
theorem hname_tx (k : Nat) (c : List Nat) : hname k (tx c) = tx (nameL k c) := by
  unfold hname nameL
  have e : (k : Int).fmod 2 = ((k % 2 : Nat) : Int) := by
    rw [Int.fmod_eq_emod_of_nonneg _ (by decide)]; rfl
  rw [e, mul_tx _ (Nat.mod_lt _ (by decide)), us_tx, us2x_tx, tx_app, tx_app, tx_app]; rfl
def cls15 (a b c : Nat) : List (List Nat) := [[81], [81, 95, 95, a], [81, 95, 95, a, 95, a], [81, 95, 95, a, 95, 95, b], [81, 95, 95, a, 95, 95, b, 95, b], [81, 95, 95, a, 95, a, 95, 95, b], [81, 95, 95, a, 95, a, 95, 95, b, 95, b],
  [81, 95, 95, a, 95, 95, b, 95, 95, c], [81, 95, 95, a, 95, 95, b, 95, 95, c, 95, c], [81, 95, 95, a, 95, 95, b, 95, b, 95, 95, c], [81, 95, 95, a, 95, 95, b, 95, b, 95, 95, c, 95, c],
  [81, 95, 95, a, 95, a, 95, 95, b, 95, 95, c], [81, 95, 95, a, 95, a, 95, 95, b, 95, 95, c, 95, c], [81, 95, 95, a, 95, a, 95, 95, b, 95, b, 95, 95, c], [81, 95, 95, a, 95, a, 95, 95, b, 95, b, 95, 95, c, 95, c]]
theorem cls15_eq (s : Nat → Nat) : clsL s 7 = cls15 (s 0) (s 1) (s 2) := rfl
def names8 (a b c : Nat) : List (List Nat) := ((cls15 a b c).drop 7).mapIdx nameL
/-- the names that the classes hide -/
def hid15 : List (List Bool) := [[true, true, true, true, true, true, true, true], [true, true, true, true, false, false, false, false], [false, false, false, false, true, true, true, true],
  [true, true, false, false, false, false, false, false], [false, false, true, true, false, false, false, false], [false, false, false, false, true, true, false, false], [false, false, false, false, false, false, true, true],
  [true, false, false, false, false, false, false, false], [false, true, false, false, false, false, false, false], [false, false, true, false, false, false, false, false], [false, false, false, true, false, false, false, false],
  [false, false, false, false, true, false, false, false], [false, false, false, false, false, true, false, false], [false, false, false, false, false, false, true, false], [false, false, false, false, false, false, false, true]]
theorem hid_table {a b c : Nat} (ha : a ≠ 95) (hb : b ≠ 95) (hc : c ≠ 95) : (cls15 a b c).map (fun x => (names8 a b c).map (privL x)) = hid15 := by
  have a1 := Ne.symm ha
  have b1 := Ne.symm hb
  have c1 := Ne.symm hc
  simp [cls15, names8, nameL, hid15, privL, List.isPrefixOf, ha, hb, hc, a1, b1, c1]
end Mine
end
section
open PySem PySem.W PyProof.Rows PySem.Calls PySem.Spec
open PySem.Builtin PySem.Builtin.Str
set_option maxRecDepth 100000
namespace Mine
def sg (N : Int) (k : Nat) : Nat := (Txt.charAt signsS (dig N (k + 3))).getD 0
theorem sgn_tx (N : Int) (k : Nat) : sgn N k = tx [sg N k] := item_of (sgn_at N k)
theorem signs_ok : ∀ j : Fin 8, (Txt.charAt signsS (j.val : Int)).getD 0 ≠ 95 ∧ (Txt.charAt signsS (j.val : Int)).getD 0 < 128 := by decide +kernel
theorem sg_ok (N : Int) (k : Nat) : sg N k ≠ 95 ∧ sg N k < 128 := by
  have h1 := dig_lo N (k + 3)
  have h2 := dig_hi N (k + 3)
  have := signs_ok ⟨(dig N (k + 3)).toNat, by omega⟩
  simp only [Int.toNat_of_nonneg h1] at this
  exact this
theorem cls_tx (N : Int) : clsS (sgn N) 7 = (cls15 (sg N 0) (sg N 1) (sg N 2)).map tx := by rw [clsS_tx (sgn_tx N), cls15_eq]
theorem names_tx (N : Int) : hnames (clsS (sgn N) 7) = (names8 (sg N 0) (sg N 1) (sg N 2)).map tx := by
  unfold hnames names8
  rw [cls_tx, ← List.map_drop]
  apply List.ext_getElem?
  intro i
  simp only [List.getElem?_mapIdx, List.getElem?_map]
  cases ((cls15 (sg N 0) (sg N 1) (sg N 2)).drop 7)[i]? with
  | none => rfl
  | some x => exact congrArg some (hname_tx i x)
/-- the names that the class hides -/
def grpS (ms : List Str) (x : Str) : List Nat := (List.range 8).filter fun k => isPriv x (ms.getD k e0)
theorem hidL_nts (c : Str) (ms : List Str) : hidL c ms = nts (grpS ms c) := by
  have e : i8 = nts (List.range 8) := rfl
  unfold hidL grpS
  rw [e, List.map_id']
  unfold nts
  rw [List.filter_map]
  congr 1
  apply List.filter_congr
  intro x _
  show isD (.bool (isPriv c (ms.getD (x : Int).toNat e0))) (.bool true) = _
  rw [Int.toNat_natCast]
  cases isPriv c (ms.getD x e0) <;> rfl
theorem dget_cons (p : Str × D) (kvs : List (Str × D)) (x : Str) : dget (p :: kvs) x = if p.1 = x then some p.2 else dget kvs x := by
  unfold dget
  rw [List.find?_cons]
  by_cases h : p.1 = x <;> simp [h]
theorem dget_store (k : Str) (v : D) (x : Str) : ∀ kvs : List (Str × D), dget (kvs.map fun kv => if kv.1 = k then (kv.1, v) else kv) x = if k = x then (dget kvs x).map (fun _ => v) else dget kvs x
  | [] => by by_cases h : k = x <;> simp [h, dget]
  | p :: kvs => by
    rw [List.map_cons, dget_cons, dget_cons, dget_store k v x kvs]
    by_cases h1 : p.1 = k <;> by_cases h2 : k = x
    · subst h2; simp [h1]
    · simp [h1, h2]
    · subst h2; simp [h1]
    · have h4 : ¬ x = k := fun e => h2 e.symm
      by_cases h3 : p.1 = x <;> simp [h1, h2, h3, h4]
theorem dget_snoc (k : Str) (v : D) (x : Str) : ∀ kvs : List (Str × D), dget (kvs ++ [(k, v)]) x = match dget kvs x with
    | some d => some d
    | none => if k = x then some v else none
  | [] => by
    show dget [(k, v)] x = _
    rw [dget_cons]
    rfl
  | p :: kvs => by
    rw [List.cons_append, dget_cons, dget_cons, dget_snoc k v x kvs]
    by_cases h : p.1 = x <;> simp [h]
theorem any_dget (k : Str) : ∀ kvs : List (Str × D), kvs.any (fun kv => kv.1 = k) = (dget kvs k).isSome
  | [] => rfl
  | p :: kvs => by
    rw [List.any_cons, dget_cons, any_dget k kvs]
    by_cases h : p.1 = k <;> simp [h]
theorem dget_dput (kvs : List (Str × D)) (k x : Str) (d : D) : dget (dput kvs k d) x = if k = x then some d else dget kvs x := by
  unfold dput
  rw [any_dget]
  cases e : dget kvs k with
  | some d' =>
    simp only [Option.isSome_some, if_true]
    rw [dget_store]
    by_cases h : k = x
    · subst h; simp [e]
    · simp [h]
  | none =>
    simp only [Option.isSome_none, Bool.false_eq_true, if_false]
    rw [dget_snoc]
    by_cases h : k = x
    · subst h; simp [e]
    · simp only [h, if_false]; cases dget kvs x <;> rfl
theorem dget_fold (g : Str → D) (x : Str) : ∀ (ds : List Str) (kvs : List (Str × D)), dget (ds.foldl (fun kvs d => dput kvs d (g d)) kvs) x = if x ∈ ds then some (g x) else dget kvs x
  | [], kvs => by simp
  | d :: ds, kvs => by
    rw [List.foldl_cons, dget_fold g x ds, dget_dput]
    by_cases h1 : x ∈ ds
    · simp [h1]
    · by_cases h2 : d = x
      · subst h2; simp [h1]
      · have : ¬ x = d := fun e => h2 e.symm
        simp [h1, h2, this]
theorem hid_get {cs ms : List Str} {x : Str} (h : x ∈ cs) : dget (hidD cs ms) x = some (.list (nts (grpS ms x))) := by
  unfold hidD
  rw [dget_fold (fun c => .list (hidL c ms)) x cs [], if_pos h, hidL_nts]
theorem grpS_ok (ms : List Str) (x : Str) : (grpS ms x).length ≤ 8 ∧ ∀ y ∈ grpS ms x, y < 8 := by
  unfold grpS
  refine ⟨Nat.le_trans (List.length_filter_le _ _) (by simp), fun y hy => ?_⟩
  have := (List.mem_filter.mp hy).1
  simpa using this
/-! the groups -/
theorem priv_name (c d : List Nat) (k : Nat) : isPriv (tx c) (tx (nameL k d)) = privL c (nameL k d) := by
  have h : k % 2 = 0 ∨ k % 2 = 1 := by omega
  rcases h with h | h
  · have e : nameL k d = (95 :: (d ++ [95])) ++ [95, 120] := by unfold nameL; rw [h]; simp
    rw [e, priv_tx]; simp
  · have e : nameL k d = (95 :: (d ++ [95, 95])) ++ [120, 95] := by unfold nameL; rw [h]; simp
    rw [e, priv_tx]; simp
def grpB (row : List Bool) : List Nat := (List.range 8).filter fun k => row.getD k false
theorem grp_row (a b c : Nat) (x : List Nat) : grpS ((names8 a b c).map tx) (tx x) = grpB ((names8 a b c).map (privL x)) := by
  unfold grpS grpB
  apply List.filter_congr
  intro k hk
  rw [getD_map_tx]
  have h8 : k < (names8 a b c).length := by
    have : (names8 a b c).length = 8 := rfl
    rw [this]; simpa using hk
  have e1 : (names8 a b c).getD k [] = (names8 a b c)[k] := by rw [List.getD_eq_getElem?_getD, List.getElem?_eq_getElem h8]; rfl
  have e2 : ((names8 a b c).map (privL x)).getD k false = privL x (names8 a b c)[k] := by rw [List.getD_eq_getElem?_getD, List.getElem?_map, List.getElem?_eq_getElem h8]; rfl
  rw [e1, e2]
  obtain ⟨d, hd⟩ : ∃ d, (names8 a b c)[k] = nameL k d := by
    have h : (names8 a b c)[k]? = ((cls15 a b c).drop 7)[k]?.map (nameL k) := List.getElem?_mapIdx
    rw [List.getElem?_eq_getElem h8] at h
    cases e : ((cls15 a b c).drop 7)[k]? with
    | none => rw [e] at h; cases h
    | some d => rw [e] at h; exact ⟨d, Option.some.inj h⟩
  rw [hd, priv_name]
def grp15 : List (List Nat) := [[0, 1, 2, 3, 4, 5, 6, 7], [0, 1, 2, 3], [4, 5, 6, 7], [0, 1], [2, 3], [4, 5], [6, 7], [0], [1], [2], [3], [4], [5], [6], [7]]
theorem grp_table (N : Int) : (clsS (sgn N) 7).map (grpS (hnames (clsS (sgn N) 7))) = grp15 := by
  rw [names_tx, cls_tx, List.map_map]
  have e : (cls15 (sg N 0) (sg N 1) (sg N 2)).map (grpS ((names8 (sg N 0) (sg N 1) (sg N 2)).map tx) ∘ tx) = ((cls15 (sg N 0) (sg N 1) (sg N 2)).map fun x => (names8 (sg N 0) (sg N 1) (sg N 2)).map (privL x)).map grpB := by
    rw [List.map_map]
    apply List.map_congr_left
    intro x _
    exact grp_row _ _ _ x
  rw [e, hid_table (sg_ok N 0).1 (sg_ok N 1).1 (sg_ok N 2).1]
  decide
/-! what else is told of the classes -/
theorem cls15_ok {a b c : Nat} (ha : a < 128) (hb : b < 128) (hc : c < 128) : ∀ x ∈ cls15 a b c, asc x ∧ x.length ≤ 60 ∧ ∃ t, x = 81 :: t := by
  have h : (cls15 a b c).all (fun x => x.all (fun d => decide (d < 128)) && decide (x.length ≤ 60) && (x.head? == some 81)) = true := by simp [cls15, ha, hb, hc]
  intro x hx
  have := List.all_eq_true.mp h x hx
  simp only [Bool.and_eq_true, List.all_eq_true, decide_eq_true_eq, beq_iff_eq] at this
  refine ⟨this.1.1, this.1.2, ?_⟩
  cases x with
  | nil => have := this.2; cases this
  | cons d t =>
    have := this.2
    cases this
    exact ⟨t, rfl⟩
theorem cls_at {N : Int} {x : Str} (h : x ∈ clsS (sgn N) 7) : ∃ l, x = tx l ∧ asc l ∧ l.length ≤ 60 ∧ ∃ t, l = 81 :: t := by
  rw [cls_tx] at h
  obtain ⟨l, hl, rfl⟩ := List.mem_map.mp h
  exact ⟨l, rfl, cls15_ok (sg_ok N 0).2 (sg_ok N 1).2 (sg_ok N 2).2 l hl⟩
theorem priv_none {N : Int} {p : Nat} : ∀ x ∈ clsS (sgn N) 7, isPriv x ((hnames (clsS (sgn N) 7)).getD p e0 ++ Str.ofString "__") = false := by
  intro x hx
  obtain ⟨l, rfl, _⟩ := cls_at hx
  rw [names_tx, getD_map_tx, us2_tx, tx_app, priv_tx]; simp
theorem corn_of {c : List Nat} {t : List Nat} (h : asc c) (hl : c.length ≤ 60) (e : c = 81 :: t) : CornOk (tx c) := by
  have rc : ∀ d, d < 128 → repC 46 43 d < 128 := fun d h => by unfold repC; split <;> omega
  have er : Txt.replace (tx c) (Str.ofString ".") (Str.ofString "+") = tx (c.map (repC 46 43)) := by rw [dot_tx, plus_tx]; exact replace_tx c 46 43
  refine CornOk.mk (by rw [tx_len]; omega) (ok_tx h) (by rw [lower_tx h, tx_len, List.length_map]; omega) (by rw [lower_tx h]; exact ok_tx (asc_map h loC_lt)) (by rw [er, tx_len, List.length_map]; omega) (by rw [er]; exact ok_tx (asc_map h rc)) ?_
  have pre : ∀ l m : List Nat, l.isPrefixOf (l ++ m) = true := fun l m => List.isPrefixOf_iff_prefix.mpr (List.prefix_append l m)
  intro k hk
  match k, hk with
  | 0, _ =>
    show isPriv (tx c) (Str.ofString "_" ++ tx c ++ Str.ofString "___x") = true
    rw [us_tx, us3x_tx, tx_app, tx_app]
    have e1 : [95] ++ c ++ [95, 95, 95, 120] = (95 :: (c ++ [95, 95])) ++ [95, 120] := by simp
    rw [e1, priv_tx]
    unfold privL
    rw [pre]; simp
  | 1, _ =>
    show isPriv (Str.ofString "_" ++ tx c) (Str.ofString "__" ++ tx c ++ Str.ofString "__x") = true
    rw [us_tx, us2_tx, us2x_tx, tx_app, tx_app, tx_app]
    have e1 : [95, 95] ++ c ++ [95, 95, 120] = (95 :: 95 :: (c ++ [95])) ++ [95, 120] := by simp
    have e2 : (95 :: 95 :: (c ++ [95])) ++ [95, 120] = (95 :: ([95] ++ c ++ [95, 95])) ++ [120] := by simp
    rw [e1, priv_tx]
    unfold privL
    rw [e2, pre]; simp
  | 2, _ =>
    show isPriv (Str.ofString "_" ++ tx c) (Str.ofString "_" ++ tx c ++ Str.ofString "__x") = false
    rw [us_tx, us2x_tx, tx_app, tx_app]
    have e1 : [95] ++ c ++ [95, 95, 120] = (95 :: (c ++ [95])) ++ [95, 120] := by simp
    rw [e1, priv_tx]
    unfold privL
    simp [e, List.isPrefixOf]
  | 3, _ =>
    show isPriv (Txt.lower (tx c)) (Str.ofString "_" ++ tx c ++ Str.ofString "__x") = false
    rw [us_tx, us2x_tx, tx_app, tx_app, lower_tx h]
    have e1 : [95] ++ c ++ [95, 95, 120] = (95 :: (c ++ [95])) ++ [95, 120] := by simp
    have e2 : loC 81 = 113 := rfl
    rw [e1, priv_tx]
    unfold privL
    simp [e, e2, List.isPrefixOf]
  | 4, _ =>
    show isPriv (tx c) (Str.ofString "_" ++ tx c ++ Str.ofString "___") = false
    rw [us_tx, us3_tx, tx_app, tx_app]
    have e1 : [95] ++ c ++ [95, 95, 95] = (95 :: (c ++ [95])) ++ [95, 95] := by simp
    rw [e1, priv_tx]; simp
  | 5, _ =>
    show isPriv (tx c) (Str.ofString "x" ++ tx c ++ Str.ofString "__x") = false
    rw [x_tx, us2x_tx, tx_app, tx_app]
    have e1 : [120] ++ c ++ [95, 95, 120] = (120 :: (c ++ [95])) ++ [95, 120] := by simp
    rw [e1, priv_tx]
    unfold privL
    simp [List.isPrefixOf]
  | 6, _ =>
    show isPriv (tx c) (Str.ofString "__" ++ tx c ++ Str.ofString "__x") = false
    rw [us2_tx, us2x_tx, tx_app, tx_app]
    have e1 : [95, 95] ++ c ++ [95, 95, 120] = (95 :: 95 :: (c ++ [95])) ++ [95, 120] := by simp
    rw [e1, priv_tx]
    unfold privL
    simp [e, List.isPrefixOf]
  | 7, _ =>
    show isPriv (tx c) (Str.ofString "_" ++ Txt.replace (tx c) (Str.ofString ".") (Str.ofString "+") ++ Str.ofString "__x") = !Txt.contains (tx c) (Str.ofString ".")
    rw [er, us_tx, us2x_tx, tx_app, tx_app, dot_tx, contains_tx]
    have e1 : [95] ++ c.map (repC 46 43) ++ [95, 95, 120] = (95 :: (c.map (repC 46 43) ++ [95])) ++ [95, 120] := by simp
    have e2 : (95 :: (c.map (repC 46 43) ++ [95])) ++ [95, 120] = (95 :: (c.map (repC 46 43) ++ [95, 95])) ++ [120] := by simp
    rw [e1, priv_tx]
    unfold privL
    by_cases hm : 46 ∈ c
    · have hp : (95 :: (c ++ [95, 95])).isPrefixOf ((95 :: (c.map (repC 46 43) ++ [95])) ++ [95, 120]) = false := by
        refine bool_not List.isPrefixOf_iff_prefix fun hpre => ?_
        rw [e2] at hpre
        obtain ⟨u, hu⟩ := hpre
        have h1 : c ++ ([95, 95] ++ u) = c.map (repC 46 43) ++ ([95, 95] ++ [120]) := by
          simpa using hu
        have h2 := (List.append_inj h1 (by simp)).1
        rw [h2] at hm
        obtain ⟨d, _, hd⟩ := List.mem_map.mp hm
        unfold repC at hd
        split at hd
        · cases hd
        · rename_i hx; exact hx hd
      rw [hp]; simp [hm]
    · have := rep_free 46 43 c hm
      rw [this] at e1 e2 ⊢
      rw [e2, pre]; simp [hm]
end Mine
end
section
open PySem PySem.W PyProof.Rows PySem.Calls PySem.Spec
set_option maxRecDepth 100000
namespace Mine
/-! the colouring -/
def gt (l : List D) (x : Nat) : D := l.getD x .none
theorem gt_set (l : List D) (y : Nat) (d : D) (hy : y < l.length) (x : Nat) : gt (l.set y d) x = if x = y then d else gt l x := by
  unfold gt
  rw [List.getD_eq_getElem?_getD, List.getD_eq_getElem?_getD, List.getElem?_set]
  by_cases h : y = x
  · subst h; simp [hy]
  · have : ¬ x = y := fun e => h e.symm
    simp [h, this]
def Bit (v : Int) : Prop := v = 0 ∨ v = 1
def Cd (l : List D) (x : Nat) : Prop := ∃ v : Int, Bit v ∧ gt l x = .int v
def Pr (l : List D) (x y : Nat) : Prop := ∃ v : Int, Bit v ∧ gt l x = .int v ∧ gt l y = .int (1 - v)
theorem Pr.right {l : List D} {x y : Nat} (h : Pr l x y) : Cd l y := by
  obtain ⟨v, hv, _, h2⟩ := h
  exact ⟨1 - v, by unfold Bit at hv ⊢; omega, h2⟩
theorem Cd.ne {l : List D} {x y : Nat} (h : Cd l x) (h' : gt l y = .none) : x ≠ y := fun e => by
  obtain ⟨v, _, h1⟩ := h
  rw [e, h'] at h1; cases h1
structure Mate (f : List Nat) : Prop where
  len : f.length = 8
  lt : ∀ x, x < 8 → f.getD x 0 < 8
  inv : ∀ x, x < 8 → f.getD (f.getD x 0) 0 = x
  ne : ∀ x, x < 8 → f.getD x 0 ≠ x
structure Good (f s : List Nat) (l : List D) : Prop where
  len : l.length = 8
  or : ∀ x, x < 8 → Cd l x ∨ gt l x = .none
  fc : ∀ x, x < 8 → Cd l x → Pr l x (f.getD x 0)
  sc : ∀ x, x < 8 → Cd l x → Pr l x (s.getD x 0)
structure Wk (f s : List Nat) (b : Int) (l : List D) (x0 z y : Nat) : Prop where
  len : l.length = 8
  or : ∀ x, x < 8 → Cd l x ∨ gt l x = .none
  fc : ∀ x, x < 8 → Cd l x → Pr l x (f.getD x 0)
  x8 : x0 < 8
  z8 : z < 8
  cx : gt l x0 = .int b
  cz : gt l z = .int (1 - b)
  yz : y = s.getD z 0
  sc : ∀ x, x < 8 → Cd l x → x ≠ x0 → x ≠ z → Pr l x (s.getD x 0) ∧ s.getD x 0 ≠ x0 ∧ s.getD x 0 ≠ z
section
variable {f s : List Nat} (F : Mate f) (S : Mate s) {b : Int} (hb : Bit b)
def put (f : List Nat) (b : Int) (l : List D) (y : Nat) : List D := (l.set y (.int b)).set (f.getD y 0) (.int (1 - b))
include F in
theorem put_at {l : List D} {y : Nat} (hl : l.length = 8) (hy : y < 8) (x : Nat) : gt (put f b l y) x = if x = f.getD y 0 then .int (1 - b) else if x = y then .int b else gt l x := by
  unfold put
  rw [gt_set _ _ _ (by rw [List.length_set, hl]; exact F.lt y hy), gt_set _ _ _ (by omega)]
include F hb in
/-- a letter without a colour and its mate get theirs -/
theorem put_ok {l : List D} {y : Nat} (hl : l.length = 8) (hor : ∀ x, x < 8 → Cd l x ∨ gt l x = .none) (hfc : ∀ x, x < 8 → Cd l x → Pr l x (f.getD x 0)) (hy : y < 8) (un : gt l y = .none) :
    gt l (f.getD y 0) = .none ∧ (∀ x, x < 8 → Cd (put f b l y) x ∨ gt (put f b l y) x = .none) ∧ (∀ x, x < 8 → Cd (put f b l y) x → Pr (put f b l y) x (f.getD x 0)) ∧
    (∀ x, Cd l x → gt (put f b l y) x = gt l x) ∧ (∀ x, x < 8 → Cd (put f b l y) x → x = y ∨ x = f.getD y 0 ∨ Cd l x) := by
  have hf := F.lt y hy
  have hne := F.ne y hy
  have unf : gt l (f.getD y 0) = .none := by
    rcases hor _ hf with h | h
    · have := (hfc _ hf h).right
      rw [F.inv y hy] at this
      exact absurd rfl (this.ne un)
    · exact h
  have A := put_at F (b := b) hl hy
  have same : ∀ x, Cd l x → gt (put f b l y) x = gt l x := fun x h => by
    rw [A, if_neg (h.ne unf), if_neg (h.ne un)]
  have b1 : Bit (1 - b) := by unfold Bit at hb ⊢; omega
  have fr : ∀ x, x < 8 → Cd (put f b l y) x → x = y ∨ x = f.getD y 0 ∨ Cd l x := fun x hx h => by
    by_cases h1 : x = y
    · exact .inl h1
    · by_cases h2 : x = f.getD y 0
      · exact .inr (.inl h2)
      · obtain ⟨v, hv, e⟩ := h
        rw [A, if_neg h2, if_neg h1] at e
        exact .inr (.inr ⟨v, hv, e⟩)
  have g1 : gt (put f b l y) y = .int b := by rw [A, if_neg (Ne.symm hne), if_pos rfl]
  have g2 : gt (put f b l y) (f.getD y 0) = .int (1 - b) := by rw [A, if_pos rfl]
  refine ⟨unf, fun x hx => ?_, fun x hx h => ?_, same, fr⟩
  · rw [A]
    by_cases h2 : x = f.getD y 0
    · exact .inl ⟨1 - b, b1, by rw [A, if_pos h2]⟩
    · by_cases h1 : x = y
      · exact .inl ⟨b, hb, by rw [A, if_neg h2, if_pos h1]⟩
      · rw [if_neg h2, if_neg h1]
        rcases hor x hx with h | h
        · obtain ⟨v, hv, e⟩ := h
          exact .inl ⟨v, hv, by rw [A, if_neg h2, if_neg h1]; exact e⟩
        · exact .inr h
  · rcases fr x hx h with rfl | rfl | h
    · exact ⟨b, hb, g1, g2⟩
    · rw [F.inv y hy]
      exact ⟨1 - b, b1, g2, by rw [g1]; congr 1; omega⟩
    · have p := hfc x hx h
      obtain ⟨v, hv, e1, e2⟩ := p
      refine ⟨v, hv, by rw [same x h]; exact e1, ?_⟩
      rw [same _ (Pr.right ⟨v, hv, e1, e2⟩)]; exact e2
include F hb in
theorem Wk.start {l : List D} {x0 : Nat} (G : Good f s l) (h8 : x0 < 8) (un : gt l x0 = .none) : Wk f s b (put f b l x0) x0 (f.getD x0 0) (s.getD (f.getD x0 0) 0) := by
  obtain ⟨unf, o1, f1, same, fr⟩ := put_ok F hb G.len G.or G.fc h8 un
  have A := put_at F (b := b) G.len h8
  refine ⟨by unfold put; simp [G.len], o1, f1, h8, F.lt _ h8, by rw [A, if_neg (Ne.symm (F.ne _ h8)), if_pos rfl], by rw [A, if_pos rfl], rfl, fun x hx h h1 h2 => ?_⟩
  rcases fr x hx h with e | e | h
  · exact absurd e h1
  · exact absurd e h2
  · have p := G.sc x hx h
    have q := p.right
    obtain ⟨v, hv, e1, e2⟩ := p
    exact ⟨⟨v, hv, by rw [same x h]; exact e1, by rw [same _ q]; exact e2⟩, q.ne un, q.ne unf⟩
include F S hb in
theorem Wk.step {l : List D} {x0 z y : Nat} (W : Wk f s b l x0 z y) (un : gt l y = .none) : Wk f s b (put f b l y) x0 (f.getD y 0) (s.getD (f.getD y 0) 0) ∧ ∀ x, Cd l x → Cd (put f b l y) x := by
  have hy : y < 8 := W.yz ▸ S.lt _ W.z8
  obtain ⟨unf, o1, f1, same, fr⟩ := put_ok F hb W.len W.or W.fc hy un
  have A := put_at F (b := b) W.len hy
  have b1 : Bit (1 - b) := by unfold Bit at hb ⊢; omega
  have cx : Cd l x0 := ⟨b, hb, W.cx⟩
  have cz : Cd l z := ⟨1 - b, b1, W.cz⟩
  have nzx : z ≠ x0 := fun e => by
    have := W.cz
    rw [e, W.cx] at this
    have t : b = 1 - b := by injection this
    unfold Bit at hb; omega
  have g1 : gt (put f b l y) y = .int b := by rw [A, if_neg (Ne.symm (F.ne _ hy)), if_pos rfl]
  have sy : s.getD y 0 = z := by rw [W.yz]; exact S.inv _ W.z8
  refine ⟨⟨by unfold put; simp [W.len], o1, f1, W.x8, F.lt _ hy, by rw [same _ cx]; exact W.cx, by rw [A, if_pos rfl], rfl, fun x hx h h1 h2 => ?_⟩, fun x h => ?_⟩
  · rcases fr x hx h with rfl | e | h
    · rw [sy]
      exact ⟨⟨b, hb, g1, by rw [same _ cz]; exact W.cz⟩, nzx, cz.ne unf⟩
    · exact absurd e h2
    · by_cases hz : x = z
      · subst hz
        rw [← W.yz]
        exact ⟨⟨1 - b, b1, by rw [same _ cz]; exact W.cz, by rw [g1]; congr 1; omega⟩, fun e => cx.ne un e.symm, Ne.symm (F.ne _ hy)⟩
      · obtain ⟨p, n1, n2⟩ := W.sc x hx h h1 hz
        have q := p.right
        obtain ⟨v, hv, e1, e2⟩ := p
        exact ⟨⟨v, hv, by rw [same x h]; exact e1, by rw [same _ q]; exact e2⟩, n1, q.ne unf⟩
  · obtain ⟨v, hv, e⟩ := h
    exact ⟨v, hv, by rw [same x ⟨v, hv, e⟩]; exact e⟩
include S hb in
theorem Wk.stop {l : List D} {x0 z y : Nat} (W : Wk f s b l x0 z y) (cy : Cd l y) : Good f s l := by
  have hy : y < 8 := W.yz ▸ S.lt _ W.z8
  have sy : s.getD y 0 = z := by rw [W.yz]; exact S.inv _ W.z8
  have b1 : Bit (1 - b) := by unfold Bit at hb ⊢; omega
  have e : y = x0 := by
    by_cases h : y = x0
    · exact h
    · have hz : y ≠ z := by rw [W.yz]; exact S.ne _ W.z8
      exact absurd sy (W.sc y hy cy h hz).2.2
  refine ⟨W.len, W.or, W.fc, fun x hx h => ?_⟩
  by_cases h1 : x = x0
  · subst h1
    rw [← e, sy, e]
    exact ⟨b, hb, W.cx, W.cz⟩
  · by_cases h2 : x = z
    · subst h2
      rw [← W.yz, e]
      exact ⟨1 - b, b1, W.cz, by rw [W.cx]; congr 1; omega⟩
    · exact (W.sc x hx h h1 h2).1
include F S hb in
theorem wlk_run : ∀ (k : Nat) (l : List D) (x0 z y : Nat), cnt l ≤ k → Wk f s b l x0 z y → Good f s (wlk f s b k l y) ∧ ∀ x, Cd l x → Cd (wlk f s b k l y) x
  | 0, l, x0, z, y, hk, W => by
    have hy : y < 8 := W.yz ▸ S.lt _ W.z8
    rcases W.or y hy with h | h
    · exact ⟨W.stop S hb h, fun x h => h⟩
    · have := cnt_set_lt 0 l y (by rw [W.len]; exact hy) (by show isD (gt l y) .none = true; rw [h]; rfl)
      omega
  | k + 1, l, x0, z, y, hk, W => by
    have hy : y < 8 := W.yz ▸ S.lt _ W.z8
    unfold wlk
    rcases W.or y hy with h | h
    · have e : isD (l.getD y .none) .none = false := by
        show isD (gt l y) .none = false
        obtain ⟨v, _, e⟩ := h
        rw [e]; rfl
      rw [e]
      exact ⟨W.stop S hb h, fun x h => h⟩
    · have e : isD (l.getD y .none) .none = true := by show isD (gt l y) .none = true; rw [h]; rfl
      rw [if_pos e]
      have c1 := cnt_set_lt b l y (by rw [W.len]; exact hy) e
      have c2 := cnt_set (1 - b) (l.set y (.int b)) (f.getD y 0)
      obtain ⟨W', kp⟩ := W.step F S hb h
      obtain ⟨G, kp'⟩ := wlk_run k _ x0 _ _ (show cnt (put f b l y) ≤ k by unfold put; omega) W'
      exact ⟨G, fun x h => kp' x (kp x h)⟩
include F S hb in
theorem wlk_first {l : List D} {x0 : Nat} (G : Good f s l) (h8 : x0 < 8) : Good f s (wlk f s b 8 l x0) ∧ (∀ x, Cd l x → Cd (wlk f s b 8 l x0) x) ∧ Cd (wlk f s b 8 l x0) x0 := by
  unfold wlk
  rcases G.or x0 h8 with h | h
  · have e : isD (l.getD x0 .none) .none = false := by
      show isD (gt l x0) .none = false
      obtain ⟨v, _, e⟩ := h
      rw [e]; rfl
    rw [e]
    exact ⟨G, fun x h => h, h⟩
  · have e : isD (l.getD x0 .none) .none = true := by show isD (gt l x0) .none = true; rw [h]; rfl
    rw [if_pos e]
    have c0 := cnt_le l
    have c1 := cnt_set_lt b l x0 (by rw [G.len]; exact h8) e
    have c2 := cnt_set (1 - b) (l.set x0 (.int b)) (f.getD x0 0)
    have W := Wk.start F hb G h8 h
    obtain ⟨_, _, _, same, _⟩ := put_ok F hb G.len G.or G.fc h8 h
    obtain ⟨G', kp⟩ := wlk_run F S hb 7 _ x0 _ _ (show cnt (put f b l x0) ≤ 7 by unfold put; rw [G.len] at c0; omega) W
    exact ⟨G', fun x ⟨v, hv, e⟩ => kp x ⟨v, hv, by rw [same x ⟨v, hv, e⟩]; exact e⟩, kp x0 ⟨b, hb, W.cx⟩⟩
end
theorem good_empty (f s : List Nat) : Good f s (List.replicate 8 .none) := by
  have h : ∀ x, x < 8 → gt (List.replicate 8 D.none) x = .none := fun x hx => by
    unfold gt
    rw [List.getD_eq_getElem?_getD, List.getElem?_replicate]
    simp [hx]
  exact ⟨by simp, fun x hx => .inr (h x hx), fun x hx ⟨v, _, e⟩ => by (rw [h x hx] at e; cases e), fun x hx ⟨v, _, e⟩ => by (rw [h x hx] at e; cases e)⟩
theorem col_good {f s : List Nat} (F : Mate f) (S : Mate s) {bits : List Int} (hb : ∀ x, x < 8 → Bit (bits.getD x 0)) : ∀ i, i ≤ 8 → Good f s (colS f s bits i) ∧ ∀ x, x < i → Cd (colS f s bits i) x
  | 0, _ => ⟨good_empty f s, fun x h => absurd h (Nat.not_lt_zero x)⟩
  | i + 1, h => by
    obtain ⟨G, c⟩ := col_good F S hb i (by omega)
    rw [colS_succ]
    obtain ⟨G', kp, c'⟩ := wlk_first F S (hb i (by omega)) G (show i < 8 by omega)
    refine ⟨G', fun x hx => ?_⟩
    by_cases e : x = i
    · subst e; exact c'
    · exact kp x (c x (by omega))
def natD : D → Nat
  | .int v => v.toNat
  | _ => 0
def colN (f s : List Nat) (bits : List Int) : List Nat := (colS f s bits 8).map natD
theorem col_all {f s : List Nat} (F : Mate f) (S : Mate s) {bits : List Int} (hb : ∀ x, x < 8 → Bit (bits.getD x 0)) :
    colS f s bits 8 = nts (colN f s bits) ∧ (colN f s bits).length = 8 ∧ (∀ x, x < 8 → (colN f s bits).getD x 0 < 2) ∧ (∀ x, x < 8 → (colN f s bits).getD (f.getD x 0) 0 ≠ (colN f s bits).getD x 0) ∧ (∀ x, x < 8 → (colN f s bits).getD (s.getD x 0) 0 ≠ (colN f s bits).getD x 0) := by
  obtain ⟨G, c⟩ := col_good F S hb 8 (Nat.le_refl _)
  generalize hl : colS f s bits 8 = l at G c
  have hN : colN f s bits = l.map natD := by unfold colN; rw [hl]
  rw [hN]
  have len := G.len
  have at_ : ∀ x, x < 8 → (l.map natD).getD x 0 = natD (gt l x) := fun x hx => by
    unfold gt
    rw [List.getD_eq_getElem?_getD, List.getD_eq_getElem?_getD, List.getElem?_map, List.getElem?_eq_getElem (by omega)]; rfl
  have pr : ∀ x y, y < 8 → x < 8 → Pr l x y → (l.map natD).getD y 0 ≠ (l.map natD).getD x 0 := fun x y hy hx ⟨v, hv, e1, e2⟩ => by
    rw [at_ x hx, at_ y hy, e1, e2]
    show (1 - v).toNat ≠ v.toNat
    unfold Bit at hv; omega
  refine ⟨?_, by simp [len], fun x hx => ?_, fun x hx => pr x _ (F.lt x hx) hx (G.fc x hx (c x hx)), fun x hx => pr x _ (S.lt x hx) hx (G.sc x hx (c x hx))⟩
  · unfold nts
    rw [List.map_map]
    apply List.ext_getElem
    · simp
    · intro i h1 h2
      have hi : i < 8 := by omega
      obtain ⟨v, hv, e⟩ := c i hi
      unfold gt at e
      rw [List.getD_eq_getElem?_getD, List.getElem?_eq_getElem h1] at e
      have e' : l[i] = .int v := e
      rw [List.getElem_map, e']
      show D.int v = D.int ((v.toNat : Nat) : Int)
      unfold Bit at hv
      rcases hv with rfl | rfl <;> rfl
  · rw [at_ x hx]
    obtain ⟨v, hv, e⟩ := c x hx
    rw [e]
    show v.toNat < 2
    unfold Bit at hv; omega
end Mine
end
section
open PySem PySem.W PyProof.Rows PySem.Calls PySem.Spec
set_option maxRecDepth 100000
namespace Mine
/-! one of each block and each code -/
structure Inv (κ code : Nat → Nat) (st : Nat) : Prop where
  k8 : ∀ x, x < 8 → κ x < 8
  lt : ∀ x, x < 8 → code x < 2 ^ st
  one : ∀ x y, x < 8 → y < 8 → κ x / 2 ^ st = κ y / 2 ^ st → code x = code y → x = y
  all : ∀ b v, b < 2 ^ (3 - st) → v < 2 ^ st → ∃ x, x < 8 ∧ κ x / 2 ^ st = b ∧ code x = v
def isMate (κ code : Nat → Nat) (st x y : Nat) : Bool := decide (y ≠ x) && (decide (κ y / 2 ^ (st + 1) = κ x / 2 ^ (st + 1)) && decide (code y = code x))
theorem half (a st : Nat) : a / 2 ^ (st + 1) = a / 2 ^ st / 2 := by rw [Nat.pow_succ, Nat.div_div_eq_div_mul]
theorem blk_lt {a st : Nat} (h : a < 8) (hs : st ≤ 3) : a / 2 ^ st < 2 ^ (3 - st) := by
  match st, hs with
  | 0, _ | 1, _ | 2, _ | 3, _ => simp; omega
def other (q : Nat) : Nat := if q % 2 = 0 then q + 1 else q - 1
theorem other_lt {q n : Nat} (h : q < 2 * n) : other q < 2 * n := by unfold other; split <;> omega
theorem other_ne (q : Nat) : other q ≠ q := by unfold other; split <;> omega
theorem other_half (q : Nat) : other q / 2 = q / 2 := by unfold other; split <;> omega
theorem other_of {p q : Nat} (h : p / 2 = q / 2) (h' : p ≠ q) : p = other q := by unfold other; split <;> omega
theorem mate_ex {κ code : Nat → Nat} {st : Nat} (I : Inv κ code st) (hs : st < 3) {x : Nat} (hx : x < 8) : ∃ m, m < 8 ∧ ∀ y, y < 8 → isMate κ code st x y = decide (y = m) := by
  have hb := blk_lt (I.k8 x hx) (Nat.le_of_lt hs)
  have h2 : 2 ^ (3 - st) = 2 * 2 ^ (3 - (st + 1)) := by
    rw [show 3 - st = 3 - (st + 1) + 1 by omega, Nat.pow_succ, Nat.mul_comm]
  obtain ⟨m, hm, e1, e2⟩ := I.all (other (κ x / 2 ^ st)) (code x) (by rw [h2] at hb ⊢; exact other_lt hb) (I.lt x hx)
  refine ⟨m, hm, fun y hy => ?_⟩
  have hmx : m ≠ x := fun e => by subst e; exact other_ne _ e1.symm
  have hk : κ m / 2 ^ (st + 1) = κ x / 2 ^ (st + 1) := by rw [half, half, e1, other_half]
  unfold isMate
  by_cases e : y = m
  · subst e; simp [hmx, hk, e2]
  · have : ¬ (y ≠ x ∧ κ y / 2 ^ (st + 1) = κ x / 2 ^ (st + 1) ∧ code y = code x) := fun ⟨h1, h3, h4⟩ => by
      rw [half, half] at h3
      by_cases hq : κ y / 2 ^ st = κ x / 2 ^ st
      · exact h1 (I.one y x hy hx hq h4)
      · exact e (I.one y m hy hm ((other_of h3 hq).trans e1.symm) (h4.trans e2.symm))
    rw [Bool.eq_iff_iff]
    simp only [Bool.and_eq_true, decide_eq_true_eq]
    exact ⟨fun h => absurd h this, fun h => absurd h e⟩
def mtF (κ code : Nat → Nat) (st x : Nat) : Nat := ((List.range 8).find? (isMate κ code st x)).getD 0
theorem mt_spec {κ code : Nat → Nat} {st : Nat} (I : Inv κ code st) (hs : st < 3) {x : Nat} (hx : x < 8) : mtF κ code st x < 8 ∧ ∀ y, y < 8 → isMate κ code st x y = decide (y = mtF κ code st x) := by
  obtain ⟨m, hm, h⟩ := mate_ex I hs hx
  have e : mtF κ code st x = m := by
    unfold mtF
    cases e : (List.range 8).find? (isMate κ code st x) with
    | none =>
      have := List.find?_eq_none.mp e m (by simpa using hm)
      rw [h m hm] at this; simp at this
    | some y =>
      have h1 := List.find?_some e
      have h2 : y < 8 := by simpa using List.mem_of_find?_eq_some e
      rw [h y h2] at h1
      exact of_decide_eq_true h1
  rw [e]; exact ⟨hm, h⟩
theorem mt_is {κ code : Nat → Nat} {st : Nat} (I : Inv κ code st) (hs : st < 3) {x : Nat} (hx : x < 8) : mtF κ code st x ≠ x ∧ κ (mtF κ code st x) / 2 ^ (st + 1) = κ x / 2 ^ (st + 1) ∧ code (mtF κ code st x) = code x := by
  obtain ⟨h1, h2⟩ := mt_spec I hs hx
  have := h2 _ h1
  unfold isMate at this
  simpa using this
theorem mt_eq {κ code : Nat → Nat} {st : Nat} (I : Inv κ code st) (hs : st < 3) {x y : Nat} (hx : x < 8) (hy : y < 8) (h : y ≠ x) (h1 : κ y / 2 ^ (st + 1) = κ x / 2 ^ (st + 1)) (h2 : code y = code x) : y = mtF κ code st x := by
  have := (mt_spec I hs hx).2 y hy
  unfold isMate at this
  simp only [ne_eq, h, not_false_eq_true, decide_true, h1, h2, Bool.and_self] at this
  exact of_decide_eq_true this.symm
def mtL (κ code : Nat → Nat) (st : Nat) : List Nat := (List.range 8).map (mtF κ code st)
theorem mtL_at (κ code : Nat → Nat) (st : Nat) {x : Nat} (hx : x < 8) : (mtL κ code st).getD x 0 = mtF κ code st x := by
  unfold mtL
  rw [List.getD_eq_getElem?_getD, List.getElem?_map, List.getElem?_range hx]; rfl
theorem mtL_mate {κ code : Nat → Nat} {st : Nat} (I : Inv κ code st) (hs : st < 3) : Mate (mtL κ code st) := by
  refine ⟨by simp [mtL], fun x hx => ?_, fun x hx => ?_, fun x hx => ?_⟩
  · rw [mtL_at _ _ _ hx]; exact (mt_spec I hs hx).1
  · have h := mt_is I hs hx
    have h8 := (mt_spec I hs hx).1
    rw [mtL_at _ _ _ hx, mtL_at _ _ _ h8]
    exact (mt_eq I hs h8 hx (Ne.symm h.1) h.2.1.symm h.2.2.symm).symm
  · rw [mtL_at _ _ _ hx]; exact (mt_is I hs hx).1
theorem inv_step {κ code c : Nat → Nat} {st : Nat} (I : Inv κ code st) (hs : st < 3) (hc : ∀ x, x < 8 → c x < 2) (hn : ∀ x, x < 8 → c (mtF κ code st x) ≠ c x) : Inv κ (fun x => 2 * code x + c x) (st + 1) := by
  refine ⟨I.k8, fun x hx => ?_, fun x y hx hy h1 h2 => ?_, fun b v hb hv => ?_⟩
  · have h1 := I.lt x hx
    have h2 := hc x hx
    show 2 * code x + c x < 2 ^ (st + 1)
    rw [Nat.pow_succ]; omega
  · have h2' : 2 * code x + c x = 2 * code y + c y := h2
    have c1 := hc x hx
    have c2 := hc y hy
    by_cases e : x = y
    · exact e
    · have := mt_eq I hs hy hx e h1 (by omega)
      have hne := hn y hy
      rw [← this] at hne
      omega
  · have h2 : 2 ^ (3 - st) = 2 * 2 ^ (3 - (st + 1)) := by
      rw [show 3 - st = 3 - (st + 1) + 1 by omega, Nat.pow_succ, Nat.mul_comm]
    rw [Nat.pow_succ] at hv
    obtain ⟨x, hx, e1, e2⟩ := I.all (2 * b) (v / 2) (by omega) (by omega)
    by_cases e : c x = v % 2
    · exact ⟨x, hx, by rw [half, e1]; omega, by show 2 * code x + c x = v; omega⟩
    · have h := mt_is I hs hx
      have h8 := (mt_spec I hs hx).1
      have h3 := hn x hx
      have h4 := hc x hx
      have h5 := hc _ h8
      exact ⟨_, h8, by rw [h.2.1, half, e1]; omega, by show 2 * code (mtF κ code st x) + c (mtF κ code st x) = v; rw [h.2.2]; omega⟩
/-! the mates by the program -/
theorem filter_one : ∀ a, a < 8 → (List.range 8).filter (fun y => decide (y = a)) = [a] := by decide
theorem oth_one {homes : List Str} {g : List Nat} {q : Nat → Bool} {x m : Nat} (hg : g = (List.range 8).filter q) (hm : m < 8) (h : ∀ y, y < 8 → (q y && (decide (y ≠ x) && decide (homes.getD y e0 = homes.getD x e0))) = decide (y = m)) : oth homes g x = [.int (m : Int)] := by
  unfold oth
  rw [List.map_id', hg]
  unfold nts
  rw [List.filter_map, List.filter_filter]
  have e : (List.range 8).filter (fun a => ((tOth homes x ∘ fun k : Nat => D.int (k : Int)) a && q a)) = (List.range 8).filter (fun y => decide (y = m)) := by
    apply List.filter_congr
    intro y hy
    have hy8 : y < 8 := by simpa using hy
    rw [← h y hy8]
    show ((!eqD (.int (y : Int)) (.int (x : Int))) && (eqD (.str (homes.getD (y : Int).toNat e0)) (.str (homes.getD x e0)) && true) && q y) = _
    rw [Int.toNat_natCast, eqD_int, eqD_str, Bool.and_comm, Bool.and_true]
    congr 2
    have : decide ((y : Int) = (x : Int)) = decide (y = x) := by rw [Bool.eq_iff_iff]; simp; omega
    rw [this, ← decide_not]
  rw [e, filter_one m hm]; rfl
theorem mst_run {homes : List Str} {g : List Nat} {mt : Nat → Nat} : ∀ (xs : List Nat) (l : List D), l.length = 8 → (∀ x ∈ xs, x < 8 ∧ oth homes g x = [.int (mt x : Int)]) → ∀ y, gt (xs.foldl (mst homes g) l) y = if y ∈ xs then .int (mt y : Int) else gt l y
  | [], l, _, _, y => by simp
  | x :: xs, l, hl, h, y => by
    have hx := h x (List.mem_cons_self ..)
    have e : mst homes g l x = l.set x (.int (mt x : Int)) := by
      unfold mst
      rw [hx.2]; rfl
    rw [List.foldl_cons, mst_run xs _ (by rw [mst_len]; exact hl) (fun z hz => h z (List.mem_cons_of_mem _ hz)) y, e, gt_set _ _ _ (by omega)]
    by_cases h1 : y ∈ xs
    · simp [h1]
    · by_cases h2 : y = x
      · subst h2; simp [h1]
      · simp [h1, h2]
theorem mgr_run {homes : List Str} {mt : Nat → Nat} : ∀ (gs : List (List Nat)) (l : List D), l.length = 8 → (∀ g ∈ gs, ∀ x ∈ g, x < 8 ∧ oth homes g x = [.int (mt x : Int)]) → ∀ y, gt (gs.foldl (mgr homes) l) y = if ∃ g ∈ gs, y ∈ g then .int (mt y : Int) else gt l y
  | [], l, _, _, y => by simp
  | g :: gs, l, hl, h, y => by
    have e := mst_run g l hl (h g (List.mem_cons_self ..)) y
    rw [List.foldl_cons, mgr_run gs _ (by unfold mgr; rw [mst_foldl_len]; exact hl) (fun z hz => h z (List.mem_cons_of_mem _ hz)) y]
    show (if ∃ g ∈ gs, y ∈ g then _ else gt (g.foldl (mst homes g) l) y) = _
    rw [e]
    by_cases h1 : ∃ g ∈ gs, y ∈ g
    · have : ∃ g' ∈ g :: gs, y ∈ g' := by
        obtain ⟨g', a, b⟩ := h1
        exact ⟨g', List.mem_cons_of_mem _ a, b⟩
      rw [if_pos h1, if_pos this]
    · rw [if_neg h1]
      by_cases h2 : y ∈ g
      · have : ∃ g' ∈ g :: gs, y ∈ g' := ⟨g, List.mem_cons_self .., h2⟩
        rw [if_pos h2, if_pos this]
      · have : ¬ ∃ g' ∈ g :: gs, y ∈ g' := fun ⟨g', a, b⟩ => by
          rcases List.mem_cons.mp a with rfl | a
          · exact h2 b
          · exact h1 ⟨g', a, b⟩
        rw [if_neg h2, if_neg this]
def blkG (κ : Nat → Nat) (st j : Nat) : List Nat := (List.range 8).filter fun x => decide (κ x / 2 ^ (st + 1) = j)
theorem mates_of {κ code : Nat → Nat} {st : Nat} (I : Inv κ code st) (hs : st < 3) {homes : List Str} (hh : ∀ x y, x < 8 → y < 8 → (homes.getD x e0 = homes.getD y e0 ↔ code x = code y)) :
    matesL homes ((List.range (2 ^ (3 - (st + 1)))).map (blkG κ st)) = nts (mtL κ code st) := by
  have hlen : (matesL homes ((List.range (2 ^ (3 - (st + 1)))).map (blkG κ st))).length = 8 := by unfold matesL; rw [mgr_foldl_len]; simp
  apply List.ext_getElem?
  intro y
  by_cases hy : y < 8
  · have ev := mgr_run (homes := homes) (mt := mtF κ code st) ((List.range (2 ^ (3 - (st + 1)))).map (blkG κ st)) (List.replicate 8 .none) (by simp) (fun g hg x hx => by
      obtain ⟨j, _, rfl⟩ := List.mem_map.mp hg
      have hx' := List.mem_filter.mp hx
      have x8 : x < 8 := by simpa using hx'.1
      have xj : κ x / 2 ^ (st + 1) = j := of_decide_eq_true hx'.2
      refine ⟨x8, oth_one rfl (mt_spec I hs x8).1 fun z hz => ?_⟩
      rw [← (mt_spec I hs x8).2 z hz]
      unfold isMate
      have : decide (homes.getD z e0 = homes.getD x e0) = decide (code z = code x) := by rw [Bool.eq_iff_iff, decide_eq_true_eq, decide_eq_true_eq]; exact hh z x hz x8
      rw [this, xj, ← Bool.and_assoc, ← Bool.and_assoc, Bool.and_comm (decide (κ z / 2 ^ (st + 1) = j))]) y
    have mem : ∃ g ∈ (List.range (2 ^ (3 - (st + 1)))).map (blkG κ st), y ∈ g := by
      refine ⟨_, List.mem_map.mpr ⟨κ y / 2 ^ (st + 1), ?_, rfl⟩, List.mem_filter.mpr ⟨by simpa using hy, by simp⟩⟩
      simpa using blk_lt (I.k8 y hy) hs
    rw [if_pos mem] at ev
    have e1 : (matesL homes ((List.range (2 ^ (3 - (st + 1)))).map (blkG κ st)))[y]? = some (gt (matesL homes ((List.range (2 ^ (3 - (st + 1)))).map (blkG κ st))) y) := by
      unfold gt
      rw [List.getD_eq_getElem?_getD, List.getElem?_eq_getElem (by omega)]; rfl
    rw [e1]
    show some (gt (((List.range (2 ^ (3 - (st + 1)))).map (blkG κ st)).foldl (mgr homes) (List.replicate 8 .none)) y) = _
    rw [ev]
    unfold nts mtL
    rw [List.getElem?_map, List.getElem?_map, List.getElem?_range hy]; rfl
  · rw [List.getElem?_eq_none (by omega), List.getElem?_eq_none (by simp [nts, mtL]; omega)]
end Mine
end
section
open PySem PySem.W PyProof.Rows PySem.Calls PySem.Spec
set_option maxRecDepth 100000
namespace Mine
/-! the domains' tree -/
def lab (b : Nat) (u : List Nat) (c : Nat) : List Nat := 46 :: (List.replicate c b ++ u)
def gd (b : Nat) (u : Nat → List Nat) : Nat → Nat → List Nat
  | 0, _ => 46 :: lcl
  | d + 1, v => lab b (u d) (v % 2) ++ gd b u d (v / 2)
theorem suf_same {p q t : List Nat} (h : p ++ t <:+ q ++ t) : p <:+ q := by
  obtain ⟨s, hs⟩ := h
  rw [← List.append_assoc] at hs
  exact ⟨s, List.append_cancel_right hs⟩
theorem suf_eq {p q x : List Nat} (h : p <:+ x ++ q) (hl : p.length = q.length) : p = q := by
  obtain ⟨s, hs⟩ := h
  exact (List.append_inj' hs hl).2
theorem lab_suf {b : Nat} (hb : b ≠ 46) {u x : List Nat} {c c' : Nat} (hc : c < 2) (hc' : c' < 2) (h : lab b u c <:+ x ++ lab b u c') : c = c' := by
  match c, hc, c', hc' with
  | 0, _, 0, _ => rfl
  | 1, _, 1, _ => rfl
  | 0, _, 1, _ =>
    have h1 : 46 :: u <:+ (x ++ [46]) ++ b :: u := by
      have : x ++ lab b u 1 = (x ++ [46]) ++ b :: u := by simp [lab]
      rw [← this]; exact h
    have := suf_eq h1 (by simp)
    injection this with e
    exact absurd e.symm hb
  | 1, _, 0, _ =>
    have h0 : b :: u <:+ x ++ 46 :: u := List.IsSuffix.trans ⟨[46], rfl⟩ h
    have := suf_eq h0 (by simp)
    injection this with e
    exact absurd e hb
theorem gd_suf {b : Nat} (hb : b ≠ 46) {u : Nat → List Nat} : ∀ (d : Nat) {x : List Nat} {v v' : Nat}, v < 2 ^ d → v' < 2 ^ d → gd b u d v <:+ x ++ gd b u d v' → v = v'
  | 0, x, v, v', h, h', _ => by simp at h h'; omega
  | d + 1, x, v, v', h, h', hs => by
    rw [Nat.pow_succ] at h h'
    unfold gd at hs
    have h1 : gd b u d (v / 2) <:+ (x ++ lab b (u d) (v' % 2)) ++ gd b u d (v' / 2) := by
      rw [List.append_assoc]
      exact List.IsSuffix.trans (List.suffix_append _ _) hs
    have e1 := gd_suf hb d (by omega) (by omega) h1
    rw [e1, ← List.append_assoc] at hs
    have e2 := lab_suf hb (Nat.mod_lt _ (by decide)) (Nat.mod_lt _ (by decide)) (suf_same hs)
    omega
theorem gd_split (b : Nat) (u : Nat → List Nat) (d : Nat) : ∀ (e v : Nat), ∃ p, gd b u (d + e) v = p ++ gd b u d (v / 2 ^ e)
  | 0, v => ⟨[], by simp⟩
  | e + 1, v => by
    obtain ⟨p, hp⟩ := gd_split b u d e (v / 2)
    refine ⟨lab b (u (d + e)) (v % 2) ++ p, ?_⟩
    show lab b (u (d + e)) (v % 2) ++ gd b u (d + e) (v / 2) = _
    rw [hp, List.append_assoc, Nat.div_div_eq_div_mul, Nat.pow_succ, Nat.mul_comm]
/-- a domain holds the ones that were made out of it -/
theorem gd_under {b : Nat} (hb : b ≠ 46) {u : Nat → List Nat} {d e v V : Nat} (hv : v < 2 ^ d) (hV : V < 2 ^ (d + e)) (x : List Nat) : gd b u d v <:+ x ++ gd b u (d + e) V ↔ V / 2 ^ e = v := by
  obtain ⟨p, hp⟩ := gd_split b u d e V
  have hlt : V / 2 ^ e < 2 ^ d := by
    rw [Nat.div_lt_iff_lt_mul (Nat.two_pow_pos e), ← Nat.pow_add]; exact hV
  rw [hp, ← List.append_assoc]
  constructor
  · intro h; exact (gd_suf hb d hv hlt h).symm
  · intro h; rw [h]; exact List.suffix_append _ _
theorem gd_inj {b : Nat} (hb : b ≠ 46) {u : Nat → List Nat} {d v v' : Nat} (hv : v < 2 ^ d) (hv' : v' < 2 ^ d) (h : gd b u d v = gd b u d v') : v = v' :=
  gd_suf hb d (x := []) hv hv' (by rw [h]; exact List.suffix_refl _)
theorem gd_dot (b : Nat) (u : Nat → List Nat) : ∀ d v, ∃ r, gd b u d v = 46 :: r
  | 0, _ => ⟨lcl, rfl⟩
  | d + 1, v => ⟨_, rfl⟩
theorem gd_last (b : Nat) (u : Nat → List Nat) : ∀ d v, ∃ q, gd b u d v = q ++ [108]
  | 0, _ => ⟨[46, 108, 111, 99, 97], rfl⟩
  | d + 1, v => by
    obtain ⟨q, hq⟩ := gd_last b u d (v / 2)
    exact ⟨lab b (u d) (v % 2) ++ q, by unfold gd; rw [hq, List.append_assoc]⟩
structure Word (u : List Nat) : Prop where
  asc : asc u
  dot : 46 ∉ u
  ne : u ≠ []
  len : u.length ≤ 5
theorem lab_asc {b c : Nat} {u : List Nat} (hb : b < 128) (h : asc u) : asc (lab b u c) := by
  refine asc_cons (by decide) (asc_app (fun d hd => ?_) h)
  rw [List.eq_of_mem_replicate hd]; exact hb
theorem gd_asc {b : Nat} (hb : b < 128) {u : Nat → List Nat} (h : ∀ d, Word (u d)) : ∀ d v, asc (gd b u d v)
  | 0, _ => by unfold gd asc; decide
  | d + 1, v => asc_app (lab_asc hb (h d).asc) (gd_asc hb h d (v / 2))
theorem gd_len {b : Nat} {u : Nat → List Nat} (h : ∀ d, Word (u d)) : ∀ d v, (gd b u d v).length ≤ 6 + 7 * d
  | 0, _ => by unfold gd; decide
  | d + 1, v => by
    have := gd_len (b := b) h d (v / 2)
    have := (h d).len
    have := Nat.mod_lt v (show 2 > 0 by decide)
    unfold gd lab
    simp only [List.length_append, List.length_cons, List.length_replicate]; omega
theorem gd_count {b : Nat} (hb : b ≠ 46) {u : Nat → List Nat} (h : ∀ d, Word (u d)) : ∀ d v, (gd b u d v).count 46 = d + 1
  | 0, _ => by unfold gd; decide
  | d + 1, v => by
    unfold gd lab
    rw [List.count_append, List.count_cons_self, List.count_append, gd_count hb h d, List.count_eq_zero.mpr (h d).dot, List.count_replicate]
    have : (b == 46) = false := by simpa using hb
    simp [this]; omega
theorem gd_lo (u : Nat → List Nat) : ∀ d v, (gd 66 u d v).map loC = gd 98 (fun d => (u d).map loC) d v
  | 0, _ => rfl
  | d + 1, v => by
    unfold gd lab
    rw [List.map_append, gd_lo u d, List.map_cons, List.map_append, List.map_replicate]; rfl
/-- the host's name without its first two signs -/
theorem gd_bare {u : Nat → List Nat} (h : ∀ d, Word (u d)) (V : Nat) : ∃ a z, gd 66 u 3 V = 46 :: a ∧ Bare a z := by
  obtain ⟨r, hr⟩ := gd_dot 66 u 2 (V / 2)
  have e : gd 66 u 3 V = 46 :: ((List.replicate (V % 2) 66 ++ u 2) ++ 46 :: r) := by
    show lab 66 (u 2) (V % 2) ++ gd 66 u 2 (V / 2) = _
    rw [hr]; rfl
  have a1 := gd_asc (b := 66) (by decide) h 3 V
  have l1 := gd_len (b := 66) h 3 V
  obtain ⟨q, hq⟩ := gd_last 66 u 3 V
  have hz : 46 ∉ List.replicate (V % 2) 66 ++ u 2 := fun m => by
    rcases List.mem_append.mp m with m | m
    · exact absurd (List.eq_of_mem_replicate m) (by decide)
    · exact (h 2).dot m
  refine ⟨_, _, e, ⟨?_, ⟨r, rfl⟩, hz, ?_, ?_, ?_⟩⟩
  · rw [e] at a1
    exact fun c hc => a1 c (List.mem_cons_of_mem _ hc)
  · cases ez : List.replicate (V % 2) 66 ++ u 2 with
    | nil => exact absurd (List.append_eq_nil_iff.mp ez).2 (h 2).ne
    | cons c y => exact ⟨c, y, rfl, fun e => hz (by rw [ez, e]; exact List.mem_cons_self ..)⟩
  · rw [e] at hq
    cases q with
    | nil => cases hq
    | cons c q => exact ⟨q, by injection hq⟩
  · rw [e, List.length_cons] at l1; omega
/-! the program's own -/
def wd (N : Int) (k : Nat) : List Nat := (wordAt N k).cps.toList
theorem word_tx (N : Int) (k : Nat) : wordAt N k = tx (wd N k) := tx_eq rfl
theorem words_ok : wordsL.all (fun x => x.cps.toList.all (fun c => decide (c < 128) && decide (c ≠ 46)) && !x.cps.toList.isEmpty && decide (x.cps.toList.length ≤ 5)) = true := by decide +kernel
theorem wd_ok (N : Int) (k : Nat) : Word (wd N k) := by
  have h := List.all_eq_true.mp words_ok _ (List.mem_of_getElem? (word_get N k))
  simp only [Bool.and_eq_true, List.all_eq_true, decide_eq_true_eq] at h
  refine ⟨fun c hc => (h.1.1 c hc).1, fun m => (h.1.1 46 m).2 rfl, fun e => ?_, h.2⟩
  have := h.1.2
  have e' : (wordAt N k).cps.toList = [] := e
  rw [e'] at this; cases this
def domL (w : Nat → List Nat) : Nat → List (List Nat)
  | 0 => [46 :: lcl]
  | i + 1 => domL w i ++ [46 :: (w (dpt i) ++ (domL w i).getD i []), 46 :: 66 :: (w (dpt i) ++ (domL w i).getD i [])]
theorem root_tx : Str.ofString ".local" = tx (46 :: lcl) := by decide +kernel
theorem dB_tx : Str.ofString ".B" = tx [46, 66] := by decide +kernel
theorem domS_tx {ws : Nat → Str} {w : Nat → List Nat} (h : ∀ k, ws k = tx (w k)) : ∀ i, domS ws i = (domL w i).map tx
  | 0 => by unfold domS domL; rw [root_tx]; rfl
  | i + 1 => by
    unfold domS domL
    rw [domS_tx h i, getD_map_tx, h, dot_tx, dB_tx, tx_app, tx_app, tx_app, tx_app, List.map_append]
    simp
def dom15 (w : Nat → List Nat) : List (List Nat) := [gd 66 w 0 0, gd 66 w 1 0, gd 66 w 1 1, gd 66 w 2 0, gd 66 w 2 1, gd 66 w 2 2, gd 66 w 2 3, gd 66 w 3 0, gd 66 w 3 1, gd 66 w 3 2, gd 66 w 3 3, gd 66 w 3 4, gd 66 w 3 5, gd 66 w 3 6, gd 66 w 3 7]
theorem dom15_eq (w : Nat → List Nat) : domL w 7 = dom15 w := by
  simp [domL, dom15, gd, lab, dpt]
theorem dom_tx (N : Int) : domS (wordAt N) 7 = (dom15 (wd N)).map tx := by rw [domS_tx (word_tx N), dom15_eq]
end Mine
end
section
open PySem PySem.W PyProof.Rows PySem.Calls PySem.Spec
set_option maxRecDepth 100000
namespace Mine
theorem dom15_at (w : Nat → List Nat) {x : List Nat} (h : x ∈ dom15 w) : ∃ d v, d < 4 ∧ v < 2 ^ d ∧ x = gd 66 w d v := by
  simp only [dom15, List.mem_cons, List.not_mem_nil, or_false] at h
  rcases h with rfl | rfl | rfl | rfl | rfl | rfl | rfl | rfl | rfl | rfl | rfl | rfl | rfl | rfl | rfl
  · exact ⟨0, 0, by decide, by decide, rfl⟩
  · exact ⟨1, 0, by decide, by decide, rfl⟩
  · exact ⟨1, 1, by decide, by decide, rfl⟩
  · exact ⟨2, 0, by decide, by decide, rfl⟩
  · exact ⟨2, 1, by decide, by decide, rfl⟩
  · exact ⟨2, 2, by decide, by decide, rfl⟩
  · exact ⟨2, 3, by decide, by decide, rfl⟩
  · exact ⟨3, 0, by decide, by decide, rfl⟩
  · exact ⟨3, 1, by decide, by decide, rfl⟩
  · exact ⟨3, 2, by decide, by decide, rfl⟩
  · exact ⟨3, 3, by decide, by decide, rfl⟩
  · exact ⟨3, 4, by decide, by decide, rfl⟩
  · exact ⟨3, 5, by decide, by decide, rfl⟩
  · exact ⟨3, 6, by decide, by decide, rfl⟩
  · exact ⟨3, 7, by decide, by decide, rfl⟩
theorem dom_at {N : Int} {x : Str} (h : x ∈ domS (wordAt N) 7) : ∃ d v, d < 4 ∧ v < 2 ^ d ∧ x = tx (gd 66 (wd N) d v) := by
  rw [dom_tx] at h
  obtain ⟨l, hl, rfl⟩ := List.mem_map.mp h
  obtain ⟨d, v, h1, h2, rfl⟩ := dom15_at _ hl
  exact ⟨d, v, h1, h2, rfl⟩
theorem dgd_asc (N : Int) (d v : Nat) : asc (gd 66 (wd N) d v) := gd_asc (by decide) (wd_ok N) d v
theorem dgd_len (N : Int) {d : Nat} (h : d < 4) (v : Nat) : (gd 66 (wd N) d v).length ≤ 30 := by have := gd_len (b := 66) (wd_ok N) d v; omega
theorem dom_tame {N : Int} : ∀ x ∈ domS (wordAt N) 7, Tame x := fun x hx => by
  obtain ⟨d, v, h1, h2, rfl⟩ := dom_at hx
  exact tame_tx (dgd_asc N d v) (by have := dgd_len N h1 v; omega)
theorem dom_rgood {N : Int} : ∀ d ∈ domS (wordAt N) 7, (own1 d).length ≤ 900 ∧ PyData.strOk (own1 d) = true ∧ (Txt.slice (own1 d) (some (Txt.find (own1 d) (Str.ofString ".") + 1)) none).length ≤ 900 := fun x hx => by
  obtain ⟨d, v, h1, h2, rfl⟩ := dom_at hx
  obtain ⟨r, hr⟩ := gd_dot 66 (wd N) d v
  have a := dgd_asc N d v
  have l := dgd_len N h1 v
  rw [hr] at a l ⊢
  rw [own1_tx]
  rw [List.length_cons] at l
  exact ⟨by rw [tx_len]; omega, ok_tx fun c hc => a c (List.mem_cons_of_mem _ hc), Nat.le_trans (Txt.slice_le _ _ _) (by rw [tx_len]; omega)⟩
theorem reach_root : reachS (own1 (tx (46 :: lcl))) = Str.ofString "local" := by
  rw [own1_tx, reach_flat (by decide), lcl_tx]
theorem reach_dom (N : Int) (d v : Nat) : reachS (own1 (tx (gd 66 (wd N) (d + 1) v))) = tx (gd 66 (wd N) d (v / 2)) := by
  obtain ⟨r, hr⟩ := gd_dot 66 (wd N) d (v / 2)
  have W := wd_ok N d
  have e : gd 66 (wd N) (d + 1) v = 46 :: ((List.replicate (v % 2) 66 ++ wd N d) ++ 46 :: r) := by
    show lab 66 (wd N d) (v % 2) ++ gd 66 (wd N) d (v / 2) = _
    rw [hr]; rfl
  have hz : 46 ∉ List.replicate (v % 2) 66 ++ wd N d := fun m => by
    rcases List.mem_append.mp m with m | m
    · exact absurd (List.eq_of_mem_replicate m) (by decide)
    · exact W.dot m
  obtain ⟨q, hq⟩ := gd_last 66 (wd N) (d + 1) v
  rw [e] at hq
  obtain ⟨q', hq'⟩ : ∃ q', (List.replicate (v % 2) 66 ++ wd N d) ++ 46 :: r = q' ++ [108] := by
    cases q with
    | nil => cases hq
    | cons c q => exact ⟨q, by injection hq⟩
  have hn : Re.isNum (tx ((List.replicate (v % 2) 66 ++ wd N d) ++ 46 :: r)).cps = false := hq' ▸ num_l q'
  rw [e, own1_tx, hr]
  refine reach_up hz ?_ ?_
  · cases ez : List.replicate (v % 2) 66 ++ wd N d with
    | nil => exact absurd (List.append_eq_nil_iff.mp ez).2 W.ne
    | cons c y =>
      rw [ez] at hq' hn hz
      exact hdn_yes hq' (fun e => hz (by rw [e]; exact List.mem_cons_self ..)) (by decide) hn
  · cases d with
    | zero =>
      refine .inr ?_
      have : gd 66 (wd N) 0 (v / 2) = 46 :: lcl := rfl
      rw [this] at hr
      injection hr with _ h; exact h.symm
    | succ d =>
      refine .inl ?_
      obtain ⟨r', hr'⟩ := gd_dot 66 (wd N) d (v / 2 / 2)
      have : gd 66 (wd N) (d + 1) (v / 2) = 46 :: ((List.replicate (v / 2 % 2) 66 ++ wd N d) ++ 46 :: r') := by
        show lab 66 (wd N d) (v / 2 % 2) ++ gd 66 (wd N) d (v / 2 / 2) = _
        rw [hr']; rfl
      rw [this] at hr
      injection hr with _ h
      rw [← h]
      exact List.mem_append.mpr (.inr (List.mem_cons_self ..))
theorem reach_all (N : Int) : (domS (wordAt N) 7).map (fun d => reachS (own1 d)) = Str.ofString "local" :: (List.range 14).map fun k => (domS (wordAt N) 7).getD (k / 2) e0 := by
  rw [dom_tx]
  have e : (List.range 14).map (fun k => ((dom15 (wd N)).map tx).getD (k / 2) e0) = [tx (gd 66 (wd N) 0 0), tx (gd 66 (wd N) 0 0), tx (gd 66 (wd N) 1 0), tx (gd 66 (wd N) 1 0), tx (gd 66 (wd N) 1 1), tx (gd 66 (wd N) 1 1),
      tx (gd 66 (wd N) 2 0), tx (gd 66 (wd N) 2 0), tx (gd 66 (wd N) 2 1), tx (gd 66 (wd N) 2 1), tx (gd 66 (wd N) 2 2), tx (gd 66 (wd N) 2 2), tx (gd 66 (wd N) 2 3), tx (gd 66 (wd N) 2 3)] := rfl
  rw [e]
  simp only [dom15, List.map_cons, List.map_nil, reach_dom]
  rw [show gd 66 (wd N) 0 0 = 46 :: lcl from rfl, reach_root]
/-! the hosts -/
def hst (N : Int) (V : Nat) : List Nat := 119 :: gd 66 (wd N) 3 V
theorem hst_edge (N : Int) (V : Nat) : ∃ z, Edge (tx (hst N V)) z := by
  obtain ⟨a, z, e, B⟩ := gd_bare (wd_ok N) V
  unfold hst
  rw [e]
  exact ⟨_, edge_of B⟩
theorem hst_host (N : Int) (V : Nat) : Host (tx (hst N V)) := host_tx (asc_cons (by decide) (dgd_asc N 3 V)) (by have := dgd_len N (d := 3) (by decide) V; unfold hst; rw [List.length_cons]; omega)
theorem hst_reach (N : Int) (V : Nat) : reachS (tx (hst N V)) = tx (gd 66 (wd N) 3 V) := by
  obtain ⟨a, z, e, B⟩ := gd_bare (wd_ok N) V
  have E := (edge_of B).two
  unfold hst
  rw [e]
  injection E with h _
  rw [h, own1_tx]
theorem hst_udm (N : Int) {d v V : Nat} (hd : d < 4) (hv : v < 2 ^ d) (hV : V < 8) : udm (Txt.upper (tx (hst N V))) (tx (gd 66 (wd N) d v)) = decide (V / 2 ^ (3 - d) = v) := by
  have a1 : asc (hst N V) := asc_cons (by decide) (dgd_asc N 3 V)
  obtain ⟨r, hr⟩ := gd_dot 98 (fun k => (wd N k).map loC) d v
  obtain ⟨q, hq⟩ := gd_last 98 (fun k => (wd N k).map loC) 3 V
  obtain ⟨q2, hq2⟩ := gd_last 98 (fun k => (wd N k).map loC) d v
  rw [upper_tx a1, udm_lo (asc_map a1 upC_lt) (dgd_asc N d v), lo_up_map, gd_lo]
  have e : (hst N V).map loC = 119 :: gd 98 (fun k => (wd N k).map loC) 3 V := by
    unfold hst; rw [List.map_cons, gd_lo]; rfl
  rw [e]
  have n1 : Re.isNum (tx (119 :: gd 98 (fun k => (wd N k).map loC) 3 V)).cps = false := by rw [hq]; exact num_l (119 :: q)
  have n2 : Re.isNum (tx (gd 98 (fun k => (wd N k).map loC) d v)).cps = false := by rw [hq2]; exact num_l q2
  have U := gd_under (b := 98) (by decide) (u := fun k => (wd N k).map loC) (d := d) (e := 3 - d) (v := v) (V := V) hv (by rw [show d + (3 - d) = 3 by omega]; exact hV) [119]
  rw [show d + (3 - d) = 3 by omega] at U
  rw [hr] at n2 U ⊢
  rw [Bool.eq_iff_iff, udm_dot n1 n2, decide_eq_true_eq]
  exact U
end Mine
end
section
open PySem PySem.W PyProof.Rows PySem.Calls PySem.Spec
set_option maxRecDepth 100000
namespace Mine
/-! the second names -/
structure Perm8 (l : List Int) : Prop where
  len : l.length = 8
  bd : ∀ x, x < 8 → 0 ≤ l.getD x 0 ∧ l.getD x 0 < 8
  inj : ∀ x y, x < 8 → y < 8 → l.getD x 0 = l.getD y 0 → x = y
  sur : ∀ b : Int, 0 ≤ b → b < 8 → ∃ x, x < 8 ∧ l.getD x 0 = b
theorem gi_set (l : List Int) (y : Nat) (d : Int) (hy : y < l.length) (x : Nat) : (l.set y d).getD x 0 = if x = y then d else l.getD x 0 := by
  rw [List.getD_eq_getElem?_getD, List.getD_eq_getElem?_getD, List.getElem?_set]
  by_cases h : y = x
  · subst h; simp [hy]
  · have : ¬ x = y := fun e => h e.symm
    simp [h, this]
def tau (i j y : Nat) : Nat := if y = j then i else if y = i then j else y
theorem tau_lt {i j y : Nat} (hi : i < 8) (hj : j < 8) (hy : y < 8) : tau i j y < 8 := by unfold tau; split <;> (try split) <;> omega
theorem tau_tau (i j y : Nat) : tau i j (tau i j y) = y := by unfold tau; (repeat' split) <;> omega
theorem perm_swp {l : List Int} (P : Perm8 l) (x : Int) : Perm8 (swp l x) := by
  have hi : (x.fmod 8).toNat < 8 := by have := mod8 x; omega
  have hj : ((x.fdiv 8).fmod 8).toNat < 8 := by have := mod8 (x.fdiv 8); omega
  have at_ : ∀ y, (swp l x).getD y 0 = l.getD (tau (x.fmod 8).toNat ((x.fdiv 8).fmod 8).toNat y) 0 := fun y => by
    unfold swp
    rw [gi_set _ _ _ (by rw [List.length_set, P.len]; exact hj), gi_set _ _ _ (by rw [P.len]; exact hi)]
    unfold tau
    by_cases h1 : y = ((x.fdiv 8).fmod 8).toNat
    · rw [if_pos h1, if_pos h1]
    · by_cases h2 : y = (x.fmod 8).toNat
      · rw [if_neg h1, if_pos h2, if_neg h1, if_pos h2]
      · rw [if_neg h1, if_neg h2, if_neg h1, if_neg h2]
  refine ⟨by rw [swp_len]; exact P.len, fun y hy => ?_, fun y z hy hz h => ?_, fun b h1 h2 => ?_⟩
  · rw [at_]; exact P.bd _ (tau_lt hi hj hy)
  · rw [at_, at_] at h
    have := P.inj _ _ (tau_lt hi hj hy) (tau_lt hi hj hz) h
    rw [← tau_tau (x.fmod 8).toNat ((x.fdiv 8).fmod 8).toNat y, this, tau_tau]
  · obtain ⟨y, hy, e⟩ := P.sur b h1 h2
    exact ⟨_, tau_lt hi hj hy, by rw [at_, tau_tau]; exact e⟩
theorem perm_fold : ∀ (ns : List Int) {l : List Int}, Perm8 l → Perm8 (ns.foldl swp l)
  | [], _, P => P
  | x :: ns, _, P => by rw [List.foldl_cons]; exact perm_fold ns (perm_swp P x)
theorem perm_exch (ns : List Int) : Perm8 (exch ns) := perm_fold ns ⟨rfl, by decide, fun x y hx hy => (by decide : ∀ x, x < 8 → ∀ y, y < 8 → ([3, 0, 5, 2, 1, 6, 7, 4] : List Int).getD x 0 = ([3, 0, 5, 2, 1, 6, 7, 4] : List Int).getD y 0 → x = y) x hx y hy, fun b h1 h2 => by
  have : b = 0 ∨ b = 1 ∨ b = 2 ∨ b = 3 ∨ b = 4 ∨ b = 5 ∨ b = 6 ∨ b = 7 := by omega
  rcases this with rfl | rfl | rfl | rfl | rfl | rfl | rfl | rfl
  · exact ⟨1, by decide, rfl⟩
  · exact ⟨4, by decide, rfl⟩
  · exact ⟨3, by decide, rfl⟩
  · exact ⟨0, by decide, rfl⟩
  · exact ⟨7, by decide, rfl⟩
  · exact ⟨2, by decide, rfl⟩
  · exact ⟨5, by decide, rfl⟩
  · exact ⟨6, by decide, rfl⟩⟩
def secOf (l : List Int) : List Nat := l.map Int.toNat
def kap (l : List Int) (x : Nat) : Nat := (l.getD x 0).toNat
theorem sec_at {l : List Int} (x : Nat) : (secOf l).getD x 0 = kap l x := by
  unfold secOf kap
  rw [List.getD_eq_getElem?_getD, List.getD_eq_getElem?_getD, List.getElem?_map]
  cases l[x]? <;> rfl
theorem sec_nts {l : List Int} (P : Perm8 l) : ins l = nts (secOf l) := by
  unfold ins nts secOf
  rw [List.map_map]
  apply List.ext_getElem
  · simp
  · intro i h1 h2
    have hi : i < l.length := by simpa using h1
    have := (P.bd i (by have := P.len; omega)).1
    rw [List.getD_eq_getElem?_getD, List.getElem?_eq_getElem hi] at this
    have h0 : 0 ≤ l[i] := this
    rw [List.getElem_map, List.getElem_map]
    show D.int l[i] = D.int ((l[i].toNat : Nat) : Int)
    rw [Int.toNat_of_nonneg h0]
theorem inv_id : Inv id (fun _ => 0) 0 := ⟨fun x h => h, fun x h => by decide, fun x y _ _ h _ => by simpa using h, fun b v hb hv => ⟨b, by simpa using hb, by simp, by simp at hv; omega⟩⟩
theorem inv_kap {l : List Int} (P : Perm8 l) : Inv (kap l) (fun _ => 0) 0 := by
  refine ⟨fun x h => ?_, fun x h => by decide, fun x y hx hy h _ => ?_, fun b v hb hv => ?_⟩
  · have := P.bd x h; unfold kap; omega
  · have h' : kap l x = kap l y := by simpa using h
    have h1 := P.bd x hx
    have h2 := P.bd y hy
    unfold kap at h'
    exact P.inj x y hx hy (by omega)
  · have hb' : b < 8 := by simpa using hb
    obtain ⟨x, hx, e⟩ := P.sur (b : Int) (by omega) (by omega)
    exact ⟨x, hx, by rw [Nat.pow_zero, Nat.div_one]; unfold kap; rw [e]; rfl, by simp at hv; omega⟩
/-! the dealing -/
def colT (κ : Nat → Nat) (N : Int) (st : Nat) (code : Nat → Nat) : List Nat := colN (mtL id code st) (mtL κ code st) (bitsL N st)
def codeN (κ : Nat → Nat) (N : Int) : Nat → Nat → Nat
  | 0 => fun _ => 0
  | st + 1 => fun x => 2 * codeN κ N st x + (colT κ N st (codeN κ N st)).getD x 0
theorem bits_ok (N : Int) (st : Nat) : ∀ x, x < 8 → Bit ((bitsL N st).getD x 0) := fun x hx => by
  unfold bitsL
  rw [List.getD_eq_getElem?_getD, List.getElem?_map, List.getElem?_range hx]
  show Bit ((N.fdiv (2 ^ (x + st))).fmod 2)
  have h1 := Int.fmod_nonneg_of_pos (N.fdiv (2 ^ (x + st))) (b := 2) (by decide)
  have h2 := Int.fmod_lt_of_pos (N.fdiv (2 ^ (x + st))) (b := 2) (by decide)
  unfold Bit; omega
theorem invs {κ : Nat → Nat} (K : Inv κ (fun _ => 0) 0) (N : Int) : ∀ st, st ≤ 3 → Inv id (codeN κ N st) st ∧ Inv κ (codeN κ N st) st
  | 0, _ => ⟨inv_id, K⟩
  | st + 1, h => by
    obtain ⟨I, J⟩ := invs K N st (by omega)
    have hs : st < 3 := by omega
    obtain ⟨_, _, c2, cf, cs⟩ := col_all (mtL_mate I hs) (mtL_mate J hs) (bits_ok N st)
    have g : ∀ {κ' : Nat → Nat} {x : Nat}, x < 8 → (mtL κ' (codeN κ N st) st).getD x 0 = mtF κ' (codeN κ N st) st x := fun hx => mtL_at _ _ _ hx
    exact ⟨inv_step I hs c2 fun x hx => by have := cf x hx; rwa [g hx] at this, inv_step J hs c2 fun x hx => by have := cs x hx; rwa [g hx] at this⟩
theorem col_ok {κ : Nat → Nat} (K : Inv κ (fun _ => 0) 0) (N : Int) {st : Nat} (hs : st < 3) : colS (mtL id (codeN κ N st) st) (mtL κ (codeN κ N st) st) (bitsL N st) 8 = nts (colT κ N st (codeN κ N st)) ∧ (colT κ N st (codeN κ N st)).length = 8 ∧ ∀ x, x < 8 → (colT κ N st (codeN κ N st)).getD x 0 < 2 := by
  obtain ⟨I, J⟩ := invs K N st (by omega)
  obtain ⟨c0, c1, c2, _, _⟩ := col_all (mtL_mate I hs) (mtL_mate J hs) (bits_ok N st)
  exact ⟨c0, c1, c2⟩
def cT (κ : Nat → Nat) (N : Int) (st : Nat) : List Nat := colT κ N st (codeN κ N st)
theorem mulB_tx : ∀ k : Nat, k < 2 → Txt.mul (Str.ofString "B") (k : Int) = tx (List.replicate k 66)
  | 0, _ | 1, _ => by decide +kernel
theorem hms_step {N : Int} {c : Nat → List Nat} {st x code : Nat} (hx : x < 8) (h : (hms N c st).getD x e0 = tx (gd 66 (wd N) st code)) {b : Nat} (eb : (c st).getD x 0 = b) (hb : b < 2) : (hms N c (st + 1)).getD x e0 = tx (gd 66 (wd N) (st + 1) (2 * code + b)) := by
  rw [hms_at N _ st x hx, h, eb, mulB_tx _ hb, dot_tx, word_tx, tx_app, tx_app, tx_app]
  have m : (2 * code + b) % 2 = b := by omega
  have d : (2 * code + b) / 2 = code := by omega
  have e : gd 66 (wd N) (st + 1) (2 * code + b) = lab 66 (wd N st) b ++ gd 66 (wd N) st code := by
    show lab 66 (wd N st) ((2 * code + b) % 2) ++ gd 66 (wd N) st ((2 * code + b) / 2) = _
    rw [m, d]
  rw [e]
  unfold lab
  simp
theorem hms_root (N : Int) (c : Nat → List Nat) {x : Nat} (hx : x < 8) (code : Nat) : (hms N c 0).getD x e0 = tx (gd 66 (wd N) 0 code) := by
  unfold hms
  rw [root_tx, List.getD_eq_getElem?_getD, List.getElem?_replicate]
  simp [hx, gd]
theorem code_succ (κ : Nat → Nat) (N : Int) (st x : Nat) : codeN κ N (st + 1) x = 2 * codeN κ N st x + (cT κ N st).getD x 0 := rfl
theorem cT_ok {κ : Nat → Nat} (K : Inv κ (fun _ => 0) 0) (N : Int) {st : Nat} (hs : st < 3) : (cT κ N st).length = 8 ∧ ∀ x, x < 8 → (cT κ N st).getD x 0 < 2 := (col_ok K N hs).2
theorem hms_tx {κ : Nat → Nat} (K : Inv κ (fun _ => 0) 0) (N : Int) (st : Nat) : st ≤ 3 → ∀ x, x < 8 → (hms N (cT κ N) st).getD x e0 = tx (gd 66 (wd N) st (codeN κ N st x)) := by
  induction st with
  | zero => intro _ x hx; exact hms_root N _ hx _
  | succ st ih =>
    intro h x hx
    rw [code_succ]
    exact hms_step hx (ih (by omega) x hx) rfl ((cT_ok K N (by omega)).2 x hx)
theorem hms_eq {κ : Nat → Nat} (K : Inv κ (fun _ => 0) 0) (N : Int) {st : Nat} (hs : st < 3) (x y : Nat) (hx : x < 8) (hy : y < 8) : (hms N (cT κ N) st).getD x e0 = (hms N (cT κ N) st).getD y e0 ↔ codeN κ N st x = codeN κ N st y := by
  obtain ⟨I, _⟩ := invs K N st (by omega)
  rw [hms_tx K N st (by omega) x hx, hms_tx K N st (by omega) y hy]
  exact ⟨fun h => gd_inj (by decide) (I.lt x hx) (I.lt y hy) (tx_inj h), fun h => by rw [h]⟩
theorem lvl_groups (N : Int) {st : Nat} (hs : st < 3) : (lvl (clsS (sgn N) 7) st).map (grpS (hnames (clsS (sgn N) 7))) = (List.range (2 ^ (3 - (st + 1)))).map (blkG id st) := by
  unfold lvl cutN
  rw [List.map_drop, List.map_take, grp_table]
  match st, hs with
  | 0, _ | 1, _ | 2, _ => decide
theorem secG_blk {l : List Int} (P : Perm8 l) (st j : Nat) : secG (secOf l) (blkG id st j) = blkG (kap l) st j := by
  unfold secG blkG
  apply List.filter_congr
  intro x hx
  have hx8 : x < 8 := by simpa using hx
  have hk := (inv_kap P).k8 x hx8
  rw [sec_at, Bool.eq_iff_iff, List.contains_iff_mem, List.mem_filter]
  simp [hk]
theorem cutN_mem {l : List Str} {a b : Nat} {x : Str} (h : x ∈ cutN l a b) : x ∈ l := List.mem_of_mem_take (List.mem_of_mem_drop h)
theorem mtL_bd {κ code : Nat → Nat} {st : Nat} (I : Inv κ code st) (hs : st < 3) : (mtL κ code st).length = 8 ∧ ∀ x ∈ mtL κ code st, x < 8 := by
  refine ⟨by simp [mtL], fun x hx => ?_⟩
  obtain ⟨y, hy, rfl⟩ := List.mem_map.mp hx
  exact (mt_spec I hs (by simpa using hy)).1
def fT (κ : Nat → Nat) (N : Int) (st : Nat) : List Nat := mtL id (codeN κ N st) st
def sT (κ : Nat → Nat) (N : Int) (st : Nat) : List Nat := mtL κ (codeN κ N st) st
theorem fT_bd {κ : Nat → Nat} (K : Inv κ (fun _ => 0) 0) (N : Int) {st : Nat} (hs : st < 3) : (fT κ N st).length = 8 ∧ ∀ x ∈ fT κ N st, x < 8 := mtL_bd (invs K N st (by omega)).1 hs
theorem sT_bd {κ : Nat → Nat} (K : Inv κ (fun _ => 0) 0) (N : Int) {st : Nat} (hs : st < 3) : (sT κ N st).length = 8 ∧ ∀ x ∈ sT κ N st, x < 8 := mtL_bd (invs K N st (by omega)).2 hs
theorem cT_bd {κ : Nat → Nat} (K : Inv κ (fun _ => 0) 0) (N : Int) {st : Nat} (hs : st < 3) : (cT κ N st).length = 8 ∧ ∀ x ∈ cT κ N st, x < 2 := by
  obtain ⟨h1, h2⟩ := cT_ok K N hs
  generalize cT κ N st = c at h1 h2
  refine ⟨h1, fun x hx => ?_⟩
  obtain ⟨i, hi⟩ := List.getElem?_of_mem hx
  have hlt : i < 8 := by have := (List.getElem?_eq_some_iff.mp hi).1; omega
  have := h2 i hlt
  rw [List.getD_eq_getElem?_getD, hi] at this
  exact this
theorem cT_col {κ : Nat → Nat} (K : Inv κ (fun _ => 0) 0) (N : Int) {st : Nat} (hs : st < 3) : colS (fT κ N st) (sT κ N st) (bitsL N st) 8 = nts (cT κ N st) := (col_ok K N hs).1
theorem fT_m {κ : Nat → Nat} (K : Inv κ (fun _ => 0) 0) (N : Int) {st : Nat} (hs : st < 3) : matesL (hms N (cT κ N) st) ((List.range (2 ^ (3 - (st + 1)))).map (blkG id st)) = nts (fT κ N st) := mates_of (invs K N st (by omega)).1 hs (hms_eq K N hs)
theorem sT_m {κ : Nat → Nat} (K : Inv κ (fun _ => 0) 0) (N : Int) {st : Nat} (hs : st < 3) : matesL (hms N (cT κ N) st) ((List.range (2 ^ (3 - (st + 1)))).map (blkG κ st)) = nts (sT κ N st) := mates_of (invs K N st (by omega)).2 hs (hms_eq K N hs)
theorem lvl_le (cs : List Str) {st : Nat} (hs : st < 3) : (lvl cs st).length ≤ 8 := by
  unfold lvl cutN
  match st, hs with
  | 0, _ | 1, _ | 2, _ => rw [List.length_drop, List.length_take]; simp; omega
theorem comp_map {α β γ : Type} (f : α → β) (g : β → γ) (l : List α) : l.map (fun x => g (f x)) = (l.map f).map g := by rw [List.map_map]; rfl
theorem lvl_second {l : List Int} (P : Perm8 l) (N : Int) {st : Nat} (hs : st < 3) : (lvl (clsS (sgn N) 7) st).map (fun x => secG (secOf l) (grpS (hnames (clsS (sgn N) 7)) x)) = (List.range (2 ^ (3 - (st + 1)))).map (blkG (kap l) st) := by
  have e : (lvl (clsS (sgn N) 7) st).map (fun x => secG (secOf l) (grpS (hnames (clsS (sgn N) 7)) x)) = ((lvl (clsS (sgn N) 7) st).map (grpS (hnames (clsS (sgn N) 7)))).map (secG (secOf l)) := comp_map (grpS (hnames (clsS (sgn N) 7))) (secG (secOf l)) _
  rw [e, lvl_groups N hs, List.map_map]
  exact List.map_congr_left fun j _ => secG_blk P st j
theorem dealt_ok {l : List Int} (P : Perm8 l) (N : Int) : Dealt N (clsS (sgn N) 7) (hidD (clsS (sgn N) 7) (hnames (clsS (sgn N) 7))) (secOf l) (grpS (hnames (clsS (sgn N) 7))) (fT (kap l) N) (sT (kap l) N) (cT (kap l) N) := by
  have K := inv_kap P
  have hcl : (clsS (sgn N) 7).length = 15 := clsS_len _ _
  have a1 : (secOf l).length = 8 := by unfold secOf; rw [List.length_map]; exact P.len
  have a2 : (clsS (sgn N) 7).length ≤ 900 := by omega
  have a3 : ∀ st, st < 3 → ∀ x ∈ lvl (clsS (sgn N) 7) st, dget (hidD (clsS (sgn N) 7) (hnames (clsS (sgn N) 7))) x = some (.list (nts (grpS (hnames (clsS (sgn N) 7)) x))) ∧ (grpS (hnames (clsS (sgn N) 7)) x).length ≤ 8 ∧ ∀ y ∈ grpS (hnames (clsS (sgn N) 7)) x, y < 8 := fun st hs x hx => ⟨hid_get (cutN_mem hx), grpS_ok _ _⟩
  have a4 : ∀ st, st < 3 → matesL (hms N (cT (kap l) N) st) ((lvl (clsS (sgn N) 7) st).map (grpS (hnames (clsS (sgn N) 7)))) = nts (fT (kap l) N st) := fun st hs => by rw [lvl_groups N hs]; exact fT_m K N hs
  have a5 : ∀ st, st < 3 → matesL (hms N (cT (kap l) N) st) ((lvl (clsS (sgn N) 7) st).map fun x => secG (secOf l) (grpS (hnames (clsS (sgn N) 7)) x)) = nts (sT (kap l) N st) := fun st hs => by rw [lvl_second P N hs]; exact sT_m K N hs
  generalize clsS (sgn N) 7 = cs at a2 a3 a4 a5
  exact Dealt.mk a1 a2 a3 (fun st hs => lvl_le _ hs) (fun st hs => fT_bd K N hs) (fun st hs => sT_bd K N hs) (fun st hs => cT_bd K N hs) a4 a5 (fun st hs => cT_col K N hs)
end Mine
end
section
open PySem PySem.W PyProof.Rows PySem.Calls PySem.Spec
set_option maxRecDepth 100000
namespace Mine
/-! what the domains hold -/
theorem isD_true (b : Bool) : isD (.bool b) (.bool true) = b := by cases b <;> rfl
theorem great_nts (dom : Str) (hs : List Str) : (i8.filter (tGreat dom hs)).map (fun d => d) = nts ((List.range 8).filter fun k => udm (Txt.upper (hs.getD k e0)) dom) := by
  have e : i8 = nts (List.range 8) := rfl
  rw [e, List.map_id']
  unfold nts
  rw [List.filter_map]
  refine congrArg (List.map _) (List.filter_congr fun x _ => ?_)
  show isD (.bool (udm (Txt.upper (hs.getD (x : Int).toNat e0)) dom)) (.bool true) = udm (Txt.upper (hs.getD x e0)) dom
  rw [Int.toNat_natCast]
  exact isD_true _
theorem own_nts (dom : Str) (hs : List Str) : (i8.filter (tOwn dom hs)).map (fun d => d) = nts ((List.range 8).filter fun k => eqD (.str (reachS (hs.getD k e0))) (.str dom)) := by
  have e : i8 = nts (List.range 8) := rfl
  rw [e, List.map_id']
  unfold nts
  rw [List.filter_map]
  congr 1
theorem held_get (ds hs : List Str) (x : Str) : dget (heldD ds hs) x = if x ∈ ds.drop 7 then some (.list ((i8.filter (tOwn x hs)).map fun d => d)) else if x ∈ ds.take 7 then some (.list ((i8.filter (tGreat x hs)).map fun d => d)) else none := by
  have h1 := dget_fold (fun d => .list ((i8.filter (tOwn d hs)).map fun d => d)) x (ds.drop 7) ((ds.take 7).foldl (put1 hs) [])
  have h2 := dget_fold (fun d => .list ((i8.filter (tGreat d hs)).map fun d => d)) x (ds.take 7) []
  have h1' : dget (heldD ds hs) x = _ := h1
  have h2' : dget ((ds.take 7).foldl (put1 hs) []) x = _ := h2
  rw [h1', h2']; rfl
def hostsT (κ : Nat → Nat) (N : Int) : List Str := (hms N (cT κ N) 3).map fun x => Str.ofString "w" ++ x
theorem w_tx : Str.ofString "w" = tx [119] := by decide +kernel
theorem hosts_len (κ : Nat → Nat) (N : Int) : (hostsT κ N).length = 8 := by unfold hostsT; rw [List.length_map, hms_len]
theorem hosts_at {κ : Nat → Nat} (K : Inv κ (fun _ => 0) 0) (N : Int) {x : Nat} (hx : x < 8) : (hostsT κ N).getD x e0 = tx (hst N (codeN κ N 3 x)) := by
  have h := hms_tx K N 3 (Nat.le_refl _) x hx
  have hl := hms_len N (cT κ N) 3
  unfold hostsT
  rw [List.getD_eq_getElem?_getD, List.getElem?_map]
  rw [List.getD_eq_getElem?_getD] at h
  rw [List.getElem?_eq_getElem (by omega)] at h ⊢
  have h' : (hms N (cT κ N) 3)[x]'(by omega) = tx (gd 66 (wd N) 3 (codeN κ N 3 x)) := h
  show Str.ofString "w" ++ (hms N (cT κ N) 3)[x]'(by omega) = _
  rw [h', w_tx, tx_app]; rfl
theorem code_half {κ : Nat → Nat} (K : Inv κ (fun _ => 0) 0) (N : Int) {st x : Nat} (hs : st < 3) (hx : x < 8) : codeN κ N (st + 1) x / 2 = codeN κ N st x := by
  have h := (cT_ok K N hs).2 x hx
  rw [code_succ]
  generalize (cT κ N st).getD x 0 = b at h ⊢
  generalize codeN κ N st x = a
  omega
theorem code_cut {κ : Nat → Nat} (K : Inv κ (fun _ => 0) 0) (N : Int) {x : Nat} (hx : x < 8) : ∀ k, k ≤ 3 → codeN κ N 3 x / 2 ^ k = codeN κ N (3 - k) x
  | 0, _ => by simp
  | k + 1, h => by
    have := code_half K N (st := 3 - (k + 1)) (x := x) (by omega) hx
    rw [show 3 - (k + 1) + 1 = 3 - k by omega] at this
    rw [half, code_cut K N hx k (by omega), this]
/-- who lies in a domain -/
def inD (κ : Nat → Nat) (N : Int) (k v : Nat) : List Nat := (List.range 8).filter fun x => decide (codeN κ N (3 - k) x = v)
theorem held_ok {κ : Nat → Nat} (K : Inv κ (fun _ => 0) 0) (N : Int) {k v : Nat} (hk : k < 4) (hv : v < 2 ^ (3 - k)) : dget (heldD (domS (wordAt N) 7) (hostsT κ N)) (tx (gd 66 (wd N) (3 - k) v)) = some (.list (nts (inD κ N k v))) := by
  have c8 : ∀ x, x < 8 → codeN κ N 3 x < 8 := fun x hx => (invs K N 3 (Nat.le_refl _)).1.lt x hx
  have hd : (domS (wordAt N) 7).drop 7 = (List.range 8).map fun v => tx (gd 66 (wd N) 3 v) := by rw [dom_tx]; rfl
  rw [held_get]
  by_cases h0 : k = 0
  · subst h0
    have m : tx (gd 66 (wd N) (3 - 0) v) ∈ (domS (wordAt N) 7).drop 7 := by
      rw [hd]; exact List.mem_map.mpr ⟨v, by simpa using hv, rfl⟩
    rw [if_pos m, own_nts]
    refine congrArg (fun l => some (D.list (nts l))) ?_
    unfold inD
    apply List.filter_congr
    intro x hx
    have hx8 : x < 8 := by simpa using hx
    rw [hosts_at K N hx8, hst_reach, eqD_tx, Bool.eq_iff_iff, decide_eq_true_eq, decide_eq_true_eq]
    exact ⟨fun h => gd_inj (d := 3) (by decide) (c8 x hx8) hv h, fun h => by rw [← h]⟩
  · have m : tx (gd 66 (wd N) (3 - k) v) ∉ (domS (wordAt N) 7).drop 7 := by
      rw [hd]
      intro m
      obtain ⟨v', _, e⟩ := List.mem_map.mp m
      have := congrArg (List.count 46) (tx_inj e)
      rw [gd_count (by decide) (wd_ok N), gd_count (by decide) (wd_ok N)] at this
      omega
    have m2 : tx (gd 66 (wd N) (3 - k) v) ∈ (domS (wordAt N) 7).take 7 := by
      rw [dom_tx, ← List.map_take]
      refine List.mem_map.mpr ⟨_, ?_, rfl⟩
      match k, hk, h0, v, hv with
      | 3, _, _, 0, _ => simp [dom15]
      | 2, _, _, 0, _ | 2, _, _, 1, _ => simp [dom15]
      | 1, _, _, 0, _ | 1, _, _, 1, _ | 1, _, _, 2, _ | 1, _, _, 3, _ => simp [dom15]
    rw [if_neg m, if_pos m2, great_nts]
    refine congrArg (fun l => some (D.list (nts l))) ?_
    unfold inD
    apply List.filter_congr
    intro x hx
    have hx8 : x < 8 := by simpa using hx
    have := code_cut K N hx8 k (by omega)
    rw [hosts_at K N hx8, hst_udm N (by omega) hv (c8 x hx8), show 3 - (3 - k) = k by omega, this]
theorem in_filter (a b : List Nat) : (nts b).filter (tIn (nts a)) = nts (b.filter fun x => a.contains x) := by
  unfold nts
  rw [List.filter_map]
  congr 1
  apply List.filter_congr
  intro x _
  exact anyEq_nts a x
theorem in2_filter {l : List Int} (P : Perm8 l) (a b : List Nat) (hb : ∀ x ∈ b, x < 8) : (nts b).filter (tIn2 l (nts a)) = nts (b.filter fun x => a.contains (kap l x)) := by
  unfold nts
  rw [List.filter_map]
  congr 1
  apply List.filter_congr
  intro x hx
  show anyEq (nts a) (.int (l.getD (x : Int).toNat 0)) = _
  have h := P.bd x (hb x hx)
  have e : l.getD (x : Int).toNat 0 = ((kap l x : Nat) : Int) := by unfold kap; rw [Int.toNat_natCast, Int.toNat_of_nonneg h.1]
  rw [e, anyEq_nts]
theorem cls_blk {N : Int} {k : Nat} (hk : k < 4) {c : Str} (h : c ∈ cutN (clsS (sgn N) 7) (2 ^ k - 1) (2 ^ (k + 1) - 1)) : ∃ i, i < 2 ^ k ∧ grpS (hnames (clsS (sgn N) 7)) c = (List.range 8).filter fun x => decide (x / 2 ^ (3 - k) = i) := by
  have h1 : grpS (hnames (clsS (sgn N) 7)) c ∈ (cutN (clsS (sgn N) 7) (2 ^ k - 1) (2 ^ (k + 1) - 1)).map (grpS (hnames (clsS (sgn N) 7))) := List.mem_map.mpr ⟨c, h, rfl⟩
  have h2 : (cutN (clsS (sgn N) 7) (2 ^ k - 1) (2 ^ (k + 1) - 1)).map (grpS (hnames (clsS (sgn N) 7))) = (List.range (2 ^ k)).map fun i => (List.range 8).filter fun x => decide (x / 2 ^ (3 - k) = i) := by
    unfold cutN
    rw [List.map_drop, List.map_take, grp_table]
    match k, hk with
    | 0, _ | 1, _ | 2, _ | 3, _ => decide
  rw [h2] at h1
  obtain ⟨i, hi, e⟩ := List.mem_map.mp h1
  exact ⟨i, by simpa using hi, e.symm⟩
theorem dom_blk {N : Int} {k : Nat} (hk : k < 4) {d : Str} (h : d ∈ cutN (domS (wordAt N) 7) (2 ^ (3 - k) - 1) (2 ^ (4 - k) - 1)) : ∃ v, v < 2 ^ (3 - k) ∧ d = tx (gd 66 (wd N) (3 - k) v) := by
  have e : cutN (domS (wordAt N) 7) (2 ^ (3 - k) - 1) (2 ^ (4 - k) - 1) = (List.range (2 ^ (3 - k))).map fun v => tx (gd 66 (wd N) (3 - k) v) := by
    rw [dom_tx]
    match k, hk with
    | 0, _ | 1, _ | 2, _ | 3, _ => rfl
  rw [e] at h
  obtain ⟨v, hv, rfl⟩ := List.mem_map.mp h
  exact ⟨v, by simpa using hv, rfl⟩
/-- one of a block and a domain -/
theorem one_in {κ κ' : Nat → Nat} {N : Int} {k : Nat} (hk : k < 4) (I : Inv κ' (codeN κ N (3 - k)) (3 - k)) {i v : Nat} (hi : i < 2 ^ k) (hv : v < 2 ^ (3 - k)) :
    ((inD κ N k v).filter fun x => ((List.range 8).filter fun x => decide (x / 2 ^ (3 - k) = i)).contains (κ' x)).length = 1 := by
  obtain ⟨m, hm, e1, e2⟩ := I.all i v (by rw [show 3 - (3 - k) = k by omega]; exact hi) hv
  have e : (inD κ N k v).filter (fun x => ((List.range 8).filter fun x => decide (x / 2 ^ (3 - k) = i)).contains (κ' x)) = (List.range 8).filter fun y => decide (y = m) := by
    unfold inD
    rw [List.filter_filter]
    apply List.filter_congr
    intro x hx
    have hx8 : x < 8 := by simpa using hx
    have k8 := I.k8 x hx8
    rw [Bool.eq_iff_iff, Bool.and_eq_true, List.contains_iff_mem, List.mem_filter, decide_eq_true_eq, decide_eq_true_eq, decide_eq_true_eq, List.mem_range]
    constructor
    · intro h
      exact I.one x m hx8 hm (h.1.2.trans e1.symm) (h.2.trans e2.symm)
    · intro h
      subst h
      exact ⟨⟨k8, e1⟩, e2⟩
  rw [e, filter_one m hm]; rfl
theorem inD_ok (κ : Nat → Nat) (N : Int) (k v : Nat) : (inD κ N k v).length ≤ 8 ∧ ∀ x ∈ inD κ N k v, x < 8 := by
  unfold inD
  refine ⟨Nat.le_trans (List.length_filter_le _ _) (by simp), fun y hy => ?_⟩
  have := (List.mem_filter.mp hy).1
  simpa using this
theorem spread_ok {l : List Int} (P : Perm8 l) (N : Int) : Spread (clsS (sgn N) 7) (domS (wordAt N) 7) (hidD (clsS (sgn N) 7) (hnames (clsS (sgn N) 7))) (heldD (domS (wordAt N) 7) (hostsT (kap l) N)) l := by
  have K := inv_kap P
  refine Spread.mk fun k hk c hc d hd => ?_
  obtain ⟨i, hi, eg⟩ := cls_blk hk hc
  obtain ⟨v, hv, rfl⟩ := dom_blk hk hd
  obtain ⟨I, J⟩ := invs K N (3 - k) (by omega)
  obtain ⟨g1, g2⟩ := grpS_ok (hnames (clsS (sgn N) 7)) c
  obtain ⟨d1, d2⟩ := inD_ok (kap l) N k v
  have o1 := one_in hk I hi hv
  have o2 := one_in hk J hi hv
  rw [← eg] at o1 o2
  refine ⟨_, _, hid_get (cutN_mem hc), held_ok K N hk hv, d2, d1, g1, ?_, ?_⟩
  · rw [in_filter, nts_len]; exact o1
  · rw [in2_filter P _ _ d2, nts_len]; exact o2
theorem lawOk (ns : List Int) : ∃ N p sec grp f s c z, LawOk ns N p sec grp f s c z := by
  have P := perm_exch (ns.take 12)
  generalize hl : exch (ns.take 12) = l at P
  have K := inv_kap P
  generalize hN : (65664 + isum (ins ns) : Int) = N
  have m := mod8 N
  have hp : N.fmod 8 = ((N.fmod 8).toNat : Int) := (Int.toNat_of_nonneg m.1).symm
  have p8 : (N.fmod 8).toNat < 8 := by omega
  have eh : ∀ p, p < 8 → (hostsT (kap l) N).getD p e0 = tx (hst N (codeN (kap l) N 3 p)) := fun p hp => hosts_at K N hp
  have hosts : ∀ h ∈ hostsT (kap l) N, Host h := fun h hh => by
    obtain ⟨i, hi⟩ := List.getElem?_of_mem hh
    have hlt : i < 8 := by
      have h1 := (List.getElem?_eq_some_iff.mp hi).1
      rw [hosts_len] at h1; exact h1
    have := eh i hlt
    rw [List.getD_eq_getElem?_getD, hi] at this
    have t : h = tx (hst N (codeN (kap l) N 3 i)) := this
    rw [t]; exact hst_host N _
  obtain ⟨z, E⟩ := hst_edge N (codeN (kap l) N 3 (N.fmod 8).toNat)
  rw [← eh _ p8] at E
  have cl : (clsS (sgn N) 7).length = 15 := clsS_len _ _
  obtain ⟨x, ex, xa, xl, t, xt⟩ := cls_at (getD_in (l := clsS (sgn N) 7) (i := 7 + (N.fmod 8).toNat) (by omega))
  have C := corn_of xa xl xt
  rw [← ex] at C
  exact ⟨N, (N.fmod 8).toNat, secOf l, _, _, _, _, z, LawOk.mk hN.symm hp p8 (by rw [hl]; exact sec_nts P) (dealt_ok P N) (by rw [hl]; exact spread_ok P N) hosts dom_tame priv_none dom_rgood (reach_all N) C E⟩
end Mine
end
section
open PySem PySem.W PyProof.Rows PySem.Calls PySem.Spec
set_option maxRecDepth 100000
set_option maxHeartbeats 0
namespace Mine
theorem well_ints {C : Cx} {P : Params} {h : Heap} : ∀ {vs : List Value} {ns : List Int}, WellAll P h vs (ofPys (ns.map PyData.int)) → RepL C [] h vs (ins ns)
  | _, [], w => by cases w; exact .nil
  | _, n :: ns, w => by
    cases w with
    | cons a r =>
      cases a with
      | int _ t => exact .cons (.int _ _) (well_ints r)
theorem law02_all {C : Cx} {P : Params} (hK : C.K = hd.heap_39 P) (ns : List Int) (h : ns.length ≤ 63) {A : Around} {s : Shared} {v : Value} (ok : Ok 20 A) (gold : ∀ b o, C.h₀.get? b = some o → s.heap.get? b = some o) (hr : Mine.Rep C [] s.heap v (.list (ins ns))) :
    Wp C A (call (.ref 137) [v]) (fun r s' => Kp s s' ∧ Mine.Rep C [] s'.heap r (.bool true)) s := by
  obtain ⟨N, p, sec, grp, f, s', c, z, L⟩ := lawOk ns
  exact law02 hK ns h L ok gold hr
set_option pp.deepTerms false
set_option pp.maxSteps 3000
theorem final02 : PySem.Challenge.rw_sw0008_02.Holds := hd (by
  k_fill
  intro w s₀ s₁ mg mb G Y fa o pm cd doc dV kV ho hd' hcd hD hmg hg args vals as hpre hlay hrd hwl hlo
  have KX := kIn_of Y
  have X := (Ground.X G).1
  have V := (Ground.X G).2
  refine Ground.open G ?_
  intro T B D TE TW
  wrow_args hpre hlay hrd hwl hlo
  have TR := topRead_of T
  have hfa : mg (Str.ofString "law") = some (.ref 137) := mg_of KX TR.g (by kernel_rfl)
  rename_i ns hs hlay0 hLay hr1 hl2 as4 as3 l vs as0 hL ra w1 r0 hI hr2 hcond hc2
  have e137 : fa = 137 := by
    have h2 : mg (Str.ofString "law") = some (.ref fa) := hmg
    rw [hfa] at h2
    cases h2; rfl
  subst e137
  let C : Mine.Cx := { prog := PySem.Challenge.rw_sw0008_02.row.prog, w := w, K := hd.heap_39 w.params, h₀ := s₁.heap, mg := mg, mb := mb, inK := KX, g := TR.g, b := TR.b, nolimit := TR.nolimit, bi := TR.builtins }
  have hrep : Mine.Rep C [] s₁.heap (.ref l) (.list (Mine.ins ns)) := by
    have w2 : Well w.params s₁.heap (Value.ref l) (.list (ofPys (ns.map PyData.int))) := w1
    cases w2 with
    | list e a => exact .list (n := 0) (by simp) e (Mine.well_ints a)
  have hlaw := Mine.law02_all (C := C) (P := w.params) rfl ns (by omega) (A := callerA) (s := s₁) (v := .ref l) ⟨rfl, by decide, by decide⟩ (fun _ _ e => e) hrep
  refine wpAny_mono hlaw (fun v s' h => ?_) (fun _ _ x => x.elim)
  obtain ⟨k, r⟩ := h
  cases r
  obtain ⟨⟨h', t', rfl, kk⟩, _⟩ := k

  refine ⟨.inl ⟨_, _, [], rfl, ?_, ReadsW.bool true, ?_, fun _ => ⟨List.nodup_nil, fun _ hm => (nomatch hm)⟩⟩, ?_, rfl, ?_⟩
  · exact fun _ => rfl
  · first | rfl | wrow_post
  · exact OldK.of_keep kk
  · show AllBare s₁.gens
    rw [hg]; exact AllBare.empty)
end Mine
set_option maxRecDepth 100000 in
theorem PySem.Challenge.cw_sw0008_02_holds : PySem.Challenge.rw_sw0008_02.Holds :=
  Mine.final02
end
