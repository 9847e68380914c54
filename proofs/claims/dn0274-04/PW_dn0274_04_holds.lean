import PyProof.Rows.All
import Wide.All
import OpenK.AllK
import Wide.FinOn
import PySem.Challenge.RW_dn0274_04
open PySem PySem.W PyProof.Rows
set_option Elab.async false
set_option linter.all false
set_option maxRecDepth 100000
namespace Mine

/-- abstract values -/
inductive V where
  | none
  | bool (b : Bool)
  | int (i : Int)
  | str (s : Str)
  | loc (k : Nat)
  | tup (vs : List V)
  | obj (c : Nat) (fs : List V)
  | glob (a : Addr)
  | script
  | tok (x : Value)

/-- a number or a text with its own identity -/
noncomputable def okTok : Value → Bool
  | .int _ t => t != 0
  | .str _ t => t != 0
  | _ => false

/-- abstract mutable objects -/
inductive LO where
  | list (xs : List V)
  | inst (c : Nat) (fs : List (Option V))
  | dict (kvs : List (Int × V))
  | tab (n : Nat)

noncomputable abbrev HW := List LO
noncomputable abbrev Sl := List (Option V)

/-- what stays as it is throughout the law's call -/
structure Cx where
  prog : Program
  w : World
  h₀ : Heap
  mg : Str → Option Value
  mb : Str → Option Value
  K : Frag
  aS : Addr
  vs : List Value
  ns : List Int
  cls : Nat → Addr
  gC : Addr → Option (Nat × Nat)

structure Good (c : Cx) : Prop where
  G : c.h₀.Ns mainGlobals c.mg
  B : c.h₀.Ns builtinsNs c.mb
  NL : c.h₀.NoLimit
  X : c.K.In c.h₀
  BB : ∀ x, x ≠ Str.ofString "__name__" → c.mb x = bootBuiltins x
  S : c.h₀.IsList c.aS c.vs.toArray
  I : IntsAre c.vs c.ns
  gl : ∀ a k n, c.gC a = some (k, n) → ∃ b, c.h₀.get? a = some ⟨.ref (c.cls k), some b, .plain, (List.replicate n (some Value.none)).toArray⟩ ∧ c.h₀.get? b = some (dictOf [] 0)

/-- which addresses bear the tracked objects, and which bear what values lean on and nothing turns -/
structure Mp where
  l : List Addr
  z : List Addr

mutual
inductive RepV (c : Cx) (φ : Mp) (h : Heap) : V → Value → Prop
  | none : RepV c φ h .none .none
  | bool {b} : RepV c φ h (.bool b) (.bool b)
  | int {i t} : RepV c φ h (.int i) (.int i t)
  | str {s t} : RepV c φ h (.str s) (.str s t)
  | loc {k a} : φ.l[k]? = some a → RepV c φ h (.loc k) (.ref a)
  | tup {vs xs a n} : a ∉ φ.l → a ∈ φ.z → c.h₀.get? a = none → h.get? a = some { cls := .type "tuple", data := .seq xs.toArray n } → RepVs c φ h vs xs → RepV c φ h (.tup vs) (.ref a)
  | obj {k fs xs a b} {sl : Array (Option Value)} : a ∉ φ.l → a ∈ φ.z → b ∉ φ.l → b ∈ φ.z → c.h₀.get? a = none → h.get? a = some ⟨.ref (c.cls k), some b, .plain, sl⟩ → (∀ i : Nat, (sl[i]?).join = xs[i]?) → h.get? b = some (dictOf [] 0) → RepVs c φ h fs xs → RepV c φ h (.obj k fs) (.ref a)
  | glob {a o} : c.h₀.get? a = some o → RepV c φ h (.glob a) (.ref a)
  | script : RepV c φ h .script (.ref c.aS)
  | tok {x} : okTok x = true → RepV c φ h (.tok x) x
inductive RepVs (c : Cx) (φ : Mp) (h : Heap) : List V → List Value → Prop
  | nil : RepVs c φ h [] []
  | cons {v x vs xs} : RepV c φ h v x → RepVs c φ h vs xs → RepVs c φ h (v :: vs) (x :: xs)
end

/-- the heap has grown; what is not tracked stands as it stood -/
structure Grow (φ : Mp) (h : Heap) (φ' : Mp) (h' : Heap) : Prop where
  ext : ∃ δ ζ, φ'.l = φ.l ++ δ ∧ φ'.z = φ.z ++ ζ ∧ (∀ a ∈ δ, h.get? a = none) ∧ ∀ a ∈ ζ, h.get? a = none
  keep : ∀ b o, h.get? b = some o → b ∉ φ.l → h'.get? b = some o
  live : ∀ b o, h.get? b = some o → ∃ o', h'.get? b = some o'

theorem Grow.nin {φ h φ' h'} (g : Grow φ h φ' h') {a o} (n : a ∉ φ.l) (e : h.get? a = some o) : a ∉ φ'.l := by
  obtain ⟨δ, ζ, e1, e2, hd, hz⟩ := g.ext
  rw [e1]
  intro m
  rcases List.mem_append.mp m with m | m
  · exact n m
  · rw [hd a m] at e; cases e
theorem Grow.ninz {φ h φ' h'} (g : Grow φ h φ' h') {a o} (n : a ∉ φ.z) (e : h.get? a = some o) : a ∉ φ'.z := by
  obtain ⟨δ, ζ, e1, e2, hd, hz⟩ := g.ext
  rw [e2]
  intro m
  rcases List.mem_append.mp m with m | m
  · exact n m
  · rw [hz a m] at e; cases e
theorem Grow.inz {φ h φ' h'} (g : Grow φ h φ' h') {a} (n : a ∈ φ.z) : a ∈ φ'.z := by
  obtain ⟨δ, ζ, e1, e2, hd, hz⟩ := g.ext
  rw [e2]; exact List.mem_append_left _ n
theorem Grow.at {φ h φ' h'} (g : Grow φ h φ' h') {k : Nat} {a} (e : φ.l[k]? = some a) : φ'.l[k]? = some a := by
  obtain ⟨δ, ζ, e1, _, _⟩ := g.ext
  rw [e1, List.getElem?_append_left]
  · exact e
  · exact (List.getElem?_eq_some_iff.mp e).1
theorem Grow.refl (φ h) : Grow φ h φ h := ⟨⟨[], [], by simp, by simp, by simp, by simp⟩, fun _ _ e _ => e, fun _ o e => ⟨o, e⟩⟩
theorem Grow.trans {φ h φ₁ h₁ φ₂ h₂} (g : Grow φ h φ₁ h₁) (g' : Grow φ₁ h₁ φ₂ h₂) : Grow φ h φ₂ h₂ := by
  refine ⟨?_, fun b o e n => g'.keep b o (g.keep b o e n) (g.nin n e), fun b o e => ?_⟩
  · obtain ⟨δ, ζ, e1, e2, hd, hz⟩ := g.ext
    obtain ⟨δ', ζ', e1', e2', hd', hz'⟩ := g'.ext
    refine ⟨δ ++ δ', ζ ++ ζ', by simp [e1, e1'], by simp [e2, e2'], fun a m => ?_, fun a m => ?_⟩
    · rcases List.mem_append.mp m with m | m
      · exact hd a m
      · cases q : h.get? a with
        | none => rfl
        | some o => obtain ⟨o', e'⟩ := g.live a o q; rw [hd' a m] at e'; cases e'
    · rcases List.mem_append.mp m with m | m
      · exact hz a m
      · cases q : h.get? a with
        | none => rfl
        | some o => obtain ⟨o', e'⟩ := g.live a o q; rw [hz' a m] at e'; cases e'
  · obtain ⟨o', e'⟩ := g.live b o e
    exact g'.live b o' e'
/-- nothing tracked is touched, nothing new is tracked -/
theorem Grow.of_keep {φ h h'} (k : ∀ b o, h.get? b = some o → h'.get? b = some o) : Grow φ h φ h' :=
  ⟨⟨[], [], by simp, by simp, by simp, by simp⟩, fun b o e _ => k b o e, fun b o e => ⟨o, k b o e⟩⟩

mutual
theorem RepV.grow {c : Cx} {φ h φ' h'} (g : Grow φ h φ' h') : ∀ {v x}, RepV c φ h v x → RepV c φ' h' v x
  | _, _, .none => .none
  | _, _, .bool => .bool
  | _, _, .int => .int
  | _, _, .str => .str
  | _, _, .loc e => .loc (g.at e)
  | _, _, .tup n z n0 e r => .tup (g.nin n e) (g.inz z) n0 (g.keep _ _ e n) (RepVs.grow g r)
  | _, _, .obj n z m y n0 e es e' r => .obj (g.nin n e) (g.inz z) (g.nin m e') (g.inz y) n0 (g.keep _ _ e n) es (g.keep _ _ e' m) (RepVs.grow g r)
  | _, _, .glob e => .glob e
  | _, _, .script => .script
  | _, _, .tok e => .tok e
theorem RepVs.grow {c : Cx} {φ h φ' h'} (g : Grow φ h φ' h') : ∀ {vs xs}, RepVs c φ h vs xs → RepVs c φ' h' vs xs
  | _, _, .nil => .nil
  | _, _, .cons r rs => .cons (RepV.grow g r) (RepVs.grow g rs)
end

mutual
theorem RepV.keep {c : Cx} {φ h h'} (g : ∀ b o, b ∈ φ.z → h.get? b = some o → h'.get? b = some o) : ∀ {v x}, RepV c φ h v x → RepV c φ h' v x
  | _, _, .none => .none
  | _, _, .bool => .bool
  | _, _, .int => .int
  | _, _, .str => .str
  | _, _, .loc e => .loc e
  | _, _, .tup n z n0 e r => .tup n z n0 (g _ _ z e) (RepVs.keep g r)
  | _, _, .obj n z m y n0 e es e' r => .obj n z m y n0 (g _ _ z e) es (g _ _ y e') (RepVs.keep g r)
  | _, _, .glob e => .glob e
  | _, _, .script => .script
  | _, _, .tok e => .tok e
theorem RepVs.keep {c : Cx} {φ h h'} (g : ∀ b o, b ∈ φ.z → h.get? b = some o → h'.get? b = some o) : ∀ {vs xs}, RepVs c φ h vs xs → RepVs c φ h' vs xs
  | _, _, .nil => .nil
  | _, _, .cons r rs => .cons (RepV.keep g r) (RepVs.keep g rs)
end

theorem RepVs.length {c : Cx} {φ h} : ∀ {vs xs}, RepVs c φ h vs xs → vs.length = xs.length
  | _, _, .nil => rfl
  | _, _, .cons _ r => by simp [r.length]
theorem RepVs.get {c : Cx} {φ h} : ∀ {vs xs}, RepVs c φ h vs xs → ∀ {i : Nat} {v}, vs[i]? = some v → ∃ x, xs[i]? = some x ∧ RepV c φ h v x
  | _, _, .nil, i, v, e => by simp at e
  | _, _, .cons r rs, 0, v, e => by
    simp at e; subst e; exact ⟨_, rfl, r⟩
  | _, _, .cons r rs, i + 1, v, e => by
    simp at e; obtain ⟨x, h1, h2⟩ := rs.get e; exact ⟨x, by simpa using h1, h2⟩
theorem RepVs.append {c : Cx} {φ h} : ∀ {vs xs ws ys}, RepVs c φ h vs xs → RepVs c φ h ws ys → RepVs c φ h (vs ++ ws) (xs ++ ys)
  | _, _, _, _, .nil, s => s
  | _, _, _, _, .cons r rs, s => .cons r (rs.append s)
theorem RepVs.take {c : Cx} {φ h} : ∀ {vs xs}, RepVs c φ h vs xs → ∀ n : Nat, RepVs c φ h (vs.take n) (xs.take n)
  | _, _, .nil, n => by simp; exact .nil
  | _, _, .cons r rs, 0 => by simp; exact .nil
  | _, _, .cons r rs, n + 1 => by simp; exact .cons r (rs.take n)
theorem RepVs.drop {c : Cx} {φ h} : ∀ {vs xs}, RepVs c φ h vs xs → ∀ n : Nat, RepVs c φ h (vs.drop n) (xs.drop n)
  | _, _, .nil, n => by simp; exact .nil
  | _, _, .cons r rs, 0 => by simp; exact .cons r rs
  | _, _, .cons r rs, n + 1 => by simp; exact rs.drop n
theorem RepVs.reverse {c : Cx} {φ h} : ∀ {vs xs}, RepVs c φ h vs xs → RepVs c φ h vs.reverse xs.reverse
  | _, _, .nil => .nil
  | _, _, .cons r rs => by simp only [List.reverse_cons]; exact rs.reverse.append (.cons r .nil)

/-- the object of the heap that bears an abstract one -/
inductive RepO (c : Cx) (φ : Mp) (h : Heap) : LO → Obj → Prop
  | list {vs xs n} : RepVs c φ h vs xs → RepO c φ h (.list vs) { cls := .type "list", data := .seq xs.toArray n }
  | inst {k : Nat} {fs : List (Option V)} {xs : Array (Option Value)} {b : Addr} : (∀ (i : Nat) v, (fs[i]?).join = some v → ∃ x, (xs[i]?).join = some x ∧ RepV c φ h v x) → (∀ i : Nat, (fs[i]?).join = none → (xs[i]?).join = none) →
      b ∉ φ.l → b ∈ φ.z → h.get? b = some (dictOf [] 0) → RepO c φ h (.inst k fs) ⟨.ref (c.cls k), some b, .plain, xs⟩
  | dict {kvs : List (Int × V)} {xs : List (Int × Value)} {o : Obj} : o.IsDictOf (intKind c.prog c.w) xs → xs.map (·.1) = kvs.map (·.1) → RepVs c φ h (kvs.map (·.2)) (xs.map (·.2)) → RepO c φ h (.dict kvs) o
  | tab {n : Nat} {ps : Array Value} : ps.size = n → RepO c φ h (.tab n) { cls := .none, data := .fields ps }

theorem RepO.grow {c : Cx} {φ h φ' h'} (g : Grow φ h φ' h') {lo o} (r : RepO c φ h lo o) : RepO c φ' h' lo o := by
  cases r with
  | list r => exact .list (r.grow g)
  | dict d k r => exact .dict d k (r.grow g)
  | tab e => exact .tab e
  | inst r z n y e => exact .inst (fun i v e => by obtain ⟨x, h1, h2⟩ := r i v e; exact ⟨x, h1, h2.grow g⟩) z (g.nin n e) (g.inz y) (g.keep _ _ e n)
theorem RepO.keep {c : Cx} {φ h h'} (g : ∀ b o, b ∈ φ.z → h.get? b = some o → h'.get? b = some o) {lo o} (r : RepO c φ h lo o) : RepO c φ h' lo o := by
  cases r with
  | list r => exact .list (r.keep g)
  | dict d k r => exact .dict d k (r.keep g)
  | tab e => exact .tab e
  | inst r z n y e => exact .inst (fun i v e => by obtain ⟨x, h1, h2⟩ := r i v e; exact ⟨x, h1, h2.keep g⟩) z n y (g _ _ y e)

structure Ok (c : Cx) (φ : Mp) (H : HW) (h : Heap) : Prop where
  base : ∀ b o, c.h₀.get? b = some o → h.get? b = some o
  off : ∀ b o, c.h₀.get? b = some o → b ∉ φ.l
  len : φ.l.length = H.length
  nodup : φ.l.Nodup
  objs : ∀ (k : Nat) a lo, φ.l[k]? = some a → H[k]? = some lo → ∃ o, h.get? a = some o ∧ RepO c φ h lo o
  dj : ∀ a, a ∈ φ.z → a ∉ φ.l
  zl : ∀ a, a ∈ φ.z → ∃ o, h.get? a = some o
  g0 : ∃ o, c.h₀.get? mainGlobals = some o
  sm : ∀ a, a ∈ φ.l → a ≠ sysModules
theorem Ok.newS {c φ H h} (ok : Ok c φ H h) : h.objs.size ≠ sysModules := by
  obtain ⟨o, e⟩ := ok.g0
  have := Heap.lt_size (ok.base _ _ e)
  intro q
  rw [q] at this
  exact absurd this (by decide)
theorem Ok.newS1 {c φ H h} (ok : Ok c φ H h) : h.objs.size + 1 ≠ sysModules := by
  obtain ⟨o, e⟩ := ok.g0
  have := Heap.lt_size (ok.base _ _ e)
  intro q
  have h2 : mainGlobals < h.objs.size + 1 := Nat.lt_succ_of_lt this
  rw [q] at h2
  exact absurd h2 (by decide)

theorem Ok.live {c φ H h} (ok : Ok c φ H h) {a} (m : a ∈ φ.l) : ∃ o, h.get? a = some o := by
  obtain ⟨k, hk, e⟩ := List.getElem_of_mem m
  have hk' : k < H.length := by rw [← ok.len]; exact hk
  obtain ⟨o, e', _⟩ := ok.objs k a H[k] (by rw [List.getElem?_eq_getElem hk, e]) (List.getElem?_eq_getElem hk')
  exact ⟨o, e'⟩
/-- untracked objects alone are new -/
theorem Ok.keep {c φ H h h'} (ok : Ok c φ H h) (k : ∀ b o, h.get? b = some o → h'.get? b = some o) : Ok c φ H h' :=
  ⟨fun b o e => k b o (ok.base b o e), ok.off, ok.len, ok.nodup, fun i a lo e1 e2 => by
    obtain ⟨o, h1, h2⟩ := ok.objs i a lo e1 e2
    exact ⟨o, k _ _ h1, h2.keep fun b o _ e => k b o e⟩, ok.dj, fun a m => by obtain ⟨o, e⟩ := ok.zl a m; exact ⟨o, k _ _ e⟩, ok.g0, ok.sm⟩
/-- an object that is neither tracked nor leant on is turned -/
theorem Ok.same {c φ H h h'} (ok : Ok c φ H h) {L : Addr} (n : L ∉ φ.l) (z : L ∉ φ.z) (n0 : c.h₀.get? L = none) (k : ∀ b o, b ≠ L → h.get? b = some o → h'.get? b = some o) : Ok c φ H h' :=
  ⟨fun b o e => k b o (fun q => by rw [q, n0] at e; cases e) (ok.base b o e), ok.off, ok.len, ok.nodup, fun i a lo e1 e2 => by
    obtain ⟨o, h1, h2⟩ := ok.objs i a lo e1 e2
    exact ⟨o, k _ _ (fun q => n (q ▸ List.mem_of_getElem? e1)) h1, h2.keep fun b o y e => k b o (fun q => z (q ▸ y)) e⟩, ok.dj, fun a m => by obtain ⟨o, e⟩ := ok.zl a m; exact ⟨o, k _ _ (fun q => z (q ▸ m)) e⟩, ok.g0, ok.sm⟩
/-- a new object that values lean on -/
theorem Ok.freeze {c φ H h h'} (ok : Ok c φ H h) {a : Addr} {o : Obj} (n : h.get? a = none) (k : ∀ b o, h.get? b = some o → h'.get? b = some o) (e : h'.get? a = some o) :
    Ok c ⟨φ.l, φ.z ++ [a]⟩ H h' ∧ Grow φ h ⟨φ.l, φ.z ++ [a]⟩ h' := by
  have g : Grow φ h ⟨φ.l, φ.z ++ [a]⟩ h' := ⟨⟨[], [a], by simp, rfl, by simp, fun b m => by rw [List.mem_singleton.mp m]; exact n⟩, fun b o e _ => k b o e, fun b o e => ⟨o, k b o e⟩⟩
  refine ⟨⟨fun b o e => k b o (ok.base b o e), ok.off, ok.len, ok.nodup, fun i x lo' e1 e2 => ?_, fun b m => ?_, fun b m => ?_, ok.g0, ok.sm⟩, g⟩
  · obtain ⟨o', h1, h2⟩ := ok.objs i x lo' e1 e2
    exact ⟨o', k _ _ h1, h2.grow g⟩
  · rcases List.mem_append.mp m with m | m
    · exact ok.dj b m
    · rw [List.mem_singleton.mp m]
      intro q
      obtain ⟨o', e'⟩ := ok.live q
      rw [n] at e'; cases e'
  · rcases List.mem_append.mp m with m | m
    · obtain ⟨o, e⟩ := ok.zl b m; exact ⟨o, k _ _ e⟩
    · rw [List.mem_singleton.mp m]; exact ⟨o, e⟩
/-- a new tracked object -/
theorem Ok.alloc {c φ H h h'} (ok : Ok c φ H h) {a : Addr} {o : Obj} {lo : LO} (n : h.get? a = none) (k : ∀ b o, h.get? b = some o → h'.get? b = some o) (e : h'.get? a = some o) (r : RepO c φ h lo o) (hm : a ≠ sysModules) :
    Ok c ⟨φ.l ++ [a], φ.z⟩ (H ++ [lo]) h' ∧ Grow φ h ⟨φ.l ++ [a], φ.z⟩ h' := by
  have g : Grow φ h ⟨φ.l ++ [a], φ.z⟩ h' := ⟨⟨[a], [], rfl, by simp, fun b m => by rw [List.mem_singleton.mp m]; exact n, by simp⟩, fun b o e _ => k b o e, fun b o e => ⟨o, k b o e⟩⟩
  refine ⟨⟨fun b o e => k b o (ok.base b o e), fun b o e m => ?_, by simp [ok.len], ?_, fun i x lo' e1 e2 => ?_, fun b m q => ?_, fun b m => by obtain ⟨o, e⟩ := ok.zl b m; exact ⟨o, k _ _ e⟩, ok.g0, fun b m => (List.mem_append.mp m).elim (ok.sm b) fun q => by rw [List.mem_singleton.mp q]; exact hm⟩, g⟩
  · rcases List.mem_append.mp m with m | m
    · exact ok.off b o e m
    · rw [List.mem_singleton.mp m] at e; have := ok.base a o e; rw [n] at this; cases this
  · refine List.nodup_append.mpr ⟨ok.nodup, by simp, fun x m y m' q => ?_⟩
    rw [List.mem_singleton.mp m'] at q
    obtain ⟨o', e'⟩ := ok.live m
    rw [q, n] at e'; cases e'
  · by_cases hi : i < φ.l.length
    · rw [List.getElem?_append_left hi] at e1
      rw [List.getElem?_append_left (by rw [← ok.len]; exact hi)] at e2
      obtain ⟨o', h1, h2⟩ := ok.objs i x lo' e1 e2
      exact ⟨o', k _ _ h1, h2.grow g⟩
    · have hi' : φ.l.length ≤ i := Nat.not_lt.mp hi
      rw [List.getElem?_append_right hi'] at e1
      rw [List.getElem?_append_right (by rw [← ok.len]; exact hi'), ← ok.len] at e2
      cases q : i - φ.l.length with
      | zero =>
        rw [q] at e1 e2
        simp at e1 e2
        subst e1 e2
        exact ⟨o, e, r.grow g⟩
      | succ j => rw [q] at e1; simp at e1
  · rcases List.mem_append.mp q with q | q
    · exact ok.dj b m q
    · obtain ⟨o', e'⟩ := ok.zl b m
      rw [List.mem_singleton.mp q, n] at e'; cases e'
/-- a tracked object is turned -/
theorem Ok.put {c φ H h h'} (ok : Ok c φ H h) {k : Nat} {a : Addr} {o : Obj} {lo : LO} (ek : φ.l[k]? = some a) (sb : ∀ b o, b ≠ a → h.get? b = some o → h'.get? b = some o) (e : h'.get? a = some o) (r : RepO c φ h lo o) :
    Ok c φ (H.set k lo) h' ∧ Grow φ h φ h' := by
  have ma : a ∈ φ.l := List.mem_of_getElem? ek
  have g : Grow φ h φ h' := ⟨⟨[], [], by simp, by simp, by simp, by simp⟩, fun b o e n => sb b o (fun q => n (q ▸ ma)) e, fun b o' e' => by
    by_cases q : b = a
    · exact ⟨o, q ▸ e⟩
    · exact ⟨o', sb b o' q e'⟩⟩
  refine ⟨⟨fun b o e => sb b o (fun q => ok.off b o e (q ▸ ma)) (ok.base b o e), ok.off, by simp [ok.len], ok.nodup, fun i x lo' e1 e2 => ?_, ok.dj, fun b m => by obtain ⟨o, e⟩ := ok.zl b m; exact ⟨o, sb _ _ (fun q => ok.dj b m (q ▸ ma)) e⟩, ok.g0, ok.sm⟩, g⟩
  by_cases q : i = k
  · subst q
    rw [e1] at ek
    cases ek
    rw [List.getElem?_set_self (by rw [← ok.len]; exact (List.getElem?_eq_some_iff.mp e1).1)] at e2
    cases e2
    exact ⟨o, e, r.grow g⟩
  · rw [List.getElem?_set_ne (Ne.symm q)] at e2
    obtain ⟨o', h1, h2⟩ := ok.objs i x lo' e1 e2
    refine ⟨o', sb _ _ (fun z => q ?_) h1, h2.grow g⟩
    subst z
    obtain ⟨l1, e1'⟩ := List.getElem?_eq_some_iff.mp e1
    obtain ⟨l2, ek'⟩ := List.getElem?_eq_some_iff.mp ek
    exact (List.getElem_inj (h₀ := l1) (h₁ := l2) ok.nodup).mp (e1'.trans ek'.symm)
end Mine

namespace Mine

inductive Fl where
  | next
  | ret (v : V)

noncomputable def RepF (c : Cx) (φ : Mp) (h : Heap) : Fl → Flow → Prop
  | .next, .next => True
  | .ret v, .ret x => RepV c φ h v x
  | _, _ => False

structure EnvOK (sc : Scope) (env : Env) : Prop where
  scope : env.scope = sc
  glob : env.globals = mainGlobals
  bi : env.builtins = builtinsNs
theorem EnvOK.kind {sc env} (e : EnvOK sc env) (x : Str) : env.kindOf x = sc.names.lookup x := by
  unfold Env.kindOf; rw [e.scope]

structure AOK (d : Nat) (A : Around) : Prop where
  handled : A.handled = none
  guards : A.guards = some []
  depth : A.depth + d < 900
  units : A.units + 20 * d < 9000

noncomputable def Rest (s s' : Shared) : Prop := ∃ h t, s' = { s with heap := h, toks := t }
theorem Rest.refl (s : Shared) : Rest s s := ⟨s.heap, s.toks, rfl⟩
theorem Rest.trans {a b c : Shared} (x : Rest a b) (y : Rest b c) : Rest a c := by
  obtain ⟨_, _, rfl⟩ := x
  obtain ⟨_, _, rfl⟩ := y
  exact ⟨_, _, rfl⟩
theorem Rest.mk (s : Shared) (h t) : Rest s { s with heap := h, toks := t } := ⟨h, t, rfl⟩

structure Vars (c : Cx) (ρ : List Str) (φ : Mp) (h : Heap) (env : Env) (sl : Sl) : Prop where
  nd : ρ.Nodup
  len : sl.length = ρ.length
  offL : env.locals ∉ φ.l
  offZ : env.locals ∉ φ.z
  newL : c.h₀.get? env.locals = none
  loc : ∃ m, h.Ns env.locals m ∧ ∀ (i : Nat) x v, ρ[i]? = some x → env.kindOf x = some .local → sl[i]? = some (some v) → ∃ y, m x = some y ∧ RepV c φ h v y
  offC : ∀ x a, env.cells.lookup x = some a → a ∉ φ.l ∧ a ∉ φ.z ∧ c.h₀.get? a = none ∧ ∃ y, h.IsCell a y
  inj : ∀ x y a, env.cells.lookup x = some a → env.cells.lookup y = some a → x = y
  cel : ∀ (i : Nat) x v, ρ[i]? = some x → (env.kindOf x = some .cell ∨ env.kindOf x = some .free) → sl[i]? = some (some v) → ∃ a y, env.cells.lookup x = some a ∧ h.IsCell a (some y) ∧ RepV c φ h v y
  has : ∀ (i : Nat) x, ρ[i]? = some x → env.kindOf x = some .cell → ∃ a, env.cells.lookup x = some a

theorem Vars.grow {c ρ φ h env sl φ' h'} (v : Vars c ρ φ h env sl) (g : Grow φ h φ' h') : Vars c ρ φ' h' env sl := by
  obtain ⟨m, hn, hm⟩ := v.loc
  obtain ⟨o, es, ep, ho, r⟩ := id hn
  refine ⟨v.nd, v.len, g.nin v.offL ho, g.ninz v.offZ ho, v.newL, ⟨m, ⟨o, es, ep, g.keep _ _ ho v.offL, r⟩, fun i x w h1 h2 h3 => ?_⟩, fun x a e => ?_, v.inj, fun i x w h1 h2 h3 => ?_, v.has⟩
  · obtain ⟨y, h4, h5⟩ := hm i x w h1 h2 h3
    exact ⟨y, h4, h5.grow g⟩
  · obtain ⟨n, z, n0, y, o', ho', hd⟩ := v.offC x a e
    exact ⟨g.nin n ho', g.ninz z ho', n0, y, o', g.keep _ _ ho' n, hd⟩
  · obtain ⟨a, y, h4, ⟨o', ho', hd⟩, h6⟩ := v.cel i x w h1 h2 h3
    exact ⟨a, y, h4, ⟨o', g.keep _ _ ho' (v.offC x a h4).1, hd⟩, h6.grow g⟩

/-- what statements leave as it was -/
structure GrowS (env : Env) (φ : Mp) (h : Heap) (φ' : Mp) (h' : Heap) : Prop where
  ext : ∃ δ ζ, φ'.l = φ.l ++ δ ∧ φ'.z = φ.z ++ ζ ∧ (∀ a ∈ δ, h.get? a = none) ∧ ∀ a ∈ ζ, h.get? a = none
  keep : ∀ b o, h.get? b = some o → b ∉ φ.l → b ≠ env.locals → (∀ x, env.cells.lookup x ≠ some b) → h'.get? b = some o
  live : ∀ b o, h.get? b = some o → ∃ o', h'.get? b = some o'
theorem GrowS.nin {env φ h φ' h'} (g : GrowS env φ h φ' h') {a o} (n : a ∉ φ.l) (e : h.get? a = some o) : a ∉ φ'.l := by
  obtain ⟨δ, ζ, e1, e2, hd, hz⟩ := g.ext
  rw [e1]
  intro m
  rcases List.mem_append.mp m with m | m
  · exact n m
  · rw [hd a m] at e; cases e
theorem GrowS.ninz {env φ h φ' h'} (g : GrowS env φ h φ' h') {a o} (n : a ∉ φ.z) (e : h.get? a = some o) : a ∉ φ'.z := by
  obtain ⟨δ, ζ, e1, e2, hd, hz⟩ := g.ext
  rw [e2]
  intro m
  rcases List.mem_append.mp m with m | m
  · exact n m
  · rw [hz a m] at e; cases e
theorem GrowS.at {env φ h φ' h'} (g : GrowS env φ h φ' h') {k : Nat} {a} (e : φ.l[k]? = some a) : φ'.l[k]? = some a := by
  obtain ⟨δ, ζ, e1, _, _⟩ := g.ext
  rw [e1, List.getElem?_append_left]
  · exact e
  · exact (List.getElem?_eq_some_iff.mp e).1
theorem GrowS.trans {env φ h φ₁ h₁ φ₂ h₂} (g : GrowS env φ h φ₁ h₁) (g' : GrowS env φ₁ h₁ φ₂ h₂) : GrowS env φ h φ₂ h₂ := by
  refine ⟨?_, fun b o e n n1 n2 => g'.keep b o (g.keep b o e n n1 n2) (g.nin n e) n1 n2, fun b o e => ?_⟩
  · obtain ⟨δ, ζ, e1, e2, hd, hz⟩ := g.ext
    obtain ⟨δ', ζ', e1', e2', hd', hz'⟩ := g'.ext
    refine ⟨δ ++ δ', ζ ++ ζ', by simp [e1, e1'], by simp [e2, e2'], fun a m => ?_, fun a m => ?_⟩
    · rcases List.mem_append.mp m with m | m
      · exact hd a m
      · cases q : h.get? a with
        | none => rfl
        | some o => obtain ⟨o', e'⟩ := g.live a o q; rw [hd' a m] at e'; cases e'
    · rcases List.mem_append.mp m with m | m
      · exact hz a m
      · cases q : h.get? a with
        | none => rfl
        | some o => obtain ⟨o', e'⟩ := g.live a o q; rw [hz' a m] at e'; cases e'
  · obtain ⟨o', e'⟩ := g.live b o e
    exact g'.live b o' e'
theorem GrowS.refl (env φ h) : GrowS env φ h φ h := ⟨⟨[], [], by simp, by simp, by simp, by simp⟩, fun _ _ e _ _ _ => e, fun _ o e => ⟨o, e⟩⟩
theorem Grow.toS {env φ h φ' h'} (g : Grow φ h φ' h') : GrowS env φ h φ' h' := ⟨g.ext, fun b o e n _ _ => g.keep b o e n, g.live⟩

noncomputable def PostE (c : Cx) (φ : Mp) (s : Shared) (Q : V → HW → Prop) (x : Value) (s' : Shared) : Prop :=
  ∃ v H φ', Q v H ∧ Ok c φ' H s'.heap ∧ RepV c φ' s'.heap v x ∧ Grow φ s.heap φ' s'.heap ∧ Rest s s'
noncomputable def PostEs (c : Cx) (φ : Mp) (s : Shared) (Q : List V → HW → Prop) (x : List Value) (s' : Shared) : Prop :=
  ∃ v H φ', Q v H ∧ Ok c φ' H s'.heap ∧ RepVs c φ' s'.heap v x ∧ Grow φ s.heap φ' s'.heap ∧ Rest s s'
noncomputable def PostT (c : Cx) (φ : Mp) (s : Shared) (Q : Bool → HW → Prop) (b : Bool) (s' : Shared) : Prop :=
  ∃ H φ', Q b H ∧ Ok c φ' H s'.heap ∧ Grow φ s.heap φ' s'.heap ∧ Rest s s'
noncomputable def PostS (c : Cx) (ρ : List Str) (env : Env) (φ : Mp) (s : Shared) (Q : Fl → Sl → HW → Prop) (f : Flow) (s' : Shared) : Prop :=
  ∃ F sl H φ', Q F sl H ∧ Ok c φ' H s'.heap ∧ Vars c ρ φ' s'.heap env sl ∧ RepF c φ' s'.heap F f ∧ GrowS env φ s.heap φ' s'.heap ∧ Rest s s'

noncomputable abbrev WE := Sl → HW → (V → HW → Prop) → Prop
noncomputable abbrev WEs := Sl → HW → (List V → HW → Prop) → Prop
noncomputable abbrev WT := Sl → HW → (Bool → HW → Prop) → Prop
noncomputable abbrev WS := Sl → HW → (Fl → Sl → HW → Prop) → Prop
noncomputable abbrev WF := List V → HW → (V → HW → Prop) → Prop

noncomputable def Ev (c : Cx) (d : Nat) (sc : Scope) (ρ : List Str) (e : Expr) (W : WE) : Prop :=
  ∀ env A E s φ sl H Q, EnvOK sc env → AOK d A → Ok c φ H s.heap → Vars c ρ φ s.heap env sl → W sl H Q → wpAny (model c.prog c.w) A (eval e env) (PostE c φ s Q) E s
noncomputable def Evs (c : Cx) (d : Nat) (sc : Scope) (ρ : List Str) (es : List Expr) (W : WEs) : Prop :=
  (∀ env, starEach es env = es.map fun e => (false, eval e env)) ∧ ∀ env A E s φ sl H Q, EnvOK sc env → AOK d A → Ok c φ H s.heap → Vars c ρ φ s.heap env sl → W sl H Q → ∀ pos, wpAny (model c.prog c.w) A (spliced (backTo pos (starEach es env))) (PostEs c φ s Q) E s
noncomputable def Et (c : Cx) (d : Nat) (sc : Scope) (ρ : List Str) (e : Expr) (W : WT) : Prop :=
  ∀ env A E s φ sl H Q, EnvOK sc env → AOK d A → Ok c φ H s.heap → Vars c ρ φ s.heap env sl → W sl H Q → wpAny (model c.prog c.w) A (isTrue e env (eval e env)) (PostT c φ s Q) E s
noncomputable def Ex (c : Cx) (d : Nat) (sc : Scope) (ρ : List Str) (e : Stmt) (W : WS) : Prop :=
  ∀ env A E s φ sl H Q, EnvOK sc env → AOK d A → Ok c φ H s.heap → Vars c ρ φ s.heap env sl → W sl H Q → wpAny (model c.prog c.w) A (exec e env) (PostS c ρ env φ s Q) E s
noncomputable def Exs (c : Cx) (d : Nat) (sc : Scope) (ρ : List Str) (e : List Stmt) (W : WS) : Prop :=
  ∀ env A E s φ sl H Q, EnvOK sc env → AOK d A → Ok c φ H s.heap → Vars c ρ φ s.heap env sl → W sl H Q → wpAny (model c.prog c.w) A (execs e env) (PostS c ρ env φ s Q) E s
/-- a callable of the text keeps to a contract -/
noncomputable def FnOK (c : Cx) (d : Nat) (f : Value) (W : WF) : Prop :=
  ∀ A E s φ H args vals Q, AOK d A → Ok c φ H s.heap → RepVs c φ s.heap args vals → W args H Q → wpAny (model c.prog c.w) A (call f vals) (PostE c φ s Q) E s

section
variable {c : Cx} {d : Nat} {sc : Scope} {ρ : List Str}

/-- a value that is at hand -/
theorem PostE.here {φ : Mp} {s s' : Shared} {Q : V → HW → Prop} {x : Value} {v : V} {H : HW} (q : Q v H) (ok : Ok c φ H s'.heap) (r : RepV c φ s'.heap v x) (k : ∀ b o, s.heap.get? b = some o → s'.heap.get? b = some o) (rs : Rest s s') : PostE c φ s Q x s' :=
  ⟨v, H, φ, q, ok, r, .of_keep k, rs⟩
theorem PostE.shift {φ φ₁ : Mp} {s s₁ s' : Shared} {Q : V → HW → Prop} {x : Value} (g : Grow φ s.heap φ₁ s₁.heap) (r : Rest s s₁) (p : PostE c φ₁ s₁ Q x s') : PostE c φ s Q x s' := by
  obtain ⟨v, H, φ', q, ok, rv, g', r'⟩ := p
  exact ⟨v, H, φ', q, ok, rv, g.trans g', r.trans r'⟩
theorem PostEs.shift {φ φ₁ : Mp} {s s₁ s' : Shared} {Q : List V → HW → Prop} {x : List Value} (g : Grow φ s.heap φ₁ s₁.heap) (r : Rest s s₁) (p : PostEs c φ₁ s₁ Q x s') : PostEs c φ s Q x s' := by
  obtain ⟨v, H, φ', q, ok, rv, g', r'⟩ := p
  exact ⟨v, H, φ', q, ok, rv, g.trans g', r.trans r'⟩
theorem PostT.shift {φ φ₁ : Mp} {s s₁ s' : Shared} {Q : Bool → HW → Prop} {x : Bool} (g : Grow φ s.heap φ₁ s₁.heap) (r : Rest s s₁) (p : PostT c φ₁ s₁ Q x s') : PostT c φ s Q x s' := by
  obtain ⟨H, φ', q, ok, g', r'⟩ := p
  exact ⟨H, φ', q, ok, g.trans g', r.trans r'⟩
theorem PostS.shift {env : Env} {φ φ₁ : Mp} {s s₁ s' : Shared} {Q : Fl → Sl → HW → Prop} {x : Flow} (g : GrowS env φ s.heap φ₁ s₁.heap) (r : Rest s s₁) (p : PostS c ρ env φ₁ s₁ Q x s') : PostS c ρ env φ s Q x s' := by
  obtain ⟨F, sl, H, φ', q, ok, vs, rf, g', r'⟩ := p
  exact ⟨F, sl, H, φ', q, ok, vs, rf, g.trans g', r.trans r'⟩

/-! ### names -/
noncomputable def wVar (i : Nat) : WE := fun sl H Q => match sl[i]? with | some (some v) => Q v H | _ => False

theorem wVar_of {i : Nat} {sl : Sl} {H : HW} {Q : V → HW → Prop} (h : wVar i sl H Q) : ∃ v, sl[i]? = some (some v) ∧ Q v H := by
  unfold wVar at h
  split at h
  · rename_i v e; exact ⟨v, e, h⟩
  · exact h.elim

theorem ev_local {i : Nat} {x : Str} {pos : Pos} (hi : ρ[i]? = some x) (hx : sc.names.lookup x = some .local) (hk : sc.kind = .function) (hd : (x == ("__debug__" : Str)) = false) : Ev c d sc ρ (.Name x pos) (wVar i) := by
  intro env A E s φ sl H Q eo ao ok vs w
  obtain ⟨v, e, q⟩ := wVar_of w
  have kx := (eo.kind x).trans hx
  obtain ⟨m, hn, hm⟩ := vs.loc
  obtain ⟨y, h1, h2⟩ := hm i x v hi kx e
  exact wpAny_Name (wpAny_loadName_local (by rw [eo.scope]; exact hk) kx hn h1 (.here q ok h2 (fun _ _ e => e) (Rest.refl s))) hd
/-- storing a name -/
theorem store_okK {i : Nat} {x : Str} {env : Env} {A : Around} {E : Value → Shared → Prop} {s : Shared} {φ : Mp} {sl : Sl} {H : HW} {v : V} {y : Value} {R : Unit → Shared → Prop}
    (hi : ρ[i]? = some x) (hx : sc.names.lookup x = some .local ∨ sc.names.lookup x = some .cell) (hk : sc.kind = .function) (eo : EnvOK sc env) (ok : Ok c φ H s.heap) (vs : Vars c ρ φ s.heap env sl) (rv : RepV c φ s.heap v y)
    (k : ∀ s', Ok c φ H s'.heap → Vars c ρ φ s'.heap env (sl.set i (some v)) → GrowS env φ s.heap φ s'.heap → Rest s s' → (∀ b o, b ≠ env.locals → env.cells.lookup x ≠ some b → s.heap.get? b = some o → s'.heap.get? b = some o) → R () s') : wpAny (model c.prog c.w) A (storeName env x y) R E s := by
  obtain ⟨m, hn, hm⟩ := id vs.loc
  have LC : ∀ a z, s.heap.IsCell a z → a ≠ env.locals := fun a z hz q => by
    obtain ⟨o', ho', hd⟩ := hz
    obtain ⟨o2, es, ep, ho2, hd2, _⟩ := hn
    rw [q, ho2] at ho'; cases ho'; rw [hd] at hd2; cases hd2
  have jx : ∀ j z, ρ[j]? = some z → z = x → j = i := fun j z e q => by
    subst q
    obtain ⟨l1, e1⟩ := List.getElem?_eq_some_iff.mp e
    obtain ⟨l2, e2⟩ := List.getElem?_eq_some_iff.mp hi
    exact (List.getElem_inj (h₀ := l1) (h₁ := l2) vs.nd).mp (e1.trans e2.symm)
  have il : i < sl.length := by rw [vs.len]; exact (List.getElem?_eq_some_iff.mp hi).1
  rcases hx with hx | hx
  · have kx := (eo.kind x).trans hx
    refine wpAny_storeName_local kx hn (fun h' hn' sb => ?_) (by rw [eo.scope, hk]; rfl)
    have kp : ∀ b o, b ≠ env.locals → s.heap.get? b = some o → h'.get? b = some o := fun b o n e => (sb.2 b n).trans e
    have kv : ∀ b o, b ∈ φ.z → s.heap.get? b = some o → h'.get? b = some o := fun b o z e => kp b o (fun q => vs.offZ (q ▸ z)) e
    have ok' := ok.same vs.offL vs.offZ vs.newL kp
    refine k _ ok' ⟨vs.nd, by simp [vs.len], vs.offL, vs.offZ, vs.newL, ⟨_, hn', fun j z w h1 h2 h3 => ?_⟩, fun z a e => ?_, vs.inj, fun j z w h1 h2 h3 => ?_, vs.has⟩ ⟨⟨[], [], by simp, by simp, by simp, by simp⟩, fun b o e _ n _ => kp b o n e, fun b o e => ?_⟩ (Rest.mk ..) (fun b o n _ e => kp b o n e)
    · by_cases q : z = x
      · have := jx j z h1 q
        subst this
        rw [List.getElem?_set_self il] at h3
        cases h3
        exact ⟨y, by simp [q], rv.keep kv⟩
      · rw [List.getElem?_set_ne (fun z2 => q (by subst z2; rw [hi] at h1; cases h1; rfl))] at h3
        obtain ⟨y', h4, h5⟩ := hm j z w h1 h2 h3
        exact ⟨y', by simp [q, h4], h5.keep kv⟩
    · obtain ⟨a1, az, a2, z', ha⟩ := vs.offC z a e
      obtain ⟨oc, ho, hdc⟩ := id ha
      exact ⟨a1, az, a2, z', oc, kp a oc (LC a z' ha) ho, hdc⟩
    · have q : z ≠ x := fun q => by subst q; rw [kx] at h2; rcases h2 with h2 | h2 <;> cases h2
      rw [List.getElem?_set_ne (fun z2 => q (by subst z2; rw [hi] at h1; cases h1; rfl))] at h3
      obtain ⟨a, y', h4, h5, h6⟩ := vs.cel j z w h1 h2 h3
      obtain ⟨oc, ho, hdc⟩ := id h5
      exact ⟨a, y', h4, ⟨oc, kp a oc (LC a _ h5) ho, hdc⟩, h6.keep kv⟩
    · by_cases q : b = env.locals
      · obtain ⟨o2, _, _, ho2, _⟩ := hn'
        exact ⟨o2, q ▸ ho2⟩
      · exact ⟨o, kp b o q e⟩
  · have kx := (eo.kind x).trans hx
    obtain ⟨a, ea⟩ := vs.has i x hi kx
    obtain ⟨a1, az, a2, z0, ha⟩ := vs.offC x a ea
    refine wpAny_storeName_cell (by rw [eo.scope]; exact hk) kx ea ha fun h' hv' sb => ?_
    have kp : ∀ b o, b ≠ a → s.heap.get? b = some o → h'.get? b = some o := fun b o n e => (sb.2 b n).trans e
    have kv : ∀ b o, b ∈ φ.z → s.heap.get? b = some o → h'.get? b = some o := fun b o z e => kp b o (fun q => az (q ▸ z)) e
    have ok' := ok.same a1 az a2 kp
    obtain ⟨o2, es, ep, ho2, r2⟩ := id hn
    refine k _ ok' ⟨vs.nd, by simp [vs.len], vs.offL, vs.offZ, vs.newL, ⟨m, ⟨o2, es, ep, kp _ o2 (fun q => LC a z0 ha q.symm) ho2, r2⟩, fun j z w h1 h2 h3 => ?_⟩, fun z b e => ?_, vs.inj, fun j z w h1 h2 h3 => ?_, vs.has⟩ ⟨⟨[], [], by simp, by simp, by simp, by simp⟩, fun b o e _ _ n => kp b o (fun q => n x (q ▸ ea)) e, fun b o e => ?_⟩ ⟨h', s.toks, rfl⟩ (fun b o _ n e => kp b o (fun q => n (q ▸ ea)) e)
    · have q : z ≠ x := fun q => by subst q; rw [kx] at h2; cases h2
      rw [List.getElem?_set_ne (fun z2 => q (by subst z2; rw [hi] at h1; cases h1; rfl))] at h3
      obtain ⟨y', h4, h5⟩ := hm j z w h1 h2 h3
      exact ⟨y', h4, h5.keep kv⟩
    · by_cases q : b = a
      · subst q
        exact ⟨a1, az, a2, _, hv'⟩
      · obtain ⟨b1, bz, b2, z', oc, ho, hdc⟩ := vs.offC z b e
        exact ⟨b1, bz, b2, z', oc, kp b oc q ho, hdc⟩
    · by_cases q : z = x
      · have := jx j z h1 q
        subst this
        rw [List.getElem?_set_self il] at h3
        cases h3
        exact ⟨a, y, q ▸ ea, hv', rv.keep kv⟩
      · rw [List.getElem?_set_ne (fun z2 => q (by subst z2; rw [hi] at h1; cases h1; rfl))] at h3
        obtain ⟨b, y', h4, h5, h6⟩ := vs.cel j z w h1 h2 h3
        obtain ⟨oc, ho, hdc⟩ := id h5
        exact ⟨b, y', h4, ⟨oc, kp b oc (fun z2 => q (vs.inj z x a (z2 ▸ h4) ea)) ho, hdc⟩, h6.keep kv⟩
    · by_cases q : b = a
      · obtain ⟨o3, ho3, _⟩ := hv'
        exact ⟨o3, q ▸ ho3⟩
      · exact ⟨o, kp b o q e⟩
theorem store_ok {i : Nat} {x : Str} {env : Env} {A : Around} {E : Value → Shared → Prop} {s : Shared} {φ : Mp} {sl : Sl} {H : HW} {v : V} {y : Value} {R : Unit → Shared → Prop}
    (hi : ρ[i]? = some x) (hx : sc.names.lookup x = some .local ∨ sc.names.lookup x = some .cell) (hk : sc.kind = .function) (eo : EnvOK sc env) (ok : Ok c φ H s.heap) (vs : Vars c ρ φ s.heap env sl) (rv : RepV c φ s.heap v y)
    (k : ∀ s', Ok c φ H s'.heap → Vars c ρ φ s'.heap env (sl.set i (some v)) → GrowS env φ s.heap φ s'.heap → Rest s s' → R () s') : wpAny (model c.prog c.w) A (storeName env x y) R E s :=
  store_okK hi hx hk eo ok vs rv fun s' h1 h2 h3 h4 _ => k s' h1 h2 h3 h4
end
end Mine

namespace Mine
section
variable {c : Cx} {d : Nat} {sc : Scope} {ρ : List Str}

theorem Ok.X {φ H h} (G : Good c) (ok : Ok c φ H h) : c.K.In h := G.X.keeps ok.base
theorem Ok.G {φ H h} (G : Good c) (ok : Ok c φ H h) : h.Ns mainGlobals c.mg := G.G.keeps ok.base
theorem Ok.B {φ H h} (G : Good c) (ok : Ok c φ H h) : h.Ns builtinsNs c.mb := G.B.keeps ok.base

/-! ### constants -/
noncomputable def wK (v : V) : WE := fun _ H Q => Q v H
theorem ev_none {k pos} : Ev c d sc ρ (.Constant .none k pos) (wK .none) := fun _ _ _ _ _ _ _ _ _ _ ok _ w =>
  wpAny_pure (.here w ok .none (fun _ _ e => e) (Rest.refl _))
theorem ev_bool {b k pos} : Ev c d sc ρ (.Constant (.bool b) k pos) (wK (.bool b)) := fun _ _ _ _ _ _ _ _ _ _ ok _ w =>
  wpAny_pure (.here w ok .bool (fun _ _ e => e) (Rest.refl _))
theorem ev_int {i k pos} : Ev c d sc ρ (.Constant (.int i) k pos) (wK (.int i)) := fun _ _ _ s _ _ _ _ _ _ ok _ w =>
  wpAny_Constant_int (.here w ok .int (fun _ _ e => e) (Rest.mk s s.heap _))
theorem ev_str {x k pos} : Ev c d sc ρ (.Constant (.str x) k pos) (wK (.str x)) := fun _ _ _ s _ _ _ _ _ _ ok _ w =>
  wpAny_mkText (.here w ok .str (fun _ _ e => e) (Rest.mk s s.heap _))

/-! ### two operands -/
noncomputable abbrev WB := V → V → HW → (V → HW → Prop) → Prop
noncomputable def wBin (f : WB) (a b : WE) : WE := fun sl H Q => a sl H fun v H₁ => b sl H₁ fun w H₂ => f v w H₂ Q
noncomputable def BinOK (c : Cx) (d : Nat) (op : Operator) (f : WB) : Prop :=
  ∀ A E s φ H v w x y Q, AOK d A → Ok c φ H s.heap → RepV c φ s.heap v x → RepV c φ s.heap w y → f v w H Q → wpAny (model c.prog c.w) A (binaryOp op x y) (PostE c φ s Q) E s
noncomputable def CmpOK (c : Cx) (d : Nat) (op : CmpOp) (f : WB) : Prop :=
  ∀ A E s φ H v w x y Q, AOK d A → Ok c φ H s.heap → RepV c φ s.heap v x → RepV c φ s.heap w y → f v w H Q → wpAny (model c.prog c.w) A (compareOp op x y) (PostE c φ s Q) E s

theorem ev_bin {op f l r pos a b} (B : BinOK c d op f) (hl : Ev c d sc ρ l a) (hr : Ev c d sc ρ r b) : Ev c d sc ρ (.BinOp l op r pos) (wBin f a b) := by
  intro env A E s φ sl H Q eo ao ok vs w
  refine wpAny_BinOp (wpAny_mono (hl env A E s φ sl H _ eo ao ok vs w) (fun x s₁ p₁ => ?_) fun _ _ e => e)
  obtain ⟨v, H₁, φ₁, w₁, ok₁, rv, g₁, r₁⟩ := p₁
  refine wpAny_mono (hr env A E s₁ φ₁ sl H₁ _ eo ao ok₁ (vs.grow g₁) w₁) (fun y s₂ p₂ => ?_) fun _ _ e => e
  obtain ⟨u, H₂, φ₂, w₂, ok₂, ru, g₂, r₂⟩ := p₂
  exact wpAny_mono (B A E s₂ φ₂ H₂ v u x y Q ao ok₂ (rv.grow g₂) ru w₂) (fun z s₃ p₃ => p₃.shift (g₁.trans g₂) (r₁.trans r₂)) fun _ _ e => e
theorem ev_cmp {op f l r pos a b} (B : CmpOK c d op f) (hl : Ev c d sc ρ l a) (hr : Ev c d sc ρ r b) (hm : behindInMarks op r = false := by with_unfolding_all rfl) : Ev c d sc ρ (.Compare l [op] [r] pos) (wBin f a b) := by
  intro env A E s φ sl H Q eo ao ok vs w
  refine wpAny_Compare1 (wpAny_mono (hl env A E s φ sl H _ eo ao ok vs w) (fun x s₁ p₁ => ?_) fun _ _ e => e) hm
  obtain ⟨v, H₁, φ₁, w₁, ok₁, rv, g₁, r₁⟩ := p₁
  refine wpAny_mono (hr env A E s₁ φ₁ sl H₁ _ eo ao ok₁ (vs.grow g₁) w₁) (fun y s₂ p₂ => ?_) fun _ _ e => e
  obtain ⟨u, H₂, φ₂, w₂, ok₂, ru, g₂, r₂⟩ := p₂
  exact wpAny_mono (B A E s₂ φ₂ H₂ v u x y Q ao ok₂ (rv.grow g₂) ru w₂) (fun z s₃ p₃ => p₃.shift (g₁.trans g₂) (r₁.trans r₂)) fun _ _ e => e

noncomputable def onI (f : Int → Int → V) : WB := fun v w H Q => match v, w with | .int i, .int j => Q (f i j) H | _, _ => False
theorem onI_of {f v w H Q} (h : onI f v w H Q) : ∃ i j, v = .int i ∧ w = .int j ∧ Q (f i j) H := by
  unfold onI at h
  split at h
  · exact ⟨_, _, rfl, rfl, h⟩
  · exact h.elim
theorem add_ok : BinOK c d .Add (onI fun i j => .int (i + j)) := by
  intro A E s φ H v w x y Q ao ok rv rw' q
  obtain ⟨i, j, rfl, rfl, q⟩ := onI_of q
  cases rv; cases rw'
  exact add_int (.here q ok .int (fun _ _ e => e) (Rest.mk s s.heap _))
theorem sub_ok : BinOK c d .Sub (onI fun i j => .int (i - j)) := by
  intro A E s φ H v w x y Q ao ok rv rw' q
  obtain ⟨i, j, rfl, rfl, q⟩ := onI_of q
  cases rv; cases rw'
  exact sub_int (.here q ok .int (fun _ _ e => e) (Rest.mk s s.heap _))
/-- % and // by a number that is not nought and small -/
noncomputable def wMod : WB := fun v w H Q => match v, w with | .int i, .int j => j ≠ 0 ∧ Q (.int (i.fmod j)) H | _, _ => False
theorem mod_ok : BinOK c d .Mod wMod := by
  intro A E s φ H v w x y Q ao ok rv rw' q
  unfold wMod at q
  split at q
  · cases rv; cases rw'
    exact mod_int' q.1 (.here q.2 ok .int (fun _ _ e => e) (Rest.mk s s.heap _))
  · exact q.elim
noncomputable def wDiv : WB := fun v w H Q => match v, w with | .int i, .int j => (j ≠ 0 ∧ j.natAbs < 1073741824) ∧ Q (.int (i.fdiv j)) H | _, _ => False
theorem div_ok : BinOK c d .FloorDiv wDiv := by
  intro A E s φ H v w x y Q ao ok rv rw' q
  unfold wDiv at q
  split at q
  · cases rv; cases rw'
    exact floordiv_int q.1.1 (.here q.2 ok .int (fun _ _ e => e) (Rest.mk s s.heap _)) (.inl (PyProof.noPylong_small q.1.2))
  · exact q.elim
theorem eq_okI : CmpOK c d .Eq (onI fun i j => .bool (i == j)) := by
  intro A E s φ H v w x y Q ao ok rv rw' q
  obtain ⟨i, j, rfl, rfl, q⟩ := onI_of q
  cases rv; cases rw'
  exact eq_int (.here q ok .bool (fun _ _ e => e) (Rest.refl s))
/-- «is None» -/
noncomputable def isN : V → Bool | .none => true | _ => false
theorem isN_of {φ h v x} (r : RepV c φ h v x) : (x == Value.none) = isN v := by cases r <;> first | rfl | (rename_i e; cases x <;> first | rfl | cases e)
noncomputable def wIsN (f : Bool → Bool) : WB := fun v w H Q => match w with | .none => Q (.bool (f (isN v))) H | _ => False
/-! ### tests -/
noncomputable def tv (w : WE) : WT := fun sl H Q => w sl H fun v H' => match v with | .bool b => Q b H' | _ => False
/-- a comparison as a test -/
theorem et_cmp {op f l r pos a b} (B : CmpOK c d op f) (hl : Ev c d sc ρ l a) (hr : Ev c d sc ρ r b) (hm : behindInMarks op r = false := by with_unfolding_all rfl) : Et c d sc ρ (.Compare l [op] [r] pos) (tv (wBin f a b)) := by
  intro env A E s φ sl H Q eo ao ok vs w
  refine wpAny_isTrue_Compare1 (wpAny_mono (hl env A E s φ sl H _ eo ao ok vs w) (fun x s₁ p₁ => ?_) fun _ _ e => e) hm
  obtain ⟨v, H₁, φ₁, w₁, ok₁, rv, g₁, r₁⟩ := p₁
  refine wpAny_mono (hr env A E s₁ φ₁ sl H₁ _ eo ao ok₁ (vs.grow g₁) w₁) (fun y s₂ p₂ => ?_) fun _ _ e => e
  obtain ⟨u, H₂, φ₂, w₂, ok₂, ru, g₂, r₂⟩ := p₂
  refine wpAny_mono (B A E s₂ φ₂ H₂ v u x y _ ao ok₂ (rv.grow g₂) ru w₂) (fun z s₃ p₃ => ?_) fun _ _ e => e
  obtain ⟨t, H₃, φ₃, w₃, ok₃, rt, g₃, r₃⟩ := p₃
  split at w₃
  · cases rt
    exact wpAny_truthy_bool ⟨H₃, φ₃, w₃, ok₃, (g₁.trans g₂).trans g₃, (r₁.trans r₂).trans r₃⟩
  · exact w₃.elim
noncomputable def tNot (w : WT) : WT := fun sl H Q => w sl H fun b H' => Q (!b) H'
noncomputable def tAnd (a b : WT) : WT := fun sl H Q => a sl H fun t H' => if t then b sl H' Q else Q false H'
noncomputable def tOr (a b : WT) : WT := fun sl H Q => a sl H fun t H' => if t then Q true H' else b sl H' Q
theorem et_and {x y pos a b} (hx : Et c d sc ρ x a) (hy : Et c d sc ρ y b) : Et c d sc ρ (.BoolOp .And [x, y] pos) (tAnd a b) := by
  intro env A E s φ sl H Q eo ao ok vs q
  show wpAny _ _ (isTrue x env (eval x env) >>= fun b => match BoolOp.And, b with | .And, false => pure false | .Or, true => pure true | _, _ => isTrue y env (eval y env) >>= fun b' => match BoolOp.And, b' with | .And, false => pure false | .Or, true => pure true | _, _ => pure true) _ _ _
  refine wpAny_bind (wpAny_mono (hx env A E s φ sl H _ eo ao ok vs q) (fun t s₁ p => ?_) fun _ _ e => e)
  obtain ⟨H₁, φ₁, w₁, ok₁, g₁, r₁⟩ := p
  cases t with
  | false => exact wpAny_pure ⟨H₁, φ₁, by simpa using w₁, ok₁, g₁, r₁⟩
  | true =>
    simp only [if_true] at w₁
    refine wpAny_bind (wpAny_mono (hy env A E s₁ φ₁ sl H₁ _ eo ao ok₁ (vs.grow g₁) w₁) (fun t s₂ p => ?_) fun _ _ e => e)
    have p' := p.shift g₁ r₁
    cases t <;> exact wpAny_pure p'
theorem et_or {x y pos a b} (hx : Et c d sc ρ x a) (hy : Et c d sc ρ y b) : Et c d sc ρ (.BoolOp .Or [x, y] pos) (tOr a b) := by
  intro env A E s φ sl H Q eo ao ok vs q
  show wpAny _ _ (isTrue x env (eval x env) >>= fun b => match BoolOp.Or, b with | .And, false => pure false | .Or, true => pure true | _, _ => isTrue y env (eval y env) >>= fun b' => match BoolOp.Or, b' with | .And, false => pure false | .Or, true => pure true | _, _ => pure false) _ _ _
  refine wpAny_bind (wpAny_mono (hx env A E s φ sl H _ eo ao ok vs q) (fun t s₁ p => ?_) fun _ _ e => e)
  obtain ⟨H₁, φ₁, w₁, ok₁, g₁, r₁⟩ := p
  cases t with
  | true => exact wpAny_pure ⟨H₁, φ₁, by simpa using w₁, ok₁, g₁, r₁⟩
  | false =>
    simp only [Bool.false_eq_true, if_false] at w₁
    refine wpAny_bind (wpAny_mono (hy env A E s₁ φ₁ sl H₁ _ eo ao ok₁ (vs.grow g₁) w₁) (fun t s₂ p => ?_) fun _ _ e => e)
    have p' := p.shift g₁ r₁
    cases t <;> exact wpAny_pure p'

/-! ### lists of expressions, displays -/
noncomputable def wNil : WEs := fun _ H Q => Q [] H
noncomputable def wCons (a : WE) (b : WEs) : WEs := fun sl H Q => a sl H fun v H₁ => b sl H₁ fun vs H₂ => Q (v :: vs) H₂
theorem evs_nil : Evs c d sc ρ [] wNil := ⟨fun _ => rfl, fun _ _ _ _ _ _ _ _ _ _ ok _ w _ => Calls.spliced_nil ⟨[], _, _, w, ok, .nil, .refl _ _, Rest.refl _⟩⟩
theorem evs_cons {e es a b} (he : Ev c d sc ρ e a) (hes : Evs c d sc ρ es b) (hs : ∀ env, starEach (e :: es) env = (false, eval e env) :: starEach es env) : Evs c d sc ρ (e :: es) (wCons a b) := by
  refine ⟨fun env => by rw [hs, hes.1]; rfl, ?_⟩
  intro env A E s φ sl H Q eo ao ok vs w pos
  rw [hs]
  show wpAny _ _ (spliced ((false, eval e env) :: backTo pos (starEach es env))) _ _ _
  refine Calls.spliced_cons (wpAny_mono (he env A E s φ sl H _ eo ao ok vs w) (fun x s₁ p₁ => ?_) fun _ _ e => e)
  obtain ⟨v, H₁, φ₁, w₁, ok₁, rv, g₁, r₁⟩ := p₁
  refine wpAny_mono (hes.2 env A E s₁ φ₁ sl H₁ _ eo ao ok₁ (vs.grow g₁) w₁ pos) (fun y s₂ p₂ => ?_) fun _ _ e => e
  obtain ⟨u, H₂, φ₂, w₂, ok₂, ru, g₂, r₂⟩ := p₂
  exact ⟨v :: u, H₂, φ₂, w₂, ok₂, .cons (rv.grow g₂) ru, g₁.trans g₂, r₁.trans r₂⟩

theorem new_none (h : Heap) : h.get? h.objs.size = none := Heap.get?_none_of_le (Nat.le_refl _)
/-- a new list -/
theorem new_list {φ H} {s : Shared} {xs ys} {Q : V → HW → Prop} (ok : Ok c φ H s.heap) (r : RepVs c φ s.heap xs ys) (q : Q (.loc H.length) (H ++ [.list xs])) {n} (s' : Shared) (hs : s' = { s with heap := s.heap.push { cls := .type "list", data := .seq ys.toArray n }, toks := s'.toks }) :
    PostE c φ s Q (.ref s.heap.objs.size) s' := by
  obtain ⟨ok', g⟩ := ok.alloc (lo := .list xs) (new_none s.heap) (h' := s.heap.push { cls := .type "list", data := .seq ys.toArray n }) (fun b o e => Heap.get?_push_of_some _ e) (Heap.get?_push_size _ rfl) (.list r) ok.newS
  rw [hs]
  exact ⟨_, _, _, q, ok', .loc (by rw [← ok.len]; simp), g, _, _, rfl⟩
/-- a new tuple -/
theorem new_tup {φ H} {s : Shared} {xs ys} {Q : V → HW → Prop} (ok : Ok c φ H s.heap) (r : RepVs c φ s.heap xs ys) (q : Q (.tup xs) H) {n} (s' : Shared) (hs : s' = { s with heap := s.heap.push { cls := .type "tuple", data := .seq ys.toArray n }, toks := s'.toks }) :
    PostE c φ s Q (.ref s.heap.objs.size) s' := by
  obtain ⟨ok', g⟩ := ok.freeze (new_none s.heap) (h' := s.heap.push { cls := .type "tuple", data := .seq ys.toArray n }) (fun b o e => Heap.get?_push_of_some _ e) (Heap.get?_push_size _ rfl)
  rw [hs]
  refine ⟨_, _, _, q, ok', .tup (n := n) ?_ ?_ ?_ (Heap.get?_push_size _ rfl) (r.grow g), g, _, _, rfl⟩
  · intro m; obtain ⟨o, e⟩ := ok.live m; rw [new_none] at e; cases e
  · exact List.mem_append_right _ (.head _)
  · cases q : c.h₀.get? s.heap.objs.size with
    | none => rfl
    | some o => have := ok.base _ _ q; rw [new_none] at this; cases this
noncomputable def wList (a : WEs) : WE := fun sl H Q => a sl H fun vs H₁ => vs.length ≤ 1000000 ∧ Q (.loc H₁.length) (H₁ ++ [.list vs])
noncomputable def wTup (a : WEs) : WE := fun sl H Q => a sl H fun vs H₁ => vs.length ≤ 1000000 ∧ Q (.tup vs) H₁
theorem ev_list {es pos a} (he : Evs c d sc ρ es a) : Ev c d sc ρ (.List es pos) (wList a) := by
  intro env A E s φ sl H Q eo ao ok vs w
  refine List_ (wpAny_mono (he.2 env A E s φ sl H _ eo ao ok vs w pos) (fun x s₁ p₁ => ?_) fun _ _ e => e)
  obtain ⟨v, H₁, φ₁, w₁, ok₁, rv, g₁, r₁⟩ := p₁
  exact wpAny_newObj_type ((new_list ok₁ rv w₁.2 _ rfl).shift g₁ r₁) (by show x.toArray.size ≤ sizeLine; rw [List.size_toArray, ← rv.length, sizeLine_eq]; exact Nat.le_trans w₁.1 (by decide))
theorem ev_tup {es k pos a} (he : Evs c d sc ρ es a) : Ev c d sc ρ (.Tuple es k pos) (wTup a) := by
  intro env A E s φ sl H Q eo ao ok vs w
  refine Tuple_ (wpAny_mono (he.2 env A E s φ sl H _ eo ao ok vs w pos) (fun x s₁ p₁ => ?_) fun _ _ e => e)
  obtain ⟨v, H₁, φ₁, w₁, ok₁, rv, g₁, r₁⟩ := p₁
  exact wpAny_newObj_type ((new_tup ok₁ rv w₁.2 _ rfl).shift g₁ r₁) (by show x.toArray.size ≤ sizeLine; rw [List.size_toArray, ← rv.length, sizeLine_eq]; exact Nat.le_trans w₁.1 (by decide))
end
end Mine

namespace Mine
section
variable {c : Cx} {d : Nat} {sc : Scope} {ρ : List Str}

/-! ### lists that are read -/
noncomputable def asL (ns : List Int) (H : HW) : V → Option (List V)
  | .loc k => match H[k]? with | some (.list xs) => some xs | _ => none
  | .script => some (ns.map .int)
  | _ => none
theorem repInts {φ h} : ∀ {vs : List Value} {ns : List Int}, IntsAre vs ns → RepVs c φ h (ns.map .int) vs
  | _, _, .nil => .nil
  | _, _, .cons _ _ r => .cons .int (repInts r)
theorem asL_of (G : Good c) {φ H h v x xs} (ok : Ok c φ H h) (r : RepV c φ h v x) (e : asL c.ns H v = some xs) : ∃ a ys, x = .ref a ∧ h.IsList a ys.toArray ∧ RepVs c φ h xs ys := by
  cases r <;> simp only [asL] at e <;> try (cases e; done)
  · rename_i k a hk
    split at e
    · rename_i xs' e'
      cases e
      obtain ⟨o, h1, h2⟩ := ok.objs k a _ hk e'
      cases h2 with
      | list r => exact ⟨a, _, rfl, ⟨_, h1, rfl, _, rfl⟩, r⟩
    · cases e
  · cases e
    obtain ⟨o, ho, r⟩ := G.S
    exact ⟨_, _, rfl, ⟨o, ok.base _ _ ho, r⟩, repInts G.I⟩
/-- an own list -/
theorem loc_list {φ H h} {k : Nat} {x xs} (ok : Ok c φ H h) (r : RepV c φ h (.loc k) x) (e : H[k]? = some (.list xs)) : ∃ a ys n, x = .ref a ∧ φ.l[k]? = some a ∧ IsL h a ys.toArray n ∧ RepVs c φ h xs ys := by
  cases r with
  | loc hk =>
    obtain ⟨o, h1, h2⟩ := ok.objs k _ _ hk e
    cases h2 with
    | list r => exact ⟨_, _, _, rfl, hk, h1, r⟩

/-! ### calls -/
theorem plain_any {es : List Expr} {env : Env} {pos : Pos} (h : starEach es env = es.map fun e => (false, eval e env)) : (backTo pos (starEach es env)).any (·.1) = false := by
  rw [h]
  unfold backTo
  rw [List.map_map]
  induction es with
  | nil => rfl
  | cons e es ih => simp at ih ⊢
theorem evalArgs_of {M : Model} {A : Around} {E : Value → Shared → Prop} {s : Shared} {env : Env} {f : Value} {es : List Expr} {pos : Pos} {Q : Args → Shared → Prop} (hp : starEach es env = es.map fun e => (false, eval e env))
    (h : wpAny M A (spliced (backTo pos (starEach es env))) (fun vs s' => Q ⟨vs, []⟩ s') E s) : wpAny M A (evalArgs f true (backTo pos (starEach es env)) []) Q E s := by
  cases es with
  | nil =>
    unfold evalArgs
    show wpAny M A (spliced (backTo pos (starEach [] env)) >>= _) Q E s
    refine wpAny_bind (wpAny_mono h (fun vs s' h' => ?_) fun _ _ x => x)
    exact wpAny_bind (wpAny_pure (wpAny_holding (wpAny_bind (wpAny_pure (wpAny_bind (wpAny_pure (wpAny_pure h')))))))
  | cons e es =>
    rw [hp] at h ⊢
    exact Calls.evalArgs_plain h

/-- a name of the top -/
theorem name_glob {env : Env} {A E s φ H x pos v} {R : Value → Shared → Prop} (G : Good c) (eo : EnvOK sc env) (ok : Ok c φ H s.heap) (hk : sc.kind = .function) (hx : sc.names.lookup x = some .globalImplicit) (hv : c.mg x = some v) (hd : (x == ("__debug__" : Str)) = false)
    (k : R v s) : wpAny (model c.prog c.w) A (eval (.Name x pos) env) R E s :=
  Calls.Name_function_global (by rw [eo.scope]; exact hk) ((eo.kind x).trans hx) (Calls.loadGlobal_global (by rw [eo.glob]; exact ok.G G) hv k) hd
theorem name_built {env : Env} {A E s φ H x pos v} {R : Value → Shared → Prop} (G : Good c) (eo : EnvOK sc env) (ok : Ok c φ H s.heap) (hk : sc.kind = .function) (hx : sc.names.lookup x = some .globalImplicit) (hg : c.mg x = none) (hv : c.mb x = some v) (hd : (x == ("__debug__" : Str)) = false)
    (k : R v s) : wpAny (model c.prog c.w) A (eval (.Name x pos) env) R E s :=
  Calls.Name_function_global (by rw [eo.scope]; exact hk) ((eo.kind x).trans hx) (Calls.loadGlobal_builtin (by rw [eo.glob]; exact ok.G G) hg (by rw [eo.bi]; exact ok.B G) hv k) hd

noncomputable def wCall (W : WF) (as : WEs) : WE := fun sl H Q => as sl H fun vs H₁ => W vs H₁ Q
/-- a def or a class of the top, called by its name -/
theorem ev_call {x np args pos f W as} (G : Good c) (hk : sc.kind = .function) (hx : sc.names.lookup x = some .globalImplicit) (hv : c.mg x = some f) (hd : (x == ("__debug__" : Str)) = false) (hkeep : keepIn c.K f = true)
    (hf : FnOK c d f W) (ha : Evs c d sc ρ args as) : Ev c d sc ρ (.Call (.Name x np) args [] pos) (wCall W as) := by
  intro env A E s φ sl H Q eo ao ok vs w
  refine Call_Name rfl (name_glob G eo ok hk hx hv hd ?_)
  refine callWith_of (P := fun h => c.K.In h) (by rw [plain_any (ha.1 env)]; rfl) (keeps_K hkeep) (evalArgs_of (ha.1 env) ?_)
  refine wpAny_mono (ha.2 env A E s φ sl H _ eo ao ok vs w pos) (fun ys s₁ p₁ => ?_) fun _ _ e => e
  obtain ⟨v, H₁, φ₁, w₁, ok₁, rv, g₁, r₁⟩ := p₁
  exact ⟨ok₁.X G, wpAny_mono (hf A E s₁ φ₁ H₁ v ys Q ao ok₁ rv w₁) (fun z s₂ p₂ => p₂.shift g₁ r₁) fun _ _ e => e⟩
/-- a built-in function -/
theorem ev_callB {x np args pos id W as} (G : Good c) (hk : sc.kind = .function) (hx : sc.names.lookup x = some .globalImplicit) (hg : c.mg x = none) (hv : c.mb x = some (.builtin id)) (hd : (x == ("__debug__" : Str)) = false)
    (hf : FnOK c d (.builtin id) W) (ha : Evs c d sc ρ args as) : Ev c d sc ρ (.Call (.Name x np) args [] pos) (wCall W as) := by
  intro env A E s φ sl H Q eo ao ok vs w
  refine Call_Name rfl (name_built G eo ok hk hx hg hv hd ?_)
  refine Calls.callWith_builtin (plain_any (ha.1 env)) (evalArgs_of (ha.1 env) ?_)
  refine wpAny_mono (ha.2 env A E s φ sl H _ eo ao ok vs w pos) (fun ys s₁ p₁ => ?_) fun _ _ e => e
  obtain ⟨v, H₁, φ₁, w₁, ok₁, rv, g₁, r₁⟩ := p₁
  exact wpAny_mono (hf A E s₁ φ₁ H₁ v ys Q ao ok₁ rv w₁) (fun z s₂ p₂ => p₂.shift g₁ r₁) fun _ _ e => e

/-! ### objects of the text's classes -/
noncomputable def clsV (c : Cx) (H : HW) : V → Option Nat
  | .obj k _ => some k
  | .loc j => match H[j]? with | some (.inst k _) => some k | _ => none
  | .glob a => (c.gC a).map (·.1)
  | _ => none
noncomputable def slotV (c : Cx) (H : HW) (i : Nat) : V → Option V
  | .obj _ fs => fs[i]?
  | .loc j => match H[j]? with | some (.inst _ fs) => (fs[i]?).join | _ => none
  | .glob a => match c.gC a with | some (_, n) => if i < n then some .none else none | none => none
  | _ => none
theorem inst_of (G : Good c) {φ H h v x k} (ok : Ok c φ H h) (r : RepV c φ h v x) (e : clsV c H v = some k) :
    ∃ a ox, x = .ref a ∧ InstAt h a ox (c.cls k) (some (dictOf [] 0)) ∧ ∀ i u, slotV c H i v = some u → ∃ y, (ox.slots[i]?).join = some y ∧ RepV c φ h u y := by
  cases r <;> simp only [clsV] at e <;> try (cases e; done)
  · rename_i j a hj
    split at e
    · rename_i k' fs e'
      cases e
      obtain ⟨o, h1, h2⟩ := ok.objs j a _ hj e'
      cases h2 with
      | inst r z n y eb =>
        refine ⟨a, _, rfl, ⟨h1, rfl, rfl, eb⟩, fun i u hu => ?_⟩
        simp only [slotV, e'] at hu
        exact r i u hu
    · cases e
  · rename_i fs xs a b sl n z m y n0 e1 es e2 r
    cases e
    refine ⟨a, _, rfl, ⟨e1, rfl, rfl, e2⟩, fun i u hu => ?_⟩
    simp only [slotV] at hu
    obtain ⟨y, h1, h2⟩ := r.get hu
    exact ⟨y, by show (sl[i]?).join = some y; rw [es, h1], h2⟩
  · rename_i a o ho
    obtain ⟨⟨k', n⟩, h1, rfl⟩ := Option.map_eq_some_iff.mp e
    obtain ⟨b, h2, h3⟩ := G.gl a k' n h1
    refine ⟨a, _, rfl, ⟨ok.base _ _ h2, rfl, rfl, ok.base _ _ h3⟩, fun i u hu => ?_⟩
    simp only [slotV, h1] at hu
    split at hu
    · rename_i hi
      cases hu
      exact ⟨.none, by simp [hi], .none⟩
    · cases hu

noncomputable def wMeth (c : Cx) (k : Nat) (W : WF) (a : WE) (as : WEs) : WE := fun sl H Q => a sl H fun v H₁ => clsV c H₁ v = some k ∧ as sl H₁ fun vs H₂ => W (v :: vs) H₂ Q
theorem ev_meth {o name apos args pos f k W a as} {pl : Env → Sem Bool} (G : Good c) (ho : Ev c d sc ρ o a) (ha : Evs c d sc ρ args as) (hf : FnOK c d (.ref f) W)
    (hg : plainGet c.K (c.cls k) name = true) (hm : findIn c.K (.ref (c.cls k)) name = some (some (.ref f))) (ht : isFn c.K (.ref f) = true) (hkeep : keepIn c.K (.ref f) = true)
    (he : ∀ env, eval (.Call (.Attribute o name apos) args [] pos) env = (do
      let ov ← eval o env
      standAt apos.atName
      let (f, first) ← holding [ov] (getMethod ov name (pl env))
      callWith pos f first (backTo pos (starEach args env)) (backToKw pos (keywordEach [] env)))) : Ev c d sc ρ (.Call (.Attribute o name apos) args [] pos) (wMeth c k W a as) := by
  intro env A E s φ sl H Q eo ao ok vs w
  refine methodCall_KW (pl := pl env) (wpAny_mono (ho env A E s φ sl H _ eo ao ok vs w) (fun x s₁ p₁ => ?_) fun _ _ e => e) (he env)
  obtain ⟨v, H₁, φ₁, ⟨wc, w₁⟩, ok₁, rv, g₁, r₁⟩ := p₁
  obtain ⟨xa, ox, rfl, I, _⟩ := inst_of G ok₁ rv wc
  refine method_fn (ok₁.X G) I (plainGet_of hg).1 (plainGet_of hg).2 hm (beq_iff_eq.mp ht) rfl ?_
  refine callWith_of (P := fun h => c.K.In h) (by rw [plain_any (ha.1 env)]; rfl) (keeps_K hkeep) (evalArgs_of (ha.1 env) ?_)
  refine wpAny_mono (ha.2 env A E s₁ φ₁ sl H₁ _ eo ao ok₁ (vs.grow g₁) w₁ pos) (fun ys s₂ p₂ => ?_) fun _ _ e => e
  obtain ⟨u, H₂, φ₂, w₂, ok₂, ru, g₂, r₂⟩ := p₂
  exact ⟨ok₂.X G, wpAny_mono (hf A E s₂ φ₂ H₂ (v :: u) _ Q ao ok₂ (.cons (rv.grow g₂) ru) w₂) (fun z s₃ p₃ => p₃.shift (g₁.trans g₂) (r₁.trans r₂)) fun _ _ e => e⟩

/-- a slot that is read -/
noncomputable def wSlot (c : Cx) (k i : Nat) (a : WE) : WE := fun sl H Q => a sl H fun v H₁ => clsV c H₁ v = some k ∧ match slotV c H₁ i v with | some u => Q u H₁ | none => False
theorem ev_slot {o name pos a k p i} (G : Good c) (ho : Ev c d sc ρ o a) (hg : plainGet c.K (c.cls k) name = true) (hc : isClsIn c.K (c.cls k) = true)
    (ha : findIn c.K (.ref (c.cls k)) name = some (some (.ref p))) (hn : specialIn c.K (.ref p) "__get__" = some (some (.builtin "member_descriptor.__get__"))) (ht : takesIn c.K (.ref p) = some true) (hp : slotIn c.K p (c.cls k) = some i)
    (he : ∀ env, eval (.Attribute o name pos) env = (eval o env >>= fun ov => standAt pos.atName >>= fun _ => holding [ov] (getAttr ov name true) >>= fun r => pure r)) : Ev c d sc ρ (.Attribute o name pos) (wSlot c k i a) := by
  intro env A E s φ sl H Q eo ao ok vs w
  rw [he]
  refine wpAny_bind (wpAny_mono (ho env A E s φ sl H _ eo ao ok vs w) (fun x s₁ p₁ => ?_) fun _ _ e => e)
  obtain ⟨v, H₁, φ₁, ⟨wc, w₁⟩, ok₁, rv, g₁, r₁⟩ := p₁
  obtain ⟨xa, ox, rfl, I, hs⟩ := inst_of G ok₁ rv wc
  split at w₁
  · rename_i u eu
    obtain ⟨y, hy, ry⟩ := hs i u eu
    have hh : handedIn y = true := by cases ry <;> first | rfl | (rename_i e; cases y <;> first | rfl | cases e)
    refine wpAny_bind (wpAny_standAt (wpAny_bind (wpAny_holding ?_)))
    refine get_bind (ok₁.X G) I (plainGet_of hg).1 (findObj_data hc ha hn ht) (plainGet_of hg).2 (wpAny_call (slot_get (s := { s₁ with toks := s₁.toks + 1 }) (ok₁.X G) I hp hy (handed_on hh ?_)))
    exact wpAny_pure ((PostE.here (s' := { s₁ with toks := s₁.toks + 1 }) w₁ ok₁ ry (fun _ _ e => e) (Rest.mk s₁ s₁.heap _)).shift g₁ r₁)
  · exact w₁.elim
end
end Mine

namespace Mine
section
variable {c : Cx} {d : Nat} {sc : Scope} {ρ : List Str}

/-! ### items of a list -/
noncomputable def getI (xs : List V) (k : Int) : Option V := if 0 ≤ k then xs[k.toNat]? else if -(xs.length : Int) ≤ k then xs[(k + xs.length).toNat]? else none
noncomputable def wIdx (ns : List Int) (a b : WE) : WE := fun sl H Q => a sl H fun v H₁ => b sl H₁ fun w H₂ => match asL ns H₂ v, w with
  | some xs, .int k => xs.length ≤ 1000000 ∧ (match getI xs k with | some u => Q u H₂ | none => False)
  | _, _ => False
/-! ### slices -/
noncomputable def sliceV {α : Type} (xs : List α) (lo hi st : Option Int) : List α := (sliceRange (sliceBounds lo hi st xs.length).1 (sliceBounds lo hi st xs.length).2.1 (sliceBounds lo hi st xs.length).2.2).filterMap (xs[·]?)
theorem RepVs.pick {φ h} {xs ys} (r : RepVs c φ h xs ys) : ∀ is : List Nat, RepVs c φ h (is.filterMap (xs[·]?)) (is.filterMap (ys[·]?))
  | [] => .nil
  | i :: is => by
    have ih := r.pick is
    by_cases hi : i < xs.length
    · obtain ⟨y, h1, h2⟩ := r.get (List.getElem?_eq_getElem hi)
      rw [List.filterMap_cons_some (List.getElem?_eq_getElem hi), List.filterMap_cons_some h1]
      exact .cons h2 ih
    · rw [List.filterMap_cons_none (List.getElem?_eq_none (Nat.not_lt.mp hi)), List.filterMap_cons_none (List.getElem?_eq_none (by rw [← r.length]; exact Nat.not_lt.mp hi))]
      exact ih
noncomputable abbrev WO := Sl → HW → (Option Int → HW → Prop) → Prop
noncomputable def EvO (c : Cx) (d : Nat) (sc : Scope) (ρ : List Str) (e : Option Expr) (W : WO) : Prop :=
  ∀ env A E s φ sl H Q, EnvOK sc env → AOK d A → Ok c φ H s.heap → Vars c ρ φ s.heap env sl → W sl H Q → wpAny (model c.prog c.w) A (valueOrNone (evalOpt e env)) (fun x s' => ∃ v H' φ', Q v H' ∧ Ok c φ' H' s'.heap ∧ IsPart x v ∧ Grow φ s.heap φ' s'.heap ∧ Rest s s') E s
noncomputable def oNone : WO := fun _ H Q => Q none H
noncomputable def oSome (a : WE) : WO := fun sl H Q => a sl H fun v H' => match v with | .int i => Q (some i) H' | _ => False
theorem evo_none : EvO c d sc ρ none oNone := fun _ _ _ s φ _ H _ _ _ ok _ w => wpAny_pure ⟨none, H, φ, w, ok, .none, .refl _ _, Rest.refl s⟩
theorem evo_some {e a} (h : Ev c d sc ρ e a) : EvO c d sc ρ (some e) (oSome a) := by
  intro env A E s φ sl H Q eo ao ok vs w
  show wpAny _ _ (eval e env) _ _ _
  refine wpAny_mono (h env A E s φ sl H _ eo ao ok vs w) (fun x s₁ p₁ => ?_) fun _ _ e => e
  obtain ⟨v, H₁, φ₁, w₁, ok₁, rv, g₁, r₁⟩ := p₁
  split at w₁
  · cases rv
    exact ⟨_, H₁, φ₁, w₁, ok₁, .int _ _, g₁, r₁⟩
  · exact w₁.elim
noncomputable def wSlice (ns : List Int) (a : WE) (lo hi st : WO) : WE := fun sl H Q => a sl H fun v H₁ => lo sl H₁ fun l H₂ => hi sl H₂ fun u H₃ => st sl H₃ fun k H₄ => match asL ns H₄ v with
  | some xs => (xs.length ≤ 1000000 ∧ k ≠ some 0) ∧ Q (.loc H₄.length) (H₄ ++ [.list (sliceV xs l u k)])
  | none => False
theorem ev_slice {o lo hi st spos pos a wl wu wk} (G : Good c) (ho : Ev c d sc ρ o a) (hlo : EvO c d sc ρ lo wl) (hhi : EvO c d sc ρ hi wu) (hst : EvO c d sc ρ st wk) : Ev c d sc ρ (.Subscript o (.Slice lo hi st spos) pos) (wSlice c.ns a wl wu wk) := by
  intro env A E s φ sl H Q eo ao ok vs w
  refine Subscript_ (wpAny_mono (ho env A E s φ sl H _ eo ao ok vs w) (fun x s₁ p₁ => ?_) fun _ _ e => e)
  obtain ⟨v, H₁, φ₁, w₁, ok₁, rv, g₁, r₁⟩ := p₁
  show wpAny _ _ (valueOrNone (evalOpt lo env) >>= fun l => holding [l] (valueOrNone (evalOpt hi env)) >>= fun u => holding [l, u] (valueOrNone (evalOpt st env)) >>= fun k => newFields "slice" [l, u, k]) _ _ _
  refine wpAny_bind (wpAny_mono (hlo env A E s₁ φ₁ sl H₁ _ eo ao ok₁ (vs.grow g₁) w₁) (fun xl s₂ p₂ => ?_) fun _ _ e => e)
  obtain ⟨l, H₂, φ₂, w₂, ok₂, pl, g₂, r₂⟩ := p₂
  refine wpAny_bind (wpAny_holding (wpAny_mono (hhi env A E s₂ φ₂ sl H₂ _ eo ao ok₂ (vs.grow (g₁.trans g₂)) w₂) (fun xu s₃ p₃ => ?_) fun _ _ e => e))
  obtain ⟨u, H₃, φ₃, w₃, ok₃, pu, g₃, r₃⟩ := p₃
  refine wpAny_bind (wpAny_holding (wpAny_mono (hst env A E s₃ φ₃ sl H₃ _ eo ao ok₃ (vs.grow ((g₁.trans g₂).trans g₃)) w₃) (fun xk s₄ p₄ => ?_) fun _ _ e => e))
  obtain ⟨k, H₄, φ₄, w₄, ok₄, pk, g₄, r₄⟩ := p₄
  have rv₄ := rv.grow ((g₂.trans g₃).trans g₄)
  split at w₄
  · rename_i xs ex
    obtain ⟨⟨hz, hk⟩, w₄⟩ := w₄
    obtain ⟨al, ys, rfl, il, rr⟩ := asL_of G ok₄ rv₄ ex
    refine wpAny_newObj_type ?_
    have kp : ∀ b o, s₄.heap.get? b = some o → (s₄.heap.push { cls := .type "slice", data := .fields #[xl, xu, xk] }).get? b = some o := fun b o e => Heap.get?_push_of_some _ e
    have ok₅ := ok₄.keep kp
    have il₅ : (s₄.heap.push { cls := .type "slice", data := .fields #[xl, xu, xk] }).IsList al ys.toArray := il.push _
    refine tail_any (ops := match st with | none => [_, _] | some _ => [_, _]) (s := { s₄ with heap := s₄.heap.push { cls := .type "slice", data := .fields #[xl, xu, xk] } }) il₅.typeIs slot_list_getitem.lookup
      (wpAny_getItem_list_slice il₅ (Heap.IsSliceOf.new _ _ _ _) pl pu pk hk ?_ (by rw [List.size_toArray, ← rr.length, sizeLine_eq]; (first | lia | omega))) (by cases st <;> rfl)
    have rp : RepVs c φ₄ (s₄.heap.push { cls := .type "slice", data := .fields #[xl, xu, xk] }) (sliceV xs l u k) ((sliceRange (sliceBounds l u k ys.toArray.size).1 (sliceBounds l u k ys.toArray.size).2.1 (sliceBounds l u k ys.toArray.size).2.2).filterMap (ys.toArray[·]?)) := by
      have := (rr.keep (h' := s₄.heap.push { cls := .type "slice", data := .fields #[xl, xu, xk] }) fun b o _ e => kp b o e).pick (sliceRange (sliceBounds l u k xs.length).1 (sliceBounds l u k xs.length).2.1 (sliceBounds l u k xs.length).2.2)
      unfold sliceV
      simp only [List.size_toArray, List.getElem?_toArray]
      rw [← rr.length]
      exact this
    exact (new_list (s := { s₄ with heap := s₄.heap.push { cls := .type "slice", data := .fields #[xl, xu, xk] } }) ok₅ rp w₄ _ rfl).shift (((g₁.trans g₂).trans g₃).trans (g₄.trans (.of_keep kp))) (((r₁.trans r₂).trans r₃).trans (r₄.trans (Rest.mk s₄ _ _)))
  · exact w₄.elim

/-! ### lists joined and compared -/
noncomputable def wAddL (ns : List Int) : WB := fun v w H Q => match asL ns H v, asL ns H w with
  | some xs, some ys => xs.length + ys.length ≤ 1000000 ∧ Q (.loc H.length) (H ++ [.list (xs ++ ys)])
  | _, _ => False
theorem addL_ok (G : Good c) : BinOK c d .Add (wAddL c.ns) := by
  intro A E s φ H v w x y Q ao ok rv rw' q
  unfold wAddL at q
  split at q
  · rename_i xs ys e1 e2
    obtain ⟨a, us, rfl, il, r1⟩ := asL_of G ok rv e1
    obtain ⟨b, ws, rfl, il', r2⟩ := asL_of G ok rw' e2
    obtain ⟨⟨cls, dd, data, sl⟩, ho, hc, n, hd⟩ := id il
    obtain ⟨⟨cls2, dd2, data2, sl2⟩, ho2, hc2, n2, hd2⟩ := id il'
    simp only at hc hd hc2 hd2
    subst hc hd hc2 hd2
    have e : us.toArray ++ ws.toArray = (us ++ ws).toArray := by simp
    refine concat_meets ⟨_, ho, rfl⟩ ⟨_, ho2, rfl⟩ noFill_list_add seq_list_add PySem.F.slot_list_add PySem.F.entry_list_add (PySem.F.args_list_add_2 _ _) (list_addW a b us.toArray ws.toArray n n2 dd dd2 sl sl2 (by simp only [List.size_toArray]; rw [← r1.length, ← r2.length, sizeLine_eq]; (first | lia | omega))) ⟨ho, ho2, ?_⟩
    rw [e]
    exact new_list ok (r1.append r2) q.2 _ rfl
  · exact q.elim
noncomputable def intsV : List V → Option (List Int)
  | [] => some []
  | .int i :: r => (intsV r).map (i :: ·)
  | _ => none
noncomputable def wCmpI (ns : List Int) (f : Bool → Bool) : WB := fun v w H Q => match (asL ns H v).bind intsV, (asL ns H w).bind intsV with
  | some is, some js => Q (.bool (f (decide (is = js)))) H
  | _, _ => False
/-! ### built-in functions -/
noncomputable def bLen (ns : List Int) : WF := fun args H Q => match args with
  | [v] => (match asL ns H v with | some xs => xs.length ≤ 1000000 ∧ Q (.int xs.length) H | none => False)
  | _ => False
theorem len_ok (G : Good c) : FnOK c d (.builtin "len") (bLen c.ns) := by
  intro A E s φ H args vals Q ao ok r q
  unfold bLen at q
  split at q
  · split at q
    · rename_i xs ex
      cases r with
      | cons rv rs =>
        cases rs
        obtain ⟨a, ys, rfl, il, rr⟩ := asL_of G ok rv ex
        refine len_list il (by simp only [List.size_toArray]; rw [← rr.length]; (first | lia | omega)) ?_
        simp only [List.size_toArray]
        rw [← rr.length]
        exact .here q.2 ok .int (fun _ _ e => e) (Rest.mk s s.heap _)
    · exact q.elim
  · exact q.elim
noncomputable def bMin : WF := fun args H Q => match args with | [.int a, .int b] => Q (.int (if b < a then b else a)) H | _ => False
noncomputable def bMax : WF := fun args H Q => match args with | [.int a, .int b] => Q (.int (if b > a then b else a)) H | _ => False
/-! ### methods of a list -/
theorem upd_list {φ H} {k : Nat} {a : Addr} {xs : List V} {ys us : List Value} {n : Nat} {s : Shared} {Q : V → HW → Prop} {v x} {f : Array Value → Array Value} (ok : Ok c φ H s.heap) (hk : φ.l[k]? = some a) (il : IsL s.heap a ys.toArray n) (e : f ys.toArray = us.toArray) (r : RepVs c φ s.heap xs us)
    (rv : RepV c φ s.heap v x) (q : Q v (H.set k (.list xs))) : PostE c φ s Q x { s with heap := s.heap.update a (Obj.mapSeq f) } := by
  have il' := IsL.update il f
  rw [e] at il'
  obtain ⟨ok', g⟩ := ok.put (lo := .list xs) hk (fun b o n e => (Heap.get?_update_ne _ _ _ _ n).trans e) il' (.list r)
  exact ⟨v, _, φ, q, ok', rv.grow g, g, _, _, rfl⟩
noncomputable def lstAt (H : HW) (k : Nat) : Option (List V) := match H[k]? with | some (.list xs) => some xs | _ => none
theorem lstAt_of {H : HW} {k : Nat} {xs} (e : lstAt H k = some xs) : H[k]? = some (.list xs) := by
  unfold lstAt at e
  split at e
  · rename_i h; cases e; exact h
  · cases e
noncomputable def wAppend (a b : WE) : WE := fun sl H Q => a sl H fun v H₁ => match v with
  | .loc k => (lstAt H₁ k).isSome = true ∧ b sl H₁ fun w H₂ => (match lstAt H₂ k with | some xs => xs.length ≤ 1000000 ∧ Q .none (H₂.set k (.list (xs ++ [w]))) | none => False)
  | _ => False
theorem meth_list {M : Model} {A : Around} {E : Value → Shared → Prop} {s : Shared} {φ H} {k : Nat} {x : Value} {name : Str} {id : String} {pl : Sem Bool} {Q : Value × List Value → Shared → Prop} (ok : Ok c φ H s.heap) (rv : RepV c φ s.heap (.loc k) x) (hl : (lstAt H k).isSome = true)
    (slot : Slot "list" name id) (hty : typeOf (.builtin id) = pure (.type "method_descriptor")) (h : Q (.builtin id, [x]) s) : wpAny M A (getMethod x name pl) Q E s := by
  obtain ⟨xs, e⟩ := Option.isSome_iff_exists.mp hl
  obtain ⟨a, ys, n, rfl, hk, il, r⟩ := loc_list ok rv (lstAt_of e)
  exact getMethod_builtin ⟨_, il, rfl⟩ PySem.F.plainAttrs_list slot hty (fun b hb => by cases hb; exact ⟨_, il, rfl⟩) h
theorem ev_append {o e apos pos a b} {pl : Env → Sem Bool} (ho : Ev c d sc ρ o a) (hb : Ev c d sc ρ e b) (hs : ∀ env, backTo pos (starEach [e] env) = [(false, eval e env)])
    (he : ∀ env, eval (.Call (.Attribute o (Str.ofString "append") apos) [e] [] pos) env = (do
      let ov ← eval o env
      standAt apos.atName
      let (f, first) ← holding [ov] (getMethod ov (Str.ofString "append") (pl env))
      callWith pos f first (backTo pos (starEach [e] env)) (backToKw pos (keywordEach [] env)))) : Ev c d sc ρ (.Call (.Attribute o (Str.ofString "append") apos) [e] [] pos) (wAppend a b) := by
  intro env A E s φ sl H Q eo ao ok vs w
  refine methodCall_KW (pl := pl env) (wpAny_mono (ho env A E s φ sl H _ eo ao ok vs w) (fun x s₁ p₁ => ?_) fun _ _ e => e) (he env)
  obtain ⟨v, H₁, φ₁, w₁, ok₁, rv, g₁, r₁⟩ := p₁
  split at w₁
  · rename_i k
    refine meth_list ok₁ rv w₁.1 PySem.F.slot_list_append PySem.F.type_list_append ?_
    have ex : ∃ al, x = .ref al := by cases rv; exact ⟨_, rfl⟩
    obtain ⟨al, rfl⟩ := ex
    show wpAny _ _ (callWith pos (.builtin "list.append") [.ref al] (backTo pos (starEach [e] env)) []) _ _ _
    rw [hs]
    refine PySem.P.append_list (wpAny_mono (hb env A E s₁ φ₁ sl H₁ _ eo ao ok₁ (vs.grow g₁) w₁.2) (fun y s₂ p₂ => ?_) fun _ _ e => e)
    obtain ⟨u, H₂, φ₂, w₂, ok₂, ru, g₂, r₂⟩ := p₂
    split at w₂
    · rename_i xs ex
      obtain ⟨a', ys, n, ea, hk, il, r⟩ := loc_list ok₂ (rv.grow g₂) (lstAt_of ex)
      cases ea
      refine ⟨ys.toArray, n, by rw [List.size_toArray, ← r.length, sizeLine_eq]; (first | lia | omega), il, ?_⟩
      exact (upd_list (us := ys ++ [y]) ok₂ hk il (by simp) (r.append (.cons ru .nil)) .none w₂.2).shift (g₁.trans g₂) (r₁.trans r₂)
    · exact w₂.elim
  · exact w₁.elim
theorem popped (ys : List Value) : ys.toArray.eraseIdxIfInBounds (ys.toArray.size - 1) = (ys.take (ys.length - 1)).toArray := by
  rw [List.eraseIdxIfInBounds_toArray, List.size_toArray, List.eraseIdx_eq_take_drop_succ]
  have : ys.drop (ys.length - 1 + 1) = [] := List.drop_eq_nil_of_le (by (first | lia | omega))
  rw [this, List.append_nil]
noncomputable def wPop (a : WE) : WE := fun sl H Q => a sl H fun v H₁ => match v with
  | .loc k => (match lstAt H₁ k with | some xs => xs.length ≤ 1000000 ∧ (match xs.getLast? with | some u => Q u (H₁.set k (.list xs.dropLast)) | none => False) | none => False)
  | _ => False
theorem ev_pop {o apos pos a} {pl : Env → Sem Bool} (ho : Ev c d sc ρ o a)
    (he : ∀ env, eval (.Call (.Attribute o (Str.ofString "pop") apos) [] [] pos) env = (do
      let ov ← eval o env
      standAt apos.atName
      let (f, first) ← holding [ov] (getMethod ov (Str.ofString "pop") (pl env))
      callWith pos f first (backTo pos (starEach [] env)) (backToKw pos (keywordEach [] env)))) : Ev c d sc ρ (.Call (.Attribute o (Str.ofString "pop") apos) [] [] pos) (wPop a) := by
  intro env A E s φ sl H Q eo ao ok vs w
  refine methodCall_KW (pl := pl env) (wpAny_mono (ho env A E s φ sl H _ eo ao ok vs w) (fun x s₁ p₁ => ?_) fun _ _ e => e) (he env)
  obtain ⟨v, H₁, φ₁, w₁, ok₁, rv, g₁, r₁⟩ := p₁
  split at w₁
  · rename_i k
    split at w₁
    · rename_i xs ex
      obtain ⟨hz, w₁⟩ := w₁
      split at w₁
      · rename_i u eu
        refine meth_list ok₁ rv (by rw [ex]; rfl) PySem.F.slot_list_pop PySem.F.type_list_pop ?_
        obtain ⟨al, ys, n, rfl, hk, il, r⟩ := loc_list ok₁ rv (lstAt_of ex)
        show wpAny _ _ (callWith pos (.builtin "list.pop") [.ref al] [] []) _ _ _
        have eu' : xs[xs.length - 1]? = some u := by rw [← List.getLast?_eq_getElem?]; exact eu
        obtain ⟨y, h1, h2⟩ := r.get eu'
        refine PySem.P.pop_list (y := y) il (by simp only [List.size_toArray, List.getElem?_toArray]; rw [← r.length]; exact h1) ?_ (by rw [List.size_toArray, ← r.length, sizeLine_eq]; (first | lia | omega))
        have hd : xs.dropLast = xs.take (xs.length - 1) := List.dropLast_eq_take
        refine (upd_list (xs := xs.dropLast) (us := ys.take (ys.length - 1)) ok₁ hk il ?_ (by rw [hd, r.length]; exact r.take _) h2 w₁).shift g₁ r₁
        exact popped ys
      · exact w₁.elim
    · exact w₁.elim
  · exact w₁.elim
end
end Mine

namespace Mine
section
variable {c : Cx} {d : Nat} {sc : Scope} {ρ : List Str}

/-! ### statements -/
noncomputable def wSkip : WS := fun sl H Q => Q .next sl H
noncomputable def wSeq (a b : WS) : WS := fun sl H Q => a sl H fun F sl' H' => match F with | .next => b sl' H' Q | .ret v => Q (.ret v) sl' H'
theorem exs_nil : Exs c d sc ρ [] wSkip := fun _ _ _ s φ sl H _ _ _ ok vs w => wpAny_execs_nil ⟨.next, sl, H, φ, w, ok, vs, trivial, .refl _ _ _, Rest.refl s⟩
theorem exs_cons {e es a b} (he : Ex c d sc ρ e a) (hes : Exs c d sc ρ es b) : Exs c d sc ρ (e :: es) (wSeq a b) := by
  intro env A E s φ sl H Q eo ao ok vs w
  refine wpAny_execs_cons (wpAny_mono (he env A E s φ sl H _ eo ao ok vs w) (fun f s₁ p₁ => ?_) fun _ _ e => e)
  obtain ⟨F, sl₁, H₁, φ₁, w₁, ok₁, vs₁, rf, g₁, r₁⟩ := p₁
  cases F with
  | next =>
    cases f with
    | next => exact wpAny_mono (hes env A E s₁ φ₁ sl₁ H₁ Q eo ao ok₁ vs₁ w₁) (fun f s₂ p₂ => p₂.shift g₁ r₁) fun _ _ e => e
    | _ => exact rf.elim
  | ret v =>
    cases f with
    | ret x => exact ⟨.ret v, sl₁, H₁, φ₁, w₁, ok₁, vs₁, rf, g₁, r₁⟩
    | _ => exact rf.elim
noncomputable def wSet (i : Nat) (a : WE) : WS := fun sl H Q => a sl H fun v H' => Q .next (sl.set i (some v)) H'
theorem ex_set {i x xp e pos a} (he : Ev c d sc ρ e a) (hi : ρ[i]? = some x) (hx : sc.names.lookup x = some .local ∨ sc.names.lookup x = some .cell) (hk : sc.kind = .function)
    (hs : ∀ env, swapsWith e (some (.Name x xp)) pos.line env = pure false) : Ex c d sc ρ (.Assign [.Name x xp] e pos) (wSet i a) := by
  intro env A E s φ sl H Q eo ao ok vs w
  refine wpAny_Assign_Name (wpAny_mono (he env A E s φ sl H _ eo ao ok vs w) (fun y s₁ p₁ => ?_) fun _ _ e => e) (hs env)
  obtain ⟨v, H₁, φ₁, w₁, ok₁, rv, g₁, r₁⟩ := p₁
  exact store_ok hi hx hk eo ok₁ (vs.grow g₁) rv fun s₂ ok₂ vs₂ g₂ r₂ => ⟨.next, _, H₁, φ₁, w₁, ok₂, vs₂, trivial, g₁.toS.trans g₂, r₁.trans r₂⟩
noncomputable def wAug (i : Nat) (f : WB) (a : WE) : WS := fun sl H Q => wBin f (wVar i) a sl H fun v H' => Q .next (sl.set i (some v)) H'
noncomputable def wDrop (a : WE) : WS := fun sl H Q => a sl H fun v H' => match v with | .none => Q .next sl H' | _ => False
theorem ex_expr {e pos a} (he : Ev c d sc ρ e a) (hk : sc.kind = .function) (hs : ∀ env, swapsWith e none pos.line env = pure false) : Ex c d sc ρ (.Expr e pos) (wDrop a) := by
  intro env A E s φ sl H Q eo ao ok vs w
  refine wpAny_Expr (wpAny_mono (he env A E s φ sl H _ eo ao ok vs w) (fun y s₁ p₁ => ?_) fun _ _ e => e) (by unfold interactive; rw [eo.scope, hk]; rfl) (hs env)
  obtain ⟨v, H₁, φ₁, w₁, ok₁, rv, g₁, r₁⟩ := p₁
  split at w₁
  · cases rv
    exact ⟨.next, sl, H₁, φ₁, w₁, ok₁, vs.grow g₁, trivial, g₁.toS, r₁⟩
  · exact w₁.elim
noncomputable def wIf (t : WT) (a b : WS) : WS := fun sl H Q => t sl H fun r H' => if r then a sl H' Q else b sl H' Q
theorem ex_if {t body orelse pos w a b} (ht : Et c d sc ρ t w) (ha : Exs c d sc ρ body a) (hb : Exs c d sc ρ orelse b) : Ex c d sc ρ (.If t body orelse pos) (wIf w a b) := by
  intro env A E s φ sl H Q eo ao ok vs q
  refine wpAny_If (wpAny_mono (ht env A E s φ sl H _ eo ao ok vs q) (fun y s₁ p₁ => ?_) fun _ _ e => e)
  obtain ⟨H₁, φ₁, w₁, ok₁, g₁, r₁⟩ := p₁
  cases y with
  | true => simp only [if_true] at w₁ ⊢; exact wpAny_mono (ha env A E s₁ φ₁ sl H₁ Q eo ao ok₁ (vs.grow g₁) w₁) (fun f s₂ p₂ => p₂.shift g₁.toS r₁) fun _ _ e => e
  | false => simp only [Bool.false_eq_true, if_false] at w₁ ⊢; exact wpAny_mono (hb env A E s₁ φ₁ sl H₁ Q eo ao ok₁ (vs.grow g₁) w₁) (fun f s₂ p₂ => p₂.shift g₁.toS r₁) fun _ _ e => e
noncomputable def wRet (a : WE) : WS := fun sl H Q => a sl H fun v H' => Q (.ret v) sl H'
theorem ex_ret {e pos a} (he : Ev c d sc ρ e a) : Ex c d sc ρ (.Return (some e) pos) (wRet a) := by
  intro env A E s φ sl H Q eo ao ok vs w
  refine wpAny_Return_some (wpAny_mono (he env A E s φ sl H _ eo ao ok vs w) (fun y s₁ p₁ => ?_) fun _ _ e => e)
  obtain ⟨v, H₁, φ₁, w₁, ok₁, rv, g₁, r₁⟩ := p₁
  exact ⟨.ret v, sl, H₁, φ₁, w₁, ok₁, vs.grow g₁, rv, g₁.toS, r₁⟩

/-! ### while -/
/-! ### targets -/
noncomputable abbrev WA := V → Sl → HW → (Sl → HW → Prop) → Prop
noncomputable def At (c : Cx) (d : Nat) (sc : Scope) (ρ : List Str) (t : Expr) (W : WA) : Prop :=
  ∀ env A E s φ sl H v x K, EnvOK sc env → AOK d A → Ok c φ H s.heap → Vars c ρ φ s.heap env sl → RepV c φ s.heap v x → W v sl H K →
    wpAny (model c.prog c.w) A (assign t env x) (fun _ s' => ∃ sl' H' φ', K sl' H' ∧ Ok c φ' H' s'.heap ∧ Vars c ρ φ' s'.heap env sl' ∧ GrowS env φ s.heap φ' s'.heap ∧ Rest s s') E s
noncomputable def aName (i : Nat) : WA := fun v sl H K => K (sl.set i (some v)) H
theorem at_name {i x xp} (hi : ρ[i]? = some x) (hx : sc.names.lookup x = some .local ∨ sc.names.lookup x = some .cell) (hk : sc.kind = .function) : At c d sc ρ (.Name x xp) (aName i) := by
  intro env A E s φ sl H v y K eo ao ok vs rv q
  exact wpAny_assign_Name (store_ok hi hx hk eo ok vs rv fun s₂ ok₂ vs₂ g₂ r₂ => ⟨_, H, φ, q, ok₂, vs₂, g₂, r₂⟩)
noncomputable def setAll : List Nat → List V → Sl → Sl
  | i :: is, v :: vs, sl => setAll is vs (sl.set i (some v))
  | _, _, sl => sl
theorem ExtBut.keep {h h' : Heap} (x : Heap.ExtBut h.objs.size h h') : ∀ b o, h.get? b = some o → h'.get? b = some o := fun b o e => x b o (Nat.ne_of_lt (Heap.lt_size e)) e
/-- each function of the row stores the name at its place -/
noncomputable def Stores (M : Model) (env : Env) : List Str → List (Value → Sem Unit) → Prop
  | [], [] => True
  | x :: xs, f :: fs => (∀ A E v s (R : Unit → Shared → Prop), wpAny M A (storeName env x v) R E s → wpAny M A (f v) R E s) ∧ Stores M env xs fs
  | _, _ => False
noncomputable def Slots (sc : Scope) (ρ : List Str) : List Nat → List Str → Prop
  | [], [] => True
  | i :: is, x :: xs => (ρ[i]? = some x ∧ (sc.names.lookup x = some .local ∨ sc.names.lookup x = some .cell)) ∧ Slots sc ρ is xs
  | _, _ => False
theorem inOrder_ok {env : Env} {A E φ H} (hk : sc.kind = .function) (eo : EnvOK sc env) (is : List Nat) : ∀ (xs : List Str) (fs : List (Value → Sem Unit)) (vs : List V) (ys : List Value) (s : Shared) (sl : Sl) (R : Unit → Shared → Prop),
    Stores (model c.prog c.w) env xs fs → Slots sc ρ is xs → vs.length = is.length → Ok c φ H s.heap → Vars c ρ φ s.heap env sl → RepVs c φ s.heap vs ys →
    (∀ s', Ok c φ H s'.heap → Vars c ρ φ s'.heap env (setAll is vs sl) → GrowS env φ s.heap φ s'.heap → Rest s s' → R () s') →
    wpAny (model c.prog c.w) A (assignInOrder fs ys) R E s := by
  induction is with
  | nil =>
    intro xs fs vs ys s sl R hf h1 h2 ok va r k
    cases vs with
    | cons _ _ => simp at h2
    | nil =>
      cases r
      have : assignInOrder fs [] = pure () := by cases fs <;> rfl
      rw [this]
      exact wpAny_pure (k s ok va (.refl _ _ _) (Rest.refl s))
  | cons i is ih =>
    intro xs fs vs ys s sl R hf h1 h2 ok va r k
    cases r with
    | nil => simp at h2
    | cons r rs =>
      cases xs with
      | nil => exact h1.elim
      | cons x xs =>
        cases fs with
        | nil => exact hf.elim
        | cons f fs =>
          rename_i v y vs ys
          show wpAny _ _ (holding ys (f y) >>= fun _ => assignInOrder fs ys) _ _ _
          refine wpAny_bind (wpAny_holding (hf.1 _ _ _ _ _ (store_ok h1.1.1 h1.1.2 hk eo ok va r fun s₂ ok₂ vs₂ g₂ r₂ => ?_)))
          refine ih xs fs vs ys s₂ _ R hf.2 h1.2 (by simpa using h2) ok₂ vs₂ ?_ fun s₃ ok₃ vs₃ g₃ r₃ => k s₃ ok₃ vs₃ (g₂.trans g₃) (r₂.trans r₃)
          exact rs.keep fun b o z e => g₂.keep b o e (ok.dj b z) (fun q => va.offZ (q ▸ z)) fun x q => (va.offC x b q).2.1 z
/-- a tuple's places to names, in their order -/
noncomputable def aTup (is : List Nat) : WA := fun v sl H K => match v with | .tup vs => vs.length = is.length ∧ K (setAll is vs sl) H | _ => False
theorem Stores.len {M env} : ∀ {xs : List Str} {fs : List (Value → Sem Unit)}, Stores M env xs fs → fs.length = xs.length
  | [], [], _ => rfl
  | _ :: _, _ :: _, h => by simp [h.2.len]
  | [], _ :: _, h => h.elim
  | _ :: _, [], h => h.elim
theorem Slots.len : ∀ {is : List Nat} {xs : List Str}, Slots sc ρ is xs → xs.length = is.length
  | [], [], _ => rfl
  | _ :: _, _ :: _, h => by simp [h.2.len]
  | [], _ :: _, h => h.elim
  | _ :: _, [], h => h.elim
theorem at_tup {elts k pos is} {xs : List Str} (hk : sc.kind = .function) (hx : Slots sc ρ is xs) (hst : ∀ env, (assignEach elts env).findIdx? (·.1) = none)
    (hm : ∀ env, Stores (model c.prog c.w) env xs ((assignEach elts env).map (·.2))) : At c d sc ρ (.Tuple elts k pos) (aTup is) := by
  intro env A E s φ sl H v y K eo ao ok vs rv q
  unfold aTup at q
  split at q
  · cases rv with
    | tup n z n0 e r =>
      obtain ⟨hlen, q⟩ := q
      have hl := (hm env).len
      rw [List.length_map] at hl
      refine wpAny_assign_Tuple ao.handled ⟨_, e, rfl, _, rfl⟩ (by rw [hl, List.size_toArray, ← r.length, hlen, hx.len]) (hst env) fun h' x => ?_
      have kp := ExtBut.keep x
      have g : Grow φ s.heap φ h' := .of_keep kp
      refine inOrder_ok (s := { s with heap := h' }) hk eo is xs _ _ _ sl _ (hm env) hx hlen (ok.keep kp) (vs.grow g) (by simpa using r.grow g) fun s₃ ok₃ vs₃ g₃ r₃ => ⟨_, _, φ, q, ok₃, vs₃, g.toS.trans g₃, (Rest.mk s h' s.toks).trans r₃⟩
  · exact q.elim
/-- «a, b = e» without an exchange -/
noncomputable def wSetT (is : List Nat) (a : WE) : WS := fun sl H Q => a sl H fun v H' => aTup is v sl H' fun sl' H'' => Q .next sl' H''
theorem ex_setT {elts k tpos e pos a is} {xs : List Str} (he : Ev c d sc ρ e a) (hk : sc.kind = .function) (hx : Slots sc ρ is xs) (hst : ∀ env, (assignEach elts env).findIdx? (·.1) = none)
    (hm : ∀ env, Stores (model c.prog c.w) env xs ((assignEach elts env).map (·.2)))
    (hs : ∀ env, swapsWithSole [.Tuple elts k tpos] e pos.line env = pure false) (hw : ∀ env, env.scope = sc → swappedStores [.Tuple elts k tpos] e env = pure none) : Ex c d sc ρ (.Assign [.Tuple elts k tpos] e pos) (wSetT is a) := by
  intro env A E s φ sl H Q eo ao ok vs w
  refine Assign_Tuple (wpAny_mono (he env A E s φ sl H _ eo ao ok vs w) (fun y s₁ p₁ => ?_) fun _ _ e => e) (hs env) (hw env eo.scope)
  obtain ⟨v, H₁, φ₁, w₁, ok₁, rv, g₁, r₁⟩ := p₁
  refine wpAny_mono (at_tup hk hx hst hm env A E s₁ φ₁ sl H₁ v y _ eo ao ok₁ (vs.grow g₁) rv w₁) (fun _ s₂ p₂ => ?_) fun _ _ e => e
  obtain ⟨sl', H', φ', q, ok', vs', g', r'⟩ := p₂
  exact ⟨.next, sl', H', φ', q, ok', vs', trivial, g₁.toS.trans g', r₁.trans r'⟩
/-- «a, b = x, y»: the stores go from the last to the first -/
noncomputable def aTupR (is : List Nat) : WA := fun v sl H K => match v with | .tup vs => vs.length = is.length ∧ K (setAll is.reverse vs.reverse sl) H | _ => False
noncomputable def wSetR (is : List Nat) (a : WE) : WS := fun sl H Q => a sl H fun v H' => aTupR is v sl H' fun sl' H'' => Q .next sl' H''
theorem Slots.snoc {i x} (h : ρ[i]? = some x ∧ (sc.names.lookup x = some .local ∨ sc.names.lookup x = some .cell)) : ∀ {is : List Nat} {xs : List Str}, Slots sc ρ is xs → Slots sc ρ (is ++ [i]) (xs ++ [x])
  | [], [], _ => ⟨h, trivial⟩
  | _ :: _, _ :: _, g => ⟨g.1, Slots.snoc h g.2⟩
  | [], _ :: _, g => g.elim
  | _ :: _, [], g => g.elim
theorem Slots.reverse : ∀ {is : List Nat} {xs : List Str}, Slots sc ρ is xs → Slots sc ρ is.reverse xs.reverse
  | [], [], _ => trivial
  | _ :: _, _ :: _, g => by simp only [List.reverse_cons]; exact g.2.reverse.snoc g.1
  | [], _ :: _, g => g.elim
  | _ :: _, [], g => g.elim
theorem stores_bind {M : Model} {env : Env} : ∀ xs : List Str, Stores M env xs (xs.map fun n => bindName env n)
  | [] => trivial
  | _ :: xs => ⟨fun _ _ _ _ _ h => wpAny_bindName h, stores_bind xs⟩
theorem ex_setR {elts k tpos e pos a is} {xs : List Str} (he : Ev c d sc ρ e a) (hk : sc.kind = .function) (hx : Slots sc ρ is xs)
    (hs : ∀ env, swapsWithSole [.Tuple elts k tpos] e pos.line env = pure false) (hw : ∀ env, env.scope = sc → swappedStores [.Tuple elts k tpos] e env = pure (some xs)) : Ex c d sc ρ (.Assign [.Tuple elts k tpos] e pos) (wSetR is a) := by
  intro env A E s φ sl H Q eo ao ok vs w
  refine Assign_Tuple_swapped (wpAny_mono (he env A E s φ sl H _ eo ao ok vs w) (fun y s₁ p₁ => ?_) fun _ _ e => e) (hs env) (hw env eo.scope)
  obtain ⟨v, H₁, φ₁, w₁, ok₁, rv, g₁, r₁⟩ := p₁
  unfold aTupR at w₁
  split at w₁
  · cases rv with
    | tup n z n0 e r =>
      obtain ⟨hlen, q⟩ := w₁
      rename_i ys _ _
      have hsz : xs.length = ys.toArray.size := by rw [hx.len, List.size_toArray, ← r.length, hlen]
      rw [hsz]
      refine wpAny_unpackItems_tuple ao.handled ⟨_, e, rfl, _, rfl⟩ fun h' x => ?_
      have kp := ExtBut.keep x
      have g : Grow φ₁ s₁.heap φ₁ h' := .of_keep kp
      refine inOrder_ok (s := { s₁ with heap := h' }) hk eo is.reverse xs.reverse _ _ _ sl _ (stores_bind _) hx.reverse (by simp [hlen]) (ok₁.keep kp) ((vs.grow g₁).grow g) (by simpa using (r.grow g).reverse) fun s₃ ok₃ vs₃ g₃ r₃ => ⟨.next, _, _, φ₁, q, ok₃, vs₃, trivial, (g₁.toS.trans g.toS).trans g₃, (r₁.trans (Rest.mk s₁ h' s₁.toks)).trans r₃⟩
  · exact w₁.elim
end
end Mine

namespace Mine
section
variable {c : Cx} {d : Nat} {sc : Scope} {ρ : List Str}

/-! ### what a loop goes over -/
inductive ItK where
  | list (kv : V) (xs : List V)
  | walk (xs : List V)
noncomputable def ItK.items : ItK → List V
  | .list _ xs => xs
  | .walk xs => xs
noncomputable def ItK.inv (ns : List Int) (H : HW) : ItK → Prop
  | .list kv xs => asL ns H kv = some xs
  | .walk _ => True
noncomputable def RepL (c : Cx) (φ : Mp) (v : V) (a : Addr) : Prop := (∃ k, v = .loc k ∧ φ.l[k]? = some a) ∨ (v = .script ∧ a = c.aS)
theorem RepL.rep {φ h v a} (r : RepL c φ v a) : RepV c φ h v (.ref a) := by
  rcases r with ⟨k, rfl, e⟩ | ⟨rfl, rfl⟩
  · exact .loc e
  · exact .script
noncomputable def ItAt (c : Cx) (A : Around) (φ : Mp) (h : Heap) (I : Addr) (i : Nat) : ItK → Prop
  | .list kv _ => ∃ a, RepL c φ kv a ∧ h.IsListIter I a i
  | .walk xs => ∃ P St, Walks c.prog c.w A I [I] [I] xs.length P St ∧ (∀ i v, P i v → ∃ u, xs[i]? = some u ∧ (∀ T, v ≠ .ref T) ∧ ∀ φ h, RepV c φ h u v) ∧ (∀ i h, St i h → ∃ o, h.get? I = some o) ∧ St i h
theorem ItAt.keep {A φ φ' h h' I i k} (x : ItAt c A φ h I i k) (e : ∀ o, h.get? I = some o → h'.get? I = some o) (g : ∀ (k : Nat) a, φ.l[k]? = some a → φ'.l[k]? = some a) : ItAt c A φ' h' I i k := by
  cases k with
  | list kv xs =>
    obtain ⟨a, r, o, ho, q⟩ := x
    refine ⟨a, ?_, o, e _ ho, q⟩
    rcases r with ⟨k, rfl, e⟩ | ⟨rfl, rfl⟩
    · exact .inl ⟨k, rfl, g _ _ e⟩
    · exact .inr ⟨rfl, rfl⟩
  | walk xs =>
    obtain ⟨P, St, W, hp, hl, st⟩ := x
    exact ⟨P, St, W, hp, hl, W.frame _ _ _ st fun b hb o eo => by rw [List.mem_singleton.mp hb] at eo ⊢; exact e o eo⟩
/-- one item more -/
theorem ItAt.item {A E φ H I i k} {v : V} {s : Shared} {R : Option Value → Shared → Prop} (G : Good c) (ok : Ok c φ H s.heap) (iv : k.inv c.ns H) (x : ItAt c A φ s.heap I i k) (hv : k.items[i]? = some v)
    (h : ∀ y h' t, RepV c φ s.heap v y → ItAt c A φ h' I (i + 1) k → (∀ b o, b ≠ I → s.heap.get? b = some o → h'.get? b = some o) → (∃ o, h'.get? I = some o) → ((∃ l, h'.IsListIter I l (i + 1)) ∨ ∀ T, y ≠ .ref T) → R (some y) { s with heap := h', toks := t }) :
    wpAny (model c.prog c.w) A (pyNext (.ref I)) R E s := by
  cases k with
  | list kv xs =>
    obtain ⟨a, r, it⟩ := x
    obtain ⟨a', ys, ea, il, rr⟩ := asL_of G ok r.rep iv
    cases ea
    obtain ⟨y, h1, h2⟩ := rr.get hv
    refine wpAny_pyNext_list_item it il (by simpa using h1) fun h' it' sb => h y h' s.toks h2 ⟨a, r, it'⟩ (fun b o n e => (sb.2 b n).trans e) (by obtain ⟨o, ho, _⟩ := it'; exact ⟨o, ho⟩) (.inl ⟨a, it'⟩)
  | walk xs =>
    obtain ⟨P, St, W, hp, hl, st⟩ := x
    have hi : i < xs.length := (List.getElem?_eq_some_iff.mp hv).1
    refine W.item i s _ _ hi st fun y h' tk py st' kp => ?_
    obtain ⟨u, hu, nr, ru⟩ := hp i y py
    have : u = v := by have := hu.symm.trans hv; cases this; rfl
    subst this
    exact h y h' tk (ru _ _) ⟨P, St, W, hp, hl, st'⟩ (fun b o n e => kp b o (fun m => n (List.mem_singleton.mp m)) e) (hl _ _ st') (.inr nr)
theorem ItAt.done {A E φ H I i k} {s : Shared} {R : Option Value → Shared → Prop} (G : Good c) (hh : A.handled = none) (ok : Ok c φ H s.heap) (iv : k.inv c.ns H) (x : ItAt c A φ s.heap I i k) (hv : i = k.items.length)
    (h : ∀ h' t, (∀ b o, b ≠ I → s.heap.get? b = some o → h'.get? b = some o) → R none { s with heap := h', toks := t }) :
    wpAny (model c.prog c.w) A (pyNext (.ref I)) R E s := by
  cases k with
  | list kv xs =>
    obtain ⟨a, r, it⟩ := x
    obtain ⟨a', ys, ea, il, rr⟩ := asL_of G ok r.rep iv
    cases ea
    refine wpAny_pyNext_list_end hh it il (by rw [hv]; simp [ItK.items, rr.length]) fun h' xb => h h' s.toks fun b o n e => xb b o n e
  | walk xs =>
    obtain ⟨P, St, W, hp, hl, st⟩ := x
    rw [hv] at st
    exact W.done s _ _ st fun h' tk kp => h h' tk fun b o n e => kp b o (fun m => n (List.mem_singleton.mp m)) e
theorem ItAt.live {A φ h I i k} (x : ItAt c A φ h I i k) : ∃ o, h.get? I = some o := by
  cases k with
  | list kv xs => obtain ⟨a, r, o, ho, _⟩ := x; exact ⟨o, ho⟩
  | walk xs => obtain ⟨P, St, W, hp, hl, st⟩ := x; exact hl _ _ st

theorem Vars.same {φ h env sl h'} (v : Vars c ρ φ h env sl) {I : Addr} (nL : I ≠ env.locals) (nC : ∀ x, env.cells.lookup x ≠ some I) (nZ : I ∉ φ.z) (k : ∀ b o, b ≠ I → h.get? b = some o → h'.get? b = some o) : Vars c ρ φ h' env sl := by
  obtain ⟨m, hn, hm⟩ := v.loc
  obtain ⟨o, es, ep, ho, r⟩ := id hn
  have kz : ∀ b o, b ∈ φ.z → h.get? b = some o → h'.get? b = some o := fun b o z e => k b o (fun q => nZ (q ▸ z)) e
  refine ⟨v.nd, v.len, v.offL, v.offZ, v.newL, ⟨m, ⟨o, es, ep, k _ _ (Ne.symm nL) ho, r⟩, fun i x w h1 h2 h3 => ?_⟩, fun x a e => ?_, v.inj, fun i x w h1 h2 h3 => ?_, v.has⟩
  · obtain ⟨y, h4, h5⟩ := hm i x w h1 h2 h3
    exact ⟨y, h4, h5.keep kz⟩
  · obtain ⟨n, z, n0, y, o', ho', hd⟩ := v.offC x a e
    exact ⟨n, z, n0, y, o', k _ _ (fun q => nC x (q ▸ e)) ho', hd⟩
  · obtain ⟨a, y, h4, ⟨o', ho', hd⟩, h6⟩ := v.cel i x w h1 h2 h3
    exact ⟨a, y, h4, ⟨o', k _ _ (fun q => nC x (q ▸ h4)) ho', hd⟩, h6.keep kz⟩

/-- what a loop goes over, made -/
noncomputable abbrev WI := Sl → HW → (ItK → HW → Prop) → Prop
noncomputable def PostI (c : Cx) (A : Around) (φ : Mp) (s : Shared) (Q : ItK → HW → Prop) (it : Value) (s' : Shared) : Prop :=
  ∃ I k H φ', it = .ref I ∧ Q k H ∧ k.inv c.ns H ∧ ItAt c A φ' s'.heap I 0 k ∧ s.heap.get? I = none ∧ I ∉ φ'.l ∧ I ∉ φ'.z ∧ Ok c φ' H s'.heap ∧ Grow φ s.heap φ' s'.heap ∧ Rest s s'
noncomputable def Ei (c : Cx) (d : Nat) (sc : Scope) (ρ : List Str) (e : Expr) (W : WI) : Prop :=
  ∀ env A E s φ sl H Q, EnvOK sc env → AOK d A → Ok c φ H s.heap → Vars c ρ φ s.heap env sl → W sl H Q →
    wpAny (model c.prog c.w) A (eval e env) (fun x s₁ => wpAny (model c.prog c.w) A (pyIter x) (PostI c A φ s Q) E s₁) E s
noncomputable def iList (ns : List Int) (a : WE) : WI := fun sl H Q => a sl H fun v H' => match asL ns H' v with | some xs => Q (.list v xs) H' | none => False
theorem new_unz {φ H} {h : Heap} (ok : Ok c φ H h) : h.objs.size ∉ φ.l ∧ h.objs.size ∉ φ.z := by
  constructor
  · intro m; obtain ⟨o, e⟩ := ok.live m; rw [new_none] at e; cases e
  · intro m; obtain ⟨o, e⟩ := ok.zl _ m; rw [new_none] at e; cases e
theorem Grow.none {φ h φ' h'} (g : Grow φ h φ' h') {a} (e : h'.get? a = none) : h.get? a = none := by
  cases q : h.get? a with
  | none => rfl
  | some o => obtain ⟨o', e'⟩ := g.live a o q; rw [e] at e'; cases e'
theorem ei_list {e a} (G : Good c) (he : Ev c d sc ρ e a) : Ei c d sc ρ e (iList c.ns a) := by
  intro env A E s φ sl H Q eo ao ok vs w
  refine wpAny_mono (he env A E s φ sl H _ eo ao ok vs w) (fun x s₁ p₁ => ?_) fun _ _ e => e
  obtain ⟨v, H₁, φ₁, w₁, ok₁, rv, g₁, r₁⟩ := p₁
  split at w₁
  · rename_i xs ex
    obtain ⟨al, ys, rfl, il, rr⟩ := asL_of G ok₁ rv ex
    refine wpAny_pyIter_list il ?_
    have kp : ∀ b o, s₁.heap.get? b = some o → (s₁.heap.push { cls := .type "list_iterator", data := .fields #[.ref al, .int 0 0] }).get? b = some o := fun b o e => Heap.get?_push_of_some _ e
    refine ⟨_, .list v xs, H₁, φ₁, rfl, w₁, ex, ⟨al, ?_, _, Heap.get?_push_size _ rfl, rfl, rfl⟩, g₁.none (new_none _), (new_unz ok₁).1, (new_unz ok₁).2, ok₁.keep kp, g₁.trans (.of_keep kp), r₁.trans (Rest.mk s₁ _ s₁.toks)⟩
    cases rv <;> simp only [asL] at ex <;> try (cases ex; done)
    · rename_i k hk; exact .inl ⟨k, rfl, hk⟩
    · exact .inr ⟨rfl, rfl⟩
  · exact w₁.elim
/-! ### for -/
noncomputable def wForGo (ns : List Int) (k : ItK) (ta : WA) (b : WS) : List V → WS
  | [] => fun sl H Q => Q .next sl H
  | v :: r => fun sl H Q => ta v sl H fun sl₁ H₁ => b sl₁ H₁ fun F sl₂ H₂ => match F with | .next => k.inv ns H₂ ∧ wForGo ns k ta b r sl₂ H₂ Q | .ret u => Q (.ret u) sl₂ H₂
noncomputable def wFor (ns : List Int) (it : WI) (ta : WA) (b : WS) : WS := fun sl H Q => it sl H fun k H₁ => wForGo ns k ta b k.items sl H₁ Q
/-- the target does not look at the iterator -/
noncomputable def Lot (M : Model) (t : Expr) : Prop := ∀ A E s I l i (y : Value) (R : Unit → Shared → Prop), (s.heap.IsListIter I l i ∨ ∀ T, y ≠ .ref T) → R () s → wpAny M A (letOwnedTupleGo t (.ref I) y) R E s
theorem lot_name {M x p} : Lot M (.Name x p) := fun _ _ _ _ _ _ _ _ _ h => wpAny_pure h
theorem lot_tup {elts k p} : Lot (model c.prog c.w) (.Tuple elts k p) := by
  intro A E s I l i y R h q
  cases y with
  | ref T =>
    rcases h with h | h
    · exact wpAny_letOwnedTupleGo_listiter h q
    · exact absurd rfl (h T)
  | _ => exact wpAny_pure q
theorem ex_for {t iter body pos wi wa wb} (G : Good c) (hi : Ei c d sc ρ iter wi) (ht : At c d sc ρ t wa) (hb : Exs c d sc ρ body wb) (hl : Lot (model c.prog c.w) t) (hs : ∀ env x, foldedSetIterable iter env x = pure x) : Ex c d sc ρ (.For t iter body [] pos) (wFor c.ns wi wa wb) := by
  intro env A E s φ sl H Q eo ao ok vs w
  refine wpAny_For (wpAny_mono (hi env A E s φ sl H _ eo ao ok vs w) (fun x s₁ p₁ => wpAny_mono p₁ (fun it s₂ p₂ => ?_) fun _ _ e => e) fun _ _ e => e) (hs env)
  obtain ⟨I, k, H₂, φ₂, rfl, q, iv, ia, fI, nl, nz, ok₂, g₂, r₂⟩ := p₂
  have vs₂ := vs.grow g₂
  have fr : I ≠ env.locals ∧ (∀ x, env.cells.lookup x ≠ some I) ∧ c.h₀.get? I = none := by
    refine ⟨fun e => ?_, fun x e => ?_, ?_⟩
    · obtain ⟨m, ⟨o, _, _, ho, _⟩, _⟩ := vs.loc
      rw [← e, fI] at ho; cases ho
    · obtain ⟨_, _, _, y, o, ho, _⟩ := vs.offC x I e
      rw [fI] at ho; cases ho
    · cases e : c.h₀.get? I with
      | none => rfl
      | some o => have := ok.base _ _ e; rw [fI] at this; cases this
  obtain ⟨fL, fC, f0⟩ := fr
  refine codeAny_forLoop_any (fun n s' => ∃ i φ' sl' H', i + n = k.items.length ∧ wForGo c.ns k wa wb (k.items.drop i) sl' H' Q ∧ k.inv c.ns H' ∧ ItAt c A φ' s'.heap I i k ∧ I ∉ φ'.l ∧ I ∉ φ'.z ∧ Ok c φ' H' s'.heap ∧ Vars c ρ φ' s'.heap env sl' ∧ GrowS env φ s.heap φ' s'.heap ∧ Rest s s')
    ?_ k.items.length ⟨0, φ₂, sl, H₂, by simp, q, iv, ia, nl, nz, ok₂, vs₂, g₂.toS, r₂⟩
  rintro n s' ⟨i, φ', sl', H', hn, q, iv, ia, nl, nz, ok', vs', g', r'⟩
  cases n with
  | zero =>
    have hi : i = k.items.length := by (first | lia | omega)
    refine ItAt.done G ao.handled ok' iv ia hi fun h' t kp => wpAny_execs_nil ?_
    rw [List.drop_eq_nil_of_le (by (first | lia | omega))] at q
    refine ⟨.next, sl', H', φ', q, ok'.same nl nz f0 kp, vs'.same fL fC nz kp, trivial, ?_, r'.trans (Rest.mk s' _ _)⟩
    refine ⟨g'.ext, fun b o e n1 n2 n3 => kp b o (fun z => ?_) (g'.keep b o e n1 n2 n3), fun b o e => ?_⟩
    · rw [z, fI] at e; cases e
    · obtain ⟨o', e'⟩ := g'.live b o e
      exact ⟨o', kp b o' (fun z => by rw [z, fI] at e; cases e) e'⟩
  | succ n =>
    have hlt : i < k.items.length := by (first | lia | omega)
    obtain ⟨v, ev⟩ : ∃ v, k.items[i]? = some v := ⟨_, List.getElem?_eq_getElem hlt⟩
    rw [List.drop_eq_getElem_cons hlt] at q
    have ev' : k.items[i] = v := by rw [List.getElem?_eq_getElem hlt] at ev; cases ev; rfl
    rw [ev'] at q
    refine ItAt.item G ok' iv ia ev fun y h' tk ry ia' kp lv lt => ?_
    have ok₃ := ok'.same nl nz f0 kp
    have vs₃ := vs'.same fL fC nz kp
    have g₃ : GrowS env φ s.heap φ' h' := ⟨g'.ext, fun b o e n1 n2 n3 => kp b o (fun z => by rw [z, fI] at e; cases e) (g'.keep b o e n1 n2 n3), fun b o e => by
      obtain ⟨o', e'⟩ := g'.live b o e
      exact ⟨o', kp b o' (fun z => by rw [z, fI] at e; cases e) e'⟩⟩
    have ry₃ : RepV c φ' h' v y := ry.keep fun b o z e => kp b o (fun w => nz (w ▸ z)) e
    have go : wpAny (model c.prog c.w) A (letOwnedTupleGo t (.ref I) y) (fun _ s₁' => s₁' = { s' with heap := h', toks := tk }) (notedBy (model c.prog c.w) A env fun e s' => (match (Except.error e : Result) with | .ok f => PostS c ρ env φ s Q f s' | .error e => cameBackBy (model c.prog c.w) A env E e s')) { s' with heap := h', toks := tk } := by
      rcases lt with ⟨l, it⟩ | nr
      · exact hl _ _ _ _ l _ _ _ (.inl it) rfl
      · exact hl _ _ _ _ 0 0 _ _ (.inr nr) rfl
    refine wpAny_mono go (fun _ s₁' es => ?_) fun _ _ e => e
    subst es
    refine wpAny_mono (ht env A _ _ φ' sl' H' v y _ eo ao ok₃ vs₃ ry₃ q) (fun _ s₄ p₄ => ?_) fun _ _ e => e
    obtain ⟨sl₄, H₄, φ₄, q₄, ok₄, vs₄, g₄, r₄⟩ := p₄
    refine wpAny_mono (hb env A _ s₄ φ₄ sl₄ H₄ _ eo ao ok₄ vs₄ q₄) (fun f s₅ p₅ => ?_) fun _ _ e => e
    obtain ⟨F, sl₅, H₅, φ₅, q₅, ok₅, vs₅, rf, g₅, r₅⟩ := p₅
    have rr : Rest s s₅ := ((r'.trans (Rest.mk s' h' tk)).trans r₄).trans r₅
    cases F with
    | ret u =>
      cases f with
      | ret x => exact ⟨.ret u, sl₅, H₅, φ₅, q₅, ok₅, vs₅, rf, (g₃.trans g₄).trans g₅, rr⟩
      | _ => exact rf.elim
    | next =>
      cases f with
      | next =>
        obtain ⟨o, lo⟩ := lv
        have n4 := g₄.nin nl lo
        have z4 := g₄.ninz nz lo
        have l4 := g₄.keep I o lo nl fL fC
        have n5 := g₅.nin n4 l4
        have z5 := g₅.ninz z4 l4
        have l5 := g₅.keep I o l4 n4 fL fC
        refine ⟨n, Nat.lt_succ_self n, i + 1, φ₅, sl₅, H₅, by (first | lia | omega), q₅.2, q₅.1, ia'.keep (fun o' e' => ?_) (fun k a e => g₅.at (g₄.at e)), n5, z5, ok₅, vs₅, (g₃.trans g₄).trans g₅, rr⟩
        rw [lo] at e'; cases e'; exact l5
      | _ => exact rf.elim
end
end Mine

namespace Mine
section
variable {c : Cx} {d : Nat} {sc : Scope} {ρ : List Str}

/-! ### a slot is stored -/
noncomputable def othersOf (h : Heap) (L x : Addr) : List (Addr × Obj) := (List.range h.objs.size).filterMap fun b => if b = L ∨ b = x then none else (h.get? b).map fun o => (b, o)
theorem mem_others {h : Heap} {L x b : Addr} {o : Obj} : (b, o) ∈ othersOf h L x ↔ h.get? b = some o ∧ b ≠ L ∧ b ≠ x := by
  unfold othersOf
  rw [List.mem_filterMap]
  constructor
  · rintro ⟨b', _, e⟩
    split at e
    · cases e
    · rename_i n
      obtain ⟨o', h1, h2⟩ := Option.map_eq_some_iff.mp e
      cases h2
      exact ⟨h1, fun q => n (.inl q), fun q => n (.inr q)⟩
  · rintro ⟨e, n1, n2⟩
    exact ⟨b, List.mem_range.mpr (Heap.lt_size e), by rw [if_neg (by rintro (q | q); exact n1 q; exact n2 q), e]; rfl⟩
theorem set_slot_ok {A E} {s : Shared} {K : Frag} {C p x L : Addr} {i : Nat} {name : Str} {v : Value} {ox od : Obj} {m : Str → Option Value} {R : Unit → Shared → Prop} (X : K.In s.heap) (I : InstAt s.heap x ox C (some od))
    (hs : findIn K (.ref C) "__setattr__" = some (some (.builtin "object.__setattr__"))) (hp : plainOver K C = true) (ht : takerIn K C name = some (some (.ref p))) (hT : typeIn K (.ref p) = some (.type "member_descriptor")) (hi : slotIn K p C = some i) (hz : i < 1000)
    (hn : s.heap.Ns L m) (hx : x ≠ L) (hf : ox.isFreed = false)
    (h : ∀ h', h'.Ns L m → (∀ b o, b ≠ x → b ≠ L → s.heap.get? b = some o → h'.get? b = some o) → h'.get? x = some { ox with slots := (ox.slots ++ Array.replicate (i + 1 - ox.slots.size) none).setIfInBounds i (some v) } → R () { s with heap := h', toks := s.toks + 1 }) :
    wpAny (model c.prog c.w) A (setAttr (.ref x) name v) R E s := by
  have F : Fr { objs := #[] } L s.heap m := ⟨hn, fun b o e => by simp [Heap.get?] at e, Nat.zero_le _⟩
  have N : News { objs := #[] } L s.heap ([] ++ (x, ox) :: othersOf s.heap L x) := by
    intro q hq
    rcases List.mem_cons.mp hq with rfl | hq
    · exact ⟨I.at_, hx, by simp [Heap.get?]⟩
    · obtain ⟨h1, h2, h3⟩ := mem_others.mp hq
      exact ⟨h1, h2, by simp [Heap.get?]⟩
  refine set_plain X I hs (osa_descr (s := { s with toks := s.toks + 1 }) KF.slot_mset X I hp ht hT (slot_set (s := { s with toks := s.toks + 1 }) F N X I hi hz (fun _ h => nomatch h) (fun q hq => (mem_others.mp hq).2.2) rfl ?_ fun h' F' N' => ?_))
  · obtain ⟨a, b, dt, sl⟩ := ox
    cases dt <;> first | rfl | exact hf
  · exact h h' F'.ns (fun b o n1 n2 e => (N' (b, o) (.tail _ (mem_others.mpr ⟨e, n2, n1⟩))).1) (N' (x, _) (.head _)).1
/-- a tracked object is turned, and the frame's own object may be another one that says the same -/
theorem put_in {φ H h h' env sl lo o m} {j : Nat} {a : Addr} (ok : Ok c φ H h) (vs : Vars c ρ φ h env sl) (hj : φ.l[j]? = some a) (r : RepO c φ h lo o) (hn' : h'.Ns env.locals m) (kp : ∀ b o, b ≠ a → b ≠ env.locals → h.get? b = some o → h'.get? b = some o) (e : h'.get? a = some o)
    (hm : h.Ns env.locals m := by assumption) : Ok c φ (H.set j lo) h' ∧ Vars c ρ φ h' env sl ∧ GrowS env φ h φ h' := by
  have ma : a ∈ φ.l := List.mem_of_getElem? hj
  have kz : ∀ b o, b ∈ φ.z → h.get? b = some o → h'.get? b = some o := fun b o z e => kp b o (fun q => ok.dj b z (q ▸ ma)) (fun q => vs.offZ (q ▸ z)) e
  refine ⟨⟨fun b o e => kp b o (fun q => ok.off b o e (q ▸ ma)) (fun q => by rw [q, vs.newL] at e; cases e) (ok.base b o e), ok.off, by simp [ok.len], ok.nodup, fun i x lo' e1 e2 => ?_, ok.dj, fun b m => by obtain ⟨o, e⟩ := ok.zl b m; exact ⟨o, kz b o m e⟩, ok.g0, ok.sm⟩, ?_, ?_⟩
  · by_cases q : i = j
    · subst q
      rw [e1] at hj
      cases hj
      rw [List.getElem?_set_self (by rw [← ok.len]; exact (List.getElem?_eq_some_iff.mp e1).1)] at e2
      cases e2
      exact ⟨o, e, r.keep kz⟩
    · rw [List.getElem?_set_ne (Ne.symm q)] at e2
      obtain ⟨o', h1, h2⟩ := ok.objs i x lo' e1 e2
      refine ⟨o', kp _ _ (fun z => q ?_) (fun z => vs.offL (z ▸ List.mem_of_getElem? e1)) h1, h2.keep kz⟩
      subst z
      obtain ⟨l1, e1'⟩ := List.getElem?_eq_some_iff.mp e1
      obtain ⟨l2, ek'⟩ := List.getElem?_eq_some_iff.mp hj
      exact (List.getElem_inj (h₀ := l1) (h₁ := l2) ok.nodup).mp (e1'.trans ek'.symm)
  · obtain ⟨m₀, hn₀, hm₀⟩ := vs.loc
    have em : m₀ = m := by
      obtain ⟨o1, es1, ep1, h1, d1, _, f1⟩ := hn₀
      obtain ⟨o2, es2, ep2, h2, d2, _, f2⟩ := hm
      rw [h1] at h2; cases h2
      rw [d1] at d2; cases d2
      funext x; rw [← f1 x, ← f2 x]
    subst em
    have kc : ∀ x b, env.cells.lookup x = some b → ∀ o, h.get? b = some o → h'.get? b = some o := fun x b ex o eb => by
      obtain ⟨n, z, n0, y, o', ho', hd⟩ := vs.offC x b ex
      refine kp b o (fun q => n (q ▸ ma)) (fun q => ?_) eb
      obtain ⟨o2, es, ep, ho2, hd2, _⟩ := hn₀
      rw [q, ho2] at ho'; cases ho'; rw [hd] at hd2; cases hd2
    refine ⟨vs.nd, vs.len, vs.offL, vs.offZ, vs.newL, ⟨m₀, hn', fun i x w h1 h2 h3 => ?_⟩, fun x b ex => ?_, vs.inj, fun i x w h1 h2 h3 => ?_, vs.has⟩
    · obtain ⟨y, h4, h5⟩ := hm₀ i x w h1 h2 h3
      exact ⟨y, h4, h5.keep kz⟩
    · obtain ⟨n, z, n0, y, o', ho', hd⟩ := vs.offC x b ex
      exact ⟨n, z, n0, y, o', kc x b ex o' ho', hd⟩
    · obtain ⟨b, y, h4, ⟨o', ho', hd⟩, h6⟩ := vs.cel i x w h1 h2 h3
      exact ⟨b, y, h4, ⟨o', kc x b h4 o' ho', hd⟩, h6.keep kz⟩
  · refine ⟨⟨[], [], by simp, by simp, by simp, by simp⟩, fun b o e n1 n2 _ => kp b o (fun q => n1 (q ▸ ma)) n2 e, fun b o' e' => ?_⟩
    by_cases q : b = a
    · exact ⟨o, q ▸ e⟩
    · by_cases q2 : b = env.locals
      · obtain ⟨o2, _, _, ho2, _⟩ := hn'
        exact ⟨o2, q2 ▸ ho2⟩
      · exact ⟨o', kp b o' q q2 e'⟩
noncomputable def setF (fs : List (Option V)) (i : Nat) (v : V) : List (Option V) := (fs ++ List.replicate (i + 1 - fs.length) none).set i (some v)
theorem setF_join {fs : List (Option V)} {i : Nat} {v : V} (j : Nat) : ((setF fs i v)[j]?).join = if j = i then some v else (fs[j]?).join := by
  unfold setF
  by_cases q : j = i
  · subst q
    rw [List.getElem?_set_self (by simp; (first | lia | omega))]
    simp
  · rw [List.getElem?_set_ne (Ne.symm q), if_neg q]
    by_cases l : j < fs.length
    · rw [List.getElem?_append_left l]
    · rw [List.getElem?_append_right (Nat.not_lt.mp l), List.getElem?_replicate, List.getElem?_eq_none (Nat.not_lt.mp l)]
      split <;> rfl
theorem setA_join {xs : Array (Option Value)} {i : Nat} {v : Value} (j : Nat) : (((xs ++ Array.replicate (i + 1 - xs.size) none).setIfInBounds i (some v))[j]?).join = if j = i then some v else (xs[j]?).join := by
  by_cases q : j = i
  · subst q
    rw [Array.getElem?_setIfInBounds_self_of_lt (by simp; (first | lia | omega))]
    simp
  · rw [Array.getElem?_setIfInBounds_ne (Ne.symm q), if_neg q]
    by_cases l : j < xs.size
    · rw [Array.getElem?_append_left l]
    · rw [Array.getElem?_append_right (Nat.not_lt.mp l), Array.getElem?_replicate, Array.getElem?_eq_none (Nat.not_lt.mp l)]
      split <;> rfl
noncomputable def wSetAttr (k i : Nat) (a b : WE) : WS := fun sl H Q => b sl H fun v H₁ => a sl H₁ fun o H₂ => match o with
  | .loc j => (match H₂[j]? with | some (.inst k' fs) => k' = k ∧ Q .next sl (H₂.set j (.inst k (setF fs i v))) | _ => False)
  | _ => False
theorem ex_setattr {o name ap e pos k i p a b} (G : Good c) (ho : Ev c d sc ρ o a) (he : Ev c d sc ρ e b)
    (hs : findIn c.K (.ref (c.cls k)) "__setattr__" = some (some (.builtin "object.__setattr__"))) (hp : plainOver c.K (c.cls k) = true) (ht : takerIn c.K (c.cls k) name = some (some (.ref p))) (hT : typeIn c.K (.ref p) = some (.type "member_descriptor")) (hi : slotIn c.K p (c.cls k) = some i) (hz : i < 1000)
    (hw : ∀ env, swapsWith e (some (.Attribute o name ap)) pos.line env = pure false) : Ex c d sc ρ (.Assign [.Attribute o name ap] e pos) (wSetAttr k i a b) := by
  intro env A E s φ sl H Q eo ao ok vs w
  refine plainObj_wpAny_Assign_Attribute (wpAny_mono (he env A E s φ sl H _ eo ao ok vs w) (fun y s₁ p₁ => ?_) fun _ _ e => e) (hw env)
  obtain ⟨v, H₁, φ₁, w₁, ok₁, rv, g₁, r₁⟩ := p₁
  refine wpAny_mono (ho env A E s₁ φ₁ sl H₁ _ eo ao ok₁ (vs.grow g₁) w₁) (fun x s₂ p₂ => ?_) fun _ _ e => e
  obtain ⟨u, H₂, φ₂, w₂, ok₂, ru, g₂, r₂⟩ := p₂
  have vs₂ := vs.grow (g₁.trans g₂)
  split at w₂
  · rename_i j
    split at w₂
    · rename_i k' fs ej
      obtain ⟨rfl, w₂⟩ := w₂
      cases ru with
      | loc hj =>
        rename_i xa
        obtain ⟨oo, h1, h2⟩ := ok₂.objs j xa _ hj ej
        cases h2 with
        | inst r z n yz eb =>
          rename_i xs b
          have mj : xa ∈ φ₂.l := List.mem_of_getElem? hj
          have nL : xa ≠ env.locals := fun q => vs₂.offL (q ▸ mj)
          obtain ⟨m, hn, hm⟩ := id vs₂.loc
          refine set_slot_ok (ok₂.X G) ⟨h1, rfl, rfl, eb⟩ hs hp ht hT hi hz hn nL rfl fun h' hn' kp hx' => ?_
          have rv₂ := rv.grow g₂
          have ro : RepO c φ₂ s₂.heap (.inst k' (setF fs i v)) { cls := .ref (c.cls k'), dict := some b, data := .plain, slots := (xs ++ Array.replicate (i + 1 - xs.size) none).setIfInBounds i (some y) } := by
            refine .inst (fun t u e => ?_) (fun t e => ?_) n ‹_› eb
            · rw [setF_join] at e
              rw [setA_join]
              split at e
              · rename_i q; cases e; exact ⟨_, if_pos q, rv₂⟩
              · rename_i q; obtain ⟨x', h3, h4⟩ := r t u e
                exact ⟨x', by rw [if_neg q]; exact h3, h4⟩
            · rw [setF_join] at e
              rw [setA_join]
              split at e
              · cases e
              · rename_i q; rw [if_neg q]; exact z t e
          obtain ⟨ok', vs', g'⟩ := put_in ok₂ vs₂ hj ro hn' kp hx'
          exact ⟨.next, sl, _, φ₂, w₂, ok', vs', trivial, (g₁.trans g₂).toS.trans g', (r₁.trans r₂).trans (Rest.mk s₂ h' _)⟩
    · exact w₂.elim
  · exact w₂.elim
end
end Mine

namespace Mine
section
variable {c : Cx} {d : Nat} {sc : Scope} {ρ : List Str}

/-! ### a def of the text -/
noncomputable def FnC (c : Cx) (d : Nat) (f : Value) (W : WF) : Prop :=
  ∀ A s φ H args vals Q (R : Result → Shared → Prop), AOK d A → Ok c φ H s.heap → RepVs c φ s.heap args vals → W args H Q → (∀ x s', PostE c φ s Q x s' → R (.ok (.ret x)) s') → codeAny (model c.prog c.w) A (.call f ⟨vals, []⟩) R s
theorem FnC.ok {f W} (h : FnC c d f W) : FnOK c d f W := fun A _ s φ H args vals Q ao ok r w => wpAny_call (h A s φ H args vals Q _ ao ok r w fun _ _ p => p)
theorem FnC.weaken {f W W'} (h : FnC c d f W) (k : ∀ args H Q, W' args H Q → W args H Q) : FnC c d f W' := fun A s φ H args vals Q R ao ok r w => h A s φ H args vals Q R ao ok r (k _ _ _ w)
noncomputable def retV : Fl → V
  | .ret v => v
  | .next => .none
noncomputable def fnW (n k : Nat) (W : WS) : WF := fun args H Q => args.length = n ∧ W (args.map some ++ List.replicate k none) H fun F _ H' => Q (retV F) H'
theorem bindL_not {kd : Str → Option NameKind} {x : Str} : ∀ (bs : List (Str × Value)) (m : Str → Option Value), x ∉ bs.map (·.1) → bindL kd bs m x = m x
  | [], _, _ => rfl
  | (n, v) :: r, m, h => by
    rw [List.map_cons, List.mem_cons] at h
    unfold bindL
    rw [bindL_not r _ fun q => h (.inr q)]
    split
    · exact if_neg fun q => h (.inl q)
    · rfl
theorem bindC_not {kd : Str → Option NameKind} {x : Str} : ∀ (bs : List (Str × Value)) (m : Str → Option Value), x ∉ bs.map (·.1) → bindC kd bs m x = m x
  | [], _, _ => rfl
  | (n, v) :: r, m, h => by
    rw [List.map_cons, List.mem_cons] at h
    unfold bindC
    rw [bindC_not r _ fun q => h (.inr q)]
    split
    · rfl
    · exact if_neg fun q => h (.inl q)
theorem bindL_get {kd : Str → Option NameKind} {x : Str} {v : Value} : ∀ (bs : List (Str × Value)) (m : Str → Option Value), (bs.map (·.1)).Nodup → (x, v) ∈ bs → kd x = some .local → bindL kd bs m x = some v
  | (n, w) :: r, m, nd, h, hk => by
    rw [List.map_cons, List.nodup_cons] at nd
    unfold bindL
    rcases List.mem_cons.mp h with e | h
    · cases e
      rw [bindL_not r _ nd.1, if_pos hk, if_pos rfl]
    · exact bindL_get r _ nd.2 h hk
theorem bindC_get {kd : Str → Option NameKind} {x : Str} {v : Value} : ∀ (bs : List (Str × Value)) (m : Str → Option Value), (bs.map (·.1)).Nodup → (x, v) ∈ bs → kd x = some .cell → bindC kd bs m x = some v
  | (n, w) :: r, m, nd, h, hk => by
    rw [List.map_cons, List.nodup_cons] at nd
    unfold bindC
    rcases List.mem_cons.mp h with e | h
    · cases e
      rw [bindC_not r _ nd.1, if_neg (by rw [hk]; decide), if_pos rfl]
    · exact bindC_get r _ nd.2 h hk
theorem Ok.fresh {φ H h a} (ok : Ok c φ H h) (e : h.get? a = none) : a ∉ φ.l ∧ a ∉ φ.z ∧ c.h₀.get? a = none := by
  refine ⟨fun m => ?_, fun m => ?_, ?_⟩
  · obtain ⟨o, e'⟩ := ok.live m; rw [e] at e'; cases e'
  · obtain ⟨o, e'⟩ := ok.zl _ m; rw [e] at e'; cases e'
  · cases q : c.h₀.get? a with
    | none => rfl
    | some o => have := ok.base _ _ q; rw [e] at this; cases this
theorem fn_okG {PA0 : Around → Mp → Prop} {PA : Env → Around → Mp → Prop} {f : Addr} {fo : Obj} {fd : FuncData} {body : List Stmt} {ps rest : List Str} {W : WS} (G : Good c) (ho : c.h₀.get? f = some fo) (hd : fo.data = .func fd) (hcd : c.h₀.CodeRec fd.code fd.qualname) (hbody : fd.body = .stmts body) (hclo : fd.closure = [])
    (hbind : ∀ vals : List Value, vals.length = ps.length → bindArgs fd ⟨vals, []⟩ = pure (ps.zip vals)) (hg : fd.globals = mainGlobals) (hbi : fd.builtins = builtinsNs) (hco : fd.scope.isCoroutine = false) (hgen : fd.scope.isGenerator = false) (hk : fd.scope.kind = .function)
    (hnd : (ps ++ rest).Nodup) (hkd : ∀ x ∈ ps ++ rest, fd.scope.names.lookup x = some .local ∨ fd.scope.names.lookup x = some .cell) (hP : ∀ A L φ, PA0 A φ → PA (callEnvC fd L f) (A.deeper (callEnvC fd L f)) φ)
    (hb : ∀ env A E s φ sl H Q, PA env A φ → EnvOK fd.scope env → AOK d A → Ok c φ H s.heap → Vars c (ps ++ rest) φ s.heap env sl → W sl H Q → wpAny (model c.prog c.w) A (execs body env) (PostS c (ps ++ rest) env φ s Q) E s)
    (A : Around) (s : Shared) (φ : Mp) (H : HW) (args : List V) (vals : List Value) (Q : V → HW → Prop) (R : Result → Shared → Prop) (pa : PA0 A φ) (ao : AOK (d + 1) A) (ok : Ok c φ H s.heap) (r : RepVs c φ s.heap args vals) (w : fnW ps.length rest.length W args H Q) (k : ∀ x s', PostE c φ s Q x s' → R (.ok (.ret x)) s') : codeAny (model c.prog c.w) A (.call (.ref f) ⟨vals, []⟩) R s := by
  obtain ⟨hn, w⟩ := w
  have hv : vals.length = ps.length := by rw [← r.length, hn]
  have kz : (ps.zip vals).map (·.1) = ps := List.map_fst_zip (by (first | lia | omega))
  have pn : ps.Nodup := (List.nodup_append.mp hnd).1
  refine codeAny_call_cells (by have := ao.depth; show A.depth < 1000; (first | lia | omega)) (ok.base _ _ ho) hd (G.NL.keeps ok.base) (hcd.keeps ok.base) hbody (hbind vals hv) hclo (fun x hx => ?_) (fun s₁ x => ?_) hco hgen hk
  · have hm : x.1 ∈ ps := by rw [← kz]; exact List.mem_map_of_mem hx
    rcases hkd x.1 (List.mem_append_left _ hm) with h | h
    · exact .inl h
    · exact .inr ⟨h, cellsFrom_some _ _ _ (.inl h)⟩
  · have kp := x.toInCall.keep
    have eL : (callEnvC fd s.heap.objs.size f).locals = s.heap.objs.size := rfl
    have eK : ∀ y, (callEnvC fd s.heap.objs.size f).kindOf y = fd.scope.names.lookup y := fun _ => rfl
    have eC : (callEnvC fd s.heap.objs.size f).cells = cellsFrom (s.heap.objs.size + 1) fd.scope.names [] := rfl
    have nb : ∀ a, s.heap.get? a = none → a ∉ φ.l ∧ a ∉ φ.z ∧ c.h₀.get? a = none := fun a e => ok.fresh e
    have fc : ∀ y a, (callEnvC fd s.heap.objs.size f).cells.lookup y = some a → s.heap.get? a = none := fun y a e => by
      have := x.above y a (PySem.mem_of_lookup e)
      exact Heap.get?_none_of_le (Nat.le_of_lt this)
    have ok₁ : Ok c φ H s₁.heap := ok.keep kp
    have g₁ : Grow φ s.heap φ s₁.heap := .of_keep kp
    have r₁ := r.grow g₁
    have at_ : ∀ (i : Nat) y v, (ps ++ rest)[i]? = some y → (args.map some ++ List.replicate rest.length none)[i]? = some (some v) → ∃ z, (y, z) ∈ ps.zip vals ∧ RepV c φ s₁.heap v z := fun i y v e1 e2 => by
      by_cases hi : i < ps.length
      · rw [List.getElem?_append_left hi] at e1
        rw [List.getElem?_append_left (by simp [hn]; exact hi), List.getElem?_map] at e2
        obtain ⟨u, h1, h2⟩ := Option.map_eq_some_iff.mp e2
        cases h2
        obtain ⟨z, h3, h4⟩ := r₁.get h1
        refine ⟨z, ?_, h4⟩
        apply List.mem_of_getElem? (i := i)
        rw [List.getElem?_zip_eq_some]
        exact ⟨e1, h3⟩
      · rw [List.getElem?_append_right (by simp [hn]; (first | lia | omega)), List.getElem?_replicate] at e2
        split at e2 <;> cases e2
    have vs : Vars c (ps ++ rest) φ s₁.heap (callEnvC fd s.heap.objs.size f) (args.map some ++ List.replicate rest.length none) := by
      refine ⟨hnd, by simp [hn], (nb _ (new_none _)).1, (nb _ (new_none _)).2.1, (nb _ (new_none _)).2.2, ⟨_, x.toInCall.ns, fun i y v e1 e2 e3 => ?_⟩, fun y a e => ?_, fun y z a e1 e2 => PySem.name_of_addr x.apart (PySem.mem_of_lookup e1) (PySem.mem_of_lookup e2), fun i y v e1 e2 e3 => ?_, fun i y e1 e2 => ?_⟩
      · obtain ⟨z, h1, h2⟩ := at_ i y v e1 e3
        exact ⟨z, bindL_get _ _ (by rw [kz]; exact pn) h1 e2, h2⟩
      · have e0 := fc y a e
        exact ⟨(nb a e0).1, (nb a e0).2.1, (nb a e0).2.2, _, x.cell y a e⟩
      · obtain ⟨z, h1, h2⟩ := at_ i y v e1 e3
        have ey : (callEnvC fd s.heap.objs.size f).kindOf y = some .cell := by
          rcases e2 with e2 | e2
          · exact e2
          · rcases hkd y (List.mem_of_getElem? e1) with q | q <;> (rw [eK, q] at e2; cases e2)
        obtain ⟨a, ea⟩ := Option.isSome_iff_exists.mp (cellsFrom_some (x := y) fd.scope.names (s.heap.objs.size + 1) [] (.inl ey))
        refine ⟨a, z, ea, ?_, h2⟩
        have := x.cell y a ea
        rw [bindC_get _ _ (by rw [kz]; exact pn) h1 ey] at this
        exact this
      · exact Option.isSome_iff_exists.mp (cellsFrom_some (x := y) fd.scope.names (s.heap.objs.size + 1) [] (.inl e2))
    refine wpAny_mono (hb _ (A.deeper (callEnvC fd s.heap.objs.size f)) _ s₁ φ _ H _ (hP A s.heap.objs.size φ pa) ⟨rfl, hg, hbi⟩ ⟨ao.handled, ao.guards, by have := ao.depth; show A.depth + 1 + d < 900; (first | lia | omega), by have := ao.units; show A.units + 3 + 20 * d < 9000; (first | lia | omega)⟩ ok₁ vs w) (fun fl s' p => ?_) fun _ _ e => e
    obtain ⟨F, sl', H', φ', q, ok', vs', rf, g', rs'⟩ := p
    have g : Grow φ s.heap φ' s'.heap := by
      refine ⟨?_, fun b o e n => g'.keep b o (kp b o e) n (fun z => ?_) (fun y z => ?_), fun b o e => g'.live b o (kp b o e)⟩
      · obtain ⟨δ, ζ, e1, e2, h1, h2⟩ := g'.ext
        exact ⟨δ, ζ, e1, e2, fun a m => g₁.none (h1 a m), fun a m => g₁.none (h2 a m)⟩
      · rw [z, eL, new_none] at e; cases e
      · rw [fc y b z] at e; cases e
    have rs : Rest s s' := by
      obtain ⟨h1, t1, e1, _⟩ := x.done
      exact Rest.trans (b := s₁) ⟨h1, t1, e1⟩ rs'
    cases F with
    | next =>
      cases fl with
      | next => exact k _ _ ⟨.none, H', φ', q, ok', .none, g, rs⟩
      | _ => exact rf.elim
    | ret v =>
      cases fl with
      | ret y => exact k _ _ ⟨v, H', φ', q, ok', rf, g, rs⟩
      | _ => exact rf.elim

theorem fn_ok {f : Addr} {fo : Obj} {fd : FuncData} {body : List Stmt} {ps rest : List Str} {W : WS} (G : Good c) (ho : c.h₀.get? f = some fo) (hd : fo.data = .func fd) (hcd : c.h₀.CodeRec fd.code fd.qualname) (hbody : fd.body = .stmts body) (hclo : fd.closure = [])
    (hbind : ∀ vals : List Value, vals.length = ps.length → bindArgs fd ⟨vals, []⟩ = pure (ps.zip vals)) (hg : fd.globals = mainGlobals) (hbi : fd.builtins = builtinsNs) (hco : fd.scope.isCoroutine = false) (hgen : fd.scope.isGenerator = false) (hk : fd.scope.kind = .function)
    (hnd : (ps ++ rest).Nodup) (hkd : ∀ x ∈ ps ++ rest, fd.scope.names.lookup x = some .local ∨ fd.scope.names.lookup x = some .cell) (hb : Exs c d fd.scope (ps ++ rest) body W) : FnC c (d + 1) (.ref f) (fnW ps.length rest.length W) := fun A s φ H args vals Q R ao ok r w k =>
  fn_okG (PA0 := fun _ _ => True) (PA := fun _ _ _ => True) G ho hd hcd hbody hclo hbind hg hbi hco hgen hk hnd hkd (fun _ _ _ _ => trivial) (fun env A E s φ sl H Q _ eo ao ok vs w => hb env A E s φ sl H Q eo ao ok vs w) A s φ H args vals Q R trivial ao ok r w k

/-! ### classes -/
theorem Ok.inst0 {φ H h k} (ok : Ok c φ H h) : Ok c ⟨φ.l ++ [h.objs.size + 1], φ.z ++ [h.objs.size]⟩ (H ++ [.inst k []]) ((h.push emptyDict).push (instObj (c.cls k) h.objs.size)) ∧
    Grow φ h ⟨φ.l ++ [h.objs.size + 1], φ.z ++ [h.objs.size]⟩ ((h.push emptyDict).push (instObj (c.cls k) h.objs.size)) := by
  obtain ⟨ok₁, g₁⟩ := ok.freeze (new_none h) (h' := h.push emptyDict) (fun b o e => Heap.get?_push_of_some _ e) (Heap.get?_push_size _ rfl)
  have sz : (h.push emptyDict).objs.size = h.objs.size + 1 := Heap.size_push ..
  have n1 : (h.push emptyDict).get? (h.objs.size + 1) = none := by rw [← sz]; exact new_none _
  obtain ⟨ok₂, g₂⟩ := ok₁.alloc (a := h.objs.size + 1) (lo := .inst k []) (o := instObj (c.cls k) h.objs.size) n1 (h' := (h.push emptyDict).push (instObj (c.cls k) h.objs.size)) (fun b o e => Heap.get?_push_of_some _ e) (by rw [← sz]; exact Heap.get?_push_size _ rfl)
    (.inst (fun i v e => by simp at e) (fun i _ => by simp) (new_unz ok).1 (List.mem_append_right _ (.head _)) (Heap.get?_push_size _ rfl)) ok.newS1
  exact ⟨ok₂, g₁.trans g₂⟩
noncomputable def mkW (k : Nat) (W : WF) : WF := fun args H Q => W (.loc H.length :: args) (H ++ [.inst k []]) fun r H' => r = .none ∧ Q (.loc H.length) H'
/-- an object that its own __init__ fills -/
theorem make_ok {k fI W} (G : Good c) (hm : makesIn c.K (c.cls k) = true) (hi : findIn c.K (.ref (c.cls k)) "__init__" = some (some (.ref fI))) (hf : typeIn c.K (.ref fI) = some (.type "function")) (h : FnC c d (.ref fI) W) : FnC c (d + 1) (.ref (c.cls k)) (mkW k W) := by
  intro A s φ H args vals Q R ao ok r w K
  have X := ok.X G
  obtain ⟨hh, gg, dd, t, os⟩ := s
  obtain ⟨ok₂, g₂⟩ := ok.inst0 (k := k)
  refine make_core (makes_of X hm) (looks_findIn X hi) (fun self => bind_fn X self hf) (.inl rfl) ?_
  refine h _ ⟨(hh.push emptyDict).push (instObj (c.cls k) hh.objs.size), gg, dd, t, os⟩ _ _ _ _ _ _ ⟨ao.handled, ao.guards, ?_, ?_⟩ ok₂ (.cons (.loc ?_) (r.grow g₂)) w fun x s' p => ?_
  · have := ao.depth; show A.depth + 1 + d < 900; (first | lia | omega)
  · have := ao.units; show A.units + 1 + 20 * d < 9000; (first | lia | omega)
  · rw [← ok.len]; simp
  · obtain ⟨v, H', φ', ⟨rfl, q⟩, ok', rv, g', rs'⟩ := p
    cases rv
    refine ⟨rfl, K _ _ ⟨.loc H.length, H', φ', q, ok', .loc (g'.at (by rw [← ok.len]; simp)), g₂.trans g', ?_⟩⟩
    obtain ⟨h1, t1, rfl⟩ := rs'
    exact ⟨h1, t1, rfl⟩
/-! ### an object that nothing turns any more -/
mutual
inductive Bel (n : Nat) : V → Prop
  | none : Bel n .none
  | bool {b} : Bel n (.bool b)
  | int {i} : Bel n (.int i)
  | str {s} : Bel n (.str s)
  | loc {k} : k < n → Bel n (.loc k)
  | tup {vs} : Bels n vs → Bel n (.tup vs)
  | obj {k fs} : Bels n fs → Bel n (.obj k fs)
  | glob {a} : Bel n (.glob a)
  | script : Bel n .script
  | tok {x} : Bel n (.tok x)
inductive Bels (n : Nat) : List V → Prop
  | nil : Bels n []
  | cons {v vs} : Bel n v → Bels n vs → Bels n (v :: vs)
end
theorem Bels.mem {n} : ∀ {vs}, Bels n vs → ∀ v ∈ vs, Bel n v
  | _, .cons h _, _, .head _ => h
  | _, .cons _ t, _, .tail _ m => Bels.mem t _ m
end
end Mine

namespace Mine
section
variable {c : Cx} {d : Nat} {sc : Scope} {ρ : List Str}
theorem at0 {x : Str} {l : List Str} : (x :: l)[0]? = some x := rfl
theorem atS {x y : Str} {l : List Str} {i : Nat} (h : l[i]? = some y) : (x :: l)[i + 1]? = some y := by simpa using h
theorem lstAt_set {H : HW} {k : Nat} {xs} (h : k < H.length) : lstAt (H.set k (.list xs)) k = some xs := by
  unfold lstAt; rw [List.getElem?_set_self h]
theorem lstAt_lt {H : HW} {k : Nat} {xs} (h : lstAt H k = some xs) : k < H.length := (List.getElem?_eq_some_iff.mp (lstAt_of h)).1
/-! ### names by the written part -/
theorem mgIn (G : Good c) {x v} (e : nsIn c.K mainGlobals x = some (some v)) : c.mg x = some v := mg_of G.X G.G e
theorem mgNo (G : Good c) {x} (e : nsIn c.K mainGlobals x = some none) : c.mg x = none := mg_none_of G.X G.G e
theorem ev_fn {x np args pos f W as} (G : Good c) (hf : FnC c d f W) (ha : Evs c d sc ρ args as) (hk : sc.kind = .function) (hx : sc.names.lookup x = some .globalImplicit) (hv : nsIn c.K mainGlobals x = some (some f)) (hkeep : keepIn c.K f = true) (hd : (x == ("__debug__" : Str)) = false) : Ev c d sc ρ (.Call (.Name x np) args [] pos) (wCall W as) :=
  ev_call G hk hx (mgIn G hv) hd hkeep hf.ok ha
/-! ### minus -/
noncomputable def wNeg (a : WE) : WE := fun sl H Q => a sl H fun v H' => match v with | .int i => Q (.int (-i)) H' | _ => False
/-! ### tuple targets -/
noncomputable def allN : List Expr → Bool
  | [] => true
  | .Name _ _ :: r => allN r
  | _ => false
noncomputable def tnames : List Expr → List Str
  | .Name x _ :: r => x :: tnames r
  | _ => []
theorem stores_N {M : Model} {env : Env} : ∀ elts : List Expr, allN elts = true → (assignEach elts env).findIdx? (·.1) = none ∧ Stores M env (tnames elts) ((assignEach elts env).map (·.2))
  | [], _ => ⟨rfl, trivial⟩
  | .Name x p :: r, h => by
    have ih := stores_N (M := M) (env := env) r h
    refine ⟨?_, fun _ _ _ _ _ h => PySem.wpAny_assign_Name h, ih.2⟩
    show List.findIdx? (·.1) ((false, assign (.Name x p) env) :: assignEach r env) = none
    rw [List.findIdx?_cons, ih.1]
    rfl
theorem slots_nil : Slots sc ρ [] [] := trivial
theorem slots_cons {i is x xs} (h : ρ[i]? = some x) (hs : Slots sc ρ is xs) (hx : sc.names.lookup x = some .local ∨ sc.names.lookup x = some .cell) : Slots sc ρ (i :: is) (x :: xs) := ⟨⟨h, hx⟩, hs⟩
theorem at_tupN {elts k pos is} (hx : Slots sc ρ is (tnames elts)) (hk : sc.kind = .function) (hn : allN elts = true) : At c d sc ρ (.Tuple elts k pos) (aTup is) :=
  at_tup hk hx (fun env => (stores_N (M := model c.prog c.w) (env := env) elts hn).1) fun env => (stores_N elts hn).2
theorem ex_setTN {elts k tpos e pos a is} (he : Ev c d sc ρ e a) (hx : Slots sc ρ is (tnames elts)) (hk : sc.kind = .function) (hn : allN elts = true)
    (hs : ∀ env, swapsWithSole [.Tuple elts k tpos] e pos.line env = pure false) (hw : ∀ env, env.scope = sc → swappedStores [.Tuple elts k tpos] e env = pure none) : Ex c d sc ρ (.Assign [.Tuple elts k tpos] e pos) (wSetT is a) :=
  ex_setT he hk hx (fun env => (stores_N (M := model c.prog c.w) (env := env) elts hn).1) (fun env => (stores_N elts hn).2) hs hw
theorem ex_setRN {elts k tpos e pos a is} (he : Ev c d sc ρ e a) (hx : Slots sc ρ is (tnames elts)) (hk : sc.kind = .function)
    (hs : ∀ env, swapsWithSole [.Tuple elts k tpos] e pos.line env = pure false) (hw : ∀ env, env.scope = sc → swappedStores [.Tuple elts k tpos] e env = pure (some (tnames elts))) : Ex c d sc ρ (.Assign [.Tuple elts k tpos] e pos) (wSetR is a) :=
  ex_setR he hk hx hs hw
/-! ### + of any kind -/
noncomputable def wAdd (ns : List Int) : WB := fun v w H Q => match v, w with
  | .int i, .int j => Q (.int (i + j)) H
  | .str a, .str b => a.length + b.length ≤ 1000000 ∧ Q (.str (a ++ b)) H
  | v, w => wAddL ns v w H Q
theorem addV_ok (G : Good c) : BinOK c d .Add (wAdd c.ns) := by
  intro A E s φ H v w x y Q ao ok rv rw' q
  unfold wAdd at q
  split at q
  · exact add_ok A E s φ H _ _ x y Q ao ok rv rw' q
  · rename_i a b
    cases rv; cases rw'
    exact PyProof.Rows.add_str (fun t' tk => PostE.here (s := s) (s' := { s with toks := tk }) q.2 ok .str (fun _ _ e => e) (Rest.mk s s.heap tk)) (by rw [sizeLine_eq]; (first | lia | omega))
  · exact addL_ok G A E s φ H _ _ x y Q ao ok rv rw' q
end
end Mine

namespace Mine
/-! ### slices, plainly -/
theorem pick_range {α : Type} (xs : List α) : ∀ (n s : Nat), s + n ≤ xs.length → ((List.range n).map fun k => s + k).filterMap (xs[·]?) = (xs.drop s).take n
  | 0, s, _ => by simp
  | n + 1, s, h => by
    have ih := pick_range xs n s (by (first | lia | omega))
    rw [List.range_succ, List.map_append, List.filterMap_append, ih]
    have hs : s + n < xs.length := by (first | lia | omega)
    rw [List.take_add_one]
    simp [List.getElem?_drop, hs]
theorem sliceV_take {α : Type} (xs : List α) (n : Nat) : sliceV xs none (some (n : Int)) none = xs.take n := by
  have h : sliceRange (sliceBounds none (some (n : Int)) none xs.length).1 (sliceBounds none (some (n : Int)) none xs.length).2.1 (sliceBounds none (some (n : Int)) none xs.length).2.2 = (List.range (min n xs.length)).map fun k => 0 + k := by
    simp only [sliceBounds, sliceRange, Option.getD_none]
    have e : max 0 (min (if (n : Int) < 0 then (n : Int) + xs.length else n) xs.length) = ((min n xs.length : Nat) : Int) := by (first | lia | omega)
    simp only [show ((1 : Int) > 0) = True by simp, if_true, e]
    congr 1
    · funext k; (first | lia | omega)
    · congr 1
      split <;> (first | lia | omega)
  unfold sliceV
  rw [h, pick_range xs _ 0 (by (first | lia | omega))]
  simp [List.take_eq_take_iff]
/-! ### the abstract heap grown -/
theorem ext_lt {α : Type} {H L : List α} {k : Nat} (h : k < H.length) : (H ++ L)[k]? = H[k]? := List.getElem?_append_left h
theorem lstAt_ext {H L : HW} {k : Nat} {xs} (h : lstAt H k = some xs) : lstAt (H ++ L) k = some xs := by
  have := lstAt_of h
  unfold lstAt
  rw [ext_lt (lstAt_lt h), this]
theorem lstAt_set_ne {H : HW} {k j : Nat} {lo : LO} (h : k ≠ j) : lstAt (H.set j lo) k = lstAt H k := by
  unfold lstAt
  rw [List.getElem?_set_ne (Ne.symm h)]
theorem asL_loc {ns : List Int} {H : HW} {k : Nat} : asL ns H (.loc k) = lstAt H k := rfl
end Mine

namespace Mine
/-! ### the words, opened one at a time (as rewritings that are not by computation) -/
section
variable {sl : Sl} {H : HW} {c : Cx} {ns : List Int}
theorem e_skip {Q} : wSkip sl H Q = Q .next sl H := propext Iff.rfl
theorem e_seq {a b Q} : wSeq a b sl H Q = a sl H (fun F sl' H' => match F with | .next => b sl' H' Q | .ret v => Q (.ret v) sl' H') := propext Iff.rfl
theorem e_set {i a Q} : wSet i a sl H Q = a sl H (fun v H' => Q .next (sl.set i (some v)) H') := propext Iff.rfl
theorem e_aug {i f a Q} : wAug i f a sl H Q = wBin f (wVar i) a sl H (fun v H' => Q .next (sl.set i (some v)) H') := propext Iff.rfl
theorem e_drop {a Q} : wDrop a sl H Q = a sl H (fun v H' => match v with | .none => Q .next sl H' | _ => False) := propext Iff.rfl
theorem e_if {t a b Q} : wIf t a b sl H Q = t sl H (fun r H' => if r then a sl H' Q else b sl H' Q) := propext Iff.rfl
theorem e_ret {a Q} : wRet a sl H Q = a sl H (fun v H' => Q (.ret v) sl H') := propext Iff.rfl
theorem e_setT {is a Q} : wSetT is a sl H Q = a sl H (fun v H' => aTup is v sl H' fun sl' H'' => Q .next sl' H'') := propext Iff.rfl
theorem e_setR {is a Q} : wSetR is a sl H Q = a sl H (fun v H' => aTupR is v sl H' fun sl' H'' => Q .next sl' H'') := propext Iff.rfl
theorem e_aTup {is vs K} : aTup is (.tup vs) sl H K = (vs.length = is.length ∧ K (setAll is vs sl) H) := propext Iff.rfl
theorem e_aTupR {is vs K} : aTupR is (.tup vs) sl H K = (vs.length = is.length ∧ K (setAll is.reverse vs.reverse sl) H) := propext Iff.rfl
theorem e_aName {i v K} : aName i v sl H K = K (sl.set i (some v)) H := propext Iff.rfl
theorem e_setAll {i is v vs} : setAll (i :: is) (v :: vs) sl = setAll is vs (sl.set i (some v)) := rfl
theorem e_setAll0 {vs} : setAll [] vs sl = sl := by cases vs <;> rfl
theorem e_k {v Q} : wK v sl H Q = Q v H := propext Iff.rfl
theorem e_var {i Q} : wVar i sl H Q = (match sl[i]? with | some (some v) => Q v H | _ => False) := propext Iff.rfl
theorem e_bin {f a b Q} : wBin f a b sl H Q = a sl H (fun v H₁ => b sl H₁ fun w H₂ => f v w H₂ Q) := propext Iff.rfl
theorem e_onI {f i j Q} : onI f (.int i) (.int j) H Q = Q (f i j) H := propext Iff.rfl
theorem e_mod {i j Q} : wMod (.int i) (.int j) H Q = (j ≠ 0 ∧ Q (.int (i.fmod j)) H) := propext Iff.rfl
theorem e_div {i j Q} : wDiv (.int i) (.int j) H Q = ((j ≠ 0 ∧ j.natAbs < 1073741824) ∧ Q (.int (i.fdiv j)) H) := propext Iff.rfl
theorem e_addI {i j Q} : wAdd ns (.int i) (.int j) H Q = Q (.int (i + j)) H := propext Iff.rfl
theorem e_addS {i j Q} : wAdd ns (.str i) (.str j) H Q = (i.length + j.length ≤ 1000000 ∧ Q (.str (i ++ j)) H) := propext Iff.rfl
theorem e_addL {k j xs ys Q} (h1 : lstAt H k = some xs) (h2 : lstAt H j = some ys) : wAdd ns (.loc k) (.loc j) H Q = (xs.length + ys.length ≤ 1000000 ∧ Q (.loc H.length) (H ++ [.list (xs ++ ys)])) := by
  show wAddL ns (.loc k) (.loc j) H Q = _
  unfold wAddL
  rw [asL_loc, asL_loc, h1, h2]
theorem e_isN {f v Q} : wIsN f v .none H Q = Q (.bool (f (isN v))) H := propext Iff.rfl
theorem e_tv {w Q} : tv w sl H Q = w sl H (fun v H' => match v with | .bool b => Q b H' | _ => False) := propext Iff.rfl
theorem e_not {w Q} : tNot w sl H Q = w sl H (fun b H' => Q (!b) H') := propext Iff.rfl
theorem e_and {a b Q} : tAnd a b sl H Q = a sl H (fun t H' => if t then b sl H' Q else Q false H') := propext Iff.rfl
theorem e_or {a b Q} : tOr a b sl H Q = a sl H (fun t H' => if t then Q true H' else b sl H' Q) := propext Iff.rfl
theorem e_nil {Q} : wNil sl H Q = Q [] H := propext Iff.rfl
theorem e_cons {a b Q} : wCons a b sl H Q = a sl H (fun v H₁ => b sl H₁ fun vs H₂ => Q (v :: vs) H₂) := propext Iff.rfl
theorem e_list {a Q} : wList a sl H Q = a sl H (fun vs H₁ => vs.length ≤ 1000000 ∧ Q (.loc H₁.length) (H₁ ++ [.list vs])) := propext Iff.rfl
theorem e_tup {a Q} : wTup a sl H Q = a sl H (fun vs H₁ => vs.length ≤ 1000000 ∧ Q (.tup vs) H₁) := propext Iff.rfl
theorem e_call {W as Q} : wCall W as sl H Q = as sl H (fun vs H₁ => W vs H₁ Q) := propext Iff.rfl
theorem e_meth {k W a as Q} : wMeth c k W a as sl H Q = a sl H (fun v H₁ => clsV c H₁ v = some k ∧ as sl H₁ fun vs H₂ => W (v :: vs) H₂ Q) := propext Iff.rfl
theorem e_clsO {k fs} : clsV c H (.obj k fs) = some k := rfl
theorem e_neg {a Q} : wNeg a sl H Q = a sl H (fun v H' => match v with | .int i => Q (.int (-i)) H' | _ => False) := propext Iff.rfl
theorem e_idx {a b Q} : wIdx ns a b sl H Q = a sl H (fun v H₁ => b sl H₁ fun w H₂ => match asL ns H₂ v, w with
  | some xs, .int k => xs.length ≤ 1000000 ∧ (match getI xs k with | some u => Q u H₂ | none => False)
  | _, _ => False) := propext Iff.rfl
theorem e_onone {Q} : oNone sl H Q = Q none H := propext Iff.rfl
theorem e_osome {a Q} : oSome a sl H Q = a sl H (fun v H' => match v with | .int i => Q (some i) H' | _ => False) := propext Iff.rfl
theorem e_slice {a lo hi st Q} : wSlice ns a lo hi st sl H Q = a sl H (fun v H₁ => lo sl H₁ fun l H₂ => hi sl H₂ fun u H₃ => st sl H₃ fun k H₄ => match asL ns H₄ v with
  | some xs => (xs.length ≤ 1000000 ∧ k ≠ some 0) ∧ Q (.loc H₄.length) (H₄ ++ [.list (sliceV xs l u k)])
  | none => False) := propext Iff.rfl
theorem e_append {a b Q} : wAppend a b sl H Q = a sl H (fun v H₁ => match v with
  | .loc k => (lstAt H₁ k).isSome = true ∧ b sl H₁ fun w H₂ => (match lstAt H₂ k with | some xs => xs.length ≤ 1000000 ∧ Q .none (H₂.set k (.list (xs ++ [w]))) | none => False)
  | _ => False) := propext Iff.rfl
theorem e_pop {a Q} : wPop a sl H Q = a sl H (fun v H₁ => match v with
  | .loc k => (match lstAt H₁ k with | some xs => xs.length ≤ 1000000 ∧ (match xs.getLast? with | some u => Q u (H₁.set k (.list xs.dropLast)) | none => False) | none => False)
  | _ => False) := propext Iff.rfl
theorem e_len {k xs Q} (h : lstAt H k = some xs) : bLen ns [.loc k] H Q = (xs.length ≤ 1000000 ∧ Q (.int xs.length) H) := by
  show (match asL ns H (.loc k) with | some xs => xs.length ≤ 1000000 ∧ Q (.int xs.length) H | none => False) = _
  rw [asL_loc, h]
theorem e_min {a b Q} : bMin [.int a, .int b] H Q = Q (.int (if b < a then b else a)) H := propext Iff.rfl
theorem e_max {a b Q} : bMax [.int a, .int b] H Q = Q (.int (if b > a then b else a)) H := propext Iff.rfl
theorem e_for {it ta b Q} : wFor ns it ta b sl H Q = it sl H (fun k H₁ => wForGo ns k ta b k.items sl H₁ Q) := propext Iff.rfl
theorem e_iList {a Q} : iList ns a sl H Q = a sl H (fun v H' => match asL ns H' v with | some xs => Q (.list v xs) H' | none => False) := propext Iff.rfl
theorem e_for0 {k ta b Q} : wForGo ns k ta b [] sl H Q = Q .next sl H := propext Iff.rfl
theorem e_for1 {k ta b v r Q} : wForGo ns k ta b (v :: r) sl H Q = ta v sl H (fun sl₁ H₁ => b sl₁ H₁ fun F sl₂ H₂ => match F with | .next => k.inv ns H₂ ∧ wForGo ns k ta b r sl₂ H₂ Q | .ret u => Q (.ret u) sl₂ H₂) := propext Iff.rfl
end
end Mine

namespace Mine
section
variable {c : Cx} {d : Nat} {sc : Scope} {ρ : List Str}

/-! ### a list that nobody tracked is tracked from here on -/
mutual
theorem RepV.adopt {φ : Mp} {h D} (n : D ∉ φ.z) : ∀ {v x}, RepV c φ h v x → RepV c ⟨φ.l ++ [D], φ.z⟩ h v x
  | _, _, .none => .none
  | _, _, .bool => .bool
  | _, _, .int => .int
  | _, _, .str => .str
  | _, _, .loc e => .loc (by
      show (φ.l ++ [D])[_]? = _
      rw [List.getElem?_append_left (List.getElem?_eq_some_iff.mp e).1]; exact e)
  | _, _, .tup n1 z n0 e r => .tup (fun m => (List.mem_append.mp m).elim n1 fun q => n (by rw [← List.mem_singleton.mp q]; exact z)) z n0 e (RepVs.adopt n r)
  | _, _, .obj n1 z m1 y n0 e es e' r => .obj (fun m => (List.mem_append.mp m).elim n1 fun q => n (by rw [← List.mem_singleton.mp q]; exact z)) z (fun m => (List.mem_append.mp m).elim m1 fun q => n (by rw [← List.mem_singleton.mp q]; exact y)) y n0 e es e' (RepVs.adopt n r)
  | _, _, .glob e => .glob e
  | _, _, .script => .script
  | _, _, .tok e => .tok e
theorem RepVs.adopt {φ : Mp} {h D} (n : D ∉ φ.z) : ∀ {vs xs}, RepVs c φ h vs xs → RepVs c ⟨φ.l ++ [D], φ.z⟩ h vs xs
  | _, _, .nil => .nil
  | _, _, .cons r rs => .cons (RepV.adopt n r) (RepVs.adopt n rs)
end
theorem RepO.adopt {φ : Mp} {h D} (n : D ∉ φ.z) {lo o} (r : RepO c φ h lo o) : RepO c ⟨φ.l ++ [D], φ.z⟩ h lo o := by
  cases r with
  | list r => exact .list (r.adopt n)
  | dict d k r => exact .dict d k (r.adopt n)
  | tab e => exact .tab e
  | inst r z m y e => exact .inst (fun i v e => by obtain ⟨x, h1, h2⟩ := r i v e; exact ⟨x, h1, h2.adopt n⟩) z (fun q => (List.mem_append.mp q).elim m fun q => n (by rw [← List.mem_singleton.mp q]; exact y)) y e
theorem Ok.adopt {φ H h D o lo} (ok : Ok c φ H h) (nl : D ∉ φ.l) (nz : D ∉ φ.z) (n0 : c.h₀.get? D = none) (e : h.get? D = some o) (r : RepO c φ h lo o) (hm : D ≠ sysModules) : Ok c ⟨φ.l ++ [D], φ.z⟩ (H ++ [lo]) h := by
  refine ⟨ok.base, fun b o e m => ?_, by simp [ok.len], ?_, fun i x lo' e1 e2 => ?_, fun b m q => ?_, ok.zl, ok.g0, fun b m => (List.mem_append.mp m).elim (ok.sm b) fun q => by rw [List.mem_singleton.mp q]; exact hm⟩
  · rcases List.mem_append.mp m with m | m
    · exact ok.off b o e m
    · rw [List.mem_singleton.mp m, n0] at e; cases e
  · refine List.nodup_append.mpr ⟨ok.nodup, by simp, fun x m y m' q => ?_⟩
    rw [List.mem_singleton.mp m'] at q
    exact nl (q ▸ m)
  · by_cases hi : i < φ.l.length
    · rw [List.getElem?_append_left hi] at e1
      rw [List.getElem?_append_left (by rw [← ok.len]; exact hi)] at e2
      obtain ⟨o', h1, h2⟩ := ok.objs i x lo' e1 e2
      exact ⟨o', h1, h2.adopt nz⟩
    · have hi' : φ.l.length ≤ i := Nat.not_lt.mp hi
      rw [List.getElem?_append_right hi'] at e1
      rw [List.getElem?_append_right (by rw [← ok.len]; exact hi'), ← ok.len] at e2
      cases q : i - φ.l.length with
      | zero =>
        rw [q] at e1 e2
        simp at e1 e2
        subst e1 e2
        exact ⟨o, e, r.adopt nz⟩
      | succ j => rw [q] at e1; simp at e1
  · rcases List.mem_append.mp q with q | q
    · exact ok.dj b m q
    · rw [List.mem_singleton.mp q] at m; exact nz m

/-! ### comprehensions -/
noncomputable def relS (scope sc : Scope) : Scope :=
  { scope with names := scope.names.map fun (n, k) => if (k == .free && sc.kind == .function && sc.names.lookup n == some .cell) then (n, .cell) else (n, k) }
theorem relabel_eq {scope : Scope} {env : Env} (e : EnvOK sc env) : relabel scope env = relS scope sc := by
  obtain ⟨rfl, _, _⟩ := e
  rfl
/-- where the free names of the comprehension stand in the frame -/
noncomputable def Frs (sc : Scope) (ρ : List Str) : List (Str × NameKind) → List Nat → List Str → Prop
  | [], is, xs => is = [] ∧ xs = []
  | (n, k) :: r, is, xs => if k = .free then ∃ i is' xs', is = i :: is' ∧ xs = n :: xs' ∧ ρ[i]? = some n ∧ sc.names.lookup n = some .cell ∧ Frs sc ρ r is' xs' else Frs sc ρ r is xs
theorem frs_nil : Frs sc ρ [] [] [] := ⟨rfl, rfl⟩
theorem frs_free {n r i is xs} (h : ρ[i]? = some n) (hs : Frs sc ρ r is xs) (hc : sc.names.lookup n = some .cell) : Frs sc ρ ((n, .free) :: r) (i :: is) (n :: xs) := by
  unfold Frs; rw [if_pos rfl]; exact ⟨i, is, xs, rfl, rfl, h, hc, hs⟩
theorem frs_local {n r is xs} (hs : Frs sc ρ r is xs) : Frs sc ρ ((n, .local) :: r) is xs := by
  unfold Frs; rw [if_neg (by decide)]; exact hs
theorem frs_cell {n r is xs} (hs : Frs sc ρ r is xs) : Frs sc ρ ((n, .cell) :: r) is xs := by
  unfold Frs; rw [if_neg (by decide)]; exact hs
theorem frs_glob {n r is xs} (hs : Frs sc ρ r is xs) : Frs sc ρ ((n, .globalImplicit) :: r) is xs := by
  unfold Frs; rw [if_neg (by decide)]; exact hs
noncomputable def clOf (env : Env) : List (Str × NameKind) → List (Str × Addr) → List (Str × Addr)
  | [], cs => cs
  | (n, k) :: r, cs => clOf env r (if k = .free then (match env.cells.lookup n with | some a => (n, a) :: cs | none => cs) else cs)
theorem closureFor_eq {scope : Scope} {env : Env} (h : ∀ x ∈ scope.names, x.2 = .free → (env.cells.lookup x.1).isSome = true) : closureFor scope env = pure (clOf env scope.names []) := by
  have go : ∀ (l : List (Str × NameKind)) (cs : List (Str × Addr)), (∀ x ∈ l, x.2 = .free → (env.cells.lookup x.1).isSome = true) →
      (forIn l cs fun x r => (match x with | (name, kind) => if (kind == NameKind.free) = true then do let a ← cellOf env name; pure (ForInStep.yield ((name, a) :: r)) else pure (ForInStep.yield r) : Sem (ForInStep (List (Str × Addr))))) = pure (clOf env l cs) := by
    intro l
    induction l with
    | nil => intro cs _; rfl
    | cons x r ih =>
      intro cs hl
      obtain ⟨n, k⟩ := x
      rw [List.forIn_cons]
      by_cases hk : k = .free
      · subst hk
        obtain ⟨a, ea⟩ := Option.isSome_iff_exists.mp (hl (n, .free) List.mem_cons_self rfl)
        have : cellOf env n = pure a := by unfold cellOf; rw [show env.cells.lookup n = some a from ea]
        simp only [beq_self_eq_true, if_true, this, clOf, show env.cells.lookup n = some a from ea]
        exact ih _ fun y hy => hl y (List.mem_cons_of_mem _ hy)
      · have hb : (k == NameKind.free) = false := by simpa using hk
        simp only [hb, Bool.false_eq_true, if_false, clOf, hk]
        exact ih _ fun y hy => hl y (List.mem_cons_of_mem _ hy)
  have e : closureFor scope env = (forIn scope.names ([] : List (Str × Addr)) fun x r => (match x with | (name, kind) => if (kind == NameKind.free) = true then do let a ← cellOf env name; pure (ForInStep.yield ((name, a) :: r)) else pure (ForInStep.yield r) : Sem (ForInStep (List (Str × Addr))))) >>= fun r => pure r := rfl
  rw [e, go _ _ h]
  rfl
theorem clOf_sub {env : Env} : ∀ (l : List (Str × NameKind)) (cs : List (Str × Addr)), (∀ x a, cs.lookup x = some a → env.cells.lookup x = some a) → ∀ x a, (clOf env l cs).lookup x = some a → env.cells.lookup x = some a
  | [], cs, h => h
  | (n, k) :: r, cs, h => by
    refine clOf_sub r _ fun x a e => ?_
    split at e
    · split at e
      · rename_i b eb
        rw [List.lookup_cons] at e
        split at e
        · rename_i q
          cases e
          rw [eq_of_beq q]; exact eb
        · exact h x a e
      · exact h x a e
    · exact h x a e
theorem clOf_has {env : Env} : ∀ (l : List (Str × NameKind)) (cs : List (Str × Addr)) (x : Str) (a : Addr), (env.cells.lookup x = some a) → (cs.lookup x = some a ∨ (x, NameKind.free) ∈ l) → (∀ y b, cs.lookup y = some b → env.cells.lookup y = some b) → (clOf env l cs).lookup x = some a
  | [], cs, x, a, e, h, hs => by
    rcases h with h | h
    · exact h
    · cases h
  | (n, k) :: r, cs, x, a, e, h, hs => by
    have hs' : ∀ y b, (if k = .free then (match env.cells.lookup n with | some a => (n, a) :: cs | none => cs) else cs).lookup y = some b → env.cells.lookup y = some b := by
      intro y b eb
      split at eb
      · split at eb
        · rename_i b' eb'
          rw [List.lookup_cons] at eb
          split at eb
          · rename_i q
            cases eb
            rw [eq_of_beq q]; exact eb'
          · exact hs y b eb
        · exact hs y b eb
      · exact hs y b eb
    refine clOf_has r _ x a e ?_ hs'
    by_cases q : x = n ∧ k = .free
    · obtain ⟨rfl, rfl⟩ := q
      left
      rw [if_pos rfl, e]
      simp
    · rcases h with h | h
      · left
        split
        · rename_i hk
          split
          · rename_i b' eb'
            rw [List.lookup_cons]
            have : (x == n) = false := by
              cases z : x == n with
              | false => rfl
              | true => exact absurd ⟨eq_of_beq z, hk⟩ q
            rw [this]; exact h
          · exact h
        · exact h
      · right
        rcases List.mem_cons.mp h with h | h
        · cases h; exact absurd ⟨rfl, rfl⟩ q
        · exact h
end
end Mine

namespace Mine
section
variable {c : Cx} {d : Nat} {sc : Scope} {ρ : List Str}
theorem lookup_relS_free {n : Str} (hs : sc.kind = .function) (hc : sc.names.lookup n = some .cell) : ∀ {names : List (Str × NameKind)}, names.lookup n = some .free →
    (names.map fun (n, k) => if (k == NameKind.free && sc.kind == .function && sc.names.lookup n == some .cell) then (n, NameKind.cell) else (n, k)).lookup n = some .cell
  | [], h => by simp at h
  | (m, k) :: r, h => by
    have ih := @lookup_relS_free n hs hc r
    rw [List.map_cons]
    cases hx : n == m with
    | true =>
      have := eq_of_beq hx
      subst this
      simp only [List.lookup_cons, hx] at h
      cases h
      simp [List.lookup_cons, hs, hc]
    | false =>
      simp only [List.lookup_cons, hx] at h
      have := ih h
      by_cases hc' : (k == NameKind.free && sc.kind == .function && sc.names.lookup m == some .cell) = true
      · show List.lookup n ((if (k == NameKind.free && sc.kind == .function && sc.names.lookup m == some .cell) = true then (m, NameKind.cell) else (m, k)) :: _) = _
        rw [if_pos hc', List.lookup_cons, hx]; exact this
      · show List.lookup n ((if (k == NameKind.free && sc.kind == .function && sc.names.lookup m == some .cell) = true then (m, NameKind.cell) else (m, k)) :: _) = _
        rw [if_neg hc', List.lookup_cons, hx]; exact this
theorem Frs.get {sc ρ} : ∀ {l : List (Str × NameKind)} {is : List Nat} {xs : List Str}, Frs sc ρ l is xs → is.length = xs.length ∧ ∀ (j : Nat) y, xs[j]? = some y → ∃ i, is[j]? = some i ∧ ρ[i]? = some y ∧ sc.names.lookup y = some .cell ∧ (y, NameKind.free) ∈ l
  | [], _, _, h => by obtain ⟨rfl, rfl⟩ := h; simp
  | (n, k) :: r, is, xs, h => by
    unfold Frs at h
    split at h
    · rename_i hk
      obtain ⟨i, is', xs', rfl, rfl, h1, h2, h3⟩ := h
      have ih := Frs.get h3
      refine ⟨by simp [ih.1], fun j y e => ?_⟩
      cases j with
      | zero => simp at e; subst e; exact ⟨i, rfl, h1, h2, by rw [← hk]; exact List.mem_cons_self⟩
      | succ j =>
        simp at e
        obtain ⟨i', a1, a2, a3, a4⟩ := ih.2 j y e
        exact ⟨i', by simpa using a1, a2, a3, List.mem_cons_of_mem _ a4⟩
    · have ih := Frs.get h
      exact ⟨ih.1, fun j y e => by obtain ⟨i', a1, a2, a3, a4⟩ := ih.2 j y e; exact ⟨i', a1, a2, a3, List.mem_cons_of_mem _ a4⟩⟩
/-- what a comprehension's own scope must be like -/
structure CSc (sc scope : Scope) (x : Str) (is : List Nat) (xs : List Str) (ρ : List Str) : Prop where
  kind : scope.kind = .function
  skind : sc.kind = .function
  nocell : ∀ y ∈ scope.names, y.2 ≠ .cell
  loc : scope.names.lookup x = some .local
  names : ∀ y ∈ scope.names, y.2 = .local → scope.names.lookup y.1 = some .local
  free : ∀ y ∈ scope.names, y.2 = .free → scope.names.lookup y.1 = some .free
  nd : (x :: xs).Nodup
  fr : Frs sc ρ scope.names is xs
noncomputable def fvOf (sl : Sl) (is : List Nat) : Sl := is.map fun i => (sl[i]?).join
theorem CSc.closed {scope x is xs} (S : CSc sc scope x is xs ρ) {env φ h sl} (eo : EnvOK sc env) (vs : Vars c ρ φ h env sl) : ∀ y ∈ scope.names, y.2 = .free → (env.cells.lookup y.1).isSome = true := by
  have go : ∀ (l : List (Str × NameKind)) is xs, Frs sc ρ l is xs → ∀ y ∈ l, y.2 = .free → (env.cells.lookup y.1).isSome = true := by
    intro l
    induction l with
    | nil => intro _ _ _ y hy; cases hy
    | cons z r ih =>
      intro is xs h y hy hf
      obtain ⟨n, k⟩ := z
      unfold Frs at h
      split at h
      · obtain ⟨i, is', xs', rfl, rfl, h1, h2, h3⟩ := h
        rcases List.mem_cons.mp hy with e | e
        · subst e
          obtain ⟨a, ea⟩ := vs.has i n h1 ((eo.kind n).trans h2)
          rw [ea]; rfl
        · exact ih _ _ h3 y e hf
      · rename_i nk
        rcases List.mem_cons.mp hy with e | e
        · subst e; exact absurd hf nk
        · exact ih _ _ h y e hf
  exact go _ _ _ S.fr
theorem comp_env {scope : Scope} {env : Env} {A : Around} {E : Value → Shared → Prop} {s : Shared} {φ : Mp} {sl : Sl} {H : HW} {is xs x} {R : Env → Shared → Prop} (S : CSc sc scope x is xs ρ)
    (eo : EnvOK sc env) (ok : Ok c φ H s.heap) (vs : Vars c ρ φ s.heap env sl)
    (k : ∀ cenv s', cenv.locals = s.heap.objs.size → EnvOK (relS scope sc) cenv → (∀ b, cenv.cells.lookup x = some b → s.heap.get? b = none) → (∀ y b, cenv.cells.lookup y = some b → env.cells.lookup y = some b ∨ s.heap.get? b = none) → Vars c (x :: xs) φ s'.heap cenv (none :: fvOf sl is) →
      (∀ b o, s.heap.get? b = some o → s'.heap.get? b = some o) → Rest s s' → R cenv s') :
    wpAny (model c.prog c.w) A (newFunctionEnv scope env.globals (clOf env scope.names []) [] env.qual none .none (some env)) (fun cenv s' => R { cenv with scope := relabel scope env } s') E s := by
  refine wpAny_newFunctionEnv S.nocell (by intro y hy; simp at hy) (fun h₁ hns₁ hsb₁ => ?_) S.kind
  have kp : ∀ b o, s.heap.get? b = some o → h₁.get? b = some o := fun b o e => hsb₁.extBut b o (Nat.ne_of_lt (Heap.lt_size e)) (Heap.get?_push_of_some _ e)
  have sub := clOf_sub (env := env) scope.names [] (by intro x a e; simp at e)
  have hC : c.h₀.get? s.heap.objs.size = none := by
    cases e : c.h₀.get? s.heap.objs.size with
    | none => rfl
    | some o => have := ok.base _ _ e; rw [new_none] at this; cases this
  have kindC : ∀ y, y ∈ xs → (relS scope sc).names.lookup y = some .cell := fun y hy => by
    obtain ⟨j, hj, ej⟩ := List.getElem_of_mem hy
    obtain ⟨i, a1, a2, a3, a4⟩ := (S.fr.get).2 j y (by rw [List.getElem?_eq_getElem hj, ej])
    exact lookup_relS_free S.skind a3 (S.free _ a4 rfl)
  have kindX : (relS scope sc).names.lookup x = some .local := by
    have := lookup_relabel_local (env := env) S.loc
    rw [show (relS scope sc) = relabel scope env from (relabel_eq eo).symm]
    exact this
  have eoC : EnvOK (relS scope sc) { (newEnv scope s.heap.objs.size env.globals (clOf env scope.names []) env.qual none .none (some env) builtinsNs) with scope := relabel scope env } :=
    ⟨relabel_eq eo, eo.glob, eo.bi⟩
  refine k _ { s with heap := h₁, toks := s.toks + ([] : List (Str × Value)).length } rfl eoC ?_ (fun y b e => .inl (sub y b e)) ⟨S.nd, ?_, (new_unz ok).1, (new_unz ok).2, hC, ⟨_, hns₁, ?_⟩, ?_, ?_, ?_, ?_⟩ kp (Rest.mk s _ _)
  · intro b e
    have e' : (clOf env scope.names []).lookup x = some b := e
    have : ∀ (l : List (Str × NameKind)) (cs : List (Str × Addr)) (y : Str) b, (clOf env l cs).lookup y = some b → cs.lookup y = some b ∨ (y, NameKind.free) ∈ l := by
      intro l
      induction l with
      | nil => intro cs y b e; exact .inl e
      | cons z r ih =>
        intro cs y b e
        obtain ⟨n, kk⟩ := z
        rcases ih _ y b e with h | h
        · split at h
          · rename_i hk
            split at h
            · rw [List.lookup_cons] at h
              split at h
              · rename_i q; right; rw [eq_of_beq q, hk]; exact List.mem_cons_self
              · exact .inl h
            · exact .inl h
          · exact .inl h
        · exact .inr (List.mem_cons_of_mem _ h)
    rcases this _ _ _ _ e' with h | h
    · simp at h
    · have := S.free _ h rfl
      rw [S.loc] at this; cases this
  · simp [fvOf, S.fr.get.1]
  · intro i y v h1 h2 h3
    cases i with
    | zero => simp at h3
    | succ i =>
      simp at h1
      have := (eoC.kind y).symm.trans h2
      rw [kindC y (List.mem_of_getElem? h1)] at this; cases this
  · intro y a e
    obtain ⟨n, z, n0, u, o', ho', hd⟩ := vs.offC y a (sub y a e)
    exact ⟨n, z, n0, u, o', kp _ _ ho', hd⟩
  · intro y z a e1 e2
    exact vs.inj y z a (sub y a e1) (sub z a e2)
  · intro i y v h1 h2 h3
    cases i with
    | zero => simp at h3
    | succ i =>
      simp at h1 h3
      obtain ⟨j, a1, a2, a3, a4⟩ := S.fr.get.2 i y h1
      simp only [fvOf, List.getElem?_map, a1, Option.map_some] at h3
      have h4 : sl[j]? = some (some v) := by
        cases q : sl[j]? with
        | none => rw [q] at h3; simp at h3
        | some u => rw [q] at h3; simp at h3; rw [h3]
      obtain ⟨a, u, e1, ⟨o', ho', hd⟩, e3⟩ := vs.cel j y v a2 (.inl ((eo.kind y).trans a3)) h4
      exact ⟨a, u, clOf_has _ _ _ _ e1 (.inr a4) (by intro x a e; simp at e), ⟨o', kp _ _ ho', hd⟩, e3.grow (.of_keep kp)⟩
  · intro i y h1 h2
    cases i with
    | zero =>
      simp at h1
      subst h1
      have := (eoC.kind x).symm.trans h2
      rw [kindX] at this; cases this
    | succ i =>
      simp at h1
      obtain ⟨j, a1, a2, a3, a4⟩ := S.fr.get.2 i y h1
      obtain ⟨a, ea⟩ := vs.has j y a2 ((eo.kind y).trans a3)
      exact ⟨a, clOf_has _ _ _ _ ea (.inr a4) (by intro x a e; simp at e)⟩
end
end Mine

namespace Mine
section
variable {c : Cx} {d : Nat} {sc : Scope} {ρ : List Str}
/-- the tests of a comprehension -/
noncomputable def Ets (c : Cx) (d : Nat) (sc : Scope) (ρ : List Str) (ifs : List Expr) (W : WT) : Prop :=
  ∀ env A E s φ sl H Q, EnvOK sc env → AOK d A → Ok c φ H s.heap → Vars c ρ φ s.heap env sl → W sl H Q →
    wpAny (model c.prog c.w) A (forIn ifs true fun c r => if r = true then do let ok ← isTrue c env (eval c env); pure (ForInStep.yield ok) else pure (ForInStep.yield r)) (PostT c φ s Q) E s
noncomputable def tTrue : WT := fun _ H Q => Q true H
theorem ets_one {t w} (h : Et c d sc ρ t w) : Ets c d sc ρ [t] w := fun env A E s φ sl H Q eo ao ok vs q => wpAny_tests_one (h env A E s φ sl H Q eo ao ok vs q)

noncomputable def wCompGo (ns : List Int) (k : ItK) (t : WT) (e : WE) (fv : Sl) : List V → List V → HW → (List V → HW → Prop) → Prop
  | [], ys => fun H Q => Q ys H
  | v :: r, ys => fun H Q => t (some v :: fv) H fun b H₁ => if b then e (some v :: fv) H₁ fun y H₂ => k.inv ns H₂ ∧ wCompGo ns k t e fv r (ys ++ [y]) H₂ Q else k.inv ns H₁ ∧ wCompGo ns k t e fv r ys H₁ Q
noncomputable def wComp (ns : List Int) (it : WI) (is : List Nat) (t : WT) (e : WE) : WE := fun sl H Q => it sl H fun k H₁ => k.items.length ≤ 100000 ∧ wCompGo ns k t e (fvOf sl is) k.items [] H₁ fun ys H₂ => Q (.loc H₂.length) (H₂ ++ [.list ys])

structure CompEnd (c : Cx) (φ : Mp) (s : Shared) (Q : List V → HW → Prop) (D C : Addr) (s' : Shared) (ys : List V) (H' : HW) (φ' : Mp) (xs : List Value) : Prop where
  q : Q ys H'
  ok : Ok c φ' H' s'.heap
  rep : RepVs c φ' s'.heap ys xs
  lst : s'.heap.PlainList D xs.toArray
  g : Grow φ s.heap φ' s'.heap
  r : Rest s s'
  dl : D ∉ φ'.l
  dz : D ∉ φ'.z
  cl : C ∉ φ'.l
  cz : C ∉ φ'.z
  dc : D ≠ C
  fd : s.heap.get? D = none
  dm : D ≠ sysModules
  fc : s.heap.get? C = none
  ns : ∃ m, s'.heap.Ns C m
theorem fresh0 {φ H} {h : Heap} (ok : Ok c φ H h) {a} (e : h.get? a = none) : c.h₀.get? a = none := by
  cases q : c.h₀.get? a with
  | none => rfl
  | some o => have := ok.base _ _ q; rw [e] at this; cases this
/-- the names are let go -/
theorem CompEnd.post {φ H s Q D C s' ys H' φ' xs} (x : CompEnd c φ s Q D C s' ys H' φ' xs) (ok0 : Ok c φ H s.heap) {h'} (sb : Heap.SameBut C s'.heap h') {Q' : V → HW → Prop} (hq : ∀ ys H', Q ys H' → Q' (.loc H'.length) (H' ++ [.list ys])) :
    PostE c φ s Q' (.ref D) { s' with heap := h' } := by
  obtain ⟨n, hD⟩ := x.lst
  have kp : ∀ b o, b ≠ C → s'.heap.get? b = some o → h'.get? b = some o := fun b o n e => (sb.2 b n).trans e
  have ok₁ : Ok c φ' H' h' := x.ok.same x.cl x.cz (fresh0 ok0 x.fc) kp
  have rp : RepVs c φ' h' ys xs := x.rep.keep fun b o z e => kp b o (fun q => x.cz (q ▸ z)) e
  have hD' := kp D _ x.dc hD
  refine ⟨_, _, ⟨φ'.l ++ [D], φ'.z⟩, hq _ _ x.q, ok₁.adopt x.dl x.dz (fresh0 ok0 x.fd) hD' (.list rp) x.dm, .loc ?_, ?_, x.r.trans ⟨h', s'.toks, rfl⟩⟩
  · show (φ'.l ++ [D])[H'.length]? = some D
    rw [← x.ok.len]; simp
  · obtain ⟨δ, ζ, e1, e2, hd, hz⟩ := x.g.ext
    refine ⟨⟨δ ++ [D], ζ, by simp [e1], e2, fun a m => ?_, hz⟩, fun b o e n => kp b o (fun q => ?_) (x.g.keep b o e n), fun b o e => ?_⟩
    · rcases List.mem_append.mp m with m | m
      · exact hd a m
      · rw [List.mem_singleton.mp m]; exact x.fd
    · rw [q, x.fc] at e; cases e
    · obtain ⟨o', e'⟩ := x.g.live b o e
      exact ⟨o', kp b o' (fun q => by rw [q, x.fc] at e; cases e) e'⟩

theorem comp_loop {elt iter : Expr} {x : Str} {xp : Pos} {ifs : List Expr} {scope sc' : Scope} {pos : Pos} {I D : Addr} {cenv : Env} {A : Around} {R : Result → Shared → Prop} {xs : List Str} {t : WT} {e : WE} {fv : Sl} {k : ItK} {φ : Mp} {s s₁ : Shared} {φ₁ : Mp} {H₁ : HW} {Q : List V → HW → Prop}
    (G : Good c) (ht : Ets c d sc' (x :: xs) ifs t) (he : Ev c d sc' (x :: xs) elt e) (eo : EnvOK sc' cenv) (ao : AOK d A) (hk : sc'.kind = .function) (hx : sc'.names.lookup x = some .local ∨ sc'.names.lookup x = some .cell)
    (fI : s.heap.get? I = none) (fD : s.heap.get? D = none) (fC : s.heap.get? cenv.locals = none) (fX : ∀ b, cenv.cells.lookup x = some b → s.heap.get? b = none) (ok0 : ∃ H, Ok c φ H s.heap)
    (dm : D ≠ sysModules) (nID : I ≠ D) (nIC : I ≠ cenv.locals) (nDC : D ≠ cenv.locals) (nIx : ∀ y, cenv.cells.lookup y ≠ some I) (nDx : ∀ y, cenv.cells.lookup y ≠ some D)
    (q : wCompGo c.ns k t e fv k.items [] H₁ Q) (hlen : k.items.length ≤ 100000) (iv : k.inv c.ns H₁) (ia : ItAt c A φ₁ s₁.heap I 0 k) (Il : I ∉ φ₁.l) (Iz : I ∉ φ₁.z) (Dl : D ∉ φ₁.l) (Dz : D ∉ φ₁.z)
    (ok₁ : Ok c φ₁ H₁ s₁.heap) (vs₁ : Vars c (x :: xs) φ₁ s₁.heap cenv (none :: fv)) (lst : s₁.heap.PlainList D #[]) (g₁ : Grow φ s.heap φ₁ s₁.heap) (r₁ : Rest s s₁)
    (hR : ∀ s' ys H' φ' xs', CompEnd c φ s Q D cenv.locals s' ys H' φ' xs' → R (.ok .next) s') :
    codeAny (model c.prog c.w) A (.compLoop (.ListComp elt [⟨.Name x xp, iter, ifs, 0⟩] scope pos) 0 (.ref I) (.ref D) cenv) R s₁ := by
  obtain ⟨H0, ok0⟩ := ok0
  refine codeAny_compLoop_tests (fun n s' => ∃ (i : Nat) (φ' : Mp) (H' : HW) (ys : List V) (xs' : List Value) (u : Option V), i + n = k.items.length ∧ wCompGo c.ns k t e fv (k.items.drop i) ys H' Q ∧ k.inv c.ns H' ∧ ItAt c A φ' s'.heap I i k ∧ I ∉ φ'.l ∧ I ∉ φ'.z ∧ D ∉ φ'.l ∧ D ∉ φ'.z ∧
      Ok c φ' H' s'.heap ∧ Vars c (x :: xs) φ' s'.heap cenv (u :: fv) ∧ s'.heap.PlainList D xs'.toArray ∧ RepVs c φ' s'.heap ys xs' ∧ ys.length ≤ i ∧ Grow φ s.heap φ' s'.heap ∧ Rest s s')
    ?_ k.items.length ⟨0, φ₁, H₁, [], [], none, by simp, q, iv, ia, Il, Iz, Dl, Dz, ok₁, vs₁, lst, .nil, Nat.le_refl _, g₁, r₁⟩
  rintro n s' ⟨i, φ', H', ys, xs', u, hn, q, iv, ia, Il, Iz, Dl, Dz, ok', vs', lst', rep', hys, g', r'⟩
  cases n with
  | zero =>
    have hi : i = k.items.length := by (first | lia | omega)
    refine ItAt.done G ao.handled ok' iv ia hi fun h' tk kp => ?_
    rw [List.drop_eq_nil_of_le (by (first | lia | omega))] at q
    obtain ⟨m, hn, _⟩ := vs'.loc
    refine hR _ ys H' φ' xs' ⟨q, ok'.same Il Iz (fresh0 ok0 fI) kp, rep'.keep fun b o z e => kp b o (fun w => Iz (w ▸ z)) e, lst'.at fun o e => kp D o (Ne.symm nID) e, ?_, r'.trans (Rest.mk s' _ _), Dl, Dz, vs'.offL, vs'.offZ, nDC, fD, dm, fC, ⟨m, hn.at' fun o e => kp _ o (Ne.symm nIC) e⟩⟩
    exact ⟨g'.ext, fun b o e n => kp b o (fun q => by rw [q, fI] at e; cases e) (g'.keep b o e n), fun b o e => by
      obtain ⟨o', e'⟩ := g'.live b o e
      exact ⟨o', kp b o' (fun q => by rw [q, fI] at e; cases e) e'⟩⟩
  | succ n =>
    have hlt : i < k.items.length := by (first | lia | omega)
    obtain ⟨v, ev⟩ : ∃ v, k.items[i]? = some v := ⟨_, List.getElem?_eq_getElem hlt⟩
    rw [List.drop_eq_getElem_cons hlt] at q
    have ev' : k.items[i] = v := by rw [List.getElem?_eq_getElem hlt] at ev; cases ev; rfl
    rw [ev'] at q
    refine ItAt.item G ok' iv ia ev fun y h₂ tk ry ia₂ kp₂ lv lt => ?_
    have ok₂ := ok'.same Il Iz (fresh0 ok0 fI) kp₂
    have vs₂ := vs'.same nIC nIx Iz kp₂
    have ry₂ : RepV c φ' h₂ v y := ry.keep fun b o z e => kp₂ b o (fun w => Iz (w ▸ z)) e
    refine wpAny_assign_Name (store_okK (s := { s' with heap := h₂, toks := tk }) (i := 0) rfl hx hk eo ok₂ vs₂ ry₂ fun s₃ ok₃ vs₃ gs₃ r₃ kp₃ => ?_)
    have kp3 : ∀ b o, b ≠ I → b ≠ cenv.locals → cenv.cells.lookup x ≠ some b → s'.heap.get? b = some o → s₃.heap.get? b = some o := fun b o n1 n2 n3 e => kp₃ b o n2 n3 (kp₂ b o n1 e)
    obtain ⟨oI, lo⟩ := lv
    have lI : s₃.heap.get? I = some oI := kp₃ I oI nIC (nIx x) lo
    have ia₃ : ItAt c A φ' s₃.heap I (i + 1) k := ia₂.keep (fun o e => kp₃ I o nIC (nIx x) e) fun _ _ e => e
    have lst₃ : s₃.heap.PlainList D xs'.toArray := lst'.at fun o e => kp3 D o (Ne.symm nID) nDC (nDx x) e
    have rep₃ : RepVs c φ' s₃.heap ys xs' := rep'.keep fun b o z e => kp3 b o (fun w => Iz (w ▸ z)) (fun w => vs'.offZ (w ▸ z)) (fun w => (vs'.offC x b w).2.1 z) e
    have g₃ : Grow φ s.heap φ' s₃.heap := by
      have nn : ∀ b o, s.heap.get? b = some o → b ≠ I ∧ b ≠ cenv.locals ∧ cenv.cells.lookup x ≠ some b := fun b o e => ⟨fun q => by (rw [q, fI] at e; cases e), fun q => by (rw [q, fC] at e; cases e), fun q => by (rw [fX b q] at e; cases e)⟩
      refine ⟨g'.ext, fun b o e n => kp3 b o (nn b o e).1 (nn b o e).2.1 (nn b o e).2.2 (g'.keep b o e n), fun b o e => ?_⟩
      obtain ⟨o', e'⟩ := g'.live b o e
      exact ⟨o', kp3 b o' (nn b o e).1 (nn b o e).2.1 (nn b o e).2.2 e'⟩
    have rr₃ : Rest s s₃ := (r'.trans (Rest.mk s' h₂ tk)).trans r₃
    have vs₃' : Vars c (x :: xs) φ' s₃.heap cenv (some v :: fv) := vs₃
    refine wpAny_mono (ht cenv A _ s₃ φ' (some v :: fv) H' _ eo ao ok₃ vs₃' q) (fun b s₄ p₄ => ?_) fun _ _ e => e
    obtain ⟨H₄, φ₄, q₄, ok₄, g₄, r₄⟩ := p₄
    have lI₄ := g₄.keep I oI lI Il
    have Il₄ := g₄.nin Il lI
    have Iz₄ := g₄.ninz Iz lI
    obtain ⟨nD, lD⟩ := id lst₃
    have Dl₄ := g₄.nin Dl lD
    have Dz₄ := g₄.ninz Dz lD
    have lst₄ : s₄.heap.PlainList D xs'.toArray := ⟨nD, g₄.keep _ _ lD Dl⟩
    have vs₄ := vs₃'.grow g₄
    have ia₄ : ItAt c A φ₄ s₄.heap I (i + 1) k := ia₃.keep (fun o e => g₄.keep I o e Il) fun _ _ e => g₄.at e
    cases b with
    | false =>
      simp only [Bool.false_eq_true, if_false] at q₄ ⊢
      exact ⟨n, Nat.lt_succ_self n, i + 1, φ₄, H₄, ys, xs', some v, by (first | lia | omega), q₄.2, q₄.1, ia₄, Il₄, Iz₄, Dl₄, Dz₄, ok₄, vs₄, lst₄, rep₃.grow g₄, by (first | lia | omega), g₃.trans g₄, rr₃.trans r₄⟩
    | true =>
      simp only [if_true] at q₄ ⊢
      refine wpAny_mono (he cenv A _ s₄ φ₄ (some v :: fv) H₄ _ eo ao ok₄ vs₄ q₄) (fun z s₅ p₅ => ?_) fun _ _ e => e
      obtain ⟨y', H₅, φ₅, q₅, ok₅, ry₅, g₅, r₅⟩ := p₅
      have lI₅ := g₅.keep I oI lI₄ Il₄
      have Il₅ := g₅.nin Il₄ lI₄
      have Iz₅ := g₅.ninz Iz₄ lI₄
      obtain ⟨nD₄, lD₄⟩ := id lst₄
      have Dl₅ := g₅.nin Dl₄ lD₄
      have Dz₅ := g₅.ninz Dz₄ lD₄
      have lst₅ : s₅.heap.PlainList D xs'.toArray := ⟨nD₄, g₅.keep _ _ lD₄ Dl₄⟩
      have vs₅ := vs₄.grow g₅
      have ia₅ : ItAt c A φ₅ s₅.heap I (i + 1) k := ia₄.keep (fun o e => g₅.keep I o e Il₄) fun _ _ e => g₅.at e
      have rep₅ : RepVs c φ₅ s₅.heap (ys ++ [y']) (xs' ++ [z]) := ((rep₃.grow g₄).grow g₅).append (.cons ry₅ .nil)
      refine wpAny_list_append_plain lst₅ (fun h₆ l₆ sb => ?_) (by rw [List.size_toArray, ← rep'.length, sizeLine_eq]; (first | lia | omega))
      have kp : ∀ b o, b ≠ D → s₅.heap.get? b = some o → h₆.get? b = some o := fun b o n e => (sb.2 b n).trans e
      refine ⟨n, Nat.lt_succ_self n, i + 1, φ₅, H₅, ys ++ [y'], xs' ++ [z], some v, by (first | lia | omega), q₅.2, q₅.1, ia₅.keep (fun o e => kp I o nID e) fun _ _ e => e, Il₅, Iz₅, Dl₅, Dz₅,
        ok₅.same Dl₅ Dz₅ (fresh0 ok0 fD) kp, vs₅.same nDC nDx Dz₅ kp, by simpa using l₆, rep₅.keep fun b o z e => kp b o (fun w => Dz₅ (w ▸ z)) e, by simp; (first | lia | omega), ?_, ((rr₃.trans r₄).trans r₅).trans ⟨h₆, s₅.toks, rfl⟩⟩
      have g₅' := (g₃.trans g₄).trans g₅
      exact ⟨g₅'.ext, fun b o e n => kp b o (fun q => by rw [q, fD] at e; cases e) (g₅'.keep b o e n), fun b o e => by
        obtain ⟨o', e'⟩ := g₅'.live b o e
        exact ⟨o', kp b o' (fun q => by rw [q, fD] at e; cases e) e'⟩⟩
end
end Mine

namespace Mine
section
variable {c : Cx} {d : Nat} {sc : Scope} {ρ : List Str}
theorem ItAt.self {A E φ I i k} {s : Shared} {R : Value → Shared → Prop} (x : ItAt c A φ s.heap I i k) (h : R (.ref I) s) : wpAny (model c.prog c.w) A (pyIter (.ref I)) R E s := by
  cases k with
  | list kv xs => obtain ⟨a, r, it⟩ := x; exact wpAny_pyIter_listiter it h
  | walk xs => obtain ⟨P, St, W, hp, hl, st⟩ := x; exact W.self _ _ _ _ st h
theorem comp_block {elt iter : Expr} {x : Str} {xp : Pos} {ifs : List Expr} {scope : Scope} {pos : Pos} {env : Env} {A : Around} {E : Value → Shared → Prop} {s : Shared} {φ : Mp} {sl : Sl} {H : HW} {is xs} {wi : WI} {t : WT} {e : WE} {RR : Value → Addr → Result → Shared → Prop} {Q : List V → HW → Prop}
    (G : Good c) (S : CSc sc scope x is xs ρ) (hi : Ei c d sc ρ iter wi) (ht : Ets c d (relS scope sc) (x :: xs) ifs t) (he : Ev c d (relS scope sc) (x :: xs) elt e)
    (eo : EnvOK sc env) (ao : AOK d A) (ok : Ok c φ H s.heap) (vs : Vars c ρ φ s.heap env sl)
    (w : wi sl H fun k H₁ => k.items.length ≤ 100000 ∧ wCompGo c.ns k t e (fvOf sl is) k.items [] H₁ Q)
    (hRR : ∀ D C s' ys H' φ' xs', CompEnd c φ s Q D C s' ys H' φ' xs' → RR (.ref D) C (.ok .next) s') :
    wpAny (model c.prog c.w) A (eval iter env) (fun xv s₁ => wpAny (model c.prog c.w) A (pyIter xv) (fun it s₂ => wpAny (model c.prog c.w) A (newList []) (fun acc s₃ =>
      wpAny (model c.prog c.w) A (newFunctionEnv scope env.globals (clOf env scope.names []) [] env.qual none .none (some env)) (fun cenv s₄ =>
        codeAny (model c.prog c.w) A (.compStart (.ListComp elt [⟨.Name x xp, iter, ifs, 0⟩] scope pos) 0 it acc { cenv with scope := relabel scope env }) (RR acc cenv.locals) s₄) E s₃) E s₂) E s₁) E s := by
  refine wpAny_mono (hi env A E s φ sl H _ eo ao ok vs w) (fun xv s₁ p₁ => wpAny_mono p₁ (fun it s₂ p₂ => ?_) fun _ _ e => e) fun _ _ e => e
  obtain ⟨I, k, H₂, φ₂, rfl, ⟨hlen, q⟩, iv, ia, fI, Il, Iz, ok₂, g₂, r₂⟩ := p₂
  have vs₂ := vs.grow g₂
  refine wpAny_newObj_type (hd := by size_fits) ?_
  have kp₃ : ∀ b o, s₂.heap.get? b = some o → (s₂.heap.push { cls := .type "list", dict := none, data := .seq ([] : List Value).toArray }).get? b = some o := fun b o e => Heap.get?_push_of_some _ e
  have ok₃ := ok₂.keep kp₃
  have g₃ : Grow φ₂ s₂.heap φ₂ (s₂.heap.push { cls := .type "list", dict := none, data := .seq ([] : List Value).toArray }) := .of_keep kp₃
  have fD : s.heap.get? s₂.heap.objs.size = none := g₂.none (new_none _)
  obtain ⟨oI, lI⟩ := ia.live
  refine comp_env (s := { s₂ with heap := s₂.heap.push { cls := .type "list", dict := none, data := .seq ([] : List Value).toArray } }) (R := fun cenv' s₄ => codeAny (model c.prog c.w) A (.compStart (.ListComp elt [⟨.Name x xp, iter, ifs, 0⟩] scope pos) 0 (.ref I) (.ref s₂.heap.objs.size) cenv') (RR (.ref s₂.heap.objs.size) cenv'.locals) s₄) S eo ok₃ (vs₂.grow g₃) fun cenv s₄ hC eoC fX fY vsC kp₄ r₄ => ?_
  have ok₄ := ok₃.keep kp₄
  have lD : s₄.heap.get? s₂.heap.objs.size = some { cls := .type "list", dict := none, data := .seq ([] : List Value).toArray } := kp₄ _ _ (Heap.get?_push_size _ rfl)
  have sz : cenv.locals = s₂.heap.objs.size + 1 := by rw [hC]; exact Heap.size_push ..
  have nf : ∀ b, (s₂.heap.push { cls := .type "list", dict := none, data := .seq ([] : List Value).toArray }).get? b = none → s.heap.get? b = none := fun b e => (g₂.trans g₃).none e
  have ia₄ : ItAt c A φ₂ s₄.heap I 0 k := ia.keep (fun o e => kp₄ _ _ (kp₃ _ _ e)) fun _ _ e => e
  have notcell : ∀ a o, s₂.heap.get? a = some o → a ≠ cenv.locals := fun a o e q => by
    have h1 := Heap.lt_size e
    rw [q, sz] at h1
    exact absurd h1 (Nat.not_lt.mpr (Nat.le_succ _))
  have cellObj : ∀ y a, cenv.cells.lookup y = some a → ∀ o, s₄.heap.get? a = some o → ∃ z, o.data = .cell z := fun y a e o eo' => by
    obtain ⟨_, _, _, z, o', ho', hd⟩ := vsC.offC y a e
    rw [ho'] at eo'; cases eo'; exact ⟨z, hd⟩
  have loop : codeAny (model c.prog c.w) A (.compLoop (.ListComp elt [⟨.Name x xp, iter, ifs, 0⟩] scope pos) 0 (.ref I) (.ref s₂.heap.objs.size) cenv) (RR (.ref s₂.heap.objs.size) cenv.locals) s₄ := by
    refine comp_loop G ht he eoC ao S.kind (.inl ?_) fI fD (nf _ (by rw [hC]; exact new_none _)) (fun b e => nf b (fX b e)) ⟨H, ok⟩ ok₂.newS (fun q => ?_) (fun q => notcell I oI lI q) (fun q => by rw [sz] at q; exact absurd q (Nat.ne_of_lt (Nat.lt_succ_self _)))
      (fun y e => ?_) (fun y e => ?_) q hlen iv ia₄ Il Iz (new_unz ok₂).1 (new_unz ok₂).2 ok₄ vsC ⟨_, lD⟩ ((g₂.trans g₃).trans (.of_keep kp₄)) ((r₂.trans ⟨_, s₂.toks, rfl⟩).trans r₄) fun s' ys H' φ' xs' ce => hRR _ _ s' ys H' φ' xs' ce
    · have := lookup_relabel_local (env := env) S.loc
      rw [show (relS scope sc) = relabel scope env from (relabel_eq eo).symm]
      exact this
    · have := Heap.lt_size lI
      rw [q] at this; exact Nat.lt_irrefl _ this
    · rcases fY y I e with h | h
      · obtain ⟨_, _, _, u', o3, ho3, _⟩ := vs.offC y I h
        rw [fI] at ho3; cases ho3
      · have := kp₃ _ _ lI
        rw [show (s₂.heap.push { cls := .type "list", dict := none, data := .seq ([] : List Value).toArray }).get? I = none from h] at this; cases this
    · obtain ⟨z, hd⟩ := cellObj y _ e _ lD
      cases hd
  exact codeAny_compStart_list loop (ia₄.self loop)
theorem CompPost.mk {φ s} {A : Around} {E : Value → Shared → Prop} {H} {Q : List V → HW → Prop} {Q' : V → HW → Prop} {D C s' ys H' φ' xs} (ok : Ok c φ H s.heap) (x : CompEnd c φ s Q D C s' ys H' φ' xs) (hq : ∀ ys H', Q ys H' → Q' (.loc H'.length) (H' ++ [.list ys])) :
    compPost (model c.prog c.w) A E none (PostE c φ s Q') (.ref D) C (.ok .next) s' := by
  obtain ⟨m, hn⟩ := x.ns
  exact ⟨m, hn, fun h' sb => x.post ok sb hq⟩
theorem ev_comp {elt iter : Expr} {x : Str} {xp : Pos} {ifs : List Expr} {scope : Scope} {pos : Pos} {is xs} {wi : WI} {t : WT} {e : WE} (G : Good c) (S : CSc sc scope x is xs ρ)
    (hi : Ei c d sc ρ iter wi) (ht : Ets c d (relS scope sc) (x :: xs) ifs t) (he : Ev c d (relS scope sc) (x :: xs) elt e) (hs : ∀ env x, foldedSetIterable iter env x = pure x) :
    Ev c d sc ρ (.ListComp elt [⟨.Name x xp, iter, ifs, 0⟩] scope pos) (wComp c.ns wi is t e) := by
  intro env A E s φ sl H Q eo ao ok vs w
  rw [eval_ListComp]
  show wpAny _ _ (comprehension _ scope env _ (newList []) false (eval iter env)) _ _ _
  refine wpAny_comprehension_free rfl (hs env) (closureFor_eq (S.closed eo vs)) S.kind S.names ?_
  exact comp_block G S hi ht he eo ao ok vs w fun D C s' ys H' φ' xs' ce => CompPost.mk ok ce fun _ _ q => q
end
end Mine

namespace Mine
section
variable {c : Cx} {d : Nat} {sc : Scope} {ρ : List Str}
/-! ### identity -/
noncomputable def isV (c : Cx) : V → V → Option Bool
  | v, .none => some (isN v)
  | .none, v => some (isN v)
  | .bool a, .bool b => some (a == b)
  | .loc i, .loc j => some (i == j)
  | .tok x, .tok y => if x = y then some true else none
  | .loc _, .obj _ _ => some false
  | .obj _ _, .loc _ => some false
  | .loc _, .glob _ => some false
  | .obj _ _, .glob _ => some false
  | .glob a, .loc _ => if (c.gC a).isSome then some false else none
  | .glob a, .obj _ _ => if (c.gC a).isSome then some false else none
  | .glob a, .glob b => if a = b then some true else if (c.gC a).isSome then some false else none
  | _, _ => none
theorem ok_obj {φ : Mp} {H h} {k : Nat} {a} (ok : Ok c φ H h) (e : φ.l[k]? = some a) : ∃ o, h.get? a = some o ∧ o.cls ≠ .type "tuple" := by
  have hk : k < H.length := by rw [← ok.len]; exact (List.getElem?_eq_some_iff.mp e).1
  obtain ⟨o, h1, h2⟩ := ok.objs k a H[k] e (List.getElem?_eq_getElem hk)
  refine ⟨o, h1, ?_⟩
  generalize H[k] = lo at h2
  cases h2 with
  | list r => intro q; simp at q
  | inst _ _ _ _ _ => intro q; simp at q
  | dict d k r => obtain ⟨es, ep, hx, _⟩ := d; rw [hx.1]; intro q; simp at q
  | tab e => intro q; simp at q
theorem isSame_cre {A : Around} {E : Value → Shared → Prop} {s : Shared} {b : Bool} {t : Tok} {R : Bool → Shared → Prop} (ht : t ≠ 0) (h : R true s) : wpAny (model c.prog c.w) A (isSame.created b t t) R E s := by
  unfold isSame.created
  rw [if_neg (by simp [ht])]
  show wpAny _ _ (if (t == t) = true then _ else _) _ _ _
  rw [if_pos (beq_self_eq_true t)]
  exact wpAny_pure h
theorem isSame_tok {A : Around} {E : Value → Shared → Prop} {s : Shared} {x : Value} {R : Bool → Shared → Prop} (e : okTok x = true) (h : R true s) : wpAny (model c.prog c.w) A (isSame x x) R E s := by
  cases x with
  | int i t =>
    have ht : t ≠ 0 := by simpa [okTok] using e
    show wpAny _ A (if (i == i && smallInt i) = true then isSame.cachedInt t t else isSame.created (i == i) t t) R E s
    split
    · unfold isSame.cachedInt
      rw [if_neg (by simp [ht])]
      exact wpAny_bind (wpAny_rule (wpAny_pure h))
    · exact isSame_cre ht h
  | str i t =>
    have ht : t ≠ 0 := by simpa [okTok] using e
    exact isSame_cre ht h
  | _ => cases e
theorem isSame_ok {A : Around} {E : Value → Shared → Prop} {s : Shared} {φ H v w x y b} {R : Bool → Shared → Prop} (G : Good c) (ok : Ok c φ H s.heap) (rv : RepV c φ s.heap v x) (rw' : RepV c φ s.heap w y) (e : isV c v w = some b) (h : R b s) : wpAny (model c.prog c.w) A (isSame x y) R E s := by
  have N : ∀ {a a' : Addr} {o o'}, a ≠ a' → s.heap.get? a = some o → s.heap.get? a' = some o' → o.cls ≠ .type "tuple" → some false = some b → wpAny (model c.prog c.w) A (isSame (.ref a) (.ref a')) R E s := fun n h1 h2 h3 h4 => by
    cases h4; exact wpAny_isSame_ref_other n h1 h2 h3 h
  have P : ∀ {a b' : Value}, plainIs a b' = true → some (a == b') = some b → wpAny (model c.prog c.w) A (isSame a b') R E s := fun h1 h2 => by
    cases h2; exact wpAny_isSame_plain h1 h
  have gN : ∀ {a : Addr} {o}, c.h₀.get? a = some o → (if (c.gC a).isSome = true then some false else none) = some b → some false = some b ∧ ∃ o', s.heap.get? a = some o' ∧ o'.cls ≠ .type "tuple" := fun h1 h2 => by
    split at h2
    · rename_i q
      obtain ⟨⟨k, n⟩, ek⟩ := Option.isSome_iff_exists.mp q
      obtain ⟨b', e1, e2⟩ := G.gl _ k n ek
      exact ⟨h2, _, ok.base _ _ e1, by intro q; cases q⟩
    · cases h2
  cases rw' with
  | none =>
    have : isV c v .none = some (isN v) := by cases v <;> rfl
    rw [this] at e
    refine P (by cases rv <;> first | rfl | (rename_i qq; cases x <;> first | rfl | (simp [okTok] at qq))) (by rw [isN_of rv]; exact e)
  | bool =>
    cases rv with
    | none => exact P rfl e
    | bool => rename_i b1 b2; refine P rfl ?_; rw [← e]; cases b1 <;> cases b2 <;> rfl
    | _ => cases e
  | int => cases rv with
    | none => exact P rfl e
    | _ => cases e
  | str => cases rv with
    | none => exact P rfl e
    | _ => cases e
  | script => cases rv with
    | none => exact P rfl e
    | _ => cases e
  | tok e2 => cases rv with
    | none => exact P (by cases y <;> first | rfl | exact absurd e2 (by simp [okTok])) (by rw [← e]; cases y <;> first | rfl | exact absurd e2 (by simp [okTok]))
    | tok e1 =>
      simp only [isV] at e
      split at e
      · rename_i q; subst q; cases e; exact isSame_tok e1 h
      · cases e
    | _ => cases e
  | tup => cases rv with
    | none => exact P rfl e
    | _ => cases e
  | loc e2 => cases rv with
    | none => exact P rfl e
    | loc e1 =>
      rename_i k2 a2 k1 a1
      obtain ⟨o1, h1, c1⟩ := ok_obj ok e1
      obtain ⟨o2, h2, c2⟩ := ok_obj ok e2
      simp only [isV] at e
      by_cases q : k1 = k2
      · subst q
        rw [e1] at e2; cases e2
        rw [beq_self_eq_true] at e
        cases e
        exact wpAny_isSame_ref_self h
      · refine N (fun z => q ?_) h1 h2 c1 (by rw [← e]; simp [q])
        subst z
        obtain ⟨l1, e1⟩ := List.getElem?_eq_some_iff.mp e1
        obtain ⟨l2, e2⟩ := List.getElem?_eq_some_iff.mp e2
        exact (List.getElem_inj (h₀ := l1) (h₁ := l2) ok.nodup).mp (e1.trans e2.symm)
    | obj n z m y n0 o1 es o2 r =>
      obtain ⟨o3, h2, c2⟩ := ok_obj ok e2
      exact N (fun q => n (q ▸ List.mem_of_getElem? e2)) o1 h2 (by intro q; cases q) e
    | glob e1 =>
      obtain ⟨e, o', h1, c1⟩ := gN e1 e
      obtain ⟨o3, h2, c2⟩ := ok_obj ok e2
      exact N (fun q => ok.off _ _ e1 (q ▸ List.mem_of_getElem? e2)) h1 h2 c1 e
    | _ => cases e
  | obj n z m y n0 o1 es o2 r => cases rv with
    | none => exact P rfl e
    | loc e1 =>
      obtain ⟨o3, h2, c2⟩ := ok_obj ok e1
      exact N (fun q => n (q ▸ List.mem_of_getElem? e1)) h2 o1 c2 e
    | glob e1 =>
      obtain ⟨e, o', h1, c1⟩ := gN e1 e
      exact N (fun q => by rw [← q, e1] at n0; cases n0) h1 o1 c1 e
    | _ => cases e
  | glob e2 => cases rv with
    | none => exact P rfl e
    | loc e1 =>
      obtain ⟨o3, h2, c2⟩ := ok_obj ok e1
      exact N (fun q => ok.off _ _ e2 (q ▸ List.mem_of_getElem? e1)) h2 (ok.base _ _ e2) c2 e
    | obj n z m y n0 o1 es o2 r => exact N (fun q => by rw [q, e2] at n0; cases n0) o1 (ok.base _ _ e2) (by intro q; cases q) e
    | glob e1 =>
      simp only [isV] at e
      split at e
      · rename_i q; subst q; cases e; exact wpAny_isSame_ref_self h
      · rename_i q
        obtain ⟨e, o', h1, c1⟩ := gN e1 e
        exact N q h1 (ok.base _ _ e2) c1 e
    | _ => cases e
noncomputable def wIs (c : Cx) (f : Bool → Bool) : WB := fun v w H Q => match isV c v w with | some b => Q (.bool (f b)) H | none => False
theorem isnot_ok (G : Good c) : CmpOK c d .IsNot (wIs c not) := by
  intro A E s φ H v w x y Q ao ok rv rw' q
  unfold wIs at q
  split at q
  · rename_i b e
    show wpAny _ A (do return Value.bool (!(← isSame x y)) : Sem Value) _ E s
    exact wpAny_bind (isSame_ok G ok rv rw' e (wpAny_pure (.here q ok .bool (fun _ _ e => e) (Rest.refl s))))
  · exact q.elim
end
end Mine

namespace Mine
section
variable {c : Cx} {d : Nat} {sc : Scope} {ρ : List Str}
/-! ### the conditional expression -/
noncomputable def wIfE (t : WT) (a b : WE) : WE := fun sl H Q => t sl H fun r H' => if r then a sl H' Q else b sl H' Q
theorem ev_ifexp {t a b pos wt wa wb} (ht : Et c d sc ρ t wt) (ha : Ev c d sc ρ a wa) (hb : Ev c d sc ρ b wb) : Ev c d sc ρ (.IfExp t a b pos) (wIfE wt wa wb) := by
  intro env A E s φ sl H Q eo ao ok vs q
  refine IfExp_ (wpAny_mono (ht env A E s φ sl H _ eo ao ok vs q) (fun y s₁ p₁ => ?_) fun _ _ e => e)
  obtain ⟨H₁, φ₁, w₁, ok₁, g₁, r₁⟩ := p₁
  cases y with
  | true => simp only [if_true] at w₁ ⊢; exact wpAny_mono (ha env A E s₁ φ₁ sl H₁ Q eo ao ok₁ (vs.grow g₁) w₁) (fun f s₂ p₂ => p₂.shift g₁ r₁) fun _ _ e => e
  | false => simp only [Bool.false_eq_true, if_false] at w₁ ⊢; exact wpAny_mono (hb env A E s₁ φ₁ sl H₁ Q eo ao ok₁ (vs.grow g₁) w₁) (fun f s₂ p₂ => p₂.shift g₁ r₁) fun _ _ e => e
/-! ### a global object -/
/-! ### isobject -/
/-! ### texts -/
/-! ### range with a step of two -/
end
end Mine

namespace Mine
section
variable {c : Cx} {d : Nat} {sc : Scope} {ρ : List Str}
/-! ### comparisons of several kinds -/
noncomputable def wEqX (f : Bool → Bool) : WB := fun v w H Q => match v, w with
  | .int i, .int j => Q (.bool (f (i == j))) H
  | .str a, .str b => Q (.bool (f (a == b))) H
  | _, _ => False
noncomputable def wNeX (ns : List Int) : WB := fun v w H Q => match v, w with
  | .int i, .int j => Q (.bool (i != j)) H
  | v, w => wCmpI ns not v w H Q
/-! ### times -/
noncomputable def wMul : WB := fun v w H Q => match v, w with | .int i, .int j => IntMulOk i j ∧ Q (.int (i * j)) H | _, _ => False
theorem mul_ok : BinOK c d .Mult wMul := by
  intro A E s φ H v w x y Q ao ok rv rw' q
  unfold wMul at q
  split at q
  · cases rv; cases rw'
    exact PyProof.Rows.mul_int (.here q.2 ok .int (fun _ _ e => e) (Rest.mk s s.heap _)) q.1
  · exact q.elim
/-! ### a value as a test -/
theorem et_tv {e a} (he : Ev c d sc ρ e a) (ht : ∀ env whole, isTrue e env whole = (do let v ← whole; standAt e.pos; holding [v] (truthy v))) : Et c d sc ρ e (tv a) := by
  intro env A E s φ sl H Q eo ao ok vs w
  rw [ht]
  refine wpAny_bind (wpAny_mono (he env A E s φ sl H _ eo ao ok vs w) (fun x s₁ p₁ => wpAny_bind (wpAny_standAt (wpAny_holding ?_))) fun _ _ e => e)
  obtain ⟨v, H₁, φ₁, w₁, ok₁, rv, g₁, r₁⟩ := p₁
  split at w₁
  · cases rv
    exact wpAny_pure ⟨H₁, φ₁, w₁, ok₁, g₁, r₁⟩
  · exact w₁.elim
/-! ### over a list or a text -/
end
section
variable {sl : Sl} {H : HW} {c : Cx} {ns : List Int}
theorem e_comp0 {k t e fv ys Q} : wCompGo ns k t e fv [] ys H Q = Q ys H := propext Iff.rfl
theorem e_tTrue {Q} : tTrue sl H Q = Q true H := propext Iff.rfl
theorem e_mul {i j Q} : wMul (.int i) (.int j) H Q = (IntMulOk i j ∧ Q (.int (i * j)) H) := propext Iff.rfl
theorem e_ifE {t a b Q} : wIfE t a b sl H Q = t sl H (fun r H' => if r then a sl H' Q else b sl H' Q) := propext Iff.rfl
theorem e_eqXI {f i j Q} : wEqX f (.int i) (.int j) H Q = Q (.bool (f (i == j))) H := propext Iff.rfl
theorem e_eqXS {f i j Q} : wEqX f (.str i) (.str j) H Q = Q (.bool (f (i == j))) H := propext Iff.rfl
theorem e_neXI {i j Q} : wNeX ns (.int i) (.int j) H Q = Q (.bool (i != j)) H := propext Iff.rfl
theorem e_neXL {k j Q} : wNeX ns (.loc k) (.loc j) H Q = wCmpI ns not (.loc k) (.loc j) H Q := propext Iff.rfl
end
end Mine

namespace Mine
section
variable {c : Cx} {d : Nat} {sc : Scope} {ρ : List Str}
/-! ### lists of plain data, compared -/
mutual
inductive DV (ns : List Int) (H : HW) : V → PyData → Prop
  | none : DV ns H .none .none
  | bool {b} : DV ns H (.bool b) (.bool b)
  | int {i} : DV ns H (.int i) (.int i)
  | str {s} : DV ns H (.str s) (.str s)
  | list {v xs ds} : asL ns H v = some xs → DVs ns H xs ds → DV ns H v (.list ds)
  | tup {vs ds} : DVs ns H vs ds → DV ns H (.tup vs) (.tuple ds)
inductive DVs (ns : List Int) (H : HW) : List V → List PyData → Prop
  | nil : DVs ns H [] []
  | cons {v d vs ds} : DV ns H v d → DVs ns H vs ds → DVs ns H (v :: vs) (d :: ds)
end
mutual
theorem DV.reads (G : Good c) {φ H h} (ok : Ok c φ H h) : ∀ {v dd x}, DV c.ns H v dd → RepV c φ h v x → ∃ as, Reads h x dd as
  | _, _, _, .none, r => by cases r; exact ⟨_, .none⟩
  | _, _, _, .bool, r => by cases r; exact ⟨_, .bool _⟩
  | _, _, _, .int, r => by cases r; exact ⟨_, .int _ _⟩
  | _, _, _, .str, r => by cases r; exact ⟨_, .str _ _⟩
  | _, _, _, .list e ds, r => by
    obtain ⟨a, ys, rfl, ⟨o, ho, hc, n, hd⟩, rr⟩ := asL_of G ok r e
    obtain ⟨as, h1⟩ := DVs.reads G ok ds rr
    exact ⟨_, .list ho hc hd h1⟩
  | _, _, _, .tup ds, r => by
    cases r with
    | tup n z n0 e rr =>
      obtain ⟨as, h1⟩ := DVs.reads G ok ds rr
      exact ⟨_, .tuple e rfl rfl h1⟩
theorem DVs.reads (G : Good c) {φ H h} (ok : Ok c φ H h) : ∀ {vs ds xs}, DVs c.ns H vs ds → RepVs c φ h vs xs → ∃ as, ReadsAll h xs ds as
  | _, _, _, .nil, r => by cases r; exact ⟨_, .nil⟩
  | _, _, _, .cons x xs, r => by
    cases r with
    | cons r rs =>
      obtain ⟨as, h1⟩ := DV.reads G ok x r
      obtain ⟨bs, h2⟩ := DVs.reads G ok xs rs
      exact ⟨_, .cons h1 h2⟩
end
noncomputable def wEqD (ns : List Int) (f : Bool → Bool) : WB := fun v w H Q => ∃ da db, DV ns H v da ∧ DV ns H w db ∧ (SeqAt.shaped da = true ∧ SeqAt.shaped db = true) ∧ Q (.bool (f (PyData.eqv da db))) H
theorem neD_ok (G : Good c) : CmpOK c d .NotEq (wEqD c.ns not) := by
  rintro A E s φ H v w x y Q ao ok rv rw' ⟨da, db, d1, d2, ⟨s1, s2⟩, q⟩
  obtain ⟨as, r1⟩ := d1.reads G ok rv
  obtain ⟨bs, r2⟩ := d2.reads G ok rw'
  exact ne_dataH r1 r2 s1 s2 (by have := ao.units; rw [cLine_is]; (first | lia | omega)) (.here q ok .bool (fun _ _ e => e) (Rest.refl s))
theorem e_eqD {ns H f v w Q} : wEqD ns f v w H Q = (∃ da db, DV ns H v da ∧ DV ns H w db ∧ (SeqAt.shaped da = true ∧ SeqAt.shaped db = true) ∧ Q (.bool (f (PyData.eqv da db))) H) := propext Iff.rfl
mutual
theorem eqv_self : ∀ {x : PyData}, x.canLay0 = true → PyData.eqv x x = true
  | .none, _ => rfl
  | .bool _, _ => by simp [PyData.eqv]
  | .int _, _ => by simp [PyData.eqv]
  | .str _, _ => by simp [PyData.eqv]
  | .list xs, h => by rw [PyData.eqv]; exact eqvAll_self (by simpa [PyData.canLay0] using h)
  | .tuple xs, h => by rw [PyData.eqv]; exact eqvAll_self (by simpa [PyData.canLay0] using h)
  | .dict _, h => by simp [PyData.canLay0] at h
theorem eqvAll_self : ∀ {xs : List PyData}, PyData.canLayAll0 xs = true → PyData.eqvAll xs xs = true
  | [], _ => rfl
  | x :: xs, h => by
    rw [PyData.canLayAll0, Bool.and_eq_true] at h
    rw [PyData.eqvAll, Bool.and_eq_true]
    exact ⟨eqv_self h.1, eqvAll_self h.2⟩
end
end
end Mine

namespace Mine
section
variable {c : Cx} {d : Nat} {sc : Scope} {ρ : List Str}
noncomputable def bSum (ns : List Int) : WF := fun args H Q => match args with | [v] => ∃ is : List Int, asL ns H v = some (is.map .int) ∧ Q (.int is.sum) H | _ => False
noncomputable def bMinL (ns : List Int) : WF := fun args H Q => match args with | [v] => ∃ is : List Int, asL ns H v = some (is.map .int) ∧ is ≠ [] ∧ ∀ M, M ∈ is → (∀ a ∈ is, M ≤ a) → Q (.int M) H | _ => False
/-! ### «in» among numbers -/
noncomputable def wInI (ns : List Int) (f : Bool → Bool) : WB := fun v w H Q => match v with | .int k => (∃ is : List Int, asL ns H w = some (is.map .int) ∧ Q (.bool (f (is.any (· == k)))) H) | _ => False
/-! ### ^ and ** -/
noncomputable def wPow : WB := fun v w H Q => match v, w with | .int i, .int j => (0 ≤ j ∧ j ≤ 1000 ∧ i.natAbs < 2 ^ 64) ∧ Q (.int (i ^ j.toNat)) H | _, _ => False
end
section
variable {sl : Sl} {H : HW} {c : Cx} {ns : List Int}
theorem e_sum {v Q} : bSum ns [v] H Q = (∃ is : List Int, asL ns H v = some (is.map .int) ∧ Q (.int is.sum) H) := propext Iff.rfl
theorem e_minL {v Q} : bMinL ns [v] H Q = (∃ is : List Int, asL ns H v = some (is.map .int) ∧ is ≠ [] ∧ ∀ M, M ∈ is → (∀ a ∈ is, M ≤ a) → Q (.int M) H) := propext Iff.rfl
theorem e_inI {f k w Q} : wInI ns f (.int k) w H Q = (∃ is : List Int, asL ns H w = some (is.map .int) ∧ Q (.bool (f (is.any (· == k)))) H) := propext Iff.rfl
theorem e_pow {i j Q} : wPow (.int i) (.int j) H Q = ((0 ≤ j ∧ j ≤ 1000 ∧ i.natAbs < 2 ^ 64) ∧ Q (.int (i ^ j.toNat)) H) := propext Iff.rfl
theorem e_is {f v w Q} : wIs c f v w H Q = (match isV c v w with | some b => Q (.bool (f b)) H | none => False) := propext Iff.rfl
end
end Mine

namespace Mine
section
variable {c : Cx} {d : Nat} {sc : Scope} {ρ : List Str}
/-! ### a comprehension whose own variable is a cell -/
end
end Mine

namespace Mine
section
variable {c : Cx} {d : Nat} {sc : Scope} {ρ : List Str}
end
/-! ElementInfo: an object is .obj k [tagName] -/
noncomputable def mkEI (k : Nat) : WF := fun args H Q => match args with | [a] => Q (.obj k [a]) H | _ => False
theorem e_mkEI {k a H Q} : mkEI k [a] H Q = Q (.obj k [a]) H := propext Iff.rfl
noncomputable def kFalse : WF := fun args H Q => args.length = 1 ∧ Q (.bool false) H
theorem e_kFalse {a H Q} : kFalse [a] H Q = (1 = 1 ∧ Q (.bool false) H) := propext Iff.rfl
end Mine

namespace Mine
/-! ### the abstract heap has grown -/
noncomputable def Ext (H H' : HW) : Prop := ∃ L, H' = H ++ L
theorem Ext.refl (H : HW) : Ext H H := ⟨[], by simp⟩
theorem Ext.app {H L : HW} : Ext H (H ++ L) := ⟨L, rfl⟩
theorem Ext.trans {a b d : HW} (x : Ext a b) (y : Ext b d) : Ext a d := by
  obtain ⟨L, rfl⟩ := x
  obtain ⟨M, rfl⟩ := y
  exact ⟨L ++ M, by simp⟩
theorem Ext.at {H H' : HW} (x : Ext H H') {k : Nat} {o} (h : H[k]? = some o) : H'[k]? = some o := by
  obtain ⟨L, rfl⟩ := x
  rw [List.getElem?_append_left (List.getElem?_eq_some_iff.mp h).1]; exact h
theorem Ext.lst {H H' : HW} (x : Ext H H') {k xs} (h : lstAt H k = some xs) : lstAt H' k = some xs := by
  obtain ⟨L, rfl⟩ := x
  exact lstAt_ext h
theorem lstAt_new {H : HW} {xs} : lstAt (H ++ [.list xs]) H.length = some xs := by unfold lstAt; simp
/-- a new list, whatever its place -/
theorem new_k {H : HW} {xs : List V} {Q : V → HW → Prop} (h : ∀ k H', Ext H H' → lstAt H' k = some xs → k = H.length → Q (.loc k) H') : Q (.loc H.length) (H ++ [.list xs]) := h _ _ .app lstAt_new rfl
section
variable {ns : List Int} {k : ItK}
theorem for_inv {ta : WA} {b : WS} {Q : Fl → Sl → HW → Prop} (I : Nat → Sl → HW → Prop) (hi : ∀ n sl H, I n sl H → k.inv ns H) {all : List V}
    (step : ∀ (n : Nat) v sl H, all[n]? = some v → I n sl H → ∀ R : Fl → Sl → HW → Prop, (∀ sl' H', I (n + 1) sl' H' → R .next sl' H') → ta v sl H fun sl₁ H₁ => b sl₁ H₁ R)
    (fin : ∀ sl H, I all.length sl H → Q .next sl H) {sl H} (h0 : I 0 sl H) : wForGo ns k ta b all sl H Q := by
  have go : ∀ (m n : Nat), n + m = all.length → ∀ sl H, I n sl H → wForGo ns k ta b (all.drop n) sl H Q := by
    intro m
    induction m with
    | zero =>
      intro n hn sl H i
      rw [List.drop_eq_nil_of_le (by (first | lia | omega)), e_for0]
      exact fin _ _ (by rw [← hn]; exact i)
    | succ m ih =>
      intro n hn sl H i
      have hlt : n < all.length := by (first | lia | omega)
      rw [List.drop_eq_getElem_cons hlt, e_for1]
      exact step n all[n] sl H (List.getElem?_eq_getElem hlt) i _ fun sl' H' i' => ⟨hi _ _ _ i', ih (n + 1) (by (first | lia | omega)) _ _ i'⟩
  simpa using go all.length 0 (by simp) sl H h0
end
theorem asL_scr {ns : List Int} {H : HW} : asL ns H .script = some (ns.map .int) := rfl
section
variable {ns : List Int} {sl : Sl} {H : HW}
end
theorem addL_k {ns : List Int} {H : HW} {k j xs ys} {Q : V → HW → Prop} (h1 : lstAt H k = some xs) (h2 : lstAt H j = some ys) (hl : xs.length + ys.length ≤ 1000000) (q : ∀ m H', Ext H H' → lstAt H' m = some (xs ++ ys) → m = H.length → Q (.loc m) H') : wAdd ns (.loc k) (.loc j) H Q := by
  rw [e_addL h1 h2]
  exact ⟨hl, q _ _ .app lstAt_new rfl⟩
theorem e_slot {c : Cx} {sl H k i a Q} : wSlot c k i a sl H Q = a sl H (fun v H₁ => clsV c H₁ v = some k ∧ match slotV c H₁ i v with | some u => Q u H₁ | none => False) := propext Iff.rfl
end Mine

namespace Mine
/-! ### dicts with whole numbers as keys -/
noncomputable def dGet (kvs : List (Int × V)) (k : Int) : Option V := (kvs.find? fun kv => decide (kv.1 = k)).map (·.2)
noncomputable def dHas (kvs : List (Int × V)) (k : Int) : Bool := kvs.any fun kv => decide (kv.1 = k)
noncomputable def dSet (kvs : List (Int × V)) (k : Int) (v : V) : List (Int × V) := if dHas kvs k then kvs.map (fun kv => if kv.1 = k then (kv.1, v) else kv) else kvs ++ [(k, v)]
noncomputable def asD (H : HW) : V → Option (List (Int × V))
  | .loc k => match H[k]? with | some (.dict kvs) => some kvs | _ => none
  | _ => none
section
variable {c : Cx} {d : Nat} {sc : Scope} {ρ : List Str}
noncomputable def wDict0 : WE := fun _ H Q => Q (.loc H.length) (H ++ [.dict []])
/-- an item of a dict or of a list -/
noncomputable def wIdxX (ns : List Int) (a b : WE) : WE := fun sl H Q => a sl H fun v H₁ => b sl H₁ fun w H₂ => match asD H₂ v with
  | some kvs => (match w with | .int k => (match dGet kvs k with | some u => Q u H₂ | none => False) | _ => False)
  | none => match asL ns H₂ v, w with
    | some xs, .int k => xs.length ≤ 1000000 ∧ (match getI xs k with | some u => Q u H₂ | none => False)
    | _, _ => False
/-- an item is stored -/
noncomputable def stV (v w u : V) (H : HW) (Q : HW → Prop) : Prop := match v, w with
  | .loc j, .int k => (match H[j]? with
    | some (.dict kvs) => kvs.length ≤ 1000000 ∧ Q (H.set j (.dict (dSet kvs k u)))
    | some (.list xs) => xs.length ≤ 1000000 ∧ (0 ≤ k ∧ k < xs.length) ∧ Q (H.set j (.list (xs.set k.toNat u)))
    | _ => False)
  | _, _ => False
noncomputable def wSetI (a b e : WE) : WS := fun sl H Q => e sl H fun u H₁ => a sl H₁ fun v H₂ => b sl H₂ fun w H₃ => stV v w u H₃ fun H' => Q .next sl H'
end
end Mine

namespace Mine
section
variable {c : Cx} {d : Nat} {sc : Scope} {ρ : List Str}
/-! ### a tuple's or a list's places to names -/
noncomputable def aTupX (ns : List Int) (is : List Nat) : WA := fun v sl H K => match v with
  | .tup vs => vs.length = is.length ∧ K (setAll is vs sl) H
  | v => match asL ns H v with | some vs => vs.length = is.length ∧ K (setAll is vs sl) H | none => False
noncomputable def wSetTX (ns : List Int) (is : List Nat) (a : WE) : WS := fun sl H Q => a sl H fun v H' => aTupX ns is v sl H' fun sl' H'' => Q .next sl' H''
/-! ### sorted of a dict's keys -/
end
end Mine

namespace Mine
/-! TypeInfo: an object is .obj 0 [name, namespace] -/
noncomputable def gName : WF := fun args H Q => match args with | [.obj 0 [a, _]] => Q a H | _ => False
noncomputable def gNs : WF := fun args H Q => match args with | [.obj 0 [_, a]] => Q a H | _ => False
noncomputable def mkTI : WF := fun args H Q => match args with | [a, b] => Q (.obj 0 [b, a]) H | _ => False
theorem e_gName {a b H Q} : gName [.obj 0 [a, b]] H Q = Q a H := propext Iff.rfl
theorem e_gNs {a b H Q} : gNs [.obj 0 [a, b]] H Q = Q b H := propext Iff.rfl
theorem e_mkTI {a b H Q} : mkTI [a, b] H Q = Q (.obj 0 [b, a]) H := propext Iff.rfl
end Mine

namespace Mine
/-! ### a getter of a slot -/
noncomputable def slotIs (c : Cx) (H : HW) (i : Nat) (v : V) (Q : V → HW → Prop) : Prop := match slotV c H i v with | some u => Q u H | none => False
theorem slotIs_def {c H i v Q} : slotIs c H i v Q = (match slotV c H i v with | some u => Q u H | none => False) := rfl
noncomputable def gSlot (c : Cx) (k i : Nat) : WF := fun args H Q => match args with | [v] => clsV c H v = some k ∧ slotIs c H i v Q | _ => False
theorem gSlot_of {c k i args H Q} (h : gSlot c k i args H Q) : ∃ v, args = [v] ∧ clsV c H v = some k ∧ slotIs c H i v Q := by
  unfold gSlot at h
  split at h
  · exact ⟨_, rfl, h⟩
  · exact h.elim
theorem e_gSlotO {c k i fs u H Q} (h : fs[i]? = some u) : gSlot c k i [.obj k fs] H Q = Q u H := by
  refine propext ⟨fun x => ?_, fun x => ⟨rfl, ?_⟩⟩
  · have := x.2
    unfold slotIs at this
    simpa [slotV, h] using this
  · unfold slotIs
    simpa [slotV, h] using x
theorem e_gSlotO0 {c k a b H Q} : gSlot c k 0 [.obj k [a, b]] H Q = Q a H := e_gSlotO rfl
theorem e_gSlotO1 {c k a b H Q} : gSlot c k 1 [.obj k [a, b]] H Q = Q b H := e_gSlotO rfl
theorem e_gSlot1 {c k a H Q} : gSlot c k 0 [.obj k [a]] H Q = Q a H := e_gSlotO rfl
theorem e_gSlotL {c k i j fs u H Q} (h : H[j]? = some (.inst k fs)) (hu : (fs[i]?).join = some u) : gSlot c k i [.loc j] H Q = Q u H := by
  refine propext ⟨fun x => ?_, fun x => ⟨?_, ?_⟩⟩
  · have := x.2
    unfold slotIs at this
    simpa [slotV, h, hu] using this
  · simp [clsV, h]
  · unfold slotIs
    simpa [slotV, h, hu] using x
/-- a method that gives back a global object, whatever its arguments -/
noncomputable def kGlob (n : Nat) (a : Addr) : WF := fun args H Q => args.length = n ∧ Q (.glob a) H
/-! ### what is kept from a place on -/
structure KeepB (B : Nat) (H H' : HW) : Prop where
  len : H.length ≤ H'.length
  at_ : ∀ (k : Nat) o, B ≤ k → H[k]? = some o → H'[k]? = some o
theorem KeepB.refl (B H) : KeepB B H H := ⟨Nat.le_refl _, fun _ _ _ e => e⟩
theorem KeepB.trans {B H H' H''} (x : KeepB B H H') (y : KeepB B H' H'') : KeepB B H H'' := ⟨Nat.le_trans x.len y.len, fun k o h e => y.at_ k o h (x.at_ k o h e)⟩
theorem KeepB.app {B H L} : KeepB B H (H ++ L) := ⟨by simp, fun k o _ e => by rw [List.getElem?_append_left (List.getElem?_eq_some_iff.mp e).1]; exact e⟩
theorem KeepB.set {B H j o} (h : j < B) : KeepB B H (H.set j o) := ⟨by simp, fun k o' hk e => by rw [List.getElem?_set_ne (by (first | lia | omega))]; exact e⟩
theorem KeepB.lst {B H H'} (x : KeepB B H H') {k xs} (h : B ≤ k) (e : lstAt H k = some xs) : lstAt H' k = some xs := by
  unfold lstAt; rw [x.at_ k _ h (lstAt_of e)]
theorem Ext.keepB {B H H'} (x : Ext H H') : KeepB B H H' := by obtain ⟨L, rfl⟩ := x; exact .app
end Mine

namespace Mine
section
variable {sl : Sl} {H : HW} {c : Cx} {ns : List Int}
noncomputable def idxV (ns : List Int) (v w : V) (H : HW) (Q : V → HW → Prop) : Prop := match asD H v with
  | some kvs => (match w with | .int k => (match dGet kvs k with | some u => Q u H | none => False) | _ => False)
  | none => match asL ns H v, w with
    | some xs, .int k => xs.length ≤ 1000000 ∧ (match getI xs k with | some u => Q u H | none => False)
    | _, _ => False
theorem e_idxX {a b Q} : wIdxX ns a b sl H Q = a sl H (fun v H₁ => b sl H₁ fun w H₂ => idxV ns v w H₂ Q) := propext Iff.rfl
theorem e_setI {a b e Q} : wSetI a b e sl H Q = e sl H (fun u H₁ => a sl H₁ fun v H₂ => b sl H₂ fun w H₃ => stV v w u H₃ fun H' => Q .next sl H') := propext Iff.rfl
theorem e_setTX {is a Q} : wSetTX ns is a sl H Q = a sl H (fun v H' => aTupX ns is v sl H' fun sl' H'' => Q .next sl' H'') := propext Iff.rfl
theorem e_aTupXT {is vs K} : aTupX ns is (.tup vs) sl H K = (vs.length = is.length ∧ K (setAll is vs sl) H) := propext Iff.rfl
theorem e_dict0 {Q} : wDict0 sl H Q = Q (.loc H.length) (H ++ [.dict []]) := propext Iff.rfl
theorem e_kGlob2 {n a x y Q} : kGlob n a [x, y] H Q = (2 = n ∧ Q (.glob a) H) := propext Iff.rfl
theorem e_kGlob3 {n a x y z Q} : kGlob n a [x, y, z] H Q = (3 = n ∧ Q (.glob a) H) := propext Iff.rfl
theorem e_lenS {Q} : bLen ns [.script] H Q = (ns.length ≤ 1000000 ∧ Q (.int ns.length) H) := by
  show (match asL ns H .script with | some xs => xs.length ≤ 1000000 ∧ Q (.int xs.length) H | none => False) = _
  rw [asL_scr]; simp
end
/-! ### what is kept at the places that a law protects -/
structure KeepP (P : Nat → Prop) (H H' : HW) : Prop where
  len : H.length ≤ H'.length
  at_ : ∀ (k : Nat) o, P k → H[k]? = some o → H'[k]? = some o
theorem KeepP.refl (P H) : KeepP P H H := ⟨Nat.le_refl _, fun _ _ _ e => e⟩
theorem KeepP.trans {P H H' H''} (x : KeepP P H H') (y : KeepP P H' H'') : KeepP P H H'' := ⟨Nat.le_trans x.len y.len, fun k o h e => y.at_ k o h (x.at_ k o h e)⟩
theorem KeepP.set {P H j o} (h : ¬ P j) : KeepP P H (H.set j o) := ⟨by simp, fun k o' hk e => by rw [List.getElem?_set_ne (fun q => h (by rw [q]; exact hk))]; exact e⟩
theorem KeepP.lst {P H H'} (x : KeepP P H H') {k xs} (h : P k) (e : lstAt H k = some xs) : lstAt H' k = some xs := by
  unfold lstAt; rw [x.at_ k _ h (lstAt_of e)]
theorem Ext.len {H H'} (x : Ext H H') : H.length ≤ H'.length := by obtain ⟨L, rfl⟩ := x; simp
end Mine

namespace Mine
section
variable {c : Cx} {d : Nat} {sc : Scope} {ρ : List Str}
/-! ### a built-in type that is called -/
theorem ev_callT {x np args pos T W as} (G : Good c) (hk : sc.kind = .function) (hx : sc.names.lookup x = some .globalImplicit) (hg : c.mg x = none) (hv : c.mb x = some (.type T)) (hd : (x == ("__debug__" : Str)) = false)
    (hf : FnOK c d (.type T) W) (ha : Evs c d sc ρ args as) : Ev c d sc ρ (.Call (.Name x np) args [] pos) (wCall W as) := by
  intro env A E s φ sl H Q eo ao ok vs w
  refine Call_Name rfl (name_built G eo ok hk hx hg hv hd ?_)
  refine PyProof.Rows.callWith_type (plain_any (ha.1 env)) (evalArgs_of (ha.1 env) ?_)
  refine wpAny_mono (ha.2 env A E s φ sl H _ eo ao ok vs w pos) (fun ys s₁ p₁ => ?_) fun _ _ e => e
  obtain ⟨v, H₁, φ₁, w₁, ok₁, rv, g₁, r₁⟩ := p₁
  exact wpAny_mono (hf A E s₁ φ₁ H₁ v ys Q ao ok₁ rv w₁) (fun z s₂ p₂ => p₂.shift g₁ r₁) fun _ _ e => e
/-- str of a number -/
noncomputable def bStr : WF := fun args H Q => match args with | [.tok (.int i _)] => i.natAbs.log2 < 1920 ∧ Q (.str (toString i)) H | _ => False
theorem str_ok : FnOK c d (.type "str") bStr := by
  intro A E s φ H args vals Q ao ok r q
  unfold bStr at q
  split at q
  · cases r with
    | cons rv rs =>
      cases rs
      cases rv
      exact PySem.P.str_of_int q.1 (.here q.2 ok .str (fun _ _ e => e) (Rest.mk s s.heap _))
  · exact q.elim
/-- > of a number with an identity -/
noncomputable def wGtT : WB := fun v w H Q => match v, w with
  | .tok (.int i _), .int j => Q (.bool (decide (j < i))) H
  | .int i, .int j => Q (.bool (decide (j < i))) H
  | _, _ => False
theorem gt_okT : CmpOK c d .Gt wGtT := by
  intro A E s φ H v w x y Q ao ok rv rw' q
  unfold wGtT at q
  split at q
  · cases rv; cases rw'
    exact gt_int (.here q ok .bool (fun _ _ e => e) (Rest.refl s))
  · cases rv; cases rw'
    exact gt_int (.here q ok .bool (fun _ _ e => e) (Rest.refl s))
  · exact q.elim
/-! ### truth -/
noncomputable def trV (H : HW) : V → Option Bool
  | .none => some false
  | .bool b => some b
  | .tok (.int i _) => some (i != 0)
  | .tok (.str s _) => some ((s.length : Int) != 0)
  | .loc k => match H[k]? with | some (.list xs) => some (!xs.isEmpty) | some (.inst 0 _) => some true | _ => none
  | _ => none
noncomputable def tTr (w : WE) : WT := fun sl H Q => w sl H fun v H' => (∀ k xs, v = .loc k → lstAt H' k = some xs → xs.length ≤ 1000000) ∧ (∀ x t, v = .tok (.str x t) → x.length ≤ 1000000) ∧ match trV H' v with | some b => Q b H' | none => False
theorem et_tr {e a} (G : Good c) (he : Ev c d sc ρ e a) (hb : findIn c.K (.ref (c.cls 0)) "__bool__" = some none) (hl : findIn c.K (.ref (c.cls 0)) "__len__" = some none) (ht : ∀ env whole, isTrue e env whole = (do let v ← whole; standAt e.pos; holding [v] (truthy v))) : Et c d sc ρ e (tTr a) := by
  intro env A E s φ sl H Q eo ao ok vs w
  rw [ht]
  refine wpAny_bind (wpAny_mono (he env A E s φ sl H _ eo ao ok vs w) (fun x s₁ p₁ => wpAny_bind (wpAny_standAt (wpAny_holding ?_))) fun _ _ e => e)
  obtain ⟨v, H₁, φ₁, ⟨z1, z2, w₁⟩, ok₁, rv, g₁, r₁⟩ := p₁
  split at w₁
  · rename_i b eb
    have here : ∀ t, PostT c φ s Q b { s₁ with toks := t } := fun t => ⟨H₁, φ₁, w₁, ok₁, g₁, r₁.trans (Rest.mk s₁ s₁.heap t)⟩
    cases rv with
    | none => simp only [trV] at eb; cases eb; exact wpAny_pure (here s₁.toks)
    | bool => simp only [trV] at eb; cases eb; exact wpAny_pure (here s₁.toks)
    | @loc k a hk =>
      simp only [trV] at eb
      split at eb
      · rename_i xs e'
        cases eb
        obtain ⟨o, h1, h2⟩ := ok₁.objs k a _ hk e'
        cases h2 with
        | @list _ ys n r =>
          have len := r.length
          have hz := z1 k xs rfl (by unfold lstAt; rw [e'])
          refine wpAny_truthy_list (items := ys.toArray) ⟨_, h1, rfl, _, rfl⟩ (by rw [List.size_toArray]; (first | lia | omega)) ?_
          have : ys.toArray.isEmpty = xs.isEmpty := by
            cases xs <;> cases ys <;> first | rfl | (simp at len)
          rw [this]
          exact here _
      · rename_i fs e'
        cases eb
        obtain ⟨o, h1, h2⟩ := ok₁.objs k a _ hk e'
        cases h2 with
        | inst r z n y eb' =>
          have I : InstAt s₁.heap a _ (c.cls 0) (some (dictOf [] 0)) := ⟨h1, rfl, rfl, eb'⟩
          unfold truthy
          refine wpAny_bind (m := callSpecial? (.ref a) (Str.ofString "__bool__")) (wpAny_bind (wpAny_bind (I.type.here ((looks_findIn (ok₁.X G) hb).here (wpAny_pure ?_)))))
          refine wpAny_bind (wpAny_bind (I.type.here ((looks_findIn (ok₁.X G) hl).here ?_)))
          exact wpAny_pure (here s₁.toks)
      · cases eb
    | tok e1 =>
      cases x with
      | int i t => simp only [trV] at eb; cases eb; exact PyProof.Rows.truthy_int (here s₁.toks)
      | str y t =>
        simp only [trV] at eb
        cases eb
        have := z2 y t rfl
        exact PySem.P.truthy_str (by (first | lia | omega)) (here _)
      | _ => cases e1
    | _ => simp only [trV] at eb; cases eb
  · exact w₁.elim
end
end Mine

namespace Mine
/-! ### the writing of a thing -/
noncomputable def catS (ys : List Str) : Str := ys.foldl (· ++ ·) Str.empty
noncomputable def TrOk (H : HW) (v : V) (b : Bool) : Prop := trV H v = some b ∧ (∀ k xs, v = .loc k → lstAt H k = some xs → xs.length ≤ 1000000) ∧ (∀ x t, v = .tok (.str x t) → x.length ≤ 1000000)
inductive Rp (H : HW) : Nat → V → Str → Prop
  | int {n i t} : i.natAbs.log2 < 1920 → Rp H n (.tok (.int i t)) (toString i)
  | none {n} : Rp H n .none "None"
  | str {n x t} : Rp H n (.tok (.str x t)) (reprText x)
  | nil {n k} : lstAt H k = some [] → Rp H n (.loc k) "[]"
  | one {n k i t} : lstAt H k = some [.tok (.int i t)] → i.natAbs.log2 < 1920 → Rp H n (.loc k) (listText [toString i])
  | inst {n k nm ns a b} : H[k]? = some (.inst 0 [some nm, some ns]) → TrOk H ns true → Rp H n nm a → Rp H n ns b → Rp H (n + 1) (.loc k) (catS ["<", "TypeInfo", " ", a, " (from ", b, ")>"])
  | inst0 {n k nm ns a} : H[k]? = some (.inst 0 [some nm, some ns]) → TrOk H ns false → Rp H n nm a → Rp H (n + 1) (.loc k) (catS ["<", "TypeInfo", " ", a, ">"])
section
variable {c : Cx} {d : Nat} {sc : Scope} {ρ : List Str}
noncomputable def RpOK (c : Cx) (d n : Nat) : Prop := ∀ A E s φ H v x str Q, AOK d A → Ok c φ H s.heap → RepV c φ s.heap v x → Rp H n v str → str.length ≤ 100000 → Q (.str str) H → wpAny (model c.prog c.w) A (pyReprObj x) (PostE c φ s Q) E s
/-- what __repr__ of an object gives back -/
noncomputable def reprW (m : Nat) : WF := fun args H Q => match args with
  | [.loc k] => (∃ nm ns a, H[k]? = some (.inst 0 [some nm, some ns]) ∧ Rp H m nm a ∧ a.length ≤ 100000 ∧
      ((TrOk H ns true ∧ ∃ b, Rp H m ns b ∧ b.length ≤ 100000 ∧ Q (.str (catS ["<", "TypeInfo", " ", a, " (from ", b, ")>"])) H) ∨ (TrOk H ns false ∧ Q (.str (catS ["<", "TypeInfo", " ", a, ">"])) H)))
  | _ => False
theorem len_app (x y : Str) : (x ++ y).length = x.length + y.length := PySem.strLen_append x y
theorem catS7 {a b : Str} : (catS ["<", "TypeInfo", " ", a, " (from ", b, ")>"]).length = 19 + a.length + b.length := by
  simp only [catS, List.foldl_cons, List.foldl_nil, len_app]
  have e1 : (Str.ofString "<").length = 1 := by decide
  have e2 : (Str.ofString "TypeInfo").length = 8 := by decide
  have e3 : (Str.ofString " ").length = 1 := by decide
  have e4 : (Str.ofString " (from ").length = 7 := by decide
  have e5 : (Str.ofString ")>").length = 2 := by decide
  have e6 : Str.empty.length = 0 := by decide
  (first | lia | omega)
theorem catS5 {a : Str} : (catS ["<", "TypeInfo", " ", a, ">"]).length = 11 + a.length := by
  simp only [catS, List.foldl_cons, List.foldl_nil, len_app]
  have e1 : (Str.ofString "<").length = 1 := by decide
  have e2 : (Str.ofString "TypeInfo").length = 8 := by decide
  have e3 : (Str.ofString " ").length = 1 := by decide
  have e5 : (Str.ofString ">").length = 1 := by decide
  have e6 : Str.empty.length = 0 := by decide
  (first | lia | omega)
theorem AOK.u {A} (ao : AOK d A) : A.units < cLine := by have := ao.units; rw [cLine_is]; (first | lia | omega)
theorem rp_call {n f A E s φ H v x str Q} (G : Good c) (hs : findIn c.K (.ref (c.cls 0)) "__repr__" = some (some (.ref f))) (hf : isFn c.K (.ref f) = true) (h : ∀ m, n = m + 1 → FnOK c d (.ref f) (reprW m))
    (ao : AOK d A) (ok : Ok c φ H s.heap) (rv : RepV c φ s.heap v x) (r : Rp H n v str) (hl : str.length ≤ 100000) (q : Q (.str str) H) :
    (∃ w, wpAny (model c.prog c.w) A (specialOf x (Str.ofString "__repr__")) (fun o s' => s' = s ∧ o = some w) E s) ∧
    wpAny (model c.prog c.w) A (callSpecialIfBound? x (Str.ofString "__repr__")) (fun o s' => ∃ u, o = some (.str str u) ∧ PostE c φ s Q (.str str u) s') E s := by
  have fits : ∀ n : Nat, n ≤ 1000000 → n ≤ sizeLine := fun n hn => by rw [sizeLine_eq]; exact Nat.le_trans hn (by decide)
  have leaf : ∀ {T idr : String} {B : Builtin} {x : Value} {st : Str}, s.TypeIs x T → Slot T "__repr__" idr → entryFor table idr = some B → argsOk idr ⟨[x], []⟩ → PySem.Gives (B ⟨[x], []⟩) (.str st) → st.length ≤ 1000000 → Q (.str st) H →
      (∃ w, wpAny (model c.prog c.w) A (specialOf x (Str.ofString "__repr__")) (fun o s' => s' = s ∧ o = some w) E s) ∧
      wpAny (model c.prog c.w) A (callSpecialIfBound? x (Str.ofString "__repr__")) (fun o s' => ∃ u, o = some (.str st u) ∧ PostE c φ s Q (.str st u) s') E s := fun hT slot entry args g hz q =>
    ⟨⟨_, wpAny_specialOf (name := Str.ofString "__repr__") hT slot.lookup ⟨rfl, rfl⟩⟩, wpAny_callSpecialIfBound?_slot (name := Str.ofString "__repr__") hT slot (call_gives (m := .str _) slot hT entry args g ⟨fits _ hz, ⟨_, rfl, .here q ok .str (fun _ _ e => e) (Rest.mk s s.heap _)⟩⟩)⟩
  have inst : ∀ {k m : Nat} {nm ns : V} {st : Str}, n = m + 1 → H[k]? = some (.inst 0 [some nm, some ns]) → RepV c φ s.heap (.loc k) x → reprW m [.loc k] H (fun r H' => r = .str st ∧ H' = H) → Q (.str st) H →
      (∃ w, wpAny (model c.prog c.w) A (specialOf x (Str.ofString "__repr__")) (fun o s' => s' = s ∧ o = some w) E s) ∧
      wpAny (model c.prog c.w) A (callSpecialIfBound? x (Str.ofString "__repr__")) (fun o s' => ∃ u, o = some (.str st u) ∧ PostE c φ s Q (.str st u) s') E s := fun {k m nm ns st} hn hk rk hw q => by
    obtain ⟨a, ox, rfl, I, _⟩ := inst_of (k := 0) G ok rk (by simp only [clsV, hk])
    refine ⟨⟨.ref f, ?_⟩, ?_⟩
    · exact wpAny_bind (I.type.here ((looks_findIn (ok.X G) hs).here ⟨rfl, rfl⟩))
    · refine ifBound_K (ok.X G) I hs hf (wpAny_mono (h m hn A E s φ H [.loc k] [.ref a] _ ao ok (.cons rk .nil) hw) (fun r s' p => ?_) fun _ _ e => e)
      obtain ⟨v', H', φ', ⟨rfl, rfl⟩, ok', rv', g', r'⟩ := p
      cases rv'
      exact ⟨_, rfl, _, _, φ', q, ok', .str, g', r'⟩
  cases r with
  | int hi => cases rv; exact leaf (typeIs_int s _ _) PySem.F.slot_int_repr PySem.F.entry_int_repr (PySem.F.args_int_repr_1 _) (gives_int_repr _ _ hi) (by (first | lia | omega)) q
  | none => cases rv; exact leaf (typeIs_none s) PySem.F.slot_NoneType_repr PySem.F.entry_NoneType_repr (PySem.F.args_NoneType_repr_1 _) gives_none_repr (by (first | lia | omega)) q
  | str => cases rv; exact leaf (typeIs_str s _ _) PySem.F.slot_str_repr PySem.F.entry_str_repr (PySem.F.args_str_repr_1 _) (gives_str_repr _ _) (by (first | lia | omega)) q
  | nil hk =>
    obtain ⟨a, ys, n, rfl, e, il, rr⟩ := loc_list ok rv (lstAt_of hk)
    cases rr
    have hTy : s.TypeIs (.ref a) "list" := ⟨_, il, rfl⟩
    exact ⟨⟨_, wpAny_specialOf (name := Str.ofString "__repr__") hTy PySem.F.slot_list_repr.lookup ⟨rfl, rfl⟩⟩, wpAny_callSpecialIfBound?_slot (name := Str.ofString "__repr__") hTy PySem.F.slot_list_repr
      (call_list_repr_empty hTy il rfl ⟨_, rfl, .here q ok .str (fun _ _ e => e) (Rest.mk s s.heap _)⟩)⟩
  | one hk hi =>
    obtain ⟨a, ys, n, rfl, e, il, rr⟩ := loc_list ok rv (lstAt_of hk)
    cases rr with
    | cons r1 r2 =>
      cases r2
      cases r1
      have hTy : s.TypeIs (.ref a) "list" := ⟨_, il, rfl⟩
      refine ⟨⟨_, wpAny_specialOf (name := Str.ofString "__repr__") hTy PySem.F.slot_list_repr.lookup ⟨rfl, rfl⟩⟩, wpAny_callSpecialIfBound?_slot (name := Str.ofString "__repr__") hTy PySem.F.slot_list_repr
        (call_list_repr (l := []) hTy ao.guards (fun _ _ _ m => nomatch m) il rfl (ts := [_]) rfl (fun i y e => ?_) (fun h' u tk k => ⟨u, rfl, .here q (ok.keep k) .str k (Rest.mk s h' tk)⟩) (fits _ (by (first | lia | omega))))⟩
      cases i with
      | zero => simp at e; subst e; exact ⟨_, rfl, .int _ hi⟩
      | succ i => simp at e
  | @inst m k nm ns a b hk ht h1 h2 =>
    rw [catS7] at hl
    exact inst rfl hk rv ⟨nm, ns, a, hk, h1, by (first | lia | omega), .inl ⟨ht, b, h2, by (first | lia | omega), rfl, rfl⟩⟩ q
  | @inst0 m k nm ns a hk ht h1 =>
    rw [catS5] at hl
    exact inst rfl hk rv ⟨nm, ns, a, hk, h1, by (first | lia | omega), .inr ⟨ht, rfl, rfl⟩⟩ q
theorem rp_ok {n f} (G : Good c) (hs : findIn c.K (.ref (c.cls 0)) "__repr__" = some (some (.ref f))) (hf : isFn c.K (.ref f) = true) (h : ∀ m, n = m + 1 → FnOK c d (.ref f) (reprW m)) : RpOK c d n := by
  intro A E s φ H v x str Q ao ok rv r hl q
  obtain ⟨⟨w, h1⟩, h2⟩ := rp_call (E := E) G hs hf h ao ok rv r hl q
  unfold pyReprObj
  refine wpAny_bind (wpAny_cRoomFor ao.u ?_)
  refine wpAny_bind (wpAny_mono h1 (fun o s' p => ?_) fun _ _ e => e)
  obtain ⟨rfl, rfl⟩ := p
  refine wpAny_bind (m := callSpecialIfBound? x (Str.ofString "__repr__")) (wpAny_mono h2 (fun o s' p => ?_) fun _ _ e => e)
  obtain ⟨u, rfl, p⟩ := p
  exact wpAny_bind (wpAny_isInstance (T := "str") (b := true) rfl isSubtype_str_str (wpAny_pure p))
/-- repr(..) -/
noncomputable def bRepr (n : Nat) : WF := fun args H Q => match args with | [v] => ∃ str, Rp H n v str ∧ str.length ≤ 100000 ∧ Q (.str str) H | _ => False
theorem AOK.in1 {A} (ao : AOK (d + 1) A) : AOK d A.in1 := ⟨ao.handled, ao.guards, by have := ao.depth; show A.depth + d < 900; (first | lia | omega), by have := ao.units; show A.units + 1 + 20 * d < 9000; (first | lia | omega)⟩
theorem repr_ok {n f} (G : Good c) (hs : findIn c.K (.ref (c.cls 0)) "__repr__" = some (some (.ref f))) (hf : isFn c.K (.ref f) = true) (h : ∀ m, n = m + 1 → FnOK c d (.ref f) (reprW m)) : FnOK c (d + 1) (.builtin "repr") (bRepr n) := by
  intro A E s φ H args vals Q ao ok r q
  unfold bRepr at q
  split at q
  · rename_i v
    obtain ⟨str, hr, hl, q⟩ := q
    cases r with
    | cons rv rs =>
      cases rs
      obtain ⟨⟨w, h1⟩, h2⟩ := rp_call (E := E) G hs hf h ao.in1 ok rv hr hl q
      refine Calls.call_function_entry PySem.F.kind_repr PySem.F.plain_repr PySem.F.entry_repr (PySem.F.args_repr1 _) ?_
      unfold Builtin.«repr»
      refine wpAny_bind (m := oneArg "repr" _) (wpAny_pure ?_)
      refine wpAny_bind (wpAny_cRoomFor ao.in1.u ?_)
      refine wpAny_bind (wpAny_mono h1 (fun o s' p => ?_) fun _ _ e => e)
      obtain ⟨rfl, rfl⟩ := p
      refine wpAny_bind (m := callSpecialIfBound? _ (Str.ofString "__repr__")) (wpAny_mono h2 (fun o s' p => ?_) fun _ _ e => e)
      obtain ⟨u, rfl, p⟩ := p
      exact wpAny_bind (wpAny_isInstance (T := "str") (b := true) rfl isSubtype_str_str (wpAny_pure ⟨_, rfl, p⟩))
  · exact q.elim
end
end Mine

namespace Mine
section
variable {c : Cx} {d : Nat} {sc : Scope} {ρ : List Str}
/-! ### fields of a written text -/
noncomputable def wFvS (a : WE) : WE := fun sl H Q => a sl H fun v H' => match v with | .str y => y.length ≤ 1000000 ∧ Q (.str y) H' | _ => False
theorem ev_fvS {e pos a} (he : Ev c d sc ρ e a) : Ev c d sc ρ (.FormattedValue e 115 none pos) (wFvS a) := by
  intro env A E s φ sl H Q eo ao ok vs w
  refine wpAny_FormattedValue_s (wpAny_mono (he env A E s φ sl H _ eo ao ok vs w) (fun x s₁ p₁ => ?_) fun _ _ e => e)
  obtain ⟨v, H₁, φ₁, w₁, ok₁, rv, g₁, r₁⟩ := p₁
  split at w₁
  · rename_i y
    cases rv
    have hz : y.length ≤ sizeLine := by rw [sizeLine_eq]; exact Nat.le_trans w₁.1 (by decide)
    refine PyProof.Rows.habitSame_str (fun t' tk => PyProof.Rows.formatField_str (s := { s₁ with toks := tk }) (fun t'' tk' => ?_) hz) hz
    exact (PostE.here (s' := { s₁ with toks := tk' }) w₁.2 ok₁ .str (fun _ _ e => e) (Rest.mk s₁ s₁.heap tk')).shift g₁ r₁
  · exact w₁.elim
noncomputable def wFvR (n : Nat) (a : WE) : WE := fun sl H Q => a sl H fun v H' => ∃ str, Rp H' n v str ∧ str.length ≤ 100000 ∧ Q (.str str) H'
theorem ev_fvR {e pos a n} (R : RpOK c d n) (he : Ev c d sc ρ e a) : Ev c d sc ρ (.FormattedValue e 114 none pos) (wFvR n a) := by
  intro env A E s φ sl H Q eo ao ok vs w
  refine wpAny_FormattedValue_repr (wpAny_mono (he env A E s φ sl H _ eo ao ok vs w) (fun x s₁ p₁ => ?_) fun _ _ e => e)
  obtain ⟨v, H₁, φ₁, ⟨str, hr, hl, q⟩, ok₁, rv, g₁, r₁⟩ := p₁
  refine wpAny_mono (R A E s₁ φ₁ H₁ v x str (fun r H' => r = .str str ∧ H' = H₁) ao ok₁ rv hr hl ⟨rfl, rfl⟩) (fun y s₂ p₂ => ?_) fun _ _ e => e
  obtain ⟨v₂, H₂, φ₂, ⟨rfl, rfl⟩, ok₂, rv₂, g₂, r₂⟩ := p₂
  cases rv₂
  have hz : str.length ≤ sizeLine := by rw [sizeLine_eq]; (first | lia | omega)
  refine PyProof.Rows.formatField_str (fun t'' tk' => ?_) hz
  exact ((PostE.here (s' := { s₂ with toks := tk' }) q ok₂ .str (fun _ _ e => e) (Rest.mk s₂ s₂.heap tk')).shift g₂ r₂).shift g₁ r₁
/-! ### a written text with fields -/
noncomputable abbrev WJ := Sl → HW → (List Str → HW → Prop) → Prop
noncomputable def Ejs (c : Cx) (d : Nat) (sc : Scope) (ρ : List Str) (es : List Expr) (W : WJ) : Prop :=
  ∀ env A E s φ sl H acc (R : List Str → HW → Prop) (K : Str → Shared → Prop), EnvOK sc env → AOK d A → Ok c φ H s.heap → Vars c ρ φ s.heap env sl → W sl H R → acc.length + 100000 * es.length ≤ 1000000 →
    (∀ ys s' H' φ', R ys H' → (ys.foldl (· ++ ·) acc).length ≤ 1000000 → Ok c φ' H' s'.heap → Grow φ s.heap φ' s'.heap → Rest s s' → K (ys.foldl (· ++ ·) acc) s') → PySem.Joins (model c.prog c.w) A E (evalEach es env) acc K s
noncomputable def jNil : WJ := fun _ H R => R [] H
noncomputable def jCons (a : WE) (b : WJ) : WJ := fun sl H R => a sl H fun v H₁ => match v with | .str y => y.length ≤ 100000 ∧ b sl H₁ fun ys H₂ => R (y :: ys) H₂ | _ => False
theorem ejs_nil : Ejs c d sc ρ [] jNil := fun env A E s φ sl H acc R K eo ao ok vs w hz k => k [] s H φ w (by simpa using hz) ok (.refl _ _) (Rest.refl s)
theorem ejs_cons {e es a b} (he : Ev c d sc ρ e a) (hes : Ejs c d sc ρ es b) : Ejs c d sc ρ (e :: es) (jCons a b) := by
  intro env A E s φ sl H acc R K eo ao ok vs w hz k
  show PySem.Joins _ A E (eval e env :: evalEach es env) acc K s
  refine wpAny_mono (he env A E s φ sl H _ eo ao ok vs w) (fun x s₁ p₁ => ?_) fun _ _ e => e
  obtain ⟨v, H₁, φ₁, w₁, ok₁, rv, g₁, r₁⟩ := p₁
  split at w₁
  · rename_i y
    cases rv
    rw [List.length_cons, Nat.mul_add] at hz
    have hl : (acc ++ y).length + 100000 * es.length ≤ 1000000 := by rw [len_app]; (first | lia | omega)
    refine ⟨y, _, rfl, by rw [sizeLine_eq]; (first | lia | omega), ?_⟩
    exact hes env A E s₁ φ₁ sl H₁ (acc ++ y) _ K eo ao ok₁ (vs.grow g₁) w₁.2 hl fun ys s' H' φ' hr hz' ok' g' r' => k (y :: ys) s' H' φ' hr hz' ok' (g₁.trans g') (r₁.trans r')
  · exact w₁.elim
noncomputable def wJoin (W : WJ) : WE := fun sl H Q => W sl H fun ys H' => Q (.str (catS ys)) H'
theorem ev_joined {e₁ e₂ es pos W} (h : Ejs c d sc ρ (e₁ :: e₂ :: es) W) (hn : es.length ≤ 8) : Ev c d sc ρ (.JoinedStr (e₁ :: e₂ :: es) pos) (wJoin W) := by
  intro env A E s φ sl H Q eo ao ok vs w
  refine wpAny_JoinedStr (h env A E s φ sl H Str.empty _ _ eo ao ok vs w (by simp only [List.length_cons]; show 0 + _ ≤ _; (first | lia | omega)) fun ys s' H' φ' hr hz ok' g' r' => ⟨by rw [sizeLine_eq]; exact Nat.le_trans hz (by decide), ?_⟩)
  exact (PostE.here (s := s') (s' := { s' with toks := s'.toks + 1 }) hr ok' .str (fun _ _ e => e) (Rest.mk s' s'.heap _)).shift g' r'
end
end Mine

namespace Mine
open PySem.Calls PySem.Builtin PySem.Builtin.ObjectAttr PySem.Builtin.Getset_descriptor
/-! ### the name of a class of the text -/
section
variable {prog : Program} {w : World} {A : Around} {E : Value → Shared → Prop} {s : Shared} {K : Frag} {C : Addr} {R : Result → Shared → Prop}
theorem cls_name_get {oc : Obj} {tp : Value} {q : Str} {tq : Tok} (X : K.In s.heap) (hT : typeIn K (.ref C) = some (.type "type")) (hc : K.lookup C = some oc) (hq : (oc.slots[2]?).join = some (.str q tq)) (h : R (.ok (.ret (.str q tq))) s) :
    codeAny (model prog w) A (.call (.builtin "getset_descriptor.__get__") ⟨[.builtin "type.__name__", .ref C, tp], []⟩) R s := by
  obtain ⟨hh, g, dr, t, os⟩ := s
  have hC : hh.get? C = some oc := X _ _ hc
  have L0 : Looks (model prog w) hh (typeOf (.ref C)) (.type "type") := looks_typeIn X hT
  have L1 : Looks (model prog w) hh (isSubtype (.type "type") (.type "type")) true := Looks.of_pure (by rw [isSubtype_type]; kernel_rfl)
  have ty : typeOf (.builtin "type.__name__") = pure (.type "getset_descriptor") := by show builtinType _ = _; rw [builtinType_eq_fast]; kernel_rfl
  have ow : descrOwnerAndName "type.__name__" = ("type", "__name__") := by decide +kernel
  have en : entryFor table "type.__name__" = some Builtin.«type.__name__» := entryFor_of_tree (by kernel_rfl)
  refine codeAny_call_builtin KF.slot_gs.plain KF.entry_gs (KF.slot_gs.check _ _ _ _ _ _ _ _ ty (KF.args_gs _ _ _) ?_)
  unfold Builtin.«getset_descriptor.__get__» descrGet
  rw [dga_obj]
  refine wpAny_bind (wpAny_pure ?_)
  unfold descrGetter descrCheckInstance descrNameAndClass isInstance
  simp only [ow]
  repeat lk
  refine ⟨Code.quiet_builtin _ (by decide +kernel), codeAny_builtin en ?_⟩
  unfold Builtin.«type.__name__» keptObject slotAt
  dsimp only
  refine wpAny_bind (wpAny_bind (wpAny_load hC (wpAny_pure ?_)))
  rw [hq]
  exact wpAny_pure h
theorem cls_name {oc : Obj} {expr : Bool} {q : Str} {tq : Tok} {Q : Value → Shared → Prop} (X : K.In s.heap) (hr : readsIn K C (.type "type") = true)
    (e : findCls K (.ref C) (.type "type") "__name__" = some (.get (.builtin "getset_descriptor.__get__") (.builtin "type.__name__") (.ref C) (.type "type"))) (hT : typeIn K (.ref C) = some (.type "type"))
    (hc : K.lookup C = some oc) (hq : (oc.slots[2]?).join = some (.str q tq)) (h : Q (.str q tq) { s with toks := s.toks + 1 }) : wpAny (model prog w) A (getAttr (.ref C) "__name__" expr) Q E s := by
  refine cls_read X hr e ?_
  show wpAny _ _ (do ret (← holding [Value.builtin "type.__name__"] (call (.builtin "getset_descriptor.__get__") [.builtin "type.__name__", .ref C, .type "type"]))) _ _ _
  refine wpAny_bind (wpAny_holding (wpAny_call (cls_name_get (s := { s with toks := s.toks + 1 }) X hT hc hq ?_)))
  exact wpAny_pure (handed_on rfl h)
end
section
variable {c : Cx} {d : Nat} {sc : Scope} {ρ : List Str}
noncomputable def wCls (c : Cx) (k : Nat) (a : WE) : WE := fun sl H Q => a sl H fun v H₁ => clsV c H₁ v = some k ∧ Q (.glob (c.cls k)) H₁
theorem ev_cls {o pos a k oc} (G : Good c) (ho : Ev c d sc ρ o a) (hg : plainGet c.K (c.cls k) "__class__" = true) (hcl : isClsIn c.K (c.cls k) = true)
    (ha : findIn c.K (.ref (c.cls k)) "__class__" = some (some (.builtin "object.__class__"))) (hn : specialIn c.K (.builtin "object.__class__") "__get__" = some (some (.builtin "getset_descriptor.__get__"))) (ht : takesIn c.K (.builtin "object.__class__") = some true)
    (hm : mroIn c.K (c.cls k) (.type "object") = some true) (hc : c.K.lookup (c.cls k) = some oc)
    (he : ∀ env, eval (.Attribute o (Str.ofString "__class__") pos) env = (eval o env >>= fun ov => standAt pos.atName >>= fun _ => holding [ov] (getAttr ov (Str.ofString "__class__") true) >>= fun r => pure r)) : Ev c d sc ρ (.Attribute o (Str.ofString "__class__") pos) (wCls c k a) := by
  intro env A E s φ sl H Q eo ao ok vs w
  rw [he]
  refine wpAny_bind (wpAny_mono (ho env A E s φ sl H _ eo ao ok vs w) (fun x s₁ p₁ => ?_) fun _ _ e => e)
  obtain ⟨v, H₁, φ₁, ⟨wc, w₁⟩, ok₁, rv, g₁, r₁⟩ := p₁
  obtain ⟨xa, ox, rfl, I, hs⟩ := inst_of G ok₁ rv wc
  refine wpAny_bind (wpAny_standAt (wpAny_bind (wpAny_holding ?_)))
  refine get_bind (ok₁.X G) I (plainGet_of hg).1 (findObj_data hcl ha hn ht) (plainGet_of hg).2 (wpAny_call (class_get (s := { s₁ with toks := s₁.toks + 1 }) (ok₁.X G) I hm (handed_on rfl ?_)))
  exact wpAny_pure ((PostE.here (s' := { s₁ with toks := s₁.toks + 1 }) w₁ ok₁ (.glob (G.X _ _ hc)) (fun _ _ e => e) (Rest.mk s₁ s₁.heap _)).shift g₁ r₁)
noncomputable def wCnm (C : Addr) (q : Str) (a : WE) : WE := fun sl H Q => a sl H fun v H₁ => v = .glob C ∧ Q (.str q) H₁
theorem ev_cname {o pos a C oc q tq} (G : Good c) (ho : Ev c d sc ρ o a) (hr : readsIn c.K C (.type "type") = true)
    (e : findCls c.K (.ref C) (.type "type") "__name__" = some (.get (.builtin "getset_descriptor.__get__") (.builtin "type.__name__") (.ref C) (.type "type"))) (hT : typeIn c.K (.ref C) = some (.type "type"))
    (hc : c.K.lookup C = some oc) (hq : (oc.slots[2]?).join = some (.str q tq))
    (he : ∀ env, eval (.Attribute o (Str.ofString "__name__") pos) env = (eval o env >>= fun ov => standAt pos.atName >>= fun _ => holding [ov] (getAttr ov (Str.ofString "__name__") true) >>= fun r => letTemporaryGo o ov r >>= fun _ => pure r)) : Ev c d sc ρ (.Attribute o (Str.ofString "__name__") pos) (wCnm C q a) := by
  intro env A E s φ sl H Q eo ao ok vs w
  rw [he]
  refine wpAny_bind (wpAny_mono (ho env A E s φ sl H _ eo ao ok vs w) (fun x s₁ p₁ => ?_) fun _ _ e => e)
  obtain ⟨v, H₁, φ₁, ⟨rfl, w₁⟩, ok₁, rv, g₁, r₁⟩ := p₁
  cases rv
  refine wpAny_bind (wpAny_standAt (wpAny_bind (wpAny_holding ?_)))
  refine cls_name (ok₁.X G) hr e hT hc hq ?_
  exact wpAny_bind (wpAny_letTemporaryGo (wpAny_pure ((PostE.here (s' := { s₁ with toks := s₁.toks + 1 }) w₁ ok₁ .str (fun _ _ e => e) (Rest.mk s₁ s₁.heap _)).shift g₁ r₁)))
/-! ### methods of a text -/
noncomputable def StrMOK (c : Cx) (d : Nat) (id : String) (f : WB) : Prop := ∀ A E s φ H x t w y Q, AOK d A → Ok c φ H s.heap → RepV c φ s.heap w y → f (.str x) w H Q → wpAny (model c.prog c.w) A (call (.builtin id) [.str x t, y]) (PostE c φ s Q) E s
noncomputable def wStrM (f : WB) (a b : WE) : WE := fun sl H Q => a sl H fun v H₁ => match v with | .str x => b sl H₁ fun w H₂ => f (.str x) w H₂ Q | _ => False
theorem ev_strM {o e apos pos a b name id f} {pl : Env → Sem Bool} (slot : Slot "str" name id) (ty : typeOf (.builtin id) = pure (.type "method_descriptor")) (B : StrMOK c d id f) (ho : Ev c d sc ρ o a) (hb : Ev c d sc ρ e b) (hs : ∀ env, backTo pos (starEach [e] env) = [(false, eval e env)])
    (he : ∀ env, eval (.Call (.Attribute o name apos) [e] [] pos) env = (do
      let ov ← eval o env
      standAt apos.atName
      let (f, first) ← holding [ov] (getMethod ov name (pl env))
      callWith pos f first (backTo pos (starEach [e] env)) (backToKw pos (keywordEach [] env)))) : Ev c d sc ρ (.Call (.Attribute o name apos) [e] [] pos) (wStrM f a b) := by
  intro env A E s φ sl H Q eo ao ok vs w
  refine methodCall_KW (pl := pl env) (wpAny_mono (ho env A E s φ sl H _ eo ao ok vs w) (fun x s₁ p₁ => ?_) fun _ _ e => e) (he env)
  obtain ⟨v, H₁, φ₁, w₁, ok₁, rv, g₁, r₁⟩ := p₁
  split at w₁
  · cases rv
    refine GM.of _ (typeIs_str _ _ _) slot ty GM.noRef ?_
    show wpAny _ _ (callWith pos (.builtin id) [_] (backTo pos (starEach [e] env)) []) _ _ _
    rw [hs]
    refine Calls.callWith_builtin rfl (Calls.evalArgs_plain (Calls.spliced_cons (wpAny_mono (hb env A E s₁ φ₁ sl H₁ _ eo ao ok₁ (vs.grow g₁) w₁) (fun y s₂ p₂ => Calls.spliced_nil ?_) fun _ _ e => e)))
    obtain ⟨u, H₂, φ₂, w₂, ok₂, ru, g₂, r₂⟩ := p₂
    exact wpAny_mono (B A E s₂ φ₂ H₂ _ _ u y Q ao ok₂ ru w₂) (fun z s₃ p₃ => p₃.shift (g₁.trans g₂) (r₁.trans r₂)) fun _ _ e => e
  · exact w₁.elim
noncomputable def mSplit : WB := fun v w H Q => match v, w with
  | .str x, .str y => y.length ≠ 0 ∧ x.length ≤ 1000000 ∧ Q (.loc H.length) (H ++ [.list ((Txt.split x y).map .str)])
  | _, _ => False
theorem rep_strs {φ h} : ∀ (l : List (Str × Tok)), RepVs c φ h ((l.map (·.1)).map .str) (strValues l)
  | [] => .nil
  | _ :: l => .cons .str (rep_strs l)
theorem split_ok : StrMOK c d "str.split" mSplit := by
  intro A E s φ H x t w y Q ao ok rw' q
  unfold mSplit at q
  split at q
  · rename_i x' y' e
    cases e
    cases rw'
    rename_i u
    obtain ⟨hy, hx, q⟩ := q
    have hy' : (y'.length == 0) = false := by simpa using hy
    have hsz : x.length ≤ sizeLine := by rw [sizeLine_eq]; exact Nat.le_trans hx (by decide)
    have fin : ∀ (l : List (Str × Tok)) (tk : Nat), l.map (·.1) = Txt.split x y' → PostE c φ s Q (.ref s.heap.objs.size) { s with heap := s.heap.push { cls := .type "list", data := .seq (strValues l).toArray }, toks := tk } := fun l tk hl =>
      new_list ok (rep_strs l) (by rw [hl]; exact q) { s with heap := s.heap.push { cls := .type "list", data := .seq (strValues l).toArray }, toks := tk } rfl
    cases h1 : (decide (x.length < y'.length) || decide (Builtin.Str.strKind x < Builtin.Str.strKind y'))
    · cases hf : (Builtin.Str.occurrences x y' 0 x.length (x.length + 1)).isEmpty
      · have es : Txt.split x y' = Builtin.Str.partsBetween x (Builtin.Str.occurrences x y' 0 x.length (x.length + 1)) y'.length := (if_neg (ne_true_of_eq_false h1)).trans (if_neg (ne_true_of_eq_false hf))
        have hn : (Builtin.Str.partsBetween x (Builtin.Str.occurrences x y' 0 x.length (x.length + 1)) y'.length).length ≤ sizeLine := by
          rw [← es, sizeLine_eq]
          have := split_le x y'
          (first | lia | omega)
        refine call_meets PySem.F.slot_str_split (typeIs_str _ _ _) PySem.F.entry_str_split (PySem.F.args_str_split_2 _ _) (meets_str_split_sep x y' t u h1 hy' hf hsz hn) ?_
        rw [strsFrom_eq]
        exact fin (numbered s.toks _) _ ((numbered_texts _ _).trans es.symm)
      · exact call_meets PySem.F.slot_str_split (typeIs_str _ _ _) PySem.F.entry_str_split (PySem.F.args_str_split_2 _ _) (meets_str_split_not_found x y' t u h1 hy' hf)
          (fin [(x, t)] s.toks ((if_neg (ne_true_of_eq_false h1)).trans (if_pos hf)).symm)
    · exact call_meets PySem.F.slot_str_split (typeIs_str _ _ _) PySem.F.entry_str_split (PySem.F.args_str_split_2 _ _) (meets_str_split_cannot_occur x y' t u h1)
        (fin [(x, t)] s.toks (if_pos h1).symm)
  · exact q.elim
noncomputable def strsV : List V → Option (List Str)
  | [] => some []
  | .str x :: r => (strsV r).map (x :: ·)
  | _ => none
theorem strsV_map (ts : List Str) : strsV (ts.map .str) = some ts := by
  induction ts with
  | nil => rfl
  | cons x ts ih => simp [strsV, ih]
theorem strsV_of {φ h} : ∀ {xs : List V} {ts : List Str} {ys : List Value}, strsV xs = some ts → RepVs c φ h xs ys → ∃ l : List (Str × Tok), ys = strValues l ∧ l.map (·.1) = ts
  | [], _, _, e, .nil => by simp only [strsV] at e; cases e; exact ⟨[], rfl, rfl⟩
  | .str x :: r, ts, _, e, .cons r1 r2 => by
    simp only [strsV] at e
    obtain ⟨ts', h1, rfl⟩ := Option.map_eq_some_iff.mp e
    obtain ⟨l, rfl, rfl⟩ := strsV_of h1 r2
    cases r1
    rename_i t
    exact ⟨(x, t) :: l, rfl, rfl⟩
noncomputable def mJoin : WB := fun v w H Q => match v, w with
  | .str x, .loc k => (match (lstAt H k).bind strsV with | some ts => JoinOk x ts = true ∧ Q (.str (Txt.join x ts)) H | none => False)
  | _, _ => False
theorem join_ok : StrMOK c d "str.join" mJoin := by
  intro A E s φ H x t w y Q ao ok rw' q
  unfold mJoin at q
  split at q
  · rename_i x' k e
    cases e
    split at q
    · rename_i ts e2
      obtain ⟨xs, h1, h2⟩ := Option.bind_eq_some_iff.mp e2
      obtain ⟨a, ys, n, rfl, hk, il, r⟩ := loc_list ok rw' (lstAt_of h1)
      obtain ⟨l, rfl, hl⟩ := strsV_of h2 r
      exact SC.join ⟨_, il, rfl, _, rfl⟩ hl q.1 fun t' tk => .here (s' := { s with toks := tk }) q.2 ok .str (fun _ _ e => e) (Rest.mk s s.heap tk)
    · exact q.elim
  · exact q.elim
end
end Mine

namespace Mine
section
variable {c : Cx} {d : Nat} {sc : Scope} {ρ : List Str}
/-! ### from here on new numbers and texts have an identity -/
noncomputable def ExsT (c : Cx) (d : Nat) (sc : Scope) (ρ : List Str) (e : List Stmt) (W : WS) : Prop :=
  ∀ env A E s φ sl H Q, 1 ≤ s.toks → EnvOK sc env → AOK d A → Ok c φ H s.heap → Vars c ρ φ s.heap env sl → W sl H Q → wpAny (model c.prog c.w) A (execs e env) (PostS c ρ env φ s Q) E s
noncomputable def ExT (c : Cx) (d : Nat) (sc : Scope) (ρ : List Str) (e : Stmt) (W : WS) : Prop :=
  ∀ env A E s φ sl H Q, 1 ≤ s.toks → EnvOK sc env → AOK d A → Ok c φ H s.heap → Vars c ρ φ s.heap env sl → W sl H Q → wpAny (model c.prog c.w) A (exec e env) (PostS c ρ env φ s Q) E s
noncomputable def EvT (c : Cx) (d : Nat) (sc : Scope) (ρ : List Str) (e : Expr) (W : WE) : Prop :=
  ∀ env A E s φ sl H Q, 1 ≤ s.toks → EnvOK sc env → AOK d A → Ok c φ H s.heap → Vars c ρ φ s.heap env sl → W sl H Q → wpAny (model c.prog c.w) A (eval e env) (PostE c φ s Q) E s
theorem exsT_of {e W} (h : Exs c d sc ρ e W) : ExsT c d sc ρ e W := fun env A E s φ sl H Q _ => h env A E s φ sl H Q
theorem evT_of {e W} (h : Ev c d sc ρ e W) : EvT c d sc ρ e W := fun env A E s φ sl H Q _ => h env A E s φ sl H Q
theorem exsT_cons {e es a b} (he : ExT c d sc ρ e a) (hes : ExsT c d sc ρ es b) : ExsT c d sc ρ (e :: es) (wSeq a b) := by
  intro env A E s φ sl H Q ht eo ao ok vs w
  refine wpAny_execs_cons (wpAny_mono (wpAny_toks_of ht (he env A E s φ sl H _ ht eo ao ok vs w)) (fun f s₁ p₁ => ?_) fun _ _ e => e.2)
  obtain ⟨ht₁, F, sl₁, H₁, φ₁, w₁, ok₁, vs₁, rf, g₁, r₁⟩ := p₁
  cases F with
  | next =>
    cases f with
    | next => exact wpAny_mono (hes env A E s₁ φ₁ sl₁ H₁ Q ht₁ eo ao ok₁ vs₁ w₁) (fun f s₂ p₂ => p₂.shift g₁ r₁) fun _ _ e => e
    | _ => exact rf.elim
  | ret v =>
    cases f with
    | ret x => exact ⟨.ret v, sl₁, H₁, φ₁, w₁, ok₁, vs₁, rf, g₁, r₁⟩
    | _ => exact rf.elim
theorem exT_if {t body orelse pos w a b} (ht : Et c d sc ρ t w) (ha : ExsT c d sc ρ body a) (hb : ExsT c d sc ρ orelse b) : ExT c d sc ρ (.If t body orelse pos) (wIf w a b) := by
  intro env A E s φ sl H Q h1 eo ao ok vs q
  refine wpAny_If (wpAny_mono (wpAny_toks_of h1 (ht env A E s φ sl H _ eo ao ok vs q)) (fun y s₁ p₁ => ?_) fun _ _ e => e.2)
  obtain ⟨h2, H₁, φ₁, w₁, ok₁, g₁, r₁⟩ := p₁
  cases y with
  | true => simp only [if_true] at w₁ ⊢; exact wpAny_mono (ha env A E s₁ φ₁ sl H₁ Q h2 eo ao ok₁ (vs.grow g₁) w₁) (fun f s₂ p₂ => p₂.shift g₁.toS r₁) fun _ _ e => e
  | false => simp only [Bool.false_eq_true, if_false] at w₁ ⊢; exact wpAny_mono (hb env A E s₁ φ₁ sl H₁ Q h2 eo ao ok₁ (vs.grow g₁) w₁) (fun f s₂ p₂ => p₂.shift g₁.toS r₁) fun _ _ e => e
theorem exT_ret {e pos a} (he : EvT c d sc ρ e a) : ExT c d sc ρ (.Return (some e) pos) (wRet a) := by
  intro env A E s φ sl H Q h1 eo ao ok vs w
  refine wpAny_Return_some (wpAny_mono (he env A E s φ sl H _ h1 eo ao ok vs w) (fun y s₁ p₁ => ?_) fun _ _ e => e)
  obtain ⟨v, H₁, φ₁, w₁, ok₁, rv, g₁, r₁⟩ := p₁
  exact ⟨.ret v, sl, H₁, φ₁, w₁, ok₁, vs.grow g₁, rv, g₁.toS, r₁⟩
/-- a written text with an identity -/
noncomputable def wKT (x : Str) : WE := fun _ H Q => ∀ t, t ≠ 0 → Q (.tok (.str x t)) H
theorem evT_str {x k pos} : EvT c d sc ρ (.Constant (.str x) k pos) (wKT x) := fun _ _ _ s _ _ _ _ ht _ _ ok _ w =>
  wpAny_mkText (.here (w s.toks (Nat.one_le_iff_ne_zero.mp ht)) ok (.tok (bne_iff_ne.mpr (Nat.one_le_iff_ne_zero.mp ht))) (fun _ _ e => e) (Rest.mk s s.heap _))
/-- a tuple whose first place has an identity -/
theorem evT_tup {e es k pos a b} (he : EvT c d sc ρ e a) (hes : Evs c d sc ρ es b) (hs : ∀ env, starEach (e :: es) env = (false, eval e env) :: starEach es env) : EvT c d sc ρ (.Tuple (e :: es) k pos) (wTup (wCons a b)) := by
  intro env A E s φ sl H Q ht eo ao ok vs w
  refine Tuple_ ?_
  rw [hs]
  show wpAny _ _ (spliced ((false, eval e env) :: backTo pos (starEach es env))) _ _ _
  refine Calls.spliced_cons (wpAny_mono (he env A E s φ sl H _ ht eo ao ok vs w) (fun x s₁ p₁ => ?_) fun _ _ e => e)
  obtain ⟨v, H₁, φ₁, w₁, ok₁, rv, g₁, r₁⟩ := p₁
  refine wpAny_mono (hes.2 env A E s₁ φ₁ sl H₁ _ eo ao ok₁ (vs.grow g₁) w₁ pos) (fun y s₂ p₂ => ?_) fun _ _ e => e
  obtain ⟨u, H₂, φ₂, w₂, ok₂, ru, g₂, r₂⟩ := p₂
  exact wpAny_newObj_type ((new_tup ok₂ (.cons (rv.grow g₂) ru) w₂.2 _ rfl).shift (g₁.trans g₂) (r₁.trans r₂)) (by show (x :: y).toArray.size ≤ sizeLine; rw [List.size_toArray, List.length_cons, ← ru.length, sizeLine_eq]; have := w₂.1; simp only [List.length_cons] at this; (first | lia | omega))
/-- «x = .. % k»: a number with an identity -/
noncomputable def wSetTok (i : Nat) (k : Int) (a : WE) (W : WS) : WS := fun sl H Q => a sl H fun v H₁ => match v with | .int n => ∀ t, t ≠ 0 → W (sl.set i (some (.tok (.int (n.fmod k) t)))) H₁ Q | _ => False
theorem exs_setTok {i x xp l k ck cp bp pos rest a W} (hl : Ev c d sc ρ l a) (hr : ExsT c d sc ρ rest W) (hi : ρ[i]? = some x) (hx : sc.names.lookup x = some .local ∨ sc.names.lookup x = some .cell) (hk : sc.kind = .function) (h0 : k ≠ 0)
    (hs : ∀ env, swapsWith (.BinOp l .Mod (.Constant (.int k) ck cp) bp) (some (.Name x xp)) pos.line env = pure false) : Exs c d sc ρ (.Assign [.Name x xp] (.BinOp l .Mod (.Constant (.int k) ck cp) bp) pos :: rest) (wSetTok i k a W) := by
  intro env A E s φ sl H Q eo ao ok vs w
  refine wpAny_execs_cons (wpAny_Assign_Name (wpAny_BinOp (wpAny_mono (hl env A E s φ sl H _ eo ao ok vs w) (fun y s₁ p₁ => ?_) fun _ _ e => e)) (hs env))
  obtain ⟨v, H₁, φ₁, w₁, ok₁, rv, g₁, r₁⟩ := p₁
  split at w₁
  · rename_i n
    cases rv
    refine wpAny_Constant_int (mod_int' (s := { s₁ with toks := s₁.toks + 1 }) h0 ?_)
    have rt : RepV c φ₁ s₁.heap (.tok (.int (n.fmod k) (s₁.toks + 1))) (.int (n.fmod k) (s₁.toks + 1)) := .tok (by simp [okTok])
    refine wpAny_mono (wpAny_toks_of (n := 1) (s := { s₁ with toks := s₁.toks + 1 + 1 }) (by show 1 ≤ s₁.toks + 1 + 1; (first | lia | omega)) (store_ok (s := { s₁ with toks := s₁.toks + 1 + 1 }) (R := fun _ s₂ => Ok c φ₁ H₁ s₂.heap ∧ Vars c ρ φ₁ s₂.heap env (sl.set i (some (.tok (.int (n.fmod k) (s₁.toks + 1))))) ∧ GrowS env φ₁ s₁.heap φ₁ s₂.heap ∧ Rest { s₁ with toks := s₁.toks + 1 + 1 } s₂) (E := E) hi hx hk eo ok₁ (vs.grow g₁) rt fun s₂ ok₂ vs₂ g₂ r₂ => ⟨ok₂, vs₂, g₂, r₂⟩)) (fun _ s₂ p₂ => ?_) fun _ _ e => e.2
    obtain ⟨h2, ok₂, vs₂, g₂, r₂⟩ := p₂
    refine wpAny_mono (hr env A _ s₂ φ₁ _ H₁ Q h2 eo ao ok₂ vs₂ (w₁ (s₁.toks + 1) (Nat.succ_ne_zero _))) (fun f s₃ p₃ => ?_) fun _ _ e => e
    exact p₃.shift (g₁.toS.trans g₂) ((r₁.trans (Rest.mk s₁ s₁.heap (s₁.toks + 1 + 1))).trans r₂)
  · exact w₁.elim
/-- an object of TypeInfo, tracked: .inst 0 [name, namespace] -/
noncomputable def mkTL : WF := fun args H Q => match args with | [a, b] => Q (.loc H.length) (H ++ [.inst 0 [some b, some a]]) | _ => False
end
end Mine

namespace Mine
open PySem.StrLaws PySem.Builtin.Str
/-! ### the parts between the occurrences of a text, as rows of signs -/
inductive Parts (pat : List Nat) : List Nat → List (List Nat) → Prop
  | last {L} : (∀ a b, L ≠ a ++ pat ++ b) → Parts pat L [L]
  | cons {w R ps} : (∀ a b, w ++ pat ++ R = a ++ pat ++ b → w.length ≤ a.length) → Parts pat R ps → Parts pat (w ++ pat ++ R) (w :: ps)
theorem Parts.det {pat : List Nat} : ∀ {L ps qs}, Parts pat L ps → Parts pat L qs → ps = qs := by
  intro L ps qs h
  induction h generalizing qs with
  | @last L h =>
    intro h'
    generalize e : L = L' at h'
    cases h' with
    | last => rfl
    | cons h2 h3 => exact absurd e (h _ _)
  | @cons w R ps h1 h2 ih =>
    intro h'
    generalize e : w ++ pat ++ R = L' at h'
    cases h' with
    | last h => exact absurd e.symm (h _ _)
    | @cons w' R' ps' h3 h4 =>
      have l1 := h1 w' R' e
      have l2 := h3 w R e.symm
      have e' := e
      rw [List.append_assoc, List.append_assoc] at e'
      obtain ⟨rfl, e2⟩ := List.append_inj e' (Nat.le_antisymm l1 l2)
      have := List.append_cancel_left e2
      subst this
      rw [ih h4]
theorem at_iff {x y : Str} {i : Nat} : PySem.StrLaws.At x y x.length i ↔ ∃ a b, x.cps.toList = a ++ y.cps.toList ++ b ∧ a.length = i := by
  have hx : x.cps.toList.length = x.length := by simp [Str.length]
  have hy : y.cps.toList.length = y.length := by simp [Str.length]
  unfold PySem.StrLaws.At
  rw [subAt_eq, beq_iff_eq]
  constructor
  · rintro ⟨h1, h2⟩
    refine ⟨x.cps.toList.take i, x.cps.toList.drop (i + y.length), ?_, by rw [List.length_take]; (first | lia | omega)⟩
    rw [← h2, List.append_assoc, ← List.drop_drop, List.take_append_drop, List.take_append_drop]
  · rintro ⟨a, b, e, rfl⟩
    have := congrArg List.length e
    rw [hx] at this
    simp only [List.length_append, hy] at this
    refine ⟨by (first | lia | omega), ?_⟩
    rw [e, List.append_assoc, List.drop_left, ← hy, List.take_left]
theorem chain_parts {x y : Str} (hy : 1 ≤ y.length) : ∀ (cuts : List Nat) (a f : Nat), a ≤ x.length → ChainG x y x.length a cuts f → (∀ k, f ≤ k → ¬ PySem.StrLaws.At x y x.length k) →
    Parts y.cps.toList (x.cps.toList.drop a) ((partsFrom x y.length a cuts).map (·.cps.toList))
  | [], a, f, ha, h, hn => by
    have e : f = a := h
    subst e
    have hx : x.cps.toList.length = x.length := by simp [Str.length]
    have e1 : (strSub x f x.length).cps.toList = x.cps.toList.drop f := by
      rw [strSub_toList]; exact List.take_of_length_le (by rw [List.length_drop]; (first | lia | omega))
    show Parts _ _ [(strSub x f x.length).cps.toList]
    rw [e1]
    refine .last fun u v e => ?_
    refine hn (f + u.length) (Nat.le_add_right _ _) (at_iff.mpr ⟨x.cps.toList.take f ++ u, v, ?_, by rw [List.length_append, List.length_take]; (first | lia | omega)⟩)
    rw [List.append_assoc (x.cps.toList.take f), List.append_assoc (x.cps.toList.take f), ← e, List.take_append_drop]
  | c :: r, a, f, ha, h, hn => by
    obtain ⟨h1, h2, h3, h4⟩ := h
    have hx : x.cps.toList.length = x.length := by simp [Str.length]
    have hy' : y.cps.toList.length = y.length := by simp [Str.length]
    have hc := h2.1
    have ih := chain_parts hy r (c + y.length) f hc h4 hn
    have e0 : (strSub x a c).cps.toList = (x.cps.toList.drop a).take (c - a) := strSub_toList _ _ _
    have e1 : x.cps.toList.drop a = (strSub x a c).cps.toList ++ y.cps.toList ++ x.cps.toList.drop (c + y.length) := by
      have e2 := h2.2
      rw [subAt_eq, beq_iff_eq] at e2
      rw [e0, ← e2, List.append_assoc, ← List.drop_drop, List.take_append_drop]
      have : x.cps.toList.drop c = (x.cps.toList.drop a).drop (c - a) := by rw [List.drop_drop]; congr 1; (first | lia | omega)
      rw [this, List.take_append_drop]
    show Parts _ _ ((strSub x a c).cps.toList :: (partsFrom x y.length (c + y.length) r).map (·.cps.toList))
    have hl : (strSub x a c).cps.toList.length = c - a := by rw [e0, List.length_take, List.length_drop]; (first | lia | omega)
    suffices hh : ∀ u v, (strSub x a c).cps.toList ++ y.cps.toList ++ x.cps.toList.drop (c + y.length) = u ++ y.cps.toList ++ v → (strSub x a c).cps.toList.length ≤ u.length by
      rw [e1]; exact .cons hh ih
    intro u v e
    rw [hl]
    rw [← e1] at e
    have hA : PySem.StrLaws.At x y x.length (a + u.length) := at_iff.mpr ⟨x.cps.toList.take a ++ u, v, by rw [List.append_assoc (x.cps.toList.take a), List.append_assoc (x.cps.toList.take a), ← e, List.take_append_drop], by rw [List.length_append, List.length_take]; (first | lia | omega)⟩
    have := Classical.byContradiction fun hlt : ¬ (c ≤ a + u.length) => h3 (a + u.length) (Nat.le_add_right _ _) (Nat.not_le.mp hlt) hA
    (first | lia | omega)
theorem sk_pos (x : Str) : 1 ≤ Builtin.Str.strKind x := by unfold Builtin.Str.strKind; repeat (first | (first | lia | omega) | split)
theorem split_parts {x y : Str} (hy : 1 ≤ y.length) (hk : Builtin.Str.strKind y = 1) : Parts y.cps.toList x.cps.toList ((Txt.split x y).map (·.cps.toList)) := by
  have hx : x.cps.toList.length = x.length := by simp [Str.length]
  have hy' : y.cps.toList.length = y.length := by simp [Str.length]
  obtain ⟨f, hG, hn⟩ := occ_tight x y hy
  unfold Txt.split
  split
  · rename_i hc
    rw [Bool.or_eq_true, decide_eq_true_eq, decide_eq_true_eq] at hc
    refine .last fun u v e => ?_
    have := congrArg List.length e
    simp only [List.length_append] at this
    rcases hc with h | h
    · (first | lia | omega)
    · have := sk_pos x; (first | lia | omega)
  · split
    · rename_i he
      have e0 : occurrences x y 0 x.length (x.length + 1) = [] := List.isEmpty_iff.mp he
      rw [e0] at hG
      have ef : f = 0 := hG
      subst ef
      refine .last fun u v e => ?_
      exact hn u.length (Nat.zero_le _) (at_iff.mpr ⟨u, v, e, rfl⟩)
    · rw [partsBetween_eq]
      have := chain_parts hy _ 0 f (Nat.zero_le _) hG hn
      rw [List.drop_zero] at this
      exact this
/-! ### parts of texts laid side by side -/
theorem Parts.pre {pat w k p : List Nat} {ps : List (List Nat)} (hc : ∀ a b, w = a ++ b → b ≠ [] → ¬ pat <+: (b ++ k)) (h : Parts pat k (p :: ps)) : Parts pat (w ++ k) ((w ++ p) :: ps) := by
  have key : ∀ {a b}, w ++ k = a ++ pat ++ b → w.length ≤ a.length := fun {a b} e => by
    refine Classical.byContradiction fun hlt => ?_
    have hlt : a.length < w.length := Nat.not_le.mp hlt
    refine hc (w.take a.length) (w.drop a.length) (List.take_append_drop _ _).symm (by intro q; have := congrArg List.length q; rw [List.length_drop] at this; simp at this; (first | lia | omega)) ⟨b, ?_⟩
    have e2 := congrArg (List.drop a.length) e
    rw [List.append_assoc, List.drop_left, List.drop_append_of_le_length (Nat.le_of_lt hlt)] at e2
    exact e2.symm
  cases h with
  | last h =>
    refine .last fun a b e => ?_
    have hl := key e
    have e' := e
    obtain ⟨t, rfl⟩ : ∃ t, a = w ++ t := by
      have := congrArg (List.take w.length) e
      rw [List.take_left, List.append_assoc, List.take_append_of_le_length hl] at this
      exact ⟨a.drop w.length, by (have t := List.take_append_drop w.length a; rw [← this] at t; exact t.symm)⟩
    rw [List.append_assoc w, List.append_assoc w] at e'
    exact h t b (List.append_cancel_left e')
  | @cons _ R _ h1 h2 =>
    rw [← List.append_assoc, ← List.append_assoc]
    refine .cons (fun a b e => ?_) h2
    rw [List.append_assoc w, List.append_assoc w] at e
    have hl := key e
    obtain ⟨t, rfl⟩ : ∃ t, a = w ++ t := by
      have := congrArg (List.take w.length) e
      rw [List.take_left, List.append_assoc, List.take_append_of_le_length hl] at this
      exact ⟨a.drop w.length, by (have t := List.take_append_drop w.length a; rw [← this] at t; exact t.symm)⟩
    rw [List.append_assoc w t, List.append_assoc w] at e
    have := h1 t b (List.append_cancel_left e)
    rw [List.length_append, List.length_append]
    (first | lia | omega)
theorem Parts.pat {pat k : List Nat} {ps : List (List Nat)} (h : Parts pat k ps) : Parts pat (pat ++ k) ([] :: ps) := Parts.cons (w := []) (fun _ _ _ => Nat.zero_le _) h
/-- no sign of the row begins the text -/
theorem pre_of {pat w k : List Nat} {z : Nat} {t : List Nat} (hp : pat = z :: t) (hz : z ∉ w) : ∀ a b, w = a ++ b → b ≠ [] → ¬ pat <+: (b ++ k) := by
  rintro a b rfl hb ⟨u, e⟩
  cases b with
  | nil => exact hb rfl
  | cons c b =>
    rw [hp] at e
    simp only [List.cons_append] at e
    have := (List.cons.inj e).1
    subst this
    exact hz (by simp)
end Mine

namespace Mine
noncomputable def glue (new : List Nat) : List (List Nat) → List Nat
  | [] => []
  | [p] => p
  | p :: q :: r => p ++ new ++ glue new (q :: r)
theorem glue_pre {new x p : List Nat} {ps : List (List Nat)} : glue new ((x ++ p) :: ps) = x ++ glue new (p :: ps) := by
  cases ps with
  | nil => rfl
  | cons q r => simp [glue]
theorem join_glue (sep : Str) : ∀ ts : List Str, (Txt.join sep ts).cps.toList = glue sep.cps.toList (ts.map (·.cps.toList)) := by
  intro ts
  show (Builtin.Str.glued sep ts).cps.toList = _
  rw [StrLaws.glued_eq_join]
  induction ts with
  | nil => rfl
  | cons x r ih =>
    cases r with
    | nil => rfl
    | cons y r =>
      show (x ++ sep ++ Str.join sep (y :: r)).cps.toList = _
      simp only [List.map_cons, glue] at ih ⊢
      rw [← ih]
      simp [Str.cps_append]
theorem Parts.sum {pat : List Nat} {L : List Nat} {ps : List (List Nat)} (h : Parts pat L ps) : (ps.map List.length).sum ≤ L.length := by
  induction h with
  | last _ => simp
  | cons _ _ ih => simp only [List.map_cons, List.sum_cons, List.length_append]; (first | lia | omega)
/-! ### a piece ahead of what is parted -/
noncomputable def PS (pat new x x' : List Nat) : Prop := ∀ k p ps, k.head? ≠ some 40 → Parts pat k (p :: ps) → ∃ q qs, Parts pat (x ++ k) (q :: qs) ∧ glue new (q :: qs) = x' ++ glue new (p :: ps)
theorem ps_keep {pat new x : List Nat} {z : Nat} {t : List Nat} (hp : pat = z :: t) (hz : z ∉ x) : PS pat new x x := fun k p ps _ h => ⟨_, _, h.pre (pre_of hp hz), glue_pre⟩
theorem ps_pat {pat new : List Nat} : PS pat new pat new := fun k p ps _ h => ⟨_, _, h.pat, by simp [glue]⟩
theorem ps_made {new : List Nat} : PS [32, 40, 102, 114, 111, 109, 32] new [109, 97, 100, 101, 32] [109, 97, 100, 101, 32] := by
  intro k p ps hk h
  refine ⟨_, _, h.pre ?_, glue_pre⟩
  intro a b e hb hpre
  obtain ⟨u, hu⟩ := hpre
  have : b.length ≤ 5 := by have := congrArg List.length e; simp at this; (first | lia | omega)
  match a, e with
  | [], e => simp at e; subst e; simp at hu
  | [_], e => simp at e; obtain ⟨_, rfl⟩ := e; simp at hu
  | [_, _], e => simp at e; obtain ⟨_, _, rfl⟩ := e; simp at hu
  | [_, _, _], e => simp at e; obtain ⟨_, _, _, rfl⟩ := e; simp at hu
  | [_, _, _, _], e =>
    simp at e
    obtain ⟨_, _, _, _, rfl⟩ := e
    simp at hu
    rw [← hu] at hk
    simp at hk
  | _ :: _ :: _ :: _ :: _ :: a, e => simp at e; obtain ⟨_, _, _, _, _, e⟩ := e; exact hb e.2
/-! ### trees -/
inductive T where
  | leaf (w : List Nat) (b : Bool)
  | node (nm ns : T)
noncomputable def T.tr : T → Bool
  | .leaf _ b => b
  | .node _ _ => true
noncomputable def T.flat (A B C D : List Nat) : T → List Nat
  | .leaf w _ => w
  | .node nm ns => A ++ (nm.flat A B C D ++ (if ns.tr then B ++ (ns.flat A B C D ++ C) else D))
noncomputable def T.row : T → List (List Nat)
  | .leaf w _ => [w]
  | .node nm ns => [109, 97, 100, 101] :: (nm.row ++ (if ns.tr then [102, 114, 111, 109] :: (ns.row ++ [[116, 119, 111]]) else [[111, 110, 101]]))
noncomputable def okW (w : List Nat) : Prop := w ≠ [] ∧ (∀ c ∈ w, c ≠ 60 ∧ c ≠ 62 ∧ c ≠ 40 ∧ c ≠ 41 ∧ c ≠ 32) ∧ w.length ≤ 5 ∧ ∀ c ∈ w, c < 128
inductive T.Ok : T → Prop
  | leaf {w b} : okW w → T.Ok (.leaf w b)
  | node {nm ns} : T.Ok nm → T.Ok ns → T.Ok (.node nm ns)
/-- a piece that begins well -/
noncomputable def hd (x : List Nat) : Prop := ∃ c r, x = c :: r ∧ c ≠ 40
theorem hd_app {x k : List Nat} (h : hd x) : (x ++ k).head? ≠ some 40 := by
  obtain ⟨c, r, rfl, hc⟩ := h
  simpa using hc
theorem hd_pre {x k : List Nat} (h : hd x) : hd (x ++ k) := by
  obtain ⟨c, r, rfl, hc⟩ := h
  exact ⟨c, r ++ k, rfl, hc⟩
theorem T.Ok.hd {A B C D : List Nat} (hA : Mine.hd A) : ∀ {t : T}, t.Ok → Mine.hd (t.flat A B C D)
  | .leaf w b, .leaf h => by
    cases w with
    | nil => exact absurd rfl h.1
    | cons c r => exact ⟨c, r, rfl, (h.2.1 c List.mem_cons_self).2.2.1⟩
  | .node nm ns, .node _ _ => hd_pre hA
theorem PS.app {pat new x x' y y' : List Nat} (hx : PS pat new x x') (hy : PS pat new y y') (hh : hd y) : PS pat new (x ++ y) (x' ++ y') := by
  intro k p ps hk h
  obtain ⟨q, qs, h1, h2⟩ := hy k p ps hk h
  obtain ⟨r, rs, h3, h4⟩ := hx (y ++ k) q qs (hd_app hh) h1
  exact ⟨r, rs, by rw [List.append_assoc]; exact h3, by rw [h4, h2, List.append_assoc]⟩
theorem flat_ps {pat new A B C D A' B' C' D' : List Nat} (hA : PS pat new A A') (hB : PS pat new B B') (hC : PS pat new C C') (hD : PS pat new D D') (iA : hd A) (iB : hd B) (iC : hd C) (iD : hd D) (hw : ∀ w, okW w → PS pat new w w) :
    ∀ {t : T}, t.Ok → PS pat new (t.flat A B C D) (t.flat A' B' C' D')
  | .leaf w b, .leaf h => hw w h
  | .node nm ns, .node h1 h2 => by
    have p1 := flat_ps hA hB hC hD iA iB iC iD hw h1
    have p2 := flat_ps hA hB hC hD iA iB iC iD hw h2
    show PS pat new (A ++ (nm.flat A B C D ++ (if ns.tr then B ++ (ns.flat A B C D ++ C) else D))) (A' ++ (nm.flat A' B' C' D' ++ (if ns.tr then B' ++ (ns.flat A' B' C' D' ++ C') else D')))
    cases ns.tr with
    | true =>
      simp only [if_true]
      exact hA.app (p1.app (hB.app (p2.app hC iC) (hd_pre (h2.hd iA))) (hd_pre iB)) (hd_pre (h1.hd iA))
    | false =>
      simp only [Bool.false_eq_true, if_false]
      exact hA.app (p1.app hD iD) (hd_pre (h1.hd iA))
theorem parts_nil {pat : List Nat} (h : pat ≠ []) : Parts pat [] [[]] := .last fun a b e => by
  have := congrArg List.length e
  simp at this
  exact h (List.length_eq_zero_iff.mp (by (first | lia | omega)))
theorem PS.done {pat new x x' : List Nat} (h : PS pat new x x') (hp : pat ≠ []) : ∃ ps, Parts pat x ps ∧ glue new ps = x' := by
  obtain ⟨q, qs, h1, h2⟩ := h [] [] [] (by simp) (parts_nil hp)
  exact ⟨_, by rw [List.append_nil] at h1; exact h1, by rw [h2]; simp [glue]⟩
/-! ### the words -/
theorem row_parts : ∀ {t : T}, t.Ok → ∀ {k ps}, Parts [32] k ([] :: ps) → Parts [32] (t.flat [109, 97, 100, 101, 32] [32, 102, 114, 111, 109, 32] [32, 116, 119, 111] [32, 111, 110, 101] ++ k) (t.row ++ ps)
  | .leaf w b, .leaf h, k, ps, hk => by
    have := hk.pre (w := w) (pre_of rfl fun q => (h.2.1 32 q).2.2.2.2 rfl)
    rw [List.append_nil] at this
    exact this
  | .node nm ns, .node h1 h2, k, ps, hk => by
    show Parts [32] ([109, 97, 100, 101, 32] ++ (nm.flat _ _ _ _ ++ (if ns.tr then [32, 102, 114, 111, 109, 32] ++ (ns.flat _ _ _ _ ++ [32, 116, 119, 111]) else [32, 111, 110, 101])) ++ k) ([109, 97, 100, 101] :: (nm.row ++ (if ns.tr then [102, 114, 111, 109] :: (ns.row ++ [[116, 119, 111]]) else [[111, 110, 101]])) ++ ps)
    have word : ∀ {w : List Nat} {k ps}, 32 ∉ w → Parts [32] k ([] :: ps) → Parts [32] ([32] ++ (w ++ k)) ([] :: w :: ps) := fun {w k ps} hw hk => by
      have := (hk.pre (w := w) (pre_of rfl hw)).pat
      rw [List.append_nil] at this
      exact this
    have made : ∀ {X r}, Parts [32] X r → Parts [32] ([109, 97, 100, 101, 32] ++ X) ([109, 97, 100, 101] :: r) := fun {X r} hX => by
      have := hX.pat.pre (w := [109, 97, 100, 101]) (pre_of rfl (by decide))
      exact this
    cases ns.tr with
    | true =>
      simp only [if_true]
      have a1 := row_parts h2 (word (w := [116, 119, 111]) (by decide) hk)
      have a2 := a1.pat.pre (w := [102, 114, 111, 109]) (pre_of rfl (by decide))
      rw [List.append_nil] at a2
      have a3 := made (row_parts h1 a2.pat)
      simpa using a3
    | false =>
      simp only [Bool.false_eq_true, if_false]
      have a3 := made (row_parts h1 (word (w := [111, 110, 101]) (by decide) hk))
      simpa using a3
/-! ### what the law reads -/
theorem repl {x y new : Str} {x' : List Nat} (hy : 1 ≤ y.length) (hk : Builtin.Str.strKind y = 1) (h : PS y.cps.toList new.cps.toList x.cps.toList x') : (Txt.join new (Txt.split x y)).cps.toList = x' := by
  obtain ⟨ps, h1, h2⟩ := h.done (by intro q; have := congrArg List.length q; simp only [Array.length_toList, List.length_nil] at this; simp only [Str.length] at hy; (first | lia | omega))
  rw [join_glue, (split_parts hy hk).det h1, h2]
theorem repl_ok {x y new : Str} (hy : 1 ≤ y.length) (hk : Builtin.Str.strKind y = 1) (hx : x.length ≤ 100000) (hn : new.length ≤ 10) : JoinOk new (Txt.split x y) = true := by
  refine joinOk_of ?_
  have h1 := (split_parts (x := x) hy hk).sum
  have h2 := split_le x y
  have h3 : ((Txt.split x y).map (·.length)).sum ≤ x.length := by
    rw [List.map_map] at h1
    have : (List.map (List.length ∘ fun x => x.cps.toList) (Txt.split x y)) = (Txt.split x y).map (·.length) := by
      apply List.map_congr_left; intro a _; simp [Str.length]
    rw [this] at h1
    simpa [Str.length] using h1
  have h4 : (Txt.split x y).length * new.length ≤ (x.length + 2) * 10 := Nat.mul_le_mul h2 hn
  (first | lia | omega)
noncomputable def T.sz : T → Nat
  | .leaf _ _ => 1
  | .node a b => 1 + a.sz + b.sz
theorem T.Ok.len {A B C D : List Nat} (hA : A.length ≤ 10) (hB : B.length ≤ 10) (hC : C.length ≤ 10) (hD : D.length ≤ 10) : ∀ {t : T}, t.Ok → (t.flat A B C D).length ≤ 30 * t.sz
  | .leaf w b, .leaf h => by have := h.2.2.1; simp only [T.flat, T.sz]; (first | lia | omega)
  | .node nm ns, .node h1 h2 => by
    have p1 := len hA hB hC hD h1
    have p2 := len hA hB hC hD h2
    simp only [T.flat, T.sz]
    split <;> simp only [List.length_append] <;> (first | lia | omega)
noncomputable def t0 (t : T) : Str := ⟨(t.flat [60, 84, 121, 112, 101, 73, 110, 102, 111, 32] [32, 40, 102, 114, 111, 109, 32] [41, 62] [62]).toArray⟩
theorem word_ps {pat new : List Nat} {z : Nat} {t : List Nat} (hp : pat = z :: t) (hz : z = 60 ∨ z = 62 ∨ z = 40 ∨ z = 41 ∨ z = 32) : ∀ w, okW w → PS pat new w w := fun w h => ps_keep hp fun q => by
  have := h.2.1 z q
  (first | lia | omega)
theorem len_of {x : Str} {l : List Nat} (h : x.cps.toList = l) : x.length = l.length := by rw [← h]; simp [Str.length]
theorem read_ok {t : T} (h : t.Ok) (hs : t.sz ≤ 1000) : ∃ x1 x2 x3 x4 : Str,
    (JoinOk (Str.ofString "made ") (Txt.split (t0 t) (Str.ofString "<TypeInfo ")) = true ∧ x1 = Txt.join (Str.ofString "made ") (Txt.split (t0 t) (Str.ofString "<TypeInfo ")) ∧ x1.length ≤ 100000) ∧
    (JoinOk (Str.ofString " from ") (Txt.split x1 (Str.ofString " (from ")) = true ∧ x2 = Txt.join (Str.ofString " from ") (Txt.split x1 (Str.ofString " (from ")) ∧ x2.length ≤ 100000) ∧
    (JoinOk (Str.ofString " two") (Txt.split x2 (Str.ofString ")>")) = true ∧ x3 = Txt.join (Str.ofString " two") (Txt.split x2 (Str.ofString ")>")) ∧ x3.length ≤ 100000) ∧
    (JoinOk (Str.ofString " one") (Txt.split x3 (Str.ofString ">")) = true ∧ x4 = Txt.join (Str.ofString " one") (Txt.split x3 (Str.ofString ">")) ∧ x4.length ≤ 100000) ∧
    (Txt.split x4 (Str.ofString " ")).map (·.cps.toList) = t.row := by
  have c1 : (Str.ofString "<TypeInfo ").cps.toList = [60, 84, 121, 112, 101, 73, 110, 102, 111, 32] := by decide +kernel
  have c2 : (Str.ofString " (from ").cps.toList = [32, 40, 102, 114, 111, 109, 32] := by decide +kernel
  have c3 : (Str.ofString ")>").cps.toList = [41, 62] := by decide +kernel
  have c4 : (Str.ofString ">").cps.toList = [62] := by decide +kernel
  have c5 : (Str.ofString " ").cps.toList = [32] := by decide +kernel
  have n1 : (Str.ofString "made ").cps.toList = [109, 97, 100, 101, 32] := by decide +kernel
  have n2 : (Str.ofString " from ").cps.toList = [32, 102, 114, 111, 109, 32] := by decide +kernel
  have n3 : (Str.ofString " two").cps.toList = [32, 116, 119, 111] := by decide +kernel
  have n4 : (Str.ofString " one").cps.toList = [32, 111, 110, 101] := by decide +kernel
  have l0 : (t0 t).cps.toList = t.flat [60, 84, 121, 112, 101, 73, 110, 102, 111, 32] [32, 40, 102, 114, 111, 109, 32] [41, 62] [62] := rfl
  have e1 := repl (x := t0 t) (y := Str.ofString "<TypeInfo ") (new := Str.ofString "made ") (by decide +kernel) (by decide +kernel) (by
    rw [c1, n1, l0]
    exact flat_ps ps_pat (ps_keep rfl (by decide)) (ps_keep rfl (by decide)) (ps_keep rfl (by decide)) ⟨_, _, rfl, by decide⟩ ⟨_, _, rfl, by decide⟩ ⟨_, _, rfl, by decide⟩ ⟨_, _, rfl, by decide⟩ (word_ps rfl (by decide)) h)
  have e2 := repl (x := Txt.join (Str.ofString "made ") (Txt.split (t0 t) (Str.ofString "<TypeInfo "))) (y := Str.ofString " (from ") (new := Str.ofString " from ") (by decide +kernel) (by decide +kernel) (by
    rw [c2, n2, e1]
    exact flat_ps ps_made ps_pat (ps_keep rfl (by decide)) (ps_keep rfl (by decide)) ⟨_, _, rfl, by decide⟩ ⟨_, _, rfl, by decide⟩ ⟨_, _, rfl, by decide⟩ ⟨_, _, rfl, by decide⟩ (word_ps rfl (by decide)) h)
  have k0 := len_of l0
  have k1 := len_of e1
  obtain ⟨x1, hx1⟩ : ∃ x1, Txt.join (Str.ofString "made ") (Txt.split (t0 t) (Str.ofString "<TypeInfo ")) = x1 := ⟨_, rfl⟩
  rw [hx1] at e1 e2 k1
  have k2 := len_of e2
  obtain ⟨x2, hx2⟩ : ∃ x2, Txt.join (Str.ofString " from ") (Txt.split x1 (Str.ofString " (from ")) = x2 := ⟨_, rfl⟩
  rw [hx2] at e2 k2
  have e3 := repl (x := x2) (y := Str.ofString ")>") (new := Str.ofString " two") (by decide +kernel) (by decide +kernel) (by
    rw [c3, n3, e2]
    exact flat_ps (ps_keep rfl (by decide)) (ps_keep rfl (by decide)) ps_pat (ps_keep rfl (by decide)) ⟨_, _, rfl, by decide⟩ ⟨_, _, rfl, by decide⟩ ⟨_, _, rfl, by decide⟩ ⟨_, _, rfl, by decide⟩ (word_ps rfl (by decide)) h)
  have k3 := len_of e3
  obtain ⟨x3, hx3⟩ : ∃ x3, Txt.join (Str.ofString " two") (Txt.split x2 (Str.ofString ")>")) = x3 := ⟨_, rfl⟩
  rw [hx3] at e3 k3
  have e4 := repl (x := x3) (y := Str.ofString ">") (new := Str.ofString " one") (by decide +kernel) (by decide +kernel) (by
    rw [c4, n4, e3]
    exact flat_ps (ps_keep rfl (by decide)) (ps_keep rfl (by decide)) (ps_keep rfl (by decide)) ps_pat ⟨_, _, rfl, by decide⟩ ⟨_, _, rfl, by decide⟩ ⟨_, _, rfl, by decide⟩ ⟨_, _, rfl, by decide⟩ (word_ps rfl (by decide)) h)
  have k4 := len_of e4
  obtain ⟨x4, hx4⟩ : ∃ x4, Txt.join (Str.ofString " one") (Txt.split x3 (Str.ofString ">")) = x4 := ⟨_, rfl⟩
  rw [hx4] at e4 k4
  have b : ∀ {A B C D : List Nat}, A.length ≤ 10 → B.length ≤ 10 → C.length ≤ 10 → D.length ≤ 10 → (t.flat A B C D).length ≤ 100000 := fun a b c d => by have := T.Ok.len a b c d h; (first | lia | omega)
  have b0 : (t0 t).length ≤ 100000 := by rw [k0]; exact b (by decide) (by decide) (by decide) (by decide)
  have b1 : x1.length ≤ 100000 := by rw [k1]; exact b (by decide) (by decide) (by decide) (by decide)
  have b2 : x2.length ≤ 100000 := by rw [k2]; exact b (by decide) (by decide) (by decide) (by decide)
  have b3 : x3.length ≤ 100000 := by rw [k3]; exact b (by decide) (by decide) (by decide) (by decide)
  have b4 : x4.length ≤ 100000 := by rw [k4]; exact b (by decide) (by decide) (by decide) (by decide)
  refine ⟨x1, x2, x3, x4, ⟨repl_ok (by decide +kernel) (by decide +kernel) b0 (by decide +kernel), hx1.symm, b1⟩, ⟨repl_ok (by decide +kernel) (by decide +kernel) b1 (by decide +kernel), hx2.symm, b2⟩, ⟨repl_ok (by decide +kernel) (by decide +kernel) b2 (by decide +kernel), hx3.symm, b3⟩, ⟨repl_ok (by decide +kernel) (by decide +kernel) b3 (by decide +kernel), hx4.symm, b4⟩, ?_⟩
  have hp := split_parts (x := x4) (y := Str.ofString " ") (by decide +kernel) (by decide +kernel)
  rw [c5, e4] at hp
  have hq := row_parts h (k := []) (ps := []) (parts_nil (by decide))
  rw [List.append_nil, List.append_nil] at hq
  exact hp.det hq
end Mine

namespace Mine
/-! ### things -/
inductive Lf (H : HW) : V → Str → Bool → Prop
  | int {i : Int} {tk} : 0 ≤ i → i < 1000 → Lf H (.tok (.int i tk)) (toString i) (decide (0 < i))
  | none : Lf H .none "None" false
  | e {tk} : Lf H (.tok (.str (Str.ofString "") tk)) "''" false
  | n {tk} : Lf H (.tok (.str (Str.ofString "n") tk)) "'n'" true
  | nil {k} : 2 ≤ k → lstAt H k = some [] → Lf H (.loc k) "[]" false
  | one {k : Nat} {i : Int} {tk} : 2 ≤ k → lstAt H k = some [.tok (.int i tk)] → 0 ≤ i → i < 1000 → Lf H (.loc k) (listText [toString i]) true
inductive Is (H : HW) : V → T → Prop
  | leaf {v w b} : Lf H v w b → Is H v (.leaf w.cps.toList b)
  | node {k nm ns t1 t2} : 2 ≤ k → H[k]? = some (.inst 0 [some nm, some ns]) → Is H nm t1 → Is H ns t2 → Is H (.loc k) (.node t1 t2)
theorem Lf.keep {H H' : HW} (x : KeepB 2 H H') {v w b} (h : Lf H v w b) : Lf H' v w b := by
  cases h with
  | int a b => exact .int a b
  | none => exact .none
  | e => exact .e
  | n => exact .n
  | nil a b => exact .nil a (x.lst a b)
  | one a b c d => exact .one a (x.lst a b) c d
theorem Is.keep {H H' : HW} (x : KeepB 2 H H') : ∀ {v t}, Is H v t → Is H' v t
  | _, _, .leaf h => .leaf (h.keep x)
  | _, _, .node a b c d => .node a (x.at_ _ _ a b) (c.keep x) (d.keep x)
noncomputable def okWb (w : List Nat) : Bool := !w.isEmpty && w.all (fun c => c != 60 && c != 62 && c != 40 && c != 41 && c != 32 && decide (c < 128)) && decide (w.length ≤ 5)
theorem okW_of {w : List Nat} (h : okWb w = true) : okW w := by
  unfold okWb at h
  simp only [Bool.and_eq_true, List.all_eq_true, bne_iff_ne, decide_eq_true_eq, Bool.not_eq_true', List.isEmpty_eq_false_iff] at h
  refine ⟨h.1.1, fun c hc => ?_, h.2, fun c hc => (h.1.2 c hc).2⟩
  have := h.1.2 c hc
  exact ⟨this.1.1.1.1.1, this.1.1.1.1.2, this.1.1.1.2, this.1.1.2, this.1.2⟩
theorem cps_nat (m : Nat) : (Str.ofString (toString (m : Int))).cps.toList = (Nat.toDigits 10 m).map Char.toNat := by
  rw [signs_ofString]
  congr 1
  show (Nat.repr m).toList = _
  rw [Nat.repr]
  simp
theorem cps_one (x : Str) : (listText [x]).cps.toList = 91 :: (x.cps.toList ++ [93]) := by
  have c1 : (Str.ofString "[").cps.toList = [91] := by decide +kernel
  have c2 : (Str.ofString "]").cps.toList = [93] := by decide +kernel
  show ((Str.ofString "[" ++ x) ++ Str.ofString "]").cps.toList = _
  simp [Str.cps_append, c1, c2]
theorem digit_nat {ch : Char} (h : ch.isDigit = true) : 48 ≤ ch.toNat ∧ ch.toNat ≤ 57 := by
  simp only [Char.isDigit, Bool.and_eq_true, decide_eq_true_eq] at h
  obtain ⟨a, b⟩ := h
  exact ⟨a, b⟩
theorem okW_int {i : Int} (h0 : 0 ≤ i) (h : i < 1000) : okW (Str.ofString (toString i)).cps.toList ∧ okW (listText [Str.ofString (toString i)]).cps.toList := by
  obtain ⟨n, rfl⟩ : ∃ n : Nat, i = n := ⟨i.toNat, by omega⟩
  have hn : n < 10 ^ 3 := by omega
  have hl : ((Nat.toDigits 10 n).map Char.toNat).length ≤ 3 := by rw [List.length_map]; exact (Nat.length_toDigits_le_iff (by decide) (by decide)).mpr hn
  have hd : ∀ x ∈ (Nat.toDigits 10 n).map Char.toNat, 48 ≤ x ∧ x ≤ 57 := by
    intro x hx
    obtain ⟨ch, h1, rfl⟩ := List.mem_map.mp hx
    exact digit_nat (Nat.isDigit_of_mem_toDigits (by decide) (by decide) h1)
  have hz : (Nat.toDigits 10 n).map Char.toNat ≠ [] := by
    intro e
    exact Nat.toDigits_ne_nil (List.map_eq_nil_iff.mp e)
  rw [cps_one, cps_nat]
  generalize (Nat.toDigits 10 n).map Char.toNat = w at hl hd hz
  refine ⟨⟨hz, fun x hx => ?_, by omega, fun x hx => ?_⟩, by simp, fun x hx => ?_, by simp; omega, fun x hx => ?_⟩
  · have := hd x hx; omega
  · have := hd x hx; omega
  · simp only [List.mem_cons, List.mem_append, List.not_mem_nil, or_false] at hx
    rcases hx with rfl | hx | rfl
    · omega
    · have := hd x hx; omega
    · omega
  · simp only [List.mem_cons, List.mem_append, List.not_mem_nil, or_false] at hx
    rcases hx with rfl | hx | rfl
    · omega
    · have := hd x hx; omega
    · omega
theorem Lf.ok {H v w b} (h : Lf H v w b) : okW w.cps.toList := by
  cases h with
  | int a b => exact (okW_int a b).1
  | none => exact okW_of (by decide +kernel)
  | e => exact okW_of (by decide +kernel)
  | n => exact okW_of (by decide +kernel)
  | nil a b => exact okW_of (by decide +kernel)
  | one a b c d => exact (okW_int c d).2
theorem Is.ok {H} : ∀ {v t}, Is H v t → t.Ok
  | _, _, .leaf h => .leaf h.ok
  | _, _, .node _ _ c d => .node c.ok d.ok
theorem log_small {i : Int} (h0 : 0 ≤ i) (h : i < 1000) : i.natAbs.log2 < 1920 := by
  obtain ⟨n, rfl⟩ : ∃ n : Nat, i = n := ⟨i.toNat, by (first | lia | omega)⟩
  have hn : n < 1000 := by (first | lia | omega)
  have : (n : Int).natAbs = n := rfl
  rw [this]
  refine Nat.lt_of_le_of_lt (Nat.log2_le_self n) (by (first | lia | omega))
theorem Lf.rp {H v w b} (h : Lf H v w b) (n : Nat) : Rp H n v w := by
  cases h with
  | int a b => exact .int (log_small a b)
  | none => exact .none
  | e => have : reprText (Str.ofString "") = "''" := by decide +kernel
         rw [← this]; exact .str
  | n => have : reprText (Str.ofString "n") = "'n'" := by decide +kernel
         rw [← this]; exact .str
  | nil a b => exact .nil b
  | one a b c d => exact .one b (log_small c d)
theorem trOk_loc {H : HW} {k : Nat} {b : Bool} {xs} (h : lstAt H k = some xs) (hb : (!xs.isEmpty) = b) (hl : xs.length ≤ 1000000) : TrOk H (.loc k) b := by
  refine ⟨?_, fun k' xs' e e' => ?_, fun _ _ e => by cases e⟩
  · simp only [trV, lstAt_of h, hb]
  · cases e; rw [h] at e'; cases e'; exact hl
theorem Lf.tr {H v w b} (h : Lf H v w b) : TrOk H v b := by
  cases h with
  | @int i tk a b =>
    refine ⟨?_, fun _ _ e => (by cases e), fun _ _ e => by cases e⟩
    show some (i != 0) = some (decide (0 < i))
    congr 1
    by_cases hi : i = 0
    · subst hi; rfl
    · rw [bne_iff_ne.mpr hi, decide_eq_true (by (first | lia | omega))]
  | none => exact ⟨rfl, fun _ _ e => (by cases e), fun _ _ e => by cases e⟩
  | e => exact ⟨(by show some (((Str.ofString "").length : Int) != 0) = some false; decide +kernel), fun _ _ e => (by cases e), fun _ _ e => by cases e; decide +kernel⟩
  | n => exact ⟨(by show some (((Str.ofString "n").length : Int) != 0) = some true; decide +kernel), fun _ _ e => (by cases e), fun _ _ e => by cases e; decide +kernel⟩
  | nil a b => exact trOk_loc b rfl (by simp)
  | one a b c d => exact trOk_loc b rfl (by simp)
theorem Is.tr {H} : ∀ {v t}, Is H v t → TrOk H v t.tr
  | _, _, .leaf h => h.tr
  | _, _, .node a b c d => by
    refine ⟨by simp only [trV, b, T.tr], fun k' xs' e e' => ?_, fun _ _ e => by cases e⟩
    cases e
    have := lstAt_of e'
    rw [b] at this
    cases this
noncomputable def T.ht : T → Nat
  | .leaf _ _ => 0
  | .node a b => 1 + max a.ht b.ht
theorem Rp.up {H : HW} : ∀ {n v w}, Rp H n v w → ∀ {m}, n ≤ m → Rp H m v w
  | _, _, _, .int a, _, _ => .int a
  | _, _, _, .none, _, _ => .none
  | _, _, _, .str, _, _ => .str
  | _, _, _, .nil a, _, _ => .nil a
  | _, _, _, .one a b, _, _ => .one a b
  | _, _, _, .inst a b c d, m, h => by
    obtain ⟨m, rfl⟩ : ∃ m', m = m' + 1 := ⟨m - 1, by (first | lia | omega)⟩
    exact .inst a b (c.up (by (first | lia | omega))) (d.up (by (first | lia | omega)))
  | _, _, _, .inst0 a b c, m, h => by
    obtain ⟨m, rfl⟩ : ∃ m', m = m' + 1 := ⟨m - 1, by (first | lia | omega)⟩
    exact .inst0 a b (c.up (by (first | lia | omega)))
theorem str_eq {x y : Str} (h : x.cps.toList = y.cps.toList) : x = y := by
  cases x; cases y
  simp only [Str.mk.injEq]
  exact Array.toList_inj.mp h
theorem t0_leaf {w : Str} {b : Bool} : t0 (.leaf w.cps.toList b) = w := str_eq rfl
theorem t0_node {t1 t2 : T} : t0 (.node t1 t2) = if t2.tr then catS ["<", "TypeInfo", " ", t0 t1, " (from ", t0 t2, ")>"] else catS ["<", "TypeInfo", " ", t0 t1, ">"] := by
  have c1 : (Str.ofString "<").cps.toList = [60] := by decide +kernel
  have c2 : (Str.ofString "TypeInfo").cps.toList = [84, 121, 112, 101, 73, 110, 102, 111] := by decide +kernel
  have c3 : (Str.ofString " ").cps.toList = [32] := by decide +kernel
  have c4 : (Str.ofString " (from ").cps.toList = [32, 40, 102, 114, 111, 109, 32] := by decide +kernel
  have c5 : (Str.ofString ")>").cps.toList = [41, 62] := by decide +kernel
  have c6 : (Str.ofString ">").cps.toList = [62] := by decide +kernel
  have c0 : Str.empty.cps.toList = [] := rfl
  have l : ∀ t, (t0 t).cps.toList = t.flat [60, 84, 121, 112, 101, 73, 110, 102, 111, 32] [32, 40, 102, 114, 111, 109, 32] [41, 62] [62] := fun _ => rfl
  apply str_eq
  rw [l]
  show [60, 84, 121, 112, 101, 73, 110, 102, 111, 32] ++ (t1.flat _ _ _ _ ++ (if t2.tr then _ ++ (t2.flat _ _ _ _ ++ _) else _)) = _
  cases t2.tr with
  | true =>
    simp only [if_true, catS, List.foldl_cons, List.foldl_nil, Str.cps_append, Array.toList_append, c0, c1, c2, c3, c4, c5, l]
    simp
  | false =>
    simp only [Bool.false_eq_true, if_false, catS, List.foldl_cons, List.foldl_nil, Str.cps_append, Array.toList_append, c0, c1, c2, c3, c6, l]
    simp
theorem Is.rp {H} : ∀ {v t}, Is H v t → Rp H t.ht v (t0 t)
  | _, _, .leaf h => by rw [t0_leaf]; exact h.rp _
  | _, _, @Is.node _ k nm ns t1 t2 a b c d => by
    rw [t0_node]
    show Rp H (1 + max t1.ht t2.ht) _ _
    rw [Nat.add_comm]
    have ht := d.tr
    cases hb : t2.tr with
    | true => rw [hb] at ht; simp only [if_true]; exact .inst b ht (c.rp.up (Nat.le_max_left _ _)) (d.rp.up (Nat.le_max_right _ _))
    | false => rw [hb] at ht; simp only [Bool.false_eq_true, if_false]; exact .inst0 b ht (c.rp.up (Nat.le_max_left _ _))
theorem ht_le_sz : ∀ t : T, t.ht + 1 ≤ t.sz
  | .leaf _ _ => Nat.le_refl _
  | .node a b => by have := ht_le_sz a; have := ht_le_sz b; simp only [T.ht, T.sz]; (first | lia | omega)
end Mine

namespace Mine
noncomputable def reprB (c : Cx) (m : Nat) : WS := wSeq (wIf (tTr (wSlot c 0 1 (wVar 0))) (wSeq (wRet (wJoin (jCons (wK (V.str (Str.ofString "<"))) (jCons (wFvS (wCnm 54 (Str.ofString "TypeInfo") (wCls c 0 (wVar 0)))) (jCons (wK (V.str (Str.ofString " "))) (jCons (wFvR m (wSlot c 0 0 (wVar 0))) (jCons (wK (V.str (Str.ofString " (from "))) (jCons (wFvR m (wSlot c 0 1 (wVar 0))) (jCons (wK (V.str (Str.ofString ")>"))) jNil))))))))) wSkip) (wSeq (wRet (wJoin (jCons (wK (V.str (Str.ofString "<"))) (jCons (wFvS (wCnm 54 (Str.ofString "TypeInfo") (wCls c 0 (wVar 0)))) (jCons (wK (V.str (Str.ofString " "))) (jCons (wFvR m (wSlot c 0 0 (wVar 0))) (jCons (wK (V.str (Str.ofString ">"))) jNil))))))) wSkip)) wSkip
noncomputable def thingR (c : Cx) : WS := wSeq (wIf (tv (wBin (onI fun i j => V.bool (i == j)) (wBin wMod (wVar 0) (wK (V.int 6))) (wK (V.int 0)))) (wSeq (wRet (wTup (wCons (wVar 1) (wCons (wCall bStr (wCons (wVar 1) wNil)) (wCons (wBin wGtT (wVar 1) (wK (V.int 0))) wNil))))) wSkip) wSkip) (wSeq (wIf (tv (wBin (onI fun i j => V.bool (i == j)) (wBin wMod (wVar 0) (wK (V.int 6))) (wK (V.int 1)))) (wSeq (wRet (wTup (wCons (wK V.none) (wCons (wK (V.str (Str.ofString "None"))) (wCons (wK (V.bool false)) wNil))))) wSkip) wSkip) (wSeq (wIf (tv (wBin (onI fun i j => V.bool (i == j)) (wBin wMod (wVar 0) (wK (V.int 6))) (wK (V.int 2)))) (wSeq (wRet (wTup (wCons (wKT (Str.ofString "")) (wCons (wK (V.str (Str.ofString "''"))) (wCons (wK (V.bool false)) wNil))))) wSkip) wSkip) (wSeq (wIf (tv (wBin (onI fun i j => V.bool (i == j)) (wBin wMod (wVar 0) (wK (V.int 6))) (wK (V.int 3)))) (wSeq (wRet (wTup (wCons (wKT (Str.ofString "n")) (wCons (wK (V.str (Str.ofString "'n'"))) (wCons (wK (V.bool true)) wNil))))) wSkip) wSkip) (wSeq (wIf (tv (wBin (onI fun i j => V.bool (i == j)) (wBin wMod (wVar 0) (wK (V.int 6))) (wK (V.int 4)))) (wSeq (wRet (wTup (wCons (wList wNil) (wCons (wK (V.str (Str.ofString "[]"))) (wCons (wK (V.bool false)) wNil))))) wSkip) wSkip) (wSeq (wRet (wTup (wCons (wList (wCons (wVar 1) wNil)) (wCons (wBin (wAdd c.ns) (wBin (wAdd c.ns) (wK (V.str (Str.ofString "["))) (wCall bStr (wCons (wVar 1) wNil))) (wK (V.str (Str.ofString "]")))) (wCons (wK (V.bool true)) wNil))))) wSkip)))))
noncomputable def thingB (c : Cx) : WS := wSetTok 1 1000 (wBin wDiv (wVar 0) (wK (V.int 6))) (thingR c)
noncomputable def readB (c : Cx) : WS := wSeq (wSet 1 (wStrM mJoin (wK (V.str (Str.ofString "made "))) (wStrM mSplit (wVar 0) (wK (V.str (Str.ofString "<TypeInfo ")))))) (wSeq (wSet 1 (wStrM mJoin (wK (V.str (Str.ofString " from "))) (wStrM mSplit (wVar 1) (wK (V.str (Str.ofString " (from ")))))) (wSeq (wSet 1 (wStrM mJoin (wK (V.str (Str.ofString " two"))) (wStrM mSplit (wVar 1) (wK (V.str (Str.ofString ")>")))))) (wSeq (wRet (wStrM mSplit (wStrM mJoin (wK (V.str (Str.ofString " one"))) (wStrM mSplit (wVar 1) (wK (V.str (Str.ofString ">"))))) (wK (V.str (Str.ofString " "))))) wSkip)))
noncomputable def lawMk (c : Cx) : WS := wSeq (wSetT [4, 5, 6] (wPop (wVar 1))) (wSeq (wSetT [7, 8, 9] (wPop (wVar 1))) (wSeq (wSet 10 (wCall mkTL (wCons (wVar 4) (wCons (wVar 7) wNil)))) (wSeq (wDrop (wAppend (wVar 2) (wTup (wCons (wVar 10) (wCons (wVar 4) (wCons (wVar 7) wNil)))))) (wSeq (wDrop (wAppend (wVar 1) (wTup (wCons (wVar 10) (wCons (wBin (wAdd c.ns) (wBin (wAdd c.ns) (wList (wCons (wK (V.str (Str.ofString "made"))) wNil)) (wVar 8)) (wIfE (tv (wVar 6)) (wBin (wAdd c.ns) (wBin (wAdd c.ns) (wList (wCons (wK (V.str (Str.ofString "from"))) wNil)) (wVar 5)) (wList (wCons (wK (V.str (Str.ofString "two"))) wNil))) (wList (wCons (wK (V.str (Str.ofString "one"))) wNil)))) (wCons (wK (V.bool true)) wNil)))))) wSkip))))
noncomputable def lawLay (c : Cx) (WT : WF) : WS := wSeq (wSetT [11, 12, 6] (wCall WT (wCons (wBin wDiv (wVar 3) (wK (V.int 3))) wNil))) (wSeq (wDrop (wAppend (wVar 1) (wTup (wCons (wVar 11) (wCons (wList (wCons (wVar 12) wNil)) (wCons (wVar 6) wNil)))))) wSkip)
noncomputable def lawB_b1 (c : Cx) (WT : WF) : WS := wSeq (wIf (tAnd (tv (wBin (onI fun i j => V.bool (i == j)) (wBin wMod (wVar 3) (wK (V.int 3))) (wK (V.int 2)))) (tv (wBin wGtT (wCall (bLen c.ns) (wCons (wVar 1) wNil)) (wK (V.int 1))))) (lawMk c) (lawLay c WT)) wSkip
noncomputable def lawB_b2 (c : Cx) (WR : WF) : WS := wSeq (wIf (tv (wBin (wEqD c.ns not) (wCall WR (wCons (wCall (bRepr 80) (wCons (wVar 11) wNil)) wNil)) (wVar 13))) (wSeq (wRet (wK (V.bool false))) wSkip) wSkip) wSkip
noncomputable def lawB_b3 (c : Cx) : WS := wSeq (wIf (tOr (tv (wBin (wIs c not) (wSlot c 0 1 (wVar 10)) (wVar 4))) (tv (wBin (wIs c not) (wSlot c 0 0 (wVar 10)) (wVar 7)))) (wSeq (wRet (wK (V.bool false))) wSkip) wSkip) (wSeq (wIf (tOr (tv (wBin (wIs c not) (wMeth c 0 (gSlot c 0 1) (wVar 10) wNil) (wVar 4))) (tv (wBin (wIs c not) (wMeth c 0 (gSlot c 0 0) (wVar 10) wNil) (wVar 7)))) (wSeq (wRet (wK (V.bool false))) wSkip) wSkip) wSkip)
noncomputable def lawR4 (c : Cx) (WT WR : WF) : WS := wSeq (wRet (wK (V.bool true))) wSkip
noncomputable def lawR3 (c : Cx) (WT WR : WF) : WS := wSeq (wFor c.ns (iList c.ns (wVar 2)) (aTup [10, 4, 7]) (lawB_b3 c)) (lawR4 c WT WR)
noncomputable def lawR2 (c : Cx) (WT WR : WF) : WS := wSeq (wFor c.ns (iList c.ns (wVar 1)) (aTup [11, 13, 6]) (lawB_b2 c WR)) (lawR3 c WT WR)
noncomputable def lawR1 (c : Cx) (WT WR : WF) : WS := wSeq (wFor c.ns (iList c.ns (wBin (wAdd c.ns) (wList (wCons (wK (V.int 9)) (wCons (wK (V.int 90)) (wCons (wK (V.int 2)) (wCons (wK (V.int 3)) (wCons (wK (V.int 2)) (wCons (wK (V.int 6)) (wCons (wK (V.int 141)) (wCons (wK (V.int 2)) (wCons (wK (V.int 2)) (wCons (wK (V.int 9)) (wCons (wK (V.int 0)) (wCons (wK (V.int 2)) (wCons (wK (V.int 21)) wNil)))))))))))))) (wSlice c.ns (wVar 0) oNone (oSome (wK (V.int 63))) oNone))) (aName 3) (lawB_b1 c WT)) (lawR2 c WT WR)
noncomputable def lawB (c : Cx) (WT WR : WF) : WS := wSeq (wSetR [1, 2] (wTup (wCons (wList wNil) (wCons (wList wNil) wNil)))) (lawR1 c WT WR)

section
variable {c : Cx} {H : HW} {sl : Sl}
theorem e_gtT {i j Q} : wGtT (.int i) (.int j) H Q = Q (.bool (decide (j < i))) H := propext Iff.rfl
theorem e_gtT' {i t j Q} : wGtT (.tok (.int i t)) (.int j) H Q = Q (.bool (decide (j < i))) H := propext Iff.rfl
theorem e_setTok {i k a W Q} : wSetTok i k a W sl H Q = a sl H (fun v H₁ => match v with | .int n => ∀ t, t ≠ 0 → W (sl.set i (some (.tok (.int (n.fmod k) t)))) H₁ Q | _ => False) := propext Iff.rfl
theorem e_kT {x Q} : wKT x sl H Q = ∀ t, t ≠ 0 → Q (.tok (.str x t)) H := propext Iff.rfl
theorem e_bStr {i t Q} : bStr [.tok (.int i t)] H Q = (i.natAbs.log2 < 1920 ∧ Q (.str (toString i)) H) := propext Iff.rfl
theorem e_mkTL {a b Q} : mkTL [a, b] H Q = Q (.loc H.length) (H ++ [.inst 0 [some b, some a]]) := propext Iff.rfl
theorem e_strM {f a b Q} : wStrM f a b sl H Q = a sl H (fun v H₁ => match v with | .str x => b sl H₁ fun w H₂ => f (.str x) w H₂ Q | _ => False) := propext Iff.rfl
theorem e_split {x y Q} : mSplit (.str x) (.str y) H Q = (y.length ≠ 0 ∧ x.length ≤ 1000000 ∧ Q (.loc H.length) (H ++ [.list ((Txt.split x y).map .str)])) := propext Iff.rfl
theorem e_join {x k ts Q} (h : lstAt H k = some (ts.map .str)) : mJoin (.str x) (.loc k) H Q = (JoinOk x ts = true ∧ Q (.str (Txt.join x ts)) H) := by
  show (match (lstAt H k).bind strsV with | some ts => JoinOk x ts = true ∧ Q (.str (Txt.join x ts)) H | none => False) = _
  rw [h]
  simp only [Option.bind_some, strsV_map]
theorem e_bRepr {n v Q} : bRepr n [v] H Q = ∃ str, Rp H n v str ∧ str.length ≤ 100000 ∧ Q (.str str) H := propext Iff.rfl
/-! ### __repr__ -/
theorem jc {A : WE} {B : WJ} {y : Str} {R : List Str → HW → Prop} (hA : ∀ R' : V → HW → Prop, R' (.str y) H → A sl H R') (hy : y.length ≤ 100000) (hB : B sl H fun ys H₂ => R (y :: ys) H₂) : jCons A B sl H R := hA _ ⟨hy, hB⟩
theorem repr_plain {args Q m} (hcl : c.cls 0 = 54) (h : reprW m args H Q) : fnW 1 0 (reprB c m) args H Q := by
  unfold reprW at h
  split at h
  · rename_i k
    obtain ⟨nm, ns, a, hk, h1, l1, h2⟩ := h
    refine ⟨rfl, ?_⟩
    show reprB c m [some (.loc k)] H _
    have hc : clsV c H (.loc k) = some 0 := by simp only [clsV, hk]
    have s0 : slotV c H 0 (.loc k) = some nm := by simp [slotV, hk]
    have s1 : slotV c H 1 (.loc k) = some ns := by simp [slotV, hk]
    have b1 : (Str.ofString "<").length ≤ 100000 := by decide +kernel
    have b2 : (Str.ofString "TypeInfo").length ≤ 1000000 := by decide +kernel
    have b2' : (Str.ofString "TypeInfo").length ≤ 100000 := by decide +kernel
    have b3 : (Str.ofString " ").length ≤ 100000 := by decide +kernel
    have b4 : (Str.ofString " (from ").length ≤ 100000 := by decide +kernel
    have b5 : (Str.ofString ")>").length ≤ 100000 := by decide +kernel
    have b6 : (Str.ofString ">").length ≤ 100000 := by decide +kernel
    have nmW : ∀ (R : V → HW → Prop), R nm H → wSlot c 0 0 (wVar 0) [some (.loc k)] H R := fun R r => by
      show clsV c H (.loc k) = some 0 ∧ (match slotV c H 0 (.loc k) with | some u => R u H | none => False)
      rw [s0]; exact ⟨hc, r⟩
    have nsW : ∀ (R : V → HW → Prop), R ns H → wSlot c 0 1 (wVar 0) [some (.loc k)] H R := fun R r => by
      show clsV c H (.loc k) = some 0 ∧ (match slotV c H 1 (.loc k) with | some u => R u H | none => False)
      rw [s1]; exact ⟨hc, r⟩
    have clW : ∀ (R : V → HW → Prop), R (.str (Str.ofString "TypeInfo")) H → wFvS (wCnm 54 (Str.ofString "TypeInfo") (wCls c 0 (wVar 0))) [some (.loc k)] H R := fun R r => ⟨hc, by rw [hcl], b2, r⟩
    unfold reprB
    rw [e_seq, e_if]
    refine nsW _ ?_
    rcases h2 with ⟨ht, b, h3, l3, q⟩ | ⟨ht, q⟩
    · refine ⟨ht.2.1, ht.2.2, ?_⟩
      rw [ht.1]
      dsimp only
      rw [if_pos rfl, e_seq, e_ret]
      unfold wJoin
      exact jc (fun _ r => r) b1 (jc clW b2' (jc (fun _ r => r) b3 (jc (fun _ r => nmW _ ⟨a, h1, l1, r⟩) l1 (jc (fun _ r => r) b4 (jc (fun _ r => nsW _ ⟨b, h3, l3, r⟩) l3 (jc (fun _ r => r) b5 q))))))
    · refine ⟨ht.2.1, ht.2.2, ?_⟩
      rw [ht.1]
      dsimp only
      rw [if_neg (by decide), e_seq, e_ret]
      unfold wJoin
      exact jc (fun _ r => r) b1 (jc clW b2' (jc (fun _ r => r) b3 (jc (fun _ r => nmW _ ⟨a, h1, l1, r⟩) l1 (jc (fun _ r => r) b6 q))))
  · exact h.elim
/-! ### _law_thing -/
noncomputable def thingW : WF := fun args H Q => ∃ q : Int, args = [.int q] ∧ 2 ≤ H.length ∧ ∀ v w b H', Ext H H' → Lf H' v w b → Q (.tup [v, .str w, .bool b]) H'
theorem thing_plain {args Q} (h : thingW args H Q) : fnW 1 1 (thingB c) args H Q := by
  obtain ⟨q, rfl, hl, k⟩ := h
  refine ⟨rfl, ?_⟩
  show thingB c [some (.int q), none] H _
  unfold thingB
  simp only [e_idxX, e_setI, e_setTX, e_aTupXT, e_dict0, e_kGlob2, e_kGlob3, e_lenS, e_gSlotO0, e_gSlotO1, e_gSlot1, e_mkEI, e_kFalse, e_slot, e_comp0, e_mul, e_eqXI, e_eqXS, e_neXI, e_neXL, e_pow, e_is, e_sum, e_minL, e_inI, e_tTrue, true_and, and_true, ne_eq, not_false_eq_true, Int.reduceEq, Nat.reduceLeDiff, Nat.reduceLT, reduceIte, Option.isSome_some, reduceCtorEq, Int.reduceBEq, Int.reduceNeg, Int.reduceLT, Nat.reduceAdd, Bool.false_eq_true, Bool.not_true, Bool.not_false, if_true, if_false, e_skip, e_isN, isN, id, e_mkTI, e_addI, e_addS, e_min, e_max, e_drop, e_append, e_pop, e_seq, e_setR, e_setT, e_list, e_tup, e_cons, e_meth, e_var, e_nil, e_idx, e_neg, e_k, e_set, e_aug, e_bin, e_mod, e_div, e_if, e_ret, e_and, e_or, e_not, e_tv, e_onI, e_call, e_aTupR, e_aTup, e_aName, e_gName, e_gNs, e_clsO, e_onone, e_osome, e_slice, List.getElem?_cons_zero, List.getElem?_cons_succ, List.set_cons_zero, List.set_cons_succ, List.length_cons, List.length_nil, List.reverse_cons, List.reverse_nil, List.nil_append, List.cons_append, e_setAll, e_setAll0, asL_loc, e_setTok]
  refine ⟨by decide, ?_⟩
  intro t ht
  have i0 : 0 ≤ (q.fdiv 6).fmod 1000 := Int.fmod_nonneg_of_pos _ (by decide)
  have i1 : (q.fdiv 6).fmod 1000 < 1000 := Int.fmod_lt_of_pos _ (by decide)
  generalize (q.fdiv 6).fmod 1000 = i at i0 i1
  have e0 : Ext H H := .refl H
  simp only [e_idxX, e_setI, e_setTX, e_aTupXT, e_dict0, e_kGlob2, e_kGlob3, e_lenS, e_gSlotO0, e_gSlotO1, e_gSlot1, e_mkEI, e_kFalse, e_slot, e_comp0, e_mul, e_eqXI, e_eqXS, e_neXI, e_neXL, e_pow, e_is, e_sum, e_minL, e_inI, e_tTrue, true_and, and_true, ne_eq, not_false_eq_true, Int.reduceEq, Nat.reduceLeDiff, Nat.reduceLT, reduceIte, Option.isSome_some, reduceCtorEq, Int.reduceBEq, Int.reduceNeg, Int.reduceLT, Nat.reduceAdd, Bool.false_eq_true, Bool.not_true, Bool.not_false, if_true, if_false, e_skip, e_isN, isN, id, e_mkTI, e_addI, e_addS, e_min, e_max, e_drop, e_append, e_pop, e_seq, e_setR, e_setT, e_list, e_tup, e_cons, e_meth, e_var, e_nil, e_idx, e_neg, e_k, e_set, e_aug, e_bin, e_mod, e_div, e_if, e_ret, e_and, e_or, e_not, e_tv, e_onI, e_call, e_aTupR, e_aTup, e_aName, e_gName, e_gNs, e_clsO, e_onone, e_osome, e_slice, List.getElem?_cons_zero, List.getElem?_cons_succ, List.set_cons_zero, List.set_cons_succ, List.length_cons, List.length_nil, List.reverse_cons, List.reverse_nil, List.nil_append, List.cons_append, e_setAll, e_setAll0, asL_loc, thingR, e_kT, e_bStr, e_gtT', e_tv]
  by_cases h0 : q.fmod 6 = 0
  · simp only [h0]
    simp only [e_idxX, e_setI, e_setTX, e_aTupXT, e_dict0, e_kGlob2, e_kGlob3, e_lenS, e_gSlotO0, e_gSlotO1, e_gSlot1, e_mkEI, e_kFalse, e_slot, e_comp0, e_mul, e_eqXI, e_eqXS, e_neXI, e_neXL, e_pow, e_is, e_sum, e_minL, e_inI, e_tTrue, true_and, and_true, ne_eq, not_false_eq_true, Int.reduceEq, Nat.reduceLeDiff, Nat.reduceLT, reduceIte, Option.isSome_some, reduceCtorEq, Int.reduceBEq, Int.reduceNeg, Int.reduceLT, Nat.reduceAdd, Bool.false_eq_true, Bool.not_true, Bool.not_false, if_true, if_false, e_skip, e_isN, isN, id, e_mkTI, e_addI, e_addS, e_min, e_max, e_drop, e_append, e_pop, e_seq, e_setR, e_setT, e_list, e_tup, e_cons, e_meth, e_var, e_nil, e_idx, e_neg, e_k, e_set, e_aug, e_bin, e_mod, e_div, e_if, e_ret, e_and, e_or, e_not, e_tv, e_onI, e_call, e_aTupR, e_aTup, e_aName, e_gName, e_gNs, e_clsO, e_onone, e_osome, e_slice, List.getElem?_cons_zero, List.getElem?_cons_succ, List.set_cons_zero, List.set_cons_succ, List.length_cons, List.length_nil, List.reverse_cons, List.reverse_nil, List.nil_append, List.cons_append, e_setAll, e_setAll0, asL_loc]
    exact ⟨log_small i0 i1, k _ _ _ _ e0 (.int i0 i1)⟩
  by_cases h1 : q.fmod 6 = 1
  · simp only [h1]
    simp only [e_idxX, e_setI, e_setTX, e_aTupXT, e_dict0, e_kGlob2, e_kGlob3, e_lenS, e_gSlotO0, e_gSlotO1, e_gSlot1, e_mkEI, e_kFalse, e_slot, e_comp0, e_mul, e_eqXI, e_eqXS, e_neXI, e_neXL, e_pow, e_is, e_sum, e_minL, e_inI, e_tTrue, true_and, and_true, ne_eq, not_false_eq_true, Int.reduceEq, Nat.reduceLeDiff, Nat.reduceLT, reduceIte, Option.isSome_some, reduceCtorEq, Int.reduceBEq, Int.reduceNeg, Int.reduceLT, Nat.reduceAdd, Bool.false_eq_true, Bool.not_true, Bool.not_false, if_true, if_false, e_skip, e_isN, isN, id, e_mkTI, e_addI, e_addS, e_min, e_max, e_drop, e_append, e_pop, e_seq, e_setR, e_setT, e_list, e_tup, e_cons, e_meth, e_var, e_nil, e_idx, e_neg, e_k, e_set, e_aug, e_bin, e_mod, e_div, e_if, e_ret, e_and, e_or, e_not, e_tv, e_onI, e_call, e_aTupR, e_aTup, e_aName, e_gName, e_gNs, e_clsO, e_onone, e_osome, e_slice, List.getElem?_cons_zero, List.getElem?_cons_succ, List.set_cons_zero, List.set_cons_succ, List.length_cons, List.length_nil, List.reverse_cons, List.reverse_nil, List.nil_append, List.cons_append, e_setAll, e_setAll0, asL_loc]
    exact k _ _ _ _ e0 .none
  by_cases h2 : q.fmod 6 = 2
  · simp only [h2]
    simp only [e_idxX, e_setI, e_setTX, e_aTupXT, e_dict0, e_kGlob2, e_kGlob3, e_lenS, e_gSlotO0, e_gSlotO1, e_gSlot1, e_mkEI, e_kFalse, e_slot, e_comp0, e_mul, e_eqXI, e_eqXS, e_neXI, e_neXL, e_pow, e_is, e_sum, e_minL, e_inI, e_tTrue, true_and, and_true, ne_eq, not_false_eq_true, Int.reduceEq, Nat.reduceLeDiff, Nat.reduceLT, reduceIte, Option.isSome_some, reduceCtorEq, Int.reduceBEq, Int.reduceNeg, Int.reduceLT, Nat.reduceAdd, Bool.false_eq_true, Bool.not_true, Bool.not_false, if_true, if_false, e_skip, e_isN, isN, id, e_mkTI, e_addI, e_addS, e_min, e_max, e_drop, e_append, e_pop, e_seq, e_setR, e_setT, e_list, e_tup, e_cons, e_meth, e_var, e_nil, e_idx, e_neg, e_k, e_set, e_aug, e_bin, e_mod, e_div, e_if, e_ret, e_and, e_or, e_not, e_tv, e_onI, e_call, e_aTupR, e_aTup, e_aName, e_gName, e_gNs, e_clsO, e_onone, e_osome, e_slice, List.getElem?_cons_zero, List.getElem?_cons_succ, List.set_cons_zero, List.set_cons_succ, List.length_cons, List.length_nil, List.reverse_cons, List.reverse_nil, List.nil_append, List.cons_append, e_setAll, e_setAll0, asL_loc]
    exact fun t' _ => k _ _ _ _ e0 .e
  by_cases h3 : q.fmod 6 = 3
  · simp only [h3]
    simp only [e_idxX, e_setI, e_setTX, e_aTupXT, e_dict0, e_kGlob2, e_kGlob3, e_lenS, e_gSlotO0, e_gSlotO1, e_gSlot1, e_mkEI, e_kFalse, e_slot, e_comp0, e_mul, e_eqXI, e_eqXS, e_neXI, e_neXL, e_pow, e_is, e_sum, e_minL, e_inI, e_tTrue, true_and, and_true, ne_eq, not_false_eq_true, Int.reduceEq, Nat.reduceLeDiff, Nat.reduceLT, reduceIte, Option.isSome_some, reduceCtorEq, Int.reduceBEq, Int.reduceNeg, Int.reduceLT, Nat.reduceAdd, Bool.false_eq_true, Bool.not_true, Bool.not_false, if_true, if_false, e_skip, e_isN, isN, id, e_mkTI, e_addI, e_addS, e_min, e_max, e_drop, e_append, e_pop, e_seq, e_setR, e_setT, e_list, e_tup, e_cons, e_meth, e_var, e_nil, e_idx, e_neg, e_k, e_set, e_aug, e_bin, e_mod, e_div, e_if, e_ret, e_and, e_or, e_not, e_tv, e_onI, e_call, e_aTupR, e_aTup, e_aName, e_gName, e_gNs, e_clsO, e_onone, e_osome, e_slice, List.getElem?_cons_zero, List.getElem?_cons_succ, List.set_cons_zero, List.set_cons_succ, List.length_cons, List.length_nil, List.reverse_cons, List.reverse_nil, List.nil_append, List.cons_append, e_setAll, e_setAll0, asL_loc]
    exact fun t' _ => k _ _ _ _ e0 .n
  by_cases h4 : q.fmod 6 = 4
  · simp only [h4]
    simp only [e_idxX, e_setI, e_setTX, e_aTupXT, e_dict0, e_kGlob2, e_kGlob3, e_lenS, e_gSlotO0, e_gSlotO1, e_gSlot1, e_mkEI, e_kFalse, e_slot, e_comp0, e_mul, e_eqXI, e_eqXS, e_neXI, e_neXL, e_pow, e_is, e_sum, e_minL, e_inI, e_tTrue, true_and, and_true, ne_eq, not_false_eq_true, Int.reduceEq, Nat.reduceLeDiff, Nat.reduceLT, reduceIte, Option.isSome_some, reduceCtorEq, Int.reduceBEq, Int.reduceNeg, Int.reduceLT, Nat.reduceAdd, Bool.false_eq_true, Bool.not_true, Bool.not_false, if_true, if_false, e_skip, e_isN, isN, id, e_mkTI, e_addI, e_addS, e_min, e_max, e_drop, e_append, e_pop, e_seq, e_setR, e_setT, e_list, e_tup, e_cons, e_meth, e_var, e_nil, e_idx, e_neg, e_k, e_set, e_aug, e_bin, e_mod, e_div, e_if, e_ret, e_and, e_or, e_not, e_tv, e_onI, e_call, e_aTupR, e_aTup, e_aName, e_gName, e_gNs, e_clsO, e_onone, e_osome, e_slice, List.getElem?_cons_zero, List.getElem?_cons_succ, List.set_cons_zero, List.set_cons_succ, List.length_cons, List.length_nil, List.reverse_cons, List.reverse_nil, List.nil_append, List.cons_append, e_setAll, e_setAll0, asL_loc]
    exact k _ _ _ _ .app (.nil hl lstAt_new)
  · rw [beq_false_of_ne h0, beq_false_of_ne h1, beq_false_of_ne h2, beq_false_of_ne h3, beq_false_of_ne h4]
    simp only [e_idxX, e_setI, e_setTX, e_aTupXT, e_dict0, e_kGlob2, e_kGlob3, e_lenS, e_gSlotO0, e_gSlotO1, e_gSlot1, e_mkEI, e_kFalse, e_slot, e_comp0, e_mul, e_eqXI, e_eqXS, e_neXI, e_neXL, e_pow, e_is, e_sum, e_minL, e_inI, e_tTrue, true_and, and_true, ne_eq, not_false_eq_true, Int.reduceEq, Nat.reduceLeDiff, Nat.reduceLT, reduceIte, Option.isSome_some, reduceCtorEq, Int.reduceBEq, Int.reduceNeg, Int.reduceLT, Nat.reduceAdd, Bool.false_eq_true, Bool.not_true, Bool.not_false, if_true, if_false, e_skip, e_isN, isN, id, e_mkTI, e_addI, e_addS, e_min, e_max, e_drop, e_append, e_pop, e_seq, e_setR, e_setT, e_list, e_tup, e_cons, e_meth, e_var, e_nil, e_idx, e_neg, e_k, e_set, e_aug, e_bin, e_mod, e_div, e_if, e_ret, e_and, e_or, e_not, e_tv, e_onI, e_call, e_aTupR, e_aTup, e_aName, e_gName, e_gNs, e_clsO, e_onone, e_osome, e_slice, List.getElem?_cons_zero, List.getElem?_cons_succ, List.set_cons_zero, List.set_cons_succ, List.length_cons, List.length_nil, List.reverse_cons, List.reverse_nil, List.nil_append, List.cons_append, e_setAll, e_setAll0, asL_loc]
    have l5 := (okW_int i0 i1).1.2.2.1
    have l5' : (Str.ofString (toString i)).length ≤ 5 := by simpa [Str.length] using l5
    have l1 : (Str.ofString "[").length = 1 := by decide +kernel
    have l2 : (Str.ofString "]").length = 1 := by decide +kernel
    refine ⟨log_small i0 i1, by (first | lia | omega), by rw [len_app]; (first | lia | omega), ?_⟩
    exact k _ _ _ _ .app (.one hl lstAt_new i0 i1)
/-! ### _law_read -/
noncomputable def rowV (t : T) : List V := t.row.map fun w => .str ⟨w.toArray⟩
noncomputable def readW : WF := fun args H Q => ∃ t : T, args = [.str (t0 t)] ∧ t.Ok ∧ t.sz ≤ 1000 ∧ ∀ k H', Ext H H' → H.length ≤ k → lstAt H' k = some (rowV t) → Q (.loc k) H'
theorem read_plain {args Q} (h : readW args H Q) : fnW 1 1 (readB c) args H Q := by
  obtain ⟨t, rfl, ho, hs, k⟩ := h
  obtain ⟨x1, x2, x3, x4, ⟨j1, e1, z1⟩, ⟨j2, e2, z2⟩, ⟨j3, e3, z3⟩, ⟨j4, e4, z4⟩, hr⟩ := read_ok ho hs
  have z0 : (t0 t).length ≤ 100000 := by
    have e : (t0 t).length = (t.flat [60, 84, 121, 112, 101, 73, 110, 102, 111, 32] [32, 40, 102, 114, 111, 109, 32] [41, 62] [62]).length := len_of rfl
    have := T.Ok.len (A := [60, 84, 121, 112, 101, 73, 110, 102, 111, 32]) (B := [32, 40, 102, 114, 111, 109, 32]) (C := [41, 62]) (D := [62]) (by decide) (by decide) (by decide) (by decide) ho
    (first | lia | omega)
  refine ⟨rfl, ?_⟩
  show readB c [some (.str (t0 t)), none] H _
  unfold readB
  have y1 : (Str.ofString "<TypeInfo ").length ≠ 0 := by decide +kernel
  have y2 : (Str.ofString " (from ").length ≠ 0 := by decide +kernel
  have y3 : (Str.ofString ")>").length ≠ 0 := by decide +kernel
  have y4 : (Str.ofString ">").length ≠ 0 := by decide +kernel
  have y5 : (Str.ofString " ").length ≠ 0 := by decide +kernel
  simp only [e_idxX, e_setI, e_setTX, e_aTupXT, e_dict0, e_kGlob2, e_kGlob3, e_lenS, e_gSlotO0, e_gSlotO1, e_gSlot1, e_mkEI, e_kFalse, e_slot, e_comp0, e_mul, e_eqXI, e_eqXS, e_neXI, e_neXL, e_pow, e_is, e_sum, e_minL, e_inI, e_tTrue, true_and, and_true, ne_eq, not_false_eq_true, Int.reduceEq, Nat.reduceLeDiff, Nat.reduceLT, reduceIte, Option.isSome_some, reduceCtorEq, Int.reduceBEq, Int.reduceNeg, Int.reduceLT, Nat.reduceAdd, Bool.false_eq_true, Bool.not_true, Bool.not_false, if_true, if_false, e_skip, e_isN, isN, id, e_mkTI, e_addI, e_addS, e_min, e_max, e_drop, e_append, e_pop, e_seq, e_setR, e_setT, e_list, e_tup, e_cons, e_meth, e_var, e_nil, e_idx, e_neg, e_k, e_set, e_aug, e_bin, e_mod, e_div, e_if, e_ret, e_and, e_or, e_not, e_tv, e_onI, e_call, e_aTupR, e_aTup, e_aName, e_gName, e_gNs, e_clsO, e_onone, e_osome, e_slice, List.getElem?_cons_zero, List.getElem?_cons_succ, List.set_cons_zero, List.set_cons_succ, List.length_cons, List.length_nil, List.reverse_cons, List.reverse_nil, List.nil_append, List.cons_append, e_setAll, e_setAll0, asL_loc, e_strM, e_split]
  refine ⟨y1, by (first | lia | omega), ?_⟩
  rw [e_join lstAt_new]
  refine ⟨j1, ?_⟩
  rw [← e1]
  simp only [e_idxX, e_setI, e_setTX, e_aTupXT, e_dict0, e_kGlob2, e_kGlob3, e_lenS, e_gSlotO0, e_gSlotO1, e_gSlot1, e_mkEI, e_kFalse, e_slot, e_comp0, e_mul, e_eqXI, e_eqXS, e_neXI, e_neXL, e_pow, e_is, e_sum, e_minL, e_inI, e_tTrue, true_and, and_true, ne_eq, not_false_eq_true, Int.reduceEq, Nat.reduceLeDiff, Nat.reduceLT, reduceIte, Option.isSome_some, reduceCtorEq, Int.reduceBEq, Int.reduceNeg, Int.reduceLT, Nat.reduceAdd, Bool.false_eq_true, Bool.not_true, Bool.not_false, if_true, if_false, e_skip, e_isN, isN, id, e_mkTI, e_addI, e_addS, e_min, e_max, e_drop, e_append, e_pop, e_seq, e_setR, e_setT, e_list, e_tup, e_cons, e_meth, e_var, e_nil, e_idx, e_neg, e_k, e_set, e_aug, e_bin, e_mod, e_div, e_if, e_ret, e_and, e_or, e_not, e_tv, e_onI, e_call, e_aTupR, e_aTup, e_aName, e_gName, e_gNs, e_clsO, e_onone, e_osome, e_slice, List.getElem?_cons_zero, List.getElem?_cons_succ, List.set_cons_zero, List.set_cons_succ, List.length_cons, List.length_nil, List.reverse_cons, List.reverse_nil, List.nil_append, List.cons_append, e_setAll, e_setAll0, asL_loc, e_strM, e_split]
  refine ⟨y2, by (first | lia | omega), ?_⟩
  rw [e_join lstAt_new]
  refine ⟨j2, ?_⟩
  rw [← e2]
  simp only [e_idxX, e_setI, e_setTX, e_aTupXT, e_dict0, e_kGlob2, e_kGlob3, e_lenS, e_gSlotO0, e_gSlotO1, e_gSlot1, e_mkEI, e_kFalse, e_slot, e_comp0, e_mul, e_eqXI, e_eqXS, e_neXI, e_neXL, e_pow, e_is, e_sum, e_minL, e_inI, e_tTrue, true_and, and_true, ne_eq, not_false_eq_true, Int.reduceEq, Nat.reduceLeDiff, Nat.reduceLT, reduceIte, Option.isSome_some, reduceCtorEq, Int.reduceBEq, Int.reduceNeg, Int.reduceLT, Nat.reduceAdd, Bool.false_eq_true, Bool.not_true, Bool.not_false, if_true, if_false, e_skip, e_isN, isN, id, e_mkTI, e_addI, e_addS, e_min, e_max, e_drop, e_append, e_pop, e_seq, e_setR, e_setT, e_list, e_tup, e_cons, e_meth, e_var, e_nil, e_idx, e_neg, e_k, e_set, e_aug, e_bin, e_mod, e_div, e_if, e_ret, e_and, e_or, e_not, e_tv, e_onI, e_call, e_aTupR, e_aTup, e_aName, e_gName, e_gNs, e_clsO, e_onone, e_osome, e_slice, List.getElem?_cons_zero, List.getElem?_cons_succ, List.set_cons_zero, List.set_cons_succ, List.length_cons, List.length_nil, List.reverse_cons, List.reverse_nil, List.nil_append, List.cons_append, e_setAll, e_setAll0, asL_loc, e_strM, e_split]
  refine ⟨y3, by (first | lia | omega), ?_⟩
  rw [e_join lstAt_new]
  refine ⟨j3, ?_⟩
  rw [← e3]
  simp only [e_idxX, e_setI, e_setTX, e_aTupXT, e_dict0, e_kGlob2, e_kGlob3, e_lenS, e_gSlotO0, e_gSlotO1, e_gSlot1, e_mkEI, e_kFalse, e_slot, e_comp0, e_mul, e_eqXI, e_eqXS, e_neXI, e_neXL, e_pow, e_is, e_sum, e_minL, e_inI, e_tTrue, true_and, and_true, ne_eq, not_false_eq_true, Int.reduceEq, Nat.reduceLeDiff, Nat.reduceLT, reduceIte, Option.isSome_some, reduceCtorEq, Int.reduceBEq, Int.reduceNeg, Int.reduceLT, Nat.reduceAdd, Bool.false_eq_true, Bool.not_true, Bool.not_false, if_true, if_false, e_skip, e_isN, isN, id, e_mkTI, e_addI, e_addS, e_min, e_max, e_drop, e_append, e_pop, e_seq, e_setR, e_setT, e_list, e_tup, e_cons, e_meth, e_var, e_nil, e_idx, e_neg, e_k, e_set, e_aug, e_bin, e_mod, e_div, e_if, e_ret, e_and, e_or, e_not, e_tv, e_onI, e_call, e_aTupR, e_aTup, e_aName, e_gName, e_gNs, e_clsO, e_onone, e_osome, e_slice, List.getElem?_cons_zero, List.getElem?_cons_succ, List.set_cons_zero, List.set_cons_succ, List.length_cons, List.length_nil, List.reverse_cons, List.reverse_nil, List.nil_append, List.cons_append, e_setAll, e_setAll0, asL_loc, e_strM, e_split]
  refine ⟨y4, by (first | lia | omega), ?_⟩
  rw [e_join lstAt_new]
  refine ⟨j4, ?_⟩
  rw [← e4]
  simp only [e_idxX, e_setI, e_setTX, e_aTupXT, e_dict0, e_kGlob2, e_kGlob3, e_lenS, e_gSlotO0, e_gSlotO1, e_gSlot1, e_mkEI, e_kFalse, e_slot, e_comp0, e_mul, e_eqXI, e_eqXS, e_neXI, e_neXL, e_pow, e_is, e_sum, e_minL, e_inI, e_tTrue, true_and, and_true, ne_eq, not_false_eq_true, Int.reduceEq, Nat.reduceLeDiff, Nat.reduceLT, reduceIte, Option.isSome_some, reduceCtorEq, Int.reduceBEq, Int.reduceNeg, Int.reduceLT, Nat.reduceAdd, Bool.false_eq_true, Bool.not_true, Bool.not_false, if_true, if_false, e_skip, e_isN, isN, id, e_mkTI, e_addI, e_addS, e_min, e_max, e_drop, e_append, e_pop, e_seq, e_setR, e_setT, e_list, e_tup, e_cons, e_meth, e_var, e_nil, e_idx, e_neg, e_k, e_set, e_aug, e_bin, e_mod, e_div, e_if, e_ret, e_and, e_or, e_not, e_tv, e_onI, e_call, e_aTupR, e_aTup, e_aName, e_gName, e_gNs, e_clsO, e_onone, e_osome, e_slice, List.getElem?_cons_zero, List.getElem?_cons_succ, List.set_cons_zero, List.set_cons_succ, List.length_cons, List.length_nil, List.reverse_cons, List.reverse_nil, List.nil_append, List.cons_append, e_setAll, e_setAll0, asL_loc, e_strM, e_split]
  refine ⟨y5, by (first | lia | omega), ?_⟩
  refine k _ _ (((Ext.app.trans .app).trans .app).trans (Ext.app.trans .app)) (by simp only [List.length_append, List.length_cons, List.length_nil]; (first | lia | omega)) ?_
  rw [lstAt_new]
  congr 1
  unfold rowV
  rw [← hr, List.map_map]
  rfl
/-! ### the pile -/
noncomputable def PI (H : HW) (y : V) (t : T) : Prop := ∃ u r, y = .tup [u, .loc r, .bool t.tr] ∧ Is H u t ∧ 2 ≤ r ∧ lstAt H r = some (rowV t)
noncomputable def MI (H : HW) (y : V) : Prop := ∃ k ns nm t1 t2, y = .tup [.loc k, ns, nm] ∧ H[k]? = some (.inst 0 [some nm, some ns]) ∧ 2 ≤ k ∧ Is H ns t2 ∧ Is H nm t1
inductive PIs (H : HW) : List V → List T → Prop
  | nil : PIs H [] []
  | snoc {ys ts y t} : PIs H ys ts → PI H y t → PIs H (ys ++ [y]) (ts ++ [t])
theorem PI.keep {H H' : HW} (x : KeepB 2 H H') {y t} (h : PI H y t) : PI H' y t := by
  obtain ⟨u, r, rfl, a, b, d⟩ := h
  exact ⟨u, r, rfl, a.keep x, b, x.lst b d⟩
theorem MI.keep {H H' : HW} (x : KeepB 2 H H') {y} (h : MI H y) : MI H' y := by
  obtain ⟨k, ns, nm, t1, t2, rfl, a, b, d, e⟩ := h
  exact ⟨k, ns, nm, t1, t2, rfl, x.at_ _ _ b a, b, d.keep x, e.keep x⟩
theorem PIs.keep {H H' : HW} (x : KeepB 2 H H') : ∀ {ys ts}, PIs H ys ts → PIs H' ys ts
  | _, _, .nil => .nil
  | _, _, .snoc a b => .snoc (a.keep x) (b.keep x)
theorem PIs.mem {H : HW} : ∀ {ys ts}, PIs H ys ts → ∀ y ∈ ys, ∃ t, PI H y t ∧ t.sz ≤ (ts.map T.sz).sum
  | _, _, .nil, y, h => by cases h
  | _, _, .snoc a b, y, h => by
    rcases List.mem_append.mp h with h | h
    · obtain ⟨t, h1, h2⟩ := a.mem y h
      exact ⟨t, h1, by rw [List.map_append, List.sum_append]; (first | lia | omega)⟩
    · rw [List.mem_singleton.mp h]
      exact ⟨_, b, by rw [List.map_append, List.sum_append]; simp⟩
theorem Is.same {H v t} (h : Is H v t) : isV c v v = some true := by
  cases h with
  | leaf h => cases h <;> simp [isV, isN]
  | node => simp [isV]
/-! ### one more thing -/
theorem lay_ok {x : Int} {ys : List V} {y4 y5 y6 y7 y8 y9 y10 y11 y12 y13 : Option V} {R : Fl → Sl → HW → Prop} (hp : lstAt H 0 = some ys) (hl : 2 ≤ H.length) (hy : ys.length ≤ 1000)
    (r : ∀ v w b H' y6 y11 y12, KeepB 2 H H' → (∀ k, k = 1 → H'[k]? = H[k]?) → lstAt H' 0 = some (ys ++ [v]) → PI H' v (.leaf w b) → 2 ≤ H'.length → R .next [some .script, some (.loc 0), some (.loc 1), some (.int x), y4, y5, y6, y7, y8, y9, y10, y11, y12, y13] H') :
    lawLay c thingW [some .script, some (.loc 0), some (.loc 1), some (.int x), y4, y5, y6, y7, y8, y9, y10, y11, y12, y13] H R := by
  unfold lawLay
  simp only [e_idxX, e_setI, e_setTX, e_aTupXT, e_dict0, e_kGlob2, e_kGlob3, e_lenS, e_gSlotO0, e_gSlotO1, e_gSlot1, e_mkEI, e_kFalse, e_slot, e_comp0, e_mul, e_eqXI, e_eqXS, e_neXI, e_neXL, e_pow, e_is, e_sum, e_minL, e_inI, e_tTrue, true_and, and_true, ne_eq, not_false_eq_true, Int.reduceEq, Nat.reduceLeDiff, Nat.reduceLT, reduceIte, Option.isSome_some, reduceCtorEq, Int.reduceBEq, Int.reduceNeg, Int.reduceLT, Nat.reduceAdd, Bool.false_eq_true, Bool.not_true, Bool.not_false, if_true, if_false, e_skip, e_isN, isN, id, e_mkTI, e_addI, e_addS, e_min, e_max, e_drop, e_append, e_pop, e_seq, e_setR, e_setT, e_list, e_tup, e_cons, e_meth, e_var, e_nil, e_idx, e_neg, e_k, e_set, e_aug, e_bin, e_mod, e_div, e_if, e_ret, e_and, e_or, e_not, e_tv, e_onI, e_call, e_aTupR, e_aTup, e_aName, e_gName, e_gNs, e_clsO, e_onone, e_osome, e_slice, List.getElem?_cons_zero, List.getElem?_cons_succ, List.set_cons_zero, List.set_cons_succ, List.length_cons, List.length_nil, List.reverse_cons, List.reverse_nil, List.nil_append, List.cons_append, e_setAll, e_setAll0, asL_loc]
  refine ⟨by decide, _, rfl, hl, fun v w b H' xt hf => ?_⟩
  simp only [e_idxX, e_setI, e_setTX, e_aTupXT, e_dict0, e_kGlob2, e_kGlob3, e_lenS, e_gSlotO0, e_gSlotO1, e_gSlot1, e_mkEI, e_kFalse, e_slot, e_comp0, e_mul, e_eqXI, e_eqXS, e_neXI, e_neXL, e_pow, e_is, e_sum, e_minL, e_inI, e_tTrue, true_and, and_true, ne_eq, not_false_eq_true, Int.reduceEq, Nat.reduceLeDiff, Nat.reduceLT, reduceIte, Option.isSome_some, reduceCtorEq, Int.reduceBEq, Int.reduceNeg, Int.reduceLT, Nat.reduceAdd, Bool.false_eq_true, Bool.not_true, Bool.not_false, if_true, if_false, e_skip, e_isN, isN, id, e_mkTI, e_addI, e_addS, e_min, e_max, e_drop, e_append, e_pop, e_seq, e_setR, e_setT, e_list, e_tup, e_cons, e_meth, e_var, e_nil, e_idx, e_neg, e_k, e_set, e_aug, e_bin, e_mod, e_div, e_if, e_ret, e_and, e_or, e_not, e_tv, e_onI, e_call, e_aTupR, e_aTup, e_aName, e_gName, e_gNs, e_clsO, e_onone, e_osome, e_slice, List.getElem?_cons_zero, List.getElem?_cons_succ, List.set_cons_zero, List.set_cons_succ, List.length_cons, List.length_nil, List.reverse_cons, List.reverse_nil, List.nil_append, List.cons_append, e_setAll, e_setAll0, asL_loc]
  have hp' := xt.lst hp
  refine ⟨by rw [hp']; rfl, ?_⟩
  have hp2 : lstAt (H' ++ [LO.list [V.str w]]) 0 = some ys := lstAt_ext hp'
  rw [hp2]
  refine ⟨by (first | lia | omega), ?_⟩
  have hl' : H.length ≤ H'.length := by obtain ⟨L, rfl⟩ := xt; simp
  have k1 : KeepB 2 H' ((H' ++ [LO.list [V.str w]]).set 0 (LO.list (ys ++ [V.tup [v, V.loc H'.length, V.bool b]]))) := KeepB.app.trans (KeepB.set (by (first | lia | omega)))
  refine r (.tup [v, .loc H'.length, .bool b]) w.cps.toList b _ _ _ _ (xt.keepB.trans k1) (fun k hk => ?_) (lstAt_set (by simp)) ⟨v, H'.length, rfl, .leaf (hf.keep k1), by (first | lia | omega), ?_⟩ (by simp; (first | lia | omega))
  · subst hk
    rw [List.getElem?_set_ne (by (first | lia | omega)), List.getElem?_append_left (by (first | lia | omega))]
    obtain ⟨L, rfl⟩ := xt
    rw [List.getElem?_append_left (by (first | lia | omega))]
  · have : lstAt (H' ++ [LO.list [V.str w]]) H'.length = some [V.str w] := lstAt_new
    unfold lstAt
    rw [List.getElem?_set_ne (by (first | lia | omega)), lstAt_of this]
    rfl
/-! ### two things made one -/
theorem row_len : ∀ t : T, t.row.length ≤ 3 * t.sz
  | .leaf _ _ => by simp [T.row, T.sz]
  | .node a b => by
    have := row_len a
    have := row_len b
    simp only [T.row, T.sz]
    split <;> simp <;> (first | lia | omega)
theorem mk_ok {x : Int} {zs ms : List V} {p0 p1 : V} {t1 t2 : T} {y4 y5 y6 y7 y8 y9 y10 y11 y12 y13 : Option V} {R : Fl → Sl → HW → Prop} (hp : lstAt H 0 = some (zs ++ [p1] ++ [p0])) (hm : lstAt H 1 = some ms) (h0 : PI H p0 t2) (h1 : PI H p1 t1) (hl : 2 ≤ H.length) (hz : zs.length ≤ 1000) (hms : ms.length ≤ 1000) (hs : (T.node t1 t2).sz ≤ 1000)
    (r : ∀ v k H' y4 y5 y6 y7 y8 y9 y10, KeepB 2 H H' → lstAt H' 0 = some (zs ++ [v]) → lstAt H' 1 = some (ms ++ [k]) → PI H' v (.node t1 t2) → MI H' k → 2 ≤ H'.length → R .next [some .script, some (.loc 0), some (.loc 1), some (.int x), y4, y5, y6, y7, y8, y9, y10, y11, y12, y13] H') :
    lawMk c [some .script, some (.loc 0), some (.loc 1), some (.int x), y4, y5, y6, y7, y8, y9, y10, y11, y12, y13] H R := by
  obtain ⟨ns, r0, rfl, i0, g0, l0⟩ := h0
  obtain ⟨nm, r1, rfl, i1, g1, l1⟩ := h1
  have z1 := row_len t1
  have z2 := row_len t2
  have hs' : 1 + t1.sz + t2.sz ≤ 1000 := hs
  have w1 : (rowV t1).length = t1.row.length := by simp [rowV]
  have w2 : (rowV t2).length = t2.row.length := by simp [rowV]
  have hp1 : lstAt (H.set 0 (LO.list (zs ++ [V.tup [nm, V.loc r1, V.bool t1.tr]]))) 0 = some (zs ++ [V.tup [nm, V.loc r1, V.bool t1.tr]]) := lstAt_set (by (first | lia | omega))
  unfold lawMk
  simp only [e_idxX, e_setI, e_setTX, e_aTupXT, e_dict0, e_kGlob2, e_kGlob3, e_lenS, e_gSlotO0, e_gSlotO1, e_gSlot1, e_mkEI, e_kFalse, e_slot, e_comp0, e_mul, e_eqXI, e_eqXS, e_neXI, e_neXL, e_pow, e_is, e_sum, e_minL, e_inI, e_tTrue, true_and, and_true, ne_eq, not_false_eq_true, Int.reduceEq, Nat.reduceLeDiff, Nat.reduceLT, reduceIte, Option.isSome_some, reduceCtorEq, Int.reduceBEq, Int.reduceNeg, Int.reduceLT, Nat.reduceAdd, Bool.false_eq_true, Bool.not_true, Bool.not_false, if_true, if_false, e_skip, e_isN, isN, id, e_mkTI, e_addI, e_addS, e_min, e_max, e_drop, e_append, e_pop, e_seq, e_setR, e_setT, e_list, e_tup, e_cons, e_meth, e_var, e_nil, e_idx, e_neg, e_k, e_set, e_aug, e_bin, e_mod, e_div, e_if, e_ret, e_and, e_or, e_not, e_tv, e_onI, e_call, e_aTupR, e_aTup, e_aName, e_gName, e_gNs, e_clsO, e_onone, e_osome, e_slice, List.getElem?_cons_zero, List.getElem?_cons_succ, List.set_cons_zero, List.set_cons_succ, List.length_cons, List.length_nil, List.reverse_cons, List.reverse_nil, List.nil_append, List.cons_append, e_setAll, e_setAll0, asL_loc]
  rw [hp]
  refine ⟨by simp; (first | lia | omega), ?_⟩
  rw [List.getLast?_concat, List.dropLast_concat]
  dsimp only
  simp only [e_idxX, e_setI, e_setTX, e_aTupXT, e_dict0, e_kGlob2, e_kGlob3, e_lenS, e_gSlotO0, e_gSlotO1, e_gSlot1, e_mkEI, e_kFalse, e_slot, e_comp0, e_mul, e_eqXI, e_eqXS, e_neXI, e_neXL, e_pow, e_is, e_sum, e_minL, e_inI, e_tTrue, true_and, and_true, ne_eq, not_false_eq_true, Int.reduceEq, Nat.reduceLeDiff, Nat.reduceLT, reduceIte, Option.isSome_some, reduceCtorEq, Int.reduceBEq, Int.reduceNeg, Int.reduceLT, Nat.reduceAdd, Bool.false_eq_true, Bool.not_true, Bool.not_false, if_true, if_false, e_skip, e_isN, isN, id, e_mkTI, e_addI, e_addS, e_min, e_max, e_drop, e_append, e_pop, e_seq, e_setR, e_setT, e_list, e_tup, e_cons, e_meth, e_var, e_nil, e_idx, e_neg, e_k, e_set, e_aug, e_bin, e_mod, e_div, e_if, e_ret, e_and, e_or, e_not, e_tv, e_onI, e_call, e_aTupR, e_aTup, e_aName, e_gName, e_gNs, e_clsO, e_onone, e_osome, e_slice, List.getElem?_cons_zero, List.getElem?_cons_succ, List.set_cons_zero, List.set_cons_succ, List.length_cons, List.length_nil, List.reverse_cons, List.reverse_nil, List.nil_append, List.cons_append, e_setAll, e_setAll0, asL_loc]
  rw [hp1]
  refine ⟨by simp; (first | lia | omega), ?_⟩
  rw [List.getLast?_concat, List.dropLast_concat, List.set_set]
  dsimp only
  simp only [e_idxX, e_setI, e_setTX, e_aTupXT, e_dict0, e_kGlob2, e_kGlob3, e_lenS, e_gSlotO0, e_gSlotO1, e_gSlot1, e_mkEI, e_kFalse, e_slot, e_comp0, e_mul, e_eqXI, e_eqXS, e_neXI, e_neXL, e_pow, e_is, e_sum, e_minL, e_inI, e_tTrue, true_and, and_true, ne_eq, not_false_eq_true, Int.reduceEq, Nat.reduceLeDiff, Nat.reduceLT, reduceIte, Option.isSome_some, reduceCtorEq, Int.reduceBEq, Int.reduceNeg, Int.reduceLT, Nat.reduceAdd, Bool.false_eq_true, Bool.not_true, Bool.not_false, if_true, if_false, e_skip, e_isN, isN, id, e_mkTI, e_addI, e_addS, e_min, e_max, e_drop, e_append, e_pop, e_seq, e_setR, e_setT, e_list, e_tup, e_cons, e_meth, e_var, e_nil, e_idx, e_neg, e_k, e_set, e_aug, e_bin, e_mod, e_div, e_if, e_ret, e_and, e_or, e_not, e_tv, e_onI, e_call, e_aTupR, e_aTup, e_aName, e_gName, e_gNs, e_clsO, e_onone, e_osome, e_slice, List.getElem?_cons_zero, List.getElem?_cons_succ, List.set_cons_zero, List.set_cons_succ, List.length_cons, List.length_nil, List.reverse_cons, List.reverse_nil, List.nil_append, List.cons_append, e_setAll, e_setAll0, asL_loc, e_mkTL]
  have k1 : KeepB 2 H (List.set H 0 (LO.list zs)) := .set (by (first | lia | omega))
  have a0 : lstAt (List.set H 0 (LO.list zs)) 0 = some zs := lstAt_set (by (first | lia | omega))
  have a1 : lstAt (List.set H 0 (LO.list zs)) 1 = some ms := by rw [lstAt_set_ne (by (first | lia | omega))]; exact hm
  generalize List.set H 0 (LO.list zs) = H1 at k1 a0 a1 ⊢
  have b1 : lstAt (H1 ++ [LO.inst 0 [some nm, some ns]]) 1 = some ms := lstAt_ext a1
  rw [b1]
  refine ⟨rfl, by (first | lia | omega), ?_⟩
  have q1 : 2 ≤ H1.length := Nat.le_trans hl k1.len
  have k2 : KeepB 2 H (List.set (H1 ++ [LO.inst 0 [some nm, some ns]]) 1 (LO.list (ms ++ [V.tup [V.loc H1.length, ns, nm]]))) := (k1.trans .app).trans (.set (by (first | lia | omega)))
  have d0 : lstAt (List.set (H1 ++ [LO.inst 0 [some nm, some ns]]) 1 (LO.list (ms ++ [V.tup [V.loc H1.length, ns, nm]]))) 0 = some zs := by rw [lstAt_set_ne (by (first | lia | omega))]; exact lstAt_ext a0
  have d1 : lstAt (List.set (H1 ++ [LO.inst 0 [some nm, some ns]]) 1 (LO.list (ms ++ [V.tup [V.loc H1.length, ns, nm]]))) 1 = some (ms ++ [V.tup [V.loc H1.length, ns, nm]]) := lstAt_set (by simp; (first | lia | omega))
  have d2 : (List.set (H1 ++ [LO.inst 0 [some nm, some ns]]) 1 (LO.list (ms ++ [V.tup [V.loc H1.length, ns, nm]])))[H1.length]? = some (LO.inst 0 [some nm, some ns]) := by
    rw [List.getElem?_set_ne (by (first | lia | omega))]; simp
  generalize List.set (H1 ++ [LO.inst 0 [some nm, some ns]]) 1 (LO.list (ms ++ [V.tup [V.loc H1.length, ns, nm]])) = H3 at k2 d0 d1 d2 ⊢
  generalize H1.length = kk at q1 d1 d2 ⊢
  refine ⟨by rw [d0]; rfl, ?_⟩
  have q3 : 2 ≤ H3.length := Nat.le_trans hl k2.len
  have fin : ∀ j H', Ext H3 H' → H3.length ≤ j → lstAt H' j = some (rowV (.node t1 t2)) → R .next [some .script, some (.loc 0), some (.loc 1), some (.int x), some ns, some (.loc r0), some (.bool t2.tr), some nm, some (.loc r1), some (.bool t1.tr), some (.loc kk), y11, y12, y13] (List.set H' 0 (LO.list (zs ++ [V.tup [V.loc kk, V.loc j, V.bool true]]))) := fun j H' xt hj e => by
    have k3 : KeepB 2 H3 (List.set H' 0 (LO.list (zs ++ [V.tup [V.loc kk, V.loc j, V.bool true]]))) := xt.keepB.trans (.set (by (first | lia | omega)))
    have k4 := k2.trans k3
    have n := Is.node q1 (k3.at_ _ _ q1 d2) (i1.keep k4) (i0.keep k4)
    refine r _ _ _ _ _ _ _ _ _ _ k4 (lstAt_set (lstAt_lt (xt.lst d0))) (by rw [lstAt_set_ne (by (first | lia | omega))]; exact xt.lst d1) ⟨_, j, rfl, n, by (first | lia | omega), by rw [lstAt_set_ne (by (first | lia | omega))]; exact e⟩ ⟨kk, ns, nm, t1, t2, rfl, k3.at_ _ _ q1 d2, q1, i0.keep k4, i1.keep k4⟩ (Nat.le_trans hl k4.len)
  have hr1 := k2.lst g1 l1
  have hr0 := k2.lst g0 l0
  refine new_k (H := H3) (Q := fun v Hx => wAdd c.ns v (V.loc r1) Hx _) fun j1 H4 x4 e4 f4 => ?_
  refine addL_k e4 (x4.lst hr1) (by simp; (first | lia | omega)) fun j2 H5 x5 e5 f5 => ?_
  have u1 : V.str (Str.ofString "made") = V.str ⟨[109, 97, 100, 101].toArray⟩ := congrArg V.str (str_eq (by decide +kernel))
  have u2 : V.str (Str.ofString "from") = V.str ⟨[102, 114, 111, 109].toArray⟩ := congrArg V.str (str_eq (by decide +kernel))
  have u3 : V.str (Str.ofString "two") = V.str ⟨[116, 119, 111].toArray⟩ := congrArg V.str (str_eq (by decide +kernel))
  have u4 : V.str (Str.ofString "one") = V.str ⟨[111, 110, 101].toArray⟩ := congrArg V.str (str_eq (by decide +kernel))
  have fin' : ∀ j H', Ext H3 H' → H3.length ≤ j → lstAt H' j = some (rowV (.node t1 t2)) → (match lstAt H' 0 with | some xs => xs.length ≤ 1000000 ∧ R .next [some .script, some (.loc 0), some (.loc 1), some (.int x), some ns, some (.loc r0), some (.bool t2.tr), some nm, some (.loc r1), some (.bool t1.tr), some (.loc kk), y11, y12, y13] (List.set H' 0 (LO.list (xs ++ [V.tup [V.loc kk, V.loc j, V.bool true]]))) | none => False) := fun j H' xt hj e => by
    rw [xt.lst d0]
    exact ⟨by (first | lia | omega), fin j H' xt hj e⟩
  have x35 := x4.trans x5
  have len35 : H3.length ≤ H5.length := by obtain ⟨L, rfl⟩ := x35; simp
  have hr0' := x35.lst hr0
  rw [e_ifE]
  cases hb : t2.tr with
  | true =>
    rw [hb] at fin'
    simp only [e_idxX, e_setI, e_setTX, e_aTupXT, e_dict0, e_kGlob2, e_kGlob3, e_lenS, e_gSlotO0, e_gSlotO1, e_gSlot1, e_mkEI, e_kFalse, e_slot, e_comp0, e_mul, e_eqXI, e_eqXS, e_neXI, e_neXL, e_pow, e_is, e_sum, e_minL, e_inI, e_tTrue, true_and, and_true, ne_eq, not_false_eq_true, Int.reduceEq, Nat.reduceLeDiff, Nat.reduceLT, reduceIte, Option.isSome_some, reduceCtorEq, Int.reduceBEq, Int.reduceNeg, Int.reduceLT, Nat.reduceAdd, Bool.false_eq_true, Bool.not_true, Bool.not_false, if_true, if_false, e_skip, e_isN, isN, id, e_mkTI, e_addI, e_addS, e_min, e_max, e_drop, e_append, e_pop, e_seq, e_setR, e_setT, e_list, e_tup, e_cons, e_meth, e_var, e_nil, e_idx, e_neg, e_k, e_set, e_aug, e_bin, e_mod, e_div, e_if, e_ret, e_and, e_or, e_not, e_tv, e_onI, e_call, e_aTupR, e_aTup, e_aName, e_gName, e_gNs, e_clsO, e_onone, e_osome, e_slice, List.getElem?_cons_zero, List.getElem?_cons_succ, List.set_cons_zero, List.set_cons_succ, List.length_cons, List.length_nil, List.reverse_cons, List.reverse_nil, List.nil_append, List.cons_append, e_setAll, e_setAll0, asL_loc]
    refine new_k (H := H5) (Q := fun v Hx => wAdd c.ns v (V.loc r0) Hx _) fun j3 H6 x6 e6 f6 => ?_
    refine addL_k e6 (x6.lst hr0') (by simp; (first | lia | omega)) fun j4 H7 x7 e7 f7 => ?_
    refine new_k (H := H7) (Q := fun v Hx => wAdd c.ns (V.loc j4) v Hx _) fun j5 H8 x8 e8 f8 => ?_
    refine addL_k (x8.lst e7) e8 (by simp; (first | lia | omega)) fun j6 H9 x9 e9 f9 => ?_
    have x59 := x6.trans (x7.trans (x8.trans x9))
    refine addL_k (x59.lst e5) e9 (by simp; (first | lia | omega)) fun j7 H10 x10 e10 f10 => ?_
    have len510 : H5.length ≤ H9.length := by obtain ⟨L, rfl⟩ := x59; simp
    refine fin' _ _ (x35.trans (x59.trans x10)) (by (first | lia | omega)) ?_
    rw [e10, u1, u2, u3]
    simp [rowV, T.row, hb]
  | false =>
    rw [hb] at fin'
    simp only [e_idxX, e_setI, e_setTX, e_aTupXT, e_dict0, e_kGlob2, e_kGlob3, e_lenS, e_gSlotO0, e_gSlotO1, e_gSlot1, e_mkEI, e_kFalse, e_slot, e_comp0, e_mul, e_eqXI, e_eqXS, e_neXI, e_neXL, e_pow, e_is, e_sum, e_minL, e_inI, e_tTrue, true_and, and_true, ne_eq, not_false_eq_true, Int.reduceEq, Nat.reduceLeDiff, Nat.reduceLT, reduceIte, Option.isSome_some, reduceCtorEq, Int.reduceBEq, Int.reduceNeg, Int.reduceLT, Nat.reduceAdd, Bool.false_eq_true, Bool.not_true, Bool.not_false, if_true, if_false, e_skip, e_isN, isN, id, e_mkTI, e_addI, e_addS, e_min, e_max, e_drop, e_append, e_pop, e_seq, e_setR, e_setT, e_list, e_tup, e_cons, e_meth, e_var, e_nil, e_idx, e_neg, e_k, e_set, e_aug, e_bin, e_mod, e_div, e_if, e_ret, e_and, e_or, e_not, e_tv, e_onI, e_call, e_aTupR, e_aTup, e_aName, e_gName, e_gNs, e_clsO, e_onone, e_osome, e_slice, List.getElem?_cons_zero, List.getElem?_cons_succ, List.set_cons_zero, List.set_cons_succ, List.length_cons, List.length_nil, List.reverse_cons, List.reverse_nil, List.nil_append, List.cons_append, e_setAll, e_setAll0, asL_loc]
    refine new_k (H := H5) (Q := fun v Hx => wAdd c.ns (V.loc j2) v Hx _) fun j3 H6 x6 e6 f6 => ?_
    refine addL_k (x6.lst e5) e6 (by simp; (first | lia | omega)) fun j7 H10 x10 e10 f10 => ?_
    have len56 : H5.length ≤ H6.length := by obtain ⟨L, rfl⟩ := x6; simp
    refine fin' _ _ (x35.trans (x6.trans x10)) (by (first | lia | omega)) ?_
    rw [e10, u1, u4]
    simp [rowV, T.row, hb]
/-! ### the loops' bodies -/
theorem row_ok {t : T} (h : t.Ok) : ∀ w ∈ t.row, ∀ x ∈ w, x < 128 := by
  induction h with
  | leaf h => intro w hw; simp only [T.row, List.mem_singleton] at hw; subst hw; exact h.2.2.2
  | node _ _ i1 i2 =>
    intro w hw x hx
    simp only [T.row, List.mem_cons, List.mem_append] at hw
    rcases hw with rfl | hw | hw
    · simp at hx; (first | lia | omega)
    · exact i1 w hw x hx
    · split at hw
      · simp only [List.mem_cons, List.mem_append, List.not_mem_nil, or_false] at hw
        rcases hw with rfl | hw | rfl
        · simp at hx; (first | lia | omega)
        · exact i2 w hw x hx
        · simp at hx; (first | lia | omega)
      · simp only [List.mem_cons, List.not_mem_nil, or_false] at hw
        subst hw
        simp at hx; (first | lia | omega)
noncomputable def rowD (t : T) : List PyData := t.row.map fun w => .str ⟨w.toArray⟩
theorem dvs_row {ns H} : ∀ ws : List (List Nat), DVs ns H (ws.map fun w => V.str ⟨w.toArray⟩) (ws.map fun w => PyData.str ⟨w.toArray⟩)
  | [] => .nil
  | _ :: ws => .cons .str (dvs_row ws)
theorem lay_row : ∀ ws : List (List Nat), (∀ w ∈ ws, ∀ x ∈ w, x < 128) → PyData.canLayAll0 (ws.map fun w => PyData.str ⟨w.toArray⟩) = true ∧ PyData.depthAll (ws.map fun w => PyData.str ⟨w.toArray⟩) ≤ 1
  | [], _ => ⟨rfl, by simp [PyData.depthAll]⟩
  | w :: ws, h => by
    have ih := lay_row ws fun w hw => h w (List.mem_cons_of_mem _ hw)
    have hw : PyData.canLay0 (.str ⟨w.toArray⟩) = true := by
      have : ∀ x ∈ w, x < 128 := h w List.mem_cons_self
      simp only [PyData.canLay0, PyData.strOk, List.all_toArray, List.all_eq_true, decide_eq_true_eq]
      intro x hx
      have := this x hx
      (first | lia | omega)
    rw [List.map_cons]
    exact ⟨by rw [PyData.canLayAll0, ih.1, hw]; rfl, by rw [PyData.depthAll]; have := ih.2; simp [PyData.depth]; (first | lia | omega)⟩
theorem b2_ok {y0 y1 y2 y3 y4 y5 y6 y7 y8 y9 y10 y11 y12 y13 : Option V} {y : V} {t : T} {R : Fl → Sl → HW → Prop} (h : PI H y t) (hs : t.sz ≤ 76) (r : ∀ y6 y11 y13 H', Ext H H' → R .next [y0, y1, y2, y3, y4, y5, y6, y7, y8, y9, y10, y11, y12, y13] H') :
    aTup [11, 13, 6] y [y0, y1, y2, y3, y4, y5, y6, y7, y8, y9, y10, y11, y12, y13] H fun sl₁ H₁ => lawB_b2 c readW sl₁ H₁ R := by
  obtain ⟨u, k, rfl, i, g, e⟩ := h
  have z0 : (t0 t).length ≤ 100000 := by
    have e : (t0 t).length = (t.flat [60, 84, 121, 112, 101, 73, 110, 102, 111, 32] [32, 40, 102, 114, 111, 109, 32] [41, 62] [62]).length := len_of rfl
    have := T.Ok.len (A := [60, 84, 121, 112, 101, 73, 110, 102, 111, 32]) (B := [32, 40, 102, 114, 111, 109, 32]) (C := [41, 62]) (D := [62]) (by decide) (by decide) (by decide) (by decide) i.ok
    (first | lia | omega)
  have hh := ht_le_sz t
  obtain ⟨o1, o2⟩ := lay_row t.row (row_ok i.ok)
  have cl : (PyData.list (rowD t)).canLay0 = true := by rw [PyData.canLay0]; exact o1
  have sh : SeqAt.shaped (.list (rowD t)) = true := by
    unfold SeqAt.shaped
    rw [cl, Bool.true_and, decide_eq_true_iff, PyData.depth]
    unfold rowD
    (first | lia | omega)
  unfold lawB_b2
  simp only [e_idxX, e_setI, e_setTX, e_aTupXT, e_dict0, e_kGlob2, e_kGlob3, e_lenS, e_gSlotO0, e_gSlotO1, e_gSlot1, e_mkEI, e_kFalse, e_slot, e_comp0, e_mul, e_eqXI, e_eqXS, e_neXI, e_neXL, e_pow, e_is, e_sum, e_minL, e_inI, e_tTrue, true_and, and_true, ne_eq, not_false_eq_true, Int.reduceEq, Nat.reduceLeDiff, Nat.reduceLT, reduceIte, Option.isSome_some, reduceCtorEq, Int.reduceBEq, Int.reduceNeg, Int.reduceLT, Nat.reduceAdd, Bool.false_eq_true, Bool.not_true, Bool.not_false, if_true, if_false, e_skip, e_isN, isN, id, e_mkTI, e_addI, e_addS, e_min, e_max, e_drop, e_append, e_pop, e_seq, e_setR, e_setT, e_list, e_tup, e_cons, e_meth, e_var, e_nil, e_idx, e_neg, e_k, e_set, e_aug, e_bin, e_mod, e_div, e_if, e_ret, e_and, e_or, e_not, e_tv, e_onI, e_call, e_aTupR, e_aTup, e_aName, e_gName, e_gNs, e_clsO, e_onone, e_osome, e_slice, List.getElem?_cons_zero, List.getElem?_cons_succ, List.set_cons_zero, List.set_cons_succ, List.length_cons, List.length_nil, List.reverse_cons, List.reverse_nil, List.nil_append, List.cons_append, e_setAll, e_setAll0, asL_loc, e_bRepr]
  refine ⟨t0 t, i.rp.up (by (first | lia | omega)), z0, t, rfl, i.ok, by (first | lia | omega), fun k' H' xt hk e' => ?_⟩
  simp only [e_idxX, e_setI, e_setTX, e_aTupXT, e_dict0, e_kGlob2, e_kGlob3, e_lenS, e_gSlotO0, e_gSlotO1, e_gSlot1, e_mkEI, e_kFalse, e_slot, e_comp0, e_mul, e_eqXI, e_eqXS, e_neXI, e_neXL, e_pow, e_is, e_sum, e_minL, e_inI, e_tTrue, true_and, and_true, ne_eq, not_false_eq_true, Int.reduceEq, Nat.reduceLeDiff, Nat.reduceLT, reduceIte, Option.isSome_some, reduceCtorEq, Int.reduceBEq, Int.reduceNeg, Int.reduceLT, Nat.reduceAdd, Bool.false_eq_true, Bool.not_true, Bool.not_false, if_true, if_false, e_skip, e_isN, isN, id, e_mkTI, e_addI, e_addS, e_min, e_max, e_drop, e_append, e_pop, e_seq, e_setR, e_setT, e_list, e_tup, e_cons, e_meth, e_var, e_nil, e_idx, e_neg, e_k, e_set, e_aug, e_bin, e_mod, e_div, e_if, e_ret, e_and, e_or, e_not, e_tv, e_onI, e_call, e_aTupR, e_aTup, e_aName, e_gName, e_gNs, e_clsO, e_onone, e_osome, e_slice, List.getElem?_cons_zero, List.getElem?_cons_succ, List.set_cons_zero, List.set_cons_succ, List.length_cons, List.length_nil, List.reverse_cons, List.reverse_nil, List.nil_append, List.cons_append, e_setAll, e_setAll0, asL_loc, e_eqD]
  refine ⟨.list (rowD t), .list (rowD t), .list (by rw [asL_loc]; exact e') (dvs_row t.row), .list (by rw [asL_loc]; exact xt.lst e) (dvs_row t.row), ⟨sh, sh⟩, ?_⟩
  rw [eqv_self cl]
  simp only [e_idxX, e_setI, e_setTX, e_aTupXT, e_dict0, e_kGlob2, e_kGlob3, e_lenS, e_gSlotO0, e_gSlotO1, e_gSlot1, e_mkEI, e_kFalse, e_slot, e_comp0, e_mul, e_eqXI, e_eqXS, e_neXI, e_neXL, e_pow, e_is, e_sum, e_minL, e_inI, e_tTrue, true_and, and_true, ne_eq, not_false_eq_true, Int.reduceEq, Nat.reduceLeDiff, Nat.reduceLT, reduceIte, Option.isSome_some, reduceCtorEq, Int.reduceBEq, Int.reduceNeg, Int.reduceLT, Nat.reduceAdd, Bool.false_eq_true, Bool.not_true, Bool.not_false, if_true, if_false, e_skip, e_isN, isN, id, e_mkTI, e_addI, e_addS, e_min, e_max, e_drop, e_append, e_pop, e_seq, e_setR, e_setT, e_list, e_tup, e_cons, e_meth, e_var, e_nil, e_idx, e_neg, e_k, e_set, e_aug, e_bin, e_mod, e_div, e_if, e_ret, e_and, e_or, e_not, e_tv, e_onI, e_call, e_aTupR, e_aTup, e_aName, e_gName, e_gNs, e_clsO, e_onone, e_osome, e_slice, List.getElem?_cons_zero, List.getElem?_cons_succ, List.set_cons_zero, List.set_cons_succ, List.length_cons, List.length_nil, List.reverse_cons, List.reverse_nil, List.nil_append, List.cons_append, e_setAll, e_setAll0, asL_loc]
  exact r _ _ _ _ xt
theorem b3_ok {y0 y1 y2 y3 y4 y5 y6 y7 y8 y9 y10 y11 y12 y13 : Option V} {y : V} {R : Fl → Sl → HW → Prop} (h : MI H y) (r : ∀ y4 y7 y10, R .next [y0, y1, y2, y3, y4, y5, y6, y7, y8, y9, y10, y11, y12, y13] H) :
    aTup [10, 4, 7] y [y0, y1, y2, y3, y4, y5, y6, y7, y8, y9, y10, y11, y12, y13] H fun sl₁ H₁ => lawB_b3 c sl₁ H₁ R := by
  obtain ⟨k, ns, nm, t1, t2, rfl, a, b, i2, i1⟩ := h
  have hc : clsV c H (.loc k) = some 0 := by simp only [clsV, a]
  have s0 : slotV c H 0 (.loc k) = some nm := by simp [slotV, a]
  have s1 : slotV c H 1 (.loc k) = some ns := by simp [slotV, a]
  have g0 : ∀ Q, gSlot c 0 0 [.loc k] H Q = Q nm H := fun Q => e_gSlotL a rfl
  have g1 : ∀ Q, gSlot c 0 1 [.loc k] H Q = Q ns H := fun Q => e_gSlotL a rfl
  have m0 := i1.same (c := c)
  have m1 := i2.same (c := c)
  unfold lawB_b3
  simp only [e_idxX, e_setI, e_setTX, e_aTupXT, e_dict0, e_kGlob2, e_kGlob3, e_lenS, e_gSlotO0, e_gSlotO1, e_gSlot1, e_mkEI, e_kFalse, e_slot, e_comp0, e_mul, e_eqXI, e_eqXS, e_neXI, e_neXL, e_pow, e_is, e_sum, e_minL, e_inI, e_tTrue, true_and, and_true, ne_eq, not_false_eq_true, Int.reduceEq, Nat.reduceLeDiff, Nat.reduceLT, reduceIte, Option.isSome_some, reduceCtorEq, Int.reduceBEq, Int.reduceNeg, Int.reduceLT, Nat.reduceAdd, Bool.false_eq_true, Bool.not_true, Bool.not_false, if_true, if_false, e_skip, e_isN, isN, id, e_mkTI, e_addI, e_addS, e_min, e_max, e_drop, e_append, e_pop, e_seq, e_setR, e_setT, e_list, e_tup, e_cons, e_meth, e_var, e_nil, e_idx, e_neg, e_k, e_set, e_aug, e_bin, e_mod, e_div, e_if, e_ret, e_and, e_or, e_not, e_tv, e_onI, e_call, e_aTupR, e_aTup, e_aName, e_gName, e_gNs, e_clsO, e_onone, e_osome, e_slice, List.getElem?_cons_zero, List.getElem?_cons_succ, List.set_cons_zero, List.set_cons_succ, List.length_cons, List.length_nil, List.reverse_cons, List.reverse_nil, List.nil_append, List.cons_append, e_setAll, e_setAll0, asL_loc, hc, s0, s1, m0, m1, g0, g1]
  exact r _ _ _
/-! ### the law -/
noncomputable def Sh (sl : Sl) : Prop := ∃ y3 y4 y5 y6 y7 y8 y9 y10 y11 y12 y13, sl = [some .script, some (.loc 0), some (.loc 1), y3, y4, y5, y6, y7, y8, y9, y10, y11, y12, y13]
structure J (all : List V) (n : Nat) (sl : Sl) (H : HW) : Prop where
  sh : Sh sl
  hl : 2 ≤ H.length
  it : lstAt H 4 = some all
  st : ∃ ys ms ts, lstAt H 0 = some ys ∧ lstAt H 1 = some ms ∧ PIs H ys ts ∧ (∀ y ∈ ms, MI H y) ∧ (ts.map T.sz).sum ≤ n ∧ ys.length ≤ n ∧ ms.length ≤ n
theorem PIs.two {ys : List V} {ts : List T} (h : PIs H ys ts) (h2 : 1 < ys.length) : ∃ zs p0 p1 us t1 t2, ys = zs ++ [p1] ++ [p0] ∧ ts = us ++ [t1] ++ [t2] ∧ PIs H zs us ∧ PI H p1 t1 ∧ PI H p0 t2 := by
  cases h with
  | nil => simp at h2
  | snoc a b =>
    cases a with
    | nil => simp at h2
    | snoc a b' => exact ⟨_, _, _, _, _, _, rfl, rfl, a, b', b⟩
theorem b1_ok {all : List V} {n : Nat} {x : Int} {R : Fl → Sl → HW → Prop} (j : J all n sl H) (hn : n ≤ 76) (r : ∀ sl' H', J all (n + 1) sl' H' → R .next sl' H') :
    aName 3 (.int x) sl H fun sl₁ H₁ => lawB_b1 c thingW sl₁ H₁ R := by
  obtain ⟨⟨y3, y4, y5, y6, y7, y8, y9, y10, y11, y12, y13, rfl⟩, hl, it, ys, ms, ts, h0, h1, hp, hm, hz, hy, hms⟩ := j
  have lay : lawLay c thingW [some .script, some (.loc 0), some (.loc 1), some (.int x), y4, y5, y6, y7, y8, y9, y10, y11, y12, y13] H R := by
    refine lay_ok h0 hl (by (first | lia | omega)) fun v w b H' y6 y11 y12 kp k1 g0 pv hl' => r _ _ ⟨⟨_, _, _, _, _, _, _, _, _, _, _, rfl⟩, hl', kp.lst (by (first | lia | omega)) it, ys ++ [v], ms, ts ++ [.leaf w b], g0, ?_, .snoc (hp.keep kp) pv, fun y hy => (hm y hy).keep kp, ?_, by simp; (first | lia | omega), by (first | lia | omega)⟩
    · unfold lstAt; rw [k1 1 rfl]; exact h1
    · simp [T.sz]; (first | lia | omega)
  unfold lawB_b1
  simp only [e_idxX, e_setI, e_setTX, e_aTupXT, e_dict0, e_kGlob2, e_kGlob3, e_lenS, e_gSlotO0, e_gSlotO1, e_gSlot1, e_mkEI, e_kFalse, e_slot, e_comp0, e_mul, e_eqXI, e_eqXS, e_neXI, e_neXL, e_pow, e_is, e_sum, e_minL, e_inI, e_tTrue, true_and, and_true, ne_eq, not_false_eq_true, Int.reduceEq, Nat.reduceLeDiff, Nat.reduceLT, reduceIte, Option.isSome_some, reduceCtorEq, Int.reduceBEq, Int.reduceNeg, Int.reduceLT, Nat.reduceAdd, Bool.false_eq_true, Bool.not_true, Bool.not_false, if_true, if_false, e_skip, e_isN, isN, id, e_mkTI, e_addI, e_addS, e_min, e_max, e_drop, e_append, e_pop, e_seq, e_setR, e_setT, e_list, e_tup, e_cons, e_meth, e_var, e_nil, e_idx, e_neg, e_k, e_set, e_aug, e_bin, e_mod, e_div, e_if, e_ret, e_and, e_or, e_not, e_tv, e_onI, e_call, e_aTupR, e_aTup, e_aName, e_gName, e_gNs, e_clsO, e_onone, e_osome, e_slice, List.getElem?_cons_zero, List.getElem?_cons_succ, List.set_cons_zero, List.set_cons_succ, List.length_cons, List.length_nil, List.reverse_cons, List.reverse_nil, List.nil_append, List.cons_append, e_setAll, e_setAll0, asL_loc, e_gtT]
  split
  · rw [e_len h0]
    refine ⟨by (first | lia | omega), ?_⟩
    simp only [e_idxX, e_setI, e_setTX, e_aTupXT, e_dict0, e_kGlob2, e_kGlob3, e_lenS, e_gSlotO0, e_gSlotO1, e_gSlot1, e_mkEI, e_kFalse, e_slot, e_comp0, e_mul, e_eqXI, e_eqXS, e_neXI, e_neXL, e_pow, e_is, e_sum, e_minL, e_inI, e_tTrue, true_and, and_true, ne_eq, not_false_eq_true, Int.reduceEq, Nat.reduceLeDiff, Nat.reduceLT, reduceIte, Option.isSome_some, reduceCtorEq, Int.reduceBEq, Int.reduceNeg, Int.reduceLT, Nat.reduceAdd, Bool.false_eq_true, Bool.not_true, Bool.not_false, if_true, if_false, e_skip, e_isN, isN, id, e_mkTI, e_addI, e_addS, e_min, e_max, e_drop, e_append, e_pop, e_seq, e_setR, e_setT, e_list, e_tup, e_cons, e_meth, e_var, e_nil, e_idx, e_neg, e_k, e_set, e_aug, e_bin, e_mod, e_div, e_if, e_ret, e_and, e_or, e_not, e_tv, e_onI, e_call, e_aTupR, e_aTup, e_aName, e_gName, e_gNs, e_clsO, e_onone, e_osome, e_slice, List.getElem?_cons_zero, List.getElem?_cons_succ, List.set_cons_zero, List.set_cons_succ, List.length_cons, List.length_nil, List.reverse_cons, List.reverse_nil, List.nil_append, List.cons_append, e_setAll, e_setAll0, asL_loc, e_gtT]
    split
    · rename_i h2
      have h2' : 1 < ys.length := by have := of_decide_eq_true h2; (first | lia | omega)
      obtain ⟨zs, p0, p1, us, t1, t2, rfl, rfl, a, b, d⟩ := hp.two h2'
      simp only [List.map_append, List.sum_append, List.map_cons, List.map_nil, List.sum_cons, List.sum_nil, List.length_append, List.length_cons, List.length_nil] at hz hy
      refine mk_ok h0 h1 d b hl (by (first | lia | omega)) (by (first | lia | omega)) (by simp only [T.sz]; (first | lia | omega)) fun v k H' y4 y5 y6 y7 y8 y9 y10 kp g0 g1 pv mv hl' => r _ _ ⟨⟨_, _, _, _, _, _, _, _, _, _, _, rfl⟩, hl', kp.lst (by (first | lia | omega)) it, _, _, us ++ [.node t1 t2], g0, g1, .snoc (a.keep kp) pv, ?_, ?_, by simp; (first | lia | omega), by simp; (first | lia | omega)⟩
      · intro y hy
        rcases List.mem_append.mp hy with h | h
        · exact (hm y h).keep kp
        · rw [List.mem_singleton.mp h]; exact mv
      · simp [T.sz]; (first | lia | omega)
    · exact lay
  · exact lay
/-- what stands in the loops that only look -/
noncomputable def L2 (ys ms : List V) (ts : List T) (sl : Sl) (H : HW) : Prop := Sh sl ∧ lstAt H 0 = some ys ∧ lstAt H 1 = some ms ∧ PIs H ys ts ∧ ∀ y ∈ ms, MI H y
theorem r3_ok {ys ms : List V} {ts : List T} {Q : Fl → Sl → HW → Prop} (h : L2 ys ms ts sl H) (q : ∀ sl H', Q (.ret (.bool true)) sl H') : lawR3 c thingW readW sl H Q := by
  obtain ⟨⟨y3, y4, y5, y6, y7, y8, y9, y10, y11, y12, y13, rfl⟩, h0, h1, hp, hm⟩ := h
  unfold lawR3
  simp only [e_idxX, e_setI, e_setTX, e_aTupXT, e_dict0, e_kGlob2, e_kGlob3, e_lenS, e_gSlotO0, e_gSlotO1, e_gSlot1, e_mkEI, e_kFalse, e_slot, e_comp0, e_mul, e_eqXI, e_eqXS, e_neXI, e_neXL, e_pow, e_is, e_sum, e_minL, e_inI, e_tTrue, true_and, and_true, ne_eq, not_false_eq_true, Int.reduceEq, Nat.reduceLeDiff, Nat.reduceLT, reduceIte, Option.isSome_some, reduceCtorEq, Int.reduceBEq, Int.reduceNeg, Int.reduceLT, Nat.reduceAdd, Bool.false_eq_true, Bool.not_true, Bool.not_false, if_true, if_false, e_skip, e_isN, isN, id, e_mkTI, e_addI, e_addS, e_min, e_max, e_drop, e_append, e_pop, e_seq, e_setR, e_setT, e_list, e_tup, e_cons, e_meth, e_var, e_nil, e_idx, e_neg, e_k, e_set, e_aug, e_bin, e_mod, e_div, e_if, e_ret, e_and, e_or, e_not, e_tv, e_onI, e_call, e_aTupR, e_aTup, e_aName, e_gName, e_gNs, e_clsO, e_onone, e_osome, e_slice, List.getElem?_cons_zero, List.getElem?_cons_succ, List.set_cons_zero, List.set_cons_succ, List.length_cons, List.length_nil, List.reverse_cons, List.reverse_nil, List.nil_append, List.cons_append, e_setAll, e_setAll0, asL_loc, e_for, e_iList]
  rw [h1]
  refine for_inv (all := ms) (k := .list (.loc 1) ms) (fun _ sl H' => L2 ys ms ts sl H') (fun n sl H' h => h.2.2.1) ?_ ?_ ⟨⟨_, _, _, _, _, _, _, _, _, _, _, rfl⟩, h0, h1, hp, hm⟩
  · rintro n v sl H' hv ⟨⟨y3, y4, y5, y6, y7, y8, y9, y10, y11, y12, y13, rfl⟩, h0, h1, hp, hm⟩ R r
    exact b3_ok (hm v (List.mem_of_getElem? hv)) fun _ _ _ => r _ _ ⟨⟨_, _, _, _, _, _, _, _, _, _, _, rfl⟩, h0, h1, hp, hm⟩
  · intro sl H' _
    show lawR4 c thingW readW sl H' Q
    unfold lawR4
    simp only [e_idxX, e_setI, e_setTX, e_aTupXT, e_dict0, e_kGlob2, e_kGlob3, e_lenS, e_gSlotO0, e_gSlotO1, e_gSlot1, e_mkEI, e_kFalse, e_slot, e_comp0, e_mul, e_eqXI, e_eqXS, e_neXI, e_neXL, e_pow, e_is, e_sum, e_minL, e_inI, e_tTrue, true_and, and_true, ne_eq, not_false_eq_true, Int.reduceEq, Nat.reduceLeDiff, Nat.reduceLT, reduceIte, Option.isSome_some, reduceCtorEq, Int.reduceBEq, Int.reduceNeg, Int.reduceLT, Nat.reduceAdd, Bool.false_eq_true, Bool.not_true, Bool.not_false, if_true, if_false, e_skip, e_isN, isN, id, e_mkTI, e_addI, e_addS, e_min, e_max, e_drop, e_append, e_pop, e_seq, e_setR, e_setT, e_list, e_tup, e_cons, e_meth, e_var, e_nil, e_idx, e_neg, e_k, e_set, e_aug, e_bin, e_mod, e_div, e_if, e_ret, e_and, e_or, e_not, e_tv, e_onI, e_call, e_aTupR, e_aTup, e_aName, e_gName, e_gNs, e_clsO, e_onone, e_osome, e_slice, List.getElem?_cons_zero, List.getElem?_cons_succ, List.set_cons_zero, List.set_cons_succ, List.length_cons, List.length_nil, List.reverse_cons, List.reverse_nil, List.nil_append, List.cons_append, e_setAll, e_setAll0, asL_loc]
    exact q _ _
theorem r2_ok {ys ms : List V} {ts : List T} {Q : Fl → Sl → HW → Prop} (h : L2 ys ms ts sl H) (hz : (ts.map T.sz).sum ≤ 76) (q : ∀ sl H', Q (.ret (.bool true)) sl H') : lawR2 c thingW readW sl H Q := by
  obtain ⟨⟨y3, y4, y5, y6, y7, y8, y9, y10, y11, y12, y13, rfl⟩, h0, h1, hp, hm⟩ := h
  unfold lawR2
  simp only [e_idxX, e_setI, e_setTX, e_aTupXT, e_dict0, e_kGlob2, e_kGlob3, e_lenS, e_gSlotO0, e_gSlotO1, e_gSlot1, e_mkEI, e_kFalse, e_slot, e_comp0, e_mul, e_eqXI, e_eqXS, e_neXI, e_neXL, e_pow, e_is, e_sum, e_minL, e_inI, e_tTrue, true_and, and_true, ne_eq, not_false_eq_true, Int.reduceEq, Nat.reduceLeDiff, Nat.reduceLT, reduceIte, Option.isSome_some, reduceCtorEq, Int.reduceBEq, Int.reduceNeg, Int.reduceLT, Nat.reduceAdd, Bool.false_eq_true, Bool.not_true, Bool.not_false, if_true, if_false, e_skip, e_isN, isN, id, e_mkTI, e_addI, e_addS, e_min, e_max, e_drop, e_append, e_pop, e_seq, e_setR, e_setT, e_list, e_tup, e_cons, e_meth, e_var, e_nil, e_idx, e_neg, e_k, e_set, e_aug, e_bin, e_mod, e_div, e_if, e_ret, e_and, e_or, e_not, e_tv, e_onI, e_call, e_aTupR, e_aTup, e_aName, e_gName, e_gNs, e_clsO, e_onone, e_osome, e_slice, List.getElem?_cons_zero, List.getElem?_cons_succ, List.set_cons_zero, List.set_cons_succ, List.length_cons, List.length_nil, List.reverse_cons, List.reverse_nil, List.nil_append, List.cons_append, e_setAll, e_setAll0, asL_loc, e_for, e_iList]
  rw [h0]
  refine for_inv (all := ys) (k := .list (.loc 0) ys) (fun _ sl H' => L2 ys ms ts sl H') (fun n sl H' h => h.2.1) ?_ ?_ ⟨⟨_, _, _, _, _, _, _, _, _, _, _, rfl⟩, h0, h1, hp, hm⟩
  · rintro n v sl H' hv ⟨⟨y3, y4, y5, y6, y7, y8, y9, y10, y11, y12, y13, rfl⟩, h0, h1, hp, hm⟩ R r
    obtain ⟨t, pt, ht⟩ := hp.mem v (List.mem_of_getElem? hv)
    exact b2_ok pt (by (first | lia | omega)) fun _ _ _ H'' xt => r _ _ ⟨⟨_, _, _, _, _, _, _, _, _, _, _, rfl⟩, xt.lst h0, xt.lst h1, hp.keep xt.keepB, fun y hy => (hm y hy).keep xt.keepB⟩
  · intro sl H' h
    exact r3_ok h q
theorem law04 {Q : Fl → Sl → HW → Prop} (hn : c.ns.length ≤ 63) (q : ∀ sl H', Q (.ret (.bool true)) sl H') : lawB c thingW readW [some .script, none, none, none, none, none, none, none, none, none, none, none, none, none] [] Q := by
  have es : sliceV (c.ns.map V.int) none (some 63) none = (c.ns.map V.int).take 63 := sliceV_take _ 63
  unfold lawB
  simp only [e_idxX, e_setI, e_setTX, e_aTupXT, e_dict0, e_kGlob2, e_kGlob3, e_lenS, e_gSlotO0, e_gSlotO1, e_gSlot1, e_mkEI, e_kFalse, e_slot, e_comp0, e_mul, e_eqXI, e_eqXS, e_neXI, e_neXL, e_pow, e_is, e_sum, e_minL, e_inI, e_tTrue, true_and, and_true, ne_eq, not_false_eq_true, Int.reduceEq, Nat.reduceLeDiff, Nat.reduceLT, reduceIte, Option.isSome_some, reduceCtorEq, Int.reduceBEq, Int.reduceNeg, Int.reduceLT, Nat.reduceAdd, Bool.false_eq_true, Bool.not_true, Bool.not_false, if_true, if_false, e_skip, e_isN, isN, id, e_mkTI, e_addI, e_addS, e_min, e_max, e_drop, e_append, e_pop, e_seq, e_setR, e_setT, e_list, e_tup, e_cons, e_meth, e_var, e_nil, e_idx, e_neg, e_k, e_set, e_aug, e_bin, e_mod, e_div, e_if, e_ret, e_and, e_or, e_not, e_tv, e_onI, e_call, e_aTupR, e_aTup, e_aName, e_gName, e_gNs, e_clsO, e_onone, e_osome, e_slice, List.getElem?_cons_zero, List.getElem?_cons_succ, List.set_cons_zero, List.set_cons_succ, List.length_cons, List.length_nil, List.reverse_cons, List.reverse_nil, List.nil_append, List.cons_append, e_setAll, e_setAll0, asL_loc]
  unfold lawR1
  simp only [e_idxX, e_setI, e_setTX, e_aTupXT, e_dict0, e_kGlob2, e_kGlob3, e_lenS, e_gSlotO0, e_gSlotO1, e_gSlot1, e_mkEI, e_kFalse, e_slot, e_comp0, e_mul, e_eqXI, e_eqXS, e_neXI, e_neXL, e_pow, e_is, e_sum, e_minL, e_inI, e_tTrue, true_and, and_true, ne_eq, not_false_eq_true, Int.reduceEq, Nat.reduceLeDiff, Nat.reduceLT, reduceIte, Option.isSome_some, reduceCtorEq, Int.reduceBEq, Int.reduceNeg, Int.reduceLT, Nat.reduceAdd, Bool.false_eq_true, Bool.not_true, Bool.not_false, if_true, if_false, e_skip, e_isN, isN, id, e_mkTI, e_addI, e_addS, e_min, e_max, e_drop, e_append, e_pop, e_seq, e_setR, e_setT, e_list, e_tup, e_cons, e_meth, e_var, e_nil, e_idx, e_neg, e_k, e_set, e_aug, e_bin, e_mod, e_div, e_if, e_ret, e_and, e_or, e_not, e_tv, e_onI, e_call, e_aTupR, e_aTup, e_aName, e_gName, e_gNs, e_clsO, e_onone, e_osome, e_slice, List.getElem?_cons_zero, List.getElem?_cons_succ, List.set_cons_zero, List.set_cons_succ, List.length_cons, List.length_nil, List.reverse_cons, List.reverse_nil, List.nil_append, List.cons_append, e_setAll, e_setAll0, asL_loc, e_for, e_iList]
  show (c.ns.map V.int).length ≤ 1000000 ∧ _
  refine ⟨by simp; (first | lia | omega), ?_⟩
  rw [es, e_addL (xs := [V.int 9, V.int 90, V.int 2, V.int 3, V.int 2, V.int 6, V.int 141, V.int 2, V.int 2, V.int 9, V.int 0, V.int 2, V.int 21]) (ys := (c.ns.map V.int).take 63) rfl rfl]
  refine ⟨by simp; (first | lia | omega), ?_⟩
  have hA : ∀ v ∈ [V.int 9, V.int 90, V.int 2, V.int 3, V.int 2, V.int 6, V.int 141, V.int 2, V.int 2, V.int 9, V.int 0, V.int 2, V.int 21] ++ (c.ns.map V.int).take 63, ∃ x, v = .int x := by
    intro v hv
    rcases List.mem_append.mp hv with h | h
    · simp only [List.mem_cons, List.not_mem_nil, or_false] at h
      rcases h with rfl | rfl | rfl | rfl | rfl | rfl | rfl | rfl | rfl | rfl | rfl | rfl | rfl <;> exact ⟨_, rfl⟩
    · obtain ⟨x, _, rfl⟩ := List.mem_map.mp (List.mem_of_mem_take h)
      exact ⟨x, rfl⟩
  have hB : ([V.int 9, V.int 90, V.int 2, V.int 3, V.int 2, V.int 6, V.int 141, V.int 2, V.int 2, V.int 9, V.int 0, V.int 2, V.int 21] ++ (c.ns.map V.int).take 63).length ≤ 76 := by simp; (first | lia | omega)
  generalize [V.int 9, V.int 90, V.int 2, V.int 3, V.int 2, V.int 6, V.int 141, V.int 2, V.int 2, V.int 9, V.int 0, V.int 2, V.int 21] ++ (c.ns.map V.int).take 63 = all at hA hB ⊢
  show wForGo c.ns (.list (.loc 4) all) (aName 3) (lawB_b1 c thingW) all _ _ _
  refine for_inv (all := all) (k := .list (.loc 4) all) (J all) (fun n sl H' h => h.it) ?_ ?_ ⟨⟨_, _, _, _, _, _, _, _, _, _, _, rfl⟩, by simp, rfl, [], [], [], rfl, rfl, .nil, fun _ h => by simp at h, by simp, by simp, by simp⟩
  · intro n v sl H' hv j R r
    obtain ⟨x, rfl⟩ := hA v (List.mem_of_getElem? hv)
    have : n < all.length := (List.getElem?_eq_some_iff.mp hv).1
    exact b1_ok j (by (first | lia | omega)) r
  · rintro sl H' ⟨sh, hl, it, ys, ms, ts, h0, h1, hp, hm, hz, _, _⟩
    exact r2_ok ⟨sh, h0, h1, hp, hm⟩ (by (first | lia | omega)) q
end
end Mine

namespace Mine
set_option maxHeartbeats 8000000 in
open_top hd04 for PySem.Challenge.rw_dn0274_04
end Mine

namespace Mine
noncomputable abbrev cx04 (w : World) (h₀ : Heap) (mg mb : Str → Option Value) (aS : Addr) (vs : List Value) (ns : List Int) : Cx :=
  { prog := Challenge.rw_dn0274_04.row.prog, w := w, h₀ := h₀, mg := mg, mb := mb, K := hd04.heap_39 w.params, aS := aS, vs := vs, ns := ns, cls := fun _ => 54, gC := fun _ => none }
section
variable {w : World} {h₀ : Heap} {mg mb : Str → Option Value} {aS : Addr} {vs : List Value} {ns : List Int} {d : Nat} {sc : Scope} {ρ : List Str}
theorem slot_name (G : Good (cx04 w h₀ mg mb aS vs ns)) {o pos a} (ho : Ev (cx04 w h₀ mg mb aS vs ns) d sc ρ o a)
    (he : ∀ env, eval (.Attribute o (Str.ofString "name") pos) env = (eval o env >>= fun ov => standAt pos.atName >>= fun _ => holding [ov] (getAttr ov (Str.ofString "name") true) >>= fun r => pure r)) :
    Ev (cx04 w h₀ mg mb aS vs ns) d sc ρ (.Attribute o (Str.ofString "name") pos) (wSlot (cx04 w h₀ mg mb aS vs ns) 0 0 a) :=
  ev_slot (k := 0) (i := 0) (p := 55) G ho (by kernel_rfl) (by kernel_rfl) (by kernel_rfl) (by kernel_rfl) (by kernel_rfl) (by kernel_rfl) he
theorem set_name (G : Good (cx04 w h₀ mg mb aS vs ns)) {o ap e pos a b} (ho : Ev (cx04 w h₀ mg mb aS vs ns) d sc ρ o a) (he : Ev (cx04 w h₀ mg mb aS vs ns) d sc ρ e b)
    (hw : ∀ env, swapsWith e (some (.Attribute o (Str.ofString "name") ap)) pos.line env = pure false) : Ex (cx04 w h₀ mg mb aS vs ns) d sc ρ (.Assign [.Attribute o (Str.ofString "name") ap] e pos) (wSetAttr 0 0 a b) :=
  ex_setattr (k := 0) (i := 0) (p := 55) G ho he (by kernel_rfl) (by kernel_rfl) (by kernel_rfl) (by kernel_rfl) (by kernel_rfl) (by decide) hw
theorem slot_ns (G : Good (cx04 w h₀ mg mb aS vs ns)) {o pos a} (ho : Ev (cx04 w h₀ mg mb aS vs ns) d sc ρ o a)
    (he : ∀ env, eval (.Attribute o (Str.ofString "namespace") pos) env = (eval o env >>= fun ov => standAt pos.atName >>= fun _ => holding [ov] (getAttr ov (Str.ofString "namespace") true) >>= fun r => pure r)) :
    Ev (cx04 w h₀ mg mb aS vs ns) d sc ρ (.Attribute o (Str.ofString "namespace") pos) (wSlot (cx04 w h₀ mg mb aS vs ns) 0 1 a) :=
  ev_slot (k := 0) (i := 1) (p := 56) G ho (by kernel_rfl) (by kernel_rfl) (by kernel_rfl) (by kernel_rfl) (by kernel_rfl) (by kernel_rfl) he
theorem set_ns (G : Good (cx04 w h₀ mg mb aS vs ns)) {o ap e pos a b} (ho : Ev (cx04 w h₀ mg mb aS vs ns) d sc ρ o a) (he : Ev (cx04 w h₀ mg mb aS vs ns) d sc ρ e b)
    (hw : ∀ env, swapsWith e (some (.Attribute o (Str.ofString "namespace") ap)) pos.line env = pure false) : Ex (cx04 w h₀ mg mb aS vs ns) d sc ρ (.Assign [.Attribute o (Str.ofString "namespace") ap] e pos) (wSetAttr 0 1 a b) :=
  ex_setattr (k := 0) (i := 1) (p := 56) G ho he (by kernel_rfl) (by kernel_rfl) (by kernel_rfl) (by kernel_rfl) (by kernel_rfl) (by decide) hw
theorem get_name (G : Good (cx04 w h₀ mg mb aS vs ns)) {d} : FnC (cx04 w h₀ mg mb aS vs ns) (d + 1) (.ref 43) (gSlot (cx04 w h₀ mg mb aS vs ns) 0 0) := by
  refine' FnC.weaken (fn_ok (W := _) (ps := [Str.ofString "self"]) (rest := []) G (G.X 43 _ rfl) rfl (codeRec_of G.X (by kernel_rfl)) rfl rfl ?hb rfl rfl rfl rfl rfl ?nd ?kd ?ex) ?k
  case hb => intro vals hl; match vals, hl with | [a], _ => rfl
  case nd => decide
  case kd => decide
  case ex =>
    dsimp only [List.append_nil, List.cons_append, List.nil_append]
    repeat' (first
      | with_reducible exact at0
      | with_reducible exact exs_nil
      | with_reducible exact evs_nil
      | with_reducible exact ev_none
      | with_reducible exact ev_bool
      | with_reducible refine' atS ?_
      | with_reducible refine' exs_cons ?_ ?_
      | with_reducible refine' evs_cons ?_ ?_ (fun _ => rfl)
      | ((with_reducible refine' ev_local ?_ ?a rfl (by decide)); (case a => exact rfl))
      | with_reducible refine' ex_ret ?_
      | ((with_reducible refine' slot_name (by assumption) ?_ ?he); (case he => exact fun _ => rfl))
      | ((with_reducible refine' set_name (by assumption) ?_ ?_ ?he); (case he => exact fun _ => rfl))
      | ((with_reducible refine' slot_ns (by assumption) ?_ ?he); (case he => exact fun _ => rfl))
      | ((with_reducible refine' set_ns (by assumption) ?_ ?_ ?he); (case he => exact fun _ => rfl)))
  case k =>
    intro args H Q h
    obtain ⟨v, rfl, h1, h2⟩ := gSlot_of h
    exact ⟨rfl, h1, by rw [slotIs_def] at h2; revert h2; cases slotV (cx04 w h₀ mg mb aS vs ns) H 0 v <;> exact fun h => h⟩
theorem get_ns (G : Good (cx04 w h₀ mg mb aS vs ns)) {d} : FnC (cx04 w h₀ mg mb aS vs ns) (d + 1) (.ref 50) (gSlot (cx04 w h₀ mg mb aS vs ns) 0 1) := by
  refine' FnC.weaken (fn_ok (W := _) (ps := [Str.ofString "self"]) (rest := []) G (G.X 50 _ rfl) rfl (codeRec_of G.X (by kernel_rfl)) rfl rfl ?hb rfl rfl rfl rfl rfl ?nd ?kd ?ex) ?k
  case hb => intro vals hl; match vals, hl with | [a], _ => rfl
  case nd => decide
  case kd => decide
  case ex =>
    dsimp only [List.append_nil, List.cons_append, List.nil_append]
    repeat' (first
      | with_reducible exact at0
      | with_reducible exact exs_nil
      | with_reducible exact evs_nil
      | with_reducible exact ev_none
      | with_reducible exact ev_bool
      | with_reducible refine' atS ?_
      | with_reducible refine' exs_cons ?_ ?_
      | with_reducible refine' evs_cons ?_ ?_ (fun _ => rfl)
      | ((with_reducible refine' ev_local ?_ ?a rfl (by decide)); (case a => exact rfl))
      | with_reducible refine' ex_ret ?_
      | ((with_reducible refine' slot_name (by assumption) ?_ ?he); (case he => exact fun _ => rfl))
      | ((with_reducible refine' set_name (by assumption) ?_ ?_ ?he); (case he => exact fun _ => rfl))
      | ((with_reducible refine' slot_ns (by assumption) ?_ ?he); (case he => exact fun _ => rfl))
      | ((with_reducible refine' set_ns (by assumption) ?_ ?_ ?he); (case he => exact fun _ => rfl)))
  case k =>
    intro args H Q h
    obtain ⟨v, rfl, h1, h2⟩ := gSlot_of h
    exact ⟨rfl, h1, by rw [slotIs_def] at h2; revert h2; cases slotV (cx04 w h₀ mg mb aS vs ns) H 1 v <;> exact fun h => h⟩
theorem ti_init (G : Good (cx04 w h₀ mg mb aS vs ns)) {d} : FnC (cx04 w h₀ mg mb aS vs ns) (d + 1) (.ref 29) (fun args H Q => match args with | [.loc j, a, b] => H[j]? = some (.inst 0 []) ∧ Q .none (H.set j (.inst 0 [some b, some a])) | _ => False) := by
  refine' FnC.weaken (fn_ok (W := _) (ps := [Str.ofString "self", Str.ofString "namespace", Str.ofString "name"]) (rest := []) G (G.X 29 _ rfl) rfl (codeRec_of G.X (by kernel_rfl)) rfl rfl ?hb rfl rfl rfl rfl rfl ?nd ?kd ?ex) ?k
  case hb => intro vals hl; match vals, hl with | [a, b, c], _ => rfl
  case nd => decide
  case kd => decide
  case ex =>
    dsimp only [List.append_nil, List.cons_append, List.nil_append]
    repeat' (first
      | with_reducible exact at0
      | with_reducible exact exs_nil
      | with_reducible exact evs_nil
      | with_reducible exact ev_none
      | with_reducible exact ev_bool
      | with_reducible refine' atS ?_
      | with_reducible refine' exs_cons ?_ ?_
      | with_reducible refine' evs_cons ?_ ?_ (fun _ => rfl)
      | ((with_reducible refine' ev_local ?_ ?a rfl (by decide)); (case a => exact rfl))
      | with_reducible refine' ex_ret ?_
      | ((with_reducible refine' slot_name (by assumption) ?_ ?he); (case he => exact fun _ => rfl))
      | ((with_reducible refine' set_name (by assumption) ?_ ?_ ?he); (case he => exact fun _ => rfl))
      | ((with_reducible refine' slot_ns (by assumption) ?_ ?he); (case he => exact fun _ => rfl))
      | ((with_reducible refine' set_ns (by assumption) ?_ ?_ ?he); (case he => exact fun _ => rfl)))
  case k =>
    intro args H Q h
    split at h
    · rename_i j a b
      have hl : j < H.length := (List.getElem?_eq_some_iff.mp h.1).1
      obtain ⟨h1, h2⟩ := h
      simp only [fnW, wSeq, wSetAttr, wVar, wSkip]
      refine ⟨rfl, ?_⟩
      simp [h1, List.getElem?_set_self hl, setF, retV, h2]
    · exact h.elim
theorem ti_make (G : Good (cx04 w h₀ mg mb aS vs ns)) {d} : FnC (cx04 w h₀ mg mb aS vs ns) (d + 1 + 1) (.ref 54) mkTL := by
  refine (make_ok (k := 0) G (by kernel_rfl) (by kernel_rfl) (by kernel_rfl) (ti_init G)).weaken fun args H Q h => ?_
  simp only [mkTL] at h
  split at h
  · refine ⟨by simp, rfl, ?_⟩
    simpa using h
  · exact h.elim
theorem c_cls (G : Good (cx04 w h₀ mg mb aS vs ns)) {o pos a} (ho : Ev (cx04 w h₀ mg mb aS vs ns) d sc ρ o a)
    (he : ∀ env, eval (.Attribute o (Str.ofString "__class__") pos) env = (eval o env >>= fun ov => standAt pos.atName >>= fun _ => holding [ov] (getAttr ov (Str.ofString "__class__") true) >>= fun r => pure r)) :
    Ev (cx04 w h₀ mg mb aS vs ns) d sc ρ (.Attribute o (Str.ofString "__class__") pos) (wCls (cx04 w h₀ mg mb aS vs ns) 0 a) :=
  ev_cls (k := 0) G ho (by kernel_rfl) (by kernel_rfl) (by kernel_rfl) (by kernel_rfl) (by kernel_rfl) (by kernel_rfl) rfl he
theorem c_cnm (G : Good (cx04 w h₀ mg mb aS vs ns)) {o pos a} (ho : Ev (cx04 w h₀ mg mb aS vs ns) d sc ρ o a)
    (he : ∀ env, eval (.Attribute o (Str.ofString "__name__") pos) env = (eval o env >>= fun ov => standAt pos.atName >>= fun _ => holding [ov] (getAttr ov (Str.ofString "__name__") true) >>= fun r => letTemporaryGo o ov r >>= fun _ => pure r)) :
    Ev (cx04 w h₀ mg mb aS vs ns) d sc ρ (.Attribute o (Str.ofString "__name__") pos) (wCnm 54 (Str.ofString "TypeInfo") a) :=
  ev_cname (C := 54) (q := Str.ofString "TypeInfo") G ho (by kernel_rfl) (by kernel_rfl) (by kernel_rfl) rfl rfl he
theorem t_ns (G : Good (cx04 w h₀ mg mb aS vs ns)) {e a} (he : Ev (cx04 w h₀ mg mb aS vs ns) d sc ρ e a) (ht : ∀ env whole, isTrue e env whole = (do let v ← whole; standAt e.pos; holding [v] (truthy v))) : Et (cx04 w h₀ mg mb aS vs ns) d sc ρ e (tTr a) :=
  et_tr G he (by kernel_rfl) (by kernel_rfl) ht
theorem c_str (G : Good (cx04 w h₀ mg mb aS vs ns)) {np args pos as} (ha : Evs (cx04 w h₀ mg mb aS vs ns) d sc ρ args as) (hk : sc.kind = .function) (hx : sc.names.lookup (Str.ofString "str") = some .globalImplicit) : Ev (cx04 w h₀ mg mb aS vs ns) d sc ρ (.Call (.Name (Str.ofString "str") np) args [] pos) (wCall bStr as) :=
  ev_callT G hk hx (mgNo G (by kernel_rfl)) ((G.BB _ (by decide)).trans (by kernel_rfl)) (by decide) str_ok ha
theorem c_repr (G : Good (cx04 w h₀ mg mb aS vs ns)) {N : Nat} (hf : FnOK (cx04 w h₀ mg mb aS vs ns) d (.builtin "repr") (bRepr N)) {np args pos as} (ha : Evs (cx04 w h₀ mg mb aS vs ns) d sc ρ args as) (hk : sc.kind = .function) (hx : sc.names.lookup (Str.ofString "repr") = some .globalImplicit) : Ev (cx04 w h₀ mg mb aS vs ns) d sc ρ (.Call (.Name (Str.ofString "repr") np) args [] pos) (wCall (bRepr N) as) :=
  ev_callB G hk hx (mgNo G (by kernel_rfl)) ((G.BB _ (by decide)).trans (by kernel_rfl)) (by decide) hf ha
theorem m_split {o e apos pos a b} {pl : Env → Sem Bool} (ho : Ev (cx04 w h₀ mg mb aS vs ns) d sc ρ o a) (hb : Ev (cx04 w h₀ mg mb aS vs ns) d sc ρ e b) (hs : ∀ env, backTo pos (starEach [e] env) = [(false, eval e env)])
    (he : ∀ env, eval (.Call (.Attribute o (Str.ofString "split") apos) [e] [] pos) env = (do
      let ov ← eval o env
      standAt apos.atName
      let (f, first) ← holding [ov] (getMethod ov (Str.ofString "split") (pl env))
      callWith pos f first (backTo pos (starEach [e] env)) (backToKw pos (keywordEach [] env)))) : Ev (cx04 w h₀ mg mb aS vs ns) d sc ρ (.Call (.Attribute o (Str.ofString "split") apos) [e] [] pos) (wStrM mSplit a b) :=
  ev_strM PySem.F.slot_str_split PySem.F.type_str_split split_ok ho hb hs he
theorem m_join {o e apos pos a b} {pl : Env → Sem Bool} (ho : Ev (cx04 w h₀ mg mb aS vs ns) d sc ρ o a) (hb : Ev (cx04 w h₀ mg mb aS vs ns) d sc ρ e b) (hs : ∀ env, backTo pos (starEach [e] env) = [(false, eval e env)])
    (he : ∀ env, eval (.Call (.Attribute o (Str.ofString "join") apos) [e] [] pos) env = (do
      let ov ← eval o env
      standAt apos.atName
      let (f, first) ← holding [ov] (getMethod ov (Str.ofString "join") (pl env))
      callWith pos f first (backTo pos (starEach [e] env)) (backToKw pos (keywordEach [] env)))) : Ev (cx04 w h₀ mg mb aS vs ns) d sc ρ (.Call (.Attribute o (Str.ofString "join") apos) [e] [] pos) (wStrM mJoin a b) :=
  ev_strM PySem.F.slot_str_join PySem.F.type_str_join join_ok ho hb hs he
theorem m_name (G : Good (cx04 w h₀ mg mb aS vs ns)) {o apos pos a} {pl : Env → Sem Bool} (ho : Ev (cx04 w h₀ mg mb aS vs ns) (d + 1) sc ρ o a) 
    (he : ∀ env, eval (.Call (.Attribute o (Str.ofString "_get_name") apos) [] [] pos) env = (do
      let ov ← eval o env
      standAt apos.atName
      let (f, first) ← holding [ov] (getMethod ov (Str.ofString "_get_name") (pl env))
      callWith pos f first (backTo pos (starEach [] env)) (backToKw pos (keywordEach [] env)))) : Ev (cx04 w h₀ mg mb aS vs ns) (d + 1) sc ρ (.Call (.Attribute o (Str.ofString "_get_name") apos) [] [] pos) (wMeth (cx04 w h₀ mg mb aS vs ns) 0 (gSlot (cx04 w h₀ mg mb aS vs ns) 0 0) a wNil) :=
  ev_meth (k := 0) (f := 43) G ho evs_nil (get_name G).ok (by kernel_rfl) (by kernel_rfl) (by kernel_rfl) (by kernel_rfl) he
theorem m_ns (G : Good (cx04 w h₀ mg mb aS vs ns)) {o apos pos a} {pl : Env → Sem Bool} (ho : Ev (cx04 w h₀ mg mb aS vs ns) (d + 1) sc ρ o a) 
    (he : ∀ env, eval (.Call (.Attribute o (Str.ofString "_get_namespace") apos) [] [] pos) env = (do
      let ov ← eval o env
      standAt apos.atName
      let (f, first) ← holding [ov] (getMethod ov (Str.ofString "_get_namespace") (pl env))
      callWith pos f first (backTo pos (starEach [] env)) (backToKw pos (keywordEach [] env)))) : Ev (cx04 w h₀ mg mb aS vs ns) (d + 1) sc ρ (.Call (.Attribute o (Str.ofString "_get_namespace") apos) [] [] pos) (wMeth (cx04 w h₀ mg mb aS vs ns) 0 (gSlot (cx04 w h₀ mg mb aS vs ns) 0 1) a wNil) :=
  ev_meth (k := 0) (f := 50) G ho evs_nil (get_ns G).ok (by kernel_rfl) (by kernel_rfl) (by kernel_rfl) (by kernel_rfl) he
theorem c_ti (G : Good (cx04 w h₀ mg mb aS vs ns)) {np args pos as} (ha : Evs (cx04 w h₀ mg mb aS vs ns) (d + 1 + 1) sc ρ args as) (hk : sc.kind = .function) (hx : sc.names.lookup (Str.ofString "TypeInfo") = some .globalImplicit) : Ev (cx04 w h₀ mg mb aS vs ns) (d + 1 + 1) sc ρ (.Call (.Name (Str.ofString "TypeInfo") np) args [] pos) (wCall mkTL as) :=
  ev_fn G (ti_make G) ha hk hx (by kernel_rfl) (by kernel_rfl) (by decide)
theorem c_thing (G : Good (cx04 w h₀ mg mb aS vs ns)) {np args pos as W} (hf : FnC (cx04 w h₀ mg mb aS vs ns) d (.ref 72) W) (ha : Evs (cx04 w h₀ mg mb aS vs ns) d sc ρ args as) (hk : sc.kind = .function) (hx : sc.names.lookup (Str.ofString "_law_thing") = some .globalImplicit) : Ev (cx04 w h₀ mg mb aS vs ns) d sc ρ (.Call (.Name (Str.ofString "_law_thing") np) args [] pos) (wCall W as) :=
  ev_fn G hf ha hk hx (by kernel_rfl) (by kernel_rfl) (by decide)
theorem c_read (G : Good (cx04 w h₀ mg mb aS vs ns)) {np args pos as W} (hf : FnC (cx04 w h₀ mg mb aS vs ns) d (.ref 65) W) (ha : Evs (cx04 w h₀ mg mb aS vs ns) d sc ρ args as) (hk : sc.kind = .function) (hx : sc.names.lookup (Str.ofString "_law_read") = some .globalImplicit) : Ev (cx04 w h₀ mg mb aS vs ns) d sc ρ (.Call (.Name (Str.ofString "_law_read") np) args [] pos) (wCall W as) :=
  ev_fn G hf ha hk hx (by kernel_rfl) (by kernel_rfl) (by decide)
theorem c_len (G : Good (cx04 w h₀ mg mb aS vs ns)) {np args pos as} (ha : Evs (cx04 w h₀ mg mb aS vs ns) d sc ρ args as) (hk : sc.kind = .function) (hx : sc.names.lookup (Str.ofString "len") = some .globalImplicit) : Ev (cx04 w h₀ mg mb aS vs ns) d sc ρ (.Call (.Name (Str.ofString "len") np) args [] pos) (wCall (bLen ns) as) :=
  ev_callB G hk hx (mgNo G (by kernel_rfl)) ((G.BB _ (by decide)).trans (by kernel_rfl)) (by decide) (len_ok G) ha
set_option maxHeartbeats 4000000 in
theorem repr_step (G : Good (cx04 w h₀ mg mb aS vs ns)) {d m} (R : RpOK (cx04 w h₀ mg mb aS vs ns) d m) : FnC (cx04 w h₀ mg mb aS vs ns) (d + 1) (.ref 36) (reprW m) := by
  refine' FnC.weaken (fn_ok (W := _) (ps := [Str.ofString "self"]) (rest := []) G (G.X 36 _ rfl) rfl (codeRec_of G.X (by kernel_rfl)) rfl rfl ?hb rfl rfl rfl rfl rfl ?nd ?kd ?ex) ?k
  case hb => intro vals hl; match vals, hl with | [a], _ => rfl
  case nd => decide
  case kd => decide
  case ex =>
    dsimp only [List.append_nil, List.cons_append, List.nil_append]
    refine' exs_cons (ex_if (t_ns G (slot_ns G (ev_local ?_ ?a rfl (by decide)) ?he) ?ht) ?_ ?_) exs_nil
    case a => exact rfl
    case he => exact fun _ => rfl
    case ht => exact fun _ _ => rfl
    all_goals
      repeat' (first
        | with_reducible exact at0
        | with_reducible refine' atS ?_
        | ((with_reducible show Ev _ _ _ _ _ _); first
          | with_reducible exact ev_none
          | with_reducible exact ev_int
          | with_reducible exact ev_bool
          | with_reducible exact ev_str
          | ((with_reducible refine' ev_local ?_ ?a rfl (by decide)); (case a => exact rfl))
          | with_reducible refine' ev_list ?_
          | with_reducible refine' ev_tup ?_
          | with_reducible refine' ev_ifexp ?_ ?_ ?_
          | with_reducible refine' ev_bin sub_ok ?_ ?_
          | with_reducible refine' ev_bin (addV_ok (by assumption)) ?_ ?_
          | with_reducible refine' ev_bin mod_ok ?_ ?_
          | with_reducible refine' ev_bin div_ok ?_ ?_
          | with_reducible refine' ev_bin mul_ok ?_ ?_
          | ((with_reducible refine' ev_append ?_ ?_ ?b ?he); (case b => exact fun _ => rfl); (case he => exact fun _ => rfl))
          | ((with_reducible refine' ev_pop ?_ ?he); (case he => exact fun _ => rfl))
          | ((with_reducible refine' m_name (by assumption) ?_ ?he); (case he => exact fun _ => rfl))
          | ((with_reducible refine' m_ns (by assumption) ?_ ?he); (case he => exact fun _ => rfl))
          | ((with_reducible refine' slot_name (by assumption) ?_ ?he); (case he => exact fun _ => rfl))
          | ((with_reducible refine' slot_ns (by assumption) ?_ ?he); (case he => exact fun _ => rfl))
          | ((with_reducible refine' c_cls (by assumption) ?_ ?he); (case he => exact fun _ => rfl))
          | ((with_reducible refine' c_cnm (by assumption) ?_ ?he); (case he => exact fun _ => rfl))
          | ((with_reducible refine' c_ti (by assumption) ?_ rfl ?a); (case a => exact rfl))
          | ((with_reducible refine' c_thing (by assumption) (by assumption) ?_ rfl ?a); (case a => exact rfl))
          | ((with_reducible refine' c_read (by assumption) (by assumption) ?_ rfl ?a); (case a => exact rfl))
          | ((with_reducible refine' c_len (by assumption) ?_ rfl ?a); (case a => exact rfl))
          | ((with_reducible refine' c_str (by assumption) ?_ rfl ?a); (case a => exact rfl))
          | ((with_reducible refine' c_repr (by assumption) (by assumption) ?_ rfl ?a); (case a => exact rfl))
          | ((with_reducible refine' m_split ?_ ?_ ?b ?he); (case b => exact fun _ => rfl); (case he => exact fun _ => rfl))
          | ((with_reducible refine' m_join ?_ ?_ ?b ?he); (case b => exact fun _ => rfl); (case he => exact fun _ => rfl))
          | ((with_reducible refine' ev_cmp gt_okT ?_ ?_ ?hm); (case hm => with_unfolding_all rfl))
          | ((with_reducible refine' ev_joined ?_ ?hn); (case hn => decide))
          | with_reducible refine' ev_fvS ?_
          | with_reducible refine' ev_fvR (by assumption) ?_
          | with_reducible refine' ev_slice (by assumption) ?_ ?_ ?_ ?_
          | ((with_reducible refine' ev_comp (by assumption) ⟨rfl, rfl, ?nc, ?lc, ?nm, ?fe, ?nd, ?fr⟩ ?_ ?_ ?_ ?hs); (case nc => decide); (case lc => rfl); (case nm => decide); (case fe => decide); (case hs => exact fun _ _ => rfl); (case fr => (repeat' (first | with_reducible exact frs_nil | ((with_reducible refine' frs_free ?_ ?_ ?a); (case a => rfl)) | with_reducible refine' frs_local ?_ | with_reducible refine' frs_glob ?_ | with_reducible refine' frs_cell ?_ | with_reducible exact at0 | with_reducible refine' atS ?_))); (case nd => decide)))
        | ((with_reducible show Ejs _ _ _ _ _ _); first | with_reducible exact ejs_nil | with_reducible refine' ejs_cons ?_ ?_)
        | ((with_reducible show ExsT _ _ _ _ _ _); first | with_reducible refine' exsT_cons ?_ ?_ | with_reducible exact exsT_of exs_nil)
        | ((with_reducible show ExT _ _ _ _ _ _); first | with_reducible refine' exT_if ?_ ?_ ?_ | with_reducible refine' exT_ret ?_)
        | ((with_reducible show EvT _ _ _ _ _ _); first | with_reducible exact evT_str | with_reducible refine' evT_tup ?_ ?_ (fun _ => rfl) | with_reducible refine' evT_of ?_)
        | ((with_reducible show Evs _ _ _ _ _ _); first
          | with_reducible exact evs_nil
          | with_reducible refine' evs_cons ?_ ?_ (fun _ => rfl))
        | ((with_reducible show Et _ _ _ _ _ _); first
          | with_reducible refine' et_and ?_ ?_
          | with_reducible refine' et_or ?_ ?_
          | with_reducible refine' et_cmp (isnot_ok (by assumption)) ?_ ?_
          | with_reducible refine' et_cmp eq_okI ?_ ?_
          | with_reducible refine' et_cmp gt_okT ?_ ?_
          | with_reducible refine' et_cmp (neD_ok (by assumption)) ?_ ?_
          | with_reducible refine' et_tv ?_ (fun _ _ => rfl)
          | with_reducible refine' et_tv ?_ (fun _ _ => rfl))
        | ((with_reducible show Ets _ _ _ _ _ _); first
          | with_reducible refine' ets_one ?_)
        | ((with_reducible show Ei _ _ _ _ _ _); first
          | ((with_reducible refine' ei_list (by assumption) ?_)))
        | ((with_reducible show Ex _ _ _ _ _ _); first
          | ((with_reducible refine' ex_set ?_ ?_ (.inl ?a) rfl ?b); (case a => exact rfl); (case b => exact fun _ => rfl))
          | ((with_reducible refine' ex_set ?_ ?_ (.inr ?a) rfl ?b); (case a => exact rfl); (case b => exact fun _ => rfl))
          | ((with_reducible refine' ex_setRN ?_ ?_ rfl ?b ?sw); (case b => exact fun _ => rfl); (case sw => (intro env he; unfold swappedStores Env.blockKind Env.kindOf; rw [he]; rfl)))
          | ((with_reducible refine' ex_setTN ?_ ?_ rfl rfl ?b ?sw); (case b => exact fun _ => rfl); (case sw => (intro env he; first | rfl | (unfold swappedStores Env.blockKind Env.kindOf; rw [he]; rfl))))
          | ((with_reducible refine' ex_for (by assumption) ?_ ?_ ?_ ?_ ?fs); (case fs => exact fun _ _ => rfl))
          | with_reducible refine' ex_ret ?_
          | with_reducible refine' ex_if ?_ ?_ ?_
          | ((with_reducible refine' ex_expr ?_ rfl ?b); (case b => exact fun _ => rfl)))
        | ((with_reducible show Exs _ _ _ _ _ _); first
          | ((with_reducible refine' exs_setTok ?_ ?_ ?_ (.inl ?a) rfl ?h0 ?b); (case a => exact rfl); (case h0 => decide); (case b => exact fun _ => rfl))
          | with_reducible exact exs_nil
          | with_reducible refine' exs_cons ?_ ?_)
        | with_reducible exact evo_none
        | with_reducible refine' evo_some ?_
        | with_reducible exact lot_name
        | with_reducible exact lot_tup
        | ((with_reducible show Slots _ _ _ _); first | exact slots_nil | (refine' slots_cons ?_ ?_ (.inl ?a); (case a => exact rfl)) | (refine' slots_cons ?_ ?_ (.inr ?a); (case a => exact rfl)))
        | ((with_reducible refine' at_name ?_ (.inl ?a) rfl); (case a => exact rfl))
        | ((with_reducible refine' at_name ?_ (.inr ?a) rfl); (case a => exact rfl))
        | ((with_reducible refine' at_tupN ?_ rfl rfl))
        )
  case k =>
    exact fun args H Q h => repr_plain (c := (cx04 w h₀ mg mb aS vs ns)) rfl h
theorem repr_fn (G : Good (cx04 w h₀ mg mb aS vs ns)) : ∀ (m : Nat) {d}, FnC (cx04 w h₀ mg mb aS vs ns) (d + m + 1) (.ref 36) (reprW m)
  | 0, _ => repr_step G (rp_ok (f := 36) G (by kernel_rfl) (by kernel_rfl) fun m h => absurd h (by (first | lia | omega)))
  | m + 1, _ => repr_step G (rp_ok (f := 36) G (by kernel_rfl) (by kernel_rfl) fun m' h => by
      have : m' = m := by (first | lia | omega)
      subst this
      exact (repr_fn G m').ok)
theorem repr_b (G : Good (cx04 w h₀ mg mb aS vs ns)) : FnOK (cx04 w h₀ mg mb aS vs ns) 119 (.builtin "repr") (bRepr 80) :=
  repr_ok (d := 118) (f := 36) G (by kernel_rfl) (by kernel_rfl) fun m h => by
    have : m = 79 := by (first | lia | omega)
    subst this
    exact (repr_fn G 79 (d := 38)).ok
set_option maxHeartbeats 4000000 in
theorem thing_ok (G : Good (cx04 w h₀ mg mb aS vs ns)) {d} : FnC (cx04 w h₀ mg mb aS vs ns) (d + 1 + 1) (.ref 72) thingW := by
  refine' FnC.weaken (fn_ok (W := _) (ps := [Str.ofString "q"]) (rest := [Str.ofString "number"]) G (G.X 72 _ rfl) rfl (codeRec_of G.X (by kernel_rfl)) rfl rfl ?hb rfl rfl rfl rfl rfl ?nd ?kd ?ex) ?k
  case hb => intro vals hl; match vals, hl with | [a], _ => rfl
  case nd => decide
  case kd => decide
  case ex =>
    dsimp only [List.append_nil, List.cons_append, List.nil_append]
    repeat' (first
      | with_reducible exact at0
      | with_reducible refine' atS ?_
      | ((with_reducible show Ev _ _ _ _ _ _); first
        | with_reducible exact ev_none
        | with_reducible exact ev_int
        | with_reducible exact ev_bool
        | with_reducible exact ev_str
        | ((with_reducible refine' ev_local ?_ ?a rfl (by decide)); (case a => exact rfl))
        | with_reducible refine' ev_list ?_
        | with_reducible refine' ev_tup ?_
        | with_reducible refine' ev_ifexp ?_ ?_ ?_
        | with_reducible refine' ev_bin sub_ok ?_ ?_
        | with_reducible refine' ev_bin (addV_ok (by assumption)) ?_ ?_
        | with_reducible refine' ev_bin mod_ok ?_ ?_
        | with_reducible refine' ev_bin div_ok ?_ ?_
        | with_reducible refine' ev_bin mul_ok ?_ ?_
        | ((with_reducible refine' ev_append ?_ ?_ ?b ?he); (case b => exact fun _ => rfl); (case he => exact fun _ => rfl))
        | ((with_reducible refine' ev_pop ?_ ?he); (case he => exact fun _ => rfl))
        | ((with_reducible refine' m_name (by assumption) ?_ ?he); (case he => exact fun _ => rfl))
        | ((with_reducible refine' m_ns (by assumption) ?_ ?he); (case he => exact fun _ => rfl))
        | ((with_reducible refine' slot_name (by assumption) ?_ ?he); (case he => exact fun _ => rfl))
        | ((with_reducible refine' slot_ns (by assumption) ?_ ?he); (case he => exact fun _ => rfl))
        | ((with_reducible refine' c_cls (by assumption) ?_ ?he); (case he => exact fun _ => rfl))
        | ((with_reducible refine' c_cnm (by assumption) ?_ ?he); (case he => exact fun _ => rfl))
        | ((with_reducible refine' c_ti (by assumption) ?_ rfl ?a); (case a => exact rfl))
        | ((with_reducible refine' c_thing (by assumption) (by assumption) ?_ rfl ?a); (case a => exact rfl))
        | ((with_reducible refine' c_read (by assumption) (by assumption) ?_ rfl ?a); (case a => exact rfl))
        | ((with_reducible refine' c_len (by assumption) ?_ rfl ?a); (case a => exact rfl))
        | ((with_reducible refine' c_str (by assumption) ?_ rfl ?a); (case a => exact rfl))
        | ((with_reducible refine' c_repr (by assumption) (by assumption) ?_ rfl ?a); (case a => exact rfl))
        | ((with_reducible refine' m_split ?_ ?_ ?b ?he); (case b => exact fun _ => rfl); (case he => exact fun _ => rfl))
        | ((with_reducible refine' m_join ?_ ?_ ?b ?he); (case b => exact fun _ => rfl); (case he => exact fun _ => rfl))
        | ((with_reducible refine' ev_cmp gt_okT ?_ ?_ ?hm); (case hm => with_unfolding_all rfl))
        | ((with_reducible refine' ev_joined ?_ ?hn); (case hn => decide))
        | with_reducible refine' ev_fvS ?_
        | with_reducible refine' ev_fvR (by assumption) ?_
        | with_reducible refine' ev_slice (by assumption) ?_ ?_ ?_ ?_
        | ((with_reducible refine' ev_comp (by assumption) ⟨rfl, rfl, ?nc, ?lc, ?nm, ?fe, ?nd, ?fr⟩ ?_ ?_ ?_ ?hs); (case nc => decide); (case lc => rfl); (case nm => decide); (case fe => decide); (case hs => exact fun _ _ => rfl); (case fr => (repeat' (first | with_reducible exact frs_nil | ((with_reducible refine' frs_free ?_ ?_ ?a); (case a => rfl)) | with_reducible refine' frs_local ?_ | with_reducible refine' frs_glob ?_ | with_reducible refine' frs_cell ?_ | with_reducible exact at0 | with_reducible refine' atS ?_))); (case nd => decide)))
      | ((with_reducible show Ejs _ _ _ _ _ _); first | with_reducible exact ejs_nil | with_reducible refine' ejs_cons ?_ ?_)
      | ((with_reducible show ExsT _ _ _ _ _ _); first | with_reducible refine' exsT_cons ?_ ?_ | with_reducible exact exsT_of exs_nil)
      | ((with_reducible show ExT _ _ _ _ _ _); first | with_reducible refine' exT_if ?_ ?_ ?_ | with_reducible refine' exT_ret ?_)
      | ((with_reducible show EvT _ _ _ _ _ _); first | with_reducible exact evT_str | with_reducible refine' evT_tup ?_ ?_ (fun _ => rfl) | with_reducible refine' evT_of ?_)
      | ((with_reducible show Evs _ _ _ _ _ _); first
        | with_reducible exact evs_nil
        | with_reducible refine' evs_cons ?_ ?_ (fun _ => rfl))
      | ((with_reducible show Et _ _ _ _ _ _); first
        | with_reducible refine' et_and ?_ ?_
        | with_reducible refine' et_or ?_ ?_
        | with_reducible refine' et_cmp (isnot_ok (by assumption)) ?_ ?_
        | with_reducible refine' et_cmp eq_okI ?_ ?_
        | with_reducible refine' et_cmp gt_okT ?_ ?_
        | with_reducible refine' et_cmp (neD_ok (by assumption)) ?_ ?_
        | with_reducible refine' et_tv ?_ (fun _ _ => rfl)
        | with_reducible refine' et_tv ?_ (fun _ _ => rfl))
      | ((with_reducible show Ets _ _ _ _ _ _); first
        | with_reducible refine' ets_one ?_)
      | ((with_reducible show Ei _ _ _ _ _ _); first
        | ((with_reducible refine' ei_list (by assumption) ?_)))
      | ((with_reducible show Ex _ _ _ _ _ _); first
        | ((with_reducible refine' ex_set ?_ ?_ (.inl ?a) rfl ?b); (case a => exact rfl); (case b => exact fun _ => rfl))
        | ((with_reducible refine' ex_set ?_ ?_ (.inr ?a) rfl ?b); (case a => exact rfl); (case b => exact fun _ => rfl))
        | ((with_reducible refine' ex_setRN ?_ ?_ rfl ?b ?sw); (case b => exact fun _ => rfl); (case sw => (intro env he; unfold swappedStores Env.blockKind Env.kindOf; rw [he]; rfl)))
        | ((with_reducible refine' ex_setTN ?_ ?_ rfl rfl ?b ?sw); (case b => exact fun _ => rfl); (case sw => (intro env he; first | rfl | (unfold swappedStores Env.blockKind Env.kindOf; rw [he]; rfl))))
        | ((with_reducible refine' ex_for (by assumption) ?_ ?_ ?_ ?_ ?fs); (case fs => exact fun _ _ => rfl))
        | with_reducible refine' ex_ret ?_
        | with_reducible refine' ex_if ?_ ?_ ?_
        | ((with_reducible refine' ex_expr ?_ rfl ?b); (case b => exact fun _ => rfl)))
      | ((with_reducible show Exs _ _ _ _ _ _); first
        | ((with_reducible refine' exs_setTok ?_ ?_ ?_ (.inl ?a) rfl ?h0 ?b); (case a => exact rfl); (case h0 => decide); (case b => exact fun _ => rfl))
        | with_reducible exact exs_nil
        | with_reducible refine' exs_cons ?_ ?_)
      | with_reducible exact evo_none
      | with_reducible refine' evo_some ?_
      | with_reducible exact lot_name
      | with_reducible exact lot_tup
      | ((with_reducible show Slots _ _ _ _); first | exact slots_nil | (refine' slots_cons ?_ ?_ (.inl ?a); (case a => exact rfl)) | (refine' slots_cons ?_ ?_ (.inr ?a); (case a => exact rfl)))
      | ((with_reducible refine' at_name ?_ (.inl ?a) rfl); (case a => exact rfl))
      | ((with_reducible refine' at_name ?_ (.inr ?a) rfl); (case a => exact rfl))
      | ((with_reducible refine' at_tupN ?_ rfl rfl))
      )
  case k =>
    exact fun args H Q h => thing_plain (c := (cx04 w h₀ mg mb aS vs ns)) h
set_option maxHeartbeats 4000000 in
theorem rd_ok (G : Good (cx04 w h₀ mg mb aS vs ns)) {d} : FnC (cx04 w h₀ mg mb aS vs ns) (d + 1 + 1) (.ref 65) readW := by
  refine' FnC.weaken (fn_ok (W := _) (ps := [Str.ofString "text"]) (rest := [Str.ofString "inner"]) G (G.X 65 _ rfl) rfl (codeRec_of G.X (by kernel_rfl)) rfl rfl ?hb rfl rfl rfl rfl rfl ?nd ?kd ?ex) ?k
  case hb => intro vals hl; match vals, hl with | [a], _ => rfl
  case nd => decide
  case kd => decide
  case ex =>
    dsimp only [List.append_nil, List.cons_append, List.nil_append]
    repeat' (first
      | with_reducible exact at0
      | with_reducible refine' atS ?_
      | ((with_reducible show Ev _ _ _ _ _ _); first
        | with_reducible exact ev_none
        | with_reducible exact ev_int
        | with_reducible exact ev_bool
        | with_reducible exact ev_str
        | ((with_reducible refine' ev_local ?_ ?a rfl (by decide)); (case a => exact rfl))
        | with_reducible refine' ev_list ?_
        | with_reducible refine' ev_tup ?_
        | with_reducible refine' ev_ifexp ?_ ?_ ?_
        | with_reducible refine' ev_bin sub_ok ?_ ?_
        | with_reducible refine' ev_bin (addV_ok (by assumption)) ?_ ?_
        | with_reducible refine' ev_bin mod_ok ?_ ?_
        | with_reducible refine' ev_bin div_ok ?_ ?_
        | with_reducible refine' ev_bin mul_ok ?_ ?_
        | ((with_reducible refine' ev_append ?_ ?_ ?b ?he); (case b => exact fun _ => rfl); (case he => exact fun _ => rfl))
        | ((with_reducible refine' ev_pop ?_ ?he); (case he => exact fun _ => rfl))
        | ((with_reducible refine' m_name (by assumption) ?_ ?he); (case he => exact fun _ => rfl))
        | ((with_reducible refine' m_ns (by assumption) ?_ ?he); (case he => exact fun _ => rfl))
        | ((with_reducible refine' slot_name (by assumption) ?_ ?he); (case he => exact fun _ => rfl))
        | ((with_reducible refine' slot_ns (by assumption) ?_ ?he); (case he => exact fun _ => rfl))
        | ((with_reducible refine' c_cls (by assumption) ?_ ?he); (case he => exact fun _ => rfl))
        | ((with_reducible refine' c_cnm (by assumption) ?_ ?he); (case he => exact fun _ => rfl))
        | ((with_reducible refine' c_ti (by assumption) ?_ rfl ?a); (case a => exact rfl))
        | ((with_reducible refine' c_thing (by assumption) (by assumption) ?_ rfl ?a); (case a => exact rfl))
        | ((with_reducible refine' c_read (by assumption) (by assumption) ?_ rfl ?a); (case a => exact rfl))
        | ((with_reducible refine' c_len (by assumption) ?_ rfl ?a); (case a => exact rfl))
        | ((with_reducible refine' c_str (by assumption) ?_ rfl ?a); (case a => exact rfl))
        | ((with_reducible refine' c_repr (by assumption) (by assumption) ?_ rfl ?a); (case a => exact rfl))
        | ((with_reducible refine' m_split ?_ ?_ ?b ?he); (case b => exact fun _ => rfl); (case he => exact fun _ => rfl))
        | ((with_reducible refine' m_join ?_ ?_ ?b ?he); (case b => exact fun _ => rfl); (case he => exact fun _ => rfl))
        | ((with_reducible refine' ev_cmp gt_okT ?_ ?_ ?hm); (case hm => with_unfolding_all rfl))
        | ((with_reducible refine' ev_joined ?_ ?hn); (case hn => decide))
        | with_reducible refine' ev_fvS ?_
        | with_reducible refine' ev_fvR (by assumption) ?_
        | with_reducible refine' ev_slice (by assumption) ?_ ?_ ?_ ?_
        | ((with_reducible refine' ev_comp (by assumption) ⟨rfl, rfl, ?nc, ?lc, ?nm, ?fe, ?nd, ?fr⟩ ?_ ?_ ?_ ?hs); (case nc => decide); (case lc => rfl); (case nm => decide); (case fe => decide); (case hs => exact fun _ _ => rfl); (case fr => (repeat' (first | with_reducible exact frs_nil | ((with_reducible refine' frs_free ?_ ?_ ?a); (case a => rfl)) | with_reducible refine' frs_local ?_ | with_reducible refine' frs_glob ?_ | with_reducible refine' frs_cell ?_ | with_reducible exact at0 | with_reducible refine' atS ?_))); (case nd => decide)))
      | ((with_reducible show Ejs _ _ _ _ _ _); first | with_reducible exact ejs_nil | with_reducible refine' ejs_cons ?_ ?_)
      | ((with_reducible show ExsT _ _ _ _ _ _); first | with_reducible refine' exsT_cons ?_ ?_ | with_reducible exact exsT_of exs_nil)
      | ((with_reducible show ExT _ _ _ _ _ _); first | with_reducible refine' exT_if ?_ ?_ ?_ | with_reducible refine' exT_ret ?_)
      | ((with_reducible show EvT _ _ _ _ _ _); first | with_reducible exact evT_str | with_reducible refine' evT_tup ?_ ?_ (fun _ => rfl) | with_reducible refine' evT_of ?_)
      | ((with_reducible show Evs _ _ _ _ _ _); first
        | with_reducible exact evs_nil
        | with_reducible refine' evs_cons ?_ ?_ (fun _ => rfl))
      | ((with_reducible show Et _ _ _ _ _ _); first
        | with_reducible refine' et_and ?_ ?_
        | with_reducible refine' et_or ?_ ?_
        | with_reducible refine' et_cmp (isnot_ok (by assumption)) ?_ ?_
        | with_reducible refine' et_cmp eq_okI ?_ ?_
        | with_reducible refine' et_cmp gt_okT ?_ ?_
        | with_reducible refine' et_cmp (neD_ok (by assumption)) ?_ ?_
        | with_reducible refine' et_tv ?_ (fun _ _ => rfl)
        | with_reducible refine' et_tv ?_ (fun _ _ => rfl))
      | ((with_reducible show Ets _ _ _ _ _ _); first
        | with_reducible refine' ets_one ?_)
      | ((with_reducible show Ei _ _ _ _ _ _); first
        | ((with_reducible refine' ei_list (by assumption) ?_)))
      | ((with_reducible show Ex _ _ _ _ _ _); first
        | ((with_reducible refine' ex_set ?_ ?_ (.inl ?a) rfl ?b); (case a => exact rfl); (case b => exact fun _ => rfl))
        | ((with_reducible refine' ex_set ?_ ?_ (.inr ?a) rfl ?b); (case a => exact rfl); (case b => exact fun _ => rfl))
        | ((with_reducible refine' ex_setRN ?_ ?_ rfl ?b ?sw); (case b => exact fun _ => rfl); (case sw => (intro env he; unfold swappedStores Env.blockKind Env.kindOf; rw [he]; rfl)))
        | ((with_reducible refine' ex_setTN ?_ ?_ rfl rfl ?b ?sw); (case b => exact fun _ => rfl); (case sw => (intro env he; first | rfl | (unfold swappedStores Env.blockKind Env.kindOf; rw [he]; rfl))))
        | ((with_reducible refine' ex_for (by assumption) ?_ ?_ ?_ ?_ ?fs); (case fs => exact fun _ _ => rfl))
        | with_reducible refine' ex_ret ?_
        | with_reducible refine' ex_if ?_ ?_ ?_
        | ((with_reducible refine' ex_expr ?_ rfl ?b); (case b => exact fun _ => rfl)))
      | ((with_reducible show Exs _ _ _ _ _ _); first
        | ((with_reducible refine' exs_setTok ?_ ?_ ?_ (.inl ?a) rfl ?h0 ?b); (case a => exact rfl); (case h0 => decide); (case b => exact fun _ => rfl))
        | with_reducible exact exs_nil
        | with_reducible refine' exs_cons ?_ ?_)
      | with_reducible exact evo_none
      | with_reducible refine' evo_some ?_
      | with_reducible exact lot_name
      | with_reducible exact lot_tup
      | ((with_reducible show Slots _ _ _ _); first | exact slots_nil | (refine' slots_cons ?_ ?_ (.inl ?a); (case a => exact rfl)) | (refine' slots_cons ?_ ?_ (.inr ?a); (case a => exact rfl)))
      | ((with_reducible refine' at_name ?_ (.inl ?a) rfl); (case a => exact rfl))
      | ((with_reducible refine' at_name ?_ (.inr ?a) rfl); (case a => exact rfl))
      | ((with_reducible refine' at_tupN ?_ rfl rfl))
      )
  case k =>
    exact fun args H Q h => read_plain (c := (cx04 w h₀ mg mb aS vs ns)) h
set_option maxHeartbeats 4000000 in
theorem law_step (G : Good (cx04 w h₀ mg mb aS vs ns)) (hT : FnC (cx04 w h₀ mg mb aS vs ns) 119 (.ref 72) thingW) (hR : FnC (cx04 w h₀ mg mb aS vs ns) 119 (.ref 65) readW) (hP : FnOK (cx04 w h₀ mg mb aS vs ns) 119 (.builtin "repr") (bRepr 80)) : FnC (cx04 w h₀ mg mb aS vs ns) (120) (.ref 79) (fun args H Q => args = [.script] ∧ H = [] ∧ ns.length ≤ 63 ∧ ∀ H', Q (.bool true) H') := by
  refine' FnC.weaken (fn_ok (W := _) (ps := [Str.ofString "script"]) (rest := [Str.ofString "pile", Str.ofString "made", Str.ofString "x", Str.ofString "namespace", Str.ofString "upper", Str.ofString "shown", Str.ofString "name", Str.ofString "lower", Str.ofString "other", Str.ofString "one", Str.ofString "thing", Str.ofString "word", Str.ofString "row"]) G (G.X 79 _ rfl) rfl (codeRec_of G.X (by kernel_rfl)) rfl rfl ?hb rfl rfl rfl rfl rfl ?nd ?kd ?ex) ?k
  case hb => intro vals hl; match vals, hl with | [a], _ => rfl
  case nd => decide
  case kd => decide
  case ex =>
    dsimp only [List.append_nil, List.cons_append, List.nil_append]
    repeat' (first
      | with_reducible exact at0
      | with_reducible refine' atS ?_
      | ((with_reducible show Ev _ _ _ _ _ _); first
        | with_reducible exact ev_none
        | with_reducible exact ev_int
        | with_reducible exact ev_bool
        | with_reducible exact ev_str
        | ((with_reducible refine' ev_local ?_ ?a rfl (by decide)); (case a => exact rfl))
        | with_reducible refine' ev_list ?_
        | with_reducible refine' ev_tup ?_
        | with_reducible refine' ev_ifexp ?_ ?_ ?_
        | with_reducible refine' ev_bin sub_ok ?_ ?_
        | with_reducible refine' ev_bin (addV_ok (by assumption)) ?_ ?_
        | with_reducible refine' ev_bin mod_ok ?_ ?_
        | with_reducible refine' ev_bin div_ok ?_ ?_
        | with_reducible refine' ev_bin mul_ok ?_ ?_
        | ((with_reducible refine' ev_append ?_ ?_ ?b ?he); (case b => exact fun _ => rfl); (case he => exact fun _ => rfl))
        | ((with_reducible refine' ev_pop ?_ ?he); (case he => exact fun _ => rfl))
        | ((with_reducible refine' m_name (by assumption) ?_ ?he); (case he => exact fun _ => rfl))
        | ((with_reducible refine' m_ns (by assumption) ?_ ?he); (case he => exact fun _ => rfl))
        | ((with_reducible refine' slot_name (by assumption) ?_ ?he); (case he => exact fun _ => rfl))
        | ((with_reducible refine' slot_ns (by assumption) ?_ ?he); (case he => exact fun _ => rfl))
        | ((with_reducible refine' c_cls (by assumption) ?_ ?he); (case he => exact fun _ => rfl))
        | ((with_reducible refine' c_cnm (by assumption) ?_ ?he); (case he => exact fun _ => rfl))
        | ((with_reducible refine' c_ti (by assumption) ?_ rfl ?a); (case a => exact rfl))
        | ((with_reducible refine' c_thing (by assumption) (by assumption) ?_ rfl ?a); (case a => exact rfl))
        | ((with_reducible refine' c_read (by assumption) (by assumption) ?_ rfl ?a); (case a => exact rfl))
        | ((with_reducible refine' c_len (by assumption) ?_ rfl ?a); (case a => exact rfl))
        | ((with_reducible refine' c_str (by assumption) ?_ rfl ?a); (case a => exact rfl))
        | ((with_reducible refine' c_repr (by assumption) (by assumption) ?_ rfl ?a); (case a => exact rfl))
        | ((with_reducible refine' m_split ?_ ?_ ?b ?he); (case b => exact fun _ => rfl); (case he => exact fun _ => rfl))
        | ((with_reducible refine' m_join ?_ ?_ ?b ?he); (case b => exact fun _ => rfl); (case he => exact fun _ => rfl))
        | ((with_reducible refine' ev_cmp gt_okT ?_ ?_ ?hm); (case hm => with_unfolding_all rfl))
        | ((with_reducible refine' ev_joined ?_ ?hn); (case hn => decide))
        | with_reducible refine' ev_fvS ?_
        | with_reducible refine' ev_fvR (by assumption) ?_
        | with_reducible refine' ev_slice (by assumption) ?_ ?_ ?_ ?_
        | ((with_reducible refine' ev_comp (by assumption) ⟨rfl, rfl, ?nc, ?lc, ?nm, ?fe, ?nd, ?fr⟩ ?_ ?_ ?_ ?hs); (case nc => decide); (case lc => rfl); (case nm => decide); (case fe => decide); (case hs => exact fun _ _ => rfl); (case fr => (repeat' (first | with_reducible exact frs_nil | ((with_reducible refine' frs_free ?_ ?_ ?a); (case a => rfl)) | with_reducible refine' frs_local ?_ | with_reducible refine' frs_glob ?_ | with_reducible refine' frs_cell ?_ | with_reducible exact at0 | with_reducible refine' atS ?_))); (case nd => decide)))
      | ((with_reducible show Ejs _ _ _ _ _ _); first | with_reducible exact ejs_nil | with_reducible refine' ejs_cons ?_ ?_)
      | ((with_reducible show ExsT _ _ _ _ _ _); first | with_reducible refine' exsT_cons ?_ ?_ | with_reducible exact exsT_of exs_nil)
      | ((with_reducible show ExT _ _ _ _ _ _); first | with_reducible refine' exT_if ?_ ?_ ?_ | with_reducible refine' exT_ret ?_)
      | ((with_reducible show EvT _ _ _ _ _ _); first | with_reducible exact evT_str | with_reducible refine' evT_tup ?_ ?_ (fun _ => rfl) | with_reducible refine' evT_of ?_)
      | ((with_reducible show Evs _ _ _ _ _ _); first
        | with_reducible exact evs_nil
        | with_reducible refine' evs_cons ?_ ?_ (fun _ => rfl))
      | ((with_reducible show Et _ _ _ _ _ _); first
        | with_reducible refine' et_and ?_ ?_
        | with_reducible refine' et_or ?_ ?_
        | with_reducible refine' et_cmp (isnot_ok (by assumption)) ?_ ?_
        | with_reducible refine' et_cmp eq_okI ?_ ?_
        | with_reducible refine' et_cmp gt_okT ?_ ?_
        | with_reducible refine' et_cmp (neD_ok (by assumption)) ?_ ?_
        | with_reducible refine' et_tv ?_ (fun _ _ => rfl)
        | with_reducible refine' et_tv ?_ (fun _ _ => rfl))
      | ((with_reducible show Ets _ _ _ _ _ _); first
        | with_reducible refine' ets_one ?_)
      | ((with_reducible show Ei _ _ _ _ _ _); first
        | ((with_reducible refine' ei_list (by assumption) ?_)))
      | ((with_reducible show Ex _ _ _ _ _ _); first
        | ((with_reducible refine' ex_set ?_ ?_ (.inl ?a) rfl ?b); (case a => exact rfl); (case b => exact fun _ => rfl))
        | ((with_reducible refine' ex_set ?_ ?_ (.inr ?a) rfl ?b); (case a => exact rfl); (case b => exact fun _ => rfl))
        | ((with_reducible refine' ex_setRN ?_ ?_ rfl ?b ?sw); (case b => exact fun _ => rfl); (case sw => (intro env he; unfold swappedStores Env.blockKind Env.kindOf; rw [he]; rfl)))
        | ((with_reducible refine' ex_setTN ?_ ?_ rfl rfl ?b ?sw); (case b => exact fun _ => rfl); (case sw => (intro env he; first | rfl | (unfold swappedStores Env.blockKind Env.kindOf; rw [he]; rfl))))
        | ((with_reducible refine' ex_for (by assumption) ?_ ?_ ?_ ?_ ?fs); (case fs => exact fun _ _ => rfl))
        | with_reducible refine' ex_ret ?_
        | with_reducible refine' ex_if ?_ ?_ ?_
        | ((with_reducible refine' ex_expr ?_ rfl ?b); (case b => exact fun _ => rfl)))
      | ((with_reducible show Exs _ _ _ _ _ _); first
        | ((with_reducible refine' exs_setTok ?_ ?_ ?_ (.inl ?a) rfl ?h0 ?b); (case a => exact rfl); (case h0 => decide); (case b => exact fun _ => rfl))
        | with_reducible exact exs_nil
        | with_reducible refine' exs_cons ?_ ?_)
      | with_reducible exact evo_none
      | with_reducible refine' evo_some ?_
      | with_reducible exact lot_name
      | with_reducible exact lot_tup
      | ((with_reducible show Slots _ _ _ _); first | exact slots_nil | (refine' slots_cons ?_ ?_ (.inl ?a); (case a => exact rfl)) | (refine' slots_cons ?_ ?_ (.inr ?a); (case a => exact rfl)))
      | ((with_reducible refine' at_name ?_ (.inl ?a) rfl); (case a => exact rfl))
      | ((with_reducible refine' at_name ?_ (.inr ?a) rfl); (case a => exact rfl))
      | ((with_reducible refine' at_tupN ?_ rfl rfl))
      )
  case k =>
    rintro args H Q ⟨rfl, rfl, hn, q⟩
    exact ⟨rfl, law04 (c := (cx04 w h₀ mg mb aS vs ns)) hn fun _ H' => q H'⟩
theorem law_ok (G : Good (cx04 w h₀ mg mb aS vs ns)) : FnC (cx04 w h₀ mg mb aS vs ns) 120 (.ref 79) (fun args H Q => args = [.script] ∧ H = [] ∧ ns.length ≤ 63 ∧ ∀ H', Q (.bool true) H') := law_step G (thing_ok G) (rd_ok G) (repr_b G)
end
end Mine

open Mine
set_option maxHeartbeats 8000000 in
theorem PySem.Challenge.cw_dn0274_04_holds : PySem.Challenge.rw_dn0274_04.Holds := by
  refine Mine.hd04 ?_
  intro w s₀ s₁ mg mb G Y fa o pm cd doc dV kV ho hd hcd hD hmg hg args vals as hpre hlay hrd hwl hlo
  have KX := kIn_of Y
  refine Ground.open G ?_
  intro T B D TE TW
  wrow_args hpre hlay hrd hwl hlo
  all_goals (
    first | refine callC_kw (enter_call ?_) | refine enter_call ?_ | refine callC_kw (enter_callW ?_) | refine enter_callW ?_ | w_how
    w_top on
    try refine codeAny_mono ?_ (fun _ _ g => GoodW.toG g))
  clear hd hcd hD
  rename_i ns _ _ _ _ _ _ _ aS vals _ hL _ _ _ hI _ hlen _
  have hG : Good (cx04 w s₁.heap mg mb aS vals ns) := ⟨T.g, T.b, T.nolimit, KX, T.builtins, hL, hI, fun a k n e => by cases e⟩
  have h79 : mg (Str.ofString "law") = some (.ref 79) := mg_of KX T.g (by kernel_rfl)
  have efa : fa = 79 := by
    have := hmg.symm.trans h79
    cases this; rfl
  subst efa
  refine law_ok hG callerA s₁ ⟨[], []⟩ [] [.script] [.ref aS] (fun v _ => v = .bool true) _ ⟨rfl, rfl, by decide, by decide⟩ ⟨fun _ _ e => e, fun _ _ _ h => (nomatch h), rfl, List.nodup_nil, fun k a lo e => by simp at e, fun _ h => (nomatch h), fun _ h => (nomatch h), (let ⟨o, _, _, ho, _⟩ := T.g; ⟨o, ho⟩), fun _ h => (nomatch h)⟩ (.cons .script .nil) ⟨rfl, rfl, by (first | lia | omega), fun _ => rfl⟩ fun x s' p => ?_
  obtain ⟨v, H, φ', rfl, ok, rv, g, r⟩ := p
  cases rv
  obtain ⟨h', t', rfl⟩ := r
  exact ⟨.inl ⟨.bool true, .bool true, [], rfl, fun cls => rfl, .bool true, by first | kernel_rfl | (show (decide _) = true; simp) | trace_state, unshared_nil⟩, ok.base, rfl, hg⟩
