import PyProof.Rows.All
import Wide.All
import OpenK.AllK
import Wide.FinOn
import PySem.Challenge.RW_dn0274_09
open PySem PySem.W PyProof.Rows
set_option Elab.async false
set_option linter.all false
set_option maxRecDepth 100000
namespace Mine

/-- abstract values -/
inductive V where
  | none
  | bool (b : Bool)
  | int (i : Int)
  | str (s : Str)
  | loc (k : Nat)
  | tup (vs : List V)
  | obj (c : Nat) (fs : List V)
  | glob (a : Addr)
  | script

/-- abstract mutable objects -/
inductive LO where
  | list (xs : List V)
  | inst (c : Nat) (fs : List (Option V))
  | dict (kvs : List (Int × V))
  | tab (n : Nat)

noncomputable abbrev HW := List LO
noncomputable abbrev Sl := List (Option V)

/-- what stays as it is throughout the law's call -/
structure Cx where
  prog : Program
  w : World
  h₀ : Heap
  mg : Str → Option Value
  mb : Str → Option Value
  K : Frag
  aS : Addr
  vs : List Value
  ns : List Int
  cls : Nat → Addr
  gC : Addr → Option (Nat × Nat)

structure Good (c : Cx) : Prop where
  G : c.h₀.Ns mainGlobals c.mg
  B : c.h₀.Ns builtinsNs c.mb
  NL : c.h₀.NoLimit
  X : c.K.In c.h₀
  BB : ∀ x, x ≠ Str.ofString "__name__" → c.mb x = bootBuiltins x
  S : c.h₀.IsList c.aS c.vs.toArray
  I : IntsAre c.vs c.ns
  gl : ∀ a k n, c.gC a = some (k, n) → ∃ b, c.h₀.get? a = some ⟨.ref (c.cls k), some b, .plain, (List.replicate n (some Value.none)).toArray⟩ ∧ c.h₀.get? b = some (dictOf [] 0)

/-- which addresses bear the tracked objects, and which bear what values lean on and nothing turns -/
structure Mp where
  l : List Addr
  z : List Addr

mutual
inductive RepV (c : Cx) (φ : Mp) (h : Heap) : V → Value → Prop
  | none : RepV c φ h .none .none
  | bool {b} : RepV c φ h (.bool b) (.bool b)
  | int {i t} : RepV c φ h (.int i) (.int i t)
  | str {s t} : RepV c φ h (.str s) (.str s t)
  | loc {k a} : φ.l[k]? = some a → RepV c φ h (.loc k) (.ref a)
  | tup {vs xs a n} : a ∉ φ.l → a ∈ φ.z → c.h₀.get? a = none → h.get? a = some { cls := .type "tuple", data := .seq xs.toArray n } → RepVs c φ h vs xs → RepV c φ h (.tup vs) (.ref a)
  | obj {k fs xs a b} {sl : Array (Option Value)} : a ∉ φ.l → a ∈ φ.z → b ∉ φ.l → b ∈ φ.z → c.h₀.get? a = none → h.get? a = some ⟨.ref (c.cls k), some b, .plain, sl⟩ → (∀ i : Nat, (sl[i]?).join = xs[i]?) → h.get? b = some (dictOf [] 0) → RepVs c φ h fs xs → RepV c φ h (.obj k fs) (.ref a)
  | glob {a o} : c.h₀.get? a = some o → RepV c φ h (.glob a) (.ref a)
  | script : RepV c φ h .script (.ref c.aS)
inductive RepVs (c : Cx) (φ : Mp) (h : Heap) : List V → List Value → Prop
  | nil : RepVs c φ h [] []
  | cons {v x vs xs} : RepV c φ h v x → RepVs c φ h vs xs → RepVs c φ h (v :: vs) (x :: xs)
end

/-- the heap has grown; what is not tracked stands as it stood -/
structure Grow (φ : Mp) (h : Heap) (φ' : Mp) (h' : Heap) : Prop where
  ext : ∃ δ ζ, φ'.l = φ.l ++ δ ∧ φ'.z = φ.z ++ ζ ∧ (∀ a ∈ δ, h.get? a = none) ∧ ∀ a ∈ ζ, h.get? a = none
  keep : ∀ b o, h.get? b = some o → b ∉ φ.l → h'.get? b = some o
  live : ∀ b o, h.get? b = some o → ∃ o', h'.get? b = some o'

theorem Grow.nin {φ h φ' h'} (g : Grow φ h φ' h') {a o} (n : a ∉ φ.l) (e : h.get? a = some o) : a ∉ φ'.l := by
  obtain ⟨δ, ζ, e1, e2, hd, hz⟩ := g.ext
  rw [e1]
  intro m
  rcases List.mem_append.mp m with m | m
  · exact n m
  · rw [hd a m] at e; cases e
theorem Grow.ninz {φ h φ' h'} (g : Grow φ h φ' h') {a o} (n : a ∉ φ.z) (e : h.get? a = some o) : a ∉ φ'.z := by
  obtain ⟨δ, ζ, e1, e2, hd, hz⟩ := g.ext
  rw [e2]
  intro m
  rcases List.mem_append.mp m with m | m
  · exact n m
  · rw [hz a m] at e; cases e
theorem Grow.inz {φ h φ' h'} (g : Grow φ h φ' h') {a} (n : a ∈ φ.z) : a ∈ φ'.z := by
  obtain ⟨δ, ζ, e1, e2, hd, hz⟩ := g.ext
  rw [e2]; exact List.mem_append_left _ n
theorem Grow.at {φ h φ' h'} (g : Grow φ h φ' h') {k : Nat} {a} (e : φ.l[k]? = some a) : φ'.l[k]? = some a := by
  obtain ⟨δ, ζ, e1, _, _⟩ := g.ext
  rw [e1, List.getElem?_append_left]
  · exact e
  · exact (List.getElem?_eq_some_iff.mp e).1
theorem Grow.refl (φ h) : Grow φ h φ h := ⟨⟨[], [], by simp, by simp, by simp, by simp⟩, fun _ _ e _ => e, fun _ o e => ⟨o, e⟩⟩
theorem Grow.trans {φ h φ₁ h₁ φ₂ h₂} (g : Grow φ h φ₁ h₁) (g' : Grow φ₁ h₁ φ₂ h₂) : Grow φ h φ₂ h₂ := by
  refine ⟨?_, fun b o e n => g'.keep b o (g.keep b o e n) (g.nin n e), fun b o e => ?_⟩
  · obtain ⟨δ, ζ, e1, e2, hd, hz⟩ := g.ext
    obtain ⟨δ', ζ', e1', e2', hd', hz'⟩ := g'.ext
    refine ⟨δ ++ δ', ζ ++ ζ', by simp [e1, e1'], by simp [e2, e2'], fun a m => ?_, fun a m => ?_⟩
    · rcases List.mem_append.mp m with m | m
      · exact hd a m
      · cases q : h.get? a with
        | none => rfl
        | some o => obtain ⟨o', e'⟩ := g.live a o q; rw [hd' a m] at e'; cases e'
    · rcases List.mem_append.mp m with m | m
      · exact hz a m
      · cases q : h.get? a with
        | none => rfl
        | some o => obtain ⟨o', e'⟩ := g.live a o q; rw [hz' a m] at e'; cases e'
  · obtain ⟨o', e'⟩ := g.live b o e
    exact g'.live b o' e'
/-- nothing tracked is touched, nothing new is tracked -/
theorem Grow.of_keep {φ h h'} (k : ∀ b o, h.get? b = some o → h'.get? b = some o) : Grow φ h φ h' :=
  ⟨⟨[], [], by simp, by simp, by simp, by simp⟩, fun b o e _ => k b o e, fun b o e => ⟨o, k b o e⟩⟩

mutual
theorem RepV.grow {c : Cx} {φ h φ' h'} (g : Grow φ h φ' h') : ∀ {v x}, RepV c φ h v x → RepV c φ' h' v x
  | _, _, .none => .none
  | _, _, .bool => .bool
  | _, _, .int => .int
  | _, _, .str => .str
  | _, _, .loc e => .loc (g.at e)
  | _, _, .tup n z n0 e r => .tup (g.nin n e) (g.inz z) n0 (g.keep _ _ e n) (RepVs.grow g r)
  | _, _, .obj n z m y n0 e es e' r => .obj (g.nin n e) (g.inz z) (g.nin m e') (g.inz y) n0 (g.keep _ _ e n) es (g.keep _ _ e' m) (RepVs.grow g r)
  | _, _, .glob e => .glob e
  | _, _, .script => .script
theorem RepVs.grow {c : Cx} {φ h φ' h'} (g : Grow φ h φ' h') : ∀ {vs xs}, RepVs c φ h vs xs → RepVs c φ' h' vs xs
  | _, _, .nil => .nil
  | _, _, .cons r rs => .cons (RepV.grow g r) (RepVs.grow g rs)
end

mutual
theorem RepV.keep {c : Cx} {φ h h'} (g : ∀ b o, b ∈ φ.z → h.get? b = some o → h'.get? b = some o) : ∀ {v x}, RepV c φ h v x → RepV c φ h' v x
  | _, _, .none => .none
  | _, _, .bool => .bool
  | _, _, .int => .int
  | _, _, .str => .str
  | _, _, .loc e => .loc e
  | _, _, .tup n z n0 e r => .tup n z n0 (g _ _ z e) (RepVs.keep g r)
  | _, _, .obj n z m y n0 e es e' r => .obj n z m y n0 (g _ _ z e) es (g _ _ y e') (RepVs.keep g r)
  | _, _, .glob e => .glob e
  | _, _, .script => .script
theorem RepVs.keep {c : Cx} {φ h h'} (g : ∀ b o, b ∈ φ.z → h.get? b = some o → h'.get? b = some o) : ∀ {vs xs}, RepVs c φ h vs xs → RepVs c φ h' vs xs
  | _, _, .nil => .nil
  | _, _, .cons r rs => .cons (RepV.keep g r) (RepVs.keep g rs)
end

theorem RepVs.length {c : Cx} {φ h} : ∀ {vs xs}, RepVs c φ h vs xs → vs.length = xs.length
  | _, _, .nil => rfl
  | _, _, .cons _ r => by simp [r.length]
theorem RepVs.get {c : Cx} {φ h} : ∀ {vs xs}, RepVs c φ h vs xs → ∀ {i : Nat} {v}, vs[i]? = some v → ∃ x, xs[i]? = some x ∧ RepV c φ h v x
  | _, _, .nil, i, v, e => by simp at e
  | _, _, .cons r rs, 0, v, e => by
    simp at e; subst e; exact ⟨_, rfl, r⟩
  | _, _, .cons r rs, i + 1, v, e => by
    simp at e; obtain ⟨x, h1, h2⟩ := rs.get e; exact ⟨x, by simpa using h1, h2⟩
theorem RepVs.append {c : Cx} {φ h} : ∀ {vs xs ws ys}, RepVs c φ h vs xs → RepVs c φ h ws ys → RepVs c φ h (vs ++ ws) (xs ++ ys)
  | _, _, _, _, .nil, s => s
  | _, _, _, _, .cons r rs, s => .cons r (rs.append s)
theorem RepVs.take {c : Cx} {φ h} : ∀ {vs xs}, RepVs c φ h vs xs → ∀ n : Nat, RepVs c φ h (vs.take n) (xs.take n)
  | _, _, .nil, n => by simp; exact .nil
  | _, _, .cons r rs, 0 => by simp; exact .nil
  | _, _, .cons r rs, n + 1 => by simp; exact .cons r (rs.take n)
theorem RepVs.reverse {c : Cx} {φ h} : ∀ {vs xs}, RepVs c φ h vs xs → RepVs c φ h vs.reverse xs.reverse
  | _, _, .nil => .nil
  | _, _, .cons r rs => by simp only [List.reverse_cons]; exact rs.reverse.append (.cons r .nil)

/-- the object of the heap that bears an abstract one -/
inductive RepO (c : Cx) (φ : Mp) (h : Heap) : LO → Obj → Prop
  | list {vs xs n} : RepVs c φ h vs xs → RepO c φ h (.list vs) { cls := .type "list", data := .seq xs.toArray n }
  | inst {k : Nat} {fs : List (Option V)} {xs : Array (Option Value)} {b : Addr} : (∀ (i : Nat) v, (fs[i]?).join = some v → ∃ x, (xs[i]?).join = some x ∧ RepV c φ h v x) → (∀ i : Nat, (fs[i]?).join = none → (xs[i]?).join = none) →
      b ∉ φ.l → b ∈ φ.z → h.get? b = some (dictOf [] 0) → RepO c φ h (.inst k fs) ⟨.ref (c.cls k), some b, .plain, xs⟩
  | dict {kvs : List (Int × V)} {xs : List (Int × Value)} {o : Obj} : o.IsDictOf (intKind c.prog c.w) xs → xs.map (·.1) = kvs.map (·.1) → RepVs c φ h (kvs.map (·.2)) (xs.map (·.2)) → RepO c φ h (.dict kvs) o
  | tab {n : Nat} {ps : Array Value} : ps.size = n → RepO c φ h (.tab n) { cls := .none, data := .fields ps }

theorem RepO.grow {c : Cx} {φ h φ' h'} (g : Grow φ h φ' h') {lo o} (r : RepO c φ h lo o) : RepO c φ' h' lo o := by
  cases r with
  | list r => exact .list (r.grow g)
  | dict d k r => exact .dict d k (r.grow g)
  | tab e => exact .tab e
  | inst r z n y e => exact .inst (fun i v e => by obtain ⟨x, h1, h2⟩ := r i v e; exact ⟨x, h1, h2.grow g⟩) z (g.nin n e) (g.inz y) (g.keep _ _ e n)
theorem RepO.keep {c : Cx} {φ h h'} (g : ∀ b o, b ∈ φ.z → h.get? b = some o → h'.get? b = some o) {lo o} (r : RepO c φ h lo o) : RepO c φ h' lo o := by
  cases r with
  | list r => exact .list (r.keep g)
  | dict d k r => exact .dict d k (r.keep g)
  | tab e => exact .tab e
  | inst r z n y e => exact .inst (fun i v e => by obtain ⟨x, h1, h2⟩ := r i v e; exact ⟨x, h1, h2.keep g⟩) z n y (g _ _ y e)

structure Ok (c : Cx) (φ : Mp) (H : HW) (h : Heap) : Prop where
  base : ∀ b o, c.h₀.get? b = some o → h.get? b = some o
  off : ∀ b o, c.h₀.get? b = some o → b ∉ φ.l
  len : φ.l.length = H.length
  nodup : φ.l.Nodup
  objs : ∀ (k : Nat) a lo, φ.l[k]? = some a → H[k]? = some lo → ∃ o, h.get? a = some o ∧ RepO c φ h lo o
  dj : ∀ a, a ∈ φ.z → a ∉ φ.l
  zl : ∀ a, a ∈ φ.z → ∃ o, h.get? a = some o
  g0 : ∃ o, c.h₀.get? mainGlobals = some o
  sm : ∀ a, a ∈ φ.l → a ≠ sysModules
theorem Ok.newS {c φ H h} (ok : Ok c φ H h) : h.objs.size ≠ sysModules := by
  obtain ⟨o, e⟩ := ok.g0
  have := Heap.lt_size (ok.base _ _ e)
  intro q
  rw [q] at this
  exact absurd this (by decide)
theorem Ok.newS1 {c φ H h} (ok : Ok c φ H h) : h.objs.size + 1 ≠ sysModules := by
  obtain ⟨o, e⟩ := ok.g0
  have := Heap.lt_size (ok.base _ _ e)
  intro q
  have h2 : mainGlobals < h.objs.size + 1 := Nat.lt_succ_of_lt this
  rw [q] at h2
  exact absurd h2 (by decide)

theorem Ok.live {c φ H h} (ok : Ok c φ H h) {a} (m : a ∈ φ.l) : ∃ o, h.get? a = some o := by
  obtain ⟨k, hk, e⟩ := List.getElem_of_mem m
  have hk' : k < H.length := by rw [← ok.len]; exact hk
  obtain ⟨o, e', _⟩ := ok.objs k a H[k] (by rw [List.getElem?_eq_getElem hk, e]) (List.getElem?_eq_getElem hk')
  exact ⟨o, e'⟩
/-- untracked objects alone are new -/
theorem Ok.keep {c φ H h h'} (ok : Ok c φ H h) (k : ∀ b o, h.get? b = some o → h'.get? b = some o) : Ok c φ H h' :=
  ⟨fun b o e => k b o (ok.base b o e), ok.off, ok.len, ok.nodup, fun i a lo e1 e2 => by
    obtain ⟨o, h1, h2⟩ := ok.objs i a lo e1 e2
    exact ⟨o, k _ _ h1, h2.keep fun b o _ e => k b o e⟩, ok.dj, fun a m => by obtain ⟨o, e⟩ := ok.zl a m; exact ⟨o, k _ _ e⟩, ok.g0, ok.sm⟩
/-- an object that is neither tracked nor leant on is turned -/
theorem Ok.same {c φ H h h'} (ok : Ok c φ H h) {L : Addr} (n : L ∉ φ.l) (z : L ∉ φ.z) (n0 : c.h₀.get? L = none) (k : ∀ b o, b ≠ L → h.get? b = some o → h'.get? b = some o) : Ok c φ H h' :=
  ⟨fun b o e => k b o (fun q => by rw [q, n0] at e; cases e) (ok.base b o e), ok.off, ok.len, ok.nodup, fun i a lo e1 e2 => by
    obtain ⟨o, h1, h2⟩ := ok.objs i a lo e1 e2
    exact ⟨o, k _ _ (fun q => n (q ▸ List.mem_of_getElem? e1)) h1, h2.keep fun b o y e => k b o (fun q => z (q ▸ y)) e⟩, ok.dj, fun a m => by obtain ⟨o, e⟩ := ok.zl a m; exact ⟨o, k _ _ (fun q => z (q ▸ m)) e⟩, ok.g0, ok.sm⟩
/-- a new object that values lean on -/
theorem Ok.freeze {c φ H h h'} (ok : Ok c φ H h) {a : Addr} {o : Obj} (n : h.get? a = none) (k : ∀ b o, h.get? b = some o → h'.get? b = some o) (e : h'.get? a = some o) :
    Ok c ⟨φ.l, φ.z ++ [a]⟩ H h' ∧ Grow φ h ⟨φ.l, φ.z ++ [a]⟩ h' := by
  have g : Grow φ h ⟨φ.l, φ.z ++ [a]⟩ h' := ⟨⟨[], [a], by simp, rfl, by simp, fun b m => by rw [List.mem_singleton.mp m]; exact n⟩, fun b o e _ => k b o e, fun b o e => ⟨o, k b o e⟩⟩
  refine ⟨⟨fun b o e => k b o (ok.base b o e), ok.off, ok.len, ok.nodup, fun i x lo' e1 e2 => ?_, fun b m => ?_, fun b m => ?_, ok.g0, ok.sm⟩, g⟩
  · obtain ⟨o', h1, h2⟩ := ok.objs i x lo' e1 e2
    exact ⟨o', k _ _ h1, h2.grow g⟩
  · rcases List.mem_append.mp m with m | m
    · exact ok.dj b m
    · rw [List.mem_singleton.mp m]
      intro q
      obtain ⟨o', e'⟩ := ok.live q
      rw [n] at e'; cases e'
  · rcases List.mem_append.mp m with m | m
    · obtain ⟨o, e⟩ := ok.zl b m; exact ⟨o, k _ _ e⟩
    · rw [List.mem_singleton.mp m]; exact ⟨o, e⟩
/-- a new tracked object -/
theorem Ok.alloc {c φ H h h'} (ok : Ok c φ H h) {a : Addr} {o : Obj} {lo : LO} (n : h.get? a = none) (k : ∀ b o, h.get? b = some o → h'.get? b = some o) (e : h'.get? a = some o) (r : RepO c φ h lo o) (hm : a ≠ sysModules) :
    Ok c ⟨φ.l ++ [a], φ.z⟩ (H ++ [lo]) h' ∧ Grow φ h ⟨φ.l ++ [a], φ.z⟩ h' := by
  have g : Grow φ h ⟨φ.l ++ [a], φ.z⟩ h' := ⟨⟨[a], [], rfl, by simp, fun b m => by rw [List.mem_singleton.mp m]; exact n, by simp⟩, fun b o e _ => k b o e, fun b o e => ⟨o, k b o e⟩⟩
  refine ⟨⟨fun b o e => k b o (ok.base b o e), fun b o e m => ?_, by simp [ok.len], ?_, fun i x lo' e1 e2 => ?_, fun b m q => ?_, fun b m => by obtain ⟨o, e⟩ := ok.zl b m; exact ⟨o, k _ _ e⟩, ok.g0, fun b m => (List.mem_append.mp m).elim (ok.sm b) fun q => by rw [List.mem_singleton.mp q]; exact hm⟩, g⟩
  · rcases List.mem_append.mp m with m | m
    · exact ok.off b o e m
    · rw [List.mem_singleton.mp m] at e; have := ok.base a o e; rw [n] at this; cases this
  · refine List.nodup_append.mpr ⟨ok.nodup, by simp, fun x m y m' q => ?_⟩
    rw [List.mem_singleton.mp m'] at q
    obtain ⟨o', e'⟩ := ok.live m
    rw [q, n] at e'; cases e'
  · by_cases hi : i < φ.l.length
    · rw [List.getElem?_append_left hi] at e1
      rw [List.getElem?_append_left (by rw [← ok.len]; exact hi)] at e2
      obtain ⟨o', h1, h2⟩ := ok.objs i x lo' e1 e2
      exact ⟨o', k _ _ h1, h2.grow g⟩
    · have hi' : φ.l.length ≤ i := Nat.not_lt.mp hi
      rw [List.getElem?_append_right hi'] at e1
      rw [List.getElem?_append_right (by rw [← ok.len]; exact hi'), ← ok.len] at e2
      cases q : i - φ.l.length with
      | zero =>
        rw [q] at e1 e2
        simp at e1 e2
        subst e1 e2
        exact ⟨o, e, r.grow g⟩
      | succ j => rw [q] at e1; simp at e1
  · rcases List.mem_append.mp q with q | q
    · exact ok.dj b m q
    · obtain ⟨o', e'⟩ := ok.zl b m
      rw [List.mem_singleton.mp q, n] at e'; cases e'
/-- a tracked object is turned -/
theorem Ok.put {c φ H h h'} (ok : Ok c φ H h) {k : Nat} {a : Addr} {o : Obj} {lo : LO} (ek : φ.l[k]? = some a) (sb : ∀ b o, b ≠ a → h.get? b = some o → h'.get? b = some o) (e : h'.get? a = some o) (r : RepO c φ h lo o) :
    Ok c φ (H.set k lo) h' ∧ Grow φ h φ h' := by
  have ma : a ∈ φ.l := List.mem_of_getElem? ek
  have g : Grow φ h φ h' := ⟨⟨[], [], by simp, by simp, by simp, by simp⟩, fun b o e n => sb b o (fun q => n (q ▸ ma)) e, fun b o' e' => by
    by_cases q : b = a
    · exact ⟨o, q ▸ e⟩
    · exact ⟨o', sb b o' q e'⟩⟩
  refine ⟨⟨fun b o e => sb b o (fun q => ok.off b o e (q ▸ ma)) (ok.base b o e), ok.off, by simp [ok.len], ok.nodup, fun i x lo' e1 e2 => ?_, ok.dj, fun b m => by obtain ⟨o, e⟩ := ok.zl b m; exact ⟨o, sb _ _ (fun q => ok.dj b m (q ▸ ma)) e⟩, ok.g0, ok.sm⟩, g⟩
  by_cases q : i = k
  · subst q
    rw [e1] at ek
    cases ek
    rw [List.getElem?_set_self (by rw [← ok.len]; exact (List.getElem?_eq_some_iff.mp e1).1)] at e2
    cases e2
    exact ⟨o, e, r.grow g⟩
  · rw [List.getElem?_set_ne (Ne.symm q)] at e2
    obtain ⟨o', h1, h2⟩ := ok.objs i x lo' e1 e2
    refine ⟨o', sb _ _ (fun z => q ?_) h1, h2.grow g⟩
    subst z
    obtain ⟨l1, e1'⟩ := List.getElem?_eq_some_iff.mp e1
    obtain ⟨l2, ek'⟩ := List.getElem?_eq_some_iff.mp ek
    exact (List.getElem_inj (h₀ := l1) (h₁ := l2) ok.nodup).mp (e1'.trans ek'.symm)
end Mine

namespace Mine

inductive Fl where
  | next
  | ret (v : V)

noncomputable def RepF (c : Cx) (φ : Mp) (h : Heap) : Fl → Flow → Prop
  | .next, .next => True
  | .ret v, .ret x => RepV c φ h v x
  | _, _ => False

structure EnvOK (sc : Scope) (env : Env) : Prop where
  scope : env.scope = sc
  glob : env.globals = mainGlobals
  bi : env.builtins = builtinsNs
theorem EnvOK.kind {sc env} (e : EnvOK sc env) (x : Str) : env.kindOf x = sc.names.lookup x := by
  unfold Env.kindOf; rw [e.scope]

structure AOK (d : Nat) (A : Around) : Prop where
  handled : A.handled = none
  depth : A.depth + d < 900
  units : A.units + 20 * d < 9000

noncomputable def Rest (s s' : Shared) : Prop := ∃ h t, s' = { s with heap := h, toks := t }
theorem Rest.refl (s : Shared) : Rest s s := ⟨s.heap, s.toks, rfl⟩
theorem Rest.trans {a b c : Shared} (x : Rest a b) (y : Rest b c) : Rest a c := by
  obtain ⟨_, _, rfl⟩ := x
  obtain ⟨_, _, rfl⟩ := y
  exact ⟨_, _, rfl⟩
theorem Rest.mk (s : Shared) (h t) : Rest s { s with heap := h, toks := t } := ⟨h, t, rfl⟩

structure Vars (c : Cx) (ρ : List Str) (φ : Mp) (h : Heap) (env : Env) (sl : Sl) : Prop where
  nd : ρ.Nodup
  len : sl.length = ρ.length
  offL : env.locals ∉ φ.l
  offZ : env.locals ∉ φ.z
  newL : c.h₀.get? env.locals = none
  loc : ∃ m, h.Ns env.locals m ∧ ∀ (i : Nat) x v, ρ[i]? = some x → env.kindOf x = some .local → sl[i]? = some (some v) → ∃ y, m x = some y ∧ RepV c φ h v y
  offC : ∀ x a, env.cells.lookup x = some a → a ∉ φ.l ∧ a ∉ φ.z ∧ c.h₀.get? a = none ∧ ∃ y, h.IsCell a y
  inj : ∀ x y a, env.cells.lookup x = some a → env.cells.lookup y = some a → x = y
  cel : ∀ (i : Nat) x v, ρ[i]? = some x → (env.kindOf x = some .cell ∨ env.kindOf x = some .free) → sl[i]? = some (some v) → ∃ a y, env.cells.lookup x = some a ∧ h.IsCell a (some y) ∧ RepV c φ h v y
  has : ∀ (i : Nat) x, ρ[i]? = some x → env.kindOf x = some .cell → ∃ a, env.cells.lookup x = some a

theorem Vars.grow {c ρ φ h env sl φ' h'} (v : Vars c ρ φ h env sl) (g : Grow φ h φ' h') : Vars c ρ φ' h' env sl := by
  obtain ⟨m, hn, hm⟩ := v.loc
  obtain ⟨o, es, ep, ho, r⟩ := id hn
  refine ⟨v.nd, v.len, g.nin v.offL ho, g.ninz v.offZ ho, v.newL, ⟨m, ⟨o, es, ep, g.keep _ _ ho v.offL, r⟩, fun i x w h1 h2 h3 => ?_⟩, fun x a e => ?_, v.inj, fun i x w h1 h2 h3 => ?_, v.has⟩
  · obtain ⟨y, h4, h5⟩ := hm i x w h1 h2 h3
    exact ⟨y, h4, h5.grow g⟩
  · obtain ⟨n, z, n0, y, o', ho', hd⟩ := v.offC x a e
    exact ⟨g.nin n ho', g.ninz z ho', n0, y, o', g.keep _ _ ho' n, hd⟩
  · obtain ⟨a, y, h4, ⟨o', ho', hd⟩, h6⟩ := v.cel i x w h1 h2 h3
    exact ⟨a, y, h4, ⟨o', g.keep _ _ ho' (v.offC x a h4).1, hd⟩, h6.grow g⟩

/-- what statements leave as it was -/
structure GrowS (env : Env) (φ : Mp) (h : Heap) (φ' : Mp) (h' : Heap) : Prop where
  ext : ∃ δ ζ, φ'.l = φ.l ++ δ ∧ φ'.z = φ.z ++ ζ ∧ (∀ a ∈ δ, h.get? a = none) ∧ ∀ a ∈ ζ, h.get? a = none
  keep : ∀ b o, h.get? b = some o → b ∉ φ.l → b ≠ env.locals → (∀ x, env.cells.lookup x ≠ some b) → h'.get? b = some o
  live : ∀ b o, h.get? b = some o → ∃ o', h'.get? b = some o'
theorem GrowS.nin {env φ h φ' h'} (g : GrowS env φ h φ' h') {a o} (n : a ∉ φ.l) (e : h.get? a = some o) : a ∉ φ'.l := by
  obtain ⟨δ, ζ, e1, e2, hd, hz⟩ := g.ext
  rw [e1]
  intro m
  rcases List.mem_append.mp m with m | m
  · exact n m
  · rw [hd a m] at e; cases e
theorem GrowS.ninz {env φ h φ' h'} (g : GrowS env φ h φ' h') {a o} (n : a ∉ φ.z) (e : h.get? a = some o) : a ∉ φ'.z := by
  obtain ⟨δ, ζ, e1, e2, hd, hz⟩ := g.ext
  rw [e2]
  intro m
  rcases List.mem_append.mp m with m | m
  · exact n m
  · rw [hz a m] at e; cases e
theorem GrowS.at {env φ h φ' h'} (g : GrowS env φ h φ' h') {k : Nat} {a} (e : φ.l[k]? = some a) : φ'.l[k]? = some a := by
  obtain ⟨δ, ζ, e1, _, _⟩ := g.ext
  rw [e1, List.getElem?_append_left]
  · exact e
  · exact (List.getElem?_eq_some_iff.mp e).1
theorem GrowS.trans {env φ h φ₁ h₁ φ₂ h₂} (g : GrowS env φ h φ₁ h₁) (g' : GrowS env φ₁ h₁ φ₂ h₂) : GrowS env φ h φ₂ h₂ := by
  refine ⟨?_, fun b o e n n1 n2 => g'.keep b o (g.keep b o e n n1 n2) (g.nin n e) n1 n2, fun b o e => ?_⟩
  · obtain ⟨δ, ζ, e1, e2, hd, hz⟩ := g.ext
    obtain ⟨δ', ζ', e1', e2', hd', hz'⟩ := g'.ext
    refine ⟨δ ++ δ', ζ ++ ζ', by simp [e1, e1'], by simp [e2, e2'], fun a m => ?_, fun a m => ?_⟩
    · rcases List.mem_append.mp m with m | m
      · exact hd a m
      · cases q : h.get? a with
        | none => rfl
        | some o => obtain ⟨o', e'⟩ := g.live a o q; rw [hd' a m] at e'; cases e'
    · rcases List.mem_append.mp m with m | m
      · exact hz a m
      · cases q : h.get? a with
        | none => rfl
        | some o => obtain ⟨o', e'⟩ := g.live a o q; rw [hz' a m] at e'; cases e'
  · obtain ⟨o', e'⟩ := g.live b o e
    exact g'.live b o' e'
theorem GrowS.refl (env φ h) : GrowS env φ h φ h := ⟨⟨[], [], by simp, by simp, by simp, by simp⟩, fun _ _ e _ _ _ => e, fun _ o e => ⟨o, e⟩⟩
theorem Grow.toS {env φ h φ' h'} (g : Grow φ h φ' h') : GrowS env φ h φ' h' := ⟨g.ext, fun b o e n _ _ => g.keep b o e n, g.live⟩

noncomputable def PostE (c : Cx) (φ : Mp) (s : Shared) (Q : V → HW → Prop) (x : Value) (s' : Shared) : Prop :=
  ∃ v H φ', Q v H ∧ Ok c φ' H s'.heap ∧ RepV c φ' s'.heap v x ∧ Grow φ s.heap φ' s'.heap ∧ Rest s s'
noncomputable def PostEs (c : Cx) (φ : Mp) (s : Shared) (Q : List V → HW → Prop) (x : List Value) (s' : Shared) : Prop :=
  ∃ v H φ', Q v H ∧ Ok c φ' H s'.heap ∧ RepVs c φ' s'.heap v x ∧ Grow φ s.heap φ' s'.heap ∧ Rest s s'
noncomputable def PostT (c : Cx) (φ : Mp) (s : Shared) (Q : Bool → HW → Prop) (b : Bool) (s' : Shared) : Prop :=
  ∃ H φ', Q b H ∧ Ok c φ' H s'.heap ∧ Grow φ s.heap φ' s'.heap ∧ Rest s s'
noncomputable def PostS (c : Cx) (ρ : List Str) (env : Env) (φ : Mp) (s : Shared) (Q : Fl → Sl → HW → Prop) (f : Flow) (s' : Shared) : Prop :=
  ∃ F sl H φ', Q F sl H ∧ Ok c φ' H s'.heap ∧ Vars c ρ φ' s'.heap env sl ∧ RepF c φ' s'.heap F f ∧ GrowS env φ s.heap φ' s'.heap ∧ Rest s s'

noncomputable abbrev WE := Sl → HW → (V → HW → Prop) → Prop
noncomputable abbrev WEs := Sl → HW → (List V → HW → Prop) → Prop
noncomputable abbrev WT := Sl → HW → (Bool → HW → Prop) → Prop
noncomputable abbrev WS := Sl → HW → (Fl → Sl → HW → Prop) → Prop
noncomputable abbrev WF := List V → HW → (V → HW → Prop) → Prop

noncomputable def Ev (c : Cx) (d : Nat) (sc : Scope) (ρ : List Str) (e : Expr) (W : WE) : Prop :=
  ∀ env A E s φ sl H Q, EnvOK sc env → AOK d A → Ok c φ H s.heap → Vars c ρ φ s.heap env sl → W sl H Q → wpAny (model c.prog c.w) A (eval e env) (PostE c φ s Q) E s
noncomputable def Evs (c : Cx) (d : Nat) (sc : Scope) (ρ : List Str) (es : List Expr) (W : WEs) : Prop :=
  (∀ env, starEach es env = es.map fun e => (false, eval e env)) ∧ ∀ env A E s φ sl H Q, EnvOK sc env → AOK d A → Ok c φ H s.heap → Vars c ρ φ s.heap env sl → W sl H Q → ∀ pos, wpAny (model c.prog c.w) A (spliced (backTo pos (starEach es env))) (PostEs c φ s Q) E s
noncomputable def Et (c : Cx) (d : Nat) (sc : Scope) (ρ : List Str) (e : Expr) (W : WT) : Prop :=
  ∀ env A E s φ sl H Q, EnvOK sc env → AOK d A → Ok c φ H s.heap → Vars c ρ φ s.heap env sl → W sl H Q → wpAny (model c.prog c.w) A (isTrue e env (eval e env)) (PostT c φ s Q) E s
noncomputable def Ex (c : Cx) (d : Nat) (sc : Scope) (ρ : List Str) (e : Stmt) (W : WS) : Prop :=
  ∀ env A E s φ sl H Q, EnvOK sc env → AOK d A → Ok c φ H s.heap → Vars c ρ φ s.heap env sl → W sl H Q → wpAny (model c.prog c.w) A (exec e env) (PostS c ρ env φ s Q) E s
noncomputable def Exs (c : Cx) (d : Nat) (sc : Scope) (ρ : List Str) (e : List Stmt) (W : WS) : Prop :=
  ∀ env A E s φ sl H Q, EnvOK sc env → AOK d A → Ok c φ H s.heap → Vars c ρ φ s.heap env sl → W sl H Q → wpAny (model c.prog c.w) A (execs e env) (PostS c ρ env φ s Q) E s
/-- a callable of the text keeps to a contract -/
noncomputable def FnOK (c : Cx) (d : Nat) (f : Value) (W : WF) : Prop :=
  ∀ A E s φ H args vals Q, AOK d A → Ok c φ H s.heap → RepVs c φ s.heap args vals → W args H Q → wpAny (model c.prog c.w) A (call f vals) (PostE c φ s Q) E s

section
variable {c : Cx} {d : Nat} {sc : Scope} {ρ : List Str}

/-- a value that is at hand -/
theorem PostE.here {φ : Mp} {s s' : Shared} {Q : V → HW → Prop} {x : Value} {v : V} {H : HW} (q : Q v H) (ok : Ok c φ H s'.heap) (r : RepV c φ s'.heap v x) (k : ∀ b o, s.heap.get? b = some o → s'.heap.get? b = some o) (rs : Rest s s') : PostE c φ s Q x s' :=
  ⟨v, H, φ, q, ok, r, .of_keep k, rs⟩
theorem PostE.shift {φ φ₁ : Mp} {s s₁ s' : Shared} {Q : V → HW → Prop} {x : Value} (g : Grow φ s.heap φ₁ s₁.heap) (r : Rest s s₁) (p : PostE c φ₁ s₁ Q x s') : PostE c φ s Q x s' := by
  obtain ⟨v, H, φ', q, ok, rv, g', r'⟩ := p
  exact ⟨v, H, φ', q, ok, rv, g.trans g', r.trans r'⟩
theorem PostT.shift {φ φ₁ : Mp} {s s₁ s' : Shared} {Q : Bool → HW → Prop} {x : Bool} (g : Grow φ s.heap φ₁ s₁.heap) (r : Rest s s₁) (p : PostT c φ₁ s₁ Q x s') : PostT c φ s Q x s' := by
  obtain ⟨H, φ', q, ok, g', r'⟩ := p
  exact ⟨H, φ', q, ok, g.trans g', r.trans r'⟩
theorem PostS.shift {env : Env} {φ φ₁ : Mp} {s s₁ s' : Shared} {Q : Fl → Sl → HW → Prop} {x : Flow} (g : GrowS env φ s.heap φ₁ s₁.heap) (r : Rest s s₁) (p : PostS c ρ env φ₁ s₁ Q x s') : PostS c ρ env φ s Q x s' := by
  obtain ⟨F, sl, H, φ', q, ok, vs, rf, g', r'⟩ := p
  exact ⟨F, sl, H, φ', q, ok, vs, rf, g.trans g', r.trans r'⟩

/-! ### names -/
noncomputable def wVar (i : Nat) : WE := fun sl H Q => match sl[i]? with | some (some v) => Q v H | _ => False

theorem wVar_of {i : Nat} {sl : Sl} {H : HW} {Q : V → HW → Prop} (h : wVar i sl H Q) : ∃ v, sl[i]? = some (some v) ∧ Q v H := by
  unfold wVar at h
  split at h
  · rename_i v e; exact ⟨v, e, h⟩
  · exact h.elim

theorem ev_local {i : Nat} {x : Str} {pos : Pos} (hi : ρ[i]? = some x) (hx : sc.names.lookup x = some .local) (hk : sc.kind = .function) (hd : (x == ("__debug__" : Str)) = false) : Ev c d sc ρ (.Name x pos) (wVar i) := by
  intro env A E s φ sl H Q eo ao ok vs w
  obtain ⟨v, e, q⟩ := wVar_of w
  have kx := (eo.kind x).trans hx
  obtain ⟨m, hn, hm⟩ := vs.loc
  obtain ⟨y, h1, h2⟩ := hm i x v hi kx e
  exact wpAny_Name (wpAny_loadName_local (by rw [eo.scope]; exact hk) kx hn h1 (.here q ok h2 (fun _ _ e => e) (Rest.refl s))) hd
theorem ev_cell {i : Nat} {x : Str} {pos : Pos} (hi : ρ[i]? = some x) (hx : sc.names.lookup x = some .cell) (hk : sc.kind = .function) (hd : (x == ("__debug__" : Str)) = false) : Ev c d sc ρ (.Name x pos) (wVar i) := by
  intro env A E s φ sl H Q eo ao ok vs w
  obtain ⟨v, e, q⟩ := wVar_of w
  have kx := (eo.kind x).trans hx
  obtain ⟨a, y, h1, h2, h3⟩ := vs.cel i x v hi (.inl kx) e
  exact wpAny_Name (wpAny_loadName_cell (by rw [eo.scope]; exact hk) kx h1 h2 (.here q ok h3 (fun _ _ e => e) (Rest.refl s))) hd
/-- storing a name -/
theorem store_okK {i : Nat} {x : Str} {env : Env} {A : Around} {E : Value → Shared → Prop} {s : Shared} {φ : Mp} {sl : Sl} {H : HW} {v : V} {y : Value} {R : Unit → Shared → Prop}
    (hi : ρ[i]? = some x) (hx : sc.names.lookup x = some .local ∨ sc.names.lookup x = some .cell) (hk : sc.kind = .function) (eo : EnvOK sc env) (ok : Ok c φ H s.heap) (vs : Vars c ρ φ s.heap env sl) (rv : RepV c φ s.heap v y)
    (k : ∀ s', Ok c φ H s'.heap → Vars c ρ φ s'.heap env (sl.set i (some v)) → GrowS env φ s.heap φ s'.heap → Rest s s' → (∀ b o, b ≠ env.locals → env.cells.lookup x ≠ some b → s.heap.get? b = some o → s'.heap.get? b = some o) → R () s') : wpAny (model c.prog c.w) A (storeName env x y) R E s := by
  obtain ⟨m, hn, hm⟩ := id vs.loc
  have LC : ∀ a z, s.heap.IsCell a z → a ≠ env.locals := fun a z hz q => by
    obtain ⟨o', ho', hd⟩ := hz
    obtain ⟨o2, es, ep, ho2, hd2, _⟩ := hn
    rw [q, ho2] at ho'; cases ho'; rw [hd] at hd2; cases hd2
  have jx : ∀ j z, ρ[j]? = some z → z = x → j = i := fun j z e q => by
    subst q
    obtain ⟨l1, e1⟩ := List.getElem?_eq_some_iff.mp e
    obtain ⟨l2, e2⟩ := List.getElem?_eq_some_iff.mp hi
    exact (List.getElem_inj (h₀ := l1) (h₁ := l2) vs.nd).mp (e1.trans e2.symm)
  have il : i < sl.length := by rw [vs.len]; exact (List.getElem?_eq_some_iff.mp hi).1
  rcases hx with hx | hx
  · have kx := (eo.kind x).trans hx
    refine wpAny_storeName_local kx hn (fun h' hn' sb => ?_) (by rw [eo.scope, hk]; rfl)
    have kp : ∀ b o, b ≠ env.locals → s.heap.get? b = some o → h'.get? b = some o := fun b o n e => (sb.2 b n).trans e
    have kv : ∀ b o, b ∈ φ.z → s.heap.get? b = some o → h'.get? b = some o := fun b o z e => kp b o (fun q => vs.offZ (q ▸ z)) e
    have ok' := ok.same vs.offL vs.offZ vs.newL kp
    refine k _ ok' ⟨vs.nd, by simp [vs.len], vs.offL, vs.offZ, vs.newL, ⟨_, hn', fun j z w h1 h2 h3 => ?_⟩, fun z a e => ?_, vs.inj, fun j z w h1 h2 h3 => ?_, vs.has⟩ ⟨⟨[], [], by simp, by simp, by simp, by simp⟩, fun b o e _ n _ => kp b o n e, fun b o e => ?_⟩ (Rest.mk ..) (fun b o n _ e => kp b o n e)
    · by_cases q : z = x
      · have := jx j z h1 q
        subst this
        rw [List.getElem?_set_self il] at h3
        cases h3
        exact ⟨y, by simp [q], rv.keep kv⟩
      · rw [List.getElem?_set_ne (fun z2 => q (by subst z2; rw [hi] at h1; cases h1; rfl))] at h3
        obtain ⟨y', h4, h5⟩ := hm j z w h1 h2 h3
        exact ⟨y', by simp [q, h4], h5.keep kv⟩
    · obtain ⟨a1, az, a2, z', ha⟩ := vs.offC z a e
      obtain ⟨oc, ho, hdc⟩ := id ha
      exact ⟨a1, az, a2, z', oc, kp a oc (LC a z' ha) ho, hdc⟩
    · have q : z ≠ x := fun q => by subst q; rw [kx] at h2; rcases h2 with h2 | h2 <;> cases h2
      rw [List.getElem?_set_ne (fun z2 => q (by subst z2; rw [hi] at h1; cases h1; rfl))] at h3
      obtain ⟨a, y', h4, h5, h6⟩ := vs.cel j z w h1 h2 h3
      obtain ⟨oc, ho, hdc⟩ := id h5
      exact ⟨a, y', h4, ⟨oc, kp a oc (LC a _ h5) ho, hdc⟩, h6.keep kv⟩
    · by_cases q : b = env.locals
      · obtain ⟨o2, _, _, ho2, _⟩ := hn'
        exact ⟨o2, q ▸ ho2⟩
      · exact ⟨o, kp b o q e⟩
  · have kx := (eo.kind x).trans hx
    obtain ⟨a, ea⟩ := vs.has i x hi kx
    obtain ⟨a1, az, a2, z0, ha⟩ := vs.offC x a ea
    refine wpAny_storeName_cell (by rw [eo.scope]; exact hk) kx ea ha fun h' hv' sb => ?_
    have kp : ∀ b o, b ≠ a → s.heap.get? b = some o → h'.get? b = some o := fun b o n e => (sb.2 b n).trans e
    have kv : ∀ b o, b ∈ φ.z → s.heap.get? b = some o → h'.get? b = some o := fun b o z e => kp b o (fun q => az (q ▸ z)) e
    have ok' := ok.same a1 az a2 kp
    obtain ⟨o2, es, ep, ho2, r2⟩ := id hn
    refine k _ ok' ⟨vs.nd, by simp [vs.len], vs.offL, vs.offZ, vs.newL, ⟨m, ⟨o2, es, ep, kp _ o2 (fun q => LC a z0 ha q.symm) ho2, r2⟩, fun j z w h1 h2 h3 => ?_⟩, fun z b e => ?_, vs.inj, fun j z w h1 h2 h3 => ?_, vs.has⟩ ⟨⟨[], [], by simp, by simp, by simp, by simp⟩, fun b o e _ _ n => kp b o (fun q => n x (q ▸ ea)) e, fun b o e => ?_⟩ ⟨h', s.toks, rfl⟩ (fun b o _ n e => kp b o (fun q => n (q ▸ ea)) e)
    · have q : z ≠ x := fun q => by subst q; rw [kx] at h2; cases h2
      rw [List.getElem?_set_ne (fun z2 => q (by subst z2; rw [hi] at h1; cases h1; rfl))] at h3
      obtain ⟨y', h4, h5⟩ := hm j z w h1 h2 h3
      exact ⟨y', h4, h5.keep kv⟩
    · by_cases q : b = a
      · subst q
        exact ⟨a1, az, a2, _, hv'⟩
      · obtain ⟨b1, bz, b2, z', oc, ho, hdc⟩ := vs.offC z b e
        exact ⟨b1, bz, b2, z', oc, kp b oc q ho, hdc⟩
    · by_cases q : z = x
      · have := jx j z h1 q
        subst this
        rw [List.getElem?_set_self il] at h3
        cases h3
        exact ⟨a, y, q ▸ ea, hv', rv.keep kv⟩
      · rw [List.getElem?_set_ne (fun z2 => q (by subst z2; rw [hi] at h1; cases h1; rfl))] at h3
        obtain ⟨b, y', h4, h5, h6⟩ := vs.cel j z w h1 h2 h3
        obtain ⟨oc, ho, hdc⟩ := id h5
        exact ⟨b, y', h4, ⟨oc, kp b oc (fun z2 => q (vs.inj z x a (z2 ▸ h4) ea)) ho, hdc⟩, h6.keep kv⟩
    · by_cases q : b = a
      · obtain ⟨o3, ho3, _⟩ := hv'
        exact ⟨o3, q ▸ ho3⟩
      · exact ⟨o, kp b o q e⟩
theorem store_ok {i : Nat} {x : Str} {env : Env} {A : Around} {E : Value → Shared → Prop} {s : Shared} {φ : Mp} {sl : Sl} {H : HW} {v : V} {y : Value} {R : Unit → Shared → Prop}
    (hi : ρ[i]? = some x) (hx : sc.names.lookup x = some .local ∨ sc.names.lookup x = some .cell) (hk : sc.kind = .function) (eo : EnvOK sc env) (ok : Ok c φ H s.heap) (vs : Vars c ρ φ s.heap env sl) (rv : RepV c φ s.heap v y)
    (k : ∀ s', Ok c φ H s'.heap → Vars c ρ φ s'.heap env (sl.set i (some v)) → GrowS env φ s.heap φ s'.heap → Rest s s' → R () s') : wpAny (model c.prog c.w) A (storeName env x y) R E s :=
  store_okK hi hx hk eo ok vs rv fun s' h1 h2 h3 h4 _ => k s' h1 h2 h3 h4
end
end Mine

namespace Mine
section
variable {c : Cx} {d : Nat} {sc : Scope} {ρ : List Str}

theorem Ok.X {φ H h} (G : Good c) (ok : Ok c φ H h) : c.K.In h := G.X.keeps ok.base
theorem Ok.G {φ H h} (G : Good c) (ok : Ok c φ H h) : h.Ns mainGlobals c.mg := G.G.keeps ok.base
theorem Ok.B {φ H h} (G : Good c) (ok : Ok c φ H h) : h.Ns builtinsNs c.mb := G.B.keeps ok.base

/-! ### constants -/
noncomputable def wK (v : V) : WE := fun _ H Q => Q v H
theorem ev_none {k pos} : Ev c d sc ρ (.Constant .none k pos) (wK .none) := fun _ _ _ _ _ _ _ _ _ _ ok _ w =>
  wpAny_pure (.here w ok .none (fun _ _ e => e) (Rest.refl _))
theorem ev_bool {b k pos} : Ev c d sc ρ (.Constant (.bool b) k pos) (wK (.bool b)) := fun _ _ _ _ _ _ _ _ _ _ ok _ w =>
  wpAny_pure (.here w ok .bool (fun _ _ e => e) (Rest.refl _))
theorem ev_int {i k pos} : Ev c d sc ρ (.Constant (.int i) k pos) (wK (.int i)) := fun _ _ _ s _ _ _ _ _ _ ok _ w =>
  wpAny_Constant_int (.here w ok .int (fun _ _ e => e) (Rest.mk s s.heap _))
theorem ev_str {x k pos} : Ev c d sc ρ (.Constant (.str x) k pos) (wK (.str x)) := fun _ _ _ s _ _ _ _ _ _ ok _ w =>
  wpAny_mkText (.here w ok .str (fun _ _ e => e) (Rest.mk s s.heap _))

/-! ### two operands -/
noncomputable abbrev WB := V → V → HW → (V → HW → Prop) → Prop
noncomputable def wBin (f : WB) (a b : WE) : WE := fun sl H Q => a sl H fun v H₁ => b sl H₁ fun w H₂ => f v w H₂ Q
noncomputable def BinOK (c : Cx) (d : Nat) (op : Operator) (f : WB) : Prop :=
  ∀ A E s φ H v w x y Q, AOK d A → Ok c φ H s.heap → RepV c φ s.heap v x → RepV c φ s.heap w y → f v w H Q → wpAny (model c.prog c.w) A (binaryOp op x y) (PostE c φ s Q) E s
noncomputable def CmpOK (c : Cx) (d : Nat) (op : CmpOp) (f : WB) : Prop :=
  ∀ A E s φ H v w x y Q, AOK d A → Ok c φ H s.heap → RepV c φ s.heap v x → RepV c φ s.heap w y → f v w H Q → wpAny (model c.prog c.w) A (compareOp op x y) (PostE c φ s Q) E s

theorem ev_bin {op f l r pos a b} (B : BinOK c d op f) (hl : Ev c d sc ρ l a) (hr : Ev c d sc ρ r b) : Ev c d sc ρ (.BinOp l op r pos) (wBin f a b) := by
  intro env A E s φ sl H Q eo ao ok vs w
  refine wpAny_BinOp (wpAny_mono (hl env A E s φ sl H _ eo ao ok vs w) (fun x s₁ p₁ => ?_) fun _ _ e => e)
  obtain ⟨v, H₁, φ₁, w₁, ok₁, rv, g₁, r₁⟩ := p₁
  refine wpAny_mono (hr env A E s₁ φ₁ sl H₁ _ eo ao ok₁ (vs.grow g₁) w₁) (fun y s₂ p₂ => ?_) fun _ _ e => e
  obtain ⟨u, H₂, φ₂, w₂, ok₂, ru, g₂, r₂⟩ := p₂
  exact wpAny_mono (B A E s₂ φ₂ H₂ v u x y Q ao ok₂ (rv.grow g₂) ru w₂) (fun z s₃ p₃ => p₃.shift (g₁.trans g₂) (r₁.trans r₂)) fun _ _ e => e
theorem ev_cmp {op f l r pos a b} (B : CmpOK c d op f) (hl : Ev c d sc ρ l a) (hr : Ev c d sc ρ r b) (hm : behindInMarks op r = false := by with_unfolding_all rfl) : Ev c d sc ρ (.Compare l [op] [r] pos) (wBin f a b) := by
  intro env A E s φ sl H Q eo ao ok vs w
  refine wpAny_Compare1 (wpAny_mono (hl env A E s φ sl H _ eo ao ok vs w) (fun x s₁ p₁ => ?_) fun _ _ e => e) hm
  obtain ⟨v, H₁, φ₁, w₁, ok₁, rv, g₁, r₁⟩ := p₁
  refine wpAny_mono (hr env A E s₁ φ₁ sl H₁ _ eo ao ok₁ (vs.grow g₁) w₁) (fun y s₂ p₂ => ?_) fun _ _ e => e
  obtain ⟨u, H₂, φ₂, w₂, ok₂, ru, g₂, r₂⟩ := p₂
  exact wpAny_mono (B A E s₂ φ₂ H₂ v u x y Q ao ok₂ (rv.grow g₂) ru w₂) (fun z s₃ p₃ => p₃.shift (g₁.trans g₂) (r₁.trans r₂)) fun _ _ e => e

noncomputable def onI (f : Int → Int → V) : WB := fun v w H Q => match v, w with | .int i, .int j => Q (f i j) H | _, _ => False
theorem onI_of {f v w H Q} (h : onI f v w H Q) : ∃ i j, v = .int i ∧ w = .int j ∧ Q (f i j) H := by
  unfold onI at h
  split at h
  · exact ⟨_, _, rfl, rfl, h⟩
  · exact h.elim
theorem add_ok : BinOK c d .Add (onI fun i j => .int (i + j)) := by
  intro A E s φ H v w x y Q ao ok rv rw' q
  obtain ⟨i, j, rfl, rfl, q⟩ := onI_of q
  cases rv; cases rw'
  exact add_int (.here q ok .int (fun _ _ e => e) (Rest.mk s s.heap _))
theorem sub_ok : BinOK c d .Sub (onI fun i j => .int (i - j)) := by
  intro A E s φ H v w x y Q ao ok rv rw' q
  obtain ⟨i, j, rfl, rfl, q⟩ := onI_of q
  cases rv; cases rw'
  exact sub_int (.here q ok .int (fun _ _ e => e) (Rest.mk s s.heap _))
/-- % and // by a number that is not nought and small -/
noncomputable def wMod : WB := fun v w H Q => match v, w with | .int i, .int j => j ≠ 0 ∧ Q (.int (i.fmod j)) H | _, _ => False
theorem mod_ok : BinOK c d .Mod wMod := by
  intro A E s φ H v w x y Q ao ok rv rw' q
  unfold wMod at q
  split at q
  · cases rv; cases rw'
    exact mod_int' q.1 (.here q.2 ok .int (fun _ _ e => e) (Rest.mk s s.heap _))
  · exact q.elim
noncomputable def wDiv : WB := fun v w H Q => match v, w with | .int i, .int j => (j ≠ 0 ∧ j.natAbs < 1073741824) ∧ Q (.int (i.fdiv j)) H | _, _ => False
theorem div_ok : BinOK c d .FloorDiv wDiv := by
  intro A E s φ H v w x y Q ao ok rv rw' q
  unfold wDiv at q
  split at q
  · cases rv; cases rw'
    exact floordiv_int q.1.1 (.here q.2 ok .int (fun _ _ e => e) (Rest.mk s s.heap _)) (.inl (PyProof.noPylong_small q.1.2))
  · exact q.elim
theorem gt_okI : CmpOK c d .Gt (onI fun i j => .bool (decide (j < i))) := by
  intro A E s φ H v w x y Q ao ok rv rw' q
  obtain ⟨i, j, rfl, rfl, q⟩ := onI_of q
  cases rv; cases rw'
  exact gt_int (.here q ok .bool (fun _ _ e => e) (Rest.refl s))
theorem le_okI : CmpOK c d .LtE (onI fun i j => .bool (decide (i ≤ j))) := by
  intro A E s φ H v w x y Q ao ok rv rw' q
  obtain ⟨i, j, rfl, rfl, q⟩ := onI_of q
  cases rv; cases rw'
  exact le_int (.here q ok .bool (fun _ _ e => e) (Rest.refl s))
/-- «is None» -/
noncomputable def isN : V → Bool | .none => true | _ => false
theorem isN_of {φ h v x} (r : RepV c φ h v x) : (x == Value.none) = isN v := by cases r <;> rfl
/-! ### tests -/
noncomputable def tv (w : WE) : WT := fun sl H Q => w sl H fun v H' => match v with | .bool b => Q b H' | _ => False
/-- a comparison as a test -/
theorem et_cmp {op f l r pos a b} (B : CmpOK c d op f) (hl : Ev c d sc ρ l a) (hr : Ev c d sc ρ r b) (hm : behindInMarks op r = false := by with_unfolding_all rfl) : Et c d sc ρ (.Compare l [op] [r] pos) (tv (wBin f a b)) := by
  intro env A E s φ sl H Q eo ao ok vs w
  refine wpAny_isTrue_Compare1 (wpAny_mono (hl env A E s φ sl H _ eo ao ok vs w) (fun x s₁ p₁ => ?_) fun _ _ e => e) hm
  obtain ⟨v, H₁, φ₁, w₁, ok₁, rv, g₁, r₁⟩ := p₁
  refine wpAny_mono (hr env A E s₁ φ₁ sl H₁ _ eo ao ok₁ (vs.grow g₁) w₁) (fun y s₂ p₂ => ?_) fun _ _ e => e
  obtain ⟨u, H₂, φ₂, w₂, ok₂, ru, g₂, r₂⟩ := p₂
  refine wpAny_mono (B A E s₂ φ₂ H₂ v u x y _ ao ok₂ (rv.grow g₂) ru w₂) (fun z s₃ p₃ => ?_) fun _ _ e => e
  obtain ⟨t, H₃, φ₃, w₃, ok₃, rt, g₃, r₃⟩ := p₃
  split at w₃
  · cases rt
    exact wpAny_truthy_bool ⟨H₃, φ₃, w₃, ok₃, (g₁.trans g₂).trans g₃, (r₁.trans r₂).trans r₃⟩
  · exact w₃.elim
noncomputable def tAnd (a b : WT) : WT := fun sl H Q => a sl H fun t H' => if t then b sl H' Q else Q false H'
noncomputable def tOr (a b : WT) : WT := fun sl H Q => a sl H fun t H' => if t then Q true H' else b sl H' Q
theorem et_and {x y pos a b} (hx : Et c d sc ρ x a) (hy : Et c d sc ρ y b) : Et c d sc ρ (.BoolOp .And [x, y] pos) (tAnd a b) := by
  intro env A E s φ sl H Q eo ao ok vs q
  show wpAny _ _ (isTrue x env (eval x env) >>= fun b => match BoolOp.And, b with | .And, false => pure false | .Or, true => pure true | _, _ => isTrue y env (eval y env) >>= fun b' => match BoolOp.And, b' with | .And, false => pure false | .Or, true => pure true | _, _ => pure true) _ _ _
  refine wpAny_bind (wpAny_mono (hx env A E s φ sl H _ eo ao ok vs q) (fun t s₁ p => ?_) fun _ _ e => e)
  obtain ⟨H₁, φ₁, w₁, ok₁, g₁, r₁⟩ := p
  cases t with
  | false => exact wpAny_pure ⟨H₁, φ₁, by simpa using w₁, ok₁, g₁, r₁⟩
  | true =>
    simp only [if_true] at w₁
    refine wpAny_bind (wpAny_mono (hy env A E s₁ φ₁ sl H₁ _ eo ao ok₁ (vs.grow g₁) w₁) (fun t s₂ p => ?_) fun _ _ e => e)
    have p' := p.shift g₁ r₁
    cases t <;> exact wpAny_pure p'
theorem et_or {x y pos a b} (hx : Et c d sc ρ x a) (hy : Et c d sc ρ y b) : Et c d sc ρ (.BoolOp .Or [x, y] pos) (tOr a b) := by
  intro env A E s φ sl H Q eo ao ok vs q
  show wpAny _ _ (isTrue x env (eval x env) >>= fun b => match BoolOp.Or, b with | .And, false => pure false | .Or, true => pure true | _, _ => isTrue y env (eval y env) >>= fun b' => match BoolOp.Or, b' with | .And, false => pure false | .Or, true => pure true | _, _ => pure false) _ _ _
  refine wpAny_bind (wpAny_mono (hx env A E s φ sl H _ eo ao ok vs q) (fun t s₁ p => ?_) fun _ _ e => e)
  obtain ⟨H₁, φ₁, w₁, ok₁, g₁, r₁⟩ := p
  cases t with
  | true => exact wpAny_pure ⟨H₁, φ₁, by simpa using w₁, ok₁, g₁, r₁⟩
  | false =>
    simp only [Bool.false_eq_true, if_false] at w₁
    refine wpAny_bind (wpAny_mono (hy env A E s₁ φ₁ sl H₁ _ eo ao ok₁ (vs.grow g₁) w₁) (fun t s₂ p => ?_) fun _ _ e => e)
    have p' := p.shift g₁ r₁
    cases t <;> exact wpAny_pure p'

/-! ### lists of expressions, displays -/
noncomputable def wNil : WEs := fun _ H Q => Q [] H
noncomputable def wCons (a : WE) (b : WEs) : WEs := fun sl H Q => a sl H fun v H₁ => b sl H₁ fun vs H₂ => Q (v :: vs) H₂
theorem evs_nil : Evs c d sc ρ [] wNil := ⟨fun _ => rfl, fun _ _ _ _ _ _ _ _ _ _ ok _ w _ => Calls.spliced_nil ⟨[], _, _, w, ok, .nil, .refl _ _, Rest.refl _⟩⟩
theorem evs_cons {e es a b} (he : Ev c d sc ρ e a) (hes : Evs c d sc ρ es b) (hs : ∀ env, starEach (e :: es) env = (false, eval e env) :: starEach es env) : Evs c d sc ρ (e :: es) (wCons a b) := by
  refine ⟨fun env => by rw [hs, hes.1]; rfl, ?_⟩
  intro env A E s φ sl H Q eo ao ok vs w pos
  rw [hs]
  show wpAny _ _ (spliced ((false, eval e env) :: backTo pos (starEach es env))) _ _ _
  refine Calls.spliced_cons (wpAny_mono (he env A E s φ sl H _ eo ao ok vs w) (fun x s₁ p₁ => ?_) fun _ _ e => e)
  obtain ⟨v, H₁, φ₁, w₁, ok₁, rv, g₁, r₁⟩ := p₁
  refine wpAny_mono (hes.2 env A E s₁ φ₁ sl H₁ _ eo ao ok₁ (vs.grow g₁) w₁ pos) (fun y s₂ p₂ => ?_) fun _ _ e => e
  obtain ⟨u, H₂, φ₂, w₂, ok₂, ru, g₂, r₂⟩ := p₂
  exact ⟨v :: u, H₂, φ₂, w₂, ok₂, .cons (rv.grow g₂) ru, g₁.trans g₂, r₁.trans r₂⟩

theorem new_none (h : Heap) : h.get? h.objs.size = none := Heap.get?_none_of_le (Nat.le_refl _)
/-- a new list -/
theorem new_list {φ H} {s : Shared} {xs ys} {Q : V → HW → Prop} (ok : Ok c φ H s.heap) (r : RepVs c φ s.heap xs ys) (q : Q (.loc H.length) (H ++ [.list xs])) {n} (s' : Shared) (hs : s' = { s with heap := s.heap.push { cls := .type "list", data := .seq ys.toArray n }, toks := s'.toks }) :
    PostE c φ s Q (.ref s.heap.objs.size) s' := by
  obtain ⟨ok', g⟩ := ok.alloc (lo := .list xs) (new_none s.heap) (h' := s.heap.push { cls := .type "list", data := .seq ys.toArray n }) (fun b o e => Heap.get?_push_of_some _ e) (Heap.get?_push_size _ rfl) (.list r) ok.newS
  rw [hs]
  exact ⟨_, _, _, q, ok', .loc (by rw [← ok.len]; simp), g, _, _, rfl⟩
/-- a new tuple -/
theorem new_tup {φ H} {s : Shared} {xs ys} {Q : V → HW → Prop} (ok : Ok c φ H s.heap) (r : RepVs c φ s.heap xs ys) (q : Q (.tup xs) H) {n} (s' : Shared) (hs : s' = { s with heap := s.heap.push { cls := .type "tuple", data := .seq ys.toArray n }, toks := s'.toks }) :
    PostE c φ s Q (.ref s.heap.objs.size) s' := by
  obtain ⟨ok', g⟩ := ok.freeze (new_none s.heap) (h' := s.heap.push { cls := .type "tuple", data := .seq ys.toArray n }) (fun b o e => Heap.get?_push_of_some _ e) (Heap.get?_push_size _ rfl)
  rw [hs]
  refine ⟨_, _, _, q, ok', .tup (n := n) ?_ ?_ ?_ (Heap.get?_push_size _ rfl) (r.grow g), g, _, _, rfl⟩
  · intro m; obtain ⟨o, e⟩ := ok.live m; rw [new_none] at e; cases e
  · exact List.mem_append_right _ (.head _)
  · cases q : c.h₀.get? s.heap.objs.size with
    | none => rfl
    | some o => have := ok.base _ _ q; rw [new_none] at this; cases this
noncomputable def wList (a : WEs) : WE := fun sl H Q => a sl H fun vs H₁ => vs.length ≤ 1000000 ∧ Q (.loc H₁.length) (H₁ ++ [.list vs])
noncomputable def wTup (a : WEs) : WE := fun sl H Q => a sl H fun vs H₁ => vs.length ≤ 1000000 ∧ Q (.tup vs) H₁
theorem ev_list {es pos a} (he : Evs c d sc ρ es a) : Ev c d sc ρ (.List es pos) (wList a) := by
  intro env A E s φ sl H Q eo ao ok vs w
  refine List_ (wpAny_mono (he.2 env A E s φ sl H _ eo ao ok vs w pos) (fun x s₁ p₁ => ?_) fun _ _ e => e)
  obtain ⟨v, H₁, φ₁, w₁, ok₁, rv, g₁, r₁⟩ := p₁
  exact wpAny_newObj_type ((new_list ok₁ rv w₁.2 _ rfl).shift g₁ r₁) (by show x.toArray.size ≤ sizeLine; rw [List.size_toArray, ← rv.length, sizeLine_eq]; exact Nat.le_trans w₁.1 (by decide))
theorem ev_tup {es k pos a} (he : Evs c d sc ρ es a) : Ev c d sc ρ (.Tuple es k pos) (wTup a) := by
  intro env A E s φ sl H Q eo ao ok vs w
  refine Tuple_ (wpAny_mono (he.2 env A E s φ sl H _ eo ao ok vs w pos) (fun x s₁ p₁ => ?_) fun _ _ e => e)
  obtain ⟨v, H₁, φ₁, w₁, ok₁, rv, g₁, r₁⟩ := p₁
  exact wpAny_newObj_type ((new_tup ok₁ rv w₁.2 _ rfl).shift g₁ r₁) (by show x.toArray.size ≤ sizeLine; rw [List.size_toArray, ← rv.length, sizeLine_eq]; exact Nat.le_trans w₁.1 (by decide))
end
end Mine

namespace Mine
section
variable {c : Cx} {d : Nat} {sc : Scope} {ρ : List Str}

/-! ### lists that are read -/
noncomputable def asL (ns : List Int) (H : HW) : V → Option (List V)
  | .loc k => match H[k]? with | some (.list xs) => some xs | _ => none
  | .script => some (ns.map .int)
  | _ => none
theorem repInts {φ h} : ∀ {vs : List Value} {ns : List Int}, IntsAre vs ns → RepVs c φ h (ns.map .int) vs
  | _, _, .nil => .nil
  | _, _, .cons _ _ r => .cons .int (repInts r)
theorem asL_of (G : Good c) {φ H h v x xs} (ok : Ok c φ H h) (r : RepV c φ h v x) (e : asL c.ns H v = some xs) : ∃ a ys, x = .ref a ∧ h.IsList a ys.toArray ∧ RepVs c φ h xs ys := by
  cases r <;> simp only [asL] at e <;> try (cases e; done)
  · rename_i k a hk
    split at e
    · rename_i xs' e'
      cases e
      obtain ⟨o, h1, h2⟩ := ok.objs k a _ hk e'
      cases h2 with
      | list r => exact ⟨a, _, rfl, ⟨_, h1, rfl, _, rfl⟩, r⟩
    · cases e
  · cases e
    obtain ⟨o, ho, r⟩ := G.S
    exact ⟨_, _, rfl, ⟨o, ok.base _ _ ho, r⟩, repInts G.I⟩
/-- an own list -/
theorem loc_list {φ H h} {k : Nat} {x xs} (ok : Ok c φ H h) (r : RepV c φ h (.loc k) x) (e : H[k]? = some (.list xs)) : ∃ a ys n, x = .ref a ∧ φ.l[k]? = some a ∧ IsL h a ys.toArray n ∧ RepVs c φ h xs ys := by
  cases r with
  | loc hk =>
    obtain ⟨o, h1, h2⟩ := ok.objs k _ _ hk e
    cases h2 with
    | list r => exact ⟨_, _, _, rfl, hk, h1, r⟩

/-! ### calls -/
theorem plain_any {es : List Expr} {env : Env} {pos : Pos} (h : starEach es env = es.map fun e => (false, eval e env)) : (backTo pos (starEach es env)).any (·.1) = false := by
  rw [h]
  unfold backTo
  rw [List.map_map]
  induction es with
  | nil => rfl
  | cons e es ih => simp at ih ⊢
theorem evalArgs_of {M : Model} {A : Around} {E : Value → Shared → Prop} {s : Shared} {env : Env} {f : Value} {es : List Expr} {pos : Pos} {Q : Args → Shared → Prop} (hp : starEach es env = es.map fun e => (false, eval e env))
    (h : wpAny M A (spliced (backTo pos (starEach es env))) (fun vs s' => Q ⟨vs, []⟩ s') E s) : wpAny M A (evalArgs f true (backTo pos (starEach es env)) []) Q E s := by
  cases es with
  | nil =>
    unfold evalArgs
    show wpAny M A (spliced (backTo pos (starEach [] env)) >>= _) Q E s
    refine wpAny_bind (wpAny_mono h (fun vs s' h' => ?_) fun _ _ x => x)
    exact wpAny_bind (wpAny_pure (wpAny_holding (wpAny_bind (wpAny_pure (wpAny_bind (wpAny_pure (wpAny_pure h')))))))
  | cons e es =>
    rw [hp] at h ⊢
    exact Calls.evalArgs_plain h

/-- a name of the top -/
theorem name_glob {env : Env} {A E s φ H x pos v} {R : Value → Shared → Prop} (G : Good c) (eo : EnvOK sc env) (ok : Ok c φ H s.heap) (hk : sc.kind = .function) (hx : sc.names.lookup x = some .globalImplicit) (hv : c.mg x = some v) (hd : (x == ("__debug__" : Str)) = false)
    (k : R v s) : wpAny (model c.prog c.w) A (eval (.Name x pos) env) R E s :=
  Calls.Name_function_global (by rw [eo.scope]; exact hk) ((eo.kind x).trans hx) (Calls.loadGlobal_global (by rw [eo.glob]; exact ok.G G) hv k) hd
theorem name_built {env : Env} {A E s φ H x pos v} {R : Value → Shared → Prop} (G : Good c) (eo : EnvOK sc env) (ok : Ok c φ H s.heap) (hk : sc.kind = .function) (hx : sc.names.lookup x = some .globalImplicit) (hg : c.mg x = none) (hv : c.mb x = some v) (hd : (x == ("__debug__" : Str)) = false)
    (k : R v s) : wpAny (model c.prog c.w) A (eval (.Name x pos) env) R E s :=
  Calls.Name_function_global (by rw [eo.scope]; exact hk) ((eo.kind x).trans hx) (Calls.loadGlobal_builtin (by rw [eo.glob]; exact ok.G G) hg (by rw [eo.bi]; exact ok.B G) hv k) hd

noncomputable def wCall (W : WF) (as : WEs) : WE := fun sl H Q => as sl H fun vs H₁ => W vs H₁ Q
/-- a def or a class of the top, called by its name -/
theorem ev_call {x np args pos f W as} (G : Good c) (hk : sc.kind = .function) (hx : sc.names.lookup x = some .globalImplicit) (hv : c.mg x = some f) (hd : (x == ("__debug__" : Str)) = false) (hkeep : keepIn c.K f = true)
    (hf : FnOK c d f W) (ha : Evs c d sc ρ args as) : Ev c d sc ρ (.Call (.Name x np) args [] pos) (wCall W as) := by
  intro env A E s φ sl H Q eo ao ok vs w
  refine Call_Name rfl (name_glob G eo ok hk hx hv hd ?_)
  refine callWith_of (P := fun h => c.K.In h) (by rw [plain_any (ha.1 env)]; rfl) (keeps_K hkeep) (evalArgs_of (ha.1 env) ?_)
  refine wpAny_mono (ha.2 env A E s φ sl H _ eo ao ok vs w pos) (fun ys s₁ p₁ => ?_) fun _ _ e => e
  obtain ⟨v, H₁, φ₁, w₁, ok₁, rv, g₁, r₁⟩ := p₁
  exact ⟨ok₁.X G, wpAny_mono (hf A E s₁ φ₁ H₁ v ys Q ao ok₁ rv w₁) (fun z s₂ p₂ => p₂.shift g₁ r₁) fun _ _ e => e⟩
/-- a built-in function -/
theorem ev_callB {x np args pos id W as} (G : Good c) (hk : sc.kind = .function) (hx : sc.names.lookup x = some .globalImplicit) (hg : c.mg x = none) (hv : c.mb x = some (.builtin id)) (hd : (x == ("__debug__" : Str)) = false)
    (hf : FnOK c d (.builtin id) W) (ha : Evs c d sc ρ args as) : Ev c d sc ρ (.Call (.Name x np) args [] pos) (wCall W as) := by
  intro env A E s φ sl H Q eo ao ok vs w
  refine Call_Name rfl (name_built G eo ok hk hx hg hv hd ?_)
  refine Calls.callWith_builtin (plain_any (ha.1 env)) (evalArgs_of (ha.1 env) ?_)
  refine wpAny_mono (ha.2 env A E s φ sl H _ eo ao ok vs w pos) (fun ys s₁ p₁ => ?_) fun _ _ e => e
  obtain ⟨v, H₁, φ₁, w₁, ok₁, rv, g₁, r₁⟩ := p₁
  exact wpAny_mono (hf A E s₁ φ₁ H₁ v ys Q ao ok₁ rv w₁) (fun z s₂ p₂ => p₂.shift g₁ r₁) fun _ _ e => e

/-! ### objects of the text's classes -/
noncomputable def clsV (c : Cx) (H : HW) : V → Option Nat
  | .obj k _ => some k
  | .loc j => match H[j]? with | some (.inst k _) => some k | _ => none
  | .glob a => (c.gC a).map (·.1)
  | _ => none
noncomputable def slotV (c : Cx) (H : HW) (i : Nat) : V → Option V
  | .obj _ fs => fs[i]?
  | .loc j => match H[j]? with | some (.inst _ fs) => (fs[i]?).join | _ => none
  | .glob a => match c.gC a with | some (_, n) => if i < n then some .none else none | none => none
  | _ => none
theorem inst_of (G : Good c) {φ H h v x k} (ok : Ok c φ H h) (r : RepV c φ h v x) (e : clsV c H v = some k) :
    ∃ a ox, x = .ref a ∧ InstAt h a ox (c.cls k) (some (dictOf [] 0)) ∧ ∀ i u, slotV c H i v = some u → ∃ y, (ox.slots[i]?).join = some y ∧ RepV c φ h u y := by
  cases r <;> simp only [clsV] at e <;> try (cases e; done)
  · rename_i j a hj
    split at e
    · rename_i k' fs e'
      cases e
      obtain ⟨o, h1, h2⟩ := ok.objs j a _ hj e'
      cases h2 with
      | inst r z n y eb =>
        refine ⟨a, _, rfl, ⟨h1, rfl, rfl, eb⟩, fun i u hu => ?_⟩
        simp only [slotV, e'] at hu
        exact r i u hu
    · cases e
  · rename_i fs xs a b sl n z m y n0 e1 es e2 r
    cases e
    refine ⟨a, _, rfl, ⟨e1, rfl, rfl, e2⟩, fun i u hu => ?_⟩
    simp only [slotV] at hu
    obtain ⟨y, h1, h2⟩ := r.get hu
    exact ⟨y, by show (sl[i]?).join = some y; rw [es, h1], h2⟩
  · rename_i a o ho
    obtain ⟨⟨k', n⟩, h1, rfl⟩ := Option.map_eq_some_iff.mp e
    obtain ⟨b, h2, h3⟩ := G.gl a k' n h1
    refine ⟨a, _, rfl, ⟨ok.base _ _ h2, rfl, rfl, ok.base _ _ h3⟩, fun i u hu => ?_⟩
    simp only [slotV, h1] at hu
    split at hu
    · rename_i hi
      cases hu
      exact ⟨.none, by simp [hi], .none⟩
    · cases hu

noncomputable def wMeth (c : Cx) (k : Nat) (W : WF) (a : WE) (as : WEs) : WE := fun sl H Q => a sl H fun v H₁ => clsV c H₁ v = some k ∧ as sl H₁ fun vs H₂ => W (v :: vs) H₂ Q
theorem ev_meth {o name apos args pos f k W a as} {pl : Env → Sem Bool} (G : Good c) (ho : Ev c d sc ρ o a) (ha : Evs c d sc ρ args as) (hf : FnOK c d (.ref f) W)
    (hg : plainGet c.K (c.cls k) name = true) (hm : findIn c.K (.ref (c.cls k)) name = some (some (.ref f))) (ht : isFn c.K (.ref f) = true) (hkeep : keepIn c.K (.ref f) = true)
    (he : ∀ env, eval (.Call (.Attribute o name apos) args [] pos) env = (do
      let ov ← eval o env
      standAt apos.atName
      let (f, first) ← holding [ov] (getMethod ov name (pl env))
      callWith pos f first (backTo pos (starEach args env)) (backToKw pos (keywordEach [] env)))) : Ev c d sc ρ (.Call (.Attribute o name apos) args [] pos) (wMeth c k W a as) := by
  intro env A E s φ sl H Q eo ao ok vs w
  refine methodCall_KW (pl := pl env) (wpAny_mono (ho env A E s φ sl H _ eo ao ok vs w) (fun x s₁ p₁ => ?_) fun _ _ e => e) (he env)
  obtain ⟨v, H₁, φ₁, ⟨wc, w₁⟩, ok₁, rv, g₁, r₁⟩ := p₁
  obtain ⟨xa, ox, rfl, I, _⟩ := inst_of G ok₁ rv wc
  refine method_fn (ok₁.X G) I (plainGet_of hg).1 (plainGet_of hg).2 hm (beq_iff_eq.mp ht) rfl ?_
  refine callWith_of (P := fun h => c.K.In h) (by rw [plain_any (ha.1 env)]; rfl) (keeps_K hkeep) (evalArgs_of (ha.1 env) ?_)
  refine wpAny_mono (ha.2 env A E s₁ φ₁ sl H₁ _ eo ao ok₁ (vs.grow g₁) w₁ pos) (fun ys s₂ p₂ => ?_) fun _ _ e => e
  obtain ⟨u, H₂, φ₂, w₂, ok₂, ru, g₂, r₂⟩ := p₂
  exact ⟨ok₂.X G, wpAny_mono (hf A E s₂ φ₂ H₂ (v :: u) _ Q ao ok₂ (.cons (rv.grow g₂) ru) w₂) (fun z s₃ p₃ => p₃.shift (g₁.trans g₂) (r₁.trans r₂)) fun _ _ e => e⟩

/-- a slot that is read -/
noncomputable def wSlot (c : Cx) (k i : Nat) (a : WE) : WE := fun sl H Q => a sl H fun v H₁ => clsV c H₁ v = some k ∧ match slotV c H₁ i v with | some u => Q u H₁ | none => False
theorem ev_slot {o name pos a k p i} (G : Good c) (ho : Ev c d sc ρ o a) (hg : plainGet c.K (c.cls k) name = true) (hc : isClsIn c.K (c.cls k) = true)
    (ha : findIn c.K (.ref (c.cls k)) name = some (some (.ref p))) (hn : specialIn c.K (.ref p) "__get__" = some (some (.builtin "member_descriptor.__get__"))) (ht : takesIn c.K (.ref p) = some true) (hp : slotIn c.K p (c.cls k) = some i)
    (he : ∀ env, eval (.Attribute o name pos) env = (eval o env >>= fun ov => standAt pos.atName >>= fun _ => holding [ov] (getAttr ov name true) >>= fun r => pure r)) : Ev c d sc ρ (.Attribute o name pos) (wSlot c k i a) := by
  intro env A E s φ sl H Q eo ao ok vs w
  rw [he]
  refine wpAny_bind (wpAny_mono (ho env A E s φ sl H _ eo ao ok vs w) (fun x s₁ p₁ => ?_) fun _ _ e => e)
  obtain ⟨v, H₁, φ₁, ⟨wc, w₁⟩, ok₁, rv, g₁, r₁⟩ := p₁
  obtain ⟨xa, ox, rfl, I, hs⟩ := inst_of G ok₁ rv wc
  split at w₁
  · rename_i u eu
    obtain ⟨y, hy, ry⟩ := hs i u eu
    have hh : handedIn y = true := by cases ry <;> rfl
    refine wpAny_bind (wpAny_standAt (wpAny_bind (wpAny_holding ?_)))
    refine get_bind (ok₁.X G) I (plainGet_of hg).1 (findObj_data hc ha hn ht) (plainGet_of hg).2 (wpAny_call (slot_get (s := { s₁ with toks := s₁.toks + 1 }) (ok₁.X G) I hp hy (handed_on hh ?_)))
    exact wpAny_pure ((PostE.here (s' := { s₁ with toks := s₁.toks + 1 }) w₁ ok₁ ry (fun _ _ e => e) (Rest.mk s₁ s₁.heap _)).shift g₁ r₁)
  · exact w₁.elim
end
end Mine

namespace Mine
section
variable {c : Cx} {d : Nat} {sc : Scope} {ρ : List Str}

/-! ### items of a list -/
noncomputable def getI (xs : List V) (k : Int) : Option V := if 0 ≤ k then xs[k.toNat]? else if -(xs.length : Int) ≤ k then xs[(k + xs.length).toNat]? else none
theorem item_ok (G : Good c) {A E s φ H v x xs k t u} {R : Value → Shared → Prop} (ok : Ok c φ H s.heap) (rv : RepV c φ s.heap v x) (e : asL c.ns H v = some xs) (hl : xs.length ≤ 1000000) (hg : getI xs k = some u)
    (h : ∀ y, RepV c φ s.heap u y → R y s) : wpAny (model c.prog c.w) A (getItem x (.int k t)) R E s := by
  obtain ⟨a, ys, rfl, il, r⟩ := asL_of G ok rv e
  have len := r.length
  unfold getI at hg
  split at hg
  · rename_i h0
    obtain ⟨y, h1, h2⟩ := r.get hg
    have hb := (List.getElem?_eq_some_iff.mp hg).1
    exact wpAny_getItem_list il h0 (by (first | lia | omega)) (by simpa using h1) (h y h2)
  · rename_i h0
    split at hg
    · rename_i h1
      obtain ⟨y, h2, h3⟩ := r.get hg
      refine wpAny_getItem_list_neg il (by (first | lia | omega)) (by simp only [List.size_toArray]; (first | lia | omega)) (by (first | lia | omega)) ?_ (h y h3)
      simp only [List.size_toArray, List.getElem?_toArray]
      rw [← len]; exact h2
    · cases hg
/-! ### slices -/
noncomputable def sliceV {α : Type} (xs : List α) (lo hi st : Option Int) : List α := (sliceRange (sliceBounds lo hi st xs.length).1 (sliceBounds lo hi st xs.length).2.1 (sliceBounds lo hi st xs.length).2.2).filterMap (xs[·]?)
theorem RepVs.pick {φ h} {xs ys} (r : RepVs c φ h xs ys) : ∀ is : List Nat, RepVs c φ h (is.filterMap (xs[·]?)) (is.filterMap (ys[·]?))
  | [] => .nil
  | i :: is => by
    have ih := r.pick is
    by_cases hi : i < xs.length
    · obtain ⟨y, h1, h2⟩ := r.get (List.getElem?_eq_getElem hi)
      rw [List.filterMap_cons_some (List.getElem?_eq_getElem hi), List.filterMap_cons_some h1]
      exact .cons h2 ih
    · rw [List.filterMap_cons_none (List.getElem?_eq_none (Nat.not_lt.mp hi)), List.filterMap_cons_none (List.getElem?_eq_none (by rw [← r.length]; exact Nat.not_lt.mp hi))]
      exact ih
noncomputable abbrev WO := Sl → HW → (Option Int → HW → Prop) → Prop
noncomputable def EvO (c : Cx) (d : Nat) (sc : Scope) (ρ : List Str) (e : Option Expr) (W : WO) : Prop :=
  ∀ env A E s φ sl H Q, EnvOK sc env → AOK d A → Ok c φ H s.heap → Vars c ρ φ s.heap env sl → W sl H Q → wpAny (model c.prog c.w) A (valueOrNone (evalOpt e env)) (fun x s' => ∃ v H' φ', Q v H' ∧ Ok c φ' H' s'.heap ∧ IsPart x v ∧ Grow φ s.heap φ' s'.heap ∧ Rest s s') E s
noncomputable def oNone : WO := fun _ H Q => Q none H
noncomputable def oSome (a : WE) : WO := fun sl H Q => a sl H fun v H' => match v with | .int i => Q (some i) H' | _ => False
theorem evo_none : EvO c d sc ρ none oNone := fun _ _ _ s φ _ H _ _ _ ok _ w => wpAny_pure ⟨none, H, φ, w, ok, .none, .refl _ _, Rest.refl s⟩
theorem evo_some {e a} (h : Ev c d sc ρ e a) : EvO c d sc ρ (some e) (oSome a) := by
  intro env A E s φ sl H Q eo ao ok vs w
  show wpAny _ _ (eval e env) _ _ _
  refine wpAny_mono (h env A E s φ sl H _ eo ao ok vs w) (fun x s₁ p₁ => ?_) fun _ _ e => e
  obtain ⟨v, H₁, φ₁, w₁, ok₁, rv, g₁, r₁⟩ := p₁
  split at w₁
  · cases rv
    exact ⟨_, H₁, φ₁, w₁, ok₁, .int _ _, g₁, r₁⟩
  · exact w₁.elim
noncomputable def wSlice (ns : List Int) (a : WE) (lo hi st : WO) : WE := fun sl H Q => a sl H fun v H₁ => lo sl H₁ fun l H₂ => hi sl H₂ fun u H₃ => st sl H₃ fun k H₄ => match asL ns H₄ v with
  | some xs => (xs.length ≤ 1000000 ∧ k ≠ some 0) ∧ Q (.loc H₄.length) (H₄ ++ [.list (sliceV xs l u k)])
  | none => False
theorem ev_slice {o lo hi st spos pos a wl wu wk} (G : Good c) (ho : Ev c d sc ρ o a) (hlo : EvO c d sc ρ lo wl) (hhi : EvO c d sc ρ hi wu) (hst : EvO c d sc ρ st wk) : Ev c d sc ρ (.Subscript o (.Slice lo hi st spos) pos) (wSlice c.ns a wl wu wk) := by
  intro env A E s φ sl H Q eo ao ok vs w
  refine Subscript_ (wpAny_mono (ho env A E s φ sl H _ eo ao ok vs w) (fun x s₁ p₁ => ?_) fun _ _ e => e)
  obtain ⟨v, H₁, φ₁, w₁, ok₁, rv, g₁, r₁⟩ := p₁
  show wpAny _ _ (valueOrNone (evalOpt lo env) >>= fun l => holding [l] (valueOrNone (evalOpt hi env)) >>= fun u => holding [l, u] (valueOrNone (evalOpt st env)) >>= fun k => newFields "slice" [l, u, k]) _ _ _
  refine wpAny_bind (wpAny_mono (hlo env A E s₁ φ₁ sl H₁ _ eo ao ok₁ (vs.grow g₁) w₁) (fun xl s₂ p₂ => ?_) fun _ _ e => e)
  obtain ⟨l, H₂, φ₂, w₂, ok₂, pl, g₂, r₂⟩ := p₂
  refine wpAny_bind (wpAny_holding (wpAny_mono (hhi env A E s₂ φ₂ sl H₂ _ eo ao ok₂ (vs.grow (g₁.trans g₂)) w₂) (fun xu s₃ p₃ => ?_) fun _ _ e => e))
  obtain ⟨u, H₃, φ₃, w₃, ok₃, pu, g₃, r₃⟩ := p₃
  refine wpAny_bind (wpAny_holding (wpAny_mono (hst env A E s₃ φ₃ sl H₃ _ eo ao ok₃ (vs.grow ((g₁.trans g₂).trans g₃)) w₃) (fun xk s₄ p₄ => ?_) fun _ _ e => e))
  obtain ⟨k, H₄, φ₄, w₄, ok₄, pk, g₄, r₄⟩ := p₄
  have rv₄ := rv.grow ((g₂.trans g₃).trans g₄)
  split at w₄
  · rename_i xs ex
    obtain ⟨⟨hz, hk⟩, w₄⟩ := w₄
    obtain ⟨al, ys, rfl, il, rr⟩ := asL_of G ok₄ rv₄ ex
    refine wpAny_newObj_type ?_
    have kp : ∀ b o, s₄.heap.get? b = some o → (s₄.heap.push { cls := .type "slice", data := .fields #[xl, xu, xk] }).get? b = some o := fun b o e => Heap.get?_push_of_some _ e
    have ok₅ := ok₄.keep kp
    have il₅ : (s₄.heap.push { cls := .type "slice", data := .fields #[xl, xu, xk] }).IsList al ys.toArray := il.push _
    refine tail_any (ops := match st with | none => [_, _] | some _ => [_, _]) (s := { s₄ with heap := s₄.heap.push { cls := .type "slice", data := .fields #[xl, xu, xk] } }) il₅.typeIs slot_list_getitem.lookup
      (wpAny_getItem_list_slice il₅ (Heap.IsSliceOf.new _ _ _ _) pl pu pk hk ?_ (by rw [List.size_toArray, ← rr.length, sizeLine_eq]; (first | lia | omega))) (by cases st <;> rfl)
    have rp : RepVs c φ₄ (s₄.heap.push { cls := .type "slice", data := .fields #[xl, xu, xk] }) (sliceV xs l u k) ((sliceRange (sliceBounds l u k ys.toArray.size).1 (sliceBounds l u k ys.toArray.size).2.1 (sliceBounds l u k ys.toArray.size).2.2).filterMap (ys.toArray[·]?)) := by
      have := (rr.keep (h' := s₄.heap.push { cls := .type "slice", data := .fields #[xl, xu, xk] }) fun b o _ e => kp b o e).pick (sliceRange (sliceBounds l u k xs.length).1 (sliceBounds l u k xs.length).2.1 (sliceBounds l u k xs.length).2.2)
      unfold sliceV
      simp only [List.size_toArray, List.getElem?_toArray]
      rw [← rr.length]
      exact this
    exact (new_list (s := { s₄ with heap := s₄.heap.push { cls := .type "slice", data := .fields #[xl, xu, xk] } }) ok₅ rp w₄ _ rfl).shift (((g₁.trans g₂).trans g₃).trans (g₄.trans (.of_keep kp))) (((r₁.trans r₂).trans r₃).trans (r₄.trans (Rest.mk s₄ _ _)))
  · exact w₄.elim

/-! ### lists joined and compared -/
noncomputable def wAddL (ns : List Int) : WB := fun v w H Q => match asL ns H v, asL ns H w with
  | some xs, some ys => xs.length + ys.length ≤ 1000000 ∧ Q (.loc H.length) (H ++ [.list (xs ++ ys)])
  | _, _ => False
theorem addL_ok (G : Good c) : BinOK c d .Add (wAddL c.ns) := by
  intro A E s φ H v w x y Q ao ok rv rw' q
  unfold wAddL at q
  split at q
  · rename_i xs ys e1 e2
    obtain ⟨a, us, rfl, il, r1⟩ := asL_of G ok rv e1
    obtain ⟨b, ws, rfl, il', r2⟩ := asL_of G ok rw' e2
    obtain ⟨⟨cls, dd, data, sl⟩, ho, hc, n, hd⟩ := id il
    obtain ⟨⟨cls2, dd2, data2, sl2⟩, ho2, hc2, n2, hd2⟩ := id il'
    simp only at hc hd hc2 hd2
    subst hc hd hc2 hd2
    have e : us.toArray ++ ws.toArray = (us ++ ws).toArray := by simp
    refine concat_meets ⟨_, ho, rfl⟩ ⟨_, ho2, rfl⟩ noFill_list_add seq_list_add PySem.F.slot_list_add PySem.F.entry_list_add (PySem.F.args_list_add_2 _ _) (list_addW a b us.toArray ws.toArray n n2 dd dd2 sl sl2 (by simp only [List.size_toArray]; rw [← r1.length, ← r2.length, sizeLine_eq]; (first | lia | omega))) ⟨ho, ho2, ?_⟩
    rw [e]
    exact new_list ok (r1.append r2) q.2 _ rfl
  · exact q.elim
theorem ints_of {φ h} : ∀ {ns : List Int} {ys : List Value}, RepVs c φ h (ns.map .int) ys → IntsAre ys ns
  | [], _, .nil => .nil
  | _ :: _, _, .cons r rs => by cases r; exact .cons _ _ (ints_of rs)
/-! ### built-in functions -/
noncomputable def bLen (ns : List Int) : WF := fun args H Q => match args with
  | [v] => (match asL ns H v with | some xs => xs.length ≤ 1000000 ∧ Q (.int xs.length) H | none => False)
  | _ => False
theorem len_ok (G : Good c) : FnOK c d (.builtin "len") (bLen c.ns) := by
  intro A E s φ H args vals Q ao ok r q
  unfold bLen at q
  split at q
  · split at q
    · rename_i xs ex
      cases r with
      | cons rv rs =>
        cases rs
        obtain ⟨a, ys, rfl, il, rr⟩ := asL_of G ok rv ex
        refine len_list il (by simp only [List.size_toArray]; rw [← rr.length]; (first | lia | omega)) ?_
        simp only [List.size_toArray]
        rw [← rr.length]
        exact .here q.2 ok .int (fun _ _ e => e) (Rest.mk s s.heap _)
    · exact q.elim
  · exact q.elim
/-! ### methods of a list -/
theorem upd_list {φ H} {k : Nat} {a : Addr} {xs : List V} {ys us : List Value} {n : Nat} {s : Shared} {Q : V → HW → Prop} {v x} {f : Array Value → Array Value} (ok : Ok c φ H s.heap) (hk : φ.l[k]? = some a) (il : IsL s.heap a ys.toArray n) (e : f ys.toArray = us.toArray) (r : RepVs c φ s.heap xs us)
    (rv : RepV c φ s.heap v x) (q : Q v (H.set k (.list xs))) : PostE c φ s Q x { s with heap := s.heap.update a (Obj.mapSeq f) } := by
  have il' := IsL.update il f
  rw [e] at il'
  obtain ⟨ok', g⟩ := ok.put (lo := .list xs) hk (fun b o n e => (Heap.get?_update_ne _ _ _ _ n).trans e) il' (.list r)
  exact ⟨v, _, φ, q, ok', rv.grow g, g, _, _, rfl⟩
noncomputable def lstAt (H : HW) (k : Nat) : Option (List V) := match H[k]? with | some (.list xs) => some xs | _ => none
theorem lstAt_of {H : HW} {k : Nat} {xs} (e : lstAt H k = some xs) : H[k]? = some (.list xs) := by
  unfold lstAt at e
  split at e
  · rename_i h; cases e; exact h
  · cases e
noncomputable def wAppend (a b : WE) : WE := fun sl H Q => a sl H fun v H₁ => match v with
  | .loc k => (lstAt H₁ k).isSome = true ∧ b sl H₁ fun w H₂ => (match lstAt H₂ k with | some xs => xs.length ≤ 1000000 ∧ Q .none (H₂.set k (.list (xs ++ [w]))) | none => False)
  | _ => False
theorem meth_list {M : Model} {A : Around} {E : Value → Shared → Prop} {s : Shared} {φ H} {k : Nat} {x : Value} {name : Str} {id : String} {pl : Sem Bool} {Q : Value × List Value → Shared → Prop} (ok : Ok c φ H s.heap) (rv : RepV c φ s.heap (.loc k) x) (hl : (lstAt H k).isSome = true)
    (slot : Slot "list" name id) (hty : typeOf (.builtin id) = pure (.type "method_descriptor")) (h : Q (.builtin id, [x]) s) : wpAny M A (getMethod x name pl) Q E s := by
  obtain ⟨xs, e⟩ := Option.isSome_iff_exists.mp hl
  obtain ⟨a, ys, n, rfl, hk, il, r⟩ := loc_list ok rv (lstAt_of e)
  exact getMethod_builtin ⟨_, il, rfl⟩ PySem.F.plainAttrs_list slot hty (fun b hb => by cases hb; exact ⟨_, il, rfl⟩) h
theorem ev_append {o e apos pos a b} {pl : Env → Sem Bool} (ho : Ev c d sc ρ o a) (hb : Ev c d sc ρ e b) (hs : ∀ env, backTo pos (starEach [e] env) = [(false, eval e env)])
    (he : ∀ env, eval (.Call (.Attribute o (Str.ofString "append") apos) [e] [] pos) env = (do
      let ov ← eval o env
      standAt apos.atName
      let (f, first) ← holding [ov] (getMethod ov (Str.ofString "append") (pl env))
      callWith pos f first (backTo pos (starEach [e] env)) (backToKw pos (keywordEach [] env)))) : Ev c d sc ρ (.Call (.Attribute o (Str.ofString "append") apos) [e] [] pos) (wAppend a b) := by
  intro env A E s φ sl H Q eo ao ok vs w
  refine methodCall_KW (pl := pl env) (wpAny_mono (ho env A E s φ sl H _ eo ao ok vs w) (fun x s₁ p₁ => ?_) fun _ _ e => e) (he env)
  obtain ⟨v, H₁, φ₁, w₁, ok₁, rv, g₁, r₁⟩ := p₁
  split at w₁
  · rename_i k
    refine meth_list ok₁ rv w₁.1 PySem.F.slot_list_append PySem.F.type_list_append ?_
    have ex : ∃ al, x = .ref al := by cases rv; exact ⟨_, rfl⟩
    obtain ⟨al, rfl⟩ := ex
    show wpAny _ _ (callWith pos (.builtin "list.append") [.ref al] (backTo pos (starEach [e] env)) []) _ _ _
    rw [hs]
    refine PySem.P.append_list (wpAny_mono (hb env A E s₁ φ₁ sl H₁ _ eo ao ok₁ (vs.grow g₁) w₁.2) (fun y s₂ p₂ => ?_) fun _ _ e => e)
    obtain ⟨u, H₂, φ₂, w₂, ok₂, ru, g₂, r₂⟩ := p₂
    split at w₂
    · rename_i xs ex
      obtain ⟨a', ys, n, ea, hk, il, r⟩ := loc_list ok₂ (rv.grow g₂) (lstAt_of ex)
      cases ea
      refine ⟨ys.toArray, n, by rw [List.size_toArray, ← r.length, sizeLine_eq]; (first | lia | omega), il, ?_⟩
      exact (upd_list (us := ys ++ [y]) ok₂ hk il (by simp) (r.append (.cons ru .nil)) .none w₂.2).shift (g₁.trans g₂) (r₁.trans r₂)
    · exact w₂.elim
  · exact w₁.elim
end
end Mine

namespace Mine
section
variable {c : Cx} {d : Nat} {sc : Scope} {ρ : List Str}

/-! ### statements -/
noncomputable def wSkip : WS := fun sl H Q => Q .next sl H
noncomputable def wSeq (a b : WS) : WS := fun sl H Q => a sl H fun F sl' H' => match F with | .next => b sl' H' Q | .ret v => Q (.ret v) sl' H'
theorem exs_nil : Exs c d sc ρ [] wSkip := fun _ _ _ s φ sl H _ _ _ ok vs w => wpAny_execs_nil ⟨.next, sl, H, φ, w, ok, vs, trivial, .refl _ _ _, Rest.refl s⟩
theorem exs_cons {e es a b} (he : Ex c d sc ρ e a) (hes : Exs c d sc ρ es b) : Exs c d sc ρ (e :: es) (wSeq a b) := by
  intro env A E s φ sl H Q eo ao ok vs w
  refine wpAny_execs_cons (wpAny_mono (he env A E s φ sl H _ eo ao ok vs w) (fun f s₁ p₁ => ?_) fun _ _ e => e)
  obtain ⟨F, sl₁, H₁, φ₁, w₁, ok₁, vs₁, rf, g₁, r₁⟩ := p₁
  cases F with
  | next =>
    cases f with
    | next => exact wpAny_mono (hes env A E s₁ φ₁ sl₁ H₁ Q eo ao ok₁ vs₁ w₁) (fun f s₂ p₂ => p₂.shift g₁ r₁) fun _ _ e => e
    | _ => exact rf.elim
  | ret v =>
    cases f with
    | ret x => exact ⟨.ret v, sl₁, H₁, φ₁, w₁, ok₁, vs₁, rf, g₁, r₁⟩
    | _ => exact rf.elim
noncomputable def wSet (i : Nat) (a : WE) : WS := fun sl H Q => a sl H fun v H' => Q .next (sl.set i (some v)) H'
theorem ex_set {i x xp e pos a} (he : Ev c d sc ρ e a) (hi : ρ[i]? = some x) (hx : sc.names.lookup x = some .local ∨ sc.names.lookup x = some .cell) (hk : sc.kind = .function)
    (hs : ∀ env, swapsWith e (some (.Name x xp)) pos.line env = pure false) : Ex c d sc ρ (.Assign [.Name x xp] e pos) (wSet i a) := by
  intro env A E s φ sl H Q eo ao ok vs w
  refine wpAny_Assign_Name (wpAny_mono (he env A E s φ sl H _ eo ao ok vs w) (fun y s₁ p₁ => ?_) fun _ _ e => e) (hs env)
  obtain ⟨v, H₁, φ₁, w₁, ok₁, rv, g₁, r₁⟩ := p₁
  exact store_ok hi hx hk eo ok₁ (vs.grow g₁) rv fun s₂ ok₂ vs₂ g₂ r₂ => ⟨.next, _, H₁, φ₁, w₁, ok₂, vs₂, trivial, g₁.toS.trans g₂, r₁.trans r₂⟩
noncomputable def wAug (i : Nat) (f : WB) (a : WE) : WS := fun sl H Q => wBin f (wVar i) a sl H fun v H' => Q .next (sl.set i (some v)) H'
noncomputable def InpOK (c : Cx) (d : Nat) (op : Operator) (f : WB) : Prop :=
  ∀ A E s φ H v w x y Q, AOK d A → Ok c φ H s.heap → RepV c φ s.heap v x → RepV c φ s.heap w y → f v w H Q → wpAny (model c.prog c.w) A (inplaceOp op x y) (PostE c φ s Q) E s
theorem iadd_ok : InpOK c d .Add (onI fun i j => .int (i + j)) := by
  intro A E s φ H v w x y Q ao ok rv rw' q
  obtain ⟨i, j, rfl, rfl, q⟩ := onI_of q
  cases rv; cases rw'
  exact iadd_int (.here q ok .int (fun _ _ e => e) (Rest.mk s s.heap _))
theorem ex_aug {i x xp op e pos f a} (B : InpOK c d op f) (he : Ev c d sc ρ e a) (hi : ρ[i]? = some x) (hx : sc.names.lookup x = some .local) (hk : sc.kind = .function) : Ex c d sc ρ (.AugAssign (.Name x xp) op e pos) (wAug i f a) := by
  intro env A E s φ sl H Q eo ao ok vs w
  unfold wAug wBin at w
  obtain ⟨v, e, q⟩ := wVar_of w
  have kx := (eo.kind x).trans hx
  obtain ⟨m, hn, hm⟩ := id vs.loc
  obtain ⟨y, h1, h2⟩ := hm i x v hi kx e
  refine wpAny_AugAssign_Name (wpAny_loadName_local (by rw [eo.scope]; exact hk) kx hn h1 ?_)
  refine wpAny_mono (he env A E s φ sl H _ eo ao ok vs q) (fun z s₁ p₁ => ?_) fun _ _ e => e
  obtain ⟨u, H₁, φ₁, w₁, ok₁, ru, g₁, r₁⟩ := p₁
  refine wpAny_mono (B A E s₁ φ₁ H₁ v u y z _ ao ok₁ (h2.grow g₁) ru w₁) (fun t s₂ p₂ => ?_) fun _ _ e => e
  obtain ⟨r, H₂, φ₂, w₂, ok₂, rr, g₂, r₂⟩ := p₂
  exact store_ok hi (.inl hx) hk eo ok₂ (vs.grow (g₁.trans g₂)) rr fun s₃ ok₃ vs₃ g₃ r₃ => ⟨.next, _, H₂, φ₂, w₂, ok₃, vs₃, trivial, (g₁.trans g₂).toS.trans g₃, (r₁.trans r₂).trans r₃⟩
noncomputable def wDrop (a : WE) : WS := fun sl H Q => a sl H fun v H' => match v with | .none => Q .next sl H' | _ => False
theorem ex_expr {e pos a} (he : Ev c d sc ρ e a) (hk : sc.kind = .function) (hs : ∀ env, swapsWith e none pos.line env = pure false) : Ex c d sc ρ (.Expr e pos) (wDrop a) := by
  intro env A E s φ sl H Q eo ao ok vs w
  refine wpAny_Expr (wpAny_mono (he env A E s φ sl H _ eo ao ok vs w) (fun y s₁ p₁ => ?_) fun _ _ e => e) (by unfold interactive; rw [eo.scope, hk]; rfl) (hs env)
  obtain ⟨v, H₁, φ₁, w₁, ok₁, rv, g₁, r₁⟩ := p₁
  split at w₁
  · cases rv
    exact ⟨.next, sl, H₁, φ₁, w₁, ok₁, vs.grow g₁, trivial, g₁.toS, r₁⟩
  · exact w₁.elim
noncomputable def wIf (t : WT) (a b : WS) : WS := fun sl H Q => t sl H fun r H' => if r then a sl H' Q else b sl H' Q
theorem ex_if {t body orelse pos w a b} (ht : Et c d sc ρ t w) (ha : Exs c d sc ρ body a) (hb : Exs c d sc ρ orelse b) : Ex c d sc ρ (.If t body orelse pos) (wIf w a b) := by
  intro env A E s φ sl H Q eo ao ok vs q
  refine wpAny_If (wpAny_mono (ht env A E s φ sl H _ eo ao ok vs q) (fun y s₁ p₁ => ?_) fun _ _ e => e)
  obtain ⟨H₁, φ₁, w₁, ok₁, g₁, r₁⟩ := p₁
  cases y with
  | true => simp only [if_true] at w₁ ⊢; exact wpAny_mono (ha env A E s₁ φ₁ sl H₁ Q eo ao ok₁ (vs.grow g₁) w₁) (fun f s₂ p₂ => p₂.shift g₁.toS r₁) fun _ _ e => e
  | false => simp only [Bool.false_eq_true, if_false] at w₁ ⊢; exact wpAny_mono (hb env A E s₁ φ₁ sl H₁ Q eo ao ok₁ (vs.grow g₁) w₁) (fun f s₂ p₂ => p₂.shift g₁.toS r₁) fun _ _ e => e
noncomputable def wRet (a : WE) : WS := fun sl H Q => a sl H fun v H' => Q (.ret v) sl H'
theorem ex_ret {e pos a} (he : Ev c d sc ρ e a) : Ex c d sc ρ (.Return (some e) pos) (wRet a) := by
  intro env A E s φ sl H Q eo ao ok vs w
  refine wpAny_Return_some (wpAny_mono (he env A E s φ sl H _ eo ao ok vs w) (fun y s₁ p₁ => ?_) fun _ _ e => e)
  obtain ⟨v, H₁, φ₁, w₁, ok₁, rv, g₁, r₁⟩ := p₁
  exact ⟨.ret v, sl, H₁, φ₁, w₁, ok₁, vs.grow g₁, rv, g₁.toS, r₁⟩

/-! ### while -/
noncomputable def wWhileN (t : WT) (b : WS) : Nat → WS
  | 0 => fun _ _ _ => False
  | n + 1 => fun sl H Q => t sl H fun r H₁ => if r then b sl H₁ (fun F sl' H' => match F with | .next => wWhileN t b n sl' H' Q | .ret v => Q (.ret v) sl' H') else Q .next sl H₁
noncomputable def wWhile (t : WT) (b : WS) : WS := fun sl H Q => ∃ n, wWhileN t b n sl H Q
theorem ex_while {t body pos w b} (ht : Et c d sc ρ t w) (hb : Exs c d sc ρ body b) : Ex c d sc ρ (.While t body [] pos) (wWhile w b) := by
  rintro env A E s φ sl H Q eo ao ok vs ⟨n, q⟩
  refine wpAny_While (codeAny_whileLoop (fun n s' => ∃ φ' sl' H', wWhileN w b n sl' H' Q ∧ Ok c φ' H' s'.heap ∧ Vars c ρ φ' s'.heap env sl' ∧ GrowS env φ s.heap φ' s'.heap ∧ Rest s s') ?_ n ⟨φ, sl, H, q, ok, vs, .refl _ _ _, Rest.refl s⟩)
  rintro n s' ⟨φ', sl', H', q, ok, vs, g, r⟩
  cases n with
  | zero => exact q.elim
  | succ n =>
    refine wpAny_mono (ht env A _ s' φ' sl' H' _ eo ao ok vs q) (fun y s₁ p₁ => ?_) fun _ _ e => e
    obtain ⟨H₁, φ₁, w₁, ok₁, g₁, r₁⟩ := p₁
    cases y with
    | false =>
      simp only [Bool.false_eq_true, if_false] at w₁ ⊢
      exact wpAny_execs_nil ⟨.next, sl', H₁, φ₁, w₁, ok₁, vs.grow g₁, trivial, g.trans g₁.toS, r.trans r₁⟩
    | true =>
      simp only [if_true] at w₁ ⊢
      refine wpAny_mono (hb env A _ s₁ φ₁ sl' H₁ _ eo ao ok₁ (vs.grow g₁) w₁) (fun f s₂ p₂ => ?_) fun _ _ e => e
      obtain ⟨F, sl₂, H₂, φ₂, w₂, ok₂, vs₂, rf, g₂, r₂⟩ := p₂
      cases F with
      | next =>
        cases f with
        | next => exact ⟨n, Nat.lt_succ_self n, φ₂, sl₂, H₂, w₂, ok₂, vs₂, (g.trans g₁.toS).trans g₂, (r.trans r₁).trans r₂⟩
        | _ => exact rf.elim
      | ret v =>
        cases f with
        | ret x => exact ⟨.ret v, sl₂, H₂, φ₂, w₂, ok₂, vs₂, rf, (g.trans g₁.toS).trans g₂, (r.trans r₁).trans r₂⟩
        | _ => exact rf.elim

/-! ### targets -/
noncomputable abbrev WA := V → Sl → HW → (Sl → HW → Prop) → Prop
noncomputable def At (c : Cx) (d : Nat) (sc : Scope) (ρ : List Str) (t : Expr) (W : WA) : Prop :=
  ∀ env A E s φ sl H v x K, EnvOK sc env → AOK d A → Ok c φ H s.heap → Vars c ρ φ s.heap env sl → RepV c φ s.heap v x → W v sl H K →
    wpAny (model c.prog c.w) A (assign t env x) (fun _ s' => ∃ sl' H' φ', K sl' H' ∧ Ok c φ' H' s'.heap ∧ Vars c ρ φ' s'.heap env sl' ∧ GrowS env φ s.heap φ' s'.heap ∧ Rest s s') E s
noncomputable def aName (i : Nat) : WA := fun v sl H K => K (sl.set i (some v)) H
theorem at_name {i x xp} (hi : ρ[i]? = some x) (hx : sc.names.lookup x = some .local ∨ sc.names.lookup x = some .cell) (hk : sc.kind = .function) : At c d sc ρ (.Name x xp) (aName i) := by
  intro env A E s φ sl H v y K eo ao ok vs rv q
  exact wpAny_assign_Name (store_ok hi hx hk eo ok vs rv fun s₂ ok₂ vs₂ g₂ r₂ => ⟨_, H, φ, q, ok₂, vs₂, g₂, r₂⟩)
noncomputable def setAll : List Nat → List V → Sl → Sl
  | i :: is, v :: vs, sl => setAll is vs (sl.set i (some v))
  | _, _, sl => sl
theorem ExtBut.keep {h h' : Heap} (x : Heap.ExtBut h.objs.size h h') : ∀ b o, h.get? b = some o → h'.get? b = some o := fun b o e => x b o (Nat.ne_of_lt (Heap.lt_size e)) e
/-- each function of the row stores the name at its place -/
noncomputable def Stores (M : Model) (env : Env) : List Str → List (Value → Sem Unit) → Prop
  | [], [] => True
  | x :: xs, f :: fs => (∀ A E v s (R : Unit → Shared → Prop), wpAny M A (storeName env x v) R E s → wpAny M A (f v) R E s) ∧ Stores M env xs fs
  | _, _ => False
noncomputable def Slots (sc : Scope) (ρ : List Str) : List Nat → List Str → Prop
  | [], [] => True
  | i :: is, x :: xs => (ρ[i]? = some x ∧ (sc.names.lookup x = some .local ∨ sc.names.lookup x = some .cell)) ∧ Slots sc ρ is xs
  | _, _ => False
theorem inOrder_ok {env : Env} {A E φ H} (hk : sc.kind = .function) (eo : EnvOK sc env) (is : List Nat) : ∀ (xs : List Str) (fs : List (Value → Sem Unit)) (vs : List V) (ys : List Value) (s : Shared) (sl : Sl) (R : Unit → Shared → Prop),
    Stores (model c.prog c.w) env xs fs → Slots sc ρ is xs → vs.length = is.length → Ok c φ H s.heap → Vars c ρ φ s.heap env sl → RepVs c φ s.heap vs ys →
    (∀ s', Ok c φ H s'.heap → Vars c ρ φ s'.heap env (setAll is vs sl) → GrowS env φ s.heap φ s'.heap → Rest s s' → R () s') →
    wpAny (model c.prog c.w) A (assignInOrder fs ys) R E s := by
  induction is with
  | nil =>
    intro xs fs vs ys s sl R hf h1 h2 ok va r k
    cases vs with
    | cons _ _ => simp at h2
    | nil =>
      cases r
      have : assignInOrder fs [] = pure () := by cases fs <;> rfl
      rw [this]
      exact wpAny_pure (k s ok va (.refl _ _ _) (Rest.refl s))
  | cons i is ih =>
    intro xs fs vs ys s sl R hf h1 h2 ok va r k
    cases r with
    | nil => simp at h2
    | cons r rs =>
      cases xs with
      | nil => exact h1.elim
      | cons x xs =>
        cases fs with
        | nil => exact hf.elim
        | cons f fs =>
          rename_i v y vs ys
          show wpAny _ _ (holding ys (f y) >>= fun _ => assignInOrder fs ys) _ _ _
          refine wpAny_bind (wpAny_holding (hf.1 _ _ _ _ _ (store_ok h1.1.1 h1.1.2 hk eo ok va r fun s₂ ok₂ vs₂ g₂ r₂ => ?_)))
          refine ih xs fs vs ys s₂ _ R hf.2 h1.2 (by simpa using h2) ok₂ vs₂ ?_ fun s₃ ok₃ vs₃ g₃ r₃ => k s₃ ok₃ vs₃ (g₂.trans g₃) (r₂.trans r₃)
          exact rs.keep fun b o z e => g₂.keep b o e (ok.dj b z) (fun q => va.offZ (q ▸ z)) fun x q => (va.offC x b q).2.1 z
theorem Slots.len : ∀ {is : List Nat} {xs : List Str}, Slots sc ρ is xs → xs.length = is.length
  | [], [], _ => rfl
  | _ :: _, _ :: _, h => by simp [h.2.len]
  | [], _ :: _, h => h.elim
  | _ :: _, [], h => h.elim
/-- «a, b = x, y»: the stores go from the last to the first -/
noncomputable def aTupR (is : List Nat) : WA := fun v sl H K => match v with | .tup vs => vs.length = is.length ∧ K (setAll is.reverse vs.reverse sl) H | _ => False
noncomputable def wSetR (is : List Nat) (a : WE) : WS := fun sl H Q => a sl H fun v H' => aTupR is v sl H' fun sl' H'' => Q .next sl' H''
theorem Slots.snoc {i x} (h : ρ[i]? = some x ∧ (sc.names.lookup x = some .local ∨ sc.names.lookup x = some .cell)) : ∀ {is : List Nat} {xs : List Str}, Slots sc ρ is xs → Slots sc ρ (is ++ [i]) (xs ++ [x])
  | [], [], _ => ⟨h, trivial⟩
  | _ :: _, _ :: _, g => ⟨g.1, Slots.snoc h g.2⟩
  | [], _ :: _, g => g.elim
  | _ :: _, [], g => g.elim
theorem Slots.reverse : ∀ {is : List Nat} {xs : List Str}, Slots sc ρ is xs → Slots sc ρ is.reverse xs.reverse
  | [], [], _ => trivial
  | _ :: _, _ :: _, g => by simp only [List.reverse_cons]; exact g.2.reverse.snoc g.1
  | [], _ :: _, g => g.elim
  | _ :: _, [], g => g.elim
theorem stores_bind {M : Model} {env : Env} : ∀ xs : List Str, Stores M env xs (xs.map fun n => bindName env n)
  | [] => trivial
  | _ :: xs => ⟨fun _ _ _ _ _ h => wpAny_bindName h, stores_bind xs⟩
theorem ex_setR {elts k tpos e pos a is} {xs : List Str} (he : Ev c d sc ρ e a) (hk : sc.kind = .function) (hx : Slots sc ρ is xs)
    (hs : ∀ env, swapsWithSole [.Tuple elts k tpos] e pos.line env = pure false) (hw : ∀ env, env.scope = sc → swappedStores [.Tuple elts k tpos] e env = pure (some xs)) : Ex c d sc ρ (.Assign [.Tuple elts k tpos] e pos) (wSetR is a) := by
  intro env A E s φ sl H Q eo ao ok vs w
  refine Assign_Tuple_swapped (wpAny_mono (he env A E s φ sl H _ eo ao ok vs w) (fun y s₁ p₁ => ?_) fun _ _ e => e) (hs env) (hw env eo.scope)
  obtain ⟨v, H₁, φ₁, w₁, ok₁, rv, g₁, r₁⟩ := p₁
  unfold aTupR at w₁
  split at w₁
  · cases rv with
    | tup n z n0 e r =>
      obtain ⟨hlen, q⟩ := w₁
      rename_i ys _ _
      have hsz : xs.length = ys.toArray.size := by rw [hx.len, List.size_toArray, ← r.length, hlen]
      rw [hsz]
      refine wpAny_unpackItems_tuple ao.handled ⟨_, e, rfl, _, rfl⟩ fun h' x => ?_
      have kp := ExtBut.keep x
      have g : Grow φ₁ s₁.heap φ₁ h' := .of_keep kp
      refine inOrder_ok (s := { s₁ with heap := h' }) hk eo is.reverse xs.reverse _ _ _ sl _ (stores_bind _) hx.reverse (by simp [hlen]) (ok₁.keep kp) ((vs.grow g₁).grow g) (by simpa using (r.grow g).reverse) fun s₃ ok₃ vs₃ g₃ r₃ => ⟨.next, _, _, φ₁, q, ok₃, vs₃, trivial, (g₁.toS.trans g.toS).trans g₃, (r₁.trans (Rest.mk s₁ h' s₁.toks)).trans r₃⟩
  · exact w₁.elim
end
end Mine

namespace Mine
section
variable {c : Cx} {d : Nat} {sc : Scope} {ρ : List Str}

/-! ### what a loop goes over -/
inductive ItK where
  | list (kv : V) (xs : List V)
  | walk (xs : List V)
noncomputable def ItK.items : ItK → List V
  | .list _ xs => xs
  | .walk xs => xs
noncomputable def ItK.inv (ns : List Int) (H : HW) : ItK → Prop
  | .list kv xs => asL ns H kv = some xs
  | .walk _ => True
noncomputable def RepL (c : Cx) (φ : Mp) (v : V) (a : Addr) : Prop := (∃ k, v = .loc k ∧ φ.l[k]? = some a) ∨ (v = .script ∧ a = c.aS)
theorem RepL.rep {φ h v a} (r : RepL c φ v a) : RepV c φ h v (.ref a) := by
  rcases r with ⟨k, rfl, e⟩ | ⟨rfl, rfl⟩
  · exact .loc e
  · exact .script
noncomputable def ItAt (c : Cx) (A : Around) (φ : Mp) (h : Heap) (I : Addr) (i : Nat) : ItK → Prop
  | .list kv _ => ∃ a, RepL c φ kv a ∧ h.IsListIter I a i
  | .walk xs => ∃ P St, Walks c.prog c.w A I [I] [I] xs.length P St ∧ (∀ i v, P i v → ∃ u, xs[i]? = some u ∧ (∀ T, v ≠ .ref T) ∧ ∀ φ h, RepV c φ h u v) ∧ (∀ i h, St i h → ∃ o, h.get? I = some o) ∧ St i h
theorem ItAt.keep {A φ φ' h h' I i k} (x : ItAt c A φ h I i k) (e : ∀ o, h.get? I = some o → h'.get? I = some o) (g : ∀ (k : Nat) a, φ.l[k]? = some a → φ'.l[k]? = some a) : ItAt c A φ' h' I i k := by
  cases k with
  | list kv xs =>
    obtain ⟨a, r, o, ho, q⟩ := x
    refine ⟨a, ?_, o, e _ ho, q⟩
    rcases r with ⟨k, rfl, e⟩ | ⟨rfl, rfl⟩
    · exact .inl ⟨k, rfl, g _ _ e⟩
    · exact .inr ⟨rfl, rfl⟩
  | walk xs =>
    obtain ⟨P, St, W, hp, hl, st⟩ := x
    exact ⟨P, St, W, hp, hl, W.frame _ _ _ st fun b hb o eo => by rw [List.mem_singleton.mp hb] at eo ⊢; exact e o eo⟩
/-- one item more -/
theorem ItAt.item {A E φ H I i k} {v : V} {s : Shared} {R : Option Value → Shared → Prop} (G : Good c) (ok : Ok c φ H s.heap) (iv : k.inv c.ns H) (x : ItAt c A φ s.heap I i k) (hv : k.items[i]? = some v)
    (h : ∀ y h' t, RepV c φ s.heap v y → ItAt c A φ h' I (i + 1) k → (∀ b o, b ≠ I → s.heap.get? b = some o → h'.get? b = some o) → (∃ o, h'.get? I = some o) → ((∃ l, h'.IsListIter I l (i + 1)) ∨ ∀ T, y ≠ .ref T) → R (some y) { s with heap := h', toks := t }) :
    wpAny (model c.prog c.w) A (pyNext (.ref I)) R E s := by
  cases k with
  | list kv xs =>
    obtain ⟨a, r, it⟩ := x
    obtain ⟨a', ys, ea, il, rr⟩ := asL_of G ok r.rep iv
    cases ea
    obtain ⟨y, h1, h2⟩ := rr.get hv
    refine wpAny_pyNext_list_item it il (by simpa using h1) fun h' it' sb => h y h' s.toks h2 ⟨a, r, it'⟩ (fun b o n e => (sb.2 b n).trans e) (by obtain ⟨o, ho, _⟩ := it'; exact ⟨o, ho⟩) (.inl ⟨a, it'⟩)
  | walk xs =>
    obtain ⟨P, St, W, hp, hl, st⟩ := x
    have hi : i < xs.length := (List.getElem?_eq_some_iff.mp hv).1
    refine W.item i s _ _ hi st fun y h' tk py st' kp => ?_
    obtain ⟨u, hu, nr, ru⟩ := hp i y py
    have : u = v := by have := hu.symm.trans hv; cases this; rfl
    subst this
    exact h y h' tk (ru _ _) ⟨P, St, W, hp, hl, st'⟩ (fun b o n e => kp b o (fun m => n (List.mem_singleton.mp m)) e) (hl _ _ st') (.inr nr)
theorem ItAt.done {A E φ H I i k} {s : Shared} {R : Option Value → Shared → Prop} (G : Good c) (hh : A.handled = none) (ok : Ok c φ H s.heap) (iv : k.inv c.ns H) (x : ItAt c A φ s.heap I i k) (hv : i = k.items.length)
    (h : ∀ h' t, (∀ b o, b ≠ I → s.heap.get? b = some o → h'.get? b = some o) → R none { s with heap := h', toks := t }) :
    wpAny (model c.prog c.w) A (pyNext (.ref I)) R E s := by
  cases k with
  | list kv xs =>
    obtain ⟨a, r, it⟩ := x
    obtain ⟨a', ys, ea, il, rr⟩ := asL_of G ok r.rep iv
    cases ea
    refine wpAny_pyNext_list_end hh it il (by rw [hv]; simp [ItK.items, rr.length]) fun h' xb => h h' s.toks fun b o n e => xb b o n e
  | walk xs =>
    obtain ⟨P, St, W, hp, hl, st⟩ := x
    rw [hv] at st
    exact W.done s _ _ st fun h' tk kp => h h' tk fun b o n e => kp b o (fun m => n (List.mem_singleton.mp m)) e
theorem ItAt.live {A φ h I i k} (x : ItAt c A φ h I i k) : ∃ o, h.get? I = some o := by
  cases k with
  | list kv xs => obtain ⟨a, r, o, ho, _⟩ := x; exact ⟨o, ho⟩
  | walk xs => obtain ⟨P, St, W, hp, hl, st⟩ := x; exact hl _ _ st

theorem Vars.same {φ h env sl h'} (v : Vars c ρ φ h env sl) {I : Addr} (nL : I ≠ env.locals) (nC : ∀ x, env.cells.lookup x ≠ some I) (nZ : I ∉ φ.z) (k : ∀ b o, b ≠ I → h.get? b = some o → h'.get? b = some o) : Vars c ρ φ h' env sl := by
  obtain ⟨m, hn, hm⟩ := v.loc
  obtain ⟨o, es, ep, ho, r⟩ := id hn
  have kz : ∀ b o, b ∈ φ.z → h.get? b = some o → h'.get? b = some o := fun b o z e => k b o (fun q => nZ (q ▸ z)) e
  refine ⟨v.nd, v.len, v.offL, v.offZ, v.newL, ⟨m, ⟨o, es, ep, k _ _ (Ne.symm nL) ho, r⟩, fun i x w h1 h2 h3 => ?_⟩, fun x a e => ?_, v.inj, fun i x w h1 h2 h3 => ?_, v.has⟩
  · obtain ⟨y, h4, h5⟩ := hm i x w h1 h2 h3
    exact ⟨y, h4, h5.keep kz⟩
  · obtain ⟨n, z, n0, y, o', ho', hd⟩ := v.offC x a e
    exact ⟨n, z, n0, y, o', k _ _ (fun q => nC x (q ▸ e)) ho', hd⟩
  · obtain ⟨a, y, h4, ⟨o', ho', hd⟩, h6⟩ := v.cel i x w h1 h2 h3
    exact ⟨a, y, h4, ⟨o', k _ _ (fun q => nC x (q ▸ h4)) ho', hd⟩, h6.keep kz⟩

/-- what a loop goes over, made -/
noncomputable abbrev WI := Sl → HW → (ItK → HW → Prop) → Prop
noncomputable def PostI (c : Cx) (A : Around) (φ : Mp) (s : Shared) (Q : ItK → HW → Prop) (it : Value) (s' : Shared) : Prop :=
  ∃ I k H φ', it = .ref I ∧ Q k H ∧ k.inv c.ns H ∧ ItAt c A φ' s'.heap I 0 k ∧ s.heap.get? I = none ∧ I ∉ φ'.l ∧ I ∉ φ'.z ∧ Ok c φ' H s'.heap ∧ Grow φ s.heap φ' s'.heap ∧ Rest s s'
noncomputable def Ei (c : Cx) (d : Nat) (sc : Scope) (ρ : List Str) (e : Expr) (W : WI) : Prop :=
  ∀ env A E s φ sl H Q, EnvOK sc env → AOK d A → Ok c φ H s.heap → Vars c ρ φ s.heap env sl → W sl H Q →
    wpAny (model c.prog c.w) A (eval e env) (fun x s₁ => wpAny (model c.prog c.w) A (pyIter x) (PostI c A φ s Q) E s₁) E s
noncomputable def iList (ns : List Int) (a : WE) : WI := fun sl H Q => a sl H fun v H' => match asL ns H' v with | some xs => Q (.list v xs) H' | none => False
theorem new_unz {φ H} {h : Heap} (ok : Ok c φ H h) : h.objs.size ∉ φ.l ∧ h.objs.size ∉ φ.z := by
  constructor
  · intro m; obtain ⟨o, e⟩ := ok.live m; rw [new_none] at e; cases e
  · intro m; obtain ⟨o, e⟩ := ok.zl _ m; rw [new_none] at e; cases e
theorem Grow.none {φ h φ' h'} (g : Grow φ h φ' h') {a} (e : h'.get? a = none) : h.get? a = none := by
  cases q : h.get? a with
  | none => rfl
  | some o => obtain ⟨o', e'⟩ := g.live a o q; rw [e] at e'; cases e'
theorem ei_list {e a} (G : Good c) (he : Ev c d sc ρ e a) : Ei c d sc ρ e (iList c.ns a) := by
  intro env A E s φ sl H Q eo ao ok vs w
  refine wpAny_mono (he env A E s φ sl H _ eo ao ok vs w) (fun x s₁ p₁ => ?_) fun _ _ e => e
  obtain ⟨v, H₁, φ₁, w₁, ok₁, rv, g₁, r₁⟩ := p₁
  split at w₁
  · rename_i xs ex
    obtain ⟨al, ys, rfl, il, rr⟩ := asL_of G ok₁ rv ex
    refine wpAny_pyIter_list il ?_
    have kp : ∀ b o, s₁.heap.get? b = some o → (s₁.heap.push { cls := .type "list_iterator", data := .fields #[.ref al, .int 0 0] }).get? b = some o := fun b o e => Heap.get?_push_of_some _ e
    refine ⟨_, .list v xs, H₁, φ₁, rfl, w₁, ex, ⟨al, ?_, _, Heap.get?_push_size _ rfl, rfl, rfl⟩, g₁.none (new_none _), (new_unz ok₁).1, (new_unz ok₁).2, ok₁.keep kp, g₁.trans (.of_keep kp), r₁.trans (Rest.mk s₁ _ s₁.toks)⟩
    cases rv <;> simp only [asL] at ex <;> try (cases ex; done)
    · rename_i k hk; exact .inl ⟨k, rfl, hk⟩
    · exact .inr ⟨rfl, rfl⟩
  · exact w₁.elim
/-- the numbers of a range -/
noncomputable def rangeL (a b st : Int) : List V := (List.range (Builtin.Range.rangeSize a b st).toNat).map fun i => .int (a + (i : Nat) * st)
noncomputable def iRange1 (x : WE) : WI := fun sl H Q => x sl H fun v H' => match v with | .int n => (-1000000 < n ∧ n < 1000000) ∧ Q (.walk (rangeL 0 n 1)) H' | _ => False
theorem range_walk {A I a b st h} (hh : A.handled = none) (e : h.get? I = some { cls := .type "range_iterator", data := .fields #[rawInt a, rawInt (Builtin.Range.rangeSize a b st), rawInt st] }) (hn : 0 ≤ Builtin.Range.rangeSize a b st) (φ : Mp) :
    ItAt c A φ h I 0 (.walk (rangeL a b st)) := by
  refine ⟨fun i v => ∃ t, v = .int (a + (i : Nat) * st) t ∧ i < (Builtin.Range.rangeSize a b st).toNat, fun i h => IsRangeIter h I (a + (i : Nat) * st) (((Builtin.Range.rangeSize a b st).toNat : Int) - (i : Nat)) st, ?_, ?_, ?_, ?_⟩
  · have W := Walks.range (prog := c.prog) (w := c.w) hh I a st (Builtin.Range.rangeSize a b st).toNat
    have el : (rangeL a b st).length = (Builtin.Range.rangeSize a b st).toNat := by simp [rangeL]
    rw [el]
    exact ⟨W.sub, W.frame, fun i s Q E hi st hQ => W.item i s Q E hi st fun v h' tk pv => by obtain ⟨t, rfl⟩ := pv; exact hQ _ h' tk ⟨t, rfl, hi⟩, W.done, W.self⟩
  · rintro i v ⟨t, rfl, hi⟩
    exact ⟨.int (a + i * st), by simp [rangeL, hi], fun T e => (nomatch e), fun _ _ => .int⟩
  · exact fun i h st => ⟨_, st⟩
  · show h.get? I = _
    rw [e]
    simp [Int.toNat_of_nonneg hn]
theorem rangeSize_nonneg (a b st : Int) : 0 ≤ Builtin.Range.rangeSize a b st := by rw [rangeSize_toNat]; (first | lia | omega)
theorem range_small {n : Int} (h : -1000000 < n ∧ n < 1000000) : Builtin.Range.small 0 n 1 = true := small_one (by decide) (by decide) (by (first | lia | omega)) (by (first | lia | omega))
theorem ei_range1 {x np pos e a} (G : Good c) (hk : sc.kind = .function) (hx : sc.names.lookup x = some .globalImplicit) (hg : c.mg x = none) (hv : c.mb x = some (.type "range")) (hd : (x == ("__debug__" : Str)) = false)
    (he : Ev c d sc ρ e a) (hs : ∀ env, starEach [e] env = [(false, eval e env)]) : Ei c d sc ρ (.Call (.Name x np) [e] [] pos) (iRange1 a) := by
  intro env A E s φ sl H Q eo ao ok vs w
  refine Call_Name1 (name_built G eo ok hk hx hg hv hd ?_) (hs env)
  refine PyProof.Rows.callWith_type rfl (Calls.evalArgs_plain (Calls.spliced_cons ?_))
  refine wpAny_mono (he env A E s φ sl H _ eo ao ok vs w) (fun y s₁ p₁ => ?_) fun _ _ e => e
  obtain ⟨v, H₁, φ₁, w₁, ok₁, rv, g₁, r₁⟩ := p₁
  refine Calls.spliced_nil ?_
  split at w₁
  · rename_i n
    cases rv with
    | @int _ t =>
      refine call_range_1 ?_
      have kp : ∀ b o, s₁.heap.get? b = some o → (s₁.heap.push { cls := .type "range", data := .fields #[.int 0 s₁.toks, .int n t, .int 1 (s₁.toks + 1)] }).get? b = some o := fun b o e => Heap.get?_push_of_some _ e
      refine wpAny_pyIter_range (s := { s₁ with heap := s₁.heap.push { cls := .type "range", data := .fields #[.int 0 s₁.toks, .int n t, .int 1 (s₁.toks + 1)] }, toks := s₁.toks + 1 + 1 }) (IsRange.new ..) (range_small w₁.1) ?_
      have ok₂ := ok₁.keep kp
      have kp' : ∀ b o, (s₁.heap.push { cls := .type "range", data := .fields #[.int 0 s₁.toks, .int n t, .int 1 (s₁.toks + 1)] }).get? b = some o → ((s₁.heap.push { cls := .type "range", data := .fields #[.int 0 s₁.toks, .int n t, .int 1 (s₁.toks + 1)] }).push { cls := .type "range_iterator", data := .fields #[rawInt 0, rawInt (Builtin.Range.rangeSize 0 n 1), rawInt 1] }).get? b = some o := fun b o e => Heap.get?_push_of_some _ e
      exact ⟨_, _, H₁, φ₁, rfl, w₁.2, trivial, range_walk ao.handled (Heap.get?_push_size _ rfl) (rangeSize_nonneg ..) φ₁, (g₁.trans (.of_keep kp)).none (new_none _), (new_unz ok₂).1, (new_unz ok₂).2, ok₂.keep kp', (g₁.trans (.of_keep kp)).trans (.of_keep kp'), (r₁.trans (Rest.mk s₁ _ _)).trans (Rest.mk _ _ _)⟩
  · exact w₁.elim

/-! ### for -/
noncomputable def wForGo (ns : List Int) (k : ItK) (ta : WA) (b : WS) : List V → WS
  | [] => fun sl H Q => Q .next sl H
  | v :: r => fun sl H Q => ta v sl H fun sl₁ H₁ => b sl₁ H₁ fun F sl₂ H₂ => match F with | .next => k.inv ns H₂ ∧ wForGo ns k ta b r sl₂ H₂ Q | .ret u => Q (.ret u) sl₂ H₂
noncomputable def wFor (ns : List Int) (it : WI) (ta : WA) (b : WS) : WS := fun sl H Q => it sl H fun k H₁ => wForGo ns k ta b k.items sl H₁ Q
/-- the target does not look at the iterator -/
noncomputable def Lot (M : Model) (t : Expr) : Prop := ∀ A E s I l i (y : Value) (R : Unit → Shared → Prop), (s.heap.IsListIter I l i ∨ ∀ T, y ≠ .ref T) → R () s → wpAny M A (letOwnedTupleGo t (.ref I) y) R E s
theorem lot_name {M x p} : Lot M (.Name x p) := fun _ _ _ _ _ _ _ _ _ h => wpAny_pure h
structure ForIn' (c : Cx) (A : Around) (ρ : List Str) (env : Env) (φ : Mp) (s : Shared) (Q : Fl → Sl → HW → Prop) (wa : WA) (wb : WS) (k : ItK) (I : Addr) (n : Nat) (s' : Shared) (i : Nat) (φ' : Mp) (sl' : Sl) (H' : HW) : Prop where
  len : i + n = k.items.length
  go : wForGo c.ns k wa wb (k.items.drop i) sl' H' Q
  inv : k.inv c.ns H'
  it : ItAt c A φ' s'.heap I i k
  il : I ∉ φ'.l
  iz : I ∉ φ'.z
  ok : Ok c φ' H' s'.heap
  vs : Vars c ρ φ' s'.heap env sl'
  gr : GrowS env φ s.heap φ' s'.heap
  rs : Rest s s'
noncomputable def ForI (c : Cx) (A : Around) (ρ : List Str) (env : Env) (φ : Mp) (s : Shared) (Q : Fl → Sl → HW → Prop) (wa : WA) (wb : WS) (k : ItK) (I : Addr) (n : Nat) (s' : Shared) : Prop :=
  ∃ i φ' sl' H', ForIn' c A ρ env φ s Q wa wb k I n s' i φ' sl' H'
theorem ex_for {t iter body pos wi wa wb} (G : Good c) (hi : Ei c d sc ρ iter wi) (ht : At c d sc ρ t wa) (hb : Exs c d sc ρ body wb) (hl : Lot (model c.prog c.w) t) (hs : ∀ env x, foldedSetIterable iter env x = pure x) : Ex c d sc ρ (.For t iter body [] pos) (wFor c.ns wi wa wb) := by
  intro env A E s φ sl H Q eo ao ok vs w
  refine wpAny_For (wpAny_mono (hi env A E s φ sl H _ eo ao ok vs w) (fun x s₁ p₁ => wpAny_mono p₁ (fun it s₂ p₂ => ?_) fun _ _ e => e) fun _ _ e => e) (hs env)
  obtain ⟨I, k, H₂, φ₂, rfl, q, iv, ia, fI, nl, nz, ok₂, g₂, r₂⟩ := p₂
  have vs₂ := vs.grow g₂
  have fr : I ≠ env.locals ∧ (∀ x, env.cells.lookup x ≠ some I) ∧ c.h₀.get? I = none := by
    refine ⟨fun e => ?_, fun x e => ?_, ?_⟩
    · obtain ⟨m, ⟨o, _, _, ho, _⟩, _⟩ := vs.loc
      rw [← e, fI] at ho; cases ho
    · obtain ⟨_, _, _, y, o, ho, _⟩ := vs.offC x I e
      rw [fI] at ho; cases ho
    · cases e : c.h₀.get? I with
      | none => rfl
      | some o => have := ok.base _ _ e; rw [fI] at this; cases this
  obtain ⟨fL, fC, f0⟩ := fr
  refine codeAny_forLoop_any (ForI c A ρ env φ s Q wa wb k I)
    ?_ k.items.length ⟨0, φ₂, sl, H₂, by simp, q, iv, ia, nl, nz, ok₂, vs₂, g₂.toS, r₂⟩
  rintro n s' ⟨i, φ', sl', H', hn, q, iv, ia, nl, nz, ok', vs', g', r'⟩
  cases n with
  | zero =>
    have hi : i = k.items.length := by (first | lia | omega)
    refine ItAt.done G ao.handled ok' iv ia hi fun h' t kp => wpAny_execs_nil ?_
    rw [List.drop_eq_nil_of_le (by (first | lia | omega))] at q
    refine ⟨.next, sl', H', φ', q, ok'.same nl nz f0 kp, vs'.same fL fC nz kp, trivial, ?_, r'.trans (Rest.mk s' _ _)⟩
    refine ⟨g'.ext, fun b o e n1 n2 n3 => kp b o (fun z => ?_) (g'.keep b o e n1 n2 n3), fun b o e => ?_⟩
    · rw [z, fI] at e; cases e
    · obtain ⟨o', e'⟩ := g'.live b o e
      exact ⟨o', kp b o' (fun z => by rw [z, fI] at e; cases e) e'⟩
  | succ n =>
    have hlt : i < k.items.length := by (first | lia | omega)
    obtain ⟨v, ev⟩ : ∃ v, k.items[i]? = some v := ⟨_, List.getElem?_eq_getElem hlt⟩
    rw [List.drop_eq_getElem_cons hlt] at q
    have ev' : k.items[i] = v := by rw [List.getElem?_eq_getElem hlt] at ev; cases ev; rfl
    rw [ev'] at q
    refine ItAt.item G ok' iv ia ev fun y h' tk ry ia' kp lv lt => ?_
    have ok₃ := ok'.same nl nz f0 kp
    have vs₃ := vs'.same fL fC nz kp
    have g₃ : GrowS env φ s.heap φ' h' := ⟨g'.ext, fun b o e n1 n2 n3 => kp b o (fun z => by rw [z, fI] at e; cases e) (g'.keep b o e n1 n2 n3), fun b o e => by
      obtain ⟨o', e'⟩ := g'.live b o e
      exact ⟨o', kp b o' (fun z => by rw [z, fI] at e; cases e) e'⟩⟩
    have ry₃ : RepV c φ' h' v y := ry.keep fun b o z e => kp b o (fun w => nz (w ▸ z)) e
    obtain ⟨l, i', hli⟩ : ∃ l i', Heap.IsListIter h' I l i' ∨ ∀ T, y ≠ .ref T := lt.elim (fun ⟨l, it⟩ => ⟨l, _, .inl it⟩) fun nr => ⟨0, 0, .inr nr⟩
    refine hl _ _ _ _ l i' _ _ hli ?_
    refine wpAny_mono (ht env A _ _ φ' sl' H' v y _ eo ao ok₃ vs₃ ry₃ q) (fun _ s₄ p₄ => ?_) fun _ _ e => e
    obtain ⟨sl₄, H₄, φ₄, q₄, ok₄, vs₄, g₄, r₄⟩ := p₄
    refine wpAny_mono (hb env A _ s₄ φ₄ sl₄ H₄ _ eo ao ok₄ vs₄ q₄) (fun f s₅ p₅ => ?_) fun _ _ e => e
    obtain ⟨F, sl₅, H₅, φ₅, q₅, ok₅, vs₅, rf, g₅, r₅⟩ := p₅
    have rr : Rest s s₅ := ((r'.trans (Rest.mk s' h' tk)).trans r₄).trans r₅
    cases F with
    | ret u =>
      cases f with
      | ret x => exact ⟨.ret u, sl₅, H₅, φ₅, q₅, ok₅, vs₅, rf, (g₃.trans g₄).trans g₅, rr⟩
      | _ => exact rf.elim
    | next =>
      cases f with
      | next =>
        obtain ⟨o, lo⟩ := lv
        have n4 := g₄.nin nl lo
        have z4 := g₄.ninz nz lo
        have l4 := g₄.keep I o lo nl fL fC
        have n5 := g₅.nin n4 l4
        have z5 := g₅.ninz z4 l4
        have l5 := g₅.keep I o l4 n4 fL fC
        refine ⟨n, Nat.lt_succ_self n, i + 1, φ₅, sl₅, H₅, by (first | lia | omega), q₅.2, q₅.1, ia'.keep (fun o' e' => ?_) (fun k a e => g₅.at (g₄.at e)), n5, z5, ok₅, vs₅, (g₃.trans g₄).trans g₅, rr⟩
        rw [lo] at e'; cases e'; exact l5
      | _ => exact rf.elim
end
end Mine

namespace Mine
section
variable {c : Cx} {d : Nat} {sc : Scope} {ρ : List Str}

/-! ### a slot is stored -/
noncomputable def othersOf (h : Heap) (L x : Addr) : List (Addr × Obj) := (List.range h.objs.size).filterMap fun b => if b = L ∨ b = x then none else (h.get? b).map fun o => (b, o)
theorem mem_others {h : Heap} {L x b : Addr} {o : Obj} : (b, o) ∈ othersOf h L x ↔ h.get? b = some o ∧ b ≠ L ∧ b ≠ x := by
  unfold othersOf
  rw [List.mem_filterMap]
  constructor
  · rintro ⟨b', _, e⟩
    split at e
    · cases e
    · rename_i n
      obtain ⟨o', h1, h2⟩ := Option.map_eq_some_iff.mp e
      cases h2
      exact ⟨h1, fun q => n (.inl q), fun q => n (.inr q)⟩
  · rintro ⟨e, n1, n2⟩
    exact ⟨b, List.mem_range.mpr (Heap.lt_size e), by rw [if_neg (by rintro (q | q); exact n1 q; exact n2 q), e]; rfl⟩
theorem set_slot_ok {A E} {s : Shared} {K : Frag} {C p x L : Addr} {i : Nat} {name : Str} {v : Value} {ox od : Obj} {m : Str → Option Value} {R : Unit → Shared → Prop} (X : K.In s.heap) (I : InstAt s.heap x ox C (some od))
    (hs : findIn K (.ref C) "__setattr__" = some (some (.builtin "object.__setattr__"))) (hp : plainOver K C = true) (ht : takerIn K C name = some (some (.ref p))) (hT : typeIn K (.ref p) = some (.type "member_descriptor")) (hi : slotIn K p C = some i) (hz : i < 1000)
    (hn : s.heap.Ns L m) (hx : x ≠ L) (hf : ox.isFreed = false)
    (h : ∀ h', h'.Ns L m → (∀ b o, b ≠ x → b ≠ L → s.heap.get? b = some o → h'.get? b = some o) → h'.get? x = some { ox with slots := (ox.slots ++ Array.replicate (i + 1 - ox.slots.size) none).setIfInBounds i (some v) } → R () { s with heap := h', toks := s.toks + 1 }) :
    wpAny (model c.prog c.w) A (setAttr (.ref x) name v) R E s := by
  have F : Fr { objs := #[] } L s.heap m := ⟨hn, fun b o e => by simp [Heap.get?] at e, Nat.zero_le _⟩
  have N : News { objs := #[] } L s.heap ([] ++ (x, ox) :: othersOf s.heap L x) := by
    intro q hq
    rcases List.mem_cons.mp hq with rfl | hq
    · exact ⟨I.at_, hx, by simp [Heap.get?]⟩
    · obtain ⟨h1, h2, h3⟩ := mem_others.mp hq
      exact ⟨h1, h2, by simp [Heap.get?]⟩
  refine set_plain X I hs (osa_descr (s := { s with toks := s.toks + 1 }) KF.slot_mset X I hp ht hT (slot_set (s := { s with toks := s.toks + 1 }) F N X I hi hz (fun _ h => nomatch h) (fun q hq => (mem_others.mp hq).2.2) rfl ?_ fun h' F' N' => ?_))
  · obtain ⟨a, b, dt, sl⟩ := ox
    cases dt <;> first | rfl | exact hf
  · exact h h' F'.ns (fun b o n1 n2 e => (N' (b, o) (.tail _ (mem_others.mpr ⟨e, n2, n1⟩))).1) (N' (x, _) (.head _)).1
/-- a tracked object is turned, and the frame's own object may be another one that says the same -/
theorem put_in {φ H h h' env sl lo o m} {j : Nat} {a : Addr} (ok : Ok c φ H h) (vs : Vars c ρ φ h env sl) (hj : φ.l[j]? = some a) (r : RepO c φ h lo o) (hn' : h'.Ns env.locals m) (kp : ∀ b o, b ≠ a → b ≠ env.locals → h.get? b = some o → h'.get? b = some o) (e : h'.get? a = some o)
    (hm : h.Ns env.locals m := by assumption) : Ok c φ (H.set j lo) h' ∧ Vars c ρ φ h' env sl ∧ GrowS env φ h φ h' := by
  have ma : a ∈ φ.l := List.mem_of_getElem? hj
  have kz : ∀ b o, b ∈ φ.z → h.get? b = some o → h'.get? b = some o := fun b o z e => kp b o (fun q => ok.dj b z (q ▸ ma)) (fun q => vs.offZ (q ▸ z)) e
  refine ⟨⟨fun b o e => kp b o (fun q => ok.off b o e (q ▸ ma)) (fun q => by rw [q, vs.newL] at e; cases e) (ok.base b o e), ok.off, by simp [ok.len], ok.nodup, fun i x lo' e1 e2 => ?_, ok.dj, fun b m => by obtain ⟨o, e⟩ := ok.zl b m; exact ⟨o, kz b o m e⟩, ok.g0, ok.sm⟩, ?_, ?_⟩
  · by_cases q : i = j
    · subst q
      rw [e1] at hj
      cases hj
      rw [List.getElem?_set_self (by rw [← ok.len]; exact (List.getElem?_eq_some_iff.mp e1).1)] at e2
      cases e2
      exact ⟨o, e, r.keep kz⟩
    · rw [List.getElem?_set_ne (Ne.symm q)] at e2
      obtain ⟨o', h1, h2⟩ := ok.objs i x lo' e1 e2
      refine ⟨o', kp _ _ (fun z => q ?_) (fun z => vs.offL (z ▸ List.mem_of_getElem? e1)) h1, h2.keep kz⟩
      subst z
      obtain ⟨l1, e1'⟩ := List.getElem?_eq_some_iff.mp e1
      obtain ⟨l2, ek'⟩ := List.getElem?_eq_some_iff.mp hj
      exact (List.getElem_inj (h₀ := l1) (h₁ := l2) ok.nodup).mp (e1'.trans ek'.symm)
  · obtain ⟨m₀, hn₀, hm₀⟩ := vs.loc
    have em : m₀ = m := by
      obtain ⟨o1, es1, ep1, h1, d1, _, f1⟩ := hn₀
      obtain ⟨o2, es2, ep2, h2, d2, _, f2⟩ := hm
      rw [h1] at h2; cases h2
      rw [d1] at d2; cases d2
      funext x; rw [← f1 x, ← f2 x]
    subst em
    have kc : ∀ x b, env.cells.lookup x = some b → ∀ o, h.get? b = some o → h'.get? b = some o := fun x b ex o eb => by
      obtain ⟨n, z, n0, y, o', ho', hd⟩ := vs.offC x b ex
      refine kp b o (fun q => n (q ▸ ma)) (fun q => ?_) eb
      obtain ⟨o2, es, ep, ho2, hd2, _⟩ := hn₀
      rw [q, ho2] at ho'; cases ho'; rw [hd] at hd2; cases hd2
    refine ⟨vs.nd, vs.len, vs.offL, vs.offZ, vs.newL, ⟨m₀, hn', fun i x w h1 h2 h3 => ?_⟩, fun x b ex => ?_, vs.inj, fun i x w h1 h2 h3 => ?_, vs.has⟩
    · obtain ⟨y, h4, h5⟩ := hm₀ i x w h1 h2 h3
      exact ⟨y, h4, h5.keep kz⟩
    · obtain ⟨n, z, n0, y, o', ho', hd⟩ := vs.offC x b ex
      exact ⟨n, z, n0, y, o', kc x b ex o' ho', hd⟩
    · obtain ⟨b, y, h4, ⟨o', ho', hd⟩, h6⟩ := vs.cel i x w h1 h2 h3
      exact ⟨b, y, h4, ⟨o', kc x b h4 o' ho', hd⟩, h6.keep kz⟩
  · refine ⟨⟨[], [], by simp, by simp, by simp, by simp⟩, fun b o e n1 n2 _ => kp b o (fun q => n1 (q ▸ ma)) n2 e, fun b o' e' => ?_⟩
    by_cases q : b = a
    · exact ⟨o, q ▸ e⟩
    · by_cases q2 : b = env.locals
      · obtain ⟨o2, _, _, ho2, _⟩ := hn'
        exact ⟨o2, q2 ▸ ho2⟩
      · exact ⟨o', kp b o' q q2 e'⟩
noncomputable def setF (fs : List (Option V)) (i : Nat) (v : V) : List (Option V) := (fs ++ List.replicate (i + 1 - fs.length) none).set i (some v)
theorem setF_join {fs : List (Option V)} {i : Nat} {v : V} (j : Nat) : ((setF fs i v)[j]?).join = if j = i then some v else (fs[j]?).join := by
  unfold setF
  by_cases q : j = i
  · subst q
    rw [List.getElem?_set_self (by simp; (first | lia | omega))]
    simp
  · rw [List.getElem?_set_ne (Ne.symm q), if_neg q]
    by_cases l : j < fs.length
    · rw [List.getElem?_append_left l]
    · rw [List.getElem?_append_right (Nat.not_lt.mp l), List.getElem?_replicate, List.getElem?_eq_none (Nat.not_lt.mp l)]
      split <;> rfl
theorem setA_join {xs : Array (Option Value)} {i : Nat} {v : Value} (j : Nat) : (((xs ++ Array.replicate (i + 1 - xs.size) none).setIfInBounds i (some v))[j]?).join = if j = i then some v else (xs[j]?).join := by
  by_cases q : j = i
  · subst q
    rw [Array.getElem?_setIfInBounds_self_of_lt (by simp; (first | lia | omega))]
    simp
  · rw [Array.getElem?_setIfInBounds_ne (Ne.symm q), if_neg q]
    by_cases l : j < xs.size
    · rw [Array.getElem?_append_left l]
    · rw [Array.getElem?_append_right (Nat.not_lt.mp l), Array.getElem?_replicate, Array.getElem?_eq_none (Nat.not_lt.mp l)]
      split <;> rfl
noncomputable def wSetAttr (k i : Nat) (a b : WE) : WS := fun sl H Q => b sl H fun v H₁ => a sl H₁ fun o H₂ => match o with
  | .loc j => (match H₂[j]? with | some (.inst k' fs) => k' = k ∧ Q .next sl (H₂.set j (.inst k (setF fs i v))) | _ => False)
  | _ => False
theorem ex_setattr {o name ap e pos k i p a b} (G : Good c) (ho : Ev c d sc ρ o a) (he : Ev c d sc ρ e b)
    (hs : findIn c.K (.ref (c.cls k)) "__setattr__" = some (some (.builtin "object.__setattr__"))) (hp : plainOver c.K (c.cls k) = true) (ht : takerIn c.K (c.cls k) name = some (some (.ref p))) (hT : typeIn c.K (.ref p) = some (.type "member_descriptor")) (hi : slotIn c.K p (c.cls k) = some i) (hz : i < 1000)
    (hw : ∀ env, swapsWith e (some (.Attribute o name ap)) pos.line env = pure false) : Ex c d sc ρ (.Assign [.Attribute o name ap] e pos) (wSetAttr k i a b) := by
  intro env A E s φ sl H Q eo ao ok vs w
  refine plainObj_wpAny_Assign_Attribute (wpAny_mono (he env A E s φ sl H _ eo ao ok vs w) (fun y s₁ p₁ => ?_) fun _ _ e => e) (hw env)
  obtain ⟨v, H₁, φ₁, w₁, ok₁, rv, g₁, r₁⟩ := p₁
  refine wpAny_mono (ho env A E s₁ φ₁ sl H₁ _ eo ao ok₁ (vs.grow g₁) w₁) (fun x s₂ p₂ => ?_) fun _ _ e => e
  obtain ⟨u, H₂, φ₂, w₂, ok₂, ru, g₂, r₂⟩ := p₂
  have vs₂ := vs.grow (g₁.trans g₂)
  split at w₂
  · rename_i j
    split at w₂
    · rename_i k' fs ej
      obtain ⟨rfl, w₂⟩ := w₂
      cases ru with
      | loc hj =>
        rename_i xa
        obtain ⟨oo, h1, h2⟩ := ok₂.objs j xa _ hj ej
        cases h2 with
        | inst r z n yz eb =>
          rename_i xs b
          have mj : xa ∈ φ₂.l := List.mem_of_getElem? hj
          have nL : xa ≠ env.locals := fun q => vs₂.offL (q ▸ mj)
          obtain ⟨m, hn, hm⟩ := id vs₂.loc
          refine set_slot_ok (ok₂.X G) ⟨h1, rfl, rfl, eb⟩ hs hp ht hT hi hz hn nL rfl fun h' hn' kp hx' => ?_
          have rv₂ := rv.grow g₂
          have ro : RepO c φ₂ s₂.heap (.inst k' (setF fs i v)) { cls := .ref (c.cls k'), dict := some b, data := .plain, slots := (xs ++ Array.replicate (i + 1 - xs.size) none).setIfInBounds i (some y) } := by
            refine .inst (fun t u e => ?_) (fun t e => ?_) n ‹_› eb
            · rw [setF_join] at e
              rw [setA_join]
              split at e
              · rename_i q; cases e; exact ⟨_, if_pos q, rv₂⟩
              · rename_i q; obtain ⟨x', h3, h4⟩ := r t u e
                exact ⟨x', by rw [if_neg q]; exact h3, h4⟩
            · rw [setF_join] at e
              rw [setA_join]
              split at e
              · cases e
              · rename_i q; rw [if_neg q]; exact z t e
          obtain ⟨ok', vs', g'⟩ := put_in ok₂ vs₂ hj ro hn' kp hx'
          exact ⟨.next, sl, _, φ₂, w₂, ok', vs', trivial, (g₁.trans g₂).toS.trans g', (r₁.trans r₂).trans (Rest.mk s₂ h' _)⟩
    · exact w₂.elim
  · exact w₂.elim
end
end Mine

namespace Mine
section
variable {c : Cx} {d : Nat} {sc : Scope} {ρ : List Str}

/-! ### a def of the text -/
noncomputable def FnC (c : Cx) (d : Nat) (f : Value) (W : WF) : Prop :=
  ∀ A s φ H args vals Q (R : Result → Shared → Prop), AOK d A → Ok c φ H s.heap → RepVs c φ s.heap args vals → W args H Q → (∀ x s', PostE c φ s Q x s' → R (.ok (.ret x)) s') → codeAny (model c.prog c.w) A (.call f ⟨vals, []⟩) R s
theorem FnC.ok {f W} (h : FnC c d f W) : FnOK c d f W := fun A _ s φ H args vals Q ao ok r w => wpAny_call (h A s φ H args vals Q _ ao ok r w fun _ _ p => p)
theorem FnC.weaken {f W W'} (h : FnC c d f W) (k : ∀ args H Q, W' args H Q → W args H Q) : FnC c d f W' := fun A s φ H args vals Q R ao ok r w => h A s φ H args vals Q R ao ok r (k _ _ _ w)
noncomputable def retV : Fl → V
  | .ret v => v
  | .next => .none
noncomputable def fnW (n k : Nat) (W : WS) : WF := fun args H Q => args.length = n ∧ W (args.map some ++ List.replicate k none) H fun F _ H' => Q (retV F) H'
theorem bindL_not {kd : Str → Option NameKind} {x : Str} : ∀ (bs : List (Str × Value)) (m : Str → Option Value), x ∉ bs.map (·.1) → bindL kd bs m x = m x
  | [], _, _ => rfl
  | (n, v) :: r, m, h => by
    rw [List.map_cons, List.mem_cons] at h
    unfold bindL
    rw [bindL_not r _ fun q => h (.inr q)]
    split
    · exact if_neg fun q => h (.inl q)
    · rfl
theorem bindC_not {kd : Str → Option NameKind} {x : Str} : ∀ (bs : List (Str × Value)) (m : Str → Option Value), x ∉ bs.map (·.1) → bindC kd bs m x = m x
  | [], _, _ => rfl
  | (n, v) :: r, m, h => by
    rw [List.map_cons, List.mem_cons] at h
    unfold bindC
    rw [bindC_not r _ fun q => h (.inr q)]
    split
    · rfl
    · exact if_neg fun q => h (.inl q)
theorem bindL_get {kd : Str → Option NameKind} {x : Str} {v : Value} : ∀ (bs : List (Str × Value)) (m : Str → Option Value), (bs.map (·.1)).Nodup → (x, v) ∈ bs → kd x = some .local → bindL kd bs m x = some v
  | (n, w) :: r, m, nd, h, hk => by
    rw [List.map_cons, List.nodup_cons] at nd
    unfold bindL
    rcases List.mem_cons.mp h with e | h
    · cases e
      rw [bindL_not r _ nd.1, if_pos hk, if_pos rfl]
    · exact bindL_get r _ nd.2 h hk
theorem bindC_get {kd : Str → Option NameKind} {x : Str} {v : Value} : ∀ (bs : List (Str × Value)) (m : Str → Option Value), (bs.map (·.1)).Nodup → (x, v) ∈ bs → kd x = some .cell → bindC kd bs m x = some v
  | (n, w) :: r, m, nd, h, hk => by
    rw [List.map_cons, List.nodup_cons] at nd
    unfold bindC
    rcases List.mem_cons.mp h with e | h
    · cases e
      rw [bindC_not r _ nd.1, if_neg (by rw [hk]; decide), if_pos rfl]
    · exact bindC_get r _ nd.2 h hk
theorem Ok.fresh {φ H h a} (ok : Ok c φ H h) (e : h.get? a = none) : a ∉ φ.l ∧ a ∉ φ.z ∧ c.h₀.get? a = none := by
  refine ⟨fun m => ?_, fun m => ?_, ?_⟩
  · obtain ⟨o, e'⟩ := ok.live m; rw [e] at e'; cases e'
  · obtain ⟨o, e'⟩ := ok.zl _ m; rw [e] at e'; cases e'
  · cases q : c.h₀.get? a with
    | none => rfl
    | some o => have := ok.base _ _ q; rw [e] at this; cases this
theorem fn_okG {PA0 : Around → Mp → Prop} {PA : Env → Around → Mp → Prop} {f : Addr} {fo : Obj} {fd : FuncData} {body : List Stmt} {ps rest : List Str} {W : WS} (G : Good c) (ho : c.h₀.get? f = some fo) (hd : fo.data = .func fd) (hcd : c.h₀.CodeRec fd.code fd.qualname) (hbody : fd.body = .stmts body) (hclo : fd.closure = [])
    (hbind : ∀ vals : List Value, vals.length = ps.length → bindArgs fd ⟨vals, []⟩ = pure (ps.zip vals)) (hg : fd.globals = mainGlobals) (hbi : fd.builtins = builtinsNs) (hco : fd.scope.isCoroutine = false) (hgen : fd.scope.isGenerator = false) (hk : fd.scope.kind = .function)
    (hnd : (ps ++ rest).Nodup) (hkd : ∀ x ∈ ps ++ rest, fd.scope.names.lookup x = some .local ∨ fd.scope.names.lookup x = some .cell) (hP : ∀ A L φ, PA0 A φ → PA (callEnvC fd L f) (A.deeper (callEnvC fd L f)) φ)
    (hb : ∀ env A E s φ sl H Q, PA env A φ → EnvOK fd.scope env → AOK d A → Ok c φ H s.heap → Vars c (ps ++ rest) φ s.heap env sl → W sl H Q → wpAny (model c.prog c.w) A (execs body env) (PostS c (ps ++ rest) env φ s Q) E s)
    (A : Around) (s : Shared) (φ : Mp) (H : HW) (args : List V) (vals : List Value) (Q : V → HW → Prop) (R : Result → Shared → Prop) (pa : PA0 A φ) (ao : AOK (d + 1) A) (ok : Ok c φ H s.heap) (r : RepVs c φ s.heap args vals) (w : fnW ps.length rest.length W args H Q) (k : ∀ x s', PostE c φ s Q x s' → R (.ok (.ret x)) s') : codeAny (model c.prog c.w) A (.call (.ref f) ⟨vals, []⟩) R s := by
  obtain ⟨hn, w⟩ := w
  have hv : vals.length = ps.length := by rw [← r.length, hn]
  have kz : (ps.zip vals).map (·.1) = ps := List.map_fst_zip (by (first | lia | omega))
  have pn : ps.Nodup := (List.nodup_append.mp hnd).1
  refine codeAny_call_cells (by have := ao.depth; show A.depth < 1000; (first | lia | omega)) (ok.base _ _ ho) hd (G.NL.keeps ok.base) (hcd.keeps ok.base) hbody (hbind vals hv) hclo (fun x hx => ?_) (fun s₁ x => ?_) hco hgen hk
  · have hm : x.1 ∈ ps := by rw [← kz]; exact List.mem_map_of_mem hx
    rcases hkd x.1 (List.mem_append_left _ hm) with h | h
    · exact .inl h
    · exact .inr ⟨h, cellsFrom_some _ _ _ (.inl h)⟩
  · have kp := x.toInCall.keep
    have eL : (callEnvC fd s.heap.objs.size f).locals = s.heap.objs.size := rfl
    have eK : ∀ y, (callEnvC fd s.heap.objs.size f).kindOf y = fd.scope.names.lookup y := fun _ => rfl
    have eC : (callEnvC fd s.heap.objs.size f).cells = cellsFrom (s.heap.objs.size + 1) fd.scope.names [] := rfl
    have nb : ∀ a, s.heap.get? a = none → a ∉ φ.l ∧ a ∉ φ.z ∧ c.h₀.get? a = none := fun a e => ok.fresh e
    have fc : ∀ y a, (callEnvC fd s.heap.objs.size f).cells.lookup y = some a → s.heap.get? a = none := fun y a e => by
      have := x.above y a (PySem.mem_of_lookup e)
      exact Heap.get?_none_of_le (Nat.le_of_lt this)
    have ok₁ : Ok c φ H s₁.heap := ok.keep kp
    have g₁ : Grow φ s.heap φ s₁.heap := .of_keep kp
    have r₁ := r.grow g₁
    have at_ : ∀ (i : Nat) y v, (ps ++ rest)[i]? = some y → (args.map some ++ List.replicate rest.length none)[i]? = some (some v) → ∃ z, (y, z) ∈ ps.zip vals ∧ RepV c φ s₁.heap v z := fun i y v e1 e2 => by
      by_cases hi : i < ps.length
      · rw [List.getElem?_append_left hi] at e1
        rw [List.getElem?_append_left (by simp [hn]; exact hi), List.getElem?_map] at e2
        obtain ⟨u, h1, h2⟩ := Option.map_eq_some_iff.mp e2
        cases h2
        obtain ⟨z, h3, h4⟩ := r₁.get h1
        refine ⟨z, ?_, h4⟩
        apply List.mem_of_getElem? (i := i)
        rw [List.getElem?_zip_eq_some]
        exact ⟨e1, h3⟩
      · rw [List.getElem?_append_right (by simp [hn]; (first | lia | omega)), List.getElem?_replicate] at e2
        split at e2 <;> cases e2
    have vs : Vars c (ps ++ rest) φ s₁.heap (callEnvC fd s.heap.objs.size f) (args.map some ++ List.replicate rest.length none) := by
      refine ⟨hnd, by simp [hn], (nb _ (new_none _)).1, (nb _ (new_none _)).2.1, (nb _ (new_none _)).2.2, ⟨_, x.toInCall.ns, fun i y v e1 e2 e3 => ?_⟩, fun y a e => ?_, fun y z a e1 e2 => PySem.name_of_addr x.apart (PySem.mem_of_lookup e1) (PySem.mem_of_lookup e2), fun i y v e1 e2 e3 => ?_, fun i y e1 e2 => ?_⟩
      · obtain ⟨z, h1, h2⟩ := at_ i y v e1 e3
        exact ⟨z, bindL_get _ _ (by rw [kz]; exact pn) h1 e2, h2⟩
      · have e0 := fc y a e
        exact ⟨(nb a e0).1, (nb a e0).2.1, (nb a e0).2.2, _, x.cell y a e⟩
      · obtain ⟨z, h1, h2⟩ := at_ i y v e1 e3
        have ey : (callEnvC fd s.heap.objs.size f).kindOf y = some .cell := by
          rcases e2 with e2 | e2
          · exact e2
          · rcases hkd y (List.mem_of_getElem? e1) with q | q <;> (rw [eK, q] at e2; cases e2)
        obtain ⟨a, ea⟩ := Option.isSome_iff_exists.mp (cellsFrom_some (x := y) fd.scope.names (s.heap.objs.size + 1) [] (.inl ey))
        refine ⟨a, z, ea, ?_, h2⟩
        have := x.cell y a ea
        rw [bindC_get _ _ (by rw [kz]; exact pn) h1 ey] at this
        exact this
      · exact Option.isSome_iff_exists.mp (cellsFrom_some (x := y) fd.scope.names (s.heap.objs.size + 1) [] (.inl e2))
    refine wpAny_mono (hb _ (A.deeper (callEnvC fd s.heap.objs.size f)) _ s₁ φ _ H _ (hP A s.heap.objs.size φ pa) ⟨rfl, hg, hbi⟩ ⟨ao.handled, by have := ao.depth; show A.depth + 1 + d < 900; (first | lia | omega), by have := ao.units; show A.units + 3 + 20 * d < 9000; (first | lia | omega)⟩ ok₁ vs w) (fun fl s' p => ?_) fun _ _ e => e
    obtain ⟨F, sl', H', φ', q, ok', vs', rf, g', rs'⟩ := p
    have g : Grow φ s.heap φ' s'.heap := by
      refine ⟨?_, fun b o e n => g'.keep b o (kp b o e) n (fun z => ?_) (fun y z => ?_), fun b o e => g'.live b o (kp b o e)⟩
      · obtain ⟨δ, ζ, e1, e2, h1, h2⟩ := g'.ext
        exact ⟨δ, ζ, e1, e2, fun a m => g₁.none (h1 a m), fun a m => g₁.none (h2 a m)⟩
      · rw [z, eL, new_none] at e; cases e
      · rw [fc y b z] at e; cases e
    have rs : Rest s s' := by
      obtain ⟨h1, t1, e1, _⟩ := x.done
      exact Rest.trans (b := s₁) ⟨h1, t1, e1⟩ rs'
    cases F with
    | next =>
      cases fl with
      | next => exact k _ _ ⟨.none, H', φ', q, ok', .none, g, rs⟩
      | _ => exact rf.elim
    | ret v =>
      cases fl with
      | ret y => exact k _ _ ⟨v, H', φ', q, ok', rf, g, rs⟩
      | _ => exact rf.elim

theorem fn_ok {f : Addr} {fo : Obj} {fd : FuncData} {body : List Stmt} {ps rest : List Str} {W : WS} (G : Good c) (ho : c.h₀.get? f = some fo) (hd : fo.data = .func fd) (hcd : c.h₀.CodeRec fd.code fd.qualname) (hbody : fd.body = .stmts body) (hclo : fd.closure = [])
    (hbind : ∀ vals : List Value, vals.length = ps.length → bindArgs fd ⟨vals, []⟩ = pure (ps.zip vals)) (hg : fd.globals = mainGlobals) (hbi : fd.builtins = builtinsNs) (hco : fd.scope.isCoroutine = false) (hgen : fd.scope.isGenerator = false) (hk : fd.scope.kind = .function)
    (hnd : (ps ++ rest).Nodup) (hkd : ∀ x ∈ ps ++ rest, fd.scope.names.lookup x = some .local ∨ fd.scope.names.lookup x = some .cell) (hb : Exs c d fd.scope (ps ++ rest) body W) : FnC c (d + 1) (.ref f) (fnW ps.length rest.length W) := fun A s φ H args vals Q R ao ok r w k =>
  fn_okG (PA0 := fun _ _ => True) (PA := fun _ _ _ => True) G ho hd hcd hbody hclo hbind hg hbi hco hgen hk hnd hkd (fun _ _ _ _ => trivial) (fun env A E s φ sl H Q _ eo ao ok vs w => hb env A E s φ sl H Q eo ao ok vs w) A s φ H args vals Q R trivial ao ok r w k

/-! ### classes -/
theorem Ok.inst0 {φ H h k} (ok : Ok c φ H h) : Ok c ⟨φ.l ++ [h.objs.size + 1], φ.z ++ [h.objs.size]⟩ (H ++ [.inst k []]) ((h.push emptyDict).push (instObj (c.cls k) h.objs.size)) ∧
    Grow φ h ⟨φ.l ++ [h.objs.size + 1], φ.z ++ [h.objs.size]⟩ ((h.push emptyDict).push (instObj (c.cls k) h.objs.size)) := by
  obtain ⟨ok₁, g₁⟩ := ok.freeze (new_none h) (h' := h.push emptyDict) (fun b o e => Heap.get?_push_of_some _ e) (Heap.get?_push_size _ rfl)
  have sz : (h.push emptyDict).objs.size = h.objs.size + 1 := Heap.size_push ..
  have n1 : (h.push emptyDict).get? (h.objs.size + 1) = none := by rw [← sz]; exact new_none _
  obtain ⟨ok₂, g₂⟩ := ok₁.alloc (a := h.objs.size + 1) (lo := .inst k []) (o := instObj (c.cls k) h.objs.size) n1 (h' := (h.push emptyDict).push (instObj (c.cls k) h.objs.size)) (fun b o e => Heap.get?_push_of_some _ e) (by rw [← sz]; exact Heap.get?_push_size _ rfl)
    (.inst (fun i v e => by simp at e) (fun i _ => by simp) (new_unz ok).1 (List.mem_append_right _ (.head _)) (Heap.get?_push_size _ rfl)) ok.newS1
  exact ⟨ok₂, g₁.trans g₂⟩
/-! ### an object that nothing turns any more -/
mutual
inductive Bel (n : Nat) : V → Prop
  | none : Bel n .none
  | bool {b} : Bel n (.bool b)
  | int {i} : Bel n (.int i)
  | str {s} : Bel n (.str s)
  | loc {k} : k < n → Bel n (.loc k)
  | tup {vs} : Bels n vs → Bel n (.tup vs)
  | obj {k fs} : Bels n fs → Bel n (.obj k fs)
  | glob {a} : Bel n (.glob a)
  | script : Bel n .script
inductive Bels (n : Nat) : List V → Prop
  | nil : Bels n []
  | cons {v vs} : Bel n v → Bels n vs → Bels n (v :: vs)
end
mutual
theorem RepV.bel {φ h} : ∀ {v x}, RepV c φ h v x → Bel φ.l.length v
  | _, _, .none => .none
  | _, _, .bool => .bool
  | _, _, .int => .int
  | _, _, .str => .str
  | _, _, .loc e => .loc (List.getElem?_eq_some_iff.mp e).1
  | _, _, .tup _ _ _ _ r => .tup (RepVs.bel r)
  | _, _, .obj _ _ _ _ _ _ _ _ r => .obj (RepVs.bel r)
  | _, _, .glob _ => .glob
  | _, _, .script => .script
theorem RepVs.bel {φ h} : ∀ {vs xs}, RepVs c φ h vs xs → Bels φ.l.length vs
  | _, _, .nil => .nil
  | _, _, .cons r rs => .cons (RepV.bel r) (RepVs.bel rs)
end
theorem Bels.mem {n} : ∀ {vs}, Bels n vs → ∀ v ∈ vs, Bel n v
  | _, .cons h _, _, .head _ => h
  | _, .cons _ t, _, .tail _ m => Bels.mem t _ m
mutual
theorem RepV.unt {φ h} {l : List Addr} {x : Addr} (e : φ.l = l ++ [x]) : ∀ {v y}, RepV c φ h v y → Bel l.length v → RepV c ⟨l, φ.z ++ [x]⟩ h v y
  | _, _, .none, _ => .none
  | _, _, .bool, _ => .bool
  | _, _, .int, _ => .int
  | _, _, .str, _ => .str
  | _, _, .loc e', .loc hk => .loc (by rw [e, List.getElem?_append_left hk] at e'; exact e')
  | _, _, .tup n z n0 e' r, .tup b => .tup (fun m => n (by rw [e]; exact List.mem_append_left _ m)) (List.mem_append_left _ z) n0 e' (RepVs.unt e r b)
  | _, _, .obj n z m y n0 e1 es e2 r, .obj b => .obj (fun q => n (by rw [e]; exact List.mem_append_left _ q)) (List.mem_append_left _ z) (fun q => m (by rw [e]; exact List.mem_append_left _ q)) (List.mem_append_left _ y) n0 e1 es e2 (RepVs.unt e r b)
  | _, _, .glob e', _ => .glob e'
  | _, _, .script, _ => .script
theorem RepVs.unt {φ h} {l : List Addr} {x : Addr} (e : φ.l = l ++ [x]) : ∀ {vs ys}, RepVs c φ h vs ys → Bels l.length vs → RepVs c ⟨l, φ.z ++ [x]⟩ h vs ys
  | _, _, .nil, _ => .nil
  | _, _, .cons r rs, .cons b bs => .cons (RepV.unt e r b) (RepVs.unt e rs bs)
end
theorem RepO.unt {φ h φ₀ h₀' lo o o₀} {x : Addr} (e : φ.l = φ₀.l ++ [x]) (r : RepO c φ h lo o) (r₀ : RepO c φ₀ h₀' lo o₀) : RepO c ⟨φ₀.l, φ.z ++ [x]⟩ h lo o := by
  cases r with
  | list r => cases r₀ with | list r₀ => exact .list (r.unt e r₀.bel)
  | dict d k r => cases r₀ with | dict d₀ k₀ r₀ => exact .dict d k (r.unt e r₀.bel)
  | tab h => exact .tab h
  | inst r z n y eb =>
    cases r₀ with
    | inst r₀ =>
      refine .inst (fun i v ev => ?_) z (fun m => n (by rw [e]; exact List.mem_append_left _ m)) (List.mem_append_left _ y) eb
      obtain ⟨x', h1, h2⟩ := r i v ev
      obtain ⟨_, _, h3⟩ := r₀ i v ev
      exact ⟨x', h1, h2.unt e h3.bel⟩
noncomputable def frW (k : Nat) (W : WF) : WF := fun args H Q => W (.loc H.length :: args) (H ++ [.inst k []]) fun r H' => r = .none ∧ ∃ fs, (∀ v ∈ fs, v ∈ args) ∧ H' = H ++ [.inst k (fs.map some)] ∧ Q (.obj k fs) H
theorem slots_of {φ h} {fs : List V} {sl : Array (Option Value)} (r : ∀ (i : Nat) v, ((fs.map some)[i]?).join = some v → ∃ x, (sl[i]?).join = some x ∧ RepV c φ h v x) (z : ∀ i : Nat, ((fs.map some)[i]?).join = none → (sl[i]?).join = none) :
    ∃ xs : List Value, (∀ i : Nat, (sl[i]?).join = xs[i]?) ∧ RepVs c φ h fs xs := by
  have hj : ∀ (fs : List V) (i : Nat), ((fs.map some)[i]?).join = fs[i]? := fun fs i => by rw [List.getElem?_map]; cases fs[i]? <;> rfl
  have key : ∀ (fs : List V) (k : Nat), (∀ (i : Nat) v, fs[i]? = some v → ∃ x, (sl[k + i]?).join = some x ∧ RepV c φ h v x) → ∃ xs : List Value, (∀ i : Nat, i < fs.length → (sl[k + i]?).join = xs[i]?) ∧ RepVs c φ h fs xs := by
    intro fs
    induction fs with
    | nil => exact fun k _ => ⟨[], fun i hi => by simp at hi, .nil⟩
    | cons f fs ih =>
      intro k hf
      obtain ⟨x, h1, h2⟩ := hf 0 f rfl
      obtain ⟨xs, h3, h4⟩ := ih (k + 1) fun i v e => by
        obtain ⟨x, a, b⟩ := hf (i + 1) v (by simpa using e)
        exact ⟨x, by rw [show k + 1 + i = k + (i + 1) by (first | lia | omega)]; exact a, b⟩
      refine ⟨x :: xs, fun i hi => ?_, .cons h2 h4⟩
      cases i with
      | zero => simpa using h1
      | succ i => rw [show k + (i + 1) = k + 1 + i by (first | lia | omega)]; simpa using h3 i (by simpa using hi)
  obtain ⟨xs, h1, h2⟩ := key fs 0 fun i v e => by
    obtain ⟨x, a, b⟩ := r i v (by rw [hj]; exact e)
    exact ⟨x, by simpa using a, b⟩
  refine ⟨xs, fun i => ?_, h2⟩
  by_cases hi : i < fs.length
  · simpa using h1 i hi
  · rw [z i (by rw [hj]; exact List.getElem?_eq_none (Nat.not_lt.mp hi)), List.getElem?_eq_none (by rw [← h2.length]; exact Nat.not_lt.mp hi)]
theorem make_fr {k fI W} (G : Good c) (hm : makesIn c.K (c.cls k) = true) (hi : findIn c.K (.ref (c.cls k)) "__init__" = some (some (.ref fI))) (hf : typeIn c.K (.ref fI) = some (.type "function")) (h : FnC c d (.ref fI) W) : FnC c (d + 1) (.ref (c.cls k)) (frW k W) := by
  intro A s φ H args vals Q R ao ok r w K
  have X := ok.X G
  obtain ⟨hh, gg, dd, t, os⟩ := s
  obtain ⟨ok₂, g₂⟩ := ok.inst0 (k := k)
  refine make_core (makes_of X hm) (looks_findIn X hi) (fun self => bind_fn X self hf) (.inl rfl) ?_
  refine h _ ⟨(hh.push emptyDict).push (instObj (c.cls k) hh.objs.size), gg, dd, t, os⟩ _ _ _ _ _ _ ⟨ao.handled, ?_, ?_⟩ ok₂ (.cons (.loc ?_) (r.grow g₂)) w fun x s' p => ?_
  · have := ao.depth; show A.depth + 1 + d < 900; (first | lia | omega)
  · have := ao.units; show A.units + 1 + 20 * d < 9000; (first | lia | omega)
  · rw [← ok.len]; simp
  · obtain ⟨v, H', φ', ⟨rfl, fs, hfs, rfl, q⟩, ok', rv, g', rs'⟩ := p
    cases rv
    obtain ⟨δ, ζ, e1, e2, hδ, hζ⟩ := g'.ext
    have e3 : φ'.l = φ.l ++ [hh.objs.size + 1] := by
      have l1 := ok'.len
      have l2 := ok.len
      have : δ = [] := by
        rw [e1] at l1
        simp at l1
        apply List.eq_nil_of_length_eq_zero
        (first | lia | omega)
      rw [e1, this, List.append_nil]
    have at1 : φ'.l[H.length]? = some (hh.objs.size + 1) := by rw [e3, ← ok.len]; simp
    have mx : hh.objs.size + 1 ∈ φ'.l := List.mem_of_getElem? at1
    have nx : hh.objs.size + 1 ∉ φ.l := fun m => by
      have := ok'.nodup
      rw [e3, List.nodup_append] at this
      exact this.2.2 _ m _ (.head _) rfl
    have sub : ∀ a, a ∈ φ.l → a ∈ φ'.l := fun a m => by rw [e3]; exact List.mem_append_left _ m
    obtain ⟨ox, hox, rox⟩ := ok'.objs H.length _ (.inst k (fs.map some)) at1 (by simp)
    refine ⟨rfl, K _ _ ⟨.obj k fs, H, ⟨φ.l, φ'.z ++ [hh.objs.size + 1]⟩, q, ⟨ok'.base, fun b o e m => ok'.off b o e (sub _ m), ok.len, ok.nodup, fun i a lo ea el => ?_, fun a m m' => ?_, fun a m => ?_, ok'.g0, fun a m => ok'.sm a (sub a m)⟩, ?_, ?_, ?_⟩⟩
    · have hlt := (List.getElem?_eq_some_iff.mp ea).1
      obtain ⟨o, h1, h2⟩ := ok'.objs i a lo (by rw [e3, List.getElem?_append_left hlt]; exact ea) (by rw [List.getElem?_append_left (by rw [← ok.len]; exact hlt)]; exact el)
      obtain ⟨o₀, _, h4⟩ := ok.objs i a lo ea el
      exact ⟨o, h1, h2.unt e3 h4⟩
    · rcases List.mem_append.mp m with m | m
      · exact ok'.dj a m (sub _ m')
      · rw [List.mem_singleton.mp m] at m'; exact nx m'
    · rcases List.mem_append.mp m with m | m
      · exact ok'.zl a m
      · rw [List.mem_singleton.mp m]; exact ⟨ox, hox⟩
    · cases rox with
      | inst ri zi n y eb =>
        obtain ⟨xs, h1, h2⟩ := slots_of (fun i v e => by
          obtain ⟨x', a1, a2⟩ := ri i v e
          refine ⟨x', a1, a2.unt e3 ?_⟩
          have : v ∈ fs := by
            rw [List.getElem?_map] at e
            cases q2 : fs[i]? with
            | none => rw [q2] at e; cases e
            | some u => rw [q2] at e; cases e; exact List.mem_of_getElem? q2
          exact r.bel.mem v (hfs v this)) zi
        exact .obj nx (List.mem_append_right _ (.head _)) (fun m => n (sub _ m)) (List.mem_append_left _ y) (by
          cases q3 : c.h₀.get? (hh.objs.size + 1) with
          | none => rfl
          | some o => exact absurd mx (ok'.off _ _ q3)) hox h1 eb h2
    · refine ⟨⟨[], [hh.objs.size] ++ ζ ++ [hh.objs.size + 1], by simp, by rw [e2]; simp, by simp, fun a m => ?_⟩, fun b o e n => ?_, fun b o e => ?_⟩
      · rcases List.mem_append.mp m with m | m
        · rcases List.mem_append.mp m with m | m
          · rw [List.mem_singleton.mp m]; exact new_none hh
          · exact g₂.none (hζ a m)
        · rw [List.mem_singleton.mp m]; exact Heap.get?_none_of_le (Nat.le_succ _)
      · refine g'.keep b o (g₂.keep b o e n) (g₂.nin n e)
      · obtain ⟨o', e'⟩ := g₂.live b o e
        exact g'.live b o' e'
    · obtain ⟨h1, t1, rfl⟩ := rs'
      exact ⟨h1, t1, rfl⟩
end
end Mine

namespace Mine
section
variable {c : Cx} {d : Nat} {sc : Scope} {ρ : List Str}
theorem at0 {x : Str} {l : List Str} : (x :: l)[0]? = some x := rfl
theorem atS {x y : Str} {l : List Str} {i : Nat} (h : l[i]? = some y) : (x :: l)[i + 1]? = some y := by simpa using h
theorem lstAt_set {H : HW} {k : Nat} {xs} (h : k < H.length) : lstAt (H.set k (.list xs)) k = some xs := by
  unfold lstAt; rw [List.getElem?_set_self h]
theorem lstAt_lt {H : HW} {k : Nat} {xs} (h : lstAt H k = some xs) : k < H.length := (List.getElem?_eq_some_iff.mp (lstAt_of h)).1
/-! ### names by the written part -/
theorem mgIn (G : Good c) {x v} (e : nsIn c.K mainGlobals x = some (some v)) : c.mg x = some v := mg_of G.X G.G e
theorem mgNo (G : Good c) {x} (e : nsIn c.K mainGlobals x = some none) : c.mg x = none := mg_none_of G.X G.G e
theorem ev_fn {x np args pos f W as} (G : Good c) (hf : FnC c d f W) (ha : Evs c d sc ρ args as) (hk : sc.kind = .function) (hx : sc.names.lookup x = some .globalImplicit) (hv : nsIn c.K mainGlobals x = some (some f)) (hkeep : keepIn c.K f = true) (hd : (x == ("__debug__" : Str)) = false) : Ev c d sc ρ (.Call (.Name x np) args [] pos) (wCall W as) :=
  ev_call G hk hx (mgIn G hv) hd hkeep hf.ok ha
/-! ### minus -/
/-! ### tuple targets -/
noncomputable def tnames : List Expr → List Str
  | .Name x _ :: r => x :: tnames r
  | _ => []
theorem slots_nil : Slots sc ρ [] [] := trivial
theorem slots_cons {i is x xs} (h : ρ[i]? = some x) (hs : Slots sc ρ is xs) (hx : sc.names.lookup x = some .local ∨ sc.names.lookup x = some .cell) : Slots sc ρ (i :: is) (x :: xs) := ⟨⟨h, hx⟩, hs⟩
theorem ex_setRN {elts k tpos e pos a is} (he : Ev c d sc ρ e a) (hx : Slots sc ρ is (tnames elts)) (hk : sc.kind = .function)
    (hs : ∀ env, swapsWithSole [.Tuple elts k tpos] e pos.line env = pure false) (hw : ∀ env, env.scope = sc → swappedStores [.Tuple elts k tpos] e env = pure (some (tnames elts))) : Ex c d sc ρ (.Assign [.Tuple elts k tpos] e pos) (wSetR is a) :=
  ex_setR he hk hx hs hw
/-! ### + of any kind -/
noncomputable def wAdd (ns : List Int) : WB := fun v w H Q => match v, w with
  | .int i, .int j => Q (.int (i + j)) H
  | .str a, .str b => a.length + b.length ≤ 1000000 ∧ Q (.str (a ++ b)) H
  | v, w => wAddL ns v w H Q
theorem addV_ok (G : Good c) : BinOK c d .Add (wAdd c.ns) := by
  intro A E s φ H v w x y Q ao ok rv rw' q
  unfold wAdd at q
  split at q
  · exact add_ok A E s φ H _ _ x y Q ao ok rv rw' q
  · rename_i a b
    cases rv; cases rw'
    exact PyProof.Rows.add_str (fun t' tk => PostE.here (s := s) (s' := { s with toks := tk }) q.2 ok .str (fun _ _ e => e) (Rest.mk s s.heap tk)) (by rw [sizeLine_eq]; (first | lia | omega))
  · exact addL_ok G A E s φ H _ _ x y Q ao ok rv rw' q
end
end Mine

namespace Mine
/-! ### slices, plainly -/
theorem pick_range {α : Type} (xs : List α) : ∀ (n s : Nat), s + n ≤ xs.length → ((List.range n).map fun k => s + k).filterMap (xs[·]?) = (xs.drop s).take n
  | 0, s, _ => by simp
  | n + 1, s, h => by
    have ih := pick_range xs n s (by (first | lia | omega))
    rw [List.range_succ, List.map_append, List.filterMap_append, ih]
    have hs : s + n < xs.length := by (first | lia | omega)
    rw [List.take_add_one]
    simp [List.getElem?_drop, hs]
theorem sliceV_drop {α : Type} (xs : List α) (n : Nat) : sliceV xs (some (n : Int)) none none = xs.drop n := by
  have h : sliceRange (sliceBounds (some (n : Int)) none none xs.length).1 (sliceBounds (some (n : Int)) none none xs.length).2.1 (sliceBounds (some (n : Int)) none none xs.length).2.2 = (List.range (xs.length - min n xs.length)).map fun k => min n xs.length + k := by
    simp only [sliceBounds, sliceRange, Option.getD_none]
    have e : max 0 (min (if (n : Int) < 0 then (n : Int) + xs.length else n) xs.length) = ((min n xs.length : Nat) : Int) := by (first | lia | omega)
    simp only [show ((1 : Int) > 0) = True by simp, if_true, e]
    congr 1
    · funext k; (first | lia | omega)
    · congr 1
      split <;> (first | lia | omega)
  unfold sliceV
  rw [h, pick_range xs _ _ (by (first | lia | omega))]
  rw [List.take_of_length_le (by simp)]
  by_cases q : n ≤ xs.length
  · rw [Nat.min_eq_left q]
  · rw [Nat.min_eq_right (by (first | lia | omega)), List.drop_eq_nil_of_le (Nat.le_refl _), List.drop_eq_nil_of_le (by (first | lia | omega))]
/-! ### the abstract heap grown -/
theorem ext_lt {α : Type} {H L : List α} {k : Nat} (h : k < H.length) : (H ++ L)[k]? = H[k]? := List.getElem?_append_left h
theorem lstAt_ext {H L : HW} {k : Nat} {xs} (h : lstAt H k = some xs) : lstAt (H ++ L) k = some xs := by
  have := lstAt_of h
  unfold lstAt
  rw [ext_lt (lstAt_lt h), this]
theorem asL_loc {ns : List Int} {H : HW} {k : Nat} : asL ns H (.loc k) = lstAt H k := rfl
end Mine

namespace Mine
/-! ### the words, opened one at a time (as rewritings that are not by computation) -/
section
variable {sl : Sl} {H : HW} {c : Cx} {ns : List Int}
theorem e_skip {Q} : wSkip sl H Q = Q .next sl H := propext Iff.rfl
theorem e_seq {a b Q} : wSeq a b sl H Q = a sl H (fun F sl' H' => match F with | .next => b sl' H' Q | .ret v => Q (.ret v) sl' H') := propext Iff.rfl
theorem e_set {i a Q} : wSet i a sl H Q = a sl H (fun v H' => Q .next (sl.set i (some v)) H') := propext Iff.rfl
theorem e_aug {i f a Q} : wAug i f a sl H Q = wBin f (wVar i) a sl H (fun v H' => Q .next (sl.set i (some v)) H') := propext Iff.rfl
theorem e_drop {a Q} : wDrop a sl H Q = a sl H (fun v H' => match v with | .none => Q .next sl H' | _ => False) := propext Iff.rfl
theorem e_if {t a b Q} : wIf t a b sl H Q = t sl H (fun r H' => if r then a sl H' Q else b sl H' Q) := propext Iff.rfl
theorem e_ret {a Q} : wRet a sl H Q = a sl H (fun v H' => Q (.ret v) sl H') := propext Iff.rfl
theorem e_setR {is a Q} : wSetR is a sl H Q = a sl H (fun v H' => aTupR is v sl H' fun sl' H'' => Q .next sl' H'') := propext Iff.rfl
theorem e_aTupR {is vs K} : aTupR is (.tup vs) sl H K = (vs.length = is.length ∧ K (setAll is.reverse vs.reverse sl) H) := propext Iff.rfl
theorem e_aName {i v K} : aName i v sl H K = K (sl.set i (some v)) H := propext Iff.rfl
theorem e_setAll {i is v vs} : setAll (i :: is) (v :: vs) sl = setAll is vs (sl.set i (some v)) := rfl
theorem e_setAll0 {vs} : setAll [] vs sl = sl := by cases vs <;> rfl
theorem e_k {v Q} : wK v sl H Q = Q v H := propext Iff.rfl
theorem e_var {i Q} : wVar i sl H Q = (match sl[i]? with | some (some v) => Q v H | _ => False) := propext Iff.rfl
theorem e_bin {f a b Q} : wBin f a b sl H Q = a sl H (fun v H₁ => b sl H₁ fun w H₂ => f v w H₂ Q) := propext Iff.rfl
theorem e_onI {f i j Q} : onI f (.int i) (.int j) H Q = Q (f i j) H := propext Iff.rfl
theorem e_mod {i j Q} : wMod (.int i) (.int j) H Q = (j ≠ 0 ∧ Q (.int (i.fmod j)) H) := propext Iff.rfl
theorem e_div {i j Q} : wDiv (.int i) (.int j) H Q = ((j ≠ 0 ∧ j.natAbs < 1073741824) ∧ Q (.int (i.fdiv j)) H) := propext Iff.rfl
theorem e_addI {i j Q} : wAdd ns (.int i) (.int j) H Q = Q (.int (i + j)) H := propext Iff.rfl
theorem e_addL {k j xs ys Q} (h1 : lstAt H k = some xs) (h2 : lstAt H j = some ys) : wAdd ns (.loc k) (.loc j) H Q = (xs.length + ys.length ≤ 1000000 ∧ Q (.loc H.length) (H ++ [.list (xs ++ ys)])) := by
  show wAddL ns (.loc k) (.loc j) H Q = _
  unfold wAddL
  rw [asL_loc, asL_loc, h1, h2]
theorem e_addS1 {k xs Q} (h1 : lstAt H k = some xs) : wAdd ns (.loc k) .script H Q = (xs.length + (ns.map V.int).length ≤ 1000000 ∧ Q (.loc H.length) (H ++ [.list (xs ++ ns.map V.int)])) := by
  show wAddL ns (.loc k) .script H Q = _
  unfold wAddL
  rw [asL_loc, h1]; rfl
theorem e_tv {w Q} : tv w sl H Q = w sl H (fun v H' => match v with | .bool b => Q b H' | _ => False) := propext Iff.rfl
theorem e_and {a b Q} : tAnd a b sl H Q = a sl H (fun t H' => if t then b sl H' Q else Q false H') := propext Iff.rfl
theorem e_or {a b Q} : tOr a b sl H Q = a sl H (fun t H' => if t then Q true H' else b sl H' Q) := propext Iff.rfl
theorem e_nil {Q} : wNil sl H Q = Q [] H := propext Iff.rfl
theorem e_cons {a b Q} : wCons a b sl H Q = a sl H (fun v H₁ => b sl H₁ fun vs H₂ => Q (v :: vs) H₂) := propext Iff.rfl
theorem e_list {a Q} : wList a sl H Q = a sl H (fun vs H₁ => vs.length ≤ 1000000 ∧ Q (.loc H₁.length) (H₁ ++ [.list vs])) := propext Iff.rfl
theorem e_tup {a Q} : wTup a sl H Q = a sl H (fun vs H₁ => vs.length ≤ 1000000 ∧ Q (.tup vs) H₁) := propext Iff.rfl
theorem e_call {W as Q} : wCall W as sl H Q = as sl H (fun vs H₁ => W vs H₁ Q) := propext Iff.rfl
theorem e_meth {k W a as Q} : wMeth c k W a as sl H Q = a sl H (fun v H₁ => clsV c H₁ v = some k ∧ as sl H₁ fun vs H₂ => W (v :: vs) H₂ Q) := propext Iff.rfl
theorem e_clsO {k fs} : clsV c H (.obj k fs) = some k := rfl
theorem e_onone {Q} : oNone sl H Q = Q none H := propext Iff.rfl
theorem e_osome {a Q} : oSome a sl H Q = a sl H (fun v H' => match v with | .int i => Q (some i) H' | _ => False) := propext Iff.rfl
theorem e_slice {a lo hi st Q} : wSlice ns a lo hi st sl H Q = a sl H (fun v H₁ => lo sl H₁ fun l H₂ => hi sl H₂ fun u H₃ => st sl H₃ fun k H₄ => match asL ns H₄ v with
  | some xs => (xs.length ≤ 1000000 ∧ k ≠ some 0) ∧ Q (.loc H₄.length) (H₄ ++ [.list (sliceV xs l u k)])
  | none => False) := propext Iff.rfl
theorem e_append {a b Q} : wAppend a b sl H Q = a sl H (fun v H₁ => match v with
  | .loc k => (lstAt H₁ k).isSome = true ∧ b sl H₁ fun w H₂ => (match lstAt H₂ k with | some xs => xs.length ≤ 1000000 ∧ Q .none (H₂.set k (.list (xs ++ [w]))) | none => False)
  | _ => False) := propext Iff.rfl
theorem e_len {k xs Q} (h : lstAt H k = some xs) : bLen ns [.loc k] H Q = (xs.length ≤ 1000000 ∧ Q (.int xs.length) H) := by
  show (match asL ns H (.loc k) with | some xs => xs.length ≤ 1000000 ∧ Q (.int xs.length) H | none => False) = _
  rw [asL_loc, h]
theorem e_for {it ta b Q} : wFor ns it ta b sl H Q = it sl H (fun k H₁ => wForGo ns k ta b k.items sl H₁ Q) := propext Iff.rfl
theorem e_iList {a Q} : iList ns a sl H Q = a sl H (fun v H' => match asL ns H' v with | some xs => Q (.list v xs) H' | none => False) := propext Iff.rfl
theorem e_iRange1 {a Q} : iRange1 a sl H Q = a sl H (fun v H' => match v with | .int n => (-1000000 < n ∧ n < 1000000) ∧ Q (.walk (rangeL 0 n 1)) H' | _ => False) := propext Iff.rfl
theorem e_for0 {k ta b Q} : wForGo ns k ta b [] sl H Q = Q .next sl H := propext Iff.rfl
theorem e_for1 {k ta b v r Q} : wForGo ns k ta b (v :: r) sl H Q = ta v sl H (fun sl₁ H₁ => b sl₁ H₁ fun F sl₂ H₂ => match F with | .next => k.inv ns H₂ ∧ wForGo ns k ta b r sl₂ H₂ Q | .ret u => Q (.ret u) sl₂ H₂) := propext Iff.rfl
end
end Mine

namespace Mine
section
variable {c : Cx} {d : Nat} {sc : Scope} {ρ : List Str}

/-! ### a list that nobody tracked is tracked from here on -/
mutual
theorem RepV.adopt {φ : Mp} {h D} (n : D ∉ φ.z) : ∀ {v x}, RepV c φ h v x → RepV c ⟨φ.l ++ [D], φ.z⟩ h v x
  | _, _, .none => .none
  | _, _, .bool => .bool
  | _, _, .int => .int
  | _, _, .str => .str
  | _, _, .loc e => .loc (by
      show (φ.l ++ [D])[_]? = _
      rw [List.getElem?_append_left (List.getElem?_eq_some_iff.mp e).1]; exact e)
  | _, _, .tup n1 z n0 e r => .tup (fun m => (List.mem_append.mp m).elim n1 fun q => n (by rw [← List.mem_singleton.mp q]; exact z)) z n0 e (RepVs.adopt n r)
  | _, _, .obj n1 z m1 y n0 e es e' r => .obj (fun m => (List.mem_append.mp m).elim n1 fun q => n (by rw [← List.mem_singleton.mp q]; exact z)) z (fun m => (List.mem_append.mp m).elim m1 fun q => n (by rw [← List.mem_singleton.mp q]; exact y)) y n0 e es e' (RepVs.adopt n r)
  | _, _, .glob e => .glob e
  | _, _, .script => .script
theorem RepVs.adopt {φ : Mp} {h D} (n : D ∉ φ.z) : ∀ {vs xs}, RepVs c φ h vs xs → RepVs c ⟨φ.l ++ [D], φ.z⟩ h vs xs
  | _, _, .nil => .nil
  | _, _, .cons r rs => .cons (RepV.adopt n r) (RepVs.adopt n rs)
end
theorem RepO.adopt {φ : Mp} {h D} (n : D ∉ φ.z) {lo o} (r : RepO c φ h lo o) : RepO c ⟨φ.l ++ [D], φ.z⟩ h lo o := by
  cases r with
  | list r => exact .list (r.adopt n)
  | dict d k r => exact .dict d k (r.adopt n)
  | tab e => exact .tab e
  | inst r z m y e => exact .inst (fun i v e => by obtain ⟨x, h1, h2⟩ := r i v e; exact ⟨x, h1, h2.adopt n⟩) z (fun q => (List.mem_append.mp q).elim m fun q => n (by rw [← List.mem_singleton.mp q]; exact y)) y e
theorem Ok.adopt {φ H h D o lo} (ok : Ok c φ H h) (nl : D ∉ φ.l) (nz : D ∉ φ.z) (n0 : c.h₀.get? D = none) (e : h.get? D = some o) (r : RepO c φ h lo o) (hm : D ≠ sysModules) : Ok c ⟨φ.l ++ [D], φ.z⟩ (H ++ [lo]) h := by
  refine ⟨ok.base, fun b o e m => ?_, by simp [ok.len], ?_, fun i x lo' e1 e2 => ?_, fun b m q => ?_, ok.zl, ok.g0, fun b m => (List.mem_append.mp m).elim (ok.sm b) fun q => by rw [List.mem_singleton.mp q]; exact hm⟩
  · rcases List.mem_append.mp m with m | m
    · exact ok.off b o e m
    · rw [List.mem_singleton.mp m, n0] at e; cases e
  · refine List.nodup_append.mpr ⟨ok.nodup, by simp, fun x m y m' q => ?_⟩
    rw [List.mem_singleton.mp m'] at q
    exact nl (q ▸ m)
  · by_cases hi : i < φ.l.length
    · rw [List.getElem?_append_left hi] at e1
      rw [List.getElem?_append_left (by rw [← ok.len]; exact hi)] at e2
      obtain ⟨o', h1, h2⟩ := ok.objs i x lo' e1 e2
      exact ⟨o', h1, h2.adopt nz⟩
    · have hi' : φ.l.length ≤ i := Nat.not_lt.mp hi
      rw [List.getElem?_append_right hi'] at e1
      rw [List.getElem?_append_right (by rw [← ok.len]; exact hi'), ← ok.len] at e2
      cases q : i - φ.l.length with
      | zero =>
        rw [q] at e1 e2
        simp at e1 e2
        subst e1 e2
        exact ⟨o, e, r.adopt nz⟩
      | succ j => rw [q] at e1; simp at e1
  · rcases List.mem_append.mp q with q | q
    · exact ok.dj b m q
    · rw [List.mem_singleton.mp q] at m; exact nz m

/-! ### comprehensions -/
noncomputable def relS (scope sc : Scope) : Scope :=
  { scope with names := scope.names.map fun (n, k) => if (k == .free && sc.kind == .function && sc.names.lookup n == some .cell) then (n, .cell) else (n, k) }
theorem relabel_eq {scope : Scope} {env : Env} (e : EnvOK sc env) : relabel scope env = relS scope sc := by
  obtain ⟨rfl, _, _⟩ := e
  rfl
/-- where the free names of the comprehension stand in the frame -/
noncomputable def Frs (sc : Scope) (ρ : List Str) : List (Str × NameKind) → List Nat → List Str → Prop
  | [], is, xs => is = [] ∧ xs = []
  | (n, k) :: r, is, xs => if k = .free then ∃ i is' xs', is = i :: is' ∧ xs = n :: xs' ∧ ρ[i]? = some n ∧ sc.names.lookup n = some .cell ∧ Frs sc ρ r is' xs' else Frs sc ρ r is xs
theorem frs_nil : Frs sc ρ [] [] [] := ⟨rfl, rfl⟩
theorem frs_free {n r i is xs} (h : ρ[i]? = some n) (hs : Frs sc ρ r is xs) (hc : sc.names.lookup n = some .cell) : Frs sc ρ ((n, .free) :: r) (i :: is) (n :: xs) := by
  unfold Frs; rw [if_pos rfl]; exact ⟨i, is, xs, rfl, rfl, h, hc, hs⟩
theorem frs_local {n r is xs} (hs : Frs sc ρ r is xs) : Frs sc ρ ((n, .local) :: r) is xs := by
  unfold Frs; rw [if_neg (by decide)]; exact hs
theorem frs_cell {n r is xs} (hs : Frs sc ρ r is xs) : Frs sc ρ ((n, .cell) :: r) is xs := by
  unfold Frs; rw [if_neg (by decide)]; exact hs
theorem frs_glob {n r is xs} (hs : Frs sc ρ r is xs) : Frs sc ρ ((n, .globalImplicit) :: r) is xs := by
  unfold Frs; rw [if_neg (by decide)]; exact hs
noncomputable def clOf (env : Env) : List (Str × NameKind) → List (Str × Addr) → List (Str × Addr)
  | [], cs => cs
  | (n, k) :: r, cs => clOf env r (if k = .free then (match env.cells.lookup n with | some a => (n, a) :: cs | none => cs) else cs)
theorem closureFor_eq {scope : Scope} {env : Env} (h : ∀ x ∈ scope.names, x.2 = .free → (env.cells.lookup x.1).isSome = true) : closureFor scope env = pure (clOf env scope.names []) := by
  have go : ∀ (l : List (Str × NameKind)) (cs : List (Str × Addr)), (∀ x ∈ l, x.2 = .free → (env.cells.lookup x.1).isSome = true) →
      (forIn l cs fun x r => (match x with | (name, kind) => if (kind == NameKind.free) = true then do let a ← cellOf env name; pure (ForInStep.yield ((name, a) :: r)) else pure (ForInStep.yield r) : Sem (ForInStep (List (Str × Addr))))) = pure (clOf env l cs) := by
    intro l
    induction l with
    | nil => intro cs _; rfl
    | cons x r ih =>
      intro cs hl
      obtain ⟨n, k⟩ := x
      rw [List.forIn_cons]
      by_cases hk : k = .free
      · subst hk
        obtain ⟨a, ea⟩ := Option.isSome_iff_exists.mp (hl (n, .free) List.mem_cons_self rfl)
        have : cellOf env n = pure a := by unfold cellOf; rw [show env.cells.lookup n = some a from ea]
        simp only [beq_self_eq_true, if_true, this, clOf, show env.cells.lookup n = some a from ea]
        exact ih _ fun y hy => hl y (List.mem_cons_of_mem _ hy)
      · have hb : (k == NameKind.free) = false := by simpa using hk
        simp only [hb, Bool.false_eq_true, if_false, clOf, hk]
        exact ih _ fun y hy => hl y (List.mem_cons_of_mem _ hy)
  have e : closureFor scope env = (forIn scope.names ([] : List (Str × Addr)) fun x r => (match x with | (name, kind) => if (kind == NameKind.free) = true then do let a ← cellOf env name; pure (ForInStep.yield ((name, a) :: r)) else pure (ForInStep.yield r) : Sem (ForInStep (List (Str × Addr))))) >>= fun r => pure r := rfl
  rw [e, go _ _ h]
  rfl
theorem clOf_sub {env : Env} : ∀ (l : List (Str × NameKind)) (cs : List (Str × Addr)), (∀ x a, cs.lookup x = some a → env.cells.lookup x = some a) → ∀ x a, (clOf env l cs).lookup x = some a → env.cells.lookup x = some a
  | [], cs, h => h
  | (n, k) :: r, cs, h => by
    refine clOf_sub r _ fun x a e => ?_
    split at e
    · split at e
      · rename_i b eb
        rw [List.lookup_cons] at e
        split at e
        · rename_i q
          cases e
          rw [eq_of_beq q]; exact eb
        · exact h x a e
      · exact h x a e
    · exact h x a e
theorem clOf_has {env : Env} : ∀ (l : List (Str × NameKind)) (cs : List (Str × Addr)) (x : Str) (a : Addr), (env.cells.lookup x = some a) → (cs.lookup x = some a ∨ (x, NameKind.free) ∈ l) → (∀ y b, cs.lookup y = some b → env.cells.lookup y = some b) → (clOf env l cs).lookup x = some a
  | [], cs, x, a, e, h, hs => by
    rcases h with h | h
    · exact h
    · cases h
  | (n, k) :: r, cs, x, a, e, h, hs => by
    have hs' : ∀ y b, (if k = .free then (match env.cells.lookup n with | some a => (n, a) :: cs | none => cs) else cs).lookup y = some b → env.cells.lookup y = some b := by
      intro y b eb
      split at eb
      · split at eb
        · rename_i b' eb'
          rw [List.lookup_cons] at eb
          split at eb
          · rename_i q
            cases eb
            rw [eq_of_beq q]; exact eb'
          · exact hs y b eb
        · exact hs y b eb
      · exact hs y b eb
    refine clOf_has r _ x a e ?_ hs'
    by_cases q : x = n ∧ k = .free
    · obtain ⟨rfl, rfl⟩ := q
      left
      rw [if_pos rfl, e]
      simp
    · rcases h with h | h
      · left
        split
        · rename_i hk
          split
          · rename_i b' eb'
            rw [List.lookup_cons]
            have : (x == n) = false := by
              cases z : x == n with
              | false => rfl
              | true => exact absurd ⟨eq_of_beq z, hk⟩ q
            rw [this]; exact h
          · exact h
        · exact h
      · right
        rcases List.mem_cons.mp h with h | h
        · cases h; exact absurd ⟨rfl, rfl⟩ q
        · exact h
end
end Mine

namespace Mine
section
variable {c : Cx} {d : Nat} {sc : Scope} {ρ : List Str}
theorem lookup_relS_free {n : Str} (hs : sc.kind = .function) (hc : sc.names.lookup n = some .cell) : ∀ {names : List (Str × NameKind)}, names.lookup n = some .free →
    (names.map fun (n, k) => if (k == NameKind.free && sc.kind == .function && sc.names.lookup n == some .cell) then (n, NameKind.cell) else (n, k)).lookup n = some .cell
  | [], h => by simp at h
  | (m, k) :: r, h => by
    have ih := @lookup_relS_free n hs hc r
    rw [List.map_cons]
    cases hx : n == m with
    | true =>
      have := eq_of_beq hx
      subst this
      simp only [List.lookup_cons, hx] at h
      cases h
      simp [List.lookup_cons, hs, hc]
    | false =>
      simp only [List.lookup_cons, hx] at h
      have := ih h
      by_cases hc' : (k == NameKind.free && sc.kind == .function && sc.names.lookup m == some .cell) = true
      · show List.lookup n ((if (k == NameKind.free && sc.kind == .function && sc.names.lookup m == some .cell) = true then (m, NameKind.cell) else (m, k)) :: _) = _
        rw [if_pos hc', List.lookup_cons, hx]; exact this
      · show List.lookup n ((if (k == NameKind.free && sc.kind == .function && sc.names.lookup m == some .cell) = true then (m, NameKind.cell) else (m, k)) :: _) = _
        rw [if_neg hc', List.lookup_cons, hx]; exact this
theorem Frs.get {sc ρ} : ∀ {l : List (Str × NameKind)} {is : List Nat} {xs : List Str}, Frs sc ρ l is xs → is.length = xs.length ∧ ∀ (j : Nat) y, xs[j]? = some y → ∃ i, is[j]? = some i ∧ ρ[i]? = some y ∧ sc.names.lookup y = some .cell ∧ (y, NameKind.free) ∈ l
  | [], _, _, h => by obtain ⟨rfl, rfl⟩ := h; simp
  | (n, k) :: r, is, xs, h => by
    unfold Frs at h
    split at h
    · rename_i hk
      obtain ⟨i, is', xs', rfl, rfl, h1, h2, h3⟩ := h
      have ih := Frs.get h3
      refine ⟨by simp [ih.1], fun j y e => ?_⟩
      cases j with
      | zero => simp at e; subst e; exact ⟨i, rfl, h1, h2, by rw [← hk]; exact List.mem_cons_self⟩
      | succ j =>
        simp at e
        obtain ⟨i', a1, a2, a3, a4⟩ := ih.2 j y e
        exact ⟨i', by simpa using a1, a2, a3, List.mem_cons_of_mem _ a4⟩
    · have ih := Frs.get h
      exact ⟨ih.1, fun j y e => by obtain ⟨i', a1, a2, a3, a4⟩ := ih.2 j y e; exact ⟨i', a1, a2, a3, List.mem_cons_of_mem _ a4⟩⟩
/-- what a comprehension's own scope must be like -/
structure CSc (sc scope : Scope) (x : Str) (is : List Nat) (xs : List Str) (ρ : List Str) : Prop where
  kind : scope.kind = .function
  skind : sc.kind = .function
  nocell : ∀ y ∈ scope.names, y.2 ≠ .cell
  loc : scope.names.lookup x = some .local
  names : ∀ y ∈ scope.names, y.2 = .local → scope.names.lookup y.1 = some .local
  free : ∀ y ∈ scope.names, y.2 = .free → scope.names.lookup y.1 = some .free
  nd : (x :: xs).Nodup
  fr : Frs sc ρ scope.names is xs
noncomputable def fvOf (sl : Sl) (is : List Nat) : Sl := is.map fun i => (sl[i]?).join
theorem CSc.closed {scope x is xs} (S : CSc sc scope x is xs ρ) {env φ h sl} (eo : EnvOK sc env) (vs : Vars c ρ φ h env sl) : ∀ y ∈ scope.names, y.2 = .free → (env.cells.lookup y.1).isSome = true := by
  have go : ∀ (l : List (Str × NameKind)) is xs, Frs sc ρ l is xs → ∀ y ∈ l, y.2 = .free → (env.cells.lookup y.1).isSome = true := by
    intro l
    induction l with
    | nil => intro _ _ _ y hy; cases hy
    | cons z r ih =>
      intro is xs h y hy hf
      obtain ⟨n, k⟩ := z
      unfold Frs at h
      split at h
      · obtain ⟨i, is', xs', rfl, rfl, h1, h2, h3⟩ := h
        rcases List.mem_cons.mp hy with e | e
        · subst e
          obtain ⟨a, ea⟩ := vs.has i n h1 ((eo.kind n).trans h2)
          rw [ea]; rfl
        · exact ih _ _ h3 y e hf
      · rename_i nk
        rcases List.mem_cons.mp hy with e | e
        · subst e; exact absurd hf nk
        · exact ih _ _ h y e hf
  exact go _ _ _ S.fr
theorem comp_env {scope : Scope} {env : Env} {A : Around} {E : Value → Shared → Prop} {s : Shared} {φ : Mp} {sl : Sl} {H : HW} {is xs x} {R : Env → Shared → Prop} (S : CSc sc scope x is xs ρ)
    (eo : EnvOK sc env) (ok : Ok c φ H s.heap) (vs : Vars c ρ φ s.heap env sl)
    (k : ∀ cenv s', cenv.locals = s.heap.objs.size → EnvOK (relS scope sc) cenv → (∀ b, cenv.cells.lookup x = some b → s.heap.get? b = none) → (∀ y b, cenv.cells.lookup y = some b → env.cells.lookup y = some b ∨ s.heap.get? b = none) → Vars c (x :: xs) φ s'.heap cenv (none :: fvOf sl is) →
      (∀ b o, s.heap.get? b = some o → s'.heap.get? b = some o) → Rest s s' → R cenv s') :
    wpAny (model c.prog c.w) A (newFunctionEnv scope env.globals (clOf env scope.names []) [] env.qual none .none (some env)) (fun cenv s' => R { cenv with scope := relabel scope env } s') E s := by
  refine wpAny_newFunctionEnv S.nocell (by intro y hy; simp at hy) (fun h₁ hns₁ hsb₁ => ?_) S.kind
  have kp : ∀ b o, s.heap.get? b = some o → h₁.get? b = some o := fun b o e => hsb₁.extBut b o (Nat.ne_of_lt (Heap.lt_size e)) (Heap.get?_push_of_some _ e)
  have sub := clOf_sub (env := env) scope.names [] (by intro x a e; simp at e)
  have hC : c.h₀.get? s.heap.objs.size = none := by
    cases e : c.h₀.get? s.heap.objs.size with
    | none => rfl
    | some o => have := ok.base _ _ e; rw [new_none] at this; cases this
  have kindC : ∀ y, y ∈ xs → (relS scope sc).names.lookup y = some .cell := fun y hy => by
    obtain ⟨j, hj, ej⟩ := List.getElem_of_mem hy
    obtain ⟨i, a1, a2, a3, a4⟩ := (S.fr.get).2 j y (by rw [List.getElem?_eq_getElem hj, ej])
    exact lookup_relS_free S.skind a3 (S.free _ a4 rfl)
  have kindX : (relS scope sc).names.lookup x = some .local := by
    have := lookup_relabel_local (env := env) S.loc
    rw [show (relS scope sc) = relabel scope env from (relabel_eq eo).symm]
    exact this
  have eoC : EnvOK (relS scope sc) { (newEnv scope s.heap.objs.size env.globals (clOf env scope.names []) env.qual none .none (some env) builtinsNs) with scope := relabel scope env } :=
    ⟨relabel_eq eo, eo.glob, eo.bi⟩
  refine k _ { s with heap := h₁, toks := s.toks + ([] : List (Str × Value)).length } rfl eoC ?_ (fun y b e => .inl (sub y b e)) ⟨S.nd, ?_, (new_unz ok).1, (new_unz ok).2, hC, ⟨_, hns₁, ?_⟩, ?_, ?_, ?_, ?_⟩ kp (Rest.mk s _ _)
  · intro b e
    have e' : (clOf env scope.names []).lookup x = some b := e
    have : ∀ (l : List (Str × NameKind)) (cs : List (Str × Addr)) (y : Str) b, (clOf env l cs).lookup y = some b → cs.lookup y = some b ∨ (y, NameKind.free) ∈ l := by
      intro l
      induction l with
      | nil => intro cs y b e; exact .inl e
      | cons z r ih =>
        intro cs y b e
        obtain ⟨n, kk⟩ := z
        rcases ih _ y b e with h | h
        · split at h
          · rename_i hk
            split at h
            · rw [List.lookup_cons] at h
              split at h
              · rename_i q; right; rw [eq_of_beq q, hk]; exact List.mem_cons_self
              · exact .inl h
            · exact .inl h
          · exact .inl h
        · exact .inr (List.mem_cons_of_mem _ h)
    rcases this _ _ _ _ e' with h | h
    · simp at h
    · have := S.free _ h rfl
      rw [S.loc] at this; cases this
  · simp [fvOf, S.fr.get.1]
  · intro i y v h1 h2 h3
    cases i with
    | zero => simp at h3
    | succ i =>
      simp at h1
      have := (eoC.kind y).symm.trans h2
      rw [kindC y (List.mem_of_getElem? h1)] at this; cases this
  · intro y a e
    obtain ⟨n, z, n0, u, o', ho', hd⟩ := vs.offC y a (sub y a e)
    exact ⟨n, z, n0, u, o', kp _ _ ho', hd⟩
  · intro y z a e1 e2
    exact vs.inj y z a (sub y a e1) (sub z a e2)
  · intro i y v h1 h2 h3
    cases i with
    | zero => simp at h3
    | succ i =>
      simp at h1 h3
      obtain ⟨j, a1, a2, a3, a4⟩ := S.fr.get.2 i y h1
      simp only [fvOf, List.getElem?_map, a1, Option.map_some] at h3
      have h4 : sl[j]? = some (some v) := by
        cases q : sl[j]? with
        | none => rw [q] at h3; simp at h3
        | some u => rw [q] at h3; simp at h3; rw [h3]
      obtain ⟨a, u, e1, ⟨o', ho', hd⟩, e3⟩ := vs.cel j y v a2 (.inl ((eo.kind y).trans a3)) h4
      exact ⟨a, u, clOf_has _ _ _ _ e1 (.inr a4) (by intro x a e; simp at e), ⟨o', kp _ _ ho', hd⟩, e3.grow (.of_keep kp)⟩
  · intro i y h1 h2
    cases i with
    | zero =>
      simp at h1
      subst h1
      have := (eoC.kind x).symm.trans h2
      rw [kindX] at this; cases this
    | succ i =>
      simp at h1
      obtain ⟨j, a1, a2, a3, a4⟩ := S.fr.get.2 i y h1
      obtain ⟨a, ea⟩ := vs.has j y a2 ((eo.kind y).trans a3)
      exact ⟨a, clOf_has _ _ _ _ ea (.inr a4) (by intro x a e; simp at e)⟩
end
end Mine

namespace Mine
section
variable {c : Cx} {d : Nat} {sc : Scope} {ρ : List Str}
/-- the tests of a comprehension -/
noncomputable def Ets (c : Cx) (d : Nat) (sc : Scope) (ρ : List Str) (ifs : List Expr) (W : WT) : Prop :=
  ∀ env A E s φ sl H Q, EnvOK sc env → AOK d A → Ok c φ H s.heap → Vars c ρ φ s.heap env sl → W sl H Q →
    wpAny (model c.prog c.w) A (forIn ifs true fun c r => if r = true then do let ok ← isTrue c env (eval c env); pure (ForInStep.yield ok) else pure (ForInStep.yield r)) (PostT c φ s Q) E s
noncomputable def tTrue : WT := fun _ H Q => Q true H
theorem ets_nil : Ets c d sc ρ [] tTrue := fun env A E s φ sl H Q eo ao ok vs w => wpAny_tests_nil ⟨H, φ, w, ok, .refl _ _, Rest.refl s⟩
theorem ets_one {t w} (h : Et c d sc ρ t w) : Ets c d sc ρ [t] w := fun env A E s φ sl H Q eo ao ok vs q => wpAny_tests_one (h env A E s φ sl H Q eo ao ok vs q)

noncomputable def wCompGo (ns : List Int) (k : ItK) (t : WT) (e : WE) (fv : Sl) : List V → List V → HW → (List V → HW → Prop) → Prop
  | [], ys => fun H Q => Q ys H
  | v :: r, ys => fun H Q => t (some v :: fv) H fun b H₁ => if b then e (some v :: fv) H₁ fun y H₂ => k.inv ns H₂ ∧ wCompGo ns k t e fv r (ys ++ [y]) H₂ Q else k.inv ns H₁ ∧ wCompGo ns k t e fv r ys H₁ Q
noncomputable def wComp (ns : List Int) (it : WI) (is : List Nat) (t : WT) (e : WE) : WE := fun sl H Q => it sl H fun k H₁ => k.items.length ≤ 100000 ∧ wCompGo ns k t e (fvOf sl is) k.items [] H₁ fun ys H₂ => Q (.loc H₂.length) (H₂ ++ [.list ys])

structure CompEnd (c : Cx) (φ : Mp) (s : Shared) (Q : List V → HW → Prop) (D C : Addr) (s' : Shared) (ys : List V) (H' : HW) (φ' : Mp) (xs : List Value) : Prop where
  q : Q ys H'
  ok : Ok c φ' H' s'.heap
  rep : RepVs c φ' s'.heap ys xs
  lst : s'.heap.PlainList D xs.toArray
  g : Grow φ s.heap φ' s'.heap
  r : Rest s s'
  dl : D ∉ φ'.l
  dz : D ∉ φ'.z
  cl : C ∉ φ'.l
  cz : C ∉ φ'.z
  dc : D ≠ C
  fd : s.heap.get? D = none
  dm : D ≠ sysModules
  fc : s.heap.get? C = none
  ns : ∃ m, s'.heap.Ns C m
theorem fresh0 {φ H} {h : Heap} (ok : Ok c φ H h) {a} (e : h.get? a = none) : c.h₀.get? a = none := by
  cases q : c.h₀.get? a with
  | none => rfl
  | some o => have := ok.base _ _ q; rw [e] at this; cases this
/-- the names are let go -/
theorem CompEnd.post {φ H s Q D C s' ys H' φ' xs} (x : CompEnd c φ s Q D C s' ys H' φ' xs) (ok0 : Ok c φ H s.heap) {h'} (sb : Heap.SameBut C s'.heap h') {Q' : V → HW → Prop} (hq : ∀ ys H', Q ys H' → Q' (.loc H'.length) (H' ++ [.list ys])) :
    PostE c φ s Q' (.ref D) { s' with heap := h' } := by
  obtain ⟨n, hD⟩ := x.lst
  have kp : ∀ b o, b ≠ C → s'.heap.get? b = some o → h'.get? b = some o := fun b o n e => (sb.2 b n).trans e
  have ok₁ : Ok c φ' H' h' := x.ok.same x.cl x.cz (fresh0 ok0 x.fc) kp
  have rp : RepVs c φ' h' ys xs := x.rep.keep fun b o z e => kp b o (fun q => x.cz (q ▸ z)) e
  have hD' := kp D _ x.dc hD
  refine ⟨_, _, ⟨φ'.l ++ [D], φ'.z⟩, hq _ _ x.q, ok₁.adopt x.dl x.dz (fresh0 ok0 x.fd) hD' (.list rp) x.dm, .loc ?_, ?_, x.r.trans ⟨h', s'.toks, rfl⟩⟩
  · show (φ'.l ++ [D])[H'.length]? = some D
    rw [← x.ok.len]; simp
  · obtain ⟨δ, ζ, e1, e2, hd, hz⟩ := x.g.ext
    refine ⟨⟨δ ++ [D], ζ, by simp [e1], e2, fun a m => ?_, hz⟩, fun b o e n => kp b o (fun q => ?_) (x.g.keep b o e n), fun b o e => ?_⟩
    · rcases List.mem_append.mp m with m | m
      · exact hd a m
      · rw [List.mem_singleton.mp m]; exact x.fd
    · rw [q, x.fc] at e; cases e
    · obtain ⟨o', e'⟩ := x.g.live b o e
      exact ⟨o', kp b o' (fun q => by rw [q, x.fc] at e; cases e) e'⟩

structure CompIn (c : Cx) (A : Around) (φ : Mp) (s : Shared) (Q : List V → HW → Prop) (t : WT) (e : WE) (fv : Sl) (k : ItK) (x : Str) (xs : List Str) (cenv : Env) (I D : Addr) (n : Nat) (s' : Shared) (i : Nat) (φ' : Mp) (H' : HW) (ys : List V) (xs' : List Value) (u : Option V) : Prop where
  len : i + n = k.items.length
  go : wCompGo c.ns k t e fv (k.items.drop i) ys H' Q
  inv : k.inv c.ns H'
  it : ItAt c A φ' s'.heap I i k
  il : I ∉ φ'.l
  iz : I ∉ φ'.z
  dl : D ∉ φ'.l
  dz : D ∉ φ'.z
  ok : Ok c φ' H' s'.heap
  vs : Vars c (x :: xs) φ' s'.heap cenv (u :: fv)
  lst : s'.heap.PlainList D xs'.toArray
  rep : RepVs c φ' s'.heap ys xs'
  yl : ys.length ≤ i
  gr : Grow φ s.heap φ' s'.heap
  rs : Rest s s'
noncomputable def CompI (c : Cx) (A : Around) (φ : Mp) (s : Shared) (Q : List V → HW → Prop) (t : WT) (e : WE) (fv : Sl) (k : ItK) (x : Str) (xs : List Str) (cenv : Env) (I D : Addr) (n : Nat) (s' : Shared) : Prop :=
  ∃ i φ' H' ys xs' u, CompIn c A φ s Q t e fv k x xs cenv I D n s' i φ' H' ys xs' u
theorem comp_loop {elt iter : Expr} {x : Str} {xp : Pos} {ifs : List Expr} {scope sc' : Scope} {pos : Pos} {I D : Addr} {cenv : Env} {A : Around} {R : Result → Shared → Prop} {xs : List Str} {t : WT} {e : WE} {fv : Sl} {k : ItK} {φ : Mp} {s s₁ : Shared} {φ₁ : Mp} {H₁ : HW} {Q : List V → HW → Prop}
    (G : Good c) (ht : Ets c d sc' (x :: xs) ifs t) (he : Ev c d sc' (x :: xs) elt e) (eo : EnvOK sc' cenv) (ao : AOK d A) (hk : sc'.kind = .function) (hx : sc'.names.lookup x = some .local ∨ sc'.names.lookup x = some .cell)
    (fI : s.heap.get? I = none) (fD : s.heap.get? D = none) (fC : s.heap.get? cenv.locals = none) (fX : ∀ b, cenv.cells.lookup x = some b → s.heap.get? b = none) (ok0 : ∃ H, Ok c φ H s.heap)
    (dm : D ≠ sysModules) (nID : I ≠ D) (nIC : I ≠ cenv.locals) (nDC : D ≠ cenv.locals) (nIx : ∀ y, cenv.cells.lookup y ≠ some I) (nDx : ∀ y, cenv.cells.lookup y ≠ some D)
    (q : wCompGo c.ns k t e fv k.items [] H₁ Q) (hlen : k.items.length ≤ 100000) (iv : k.inv c.ns H₁) (ia : ItAt c A φ₁ s₁.heap I 0 k) (Il : I ∉ φ₁.l) (Iz : I ∉ φ₁.z) (Dl : D ∉ φ₁.l) (Dz : D ∉ φ₁.z)
    (ok₁ : Ok c φ₁ H₁ s₁.heap) (vs₁ : Vars c (x :: xs) φ₁ s₁.heap cenv (none :: fv)) (lst : s₁.heap.PlainList D #[]) (g₁ : Grow φ s.heap φ₁ s₁.heap) (r₁ : Rest s s₁)
    (hR : ∀ s' ys H' φ' xs', CompEnd c φ s Q D cenv.locals s' ys H' φ' xs' → R (.ok .next) s') :
    codeAny (model c.prog c.w) A (.compLoop (.ListComp elt [⟨.Name x xp, iter, ifs, 0⟩] scope pos) 0 (.ref I) (.ref D) cenv) R s₁ := by
  obtain ⟨H0, ok0⟩ := ok0
  refine codeAny_compLoop_tests (CompI c A φ s Q t e fv k x xs cenv I D)
    ?_ k.items.length ⟨0, φ₁, H₁, [], [], none, by simp, q, iv, ia, Il, Iz, Dl, Dz, ok₁, vs₁, lst, .nil, Nat.le_refl _, g₁, r₁⟩
  rintro n s' ⟨i, φ', H', ys, xs', u, hn, q, iv, ia, Il, Iz, Dl, Dz, ok', vs', lst', rep', hys, g', r'⟩
  cases n with
  | zero =>
    have hi : i = k.items.length := by (first | lia | omega)
    refine ItAt.done G ao.handled ok' iv ia hi fun h' tk kp => ?_
    rw [List.drop_eq_nil_of_le (by (first | lia | omega))] at q
    obtain ⟨m, hn, _⟩ := vs'.loc
    refine hR _ ys H' φ' xs' ⟨q, ok'.same Il Iz (fresh0 ok0 fI) kp, rep'.keep fun b o z e => kp b o (fun w => Iz (w ▸ z)) e, lst'.at fun o e => kp D o (Ne.symm nID) e, ?_, r'.trans (Rest.mk s' _ _), Dl, Dz, vs'.offL, vs'.offZ, nDC, fD, dm, fC, ⟨m, hn.at' fun o e => kp _ o (Ne.symm nIC) e⟩⟩
    exact ⟨g'.ext, fun b o e n => kp b o (fun q => by rw [q, fI] at e; cases e) (g'.keep b o e n), fun b o e => by
      obtain ⟨o', e'⟩ := g'.live b o e
      exact ⟨o', kp b o' (fun q => by rw [q, fI] at e; cases e) e'⟩⟩
  | succ n =>
    have hlt : i < k.items.length := by (first | lia | omega)
    obtain ⟨v, ev⟩ : ∃ v, k.items[i]? = some v := ⟨_, List.getElem?_eq_getElem hlt⟩
    rw [List.drop_eq_getElem_cons hlt] at q
    have ev' : k.items[i] = v := by rw [List.getElem?_eq_getElem hlt] at ev; cases ev; rfl
    rw [ev'] at q
    refine ItAt.item G ok' iv ia ev fun y h₂ tk ry ia₂ kp₂ lv lt => ?_
    have ok₂ := ok'.same Il Iz (fresh0 ok0 fI) kp₂
    have vs₂ := vs'.same nIC nIx Iz kp₂
    have ry₂ : RepV c φ' h₂ v y := ry.keep fun b o z e => kp₂ b o (fun w => Iz (w ▸ z)) e
    refine wpAny_assign_Name (store_okK (s := { s' with heap := h₂, toks := tk }) (i := 0) rfl hx hk eo ok₂ vs₂ ry₂ fun s₃ ok₃ vs₃ gs₃ r₃ kp₃ => ?_)
    have kp3 : ∀ b o, b ≠ I → b ≠ cenv.locals → cenv.cells.lookup x ≠ some b → s'.heap.get? b = some o → s₃.heap.get? b = some o := fun b o n1 n2 n3 e => kp₃ b o n2 n3 (kp₂ b o n1 e)
    obtain ⟨oI, lo⟩ := lv
    have lI : s₃.heap.get? I = some oI := kp₃ I oI nIC (nIx x) lo
    have ia₃ : ItAt c A φ' s₃.heap I (i + 1) k := ia₂.keep (fun o e => kp₃ I o nIC (nIx x) e) fun _ _ e => e
    have lst₃ : s₃.heap.PlainList D xs'.toArray := lst'.at fun o e => kp3 D o (Ne.symm nID) nDC (nDx x) e
    have rep₃ : RepVs c φ' s₃.heap ys xs' := rep'.keep fun b o z e => kp3 b o (fun w => Iz (w ▸ z)) (fun w => vs'.offZ (w ▸ z)) (fun w => (vs'.offC x b w).2.1 z) e
    have g₃ : Grow φ s.heap φ' s₃.heap := by
      have nn : ∀ b o, s.heap.get? b = some o → b ≠ I ∧ b ≠ cenv.locals ∧ cenv.cells.lookup x ≠ some b := fun b o e => ⟨fun q => by (rw [q, fI] at e; cases e), fun q => by (rw [q, fC] at e; cases e), fun q => by (rw [fX b q] at e; cases e)⟩
      refine ⟨g'.ext, fun b o e n => kp3 b o (nn b o e).1 (nn b o e).2.1 (nn b o e).2.2 (g'.keep b o e n), fun b o e => ?_⟩
      obtain ⟨o', e'⟩ := g'.live b o e
      exact ⟨o', kp3 b o' (nn b o e).1 (nn b o e).2.1 (nn b o e).2.2 e'⟩
    have rr₃ : Rest s s₃ := (r'.trans (Rest.mk s' h₂ tk)).trans r₃
    have vs₃' : Vars c (x :: xs) φ' s₃.heap cenv (some v :: fv) := vs₃
    refine wpAny_mono (ht cenv A _ s₃ φ' (some v :: fv) H' _ eo ao ok₃ vs₃' q) (fun b s₄ p₄ => ?_) fun _ _ e => e
    obtain ⟨H₄, φ₄, q₄, ok₄, g₄, r₄⟩ := p₄
    have lI₄ := g₄.keep I oI lI Il
    have Il₄ := g₄.nin Il lI
    have Iz₄ := g₄.ninz Iz lI
    obtain ⟨nD, lD⟩ := id lst₃
    have Dl₄ := g₄.nin Dl lD
    have Dz₄ := g₄.ninz Dz lD
    have lst₄ : s₄.heap.PlainList D xs'.toArray := ⟨nD, g₄.keep _ _ lD Dl⟩
    have vs₄ := vs₃'.grow g₄
    have ia₄ : ItAt c A φ₄ s₄.heap I (i + 1) k := ia₃.keep (fun o e => g₄.keep I o e Il) fun _ _ e => g₄.at e
    cases b with
    | false =>
      simp only [Bool.false_eq_true, if_false] at q₄ ⊢
      exact ⟨n, Nat.lt_succ_self n, i + 1, φ₄, H₄, ys, xs', some v, by (first | lia | omega), q₄.2, q₄.1, ia₄, Il₄, Iz₄, Dl₄, Dz₄, ok₄, vs₄, lst₄, rep₃.grow g₄, by (first | lia | omega), g₃.trans g₄, rr₃.trans r₄⟩
    | true =>
      simp only [if_true] at q₄ ⊢
      refine wpAny_mono (he cenv A _ s₄ φ₄ (some v :: fv) H₄ _ eo ao ok₄ vs₄ q₄) (fun z s₅ p₅ => ?_) fun _ _ e => e
      obtain ⟨y', H₅, φ₅, q₅, ok₅, ry₅, g₅, r₅⟩ := p₅
      have lI₅ := g₅.keep I oI lI₄ Il₄
      have Il₅ := g₅.nin Il₄ lI₄
      have Iz₅ := g₅.ninz Iz₄ lI₄
      obtain ⟨nD₄, lD₄⟩ := id lst₄
      have Dl₅ := g₅.nin Dl₄ lD₄
      have Dz₅ := g₅.ninz Dz₄ lD₄
      have lst₅ : s₅.heap.PlainList D xs'.toArray := ⟨nD₄, g₅.keep _ _ lD₄ Dl₄⟩
      have vs₅ := vs₄.grow g₅
      have ia₅ : ItAt c A φ₅ s₅.heap I (i + 1) k := ia₄.keep (fun o e => g₅.keep I o e Il₄) fun _ _ e => g₅.at e
      have rep₅ : RepVs c φ₅ s₅.heap (ys ++ [y']) (xs' ++ [z]) := ((rep₃.grow g₄).grow g₅).append (.cons ry₅ .nil)
      refine wpAny_list_append_plain lst₅ (fun h₆ l₆ sb => ?_) (by rw [List.size_toArray, ← rep'.length, sizeLine_eq]; (first | lia | omega))
      have kp : ∀ b o, b ≠ D → s₅.heap.get? b = some o → h₆.get? b = some o := fun b o n e => (sb.2 b n).trans e
      refine ⟨n, Nat.lt_succ_self n, i + 1, φ₅, H₅, ys ++ [y'], xs' ++ [z], some v, by (first | lia | omega), q₅.2, q₅.1, ia₅.keep (fun o e => kp I o nID e) fun _ _ e => e, Il₅, Iz₅, Dl₅, Dz₅,
        ok₅.same Dl₅ Dz₅ (fresh0 ok0 fD) kp, vs₅.same nDC nDx Dz₅ kp, by simpa using l₆, rep₅.keep fun b o z e => kp b o (fun w => Dz₅ (w ▸ z)) e, by simp; (first | lia | omega), ?_, ((rr₃.trans r₄).trans r₅).trans ⟨h₆, s₅.toks, rfl⟩⟩
      have g₅' := (g₃.trans g₄).trans g₅
      exact ⟨g₅'.ext, fun b o e n => kp b o (fun q => by rw [q, fD] at e; cases e) (g₅'.keep b o e n), fun b o e => by
        obtain ⟨o', e'⟩ := g₅'.live b o e
        exact ⟨o', kp b o' (fun q => by rw [q, fD] at e; cases e) e'⟩⟩
end
end Mine

namespace Mine
section
variable {c : Cx} {d : Nat} {sc : Scope} {ρ : List Str}
theorem ItAt.self {A E φ I i k} {s : Shared} {R : Value → Shared → Prop} (x : ItAt c A φ s.heap I i k) (h : R (.ref I) s) : wpAny (model c.prog c.w) A (pyIter (.ref I)) R E s := by
  cases k with
  | list kv xs => obtain ⟨a, r, it⟩ := x; exact wpAny_pyIter_listiter it h
  | walk xs => obtain ⟨P, St, W, hp, hl, st⟩ := x; exact W.self _ _ _ _ st h
theorem comp_block {elt iter : Expr} {x : Str} {xp : Pos} {ifs : List Expr} {scope : Scope} {pos : Pos} {env : Env} {A : Around} {E : Value → Shared → Prop} {s : Shared} {φ : Mp} {sl : Sl} {H : HW} {is xs} {wi : WI} {t : WT} {e : WE} {RR : Value → Addr → Result → Shared → Prop} {Q : List V → HW → Prop}
    (G : Good c) (S : CSc sc scope x is xs ρ) (hi : Ei c d sc ρ iter wi) (ht : Ets c d (relS scope sc) (x :: xs) ifs t) (he : Ev c d (relS scope sc) (x :: xs) elt e)
    (eo : EnvOK sc env) (ao : AOK d A) (ok : Ok c φ H s.heap) (vs : Vars c ρ φ s.heap env sl)
    (w : wi sl H fun k H₁ => k.items.length ≤ 100000 ∧ wCompGo c.ns k t e (fvOf sl is) k.items [] H₁ Q)
    (hRR : ∀ D C s' ys H' φ' xs', CompEnd c φ s Q D C s' ys H' φ' xs' → RR (.ref D) C (.ok .next) s') :
    wpAny (model c.prog c.w) A (eval iter env) (fun xv s₁ => wpAny (model c.prog c.w) A (pyIter xv) (fun it s₂ => wpAny (model c.prog c.w) A (newList []) (fun acc s₃ =>
      wpAny (model c.prog c.w) A (newFunctionEnv scope env.globals (clOf env scope.names []) [] env.qual none .none (some env)) (fun cenv s₄ =>
        codeAny (model c.prog c.w) A (.compStart (.ListComp elt [⟨.Name x xp, iter, ifs, 0⟩] scope pos) 0 it acc { cenv with scope := relabel scope env }) (RR acc cenv.locals) s₄) E s₃) E s₂) E s₁) E s := by
  refine wpAny_mono (hi env A E s φ sl H _ eo ao ok vs w) (fun xv s₁ p₁ => wpAny_mono p₁ (fun it s₂ p₂ => ?_) fun _ _ e => e) fun _ _ e => e
  obtain ⟨I, k, H₂, φ₂, rfl, ⟨hlen, q⟩, iv, ia, fI, Il, Iz, ok₂, g₂, r₂⟩ := p₂
  have vs₂ := vs.grow g₂
  refine wpAny_newObj_type (hd := by size_fits) ?_
  have kp₃ : ∀ b o, s₂.heap.get? b = some o → (s₂.heap.push { cls := .type "list", dict := none, data := .seq ([] : List Value).toArray }).get? b = some o := fun b o e => Heap.get?_push_of_some _ e
  have ok₃ := ok₂.keep kp₃
  have g₃ : Grow φ₂ s₂.heap φ₂ (s₂.heap.push { cls := .type "list", dict := none, data := .seq ([] : List Value).toArray }) := .of_keep kp₃
  have fD : s.heap.get? s₂.heap.objs.size = none := g₂.none (new_none _)
  obtain ⟨oI, lI⟩ := ia.live
  refine comp_env (s := { s₂ with heap := s₂.heap.push { cls := .type "list", dict := none, data := .seq ([] : List Value).toArray } }) (R := fun cenv' s₄ => codeAny (model c.prog c.w) A (.compStart (.ListComp elt [⟨.Name x xp, iter, ifs, 0⟩] scope pos) 0 (.ref I) (.ref s₂.heap.objs.size) cenv') (RR (.ref s₂.heap.objs.size) cenv'.locals) s₄) S eo ok₃ (vs₂.grow g₃) fun cenv s₄ hC eoC fX fY vsC kp₄ r₄ => ?_
  have ok₄ := ok₃.keep kp₄
  have lD : s₄.heap.get? s₂.heap.objs.size = some { cls := .type "list", dict := none, data := .seq ([] : List Value).toArray } := kp₄ _ _ (Heap.get?_push_size _ rfl)
  have sz : cenv.locals = s₂.heap.objs.size + 1 := by rw [hC]; exact Heap.size_push ..
  have nf : ∀ b, (s₂.heap.push { cls := .type "list", dict := none, data := .seq ([] : List Value).toArray }).get? b = none → s.heap.get? b = none := fun b e => (g₂.trans g₃).none e
  have ia₄ : ItAt c A φ₂ s₄.heap I 0 k := ia.keep (fun o e => kp₄ _ _ (kp₃ _ _ e)) fun _ _ e => e
  have notcell : ∀ a o, s₂.heap.get? a = some o → a ≠ cenv.locals := fun a o e q => by
    have h1 := Heap.lt_size e
    rw [q, sz] at h1
    exact absurd h1 (Nat.not_lt.mpr (Nat.le_succ _))
  have cellObj : ∀ y a, cenv.cells.lookup y = some a → ∀ o, s₄.heap.get? a = some o → ∃ z, o.data = .cell z := fun y a e o eo' => by
    obtain ⟨_, _, _, z, o', ho', hd⟩ := vsC.offC y a e
    rw [ho'] at eo'; cases eo'; exact ⟨z, hd⟩
  have loop : codeAny (model c.prog c.w) A (.compLoop (.ListComp elt [⟨.Name x xp, iter, ifs, 0⟩] scope pos) 0 (.ref I) (.ref s₂.heap.objs.size) cenv) (RR (.ref s₂.heap.objs.size) cenv.locals) s₄ := by
    refine comp_loop G ht he eoC ao S.kind (.inl ?_) fI fD (nf _ (by rw [hC]; exact new_none _)) (fun b e => nf b (fX b e)) ⟨H, ok⟩ ok₂.newS (fun q => ?_) (fun q => notcell I oI lI q) (fun q => by rw [sz] at q; exact absurd q (Nat.ne_of_lt (Nat.lt_succ_self _)))
      (fun y e => ?_) (fun y e => ?_) q hlen iv ia₄ Il Iz (new_unz ok₂).1 (new_unz ok₂).2 ok₄ vsC ⟨_, lD⟩ ((g₂.trans g₃).trans (.of_keep kp₄)) ((r₂.trans ⟨_, s₂.toks, rfl⟩).trans r₄) fun s' ys H' φ' xs' ce => hRR _ _ s' ys H' φ' xs' ce
    · have := lookup_relabel_local (env := env) S.loc
      rw [show (relS scope sc) = relabel scope env from (relabel_eq eo).symm]
      exact this
    · have := Heap.lt_size lI
      rw [q] at this; exact Nat.lt_irrefl _ this
    · rcases fY y I e with h | h
      · obtain ⟨_, _, _, u', o3, ho3, _⟩ := vs.offC y I h
        rw [fI] at ho3; cases ho3
      · have := kp₃ _ _ lI
        rw [show (s₂.heap.push { cls := .type "list", dict := none, data := .seq ([] : List Value).toArray }).get? I = none from h] at this; cases this
    · obtain ⟨z, hd⟩ := cellObj y _ e _ lD
      cases hd
  exact codeAny_compStart_list loop (ia₄.self loop)
theorem CompPost.mk {φ s} {A : Around} {E : Value → Shared → Prop} {H} {Q : List V → HW → Prop} {Q' : V → HW → Prop} {D C s' ys H' φ' xs} (ok : Ok c φ H s.heap) (x : CompEnd c φ s Q D C s' ys H' φ' xs) (hq : ∀ ys H', Q ys H' → Q' (.loc H'.length) (H' ++ [.list ys])) :
    compPost (model c.prog c.w) A E none (PostE c φ s Q') (.ref D) C (.ok .next) s' := by
  obtain ⟨m, hn⟩ := x.ns
  exact ⟨m, hn, fun h' sb => x.post ok sb hq⟩
theorem ev_comp {elt iter : Expr} {x : Str} {xp : Pos} {ifs : List Expr} {scope : Scope} {pos : Pos} {is xs} {wi : WI} {t : WT} {e : WE} (G : Good c) (S : CSc sc scope x is xs ρ)
    (hi : Ei c d sc ρ iter wi) (ht : Ets c d (relS scope sc) (x :: xs) ifs t) (he : Ev c d (relS scope sc) (x :: xs) elt e) (hs : ∀ env x, foldedSetIterable iter env x = pure x) :
    Ev c d sc ρ (.ListComp elt [⟨.Name x xp, iter, ifs, 0⟩] scope pos) (wComp c.ns wi is t e) := by
  intro env A E s φ sl H Q eo ao ok vs w
  rw [eval_ListComp]
  show wpAny _ _ (comprehension _ scope env _ (newList []) false (eval iter env)) _ _ _
  refine wpAny_comprehension_free rfl (hs env) (closureFor_eq (S.closed eo vs)) S.kind S.names ?_
  exact comp_block G S hi ht he eo ao ok vs w fun D C s' ys H' φ' xs' ce => CompPost.mk ok ce fun _ _ q => q
theorem ex_setC {i : Nat} {y : Str} {yp : Pos} {elt iter : Expr} {x : Str} {xp : Pos} {ifs : List Expr} {scope : Scope} {pos spos : Pos} {is : List Nat} {xs : List Str} {wi : WI} {t : WT} {e : WE} (G : Good c) (S : CSc sc scope x is xs ρ)
    (hi : Ei c d sc ρ iter wi) (ht : Ets c d (relS scope sc) (x :: xs) ifs t) (he : Ev c d (relS scope sc) (x :: xs) elt e) (hy : ρ[i]? = some y) (hs : ∀ env x, foldedSetIterable iter env x = pure x)
    (hl : sc.names.lookup y = some .local) (hw : ∀ env, env.scope = sc → swapsWith (.ListComp elt [⟨.Name x xp, iter, ifs, 0⟩] scope pos) (some (.Name y yp)) spos.line env = pure true) :
    Ex c d sc ρ (.Assign [.Name y yp] (.ListComp elt [⟨.Name x xp, iter, ifs, 0⟩] scope pos) spos) (wSet i (wComp c.ns wi is t e)) := by
  intro env A E s φ sl H Q eo ao ok vs w
  rw [exec_Assign_Name_used _ _ _ _ (hw env eo.scope)]
  refine wpAny_bind (wpAny_standAt (wpAny_bind ?_))
  show wpAny _ A (do let _ ← comprehension (.ListComp elt [⟨.Name x xp, iter, ifs, 0⟩] scope pos) scope env _ (newList []) false (eval iter env) (some (assign (.Name y yp) env))) _ _ s
  refine wpAny_bind (wpAny_mono (wpAny_comprehension_free (Q := fun _ s' => PostS c ρ env φ s Q .next s') rfl (hs env) (closureFor_eq (S.closed eo vs)) S.kind S.names ?_) (fun _ s' hq => wpAny_pure (wpAny_pure hq)) fun _ _ e => e)
  refine comp_block G S hi ht he eo ao ok vs w fun D C s' ys H' φ' xs' ce => ?_
  obtain ⟨n, hD⟩ := ce.lst
  have ok₁ : Ok c ⟨φ'.l ++ [D], φ'.z⟩ (H' ++ [.list ys]) s'.heap := ce.ok.adopt ce.dl ce.dz (fresh0 ok ce.fd) hD (.list ce.rep) ce.dm
  have rv : RepV c ⟨φ'.l ++ [D], φ'.z⟩ s'.heap (.loc H'.length) (.ref D) := .loc (by
    show (φ'.l ++ [D])[H'.length]? = some D
    rw [← ce.ok.len]; simp)
  have g₁ : Grow φ s.heap ⟨φ'.l ++ [D], φ'.z⟩ s'.heap := by
    obtain ⟨δ, ζ, e1, e2, hd, hz⟩ := ce.g.ext
    refine ⟨⟨δ ++ [D], ζ, by simp [e1], e2, fun a m => ?_, hz⟩, ce.g.keep, ce.g.live⟩
    rcases List.mem_append.mp m with m | m
    · exact hd a m
    · rw [List.mem_singleton.mp m]; exact ce.fd
  have fL : C ≠ env.locals := fun q => by
    obtain ⟨m, ⟨o, _, _, ho, _⟩, _⟩ := vs.loc
    rw [← q, ce.fc] at ho; cases ho
  have fCl : ∀ z, env.cells.lookup z ≠ some C := fun z q => by
    obtain ⟨_, _, _, u, o, ho, _⟩ := vs.offC z C q
    rw [ce.fc] at ho; cases ho
  have vs₁ : Vars c ρ ⟨φ'.l ++ [D], φ'.z⟩ s'.heap env sl := vs.grow g₁
  refine wpAny_assign_Name (store_okK (s := s') hy (.inl hl) S.skind eo ok₁ vs₁ rv fun s₂ ok₂ vs₂ gs₂ r₂ kp₂ => ?_)
  obtain ⟨m, hn⟩ := ce.ns
  refine ⟨m, hn.at' fun o e => kp₂ C o fL (fCl y) e, fun h₃ sb => ?_⟩
  have cl' : C ∉ φ'.l ++ [D] := fun q => (List.mem_append.mp q).elim ce.cl fun q => ce.dc (List.mem_singleton.mp q).symm
  have kp₃ : ∀ b o, b ≠ C → s₂.heap.get? b = some o → h₃.get? b = some o := fun b o n e => (sb.2 b n).trans e
  refine ⟨.next, _, _, ⟨φ'.l ++ [D], φ'.z⟩, ce.q, ok₂.same cl' ce.cz (fresh0 ok ce.fc) kp₃, vs₂.same fL fCl ce.cz kp₃, trivial, ?_, ((ce.r.trans r₂).trans ⟨h₃, s₂.toks, rfl⟩)⟩
  have g₂ := g₁.toS.trans gs₂
  exact ⟨g₂.ext, fun b o e n1 n2 n3 => kp₃ b o (fun q => by rw [q, ce.fc] at e; cases e) (g₂.keep b o e n1 n2 n3), fun b o e => by
    obtain ⟨o', e'⟩ := g₂.live b o e
    exact ⟨o', kp₃ b o' (fun q => by rw [q, ce.fc] at e; cases e) e'⟩⟩
end
end Mine

namespace Mine
section
variable {c : Cx} {d : Nat} {sc : Scope} {ρ : List Str}
/-! ### identity (the small part of it that 09 needs) -/
noncomputable def isV (c : Cx) (v w : V) : Option Bool := match w with
  | .none => some (isN v)
  | .glob b => (match v with | .obj _ _ => some false | .glob a => if a = b then some true else none | _ => none)
  | _ => none
theorem isSame_ok {A : Around} {E : Value → Shared → Prop} {s : Shared} {φ H v w x y b} {R : Bool → Shared → Prop} (G : Good c) (ok : Ok c φ H s.heap) (rv : RepV c φ s.heap v x) (rw' : RepV c φ s.heap w y) (e : isV c v w = some b) (h : R b s) : wpAny (model c.prog c.w) A (isSame x y) R E s := by
  unfold isV at e
  split at e
  · cases rw'
    cases e
    exact wpAny_isSame_plain (by cases rv <;> rfl) (by rw [isN_of rv]; exact h)
  · cases rw' with
    | glob e2 =>
      split at e
      · cases rv with
        | obj n z m y n0 o1 es o2 r =>
          cases e
          exact wpAny_isSame_ref_other (fun q => by rw [q, e2] at n0; cases n0) o1 (ok.base _ _ e2) (by intro q; cases q) h
      · cases rv with
        | glob e1 =>
          split at e
          · rename_i q; subst q; cases e; exact wpAny_isSame_ref_self h
          · cases e
      · cases e
  · cases e
noncomputable def wIs (c : Cx) (f : Bool → Bool) : WB := fun v w H Q => match isV c v w with | some b => Q (.bool (f b)) H | none => False
theorem is_ok (G : Good c) : CmpOK c d .Is (wIs c id) := by
  intro A E s φ H v w x y Q ao ok rv rw' q
  unfold wIs at q
  split at q
  · rename_i b e
    show wpAny _ A (do return Value.bool (← isSame x y) : Sem Value) _ E s
    exact wpAny_bind (isSame_ok G ok rv rw' e (wpAny_pure (.here q ok .bool (fun _ _ e => e) (Rest.refl s))))
  · exact q.elim
theorem isnot_ok (G : Good c) : CmpOK c d .IsNot (wIs c not) := by
  intro A E s φ H v w x y Q ao ok rv rw' q
  unfold wIs at q
  split at q
  · rename_i b e
    show wpAny _ A (do return Value.bool (!(← isSame x y)) : Sem Value) _ E s
    exact wpAny_bind (isSame_ok G ok rv rw' e (wpAny_pure (.here q ok .bool (fun _ _ e => e) (Rest.refl s))))
  · exact q.elim
end
end Mine

namespace Mine
section
variable {c : Cx} {d : Nat} {sc : Scope} {ρ : List Str}
/-! ### the conditional expression -/
/-! ### a global object -/
theorem ev_glob {x np a o} (G : Good c) (hk : sc.kind = .function) (hx : sc.names.lookup x = some .globalImplicit) (hv : nsIn c.K mainGlobals x = some (some (.ref a))) (ho : c.K.lookup a = some o) (hd : (x == ("__debug__" : Str)) = false) : Ev c d sc ρ (.Name x np) (wK (.glob a)) := by
  intro env A E s φ sl H Q eo ao ok vs q
  exact name_glob G eo ok hk hx (mgIn G hv) hd (.here q ok (.glob (G.X _ _ ho)) (fun _ _ e => e) (Rest.refl s))
/-! ### isobject -/
/-! ### texts -/
/-! ### range with a step of two -/
theorem small_two {a b : Int} (h1 : -1000000 < a ∧ a < 1000000) (h2 : -1000000 < b ∧ b < 1000000) : Builtin.Range.small a b 2 = true := by
  unfold Builtin.Range.small Builtin.Range.rangeSize
  simp only [Builtin.Range.rangeFitsLong, Bool.and_eq_true, Bool.or_eq_true, decide_eq_true_eq, beq_iff_eq, show (2 : Int) > 0 by decide, if_true]
  split <;> omega
noncomputable def iRange3 (x y z : WE) : WI := fun sl H Q => x sl H fun v H₁ => y sl H₁ fun w H₂ => z sl H₂ fun u H₃ => match v, w, u with
  | .int a, .int b, .int 2 => (-1000000 < a ∧ a < 1000000) ∧ (-1000000 < b ∧ b < 1000000) ∧ Q (.walk (rangeL a b 2)) H₃ | _, _, _ => False
theorem ei_range3 {x np pos e₁ e₂ e₃ a₁ a₂ a₃} (G : Good c) (hk : sc.kind = .function) (hx : sc.names.lookup x = some .globalImplicit) (hg : c.mg x = none) (hv : c.mb x = some (.type "range")) (hd : (x == ("__debug__" : Str)) = false)
    (h₁ : Ev c d sc ρ e₁ a₁) (h₂ : Ev c d sc ρ e₂ a₂) (h₃ : Ev c d sc ρ e₃ a₃) (hs : ∀ env, starEach [e₁, e₂, e₃] env = [(false, eval e₁ env), (false, eval e₂ env), (false, eval e₃ env)]) : Ei c d sc ρ (.Call (.Name x np) [e₁, e₂, e₃] [] pos) (iRange3 a₁ a₂ a₃) := by
  intro env A E s φ sl H Q eo ao ok vs w
  refine Call_Name rfl (name_built G eo ok hk hx hg hv hd ?_)
  rw [hs env]
  refine PyProof.Rows.callWith_type rfl (Calls.evalArgs_plain (Calls.spliced_cons ?_))
  refine wpAny_mono (h₁ env A E s φ sl H _ eo ao ok vs w) (fun y s₁ p₁ => ?_) fun _ _ e => e
  obtain ⟨v, H₁, φ₁, w₁, ok₁, rv, g₁, r₁⟩ := p₁
  refine Calls.spliced_cons ?_
  refine wpAny_mono (h₂ env A E s₁ φ₁ sl H₁ _ eo ao ok₁ (vs.grow g₁) w₁) (fun y₂ s₂ p₂ => ?_) fun _ _ e => e
  obtain ⟨v₂, H₂, φ₂, w₂, ok₂, rv₂, g₂, r₂⟩ := p₂
  refine Calls.spliced_cons ?_
  refine wpAny_mono (h₃ env A E s₂ φ₂ sl H₂ _ eo ao ok₂ ((vs.grow g₁).grow g₂) w₂) (fun y₃ s₃ p₃ => ?_) fun _ _ e => e
  obtain ⟨v₃, H₃, φ₃, w₃, ok₃, rv₃, g₃, r₃⟩ := p₃
  refine Calls.spliced_nil ?_
  split at w₃
  · rename_i i j
    cases rv with
    | @int _ t₁ =>
      cases rv₂ with
      | @int _ t₂ =>
        cases rv₃ with
        | @int _ t₃ =>
          refine call_range_3 (by decide) ?_ (Or.inl (PyProof.noPylong_small (by decide)))
          have kp : ∀ b o, s₃.heap.get? b = some o → (s₃.heap.push { cls := .type "range", data := .fields #[.int i t₁, .int j t₂, .int 2 t₃] }).get? b = some o := fun b o e => Heap.get?_push_of_some _ e
          refine wpAny_pyIter_range (s := { s₃ with heap := s₃.heap.push { cls := .type "range", data := .fields #[.int i t₁, .int j t₂, .int 2 t₃] } }) (IsRange.new ..) (small_two w₃.1 w₃.2.1) ?_
          have ok₄ := ok₃.keep kp
          have kp' : ∀ b o, (s₃.heap.push { cls := .type "range", data := .fields #[.int i t₁, .int j t₂, .int 2 t₃] }).get? b = some o → ((s₃.heap.push { cls := .type "range", data := .fields #[.int i t₁, .int j t₂, .int 2 t₃] }).push { cls := .type "range_iterator", data := .fields #[rawInt i, rawInt (Builtin.Range.rangeSize i j 2), rawInt 2] }).get? b = some o := fun b o e => Heap.get?_push_of_some _ e
          have g := ((g₁.trans g₂).trans g₃)
          exact ⟨_, _, H₃, φ₃, rfl, w₃.2.2, trivial, range_walk ao.handled (Heap.get?_push_size _ rfl) (rangeSize_nonneg ..) φ₃, (g.trans (.of_keep kp)).none (new_none _), (new_unz ok₄).1, (new_unz ok₄).2, ok₄.keep kp', (g.trans (.of_keep kp)).trans (.of_keep kp'), (((r₁.trans r₂).trans r₃).trans (Rest.mk s₃ _ _)).trans (Rest.mk _ _ _)⟩
  · exact w₃.elim
end
end Mine

namespace Mine
section
variable {c : Cx} {d : Nat} {sc : Scope} {ρ : List Str}
/-! ### comparisons of several kinds -/
/-! ### times -/
noncomputable def wMul : WB := fun v w H Q => match v, w with | .int i, .int j => IntMulOk i j ∧ Q (.int (i * j)) H | _, _ => False
theorem mul_ok : BinOK c d .Mult wMul := by
  intro A E s φ H v w x y Q ao ok rv rw' q
  unfold wMul at q
  split at q
  · cases rv; cases rw'
    exact PyProof.Rows.mul_int (.here q.2 ok .int (fun _ _ e => e) (Rest.mk s s.heap _)) q.1
  · exact q.elim
/-! ### a value as a test -/
/-! ### over a list or a text -/
theorem Ei.mono {e W W'} (h : Ei c d sc ρ e W) (k : ∀ sl H Q, W' sl H Q → W sl H Q) : Ei c d sc ρ e W' := fun env A E s φ sl H Q eo ao ok vs w => h env A E s φ sl H Q eo ao ok vs (k _ _ _ w)
end
section
variable {sl : Sl} {H : HW} {c : Cx} {ns : List Int}
theorem e_wComp {it is t e Q} : wComp ns it is t e sl H Q = it sl H (fun k H₁ => k.items.length ≤ 100000 ∧ wCompGo ns k t e (fvOf sl is) k.items [] H₁ fun ys H₂ => Q (.loc H₂.length) (H₂ ++ [.list ys])) := propext Iff.rfl
theorem e_comp0 {k t e fv ys Q} : wCompGo ns k t e fv [] ys H Q = Q ys H := propext Iff.rfl
theorem e_compS {k t e fv v r ys Q} : wCompGo ns k t e fv (v :: r) ys H Q = t (some v :: fv) H (fun b H₁ => if b then e (some v :: fv) H₁ fun y H₂ => k.inv ns H₂ ∧ wCompGo ns k t e fv r (ys ++ [y]) H₂ Q else k.inv ns H₁ ∧ wCompGo ns k t e fv r ys H₁ Q) := propext Iff.rfl
theorem e_iRange3 {x y z Q} : iRange3 x y z sl H Q = x sl H (fun v H₁ => y sl H₁ fun w H₂ => z sl H₂ fun u H₃ => match v, w, u with
  | .int a, .int b, .int 2 => (-1000000 < a ∧ a < 1000000) ∧ (-1000000 < b ∧ b < 1000000) ∧ Q (.walk (rangeL a b 2)) H₃ | _, _, _ => False) := propext Iff.rfl
theorem e_mul {i j Q} : wMul (.int i) (.int j) H Q = (IntMulOk i j ∧ Q (.int (i * j)) H) := propext Iff.rfl
/-- a comprehension whose parts leave the heap alone -/
theorem comp_pure {k t e fv} {p : V → Bool} {f : V → V} {Q : List V → HW → Prop} (hi : k.inv ns H) : ∀ (xs ys : List V), (∀ v ∈ xs, ∀ R : Bool → HW → Prop, R (p v) H → t (some v :: fv) H R) → (∀ v ∈ xs, p v = true → ∀ R : V → HW → Prop, R (f v) H → e (some v :: fv) H R) →
    Q (ys ++ (xs.filter p).map f) H → wCompGo ns k t e fv xs ys H Q
  | [], ys, _, _, q => by rw [e_comp0]; simpa using q
  | x :: xs, ys, ht, he, q => by
    rw [e_compS]
    refine ht x List.mem_cons_self _ ?_
    cases hp : p x with
    | true =>
      rw [if_pos rfl]
      refine he x List.mem_cons_self hp _ ⟨hi, comp_pure hi xs _ (fun v m => ht v (List.mem_cons_of_mem _ m)) (fun v m => he v (List.mem_cons_of_mem _ m)) ?_⟩
      simpa [List.filter_cons, hp] using q
    | false =>
      rw [if_neg (by decide)]
      refine ⟨hi, comp_pure hi xs _ (fun v m => ht v (List.mem_cons_of_mem _ m)) (fun v m => he v (List.mem_cons_of_mem _ m)) ?_⟩
      simpa [List.filter_cons, hp] using q
theorem comp_map {k e fv} {f : V → V} {Q : List V → HW → Prop} (hi : k.inv ns H) (xs : List V) (he : ∀ v ∈ xs, ∀ R : V → HW → Prop, R (f v) H → e (some v :: fv) H R)
    (q : Q (xs.map f) H) : wCompGo ns k tTrue e fv xs [] H Q :=
  comp_pure (p := fun _ => true) hi xs [] (fun v _ R r => r) (fun v m _ => he v m) (by rw [List.nil_append, List.filter_eq_self.mpr (fun _ _ => rfl)]; exact q)
end
end Mine

namespace Mine
section
variable {c : Cx} {d : Nat} {sc : Scope} {ρ : List Str}
/-! ### lists of plain data, compared -/
mutual
inductive DV (ns : List Int) (H : HW) : V → PyData → Prop
  | none : DV ns H .none .none
  | bool {b} : DV ns H (.bool b) (.bool b)
  | int {i} : DV ns H (.int i) (.int i)
  | str {s} : DV ns H (.str s) (.str s)
  | list {v xs ds} : asL ns H v = some xs → DVs ns H xs ds → DV ns H v (.list ds)
  | tup {vs ds} : DVs ns H vs ds → DV ns H (.tup vs) (.tuple ds)
inductive DVs (ns : List Int) (H : HW) : List V → List PyData → Prop
  | nil : DVs ns H [] []
  | cons {v d vs ds} : DV ns H v d → DVs ns H vs ds → DVs ns H (v :: vs) (d :: ds)
end
mutual
theorem DV.reads (G : Good c) {φ H h} (ok : Ok c φ H h) : ∀ {v dd x}, DV c.ns H v dd → RepV c φ h v x → ∃ as, Reads h x dd as
  | _, _, _, .none, r => by cases r; exact ⟨_, .none⟩
  | _, _, _, .bool, r => by cases r; exact ⟨_, .bool _⟩
  | _, _, _, .int, r => by cases r; exact ⟨_, .int _ _⟩
  | _, _, _, .str, r => by cases r; exact ⟨_, .str _ _⟩
  | _, _, _, .list e ds, r => by
    obtain ⟨a, ys, rfl, ⟨o, ho, hc, n, hd⟩, rr⟩ := asL_of G ok r e
    obtain ⟨as, h1⟩ := DVs.reads G ok ds rr
    exact ⟨_, .list ho hc hd h1⟩
  | _, _, _, .tup ds, r => by
    cases r with
    | tup n z n0 e rr =>
      obtain ⟨as, h1⟩ := DVs.reads G ok ds rr
      exact ⟨_, .tuple e rfl rfl h1⟩
theorem DVs.reads (G : Good c) {φ H h} (ok : Ok c φ H h) : ∀ {vs ds xs}, DVs c.ns H vs ds → RepVs c φ h vs xs → ∃ as, ReadsAll h xs ds as
  | _, _, _, .nil, r => by cases r; exact ⟨_, .nil⟩
  | _, _, _, .cons x xs, r => by
    cases r with
    | cons r rs =>
      obtain ⟨as, h1⟩ := DV.reads G ok x r
      obtain ⟨bs, h2⟩ := DVs.reads G ok xs rs
      exact ⟨_, .cons h1 h2⟩
end
noncomputable def wEqD (ns : List Int) (f : Bool → Bool) : WB := fun v w H Q => ∃ da db, DV ns H v da ∧ DV ns H w db ∧ (SeqAt.shaped da = true ∧ SeqAt.shaped db = true) ∧ Q (.bool (f (PyData.eqv da db))) H
theorem eqD_ok (G : Good c) : CmpOK c d .Eq (wEqD c.ns id) := by
  rintro A E s φ H v w x y Q ao ok rv rw' ⟨da, db, d1, d2, ⟨s1, s2⟩, q⟩
  obtain ⟨as, r1⟩ := d1.reads G ok rv
  obtain ⟨bs, r2⟩ := d2.reads G ok rw'
  exact eq_dataH r1 r2 s1 s2 (by have := ao.units; rw [cLine_is]; (first | lia | omega)) (.here q ok .bool (fun _ _ e => e) (Rest.refl s))
theorem neD_ok (G : Good c) : CmpOK c d .NotEq (wEqD c.ns not) := by
  rintro A E s φ H v w x y Q ao ok rv rw' ⟨da, db, d1, d2, ⟨s1, s2⟩, q⟩
  obtain ⟨as, r1⟩ := d1.reads G ok rv
  obtain ⟨bs, r2⟩ := d2.reads G ok rw'
  exact ne_dataH r1 r2 s1 s2 (by have := ao.units; rw [cLine_is]; (first | lia | omega)) (.here q ok .bool (fun _ _ e => e) (Rest.refl s))
mutual
theorem eqv_self : ∀ {x : PyData}, x.canLay0 = true → PyData.eqv x x = true
  | .none, _ => rfl
  | .bool _, _ => by simp [PyData.eqv]
  | .int _, _ => by simp [PyData.eqv]
  | .str _, _ => by simp [PyData.eqv]
  | .list xs, h => by rw [PyData.eqv]; exact eqvAll_self (by simpa [PyData.canLay0] using h)
  | .tuple xs, h => by rw [PyData.eqv]; exact eqvAll_self (by simpa [PyData.canLay0] using h)
  | .dict _, h => by simp [PyData.canLay0] at h
theorem eqvAll_self : ∀ {xs : List PyData}, PyData.canLayAll0 xs = true → PyData.eqvAll xs xs = true
  | [], _ => rfl
  | x :: xs, h => by
    rw [PyData.canLayAll0, Bool.and_eq_true] at h
    rw [PyData.eqvAll, Bool.and_eq_true]
    exact ⟨eqv_self h.1, eqvAll_self h.2⟩
end
theorem dvs_ints {ns H} : ∀ is : List Int, DVs ns H (is.map .int) (is.map .int)
  | [] => .nil
  | _ :: is => .cons .int (dvs_ints is)
end
end Mine

namespace Mine
section
variable {c : Cx} {d : Nat} {sc : Scope} {ρ : List Str}
/-! ### «in» among numbers -/
/-! ### ^ and ** -/
end
section
variable {sl : Sl} {H : HW} {c : Cx} {ns : List Int}
theorem e_is {f v w Q} : wIs c f v w H Q = (match isV c v w with | some b => Q (.bool (f b)) H | none => False) := propext Iff.rfl
end
end Mine

namespace Mine
section
variable {c : Cx} {d : Nat} {sc : Scope} {ρ : List Str}
/-! ### a comprehension whose own variable is a cell -/
end
end Mine

namespace Mine
section
variable {c : Cx} {d : Nat} {sc : Scope} {ρ : List Str}
theorem ex_setX {i x xp e pos a} (he : Ev c d sc ρ e a) (hi : ρ[i]? = some x) (hx : sc.names.lookup x = some .local ∨ sc.names.lookup x = some .cell) (hk : sc.kind = .function)
    (hs : ∀ env, env.scope = sc → swapsWith e (some (.Name x xp)) pos.line env = pure false) : Ex c d sc ρ (.Assign [.Name x xp] e pos) (wSet i a) := by
  intro env A E s φ sl H Q eo ao ok vs w
  refine wpAny_Assign_Name (wpAny_mono (he env A E s φ sl H _ eo ao ok vs w) (fun y s₁ p₁ => ?_) fun _ _ e => e) (hs env eo.scope)
  obtain ⟨v, H₁, φ₁, w₁, ok₁, rv, g₁, r₁⟩ := p₁
  exact store_ok hi hx hk eo ok₁ (vs.grow g₁) rv fun s₂ ok₂ vs₂ g₂ r₂ => ⟨.next, _, H₁, φ₁, w₁, ok₂, vs₂, trivial, g₁.toS.trans g₂, r₁.trans r₂⟩
end
/-! ElementInfo: an object is .obj k [tagName] -/
noncomputable def mkEI (k : Nat) : WF := fun args H Q => match args with | [a] => Q (.obj k [a]) H | _ => False
theorem e_mkEI {k a H Q} : mkEI k [a] H Q = Q (.obj k [a]) H := propext Iff.rfl
end Mine

namespace Mine
/-! ### the abstract heap has grown -/
noncomputable def Ext (H H' : HW) : Prop := ∃ L, H' = H ++ L
theorem Ext.refl (H : HW) : Ext H H := ⟨[], by simp⟩
theorem Ext.app {H L : HW} : Ext H (H ++ L) := ⟨L, rfl⟩
theorem Ext.trans {a b d : HW} (x : Ext a b) (y : Ext b d) : Ext a d := by
  obtain ⟨L, rfl⟩ := x
  obtain ⟨M, rfl⟩ := y
  exact ⟨L ++ M, by simp⟩
theorem Ext.at {H H' : HW} (x : Ext H H') {k : Nat} {o} (h : H[k]? = some o) : H'[k]? = some o := by
  obtain ⟨L, rfl⟩ := x
  rw [List.getElem?_append_left (List.getElem?_eq_some_iff.mp h).1]; exact h
theorem Ext.lst {H H' : HW} (x : Ext H H') {k xs} (h : lstAt H k = some xs) : lstAt H' k = some xs := by
  obtain ⟨L, rfl⟩ := x
  exact lstAt_ext h
theorem lstAt_new {H : HW} {xs} : lstAt (H ++ [.list xs]) H.length = some xs := by unfold lstAt; simp
section
variable {ns : List Int} {k : ItK}
theorem for_inv {ta : WA} {b : WS} {Q : Fl → Sl → HW → Prop} (I : Nat → Sl → HW → Prop) (hi : ∀ n sl H, I n sl H → k.inv ns H) {all : List V}
    (step : ∀ (n : Nat) v sl H, all[n]? = some v → I n sl H → ∀ R : Fl → Sl → HW → Prop, (∀ sl' H', I (n + 1) sl' H' → R .next sl' H') → ta v sl H fun sl₁ H₁ => b sl₁ H₁ R)
    (fin : ∀ sl H, I all.length sl H → Q .next sl H) {sl H} (h0 : I 0 sl H) : wForGo ns k ta b all sl H Q := by
  have go : ∀ (m n : Nat), n + m = all.length → ∀ sl H, I n sl H → wForGo ns k ta b (all.drop n) sl H Q := by
    intro m
    induction m with
    | zero =>
      intro n hn sl H i
      rw [List.drop_eq_nil_of_le (by (first | lia | omega)), e_for0]
      exact fin _ _ (by rw [← hn]; exact i)
    | succ m ih =>
      intro n hn sl H i
      have hlt : n < all.length := by (first | lia | omega)
      rw [List.drop_eq_getElem_cons hlt, e_for1]
      exact step n all[n] sl H (List.getElem?_eq_getElem hlt) i _ fun sl' H' i' => ⟨hi _ _ _ i', ih (n + 1) (by (first | lia | omega)) _ _ i'⟩
  simpa using go all.length 0 (by simp) sl H h0
end
theorem rangeL_nat (n : Nat) : rangeL 0 (n : Int) 1 = (List.range n).map fun i => V.int (i : Nat) := by
  unfold rangeL
  have : (Builtin.Range.rangeSize 0 (n : Int) 1).toNat = n := by
    unfold Builtin.Range.rangeSize
    simp only [show ((1 : Int) > 0) = True by simp, if_true]
    split <;> (first | lia | omega)
  rw [this]
  apply List.map_congr_left
  intro i _
  congr 1; (first | lia | omega)
theorem getI_nat {xs : List V} {k : Nat} : getI xs (k : Int) = xs[k]? := by
  unfold getI; rw [if_pos (by (first | lia | omega))]; simp
theorem asL_scr {ns : List Int} {H : HW} : asL ns H .script = some (ns.map .int) := rfl
noncomputable abbrev natV (n : Nat) : V := .int (n : Int)
section
variable {ns : List Int} {sl : Sl} {H : HW}
theorem comp_range {a : WE} {m : Nat} {t : WT} {e : WE} {is : List Nat} {Q : V → HW → Prop} (ha : ∀ R : V → HW → Prop, R (natV m) H → a sl H R) (hm : m ≤ 1000)
    (h : wCompGo ns (.walk ((List.range m).map natV)) t e (fvOf sl is) ((List.range m).map natV) [] H fun ys H₂ => Q (.loc H₂.length) (H₂ ++ [.list ys])) : wComp ns (iRange1 a) is t e sl H Q := by
  rw [e_wComp, e_iRange1]
  refine ha _ ⟨⟨by (first | lia | omega), by (first | lia | omega)⟩, ?_⟩
  show (rangeL 0 (m : Int) 1).length ≤ 100000 ∧ wCompGo ns (.walk (rangeL 0 (m : Int) 1)) t e _ (rangeL 0 (m : Int) 1) [] H _
  rw [rangeL_nat]
  exact ⟨by simp; (first | lia | omega), h⟩
theorem comp_lst {a : WE} {k : Nat} {xs : List V} {t : WT} {e : WE} {is : List Nat} {Q : V → HW → Prop} (ha : ∀ R : V → HW → Prop, R (.loc k) H → a sl H R) (hk : lstAt H k = some xs) (hm : xs.length ≤ 1000)
    (h : wCompGo ns (.list (.loc k) xs) t e (fvOf sl is) xs [] H fun ys H₂ => Q (.loc H₂.length) (H₂ ++ [.list ys])) : wComp ns (iList ns a) is t e sl H Q := by
  rw [e_wComp, e_iList]
  refine ha _ ?_
  rw [asL_loc, hk]
  exact ⟨by show xs.length ≤ 100000; (first | lia | omega), h⟩
theorem comp_lst_map {a : WE} {k : Nat} {xs : List V} {e : WE} {is : List Nat} {f : V → V} {Q : V → HW → Prop} (ha : ∀ R : V → HW → Prop, R (.loc k) H → a sl H R) (hk : lstAt H k = some xs) (hm : xs.length ≤ 1000)
    (he : ∀ v ∈ xs, ∀ R : V → HW → Prop, R (f v) H → e (some v :: fvOf sl is) H R) (q : ∀ k' H', Ext H H' → lstAt H' k' = some (xs.map f) → k' = H.length → Q (.loc k') H') : wComp ns (iList ns a) is tTrue e sl H Q :=
  comp_lst ha hk hm (comp_map (by exact hk) _ he (q _ _ .app lstAt_new rfl))
theorem comp_range_map {a : WE} {m : Nat} {e : WE} {is : List Nat} {f : Nat → V} {Q : V → HW → Prop} (ha : ∀ R : V → HW → Prop, R (natV m) H → a sl H R) (hm : m ≤ 1000)
    (he : ∀ v, v < m → ∀ R : V → HW → Prop, R (f v) H → e (some (natV v) :: fvOf sl is) H R) (q : ∀ k' H', Ext H H' → lstAt H' k' = some ((List.range m).map f) → k' = H.length → Q (.loc k') H') : wComp ns (iRange1 a) is tTrue e sl H Q := by
  refine comp_range ha hm (comp_map (f := fun v => match v with | .int j => f j.toNat | v => v) (by exact trivial) _ (fun v mv R r => ?_) ?_)
  · obtain ⟨j, hj, rfl⟩ := List.mem_map.mp mv
    exact he j (List.mem_range.mp hj) R r
  · rw [List.map_map]
    exact q _ _ .app lstAt_new rfl
theorem comp_lst_filter {a : WE} {k : Nat} {xs : List V} {t : WT} {is : List Nat} {p : V → Bool} {Q : V → HW → Prop} (ha : ∀ R : V → HW → Prop, R (.loc k) H → a sl H R) (hk : lstAt H k = some xs) (hm : xs.length ≤ 1000)
    (ht : ∀ v ∈ xs, ∀ R : Bool → HW → Prop, R (p v) H → t (some v :: fvOf sl is) H R) (q : ∀ k' H', Ext H H' → lstAt H' k' = some (xs.filter p) → k' = H.length → Q (.loc k') H') : wComp ns (iList ns a) is t (wVar 0) sl H Q :=
  comp_lst ha hk hm (comp_pure (p := p) (f := fun v => v) (by exact hk) _ _ ht (fun v _ _ R r => r) (by rw [List.nil_append, List.map_id']; exact q _ _ .app lstAt_new rfl))
end
theorem addL_k {ns : List Int} {H : HW} {k j xs ys} {Q : V → HW → Prop} (h1 : lstAt H k = some xs) (h2 : lstAt H j = some ys) (hl : xs.length + ys.length ≤ 1000000) (q : ∀ m H', Ext H H' → lstAt H' m = some (xs ++ ys) → m = H.length → Q (.loc m) H') : wAdd ns (.loc k) (.loc j) H Q := by
  rw [e_addL h1 h2]
  exact ⟨hl, q _ _ .app lstAt_new rfl⟩
theorem e_slot {c : Cx} {sl H k i a Q} : wSlot c k i a sl H Q = a sl H (fun v H₁ => clsV c H₁ v = some k ∧ match slotV c H₁ i v with | some u => Q u H₁ | none => False) := propext Iff.rfl
end Mine

namespace Mine
/-! ### dicts with whole numbers as keys -/
noncomputable def dGet (kvs : List (Int × V)) (k : Int) : Option V := (kvs.find? fun kv => decide (kv.1 = k)).map (·.2)
noncomputable def dHas (kvs : List (Int × V)) (k : Int) : Bool := kvs.any fun kv => decide (kv.1 = k)
noncomputable def asD (H : HW) : V → Option (List (Int × V))
  | .loc k => match H[k]? with | some (.dict kvs) => some kvs | _ => none
  | _ => none
section
variable {c : Cx} {d : Nat} {sc : Scope} {ρ : List Str}
theorem kv_get {φ h} {k : Int} : ∀ {kvs : List (Int × V)} {xs : List (Int × Value)}, xs.map (·.1) = kvs.map (·.1) → RepVs c φ h (kvs.map (·.2)) (xs.map (·.2)) →
    (∀ u, dGet kvs k = some u → ∃ y, valueAt xs k = some y ∧ RepV c φ h u y) ∧ (valueAt xs k).isSome = dHas kvs k
  | [], [], _, _ => by simp [dGet, valueAt, dHas]
  | [], _ :: _, e, _ => by simp at e
  | _ :: _, [], e, _ => by simp at e
  | (a, v) :: kvs, (b, x) :: xs, e, r => by
    simp only [List.map_cons, List.cons.injEq] at e
    obtain ⟨rfl, e⟩ := e
    cases r with
    | cons r rs =>
      have ih := kv_get (k := k) e rs
      by_cases q : b = k
      · subst q
        simp [dGet, valueAt, dHas]
        exact r
      · simp only [dGet, valueAt, dHas, List.find?_cons, List.any_cons, decide_eq_false q, Bool.false_or] at ih ⊢
        exact ih
theorem asD_of {φ H h v x kvs} (ok : Ok c φ H h) (r : RepV c φ h v x) (e : asD H v = some kvs) : ∃ (j : Nat) (a : Addr) (xs : List (Int × Value)), v = .loc j ∧ x = .ref a ∧ φ.l[j]? = some a ∧ H[j]? = some (.dict kvs) ∧ (a == sysModules) = false ∧ h.DictOf (intKind c.prog c.w) a xs ∧ xs.map (·.1) = kvs.map (·.1) ∧ RepVs c φ h (kvs.map (·.2)) (xs.map (·.2)) := by
  cases r <;> simp only [asD] at e <;> try (cases e; done)
  rename_i j a hj
  split at e
  · rename_i kvs' e'
    cases e
    obtain ⟨o, h1, h2⟩ := ok.objs j a _ hj e'
    cases h2 with
    | dict dd k r =>
      refine ⟨j, a, _, rfl, rfl, hj, e', ?_, Heap.dictOf_iff.mpr ⟨o, h1, dd⟩, k, r⟩
      have := ok.sm a (List.mem_of_getElem? hj)
      simpa using this
  · cases e
/-- an item of a dict or of a list -/
noncomputable def wIdxX (ns : List Int) (a b : WE) : WE := fun sl H Q => a sl H fun v H₁ => b sl H₁ fun w H₂ => match asD H₂ v with
  | some kvs => (match w with | .int k => (match dGet kvs k with | some u => Q u H₂ | none => False) | _ => False)
  | none => match asL ns H₂ v, w with
    | some xs, .int k => xs.length ≤ 1000000 ∧ (match getI xs k with | some u => Q u H₂ | none => False)
    | _, _ => False
theorem ev_idxX {o i pos a b} (G : Good c) (ho : Ev c d sc ρ o a) (hi : Ev c d sc ρ i b) (hs : ∀ x y, subscripted i false x y = operate [x, y] (getItem x y)) : Ev c d sc ρ (.Subscript o i pos) (wIdxX c.ns a b) := by
  intro env A E s φ sl H Q eo ao ok vs w
  refine Subscript_ (wpAny_mono (ho env A E s φ sl H _ eo ao ok vs w) (fun x s₁ p₁ => ?_) fun _ _ e => e)
  obtain ⟨v, H₁, φ₁, w₁, ok₁, rv, g₁, r₁⟩ := p₁
  refine wpAny_mono (hi env A E s₁ φ₁ sl H₁ _ eo ao ok₁ (vs.grow g₁) w₁) (fun y s₂ p₂ => ?_) fun _ _ e => e
  obtain ⟨u, H₂, φ₂, w₂, ok₂, ru, g₂, r₂⟩ := p₂
  have rv₂ := rv.grow g₂
  split at w₂
  · rename_i kvs ek
    split at w₂
    · rename_i k
      split at w₂
      · rename_i z ez
        cases ru
        obtain ⟨j, al, xs, rfl, rfl, hj, hH, hm, hd, hk, hr⟩ := asD_of ok₂ rv₂ ek
        obtain ⟨y', h1, h2⟩ := (kv_get hk hr).1 z ez
        refine tail_any hd.typeIs slot_dict_getitem.lookup (wpAny_getItem_of (intKind_is _ _ _ _) hd.mapOf h1 ?_) (hs _ _)
        exact (PostE.here (s' := { s₂ with toks := s₂.toks + 1 }) w₂ ok₂ h2 (fun _ _ e => e) (Rest.mk s₂ s₂.heap _)).shift (g₁.trans g₂) (r₁.trans r₂)
      · exact w₂.elim
    · exact w₂.elim
  · split at w₂
    · rename_i xs k ex
      obtain ⟨hl, w₂⟩ := w₂
      split at w₂
      · rename_i z ez
        cases ru
        obtain ⟨a', ys, rfl, il, rr⟩ := asL_of G ok₂ rv₂ ex
        refine tail_any il.typeIs slot_list_getitem.lookup (item_ok G ok₂ rv₂ ex hl ez fun y' ry => ?_) (hs _ _)
        exact (PostE.here w₂ ok₂ ry (fun _ _ e => e) (Rest.refl s₂)).shift (g₁.trans g₂) (r₁.trans r₂)
      · exact w₂.elim
    · exact w₂.elim
end
end Mine

namespace Mine
section
variable {c : Cx} {d : Nat} {sc : Scope} {ρ : List Str}
/-! ### a tuple's or a list's places to names -/
/-! ### sorted of a dict's keys -/
end
end Mine

namespace Mine
/-! TypeInfo: an object is .obj 0 [name, namespace] -/
noncomputable def mkTI : WF := fun args H Q => match args with | [a, b] => Q (.obj 0 [b, a]) H | _ => False
theorem e_mkTI {a b H Q} : mkTI [a, b] H Q = Q (.obj 0 [b, a]) H := propext Iff.rfl
end Mine

namespace Mine
/-! ### a getter of a slot -/
noncomputable def slotIs (c : Cx) (H : HW) (i : Nat) (v : V) (Q : V → HW → Prop) : Prop := match slotV c H i v with | some u => Q u H | none => False
theorem slotIs_def {c H i v Q} : slotIs c H i v Q = (match slotV c H i v with | some u => Q u H | none => False) := rfl
noncomputable def gSlot (c : Cx) (k i : Nat) : WF := fun args H Q => match args with | [v] => clsV c H v = some k ∧ slotIs c H i v Q | _ => False
theorem gSlot_of {c k i args H Q} (h : gSlot c k i args H Q) : ∃ v, args = [v] ∧ clsV c H v = some k ∧ slotIs c H i v Q := by
  unfold gSlot at h
  split at h
  · exact ⟨_, rfl, h⟩
  · exact h.elim
theorem e_gSlotO {c k i fs u H Q} (h : fs[i]? = some u) : gSlot c k i [.obj k fs] H Q = Q u H := by
  refine propext ⟨fun x => ?_, fun x => ⟨rfl, ?_⟩⟩
  · have := x.2
    unfold slotIs at this
    simpa [slotV, h] using this
  · unfold slotIs
    simpa [slotV, h] using x
theorem e_gSlotO0 {c k a b H Q} : gSlot c k 0 [.obj k [a, b]] H Q = Q a H := e_gSlotO rfl
theorem e_gSlotO1 {c k a b H Q} : gSlot c k 1 [.obj k [a, b]] H Q = Q b H := e_gSlotO rfl
theorem e_gSlotG {c k i a n H Q} (h : c.gC a = some (k, n)) (hi : i < n) : gSlot c k i [.glob a] H Q = Q .none H := by
  refine propext ⟨fun x => ?_, fun x => ⟨?_, ?_⟩⟩
  · have := x.2
    unfold slotIs at this
    simpa [slotV, h, hi] using this
  · simp [clsV, h]
  · unfold slotIs
    simpa [slotV, h, hi] using x
/-- a method that gives back a global object, whatever its arguments -/
noncomputable def kGlob (n : Nat) (a : Addr) : WF := fun args H Q => args.length = n ∧ Q (.glob a) H
/-! ### what is kept from a place on -/
structure KeepB (B : Nat) (H H' : HW) : Prop where
  len : H.length ≤ H'.length
  at_ : ∀ (k : Nat) o, B ≤ k → H[k]? = some o → H'[k]? = some o
theorem KeepB.refl (B H) : KeepB B H H := ⟨Nat.le_refl _, fun _ _ _ e => e⟩
theorem KeepB.trans {B H H' H''} (x : KeepB B H H') (y : KeepB B H' H'') : KeepB B H H'' := ⟨Nat.le_trans x.len y.len, fun k o h e => y.at_ k o h (x.at_ k o h e)⟩
theorem KeepB.app {B H L} : KeepB B H (H ++ L) := ⟨by simp, fun k o _ e => by rw [List.getElem?_append_left (List.getElem?_eq_some_iff.mp e).1]; exact e⟩
theorem KeepB.set {B H j o} (h : j < B) : KeepB B H (H.set j o) := ⟨by simp, fun k o' hk e => by rw [List.getElem?_set_ne (by (first | lia | omega))]; exact e⟩
theorem KeepB.lst {B H H'} (x : KeepB B H H') {k xs} (h : B ≤ k) (e : lstAt H k = some xs) : lstAt H' k = some xs := by
  unfold lstAt; rw [x.at_ k _ h (lstAt_of e)]
end Mine

namespace Mine
section
variable {sl : Sl} {H : HW} {c : Cx} {ns : List Int}
noncomputable def idxV (ns : List Int) (v w : V) (H : HW) (Q : V → HW → Prop) : Prop := match asD H v with
  | some kvs => (match w with | .int k => (match dGet kvs k with | some u => Q u H | none => False) | _ => False)
  | none => match asL ns H v, w with
    | some xs, .int k => xs.length ≤ 1000000 ∧ (match getI xs k with | some u => Q u H | none => False)
    | _, _ => False
theorem e_idxX {a b Q} : wIdxX ns a b sl H Q = a sl H (fun v H₁ => b sl H₁ fun w H₂ => idxV ns v w H₂ Q) := propext Iff.rfl
theorem asD_lst {k xs} (h : lstAt H k = some xs) : asD H (.loc k) = none := by simp only [asD, lstAt_of h]
theorem e_idxL {k xs i Q} (h : lstAt H k = some xs) : idxV ns (.loc k) (.int i) H Q = (xs.length ≤ 1000000 ∧ (match getI xs i with | some u => Q u H | none => False)) := by
  unfold idxV; rw [asD_lst h, asL_loc, h]
theorem idx_lst {k xs i u} {Q : V → HW → Prop} (h : lstAt H k = some xs) (hl : xs.length ≤ 1000000) (hg : getI xs i = some u) (q : Q u H) : idxV ns (.loc k) (.int i) H Q := by
  rw [e_idxL h, hg]; exact ⟨hl, q⟩
theorem idx_nat {k xs u} {i : Nat} {Q : V → HW → Prop} (h : lstAt H k = some xs) (hl : xs.length ≤ 1000000) (hg : xs[i]? = some u) (q : Q u H) : idxV ns (.loc k) (.int (i : Int)) H Q := idx_lst h hl (by rw [getI_nat]; exact hg) q
theorem e_kGlob2 {n a x y Q} : kGlob n a [x, y] H Q = (2 = n ∧ Q (.glob a) H) := propext Iff.rfl
theorem e_lenS {Q} : bLen ns [.script] H Q = (ns.length ≤ 1000000 ∧ Q (.int ns.length) H) := by
  show (match asL ns H .script with | some xs => xs.length ≤ 1000000 ∧ Q (.int xs.length) H | none => False) = _
  rw [asL_scr]; simp
end
/-! ### what is kept at the places that a law protects -/
structure KeepP (P : Nat → Prop) (H H' : HW) : Prop where
  len : H.length ≤ H'.length
  at_ : ∀ (k : Nat) o, P k → H[k]? = some o → H'[k]? = some o
theorem KeepP.refl (P H) : KeepP P H H := ⟨Nat.le_refl _, fun _ _ _ e => e⟩
theorem KeepP.trans {P H H' H''} (x : KeepP P H H') (y : KeepP P H' H'') : KeepP P H H'' := ⟨Nat.le_trans x.len y.len, fun k o h e => y.at_ k o h (x.at_ k o h e)⟩
theorem Ext.keepP {P H H'} (x : Ext H H') : KeepP P H H' := by
  obtain ⟨L, rfl⟩ := x
  exact ⟨by simp, fun k o _ e => by rw [List.getElem?_append_left (List.getElem?_eq_some_iff.mp e).1]; exact e⟩
theorem KeepP.set {P H j o} (h : ¬ P j) : KeepP P H (H.set j o) := ⟨by simp, fun k o' hk e => by rw [List.getElem?_set_ne (fun q => h (by rw [q]; exact hk))]; exact e⟩
theorem KeepP.lst {P H H'} (x : KeepP P H H') {k xs} (h : P k) (e : lstAt H k = some xs) : lstAt H' k = some xs := by
  unfold lstAt; rw [x.at_ k _ h (lstAt_of e)]
theorem Ext.len {H H'} (x : Ext H H') : H.length ≤ H'.length := by obtain ⟨L, rfl⟩ := x; simp
end Mine

namespace Mine
open PySem.Calls PySem.Builtin PySem.Builtin.ObjectAttr PySem.Builtin.Getset_descriptor
/-! ### a slot that was never filled -/
section
variable {prog : Program} {w : World} {A : Around} {E : Value → Shared → Prop} {s : Shared} {α : Type}
end
section
variable {prog : Program} {w : World} {A : Around} {s : Shared} {K : Frag} {x C p : Addr} {R : Result → Shared → Prop}
end
end Mine

namespace Mine
/-! ### a caught exception: the frames on the stack may get other slots -/
section
variable {M : Model} {A : Around} {E : Value → Shared → Prop} {s : Shared}
end
/-- a def of the text with one parameter -/
structure Fn1 (c : Cx) (f : Addr) (fd : FuncData) (body : List Stmt) (x : Str) : Prop where
  ho : ∃ fo, c.h₀.get? f = some fo ∧ fo.data = .func fd
  code : c.h₀.CodeRec fd.code fd.qualname
  body : fd.body = .stmts body
  clo : fd.closure = []
  bind : ∀ v, bindArgs fd ⟨[v], []⟩ = pure [(x, v)]
  glob : fd.globals = mainGlobals
  bi : fd.builtins = builtinsNs
  co : fd.scope.isCoroutine = false
  gen : fd.scope.isGenerator = false
  kind : fd.scope.kind = .function
  loc : fd.scope.names.lookup x = some .local
section
variable {c : Cx}
/-- the name of the parameter -/
theorem Fn1.name {f fd body x} (F : Fn1 c f fd body x) {A : Around} {E : Value → Shared → Prop} {s : Shared} {L : Addr} {m} {v : Value} {pos : Pos} {Q : Value → Shared → Prop} (hn : s.heap.Ns L m) (hm : m x = some v) (hd : (x == ("__debug__" : Str)) = false) (q : Q v s) :
    wpAny (model c.prog c.w) A (eval (.Name x pos) (callEnvC fd L f)) Q E s :=
  wpAny_Name (wpAny_loadName_local F.kind F.loc hn hm q) hd
end
end Mine

namespace Mine
section
variable {c : Cx} {d : Nat} {sc : Scope} {ρ : List Str}
/-! ### the frame's own object with other slots -/
/-! ### the first frame -/
noncomputable def FnC1 (c : Cx) (d : Nat) (f : Value) (W : WF) : Prop :=
  ∀ A s φ H args vals Q (R : Result → Shared → Prop), A.frames = some [] → AOK d A → Ok c φ H s.heap → RepVs c φ s.heap args vals → W args H Q → (∀ x s', PostE c φ s Q x s' → R (.ok (.ret x)) s') → codeAny (model c.prog c.w) A (.call f ⟨vals, []⟩) R s
theorem FnC1.weaken {f W W'} (h : FnC1 c d f W) (k : ∀ args H Q, W' args H Q → W args H Q) : FnC1 c d f W' := fun A s φ H args vals Q R hf ao ok r w => h A s φ H args vals Q R hf ao ok r (k _ _ _ w)
end
end Mine

namespace Mine
section
variable {c : Cx} {d : Nat} {sc : Scope} {ρ : List Str}
end
/-! Identified: an object is a tracked .inst 0 [publicId, systemId] -/
end Mine

namespace Mine
open PySem.SeqAt
section
variable {c : Cx} {d : Nat} {sc : Scope} {ρ : List Str}
end
end Mine

namespace Mine

/-! two rows merged by a key, the first one ahead where the keys are equal -/
noncomputable def mg {α : Type} (κ : α → Int) : List α → List α → List α
  | [], ys => ys
  | x :: xs, [] => x :: xs
  | x :: xs, y :: ys => if κ y < κ x then y :: mg κ (x :: xs) ys else x :: mg κ xs (y :: ys)
termination_by xs ys => xs.length + ys.length

section
variable {α : Type} {κ : α → Int}
theorem mg_nil_l (ys : List α) : mg κ [] ys = ys := by rw [mg]
theorem mg_nil_r (xs : List α) : mg κ xs [] = xs := by cases xs <;> rw [mg]
theorem mg_lt {x y : α} {xs ys : List α} (h : κ y < κ x) : mg κ (x :: xs) (y :: ys) = y :: mg κ (x :: xs) ys := by rw [mg, if_pos h]
theorem mg_ge {x y : α} {xs ys : List α} (h : ¬ κ y < κ x) : mg κ (x :: xs) (y :: ys) = x :: mg κ xs (y :: ys) := by rw [mg, if_neg h]

theorem mg_ind {P : List α → List α → Prop} (h1 : ∀ ys, P [] ys) (h2 : ∀ xs, P xs [])
    (h3 : ∀ x xs y ys, κ y < κ x → P (x :: xs) ys → P (x :: xs) (y :: ys))
    (h4 : ∀ x xs y ys, ¬ κ y < κ x → P xs (y :: ys) → P (x :: xs) (y :: ys)) : ∀ xs ys, P xs ys := by
  intro xs
  induction xs with
  | nil => exact h1
  | cons x xs ih =>
    intro ys
    induction ys with
    | nil => exact h2 _
    | cons y ys ih2 =>
      by_cases h : κ y < κ x
      · exact h3 _ _ _ _ h ih2
      · exact h4 _ _ _ _ h (ih _)

theorem mg_perm (xs ys : List α) : (mg κ xs ys).Perm (xs ++ ys) := by
  refine mg_ind (κ := κ) (P := fun xs ys => (mg κ xs ys).Perm (xs ++ ys)) ?_ ?_ ?_ ?_ xs ys
  · intro ys; rw [mg_nil_l]; exact List.Perm.refl _
  · intro xs; rw [mg_nil_r, List.append_nil]
  · intro x xs y ys h ih
    rw [mg_lt h]
    exact (List.Perm.cons y ih).trans List.perm_middle.symm
  · intro x xs y ys h ih
    rw [mg_ge h]
    exact List.Perm.cons x ih

theorem mg_mem {xs ys : List α} {z : α} : z ∈ mg κ xs ys ↔ z ∈ xs ∨ z ∈ ys := by
  rw [(mg_perm xs ys).mem_iff, List.mem_append]

theorem mg_len (xs ys : List α) : (mg κ xs ys).length = xs.length + ys.length := by
  rw [(mg_perm xs ys).length_eq, List.length_append]

/-- a part of the first row that lies below -/
theorem mg_left {zs xs ys : List α} : (∀ z ∈ zs, ∀ y ∈ ys, κ z ≤ κ y) → mg κ (zs ++ xs) ys = zs ++ mg κ xs ys := by
  induction zs with
  | nil => intro _; rfl
  | cons z zs ih =>
    intro h
    cases ys with
    | nil => rw [mg_nil_r, mg_nil_r]
    | cons y ys =>
      rw [List.cons_append, mg_ge (Int.not_lt.mpr (h z (.head _) y (.head _))), ih fun z' hz => h z' (.tail _ hz)]
      rfl

/-- a part of the second row that lies below -/
theorem mg_right {zs xs ys : List α} : (∀ z ∈ zs, ∀ x ∈ xs, κ z < κ x) → mg κ xs (zs ++ ys) = zs ++ mg κ xs ys := by
  induction zs with
  | nil => intro _; rfl
  | cons z zs ih =>
    intro h
    cases xs with
    | nil => rw [mg_nil_l, mg_nil_l]
    | cons x xs =>
      rw [List.cons_append, mg_lt (h z (.head _) x (.head _)), ih fun z' hz => h z' (.tail _ hz)]
      rfl

/-- a part of the first row that lies above -/
theorem mg_above_l {zs : List α} (xs ys : List α) : (∀ z ∈ zs, ∀ y ∈ ys, κ y < κ z) → mg κ (xs ++ zs) ys = mg κ xs ys ++ zs := by
  refine mg_ind (κ := κ) (P := fun xs ys => (∀ z ∈ zs, ∀ y ∈ ys, κ y < κ z) → mg κ (xs ++ zs) ys = mg κ xs ys ++ zs) ?_ ?_ ?_ ?_ xs ys
  · intro ys h
    have e := mg_right (κ := κ) (zs := ys) (xs := zs) (ys := []) fun y hy z hz => h z hz y hy
    rw [List.append_nil, mg_nil_r] at e
    rw [List.nil_append, mg_nil_l]; exact e
  · intro xs _; rw [mg_nil_r, mg_nil_r]
  · intro x xs y ys hl ih h
    rw [List.cons_append, mg_lt hl, mg_lt hl, ← List.cons_append, ih fun z hz y' hy => h z hz y' (.tail _ hy)]
    rfl
  · intro x xs y ys hl ih h
    rw [List.cons_append, mg_ge hl, mg_ge hl, ih h]
    rfl

/-- a part of the second row that lies above -/
theorem mg_above_r {zs : List α} (xs ys : List α) : (∀ z ∈ zs, ∀ x ∈ xs, κ x ≤ κ z) → mg κ xs (ys ++ zs) = mg κ xs ys ++ zs := by
  refine mg_ind (κ := κ) (P := fun xs ys => (∀ z ∈ zs, ∀ x ∈ xs, κ x ≤ κ z) → mg κ xs (ys ++ zs) = mg κ xs ys ++ zs) ?_ ?_ ?_ ?_ xs ys
  · intro ys _; rw [mg_nil_l, mg_nil_l]
  · intro xs h
    have e := mg_left (κ := κ) (zs := xs) (xs := []) (ys := zs) fun x hx z hz => h z hz x hx
    rw [List.append_nil, mg_nil_l] at e
    rw [List.nil_append, mg_nil_r]; exact e
  · intro x xs y ys hl ih h
    rw [List.cons_append, mg_lt hl, mg_lt hl, ih h]
    rfl
  · intro x xs y ys hl ih h
    rw [List.cons_append, mg_ge hl, mg_ge hl, ← List.cons_append, ih fun z hz x' hx => h z hz x' (.tail _ hx)]
    rfl

/-- stability -/
theorem mg_filter (k : Int) (xs ys : List α) : xs.Pairwise (fun a b => κ a ≤ κ b) →
    (mg κ xs ys).filter (fun a => decide (κ a = k)) = xs.filter (fun a => decide (κ a = k)) ++ ys.filter (fun a => decide (κ a = k)) := by
  refine mg_ind (κ := κ) (P := fun xs ys => xs.Pairwise (fun a b => κ a ≤ κ b) →
    (mg κ xs ys).filter (fun a => decide (κ a = k)) = xs.filter (fun a => decide (κ a = k)) ++ ys.filter (fun a => decide (κ a = k))) ?_ ?_ ?_ ?_ xs ys
  · intro ys _; rw [mg_nil_l]; rfl
  · intro xs _; rw [mg_nil_r, List.filter_nil, List.append_nil]
  · intro x xs y ys h ih hp
    rw [mg_lt h, List.filter_cons, ih hp]
    by_cases e : κ y = k
    · have hz : (x :: xs).filter (fun a => decide (κ a = k)) = [] := by
        rw [List.filter_eq_nil_iff]
        intro a ha
        have : κ x ≤ κ a := by
          rcases List.mem_cons.mp ha with rfl | ha
          · exact Int.le_refl _
          · exact (List.pairwise_cons.mp hp).1 a ha
        simp only [decide_eq_true_eq]; (first | lia | omega)
      rw [hz, if_pos (by simpa using e), List.filter_cons, if_pos (by simpa using e)]
      rfl
    · rw [if_neg (by simpa using e)]
      congr 1
      rw [List.filter_cons, if_neg (by simpa using e)]
  · intro x xs y ys h ih hp
    rw [mg_ge h, List.filter_cons, ih (List.pairwise_cons.mp hp).2, List.filter_cons (x := x)]
    split <;> rfl

theorem mg_sorted (xs ys : List α) : xs.Pairwise (fun a b => κ a ≤ κ b) → ys.Pairwise (fun a b => κ a ≤ κ b) → (mg κ xs ys).Pairwise (fun a b => κ a ≤ κ b) := by
  refine mg_ind (κ := κ) (P := fun xs ys => xs.Pairwise (fun a b => κ a ≤ κ b) → ys.Pairwise (fun a b => κ a ≤ κ b) → (mg κ xs ys).Pairwise (fun a b => κ a ≤ κ b)) ?_ ?_ ?_ ?_ xs ys
  · intro ys _ h; rw [mg_nil_l]; exact h
  · intro xs h _; rw [mg_nil_r]; exact h
  · intro x xs y ys h ih hx hy
    rw [mg_lt h]
    refine List.pairwise_cons.mpr ⟨fun z hz => ?_, ih hx (List.pairwise_cons.mp hy).2⟩
    rcases mg_mem.mp hz with hz | hz
    · rcases List.mem_cons.mp hz with rfl | hz
      · (first | lia | omega)
      · have := (List.pairwise_cons.mp hx).1 z hz; (first | lia | omega)
    · exact (List.pairwise_cons.mp hy).1 z hz
  · intro x xs y ys h ih hx hy
    rw [mg_ge h]
    refine List.pairwise_cons.mpr ⟨fun z hz => ?_, ih (List.pairwise_cons.mp hx).2 hy⟩
    rcases mg_mem.mp hz with hz | hz
    · exact (List.pairwise_cons.mp hx).1 z hz
    · rcases List.mem_cons.mp hz with rfl | hz
      · (first | lia | omega)
      · have := (List.pairwise_cons.mp hy).1 z hz; (first | lia | omega)

/-- the stable order of a row is one alone -/
theorem stable_uniq : ∀ {xs ys : List α}, xs.Pairwise (fun a b => κ a ≤ κ b) → ys.Pairwise (fun a b => κ a ≤ κ b) →
    (∀ k, xs.filter (fun a => decide (κ a = k)) = ys.filter (fun a => decide (κ a = k))) → xs = ys
  | [], ys, _, _, h => by
    cases ys with
    | nil => rfl
    | cons y ys =>
      have := h (κ y)
      rw [List.filter_cons, if_pos (by simp)] at this
      simp at this
  | x :: xs, ys, hx, hy, h => by
    cases ys with
    | nil =>
      have := h (κ x)
      rw [List.filter_cons, if_pos (by simp)] at this
      simp at this
    | cons y ys =>
      have hxy : ∀ {u v : α} {us vs : List α}, (u :: us).Pairwise (fun a b => κ a ≤ κ b) → (∀ k, (u :: us).filter (fun a => decide (κ a = k)) = (v :: vs).filter (fun a => decide (κ a = k))) → κ u ≤ κ v := by
        intro u v us vs hu hh
        have hv : v ∈ (v :: vs).filter (fun a => decide (κ a = κ v)) := by rw [List.mem_filter]; exact ⟨.head _, by simp⟩
        rw [← hh] at hv
        rcases List.mem_cons.mp (List.mem_filter.mp hv).1 with rfl | hm
        · exact Int.le_refl _
        · exact (List.pairwise_cons.mp hu).1 v hm
      have e : κ x = κ y := Int.le_antisymm (hxy hx h) (hxy hy fun k => (h k).symm)
      have h0 := h (κ x)
      rw [List.filter_cons, if_pos (by simp), List.filter_cons, if_pos (by simp [e])] at h0
      obtain ⟨rfl, h1⟩ := List.cons.inj h0
      congr 1
      refine stable_uniq (List.pairwise_cons.mp hx).2 (List.pairwise_cons.mp hy).2 fun k => ?_
      have hk := h k
      rw [List.filter_cons, List.filter_cons] at hk
      split at hk
      · exact (List.cons.inj hk).2
      · exact hk
end
end Mine

namespace Mine

noncomputable def kyOf (p : Keyed) : Int := numOf p.1
noncomputable def NumKeys (xs : List Keyed) : Prop := ∀ p ∈ xs, ∃ n t, p.1 = .int n t

section
variable {prog : Program} {w : World} {A : Around} {E : Value → Shared → Prop} {s : Shared}

theorem wpS_lt {st : SortSt} {x y : Keyed} {Q : Option Bool → SortSt → Prop} (hk : kindOf st = oneType') (hx : ∃ n t, x.1 = .int n t) (hy : ∃ n t, y.1 = .int n t)
    (h : Q (some (decide (kyOf x < kyOf y))) st) : wpS (model prog w) A E s (lt' x y) Q st := by
  obtain ⟨a, t, hx⟩ := hx
  obtain ⟨b, u, hy⟩ := hy
  rw [lt'_eq]
  refine wpS_bind (wpS_get ?_)
  rw [hk, keyLt'_oneType, hx, hy]
  have e1 : kyOf x = a := by unfold kyOf; rw [hx]; rfl
  have e2 : kyOf y = b := by unfold kyOf; rw [hy]; rfl
  rw [e1, e2] at h
  refine wpS_bind (wpS_lift (wpAny_attempt (oneLt_int ⟨rfl, ?_⟩)))
  exact wpS_pure h

theorem wpS_elem {st : SortSt} {arr : Array Keyed} {i : Nat} {p : Keyed} {Q : Keyed → SortSt → Prop} (hp : arr[i]? = some p) (h : Q p st) :
    wpS (model prog w) A E s (elem' arr i) Q st := by
  rw [elem'_eq, hp]; exact wpS_pure h

noncomputable def gallop' : Bool → Keyed → Array Keyed → Nat → Nat → Nat → StateT SortSt Sem (Option Nat) := sortPriv% PySem.Builtin.gallop

noncomputable def beyond' (left : Bool) (key : Keyed) (arr : Array Keyed) (base i : Nat) : StateT SortSt Sem (Option Bool) := do
    let x ← elem' arr (base + i)
    if left then lt' x key else return (← lt' key x).map (!·)

theorem gallop'_eq (left : Bool) (key : Keyed) (arr : Array Keyed) (base n hint : Nat) : gallop' left key arr base n hint = (do
  let mut lastofs := 0
  let mut ofs := 1
  let mut lo := 0
  let mut hi := 0
  let some right ← beyond' left key arr base hint | return none
  if right then
    let maxofs := n - hint
    for _ in [0:n] do
      if ofs ≥ maxofs then break
      let some more ← beyond' left key arr base (hint + ofs) | return none
      if !more then break
      lastofs := ofs
      ofs := 2 * ofs + 1
    lo := hint + lastofs + 1
    hi := hint + min ofs maxofs
  else
    let maxofs := hint + 1
    for _ in [0:n] do
      if ofs ≥ maxofs then break
      let some found ← beyond' left key arr base (hint - ofs) | return none
      if found then break
      lastofs := ofs
      ofs := 2 * ofs + 1
    lo := hint + 1 - min ofs maxofs
    hi := hint - lastofs
  for _ in [0:n] do
    if lo ≥ hi then break
    let m := lo + (hi - lo) / 2
    let some more ← beyond' left key arr base m | return none
    if more then lo := m + 1 else hi := m
  return some hi) := rfl

/-- the answer of beyond -/
noncomputable def byd (left : Bool) (key : Keyed) (arr : Array Keyed) (base i : Nat) : Bool :=
  match arr[base + i]? with
  | some x => if left then decide (kyOf x < kyOf key) else !decide (kyOf key < kyOf x)
  | none => false

theorem wpS_beyond {st : SortSt} {left : Bool} {key : Keyed} {arr : Array Keyed} {base i : Nat} {Q : Option Bool → SortSt → Prop} (hk : kindOf st = oneType')
    (hkey : ∃ n t, key.1 = .int n t) (hn : NumKeys arr.toList) (hi : base + i < arr.size) (h : Q (some (byd left key arr base i)) st) :
    wpS (model prog w) A E s (beyond' left key arr base i) Q st := by
  have e : arr[base + i]? = some arr[base + i] := getElem?_pos arr (base + i) hi
  have hx := hn arr[base + i] (by simp)
  unfold beyond'
  unfold byd at h
  rw [e] at h
  refine wpS_bind (wpS_elem e ?_)
  cases left with
  | true =>
    rw [if_pos rfl]
    exact wpS_lt hk hx hkey h
  | false =>
    rw [if_neg (by simp)]
    refine wpS_bind (wpS_lt hk hkey hx (wpS_pure ?_))
    exact h

/-! ### gallop, in named steps -/
noncomputable abbrev GaC := Option (Option Nat) × Nat × Nat
noncomputable def gaB (left : Bool) (key : Keyed) (arr : Array Keyed) (base : Nat) (c : GaC) : StateT SortSt Sem (ForInStep GaC) :=
  if c.2.1 ≥ c.2.2 then pure (.done (none, c.2.1, c.2.2))
  else do
    let r ← beyond' left key arr base (c.2.1 + (c.2.2 - c.2.1) / 2)
    match r with
    | some more => if more = true then pure (.yield (none, c.2.1 + (c.2.2 - c.2.1) / 2 + 1, c.2.2)) else pure (.yield (none, c.2.1, c.2.1 + (c.2.2 - c.2.1) / 2))
    | _ => pure (.done (some none, c.2.1, c.2.2))
noncomputable def gaBin (left : Bool) (key : Keyed) (arr : Array Keyed) (base n lo hi : Nat) : StateT SortSt Sem (Option Nat) := do
  let c ← forIn [0:n] (none, lo, hi) fun _ c => gaB left key arr base c
  match c.1 with
  | some r => pure r
  | none => pure (some c.2.2)
noncomputable def gaR (left : Bool) (key : Keyed) (arr : Array Keyed) (base n hint : Nat) (c : GaC) : StateT SortSt Sem (ForInStep GaC) :=
  if c.2.2 ≥ n - hint then pure (.done (none, c.2.1, c.2.2))
  else do
    let r ← beyond' left key arr base (hint + c.2.2)
    match r with
    | some more => if (!more) = true then pure (.done (none, c.2.1, c.2.2)) else pure (.yield (none, c.2.2, 2 * c.2.2 + 1))
    | _ => pure (.done (some none, c.2.1, c.2.2))
noncomputable def gaL (left : Bool) (key : Keyed) (arr : Array Keyed) (base hint : Nat) (c : GaC) : StateT SortSt Sem (ForInStep GaC) :=
  if c.2.2 ≥ hint + 1 then pure (.done (none, c.2.1, c.2.2))
  else do
    let r ← beyond' left key arr base (hint - c.2.2)
    match r with
    | some found => if found = true then pure (.done (none, c.2.1, c.2.2)) else pure (.yield (none, c.2.2, 2 * c.2.2 + 1))
    | _ => pure (.done (some none, c.2.1, c.2.2))
theorem gallop'_eq2 (left : Bool) (key : Keyed) (arr : Array Keyed) (base n hint : Nat) : gallop' left key arr base n hint = (do
  let r ← beyond' left key arr base hint
  match r with
  | some right =>
    if right = true then do
      let c ← forIn [0:n] (none, 0, 1) fun _ c => gaR left key arr base n hint c
      match c.1 with
      | some r => pure r
      | none => gaBin left key arr base n (hint + c.2.1 + 1) (hint + min c.2.2 (n - hint))
    else do
      let c ← forIn [0:n] (none, 0, 1) fun _ c => gaL left key arr base hint c
      match c.1 with
      | some r => pure r
      | none => gaBin left key arr base n (hint + 1 - min c.2.2 (hint + 1)) (hint - c.2.1)
  | _ => pure none) := by
  rw [gallop'_eq]
  dsimp only [gaBin, gaB, gaR, gaL, GaC]
  kernel_rfl
structure GaH (prog : Program) (w : World) (A : Around) (E : Value → Shared → Prop) (s : Shared) (st : SortSt) (left : Bool) (key : Keyed) (arr : Array Keyed) (base n : Nat) (B : Nat → Bool) : Prop where
  ask : ∀ (i : Nat) (Q' : Option Bool → SortSt → Prop), i < n → Q' (some (B i)) st → wpS (model prog w) A E s (beyond' left key arr base i) Q' st
  mono : ∀ i j, i ≤ j → j < n → B j = true → B i = true
theorem GaH.anti {st : SortSt} {left : Bool} {key : Keyed} {arr : Array Keyed} {base n : Nat} {B : Nat → Bool} (H : GaH prog w A E s st left key arr base n B) : ∀ i j, i ≤ j → j < n → B i = false → B j = false := by
  intro i j h1 h2 h3
  cases e : B j with
  | false => rfl
  | true => rw [H.mono i j h1 h2 e] at h3; exact h3
noncomputable def GaI (st : SortSt) (B : Nat → Bool) (n x : Nat) (c : GaC) (st' : SortSt) : Prop :=
  st' = st ∧ c.1 = none ∧ c.2.1 ≤ c.2.2 ∧ c.2.2 ≤ n ∧ c.2.2 - c.2.1 ≤ n - x ∧ (∀ i, i < c.2.1 → B i = true) ∧ (∀ i, c.2.2 ≤ i → i < n → B i = false)
theorem sub_up {l m r n x : Nat} (h : r - l ≤ n - x) (h1 : l ≤ m) : r - (m + 1) ≤ n - (x + 1) := by
  rw [← Nat.sub_sub, ← Nat.sub_sub]
  exact Nat.sub_le_sub_right (Nat.le_trans (Nat.sub_le_sub_left h1 _) h) 1
theorem sub_dn {l m r n x : Nat} (h : r - l ≤ n - x) (h2 : m < r) : m - l ≤ n - (x + 1) := by
  rw [← Nat.sub_sub]
  refine Nat.le_trans (Nat.sub_le_sub_right (Nat.le_sub_one_of_lt h2) l) ?_
  rw [Nat.sub_right_comm]
  exact Nat.sub_le_sub_right h 1
theorem mid_lt {l r : Nat} (h : ¬ l ≥ r) : l + (r - l) / 2 < r := by (first | lia | omega)
theorem wpS_gaBin {st : SortSt} {left : Bool} {key : Keyed} {arr : Array Keyed} {base n lo hi : Nat} {B : Nat → Bool} {Q : Option Nat → SortSt → Prop} (H : GaH prog w A E s st left key arr base n B)
    (h1 : lo ≤ hi) (h2 : hi ≤ n) (h3 : ∀ i, i < lo → B i = true) (h4 : ∀ i, hi ≤ i → i < n → B i = false)
    (h : ∀ r, r ≤ n → (∀ i, i < r → B i = true) → (∀ i, r ≤ i → i < n → B i = false) → Q (some r) st) :
    wpS (model prog w) A E s (gaBin left key arr base n lo hi) Q st := by
  unfold gaBin
  refine wpS_bind (wpS_mono (wpS_forRange (I := GaI st B n) (Q := fun c st' => GaI st B n n c st') ?bstep ?bfin ⟨rfl, rfl, h1, h2, Nat.le_trans (Nat.sub_le _ _) h2, h3, h4⟩) ?bpost)
  case bfin =>
    rintro c st' ⟨rfl, a0, a1, a2, a3, a4, a5⟩
    exact ⟨rfl, a0, a1, a2, by (first | lia | omega), a4, a5⟩
  case bstep =>
    rintro x ⟨e0, l, r⟩ st' _ hx ⟨rfl, a0, a1, a2, a3, a4, a5⟩
    dsimp only at a0 a1 a2 a3 a4 a5
    unfold gaB
    dsimp only
    by_cases hge : l ≥ r
    · rw [if_pos hge]
      exact wpS_pure ⟨rfl, rfl, a1, a2, by show r - l ≤ n - n; (first | lia | omega), a4, a5⟩
    · rw [if_neg hge]
      obtain ⟨m, m1, m2, hm⟩ : ∃ m, l ≤ m ∧ m < r ∧ l + (r - l) / 2 = m := ⟨_, Nat.le_add_right _ _, mid_lt hge, rfl⟩
      rw [hm]
      refine wpS_bind (H.ask _ _ (Nat.lt_of_lt_of_le m2 a2) ?_)
      dsimp only
      cases e : B m with
      | true =>
        rw [if_pos rfl]
        exact wpS_pure ⟨rfl, rfl, m2, a2, sub_up a3 m1, fun i hi => H.mono i _ (Nat.le_of_lt_succ hi) (Nat.lt_of_lt_of_le m2 a2) e, a5⟩
      | false =>
        rw [if_neg (by simp)]
        exact wpS_pure ⟨rfl, rfl, m1, Nat.le_trans (Nat.le_of_lt m2) a2, sub_dn a3 m2, a4, fun i h1 h2 => H.anti _ i h1 h2 e⟩
  case bpost =>
    rintro ⟨e0, l, r⟩ st' ⟨rfl, a0, a1, a2, a3, a4, a5⟩
    dsimp only at a0 a1 a2 a3 a4 a5
    subst a0
    exact wpS_pure (h r a2 (fun i hi => a4 i (by (first | lia | omega))) a5)
theorem wpS_gallop {st : SortSt} {left : Bool} {key : Keyed} {arr : Array Keyed} {base n hint : Nat} {Q : Option Nat → SortSt → Prop} (hk : kindOf st = oneType')
    (hkey : ∃ n t, key.1 = .int n t) (hn : NumKeys arr.toList) (hb : base + n ≤ arr.size) (hh : hint < n)
    (mono : ∀ i j, i ≤ j → j < n → byd left key arr base j = true → byd left key arr base i = true)
    (h : ∀ r, r ≤ n → (∀ i, i < r → byd left key arr base i = true) → (∀ i, r ≤ i → i < n → byd left key arr base i = false) → Q (some r) st) :
    wpS (model prog w) A E s (gallop' left key arr base n hint) Q st := by
  obtain ⟨B, hB⟩ : ∃ B, byd left key arr base = B := ⟨_, rfl⟩
  rw [hB] at mono h
  have H : GaH prog w A E s st left key arr base n B := ⟨fun i Q' hi hQ => wpS_beyond hk hkey hn (by (first | lia | omega)) (by rw [hB]; exact hQ), mono⟩
  clear hB hk hkey hn hb
  rw [gallop'_eq2]
  refine wpS_bind (H.ask _ _ hh ?_)
  dsimp only
  cases e0 : B hint with
  | true =>
    rw [if_pos rfl]
    refine wpS_bind (wpS_mono (wpS_forRange (I := fun x c st' => st' = st ∧ ∃ l o, c = (none, l, o) ∧ l < o ∧ l < n - hint ∧ x < o ∧ B (hint + l) = true)
      (Q := fun c st' => st' = st ∧ ∃ l o, c = (none, l, o) ∧ l < o ∧ l < n - hint ∧ B (hint + l) = true ∧ (o < n - hint → B (hint + o) = false)) ?step ?fin ⟨rfl, 0, 1, rfl, by (first | lia | omega), by (first | lia | omega), by (first | lia | omega), e0⟩) ?post)
    case fin =>
      rintro c st' ⟨rfl, l, o, rfl, a1, a2, a3, a4⟩
      exact ⟨rfl, l, o, rfl, a1, a2, a4, fun h' => by (first | lia | omega)⟩
    case step =>
      rintro x c st' _ hx ⟨rfl, l, o, rfl, a1, a2, a3, a4⟩
      unfold gaR
      dsimp only
      by_cases hge : o ≥ n - hint
      · rw [if_pos hge]
        exact wpS_pure ⟨rfl, l, o, rfl, a1, a2, a4, fun h' => absurd h' (Nat.not_lt.mpr hge)⟩
      · rw [if_neg hge]
        refine wpS_bind (H.ask _ _ (by (first | lia | omega)) ?_)
        dsimp only
        cases e : B (hint + o) with
        | true =>
          rw [if_neg (by simp)]
          exact wpS_pure ⟨rfl, o, 2 * o + 1, rfl, by (first | lia | omega), Nat.lt_of_not_le hge, by (first | lia | omega), e⟩
        | false =>
          rw [if_pos (by simp)]
          exact wpS_pure ⟨rfl, l, o, rfl, a1, a2, a4, fun _ => e⟩
    case post =>
      rintro c st' ⟨rfl, l, o, rfl, a1, a2, a3, a4⟩
      refine wpS_gaBin H (Nat.add_le_add_left (Nat.le_min.mpr ⟨a1, a2⟩) hint) (Nat.le_trans (Nat.add_le_add_left (Nat.min_le_right _ _) _) (Nat.le_of_eq (Nat.add_sub_of_le (Nat.le_of_lt hh)))) (fun i hi => H.mono i (hint + l) (Nat.le_of_lt_succ hi) (by (first | lia | omega)) a3) (fun i h1 h2 => ?_) h
      dsimp only at h1
      by_cases ho : o < n - hint
      · rw [Nat.min_eq_left (Nat.le_of_lt ho)] at h1
        exact H.anti (hint + o) i h1 h2 (a4 ho)
      · rw [Nat.min_eq_right (Nat.not_lt.mp ho)] at h1
        (first | lia | omega)
  | false =>
    rw [if_neg (by simp)]
    refine wpS_bind (wpS_mono (wpS_forRange (I := fun x c st' => st' = st ∧ ∃ l o, c = (none, l, o) ∧ l < o ∧ l ≤ hint ∧ x < o ∧ B (hint - l) = false)
      (Q := fun c st' => st' = st ∧ ∃ l o, c = (none, l, o) ∧ l < o ∧ l ≤ hint ∧ B (hint - l) = false ∧ (o < hint + 1 → B (hint - o) = true)) ?step ?fin ⟨rfl, 0, 1, rfl, by (first | lia | omega), by (first | lia | omega), by (first | lia | omega), e0⟩) ?post)
    case fin =>
      rintro c st' ⟨rfl, l, o, rfl, a1, a2, a3, a4⟩
      exact ⟨rfl, l, o, rfl, a1, a2, a4, fun h' => by (first | lia | omega)⟩
    case step =>
      rintro x c st' _ hx ⟨rfl, l, o, rfl, a1, a2, a3, a4⟩
      unfold gaL
      dsimp only
      by_cases hge : o ≥ hint + 1
      · rw [if_pos hge]
        exact wpS_pure ⟨rfl, l, o, rfl, a1, a2, a4, fun h' => absurd h' (Nat.not_lt.mpr hge)⟩
      · rw [if_neg hge]
        refine wpS_bind (H.ask _ _ (by (first | lia | omega)) ?_)
        dsimp only
        cases e : B (hint - o) with
        | true =>
          rw [if_pos rfl]
          exact wpS_pure ⟨rfl, l, o, rfl, a1, a2, a4, fun _ => e⟩
        | false =>
          rw [if_neg (by simp)]
          exact wpS_pure ⟨rfl, o, 2 * o + 1, rfl, by (first | lia | omega), by (first | lia | omega), by (first | lia | omega), e⟩
    case post =>
      rintro c st' ⟨rfl, l, o, rfl, a1, a2, a3, a4⟩
      refine wpS_gaBin H (Nat.le_trans (Nat.sub_le_sub_left (Nat.le_min.mpr ⟨a1, Nat.succ_le_succ a2⟩) _) (Nat.le_of_eq (Nat.add_sub_add_right hint 1 l))) (Nat.le_trans (Nat.sub_le _ _) (Nat.le_of_lt hh)) (fun i hi => ?_) (fun i h1 h2 => H.anti _ i h1 h2 a3) h
      dsimp only at hi
      by_cases ho : o < hint + 1
      · rw [Nat.min_eq_left (Nat.le_of_lt ho)] at hi
        exact H.mono i (hint - o) (by (first | lia | omega)) (by (first | lia | omega)) (a4 ho)
      · rw [Nat.min_eq_right (Nat.not_lt.mp ho)] at hi
        (first | lia | omega)
end
end Mine

namespace Mine
noncomputable def setMinGallop' : Nat → StateT SortSt Sem Unit := sortPriv% PySem.Builtin.setMinGallop
noncomputable abbrev setG (st : SortSt) (g : Nat) : SortSt := SortSt.mk' (kindOf st) (arrOf st) (pendingOf st) g (failedOf st)
theorem setMinGallop'_eq (g : Nat) : setMinGallop' g = modify fun s => setG s g := rfl
noncomputable def mergeLo' : Array Keyed → Array Keyed → StateT SortSt Sem (Array Keyed) := sortPriv% PySem.Builtin.mergeLo
theorem mergeLo'_eq (a b : Array Keyed) : mergeLo' a b = (do
  rule "list.sort.merge-lo"
  let total := a.size + b.size
  let done (out : Array Keyed) (ia ib : Nat) := out ++ a.extract ia a.size ++ b.extract ib b.size
  let lastOfA (out : Array Keyed) (ia ib : Nat) := out ++ b.extract ib b.size ++ a.extract ia a.size
  let mut out : Array Keyed := #[← elem' b 0]
  let mut ia := 0
  let mut ib := 1
  if ib == b.size then return done out ia ib
  if ia + 1 == a.size then return lastOfA out ia ib
  let mut minGallop := gallopOf (← get)
  for _ in [0:total] do
    let mut acount := 0
    let mut bcount := 0
    for _ in [0:total] do
      let some bWins ← lt' (← elem' b ib) (← elem' a ia) | return done out ia ib
      if bWins then
        out := out.push (← elem' b ib); ib := ib + 1; bcount := bcount + 1; acount := 0
        if ib == b.size then return done out ia ib
        if bcount ≥ minGallop then break
      else
        out := out.push (← elem' a ia); ia := ia + 1; acount := acount + 1; bcount := 0
        if ia + 1 == a.size then return lastOfA out ia ib
        if acount ≥ minGallop then break
    rule "list.sort.gallop"
    minGallop := minGallop + 1
    for _ in [0:total] do
      if minGallop > 1 then minGallop := minGallop - 1
      setMinGallop' minGallop
      let some k ← gallop' false (← elem' b ib) a ia (a.size - ia) 0 | return done out ia ib
      acount := k
      if k > 0 then
        out := out ++ a.extract ia (ia + k); ia := ia + k
        if ia + 1 == a.size then return lastOfA out ia ib
        if ia == a.size then return done out ia ib
      out := out.push (← elem' b ib); ib := ib + 1
      if ib == b.size then return done out ia ib
      let some k ← gallop' true (← elem' a ia) b ib (b.size - ib) 0 | return done out ia ib
      bcount := k
      if k > 0 then
        out := out ++ b.extract ib (ib + k); ib := ib + k
        if ib == b.size then return done out ia ib
      out := out.push (← elem' a ia); ia := ia + 1
      if ia + 1 == a.size then return lastOfA out ia ib
      if acount < 7 && bcount < 7 then break
    minGallop := minGallop + 1
    setMinGallop' minGallop
  unsupported "internal:list.sort.merge-bound") := rfl

noncomputable def Asc (xs : List Keyed) : Prop := xs.Pairwise (fun a b => kyOf a ≤ kyOf b)

theorem drop_at {xs : Array Keyed} {i : Nat} {x : Keyed} (h : xs[i]? = some x) : xs.toList.drop i = x :: xs.toList.drop (i + 1) := by
  obtain ⟨hi, rfl⟩ := Array.getElem?_eq_some_iff.mp h
  rw [List.drop_eq_getElem_cons (by simpa using hi)]
  simp

theorem drop_take {xs : Array Keyed} {i k : Nat} (h : i + k ≤ xs.size) : xs.toList.drop i = (xs.extract i (i + k)).toList ++ xs.toList.drop (i + k) := by
  rw [Array.toList_extract, List.extract_eq_drop_take, Nat.add_sub_cancel_left, ← List.drop_drop, List.take_append_drop]

theorem mem_extract {xs : Array Keyed} {i j : Nat} {z : Keyed} (h : z ∈ (xs.extract i j).toList) : ∃ q, i ≤ q ∧ q < j ∧ xs[q]? = some z := by
  rw [Array.toList_extract, List.extract_eq_drop_take] at h
  obtain ⟨n, hn, rfl⟩ := List.mem_iff_getElem.mp h
  rw [List.length_take, List.length_drop] at hn
  have hs : i + n < xs.size := by have := Array.length_toList (xs := xs); (first | lia | omega)
  refine ⟨i + n, by (first | lia | omega), by (first | lia | omega), ?_⟩
  rw [getElem?_pos xs (i + n) hs]
  simp

theorem mem_drop' {xs : Array Keyed} {i : Nat} {z : Keyed} (h : z ∈ xs.toList.drop i) : ∃ q, i ≤ q ∧ xs[q]? = some z := by
  obtain ⟨n, hn, rfl⟩ := List.mem_iff_getElem.mp h
  rw [List.length_drop] at hn
  have hs : i + n < xs.size := by have := Array.length_toList (xs := xs); (first | lia | omega)
  refine ⟨i + n, by (first | lia | omega), ?_⟩
  rw [getElem?_pos xs (i + n) hs]
  simp

theorem Asc.le {xs : Array Keyed} (h : Asc xs.toList) {i j : Nat} {x y : Keyed} (hij : i ≤ j) (hx : xs[i]? = some x) (hy : xs[j]? = some y) : kyOf x ≤ kyOf y := by
  obtain ⟨hi, rfl⟩ := Array.getElem?_eq_some_iff.mp hx
  obtain ⟨hj, rfl⟩ := Array.getElem?_eq_some_iff.mp hy
  by_cases e : i = j
  · subst e; exact Int.le_refl _
  · have := List.pairwise_iff_getElem.mp h i j (by simpa using hi) (by simpa using hj) (by (first | lia | omega))
    simpa using this

noncomputable def LoE (a b out : Array Keyed) (ia ib : Nat) : Prop := out.toList ++ mg kyOf (a.toList.drop ia) (b.toList.drop ib) = mg kyOf a.toList b.toList

section
variable {a b out : Array Keyed} {ia ib k : Nat} {x y : Keyed}

theorem LoE.tb (h : LoE a b out ia ib) (hy : b[ib]? = some y) (hx : a[ia]? = some x) (hl : kyOf y < kyOf x) : LoE a b (out.push y) ia (ib + 1) := by
  unfold LoE at h ⊢
  rw [drop_at hx, drop_at hy, mg_lt hl, ← drop_at hx] at h
  rw [Array.toList_push, List.append_assoc]
  exact h

theorem LoE.ta (h : LoE a b out ia ib) (hy : b[ib]? = some y) (hx : a[ia]? = some x) (hl : ¬ kyOf y < kyOf x) : LoE a b (out.push x) (ia + 1) ib := by
  unfold LoE at h ⊢
  rw [drop_at hx, drop_at hy, mg_ge hl, ← drop_at hy] at h
  rw [Array.toList_push, List.append_assoc]
  exact h

theorem LoE.ga (h : LoE a b out ia ib) (hb : Asc b.toList) (hy : b[ib]? = some y) (hk : ia + k ≤ a.size) (hg : ∀ i, i < k → byd false y a ia i = true) :
    LoE a b (out ++ a.extract ia (ia + k)) (ia + k) ib := by
  unfold LoE at h ⊢
  rw [drop_take hk, mg_left] at h
  · rw [Array.toList_append, List.append_assoc]; exact h
  · intro z hz y' hy'
    obtain ⟨q, q1, q2, q3⟩ := mem_extract hz
    obtain ⟨r, r1, r2⟩ := mem_drop' hy'
    have g := hg (q - ia) (by (first | lia | omega))
    unfold byd at g
    rw [show ia + (q - ia) = q by (first | lia | omega), q3] at g
    have g' : ¬ kyOf y < kyOf z := by simpa using g
    have := hb.le r1 hy r2
    (first | lia | omega)

theorem LoE.gb (h : LoE a b out ia ib) (ha : Asc a.toList) (hx : a[ia]? = some x) (hk : ib + k ≤ b.size) (hg : ∀ i, i < k → byd true x b ib i = true) :
    LoE a b (out ++ b.extract ib (ib + k)) ia (ib + k) := by
  unfold LoE at h ⊢
  rw [drop_take hk, mg_right] at h
  · rw [Array.toList_append, List.append_assoc]; exact h
  · intro z hz x' hx'
    obtain ⟨q, q1, q2, q3⟩ := mem_extract hz
    obtain ⟨r, r1, r2⟩ := mem_drop' hx'
    have g := hg (q - ib) (by (first | lia | omega))
    unfold byd at g
    rw [show ib + (q - ib) = q by (first | lia | omega), q3] at g
    have g' : kyOf z < kyOf x := by simpa using g
    have := ha.le r1 hx r2
    (first | lia | omega)

theorem extract_drop (xs : Array Keyed) (i : Nat) : (xs.extract i xs.size).toList = xs.toList.drop i := by
  rw [Array.toList_extract, List.extract_eq_drop_take]
  rw [List.take_of_length_le (by rw [List.length_drop, Array.length_toList]; (first | lia | omega))]

theorem LoE.done (h : LoE a b out ia ib) (e : ib = b.size ∨ ia = a.size) : (out ++ a.extract ia a.size ++ b.extract ib b.size).toList = mg kyOf a.toList b.toList := by
  unfold LoE at h
  rw [Array.toList_append, Array.toList_append, extract_drop, extract_drop, List.append_assoc, ← h]
  congr 1
  rcases e with rfl | rfl
  · rw [List.drop_of_length_le (l := b.toList) (by simp), mg_nil_r, List.append_nil]
  · rw [List.drop_of_length_le (l := a.toList) (by simp), mg_nil_l]; rfl

theorem LoE.last (h : LoE a b out ia ib) (e : ia + 1 = a.size) (hl : ∀ x, a[a.size - 1]? = some x → ∀ y ∈ b.toList, kyOf y < kyOf x) :
    (out ++ b.extract ib b.size ++ a.extract ia a.size).toList = mg kyOf a.toList b.toList := by
  unfold LoE at h
  rw [Array.toList_append, Array.toList_append, extract_drop, extract_drop, List.append_assoc, ← h]
  congr 1
  have hx : a[ia]? = some a[ia] := getElem?_pos a ia (by (first | lia | omega))
  rw [drop_at hx, List.drop_of_length_le (l := a.toList) (by simp; (first | lia | omega))]
  have := mg_above_l (κ := kyOf) (zs := [a[ia]]) [] (b.toList.drop ib) (fun z hz y hy => by
    rw [List.mem_singleton] at hz
    subst hz
    exact hl _ (by rw [show a.size - 1 = ia by (first | lia | omega)]; exact hx) y (List.mem_of_mem_drop hy))
  rw [List.nil_append, mg_nil_l] at this
  exact this.symm
end

section
variable {prog : Program} {w : World} {A : Around} {E : Value → Shared → Prop} {s : Shared}

theorem byd_mono_l {arr : Array Keyed} {key : Keyed} {base n : Nat} (h : Asc arr.toList) (hb : base + n ≤ arr.size) (left : Bool) :
    ∀ i j, i ≤ j → j < n → byd left key arr base j = true → byd left key arr base i = true := by
  intro i j hij hj hB
  have ei : arr[base + i]? = some arr[base + i] := getElem?_pos arr (base + i) (by (first | lia | omega))
  have ej : arr[base + j]? = some arr[base + j] := getElem?_pos arr (base + j) (by (first | lia | omega))
  have := h.le (by (first | lia | omega)) ei ej
  unfold byd at hB ⊢
  rw [ej] at hB
  rw [ei]
  cases left with
  | true => simp only [if_true, decide_eq_true_eq] at hB ⊢; (first | lia | omega)
  | false => simp only [Bool.false_eq_true, if_false, Bool.not_eq_true', decide_eq_false_iff_not] at hB ⊢; (first | lia | omega)

theorem wpS_gal {st : SortSt} {left : Bool} {key : Keyed} {arr : Array Keyed} {base n hint : Nat} {Q : Option Nat → SortSt → Prop} (hk : kindOf st = oneType')
    (hkey : ∃ n t, key.1 = .int n t) (hn : NumKeys arr.toList) (hs : Asc arr.toList) (hb : base + n ≤ arr.size) (hh : hint < n)
    (h : ∀ r, r ≤ n → (∀ i, i < r → byd left key arr base i = true) → (∀ i, r ≤ i → i < n → byd left key arr base i = false) → Q (some r) st) :
    wpS (model prog w) A E s (gallop' left key arr base n hint) Q st :=
  wpS_gallop hk hkey hn hb hh (byd_mono_l hs hb left) h

theorem wpS_setMG {st : SortSt} {g : Nat} {Q : Unit → SortSt → Prop} (h : Q () (setG st g)) : wpS (model prog w) A E s (setMinGallop' g) Q st := by
  rw [setMinGallop'_eq]; exact wpS_modify h

theorem NumKeys.at {xs : Array Keyed} (h : NumKeys xs.toList) {i : Nat} {x : Keyed} (hx : xs[i]? = some x) : ∃ n t, x.1 = .int n t :=
  h x (by obtain ⟨hi, rfl⟩ := Array.getElem?_eq_some_iff.mp hx; simp)
theorem some_at {xs : Array Keyed} {i : Nat} (h : i < xs.size) : ∃ x, xs[i]? = some x := ⟨_, getElem?_pos xs i h⟩
theorem byd_f {arr : Array Keyed} {key x : Keyed} {base i : Nat} (hx : arr[base + i]? = some x) (h : byd false key arr base i = false) : kyOf key < kyOf x := by
  unfold byd at h; rw [hx] at h; simpa using h
theorem byd_t {arr : Array Keyed} {key x : Keyed} {base i : Nat} (hx : arr[base + i]? = some x) (h : byd true key arr base i = false) : ¬ kyOf x < kyOf key := by
  unfold byd at h; rw [hx] at h; simpa using h
end
end Mine

namespace Mine
/-! ### the merge from the left, in named steps -/
noncomputable abbrev LoS := Option (Array Keyed) × Array Keyed × Nat × Nat × Nat × Nat × Nat
noncomputable abbrev LoC := Option (Array Keyed) × Array Keyed × Nat × Nat × Nat × Nat
noncomputable abbrev LoT := Option (Array Keyed) × Array Keyed × Nat × Nat × Nat
noncomputable def loD (a b out : Array Keyed) (ia ib : Nat) : Array Keyed := out ++ a.extract ia a.size ++ b.extract ib b.size
noncomputable def loL (a b out : Array Keyed) (ia ib : Nat) : Array Keyed := out ++ b.extract ib b.size ++ a.extract ia a.size
noncomputable def loP3 (a b out : Array Keyed) (ia ib g k k1 : Nat) : StateT SortSt Sem (ForInStep LoS) := do
  let x ← elem' a ia
  if (ia + 1 + 1 == a.size) = true then pure (.done (some (loL a b (out.push x) (ia + 1) ib), out.push x, ia + 1, ib, g, k, k1))
  else if (decide (k < 7) && decide (k1 < 7)) = true then pure (.done (none, out.push x, ia + 1, ib, g, k, k1)) else pure (.yield (none, out.push x, ia + 1, ib, g, k, k1))
noncomputable def loP2 (a b out : Array Keyed) (ia ib g k q : Nat) : StateT SortSt Sem (ForInStep LoS) := do
  let y ← elem' b ib
  if (ib + 1 == b.size) = true then pure (.done (some (loD a b (out.push y) ia (ib + 1)), out.push y, ia, ib + 1, g, k, q))
  else do
    let x ← elem' a ia
    let r ← gallop' true x b (ib + 1) (b.size - (ib + 1)) 0
    match r with
    | some k1 =>
      if k1 > 0 then
        if (ib + 1 + k1 == b.size) = true then pure (.done (some (loD a b (out.push y ++ b.extract (ib + 1) (ib + 1 + k1)) ia (ib + 1 + k1)), out.push y ++ b.extract (ib + 1) (ib + 1 + k1), ia, ib + 1 + k1, g, k, k1))
        else loP3 a b (out.push y ++ b.extract (ib + 1) (ib + 1 + k1)) ia (ib + 1 + k1) g k k1
      else loP3 a b (out.push y) ia (ib + 1) g k k1
    | _ => pure (.done (some (loD a b (out.push y) ia (ib + 1)), out.push y, ia, ib + 1, g, k, q))
noncomputable def loP1 (a b out : Array Keyed) (ia ib g p q : Nat) : StateT SortSt Sem (ForInStep LoS) := do
  setMinGallop' g
  let y ← elem' b ib
  let r ← gallop' false y a ia (a.size - ia) 0
  match r with
  | some k =>
    if k > 0 then
      if (ia + k + 1 == a.size) = true then pure (.done (some (loL a b (out ++ a.extract ia (ia + k)) (ia + k) ib), out ++ a.extract ia (ia + k), ia + k, ib, g, k, q))
      else if (ia + k == a.size) = true then pure (.done (some (loD a b (out ++ a.extract ia (ia + k)) (ia + k) ib), out ++ a.extract ia (ia + k), ia + k, ib, g, k, q))
      else loP2 a b (out ++ a.extract ia (ia + k)) (ia + k) ib g k q
    else loP2 a b out ia ib g k q
  | _ => pure (.done (some (loD a b out ia ib), out, ia, ib, g, p, q))
noncomputable def loG (a b : Array Keyed) (c : LoS) : StateT SortSt Sem (ForInStep LoS) :=
  if c.2.2.2.2.1 > 1 then loP1 a b c.2.1 c.2.2.1 c.2.2.2.1 (c.2.2.2.2.1 - 1) c.2.2.2.2.2.1 c.2.2.2.2.2.2 else loP1 a b c.2.1 c.2.2.1 c.2.2.2.1 c.2.2.2.2.1 c.2.2.2.2.2.1 c.2.2.2.2.2.2
noncomputable def loI (a b : Array Keyed) (g : Nat) (c : LoC) : StateT SortSt Sem (ForInStep LoC) := do
  let y ← elem' b c.2.2.2.1
  let x ← elem' a c.2.2.1
  let r ← lt' y x
  match r with
  | some bWins =>
    if bWins = true then do
      let y ← elem' b c.2.2.2.1
      if (c.2.2.2.1 + 1 == b.size) = true then pure (.done (some (loD a b (c.2.1.push y) c.2.2.1 (c.2.2.2.1 + 1)), c.2.1.push y, c.2.2.1, c.2.2.2.1 + 1, 0, c.2.2.2.2.2 + 1))
      else if c.2.2.2.2.2 + 1 ≥ g then pure (.done (none, c.2.1.push y, c.2.2.1, c.2.2.2.1 + 1, 0, c.2.2.2.2.2 + 1)) else pure (.yield (none, c.2.1.push y, c.2.2.1, c.2.2.2.1 + 1, 0, c.2.2.2.2.2 + 1))
    else do
      let x ← elem' a c.2.2.1
      if (c.2.2.1 + 1 + 1 == a.size) = true then pure (.done (some (loL a b (c.2.1.push x) (c.2.2.1 + 1) c.2.2.2.1), c.2.1.push x, c.2.2.1 + 1, c.2.2.2.1, c.2.2.2.2.1 + 1, 0))
      else if c.2.2.2.2.1 + 1 ≥ g then pure (.done (none, c.2.1.push x, c.2.2.1 + 1, c.2.2.2.1, c.2.2.2.2.1 + 1, 0)) else pure (.yield (none, c.2.1.push x, c.2.2.1 + 1, c.2.2.2.1, c.2.2.2.2.1 + 1, 0))
  | _ => pure (.done (some (loD a b c.2.1 c.2.2.1 c.2.2.2.1), c.2.1, c.2.2.1, c.2.2.2.1, c.2.2.2.2.1, c.2.2.2.2.2))
noncomputable def loO (a b : Array Keyed) (c : LoT) : StateT SortSt Sem (ForInStep LoT) := do
  let e ← forIn [0:a.size + b.size] (none, c.2.1, c.2.2.1, c.2.2.2.1, 0, 0) fun _ e => loI a b c.2.2.2.2 e
  match e.1 with
  | some r => pure (.done (some r, e.2.1, e.2.2.1, e.2.2.2.1, c.2.2.2.2))
  | none => do
    rule "list.sort.gallop"
    let f ← forIn [0:a.size + b.size] (none, e.2.1, e.2.2.1, e.2.2.2.1, c.2.2.2.2 + 1, e.2.2.2.2.1, e.2.2.2.2.2) fun _ f => loG a b f
    match f.1 with
    | some r => pure (.done (some r, f.2.1, f.2.2.1, f.2.2.2.1, f.2.2.2.2.1))
    | none => do
      setMinGallop' (f.2.2.2.2.1 + 1)
      pure (.yield (none, f.2.1, f.2.2.1, f.2.2.2.1, f.2.2.2.2.1 + 1))
theorem mergeLo'_eq2 (a b : Array Keyed) : mergeLo' a b = (do
  rule "list.sort.merge-lo"
  let y ← elem' b 0
  if (1 == b.size) = true then pure (loD a b #[y] 0 1)
  else if (0 + 1 == a.size) = true then pure (loL a b #[y] 0 1)
  else do
    let st ← get
    let c ← forIn [0:a.size + b.size] (none, #[y], 0, 1, gallopOf st) fun _ c => loO a b c
    match c.1 with
    | some r => pure r
    | none => liftM (unsupported (α := Array Keyed) "internal:list.sort.merge-bound")) := by
  rw [mergeLo'_eq]
  dsimp only [loO, loG, loP1, loP2, loP3, loI, loD, loL, LoS, LoC, LoT]
  kernel_rfl

structure LoH (st : SortSt) (a b : Array Keyed) : Prop where
  hk : kindOf st = oneType'
  hna : NumKeys a.toList
  hnb : NumKeys b.toList
  ha : Asc a.toList
  hb : Asc b.toList
  hlast : ∀ x, a[a.size - 1]? = some x → ∀ y ∈ b.toList, kyOf y < kyOf x
noncomputable def MgFin (st : SortSt) (a b : Array Keyed) (r : Option (Array Keyed)) (st' : SortSt) : Prop := ∃ x, r = some x ∧ x.toList = mg kyOf a.toList b.toList ∧ ∃ g', st' = setG st g'
structure LoAt (st : SortSt) (a b out : Array Keyed) (ia ib n : Nat) (st' : SortSt) : Prop where
  lb : n ≤ ia + ib
  la : ia + 1 < a.size
  lb' : ib < b.size
  I : LoE a b out ia ib
  s : ∃ g', st' = setG st g'
noncomputable def LoMid (st : SortSt) (a b : Array Keyed) (n : Nat) (c : LoS) (st' : SortSt) : Prop := c.1 = none ∧ LoAt st a b c.2.1 c.2.2.1 c.2.2.2.1 n st'
noncomputable def LoMidC (st : SortSt) (a b : Array Keyed) (n : Nat) (c : LoC) (st' : SortSt) : Prop := c.1 = none ∧ LoAt st a b c.2.1 c.2.2.1 c.2.2.2.1 n st'
noncomputable def LoMidT (st : SortSt) (a b : Array Keyed) (n : Nat) (c : LoT) (st' : SortSt) : Prop := c.1 = none ∧ LoAt st a b c.2.1 c.2.2.1 c.2.2.2.1 n st'
noncomputable def LoPost (st : SortSt) (a b : Array Keyed) (n : Nat) (r : ForInStep LoS) (st' : SortSt) : Prop := match r with | .done c => MgFin st a b c.1 st' ∨ LoMid st a b n c st' | .yield c => LoMid st a b n c st'
noncomputable def LoPostC (st : SortSt) (a b : Array Keyed) (n : Nat) (r : ForInStep LoC) (st' : SortSt) : Prop := match r with | .done c => MgFin st a b c.1 st' ∨ LoMidC st a b n c st' | .yield c => LoMidC st a b n c st'
noncomputable def LoPostT (st : SortSt) (a b : Array Keyed) (n : Nat) (r : ForInStep LoT) (st' : SortSt) : Prop := match r with | .done c => MgFin st a b c.1 st' | .yield c => LoMidT st a b n c st'

section
variable {prog : Program} {w : World} {A : Around} {E : Value → Shared → Prop} {s : Shared} {st : SortSt} {a b out : Array Keyed} {ia ib n g' : Nat} {x y : Keyed}
theorem wpS_loP3 {g k k1 : Nat} (H : LoH st a b) (hI : LoE a b out ia ib) (hx : a[ia]? = some x) (hy : b[ib]? = some y) (hge : ¬ kyOf y < kyOf x) (h1 : n ≤ ia + 1 + ib) (h2 : ia + 1 < a.size) (h3 : ib < b.size) :
    wpS (model prog w) A E s (loP3 a b out ia ib g k k1) (LoPost st a b n) (setG st g') := by
  unfold loP3
  refine wpS_bind (wpS_elem hx ?_)
  have hI := hI.ta hy hx hge
  by_cases c7 : (ia + 1 + 1 == a.size) = true
  · rw [if_pos c7]
    exact wpS_pure (.inl ⟨_, rfl, hI.last (eq_of_beq c7) H.hlast, _, rfl⟩)
  · rw [if_neg c7]
    have c7 := ne_of_beq_false (Bool.not_eq_true _ ▸ c7)
    have L : LoAt st a b (out.push x) (ia + 1) ib n (setG st g') := ⟨h1, by (first | lia | omega), h3, hI, _, rfl⟩
    split
    · exact wpS_pure (.inr ⟨rfl, L⟩)
    · exact wpS_pure ⟨rfl, L⟩
theorem wpS_loP2 {g k q : Nat} (H : LoH st a b) (hI : LoE a b out ia ib) (hx : a[ia]? = some x) (hy : b[ib]? = some y) (hlt : kyOf y < kyOf x) (h1 : n ≤ ia + ib + 1) (h2 : ia + 1 < a.size) (h3 : ib < b.size) :
    wpS (model prog w) A E s (loP2 a b out ia ib g k q) (LoPost st a b n) (setG st g') := by
  unfold loP2
  refine wpS_bind (wpS_elem hy ?_)
  have hI := hI.tb hy hx hlt
  by_cases c5 : (ib + 1 == b.size) = true
  · rw [if_pos c5]
    exact wpS_pure (.inl ⟨_, rfl, hI.done (.inl (eq_of_beq c5)), _, rfl⟩)
  rw [if_neg c5]
  have c5 := ne_of_beq_false (Bool.not_eq_true _ ▸ c5)
  refine wpS_bind (wpS_elem hx ?_)
  refine wpS_bind (wpS_gal H.hk (H.hna.at hx) H.hnb H.hb (by omega) (by omega) fun j j1 j2 j3 => ?_)
  dsimp only
  by_cases j0 : j > 0
  · rw [if_pos j0]
    have hI := hI.gb H.ha hx (by omega) j2
    by_cases c6 : (ib + 1 + j == b.size) = true
    · rw [if_pos c6]
      exact wpS_pure (.inl ⟨_, rfl, hI.done (.inl (eq_of_beq c6)), _, rfl⟩)
    rw [if_neg c6]
    have c6 := ne_of_beq_false (Bool.not_eq_true _ ▸ c6)
    obtain ⟨y2, hy2⟩ := some_at (xs := b) (i := ib + 1 + j) (by omega)
    exact wpS_loP3 H hI hx hy2 (byd_t hy2 (j3 j (Nat.le_refl _) (by omega))) (by omega) h2 (by omega)
  · rw [if_neg j0]
    obtain ⟨y2, hy2⟩ := some_at (xs := b) (i := ib + 1) (by omega)
    exact wpS_loP3 H hI hx hy2 (byd_t (i := 0) hy2 (j3 0 (by omega) (by omega))) (by omega) h2 (by omega)
theorem wpS_loP1 {g p q : Nat} (H : LoH st a b) (hI : LoE a b out ia ib) (h1 : n ≤ ia + ib + 1) (h2 : ia + 1 < a.size) (h3 : ib < b.size) :
    wpS (model prog w) A E s (loP1 a b out ia ib g p q) (LoPost st a b n) (setG st g') := by
  unfold loP1
  refine wpS_bind (wpS_setMG ?_)
  obtain ⟨y, hy⟩ := some_at (xs := b) (i := ib) (by (first | lia | omega))
  refine wpS_bind (wpS_elem hy ?_)
  refine wpS_bind (wpS_gal H.hk (H.hnb.at hy) H.hna H.ha (by (first | lia | omega)) (by (first | lia | omega)) fun k k1 k2 k3 => ?_)
  dsimp only
  by_cases k0 : k > 0
  · rw [if_pos k0]
    have hI := hI.ga H.hb hy (by (first | lia | omega)) k2
    by_cases c3 : (ia + k + 1 == a.size) = true
    · rw [if_pos c3]
      exact wpS_pure (.inl ⟨_, rfl, hI.last (eq_of_beq c3) H.hlast, _, rfl⟩)
    rw [if_neg c3]
    have c3 := ne_of_beq_false (Bool.not_eq_true _ ▸ c3)
    by_cases c4 : (ia + k == a.size) = true
    · rw [if_pos c4]
      exact wpS_pure (.inl ⟨_, rfl, hI.done (.inr (eq_of_beq c4)), _, rfl⟩)
    rw [if_neg c4]
    have c4 := ne_of_beq_false (Bool.not_eq_true _ ▸ c4)
    obtain ⟨x, hx⟩ := some_at (xs := a) (i := ia + k) (by (first | lia | omega))
    exact wpS_loP2 H hI hx hy (byd_f hx (k3 k (Nat.le_refl _) (by (first | lia | omega)))) (by (first | lia | omega)) (by (first | lia | omega)) h3
  · rw [if_neg k0]
    obtain ⟨x, hx⟩ := some_at (xs := a) (i := ia) (by (first | lia | omega))
    exact wpS_loP2 H hI hx hy (byd_f (i := 0) hx (k3 0 (by (first | lia | omega)) (by (first | lia | omega)))) h1 h2 h3
theorem wpS_loG {c : LoS} {m : Nat} {st' : SortSt} (H : LoH st a b) (L : LoMid st a b m c st') (hn : n ≤ m + 1) : wpS (model prog w) A E s (loG a b c) (LoPost st a b n) st' := by
  obtain ⟨_, ⟨l1, l2, l3, I, g', rfl⟩⟩ := L
  unfold loG
  split
  · exact wpS_loP1 H I (by (first | lia | omega)) l2 l3
  · exact wpS_loP1 H I (by (first | lia | omega)) l2 l3
theorem wpS_loI {c : LoC} {m g : Nat} {st' : SortSt} (H : LoH st a b) (L : LoMidC st a b m c st') (hn : n ≤ m + 1) : wpS (model prog w) A E s (loI a b g c) (LoPostC st a b n) st' := by
  obtain ⟨e0, out, ia, ib, p, q⟩ := c
  obtain ⟨_, ⟨l1, l2, l3, I, g', rfl⟩⟩ := L
  dsimp only at l1 l2 l3 I
  unfold loI
  obtain ⟨y, hy⟩ := some_at (xs := b) (i := ib) (by (first | lia | omega))
  obtain ⟨x, hx⟩ := some_at (xs := a) (i := ia) (by (first | lia | omega))
  refine wpS_bind (wpS_elem hy (wpS_bind (wpS_elem hx (wpS_bind (wpS_lt H.hk (H.hnb.at hy) (H.hna.at hx) ?_)))))
  dsimp only
  by_cases hlt : kyOf y < kyOf x
  · rw [if_pos (by simpa using hlt)]
    refine wpS_bind (wpS_elem hy ?_)
    have hI := I.tb hy hx hlt
    by_cases c3 : (ib + 1 == b.size) = true
    · rw [if_pos c3]
      exact wpS_pure (.inl ⟨_, rfl, hI.done (.inl (eq_of_beq c3)), _, rfl⟩)
    · rw [if_neg c3]
      have c3 := ne_of_beq_false (Bool.not_eq_true _ ▸ c3)
      have L : LoAt st a b (out.push y) ia (ib + 1) n (setG st g') := ⟨by (first | lia | omega), l2, by (first | lia | omega), hI, _, rfl⟩
      split
      · exact wpS_pure (.inr ⟨rfl, L⟩)
      · exact wpS_pure ⟨rfl, L⟩
  · rw [if_neg (by simpa using hlt)]
    refine wpS_bind (wpS_elem hx ?_)
    have hI := I.ta hy hx hlt
    by_cases c3 : (ia + 1 + 1 == a.size) = true
    · rw [if_pos c3]
      exact wpS_pure (.inl ⟨_, rfl, hI.last (eq_of_beq c3) H.hlast, _, rfl⟩)
    · rw [if_neg c3]
      have c3 := ne_of_beq_false (Bool.not_eq_true _ ▸ c3)
      have L : LoAt st a b (out.push x) (ia + 1) ib n (setG st g') := ⟨by (first | lia | omega), by (first | lia | omega), l3, hI, _, rfl⟩
      split
      · exact wpS_pure (.inr ⟨rfl, L⟩)
      · exact wpS_pure ⟨rfl, L⟩
theorem LoAt.le {m : Nat} {st' : SortSt} (L : LoAt st a b out ia ib n st') (h : m ≤ n) : LoAt st a b out ia ib m st' := ⟨Nat.le_trans h L.lb, L.la, L.lb', L.I, L.s⟩
theorem wpS_loO {c : LoT} {m : Nat} {st' : SortSt} (H : LoH st a b) (L : LoMidT st a b m c st') (hn : n ≤ m + 1) : wpS (model prog w) A E s (loO a b c) (LoPostT st a b n) st' := by
  unfold loO
  refine wpS_bind (wpS_mono (wpS_forRange (I := fun z e st' => LoMidC st a b (m + z) e st') (Q := fun e st' => MgFin st a b e.1 st' ∨ LoMidC st a b (m + 1) e st')
    (fun z e st' _ _ L' => wpS_mono (wpS_loI (n := m + z + 1) H L' (Nat.le_refl _)) fun r st'' p => ?_) (fun e st' L' => ?_) ?_) fun e st' p => ?_)
  · cases r with
    | done e => exact p.imp id fun q => ⟨q.1, q.2.le (by (first | lia | omega))⟩
    | yield e => exact p
  · have := L'.2.lb; have := L'.2.la; have := L'.2.lb'; (first | lia | omega)
  · exact ⟨rfl, L.2⟩
  · rcases p with p | p
    · obtain ⟨r, e1, q⟩ := p
      rw [e1]
      exact wpS_pure ⟨r, rfl, q⟩
    · rw [p.1]
      refine wpS_bind (wpS_lift (wpAny_rule ⟨rfl, ?_⟩))
      refine wpS_bind (wpS_mono (wpS_forRange (I := fun z e st' => LoMid st a b (m + 1 + z) e st') (Q := fun e st' => MgFin st a b e.1 st' ∨ LoMid st a b (m + 1) e st')
        (fun z e st' _ _ L' => wpS_mono (wpS_loG (n := m + 1 + z + 1) H L' (Nat.le_refl _)) fun r st'' p => ?_) (fun e st' L' => ?_) ?_) fun f st' p => ?_)
      · cases r with
        | done e => exact p.imp id fun q => ⟨q.1, q.2.le (by (first | lia | omega))⟩
        | yield e => exact p
      · have := L'.2.lb; have := L'.2.la; have := L'.2.lb'; (first | lia | omega)
      · exact ⟨rfl, p.2⟩
      · rcases p with p | p
        · obtain ⟨r, e1, q⟩ := p
          rw [e1]
          exact wpS_pure ⟨r, rfl, q⟩
        · rw [p.1]
          obtain ⟨_, ⟨l1, l2, l3, I, g', rfl⟩⟩ := p
          exact wpS_bind (wpS_setMG (wpS_pure ⟨rfl, (by show n ≤ f.2.2.1 + f.2.2.2.1; (first | lia | omega)), l2, l3, I, _, rfl⟩))
theorem wpS_mergeLo {Q : Array Keyed → SortSt → Prop} (hk : kindOf st = oneType') (hna : NumKeys a.toList) (hnb : NumKeys b.toList)
    (ha : Asc a.toList) (hb : Asc b.toList) (ha0 : 1 ≤ a.size) (hb0 : 1 ≤ b.size)
    (hfirst : ∀ y, b[0]? = some y → ∀ x ∈ a.toList, kyOf y < kyOf x) (hlast : ∀ x, a[a.size - 1]? = some x → ∀ y ∈ b.toList, kyOf y < kyOf x)
    (h : ∀ g out, out.toList = mg kyOf a.toList b.toList → Q out (setG st g)) :
    wpS (model prog w) A E s (mergeLo' a b) Q st := by
  rw [mergeLo'_eq2]
  have H : LoH st a b := ⟨hk, hna, hnb, ha, hb, hlast⟩
  refine wpS_bind (wpS_lift (wpAny_rule ⟨rfl, ?_⟩))
  obtain ⟨y0, hy0⟩ := some_at (xs := b) (i := 0) (by (first | lia | omega))
  obtain ⟨x0, hx0⟩ := some_at (xs := a) (i := 0) (by (first | lia | omega))
  have hI : LoE a b #[y0] 0 1 := by
    have h0 : LoE a b #[] 0 0 := by unfold LoE; simp
    exact h0.tb hy0 hx0 (hfirst _ hy0 _ (by obtain ⟨hi, rfl⟩ := Array.getElem?_eq_some_iff.mp hx0; simp))
  have hst : st = setG st (gallopOf st) := rfl
  refine wpS_bind (wpS_elem hy0 ?_)
  by_cases c1 : (1 == b.size) = true
  · rw [if_pos c1, hst]
    exact wpS_pure (h _ _ (hI.done (.inl (eq_of_beq c1))))
  rw [if_neg c1]
  have c1 := ne_of_beq_false (Bool.not_eq_true _ ▸ c1)
  by_cases c2 : (0 + 1 == a.size) = true
  · rw [if_pos c2, hst]
    exact wpS_pure (h _ _ (hI.last (eq_of_beq c2) hlast))
  rw [if_neg c2]
  have c2 := ne_of_beq_false (Bool.not_eq_true _ ▸ c2)
  refine wpS_bind (wpS_get ?_)
  refine wpS_bind (wpS_mono (wpS_forRange (I := fun x c st' => LoMidT st a b (x + 1) c st') (Q := fun c st' => MgFin st a b c.1 st')
    (fun z e st' _ _ L' => wpS_mono (wpS_loO (n := z + 1 + 1) H L' (Nat.le_refl _)) fun r st'' p => ?_) (fun e st' L' => ?_) ?_) fun c st' p => ?_)
  · cases r with
    | done e => exact p
    | yield e => exact p
  · have := L'.2.lb; have := L'.2.la; have := L'.2.lb'; (first | lia | omega)
  · exact ⟨rfl, (by show 0 + 1 ≤ 0 + 1; (first | lia | omega)), (by show 0 + 1 < a.size; (first | lia | omega)), (by show 1 < b.size; (first | lia | omega)), hI, _, hst⟩
  · obtain ⟨r, e1, e2, g', rfl⟩ := p
    rw [e1]
    exact wpS_pure (h _ _ e2)
end
end Mine

namespace Mine
noncomputable def mergeHi' : Array Keyed → Array Keyed → StateT SortSt Sem (Array Keyed) := sortPriv% PySem.Builtin.mergeHi
theorem mergeHi'_eq (a b : Array Keyed) : mergeHi' a b = (do
  rule "list.sort.merge-hi"
  let total := a.size + b.size
  let done (out : Array Keyed) (na nb : Nat) := a.extract 0 na ++ b.extract 0 nb ++ out.reverse
  let firstOfB (out : Array Keyed) (na nb : Nat) := b.extract 0 nb ++ a.extract 0 na ++ out.reverse
  let mut na := a.size - 1
  let mut nb := b.size
  let mut out : Array Keyed := #[← elem' a na]
  if na == 0 then return done out na nb
  if nb == 1 then return firstOfB out na nb
  let mut minGallop := gallopOf (← get)
  for _ in [0:total] do
    let mut acount := 0
    let mut bcount := 0
    for _ in [0:total] do
      let some aWins ← lt' (← elem' b (nb - 1)) (← elem' a (na - 1)) | return done out na nb
      if aWins then
        na := na - 1; out := out.push (← elem' a na); acount := acount + 1; bcount := 0
        if na == 0 then return done out na nb
        if acount ≥ minGallop then break
      else
        nb := nb - 1; out := out.push (← elem' b nb); bcount := bcount + 1; acount := 0
        if nb == 1 then return firstOfB out na nb
        if bcount ≥ minGallop then break
    rule "list.sort.gallop"
    minGallop := minGallop + 1
    for _ in [0:total] do
      if minGallop > 1 then minGallop := minGallop - 1
      setMinGallop' minGallop
      let some at_ ← gallop' false (← elem' b (nb - 1)) a 0 na (na - 1) | return done out na nb
      let k := na - at_
      acount := k
      if k > 0 then
        out := out ++ (a.extract at_ na).reverse; na := at_
        if na == 0 then return done out na nb
      nb := nb - 1; out := out.push (← elem' b nb)
      if nb == 1 then return firstOfB out na nb
      let some at_ ← gallop' true (← elem' a (na - 1)) b 0 nb (nb - 1) | return done out na nb
      let k := nb - at_
      bcount := k
      if k > 0 then
        out := out ++ (b.extract at_ nb).reverse; nb := at_
        if nb == 1 then return firstOfB out na nb
        if nb == 0 then return done out na nb
      na := na - 1; out := out.push (← elem' a na)
      if na == 0 then return done out na nb
      if acount < 7 && bcount < 7 then break
    minGallop := minGallop + 1
    setMinGallop' minGallop
  unsupported "internal:list.sort.merge-bound") := rfl

theorem take_at {xs : Array Keyed} {i : Nat} {x : Keyed} (h : xs[i]? = some x) : xs.toList.take (i + 1) = xs.toList.take i ++ [x] := by
  obtain ⟨hi, rfl⟩ := Array.getElem?_eq_some_iff.mp h
  rw [List.take_succ_eq_append_getElem (by simpa using hi)]
  simp

theorem extract_take (xs : Array Keyed) (i : Nat) : (xs.extract 0 i).toList = xs.toList.take i := by
  rw [Array.toList_extract, List.extract_eq_drop_take]
  simp

theorem take_ext {xs : Array Keyed} {i k : Nat} (h : i ≤ k) : xs.toList.take k = xs.toList.take i ++ (xs.extract i k).toList := by
  rw [Array.toList_extract, List.extract_eq_drop_take, ← List.drop_take]
  rw [show xs.toList.take i = (xs.toList.take k).take i by rw [List.take_take, Nat.min_eq_left h], List.take_append_drop]

theorem mem_take' {xs : Array Keyed} {i : Nat} {z : Keyed} (h : z ∈ xs.toList.take i) : ∃ q, q < i ∧ xs[q]? = some z := by
  rw [← extract_take] at h
  obtain ⟨q, _, q2, q3⟩ := mem_extract h
  exact ⟨q, q2, q3⟩

noncomputable def HiE (a b out : Array Keyed) (na nb : Nat) : Prop := mg kyOf (a.toList.take na) (b.toList.take nb) ++ out.toList.reverse = mg kyOf a.toList b.toList

section
variable {a b out : Array Keyed} {na nb k : Nat} {x y : Keyed}

theorem HiE.ta (h : HiE a b out (na + 1) (nb + 1)) (hb : Asc b.toList) (hy : b[nb]? = some y) (hx : a[na]? = some x) (hl : kyOf y < kyOf x) : HiE a b (out.push x) na (nb + 1) := by
  unfold HiE at h ⊢
  rw [take_at hx, mg_above_l] at h
  · rw [Array.toList_push, List.reverse_append]
    rw [List.append_assoc] at h
    exact h
  · intro z hz y' hy'
    rw [List.mem_singleton] at hz
    subst hz
    obtain ⟨q, q1, q2⟩ := mem_take' hy'
    have := hb.le (by (first | lia | omega)) q2 hy
    (first | lia | omega)

theorem HiE.tb (h : HiE a b out (na + 1) (nb + 1)) (ha : Asc a.toList) (hy : b[nb]? = some y) (hx : a[na]? = some x) (hl : ¬ kyOf y < kyOf x) : HiE a b (out.push y) (na + 1) nb := by
  unfold HiE at h ⊢
  rw [take_at hy, mg_above_r] at h
  · rw [Array.toList_push, List.reverse_append]
    rw [List.append_assoc] at h
    exact h
  · intro z hz x' hx'
    rw [List.mem_singleton] at hz
    subst hz
    obtain ⟨q, q1, q2⟩ := mem_take' hx'
    have := ha.le (by (first | lia | omega)) q2 hx
    (first | lia | omega)

theorem HiE.ga (h : HiE a b out na (nb + 1)) (hb : Asc b.toList) (hy : b[nb]? = some y) (hk : k ≤ na) (hg : ∀ i, k ≤ i → i < na → byd false y a 0 i = false) :
    HiE a b (out ++ (a.extract k na).reverse) k (nb + 1) := by
  unfold HiE at h ⊢
  rw [take_ext hk, mg_above_l] at h
  · rw [Array.toList_append, List.reverse_append, Array.toList_reverse, List.reverse_reverse]
    rw [List.append_assoc] at h
    exact h
  · intro z hz y' hy'
    obtain ⟨q, q1, q2, q3⟩ := mem_extract hz
    obtain ⟨r, r1, r2⟩ := mem_take' hy'
    have g := byd_f (base := 0) (i := q) (by rw [Nat.zero_add]; exact q3) (hg q q1 q2)
    have := hb.le (by (first | lia | omega)) r2 hy
    (first | lia | omega)

theorem HiE.gb (h : HiE a b out (na + 1) nb) (ha : Asc a.toList) (hx : a[na]? = some x) (hk : k ≤ nb) (hg : ∀ i, k ≤ i → i < nb → byd true x b 0 i = false) :
    HiE a b (out ++ (b.extract k nb).reverse) (na + 1) k := by
  unfold HiE at h ⊢
  rw [take_ext hk, mg_above_r] at h
  · rw [Array.toList_append, List.reverse_append, Array.toList_reverse, List.reverse_reverse]
    rw [List.append_assoc] at h
    exact h
  · intro z hz x' hx'
    obtain ⟨q, q1, q2, q3⟩ := mem_extract hz
    obtain ⟨r, r1, r2⟩ := mem_take' hx'
    have g := byd_t (base := 0) (i := q) (by rw [Nat.zero_add]; exact q3) (hg q q1 q2)
    have := ha.le (by (first | lia | omega)) r2 hx
    (first | lia | omega)

theorem HiE.done (h : HiE a b out na nb) (e : na = 0 ∨ nb = 0) : (a.extract 0 na ++ b.extract 0 nb ++ out.reverse).toList = mg kyOf a.toList b.toList := by
  unfold HiE at h
  rw [Array.toList_append, Array.toList_append, extract_take, extract_take, Array.toList_reverse, ← h]
  congr 1
  rcases e with rfl | rfl
  · rw [List.take_zero, mg_nil_l]; rfl
  · rw [List.take_zero, mg_nil_r, List.append_nil]

theorem HiE.first (h : HiE a b out na nb) (e : nb = 1) (h1 : 1 ≤ b.size) (hf : ∀ y, b[0]? = some y → ∀ x ∈ a.toList, kyOf y < kyOf x) :
    (b.extract 0 nb ++ a.extract 0 na ++ out.reverse).toList = mg kyOf a.toList b.toList := by
  subst e
  unfold HiE at h
  rw [Array.toList_append, Array.toList_append, extract_take, extract_take, Array.toList_reverse, ← h]
  congr 1
  obtain ⟨y, hy⟩ := some_at (xs := b) (i := 0) (by (first | lia | omega))
  have e := take_at hy
  rw [List.take_zero, List.nil_append, Nat.zero_add] at e
  have := mg_right (κ := kyOf) (zs := [y]) (xs := a.toList.take na) (ys := []) (fun z hz x hx => by
    rw [List.mem_singleton] at hz
    subst hz
    exact hf _ hy x (List.mem_of_mem_take hx))
  rw [List.append_nil, mg_nil_r] at this
  rw [e, this]
end

section
variable {prog : Program} {w : World} {A : Around} {E : Value → Shared → Prop} {s : Shared}

theorem byd_f' {arr : Array Keyed} {key x : Keyed} {base i : Nat} (hx : arr[base + i]? = some x) (h : byd false key arr base i = true) : ¬ kyOf key < kyOf x := by
  unfold byd at h; rw [hx] at h; simpa using h
theorem byd_t' {arr : Array Keyed} {key x : Keyed} {base i : Nat} (hx : arr[base + i]? = some x) (h : byd true key arr base i = true) : kyOf x < kyOf key := by
  unfold byd at h; rw [hx] at h; simpa using h

/-! ### the merge from the right, in named steps -/
noncomputable abbrev HiS := Option (Array Keyed) × Nat × Nat × Array Keyed × Nat × Nat × Nat
noncomputable abbrev HiC := Option (Array Keyed) × Nat × Nat × Array Keyed × Nat × Nat
noncomputable abbrev HiT := Option (Array Keyed) × Nat × Nat × Array Keyed × Nat
noncomputable def hiD (a b out : Array Keyed) (na nb : Nat) : Array Keyed := a.extract 0 na ++ b.extract 0 nb ++ out.reverse
noncomputable def hiF (a b out : Array Keyed) (na nb : Nat) : Array Keyed := b.extract 0 nb ++ a.extract 0 na ++ out.reverse
noncomputable def hiP3 (a b out : Array Keyed) (na nb g k k1 : Nat) : StateT SortSt Sem (ForInStep HiS) := do
  let x ← elem' a (na - 1)
  if (na - 1 == 0) = true then pure (.done (some (hiD a b (out.push x) (na - 1) nb), na - 1, nb, out.push x, g, k, k1))
  else if (decide (k < 7) && decide (k1 < 7)) = true then pure (.done (none, na - 1, nb, out.push x, g, k, k1)) else pure (.yield (none, na - 1, nb, out.push x, g, k, k1))
noncomputable def hiP2 (a b out : Array Keyed) (na nb g k q : Nat) : StateT SortSt Sem (ForInStep HiS) := do
  let y ← elem' b (nb - 1)
  if (nb - 1 == 1) = true then pure (.done (some (hiF a b (out.push y) na (nb - 1)), na, nb - 1, out.push y, g, k, q))
  else do
    let x ← elem' a (na - 1)
    let r ← gallop' true x b 0 (nb - 1) (nb - 1 - 1)
    match r with
    | some t =>
      if nb - 1 - t > 0 then
        if (t == 1) = true then pure (.done (some (hiF a b (out.push y ++ (b.extract t (nb - 1)).reverse) na t), na, t, out.push y ++ (b.extract t (nb - 1)).reverse, g, k, nb - 1 - t))
        else if (t == 0) = true then pure (.done (some (hiD a b (out.push y ++ (b.extract t (nb - 1)).reverse) na t), na, t, out.push y ++ (b.extract t (nb - 1)).reverse, g, k, nb - 1 - t))
        else hiP3 a b (out.push y ++ (b.extract t (nb - 1)).reverse) na t g k (nb - 1 - t)
      else hiP3 a b (out.push y) na (nb - 1) g k (nb - 1 - t)
    | _ => pure (.done (some (hiD a b (out.push y) na (nb - 1)), na, nb - 1, out.push y, g, k, q))
noncomputable def hiP1 (a b out : Array Keyed) (na nb g p q : Nat) : StateT SortSt Sem (ForInStep HiS) := do
  setMinGallop' g
  let y ← elem' b (nb - 1)
  let r ← gallop' false y a 0 na (na - 1)
  match r with
  | some t =>
    if na - t > 0 then
      if (t == 0) = true then pure (.done (some (hiD a b (out ++ (a.extract t na).reverse) t nb), t, nb, out ++ (a.extract t na).reverse, g, na - t, q))
      else hiP2 a b (out ++ (a.extract t na).reverse) t nb g (na - t) q
    else hiP2 a b out na nb g (na - t) q
  | _ => pure (.done (some (hiD a b out na nb), na, nb, out, g, p, q))
noncomputable def hiG (a b : Array Keyed) (c : HiS) : StateT SortSt Sem (ForInStep HiS) :=
  if c.2.2.2.2.1 > 1 then hiP1 a b c.2.2.2.1 c.2.1 c.2.2.1 (c.2.2.2.2.1 - 1) c.2.2.2.2.2.1 c.2.2.2.2.2.2 else hiP1 a b c.2.2.2.1 c.2.1 c.2.2.1 c.2.2.2.2.1 c.2.2.2.2.2.1 c.2.2.2.2.2.2
noncomputable def hiI (a b : Array Keyed) (g : Nat) (c : HiC) : StateT SortSt Sem (ForInStep HiC) := do
  let y ← elem' b (c.2.2.1 - 1)
  let x ← elem' a (c.2.1 - 1)
  let r ← lt' y x
  match r with
  | some aWins =>
    if aWins = true then do
      let x ← elem' a (c.2.1 - 1)
      if (c.2.1 - 1 == 0) = true then pure (.done (some (hiD a b (c.2.2.2.1.push x) (c.2.1 - 1) c.2.2.1), c.2.1 - 1, c.2.2.1, c.2.2.2.1.push x, c.2.2.2.2.1 + 1, 0))
      else if c.2.2.2.2.1 + 1 ≥ g then pure (.done (none, c.2.1 - 1, c.2.2.1, c.2.2.2.1.push x, c.2.2.2.2.1 + 1, 0)) else pure (.yield (none, c.2.1 - 1, c.2.2.1, c.2.2.2.1.push x, c.2.2.2.2.1 + 1, 0))
    else do
      let y ← elem' b (c.2.2.1 - 1)
      if (c.2.2.1 - 1 == 1) = true then pure (.done (some (hiF a b (c.2.2.2.1.push y) c.2.1 (c.2.2.1 - 1)), c.2.1, c.2.2.1 - 1, c.2.2.2.1.push y, 0, c.2.2.2.2.2 + 1))
      else if c.2.2.2.2.2 + 1 ≥ g then pure (.done (none, c.2.1, c.2.2.1 - 1, c.2.2.2.1.push y, 0, c.2.2.2.2.2 + 1)) else pure (.yield (none, c.2.1, c.2.2.1 - 1, c.2.2.2.1.push y, 0, c.2.2.2.2.2 + 1))
  | _ => pure (.done (some (hiD a b c.2.2.2.1 c.2.1 c.2.2.1), c.2.1, c.2.2.1, c.2.2.2.1, c.2.2.2.2.1, c.2.2.2.2.2))
noncomputable def hiO (a b : Array Keyed) (c : HiT) : StateT SortSt Sem (ForInStep HiT) := do
  let e ← forIn [0:a.size + b.size] (none, c.2.1, c.2.2.1, c.2.2.2.1, 0, 0) fun _ e => hiI a b c.2.2.2.2 e
  match e.1 with
  | some r => pure (.done (some r, e.2.1, e.2.2.1, e.2.2.2.1, c.2.2.2.2))
  | none => do
    rule "list.sort.gallop"
    let f ← forIn [0:a.size + b.size] (none, e.2.1, e.2.2.1, e.2.2.2.1, c.2.2.2.2 + 1, e.2.2.2.2.1, e.2.2.2.2.2) fun _ f => hiG a b f
    match f.1 with
    | some r => pure (.done (some r, f.2.1, f.2.2.1, f.2.2.2.1, f.2.2.2.2.1))
    | none => do
      setMinGallop' (f.2.2.2.2.1 + 1)
      pure (.yield (none, f.2.1, f.2.2.1, f.2.2.2.1, f.2.2.2.2.1 + 1))
theorem mergeHi'_eq2 (a b : Array Keyed) : mergeHi' a b = (do
  rule "list.sort.merge-hi"
  let x ← elem' a (a.size - 1)
  if (a.size - 1 == 0) = true then pure (hiD a b #[x] (a.size - 1) b.size)
  else if (b.size == 1) = true then pure (hiF a b #[x] (a.size - 1) b.size)
  else do
    let st ← get
    let c ← forIn [0:a.size + b.size] (none, a.size - 1, b.size, #[x], gallopOf st) fun _ c => hiO a b c
    match c.1 with
    | some r => pure r
    | none => liftM (unsupported (α := Array Keyed) "internal:list.sort.merge-bound")) := by
  rw [mergeHi'_eq]
  dsimp only [hiO, hiG, hiP1, hiP2, hiP3, hiI, hiD, hiF, HiS, HiC, HiT]
  kernel_rfl
structure HiH (st : SortSt) (a b : Array Keyed) : Prop where
  hk : kindOf st = oneType'
  hna : NumKeys a.toList
  hnb : NumKeys b.toList
  ha : Asc a.toList
  hb : Asc b.toList
  hb0 : 1 ≤ b.size
  hfirst : ∀ y, b[0]? = some y → ∀ x ∈ a.toList, kyOf y < kyOf x
structure HiAt (st : SortSt) (a b out : Array Keyed) (na nb n : Nat) (st' : SortSt) : Prop where
  lb : na + nb ≤ n
  la : 1 ≤ na
  lb' : 2 ≤ nb
  la2 : na ≤ a.size
  lb2 : nb ≤ b.size
  I : HiE a b out na nb
  s : ∃ g', st' = setG st g'
noncomputable def HiMid (st : SortSt) (a b : Array Keyed) (n : Nat) (c : HiS) (st' : SortSt) : Prop := c.1 = none ∧ HiAt st a b c.2.2.2.1 c.2.1 c.2.2.1 n st'
noncomputable def HiMidC (st : SortSt) (a b : Array Keyed) (n : Nat) (c : HiC) (st' : SortSt) : Prop := c.1 = none ∧ HiAt st a b c.2.2.2.1 c.2.1 c.2.2.1 n st'
noncomputable def HiMidT (st : SortSt) (a b : Array Keyed) (n : Nat) (c : HiT) (st' : SortSt) : Prop := c.1 = none ∧ HiAt st a b c.2.2.2.1 c.2.1 c.2.2.1 n st'
noncomputable def HiPost (st : SortSt) (a b : Array Keyed) (n : Nat) (r : ForInStep HiS) (st' : SortSt) : Prop := match r with | .done c => MgFin st a b c.1 st' ∨ HiMid st a b n c st' | .yield c => HiMid st a b n c st'
noncomputable def HiPostC (st : SortSt) (a b : Array Keyed) (n : Nat) (r : ForInStep HiC) (st' : SortSt) : Prop := match r with | .done c => MgFin st a b c.1 st' ∨ HiMidC st a b n c st' | .yield c => HiMidC st a b n c st'
noncomputable def HiPostT (st : SortSt) (a b : Array Keyed) (n : Nat) (r : ForInStep HiT) (st' : SortSt) : Prop := match r with | .done c => MgFin st a b c.1 st' | .yield c => HiMidT st a b n c st'
section
variable {prog : Program} {w : World} {A : Around} {E : Value → Shared → Prop} {s : Shared} {st : SortSt} {a b out : Array Keyed} {na nb n g' : Nat} {x y : Keyed}
theorem wpS_hiP3 {g k k1 : Nat} (H : HiH st a b) (hI : HiE a b out (na + 1) (nb + 1)) (hx : a[na]? = some x) (hy : b[nb]? = some y) (hge : kyOf y < kyOf x) (h1 : na + (nb + 1) ≤ n) (h2 : na + 1 ≤ a.size) (h3 : 1 ≤ nb) (h4 : nb + 1 ≤ b.size) :
    wpS (model prog w) A E s (hiP3 a b out (na + 1) (nb + 1) g k k1) (HiPost st a b n) (setG st g') := by
  unfold hiP3
  simp only [Nat.add_sub_cancel]
  refine wpS_bind (wpS_elem hx ?_)
  have hI := hI.ta H.hb hy hx hge
  by_cases c7 : (na == 0) = true
  · rw [if_pos c7]
    exact wpS_pure (.inl ⟨_, rfl, hI.done (.inl (eq_of_beq c7)), _, rfl⟩)
  · rw [if_neg c7]
    have c7 := ne_of_beq_false (Bool.not_eq_true _ ▸ c7)
    have L : HiAt st a b (out.push x) na (nb + 1) n (setG st g') := ⟨h1, by (first | lia | omega), by (first | lia | omega), by (first | lia | omega), h4, hI, _, rfl⟩
    split
    · exact wpS_pure (.inr ⟨rfl, L⟩)
    · exact wpS_pure ⟨rfl, L⟩
theorem wpS_hiP2 {g k q : Nat} (H : HiH st a b) (hI : HiE a b out (na + 1) (nb + 1)) (hx : a[na]? = some x) (hy : b[nb]? = some y) (hlt : ¬ kyOf y < kyOf x) (h1 : na + nb ≤ n) (h2 : na + 1 ≤ a.size) (h3 : 1 ≤ nb) (h4 : nb + 1 ≤ b.size) :
    wpS (model prog w) A E s (hiP2 a b out (na + 1) (nb + 1) g k q) (HiPost st a b n) (setG st g') := by
  unfold hiP2
  simp only [Nat.add_sub_cancel]
  refine wpS_bind (wpS_elem hy ?_)
  have hI := hI.tb H.ha hy hx hlt
  by_cases c5 : (nb == 1) = true
  · rw [if_pos c5]
    exact wpS_pure (.inl ⟨_, rfl, hI.first (eq_of_beq c5) H.hb0 H.hfirst, _, rfl⟩)
  rw [if_neg c5]
  have c5 := ne_of_beq_false (Bool.not_eq_true _ ▸ c5)
  refine wpS_bind (wpS_elem hx ?_)
  refine wpS_bind (wpS_gal H.hk (H.hna.at hx) H.hnb H.hb (by (first | lia | omega)) (by (first | lia | omega)) fun r2 j1 j2 j3 => ?_)
  dsimp only
  by_cases j0 : nb - r2 > 0
  · rw [if_pos j0]
    have hI := hI.gb H.ha hx (by (first | lia | omega)) j3
    by_cases c6 : (r2 == 1) = true
    · rw [if_pos c6]
      exact wpS_pure (.inl ⟨_, rfl, hI.first (eq_of_beq c6) H.hb0 H.hfirst, _, rfl⟩)
    rw [if_neg c6]
    have c6 := ne_of_beq_false (Bool.not_eq_true _ ▸ c6)
    by_cases c8 : (r2 == 0) = true
    · rw [if_pos c8]
      exact wpS_pure (.inl ⟨_, rfl, hI.done (.inr (eq_of_beq c8)), _, rfl⟩)
    rw [if_neg c8]
    have c8 := ne_of_beq_false (Bool.not_eq_true _ ▸ c8)
    obtain ⟨r3, rfl⟩ : ∃ r3, r2 = r3 + 1 := ⟨r2 - 1, by (first | lia | omega)⟩
    obtain ⟨y2, hy2⟩ := some_at (xs := b) (i := r3) (by (first | lia | omega))
    exact wpS_hiP3 H hI hx hy2 (byd_t' (base := 0) (i := r3) (by rw [Nat.zero_add]; exact hy2) (j2 r3 (by (first | lia | omega)))) (by (first | lia | omega)) h2 (by (first | lia | omega)) (by (first | lia | omega))
  · rw [if_neg j0]
    obtain ⟨r3, rfl⟩ : ∃ r3, nb = r3 + 1 := ⟨nb - 1, by (first | lia | omega)⟩
    obtain ⟨y2, hy2⟩ := some_at (xs := b) (i := r3) (by (first | lia | omega))
    exact wpS_hiP3 H hI hx hy2 (byd_t' (base := 0) (i := r3) (by rw [Nat.zero_add]; exact hy2) (j2 r3 (by (first | lia | omega)))) (by (first | lia | omega)) h2 (by (first | lia | omega)) (by (first | lia | omega))
theorem wpS_hiP1 {g p q : Nat} (H : HiH st a b) (hI : HiE a b out (na + 1) (nb + 1)) (h1 : na + nb ≤ n) (h2 : na + 1 ≤ a.size) (h3 : 1 ≤ nb) (h4 : nb + 1 ≤ b.size) :
    wpS (model prog w) A E s (hiP1 a b out (na + 1) (nb + 1) g p q) (HiPost st a b n) (setG st g') := by
  unfold hiP1
  refine wpS_bind (wpS_setMG ?_)
  simp only [Nat.add_sub_cancel]
  obtain ⟨y, hy⟩ := some_at (xs := b) (i := nb) (by (first | lia | omega))
  refine wpS_bind (wpS_elem hy ?_)
  refine wpS_bind (wpS_gal H.hk (H.hnb.at hy) H.hna H.ha (by (first | lia | omega)) (by (first | lia | omega)) fun r k1 k2 k3 => ?_)
  dsimp only
  by_cases k0 : na + 1 - r > 0
  · rw [if_pos k0]
    have hI := hI.ga H.hb hy (by (first | lia | omega)) k3
    by_cases c4 : (r == 0) = true
    · rw [if_pos c4]
      exact wpS_pure (.inl ⟨_, rfl, hI.done (.inl (eq_of_beq c4)), _, rfl⟩)
    rw [if_neg c4]
    have c4 := ne_of_beq_false (Bool.not_eq_true _ ▸ c4)
    obtain ⟨m, rfl⟩ : ∃ m, r = m + 1 := ⟨r - 1, by (first | lia | omega)⟩
    obtain ⟨x, hx⟩ := some_at (xs := a) (i := m) (by (first | lia | omega))
    exact wpS_hiP2 H hI hx hy (byd_f' (base := 0) (i := m) (by rw [Nat.zero_add]; exact hx) (k2 m (by (first | lia | omega)))) (by (first | lia | omega)) (by (first | lia | omega)) h3 h4
  · rw [if_neg k0]
    obtain ⟨x, hx⟩ := some_at (xs := a) (i := na) (by (first | lia | omega))
    exact wpS_hiP2 H hI hx hy (byd_f' (base := 0) (i := na) (by rw [Nat.zero_add]; exact hx) (k2 na (by (first | lia | omega)))) h1 h2 h3 h4
theorem wpS_hiG {c : HiS} {m : Nat} {st' : SortSt} (H : HiH st a b) (L : HiMid st a b m c st') (hn : m ≤ n + 1) : wpS (model prog w) A E s (hiG a b c) (HiPost st a b n) st' := by
  obtain ⟨e0, na, nb, out, g, p, q⟩ := c
  obtain ⟨_, ⟨l1, l2, l3, l4, l5, I, g', rfl⟩⟩ := L
  dsimp only at l1 l2 l3 l4 l5 I
  obtain ⟨nA, rfl⟩ : ∃ m, na = m + 1 := ⟨na - 1, by (first | lia | omega)⟩
  obtain ⟨nB, rfl⟩ : ∃ m, nb = m + 1 := ⟨nb - 1, by (first | lia | omega)⟩
  unfold hiG
  split
  · exact wpS_hiP1 H I (by (first | lia | omega)) l4 (by (first | lia | omega)) l5
  · exact wpS_hiP1 H I (by (first | lia | omega)) l4 (by (first | lia | omega)) l5
theorem wpS_hiI {c : HiC} {m g : Nat} {st' : SortSt} (H : HiH st a b) (L : HiMidC st a b m c st') (hn : m ≤ n + 1) : wpS (model prog w) A E s (hiI a b g c) (HiPostC st a b n) st' := by
  obtain ⟨e0, na, nb, out, p, q⟩ := c
  obtain ⟨_, ⟨l1, l2, l3, l4, l5, I, g', rfl⟩⟩ := L
  dsimp only at l1 l2 l3 l4 l5 I
  obtain ⟨nA, rfl⟩ : ∃ m, na = m + 1 := ⟨na - 1, by (first | lia | omega)⟩
  obtain ⟨nB, rfl⟩ : ∃ m, nb = m + 1 := ⟨nb - 1, by (first | lia | omega)⟩
  unfold hiI
  simp only [Nat.add_sub_cancel]
  obtain ⟨y, hy⟩ := some_at (xs := b) (i := nB) (by (first | lia | omega))
  obtain ⟨x, hx⟩ := some_at (xs := a) (i := nA) (by (first | lia | omega))
  refine wpS_bind (wpS_elem hy (wpS_bind (wpS_elem hx (wpS_bind (wpS_lt H.hk (H.hnb.at hy) (H.hna.at hx) ?_)))))
  dsimp only
  by_cases hlt : kyOf y < kyOf x
  · rw [if_pos (by simpa using hlt)]
    refine wpS_bind (wpS_elem hx ?_)
    have hI := I.ta H.hb hy hx hlt
    by_cases c3 : (nA == 0) = true
    · rw [if_pos c3]
      exact wpS_pure (.inl ⟨_, rfl, hI.done (.inl (eq_of_beq c3)), _, rfl⟩)
    · rw [if_neg c3]
      have c3 := ne_of_beq_false (Bool.not_eq_true _ ▸ c3)
      have L : HiAt st a b (out.push x) nA (nB + 1) n (setG st g') := ⟨by (first | lia | omega), by (first | lia | omega), l3, by (first | lia | omega), l5, hI, _, rfl⟩
      split
      · exact wpS_pure (.inr ⟨rfl, L⟩)
      · exact wpS_pure ⟨rfl, L⟩
  · rw [if_neg (by simpa using hlt)]
    refine wpS_bind (wpS_elem hy ?_)
    have hI := I.tb H.ha hy hx hlt
    by_cases c3 : (nB == 1) = true
    · rw [if_pos c3]
      exact wpS_pure (.inl ⟨_, rfl, hI.first (eq_of_beq c3) H.hb0 H.hfirst, _, rfl⟩)
    · rw [if_neg c3]
      have c3 := ne_of_beq_false (Bool.not_eq_true _ ▸ c3)
      have L : HiAt st a b (out.push y) (nA + 1) nB n (setG st g') := ⟨by (first | lia | omega), l2, by (first | lia | omega), l4, by (first | lia | omega), hI, _, rfl⟩
      split
      · exact wpS_pure (.inr ⟨rfl, L⟩)
      · exact wpS_pure ⟨rfl, L⟩
theorem HiAt.le {m : Nat} {st' : SortSt} (L : HiAt st a b out na nb n st') (h : n ≤ m) : HiAt st a b out na nb m st' := ⟨Nat.le_trans L.lb h, L.la, L.lb', L.la2, L.lb2, L.I, L.s⟩
theorem wpS_hiO {c : HiT} {m : Nat} {st' : SortSt} (H : HiH st a b) (L : HiMidT st a b m c st') (hn : m ≤ n + 1) (hm : m < a.size + b.size) : wpS (model prog w) A E s (hiO a b c) (HiPostT st a b n) st' := by
  unfold hiO
  refine wpS_bind (wpS_mono (wpS_forRange (I := fun z e st' => HiMidC st a b (m - z) e st' ∧ z ≤ m) (Q := fun e st' => MgFin st a b e.1 st' ∨ HiMidC st a b (m - 1) e st')
    (fun z e st' _ _ L' => wpS_mono (wpS_hiI (n := m - z - 1) H L'.1 (Nat.sub_le_iff_le_add.mp (Nat.le_refl _))) fun r st'' p => ?_) (fun e st' L' => ?_) ?_) fun e st' p => ?_)
  · cases r with
    | done e => exact p.imp id fun q => ⟨q.1, q.2.le (Nat.sub_le_sub_right (Nat.sub_le _ _) 1)⟩
    | yield e => exact ⟨p, by have := p.2.lb; have := p.2.la; (first | lia | omega)⟩
  · have := L'.1.2.lb; have := L'.1.2.la; (first | lia | omega)
  · exact ⟨⟨rfl, L.2⟩, Nat.zero_le _⟩
  · rcases p with p | p
    · obtain ⟨r, e1, q⟩ := p
      rw [e1]
      exact wpS_pure ⟨r, rfl, q⟩
    · rw [p.1]
      refine wpS_bind (wpS_lift (wpAny_rule ⟨rfl, ?_⟩))
      refine wpS_bind (wpS_mono (wpS_forRange (I := fun z e st' => HiMid st a b (m - 1 - z) e st' ∧ z ≤ m) (Q := fun e st' => MgFin st a b e.1 st' ∨ HiMid st a b (m - 1) e st')
        (fun z e st' _ _ L' => wpS_mono (wpS_hiG (n := m - 1 - z - 1) H L'.1 (Nat.sub_le_iff_le_add.mp (Nat.le_refl _))) fun r st'' p => ?_) (fun e st' L' => ?_) ?_) fun f st' p => ?_)
      · cases r with
        | done e => exact p.imp id fun q => ⟨q.1, q.2.le (Nat.le_trans (Nat.sub_le _ _) (Nat.sub_le _ _))⟩
        | yield e => exact ⟨p, by have := p.2.lb; have := p.2.la; (first | lia | omega)⟩
      · have := L'.1.2.lb; have := L'.1.2.la; (first | lia | omega)
      · exact ⟨⟨rfl, p.2⟩, Nat.zero_le _⟩
      · rcases p with p | p
        · obtain ⟨r, e1, q⟩ := p
          rw [e1]
          exact wpS_pure ⟨r, rfl, q⟩
        · rw [p.1]
          obtain ⟨_, ⟨l1, l2, l3, l4, l5, I, g', rfl⟩⟩ := p
          exact wpS_bind (wpS_setMG (wpS_pure ⟨rfl, (by show f.2.1 + f.2.2.1 ≤ n; (first | lia | omega)), l2, l3, l4, l5, I, _, rfl⟩))
theorem wpS_mergeHi {Q : Array Keyed → SortSt → Prop} (hk : kindOf st = oneType') (hna : NumKeys a.toList) (hnb : NumKeys b.toList)
    (ha : Asc a.toList) (hb : Asc b.toList) (ha0 : 1 ≤ a.size) (hb0 : 1 ≤ b.size)
    (hfirst : ∀ y, b[0]? = some y → ∀ x ∈ a.toList, kyOf y < kyOf x) (hlast : ∀ x, a[a.size - 1]? = some x → ∀ y ∈ b.toList, kyOf y < kyOf x)
    (h : ∀ g out, out.toList = mg kyOf a.toList b.toList → Q out (setG st g)) :
    wpS (model prog w) A E s (mergeHi' a b) Q st := by
  rw [mergeHi'_eq2]
  have H : HiH st a b := ⟨hk, hna, hnb, ha, hb, hb0, hfirst⟩
  refine wpS_bind (wpS_lift (wpAny_rule ⟨rfl, ?_⟩))
  obtain ⟨x0, hx0⟩ := some_at (xs := a) (i := a.size - 1) (by (first | lia | omega))
  have hI : HiE a b #[x0] (a.size - 1) b.size := by
    have h0 : HiE a b #[] (a.size - 1 + 1) (b.size - 1 + 1) := by
      unfold HiE
      rw [List.take_of_length_le (by simp; (first | lia | omega)), List.take_of_length_le (by simp; (first | lia | omega))]; simp
    obtain ⟨y0, hy0⟩ := some_at (xs := b) (i := b.size - 1) (by (first | lia | omega))
    have := h0.ta hb hy0 hx0 (hlast _ hx0 _ (by obtain ⟨hi, rfl⟩ := Array.getElem?_eq_some_iff.mp hy0; simp))
    rw [show b.size - 1 + 1 = b.size by (first | lia | omega)] at this
    exact this
  have hst : st = setG st (gallopOf st) := rfl
  refine wpS_bind (wpS_elem hx0 ?_)
  by_cases c1 : (a.size - 1 == 0) = true
  · rw [if_pos c1, hst]
    exact wpS_pure (h _ _ (hI.done (.inl (eq_of_beq c1))))
  rw [if_neg c1]
  have c1 := ne_of_beq_false (Bool.not_eq_true _ ▸ c1)
  by_cases c2 : (b.size == 1) = true
  · rw [if_pos c2, hst]
    exact wpS_pure (h _ _ (hI.first (eq_of_beq c2) hb0 hfirst))
  rw [if_neg c2]
  have c2 := ne_of_beq_false (Bool.not_eq_true _ ▸ c2)
  refine wpS_bind (wpS_get ?_)
  refine wpS_bind (wpS_mono (wpS_forRange (I := fun x c st' => HiMidT st a b (a.size + b.size - 1 - x) c st' ∧ x ≤ a.size + b.size) (Q := fun c st' => MgFin st a b c.1 st')
    (fun z e st' _ _ L' => wpS_mono (wpS_hiO (n := a.size + b.size - 1 - z - 1) H L'.1 (Nat.sub_le_iff_le_add.mp (Nat.le_refl _)) (Nat.lt_of_le_of_lt (Nat.sub_le _ _) (by (first | lia | omega)))) fun r st'' p => ?_) (fun e st' L' => ?_) ?_) fun c st' p => ?_)
  · cases r with
    | done e => exact p
    | yield e => exact ⟨p, by have := p.2.lb; have := p.2.la; (first | lia | omega)⟩
  · have := L'.1.2.lb; have := L'.1.2.la; (first | lia | omega)
  · exact ⟨⟨rfl, (by show a.size - 1 + b.size ≤ _; (first | lia | omega)), (by show 1 ≤ a.size - 1; (first | lia | omega)), (by show 2 ≤ b.size; (first | lia | omega)), Nat.sub_le _ _, Nat.le_refl _, hI, _, hst⟩, by (first | lia | omega)⟩
  · obtain ⟨r, e1, e2, g', rfl⟩ := p
    rw [e1]
    exact wpS_pure (h _ _ e2)
end
end
end Mine

namespace Mine

theorem mergeAt'_eq (i : Nat) : mergeAt' i = (do
  let s ← get
  let (some (sa, na, power), some (sb, nb, _)) := ((pendingOf s)[i]?, (pendingOf s)[i + 1]?) | unsupported "internal:list.sort.pending"
  set (setPending s (((pendingOf s).setIfInBounds i (sa, na + nb, power)).eraseIdxIfInBounds (i + 1)))
  let some k ← gallop' false (← elem' (arrOf s) sb) (arrOf s) sa na 0 | return false
  let (sa, na) := (sa + k, na - k)
  if na == 0 then return true
  let some nb ← gallop' true (← elem' (arrOf s) (sa + na - 1)) (arrOf s) sb nb (nb - 1) | return false
  if nb == 0 then return true
  let x := (arrOf s).extract sa sb
  let y := (arrOf s).extract sb (sb + nb)
  let merged ← if na ≤ nb then mergeLo' x y else mergeHi' x y
  modify fun s => setArr s (merged.toList.zipIdx.foldl (fun a (p, j) => a.setIfInBounds (sa + j) p) (arrOf s))
  return (failedOf (← get)).isNone) := rfl

theorem set_fold (base : Nat) : ∀ (l : List Keyed) (o : Nat) (arr : Array Keyed), base + o + l.length ≤ arr.size →
    ((l.zipIdx o).foldl (fun a (p, j) => a.setIfInBounds (base + j) p) arr).toList = arr.toList.take (base + o) ++ l ++ arr.toList.drop (base + o + l.length)
  | [], o, arr, h => by simp
  | p :: l, o, arr, h => by
    rw [List.zipIdx_cons, List.foldl_cons]
    rw [List.length_cons] at h
    have e := set_fold base l (o + 1) (arr.setIfInBounds (base + o) p) (by rw [Array.size_setIfInBounds]; (first | lia | omega))
    refine e.trans ?_
    have e2 : (arr.setIfInBounds (base + o) p).toList = arr.toList.set (base + o) p := by simp
    rw [e2, List.length_cons]
    have hl : base + o < arr.toList.length := by rw [Array.length_toList]; (first | lia | omega)
    rw [show base + (o + 1) = base + o + 1 by (first | lia | omega), List.take_succ_eq_append_getElem (by rw [List.length_set]; exact hl), List.take_set_of_le (Nat.le_refl _), List.getElem_set_self, List.drop_set_of_lt (by (first | lia | omega))]
    rw [show base + o + 1 + l.length = base + o + (l.length + 1) by (first | lia | omega)]
    simp

theorem wpS_set {σ : Type} {M : Model} {A : Around} {E : Value → Shared → Prop} {s : Shared} {Q : PUnit → σ → Prop} {st st' : σ} (h : Q ⟨⟩ st') : wpS M A E s (set st' : StateT σ Sem PUnit) Q st := by
  unfold wpS; rw [StateT.run_set]; exact wpAny_pure ⟨rfl, h⟩

noncomputable def AscAt (arr : Array Keyed) (lo hi : Nat) : Prop := ∀ i j x y, lo ≤ i → i ≤ j → j < hi → arr[i]? = some x → arr[j]? = some y → kyOf x ≤ kyOf y

theorem AscAt.asc {arr : Array Keyed} {lo hi : Nat} (h : AscAt arr lo hi) (i j : Nat) (hi' : lo ≤ i) (hj : j ≤ hi) : Asc (arr.extract i j).toList := by
  unfold Asc
  rw [List.pairwise_iff_getElem]
  intro p q hp hq hpq
  rw [Array.length_toList, Array.size_extract] at hp hq
  have e : ∀ r (hr : r < (arr.extract i j).toList.length), arr[i + r]? = some (arr.extract i j).toList[r] := by
    intro r hr
    rw [Array.length_toList, Array.size_extract] at hr
    rw [Array.getElem_toList, Array.getElem_extract, getElem?_pos arr (i + r) (by (first | lia | omega))]
  exact h (i + p) (i + q) _ _ (by (first | lia | omega)) (by (first | lia | omega)) (by (first | lia | omega)) (e p _) (e q _)

theorem AscAt.byd {arr : Array Keyed} {key : Keyed} {base n : Nat} (h : AscAt arr base (base + n)) (hb : base + n ≤ arr.size) (left : Bool) :
    ∀ i j, i ≤ j → j < n → byd left key arr base j = true → byd left key arr base i = true := by
  intro i j hij hj hB
  have ei : arr[base + i]? = some arr[base + i] := getElem?_pos arr (base + i) (by (first | lia | omega))
  have ej : arr[base + j]? = some arr[base + j] := getElem?_pos arr (base + j) (by (first | lia | omega))
  have := h _ _ _ _ (by (first | lia | omega)) (by (first | lia | omega)) (by (first | lia | omega)) ei ej
  unfold Mine.byd at hB ⊢
  rw [ej] at hB
  rw [ei]
  cases left with
  | true => simp only [if_true, decide_eq_true_eq] at hB ⊢; (first | lia | omega)
  | false => simp only [Bool.false_eq_true, if_false, Bool.not_eq_true', decide_eq_false_iff_not] at hB ⊢; (first | lia | omega)

theorem NumKeys.ext {arr : Array Keyed} (h : NumKeys arr.toList) (i j : Nat) : NumKeys (arr.extract i j).toList := by
  intro p hp
  obtain ⟨q, _, _, q3⟩ := mem_extract hp
  exact h.at q3

/-! ### what the two gallops tell -/
section
variable {arr : Array Keyed} {n1 n2 k j : Nat} {x y : Keyed}
theorem ma_A (s2 : AscAt arr n1 (n1 + n2)) (hs : n1 + n2 = arr.size) (hy : arr[n1]? = some y) (k1 : k ≤ n1) (k2 : ∀ i, i < k → byd false y arr 0 i = true) :
    mg kyOf (arr.toList.take n1) (arr.toList.drop n1) = arr.toList.take k ++ mg kyOf (arr.extract k n1).toList (arr.toList.drop n1) := by
  rw [take_ext k1, mg_left]
  intro z hz y' hy'
  obtain ⟨q, q1, q2⟩ := mem_take' hz
  obtain ⟨r, r1, r2⟩ := mem_drop' hy'
  have g1 := byd_f' (base := 0) (i := q) (by rw [Nat.zero_add]; exact q2) (k2 q q1)
  have hr : r < arr.size := (Array.getElem?_eq_some_iff.mp r2).1
  have g2 := s2 n1 r _ _ (Nat.le_refl _) r1 (hs ▸ hr) hy r2
  exact Int.le_trans (Int.not_lt.mp g1) g2
theorem ma_le (s1 : AscAt arr 0 n1) (h1 : 1 ≤ n1) (hx : arr[n1 - 1]? = some x) : ∀ z ∈ (arr.extract k n1).toList, kyOf z ≤ kyOf x := by
  intro z hz
  obtain ⟨q, q1, q2, q3⟩ := mem_extract hz
  exact s1 q (n1 - 1) _ _ (Nat.zero_le _) (Nat.le_sub_one_of_lt q2) (Nat.sub_one_lt (by (first | lia | omega))) q3 hx
theorem ma_B (hs : n1 + n2 = arr.size) (hle : ∀ z ∈ (arr.extract k n1).toList, kyOf z ≤ kyOf x) (j1 : j ≤ n2) (j3 : ∀ i, j ≤ i → i < n2 → byd true x arr n1 i = false) :
    mg kyOf (arr.extract k n1).toList (arr.toList.drop n1) = mg kyOf (arr.extract k n1).toList (arr.extract n1 (n1 + j)).toList ++ arr.toList.drop (n1 + j) := by
  rw [drop_take (hs ▸ Nat.add_le_add_left j1 n1 : n1 + j ≤ arr.size), mg_above_r]
  intro z hz x' hx'
  obtain ⟨r, r1, r2⟩ := mem_drop' hz
  have hr : r < arr.size := (Array.getElem?_eq_some_iff.mp r2).1
  obtain ⟨t, rfl⟩ : ∃ t, r = n1 + t := ⟨r - n1, by (first | lia | omega)⟩
  have g1 := byd_t (base := n1) (i := t) r2 (j3 t (by (first | lia | omega)) (by (first | lia | omega)))
  exact Int.le_trans (hle _ hx') (Int.not_lt.mp g1)
theorem ma_f1 (hy : arr[n1]? = some y) (hj : j ≠ 0) (hs : n1 + n2 = arr.size) (j1 : j ≤ n2) (k3 : ∀ i, k ≤ i → i < n1 → byd false y arr 0 i = false) :
    ∀ y', (arr.extract n1 (n1 + j))[0]? = some y' → ∀ x' ∈ (arr.extract k n1).toList, kyOf y' < kyOf x' := by
  intro y' hy' x' hx'
  rw [Array.getElem?_extract, if_pos (by (first | lia | omega)), Nat.add_zero, hy] at hy'
  cases hy'
  obtain ⟨q, q1, q2, q3⟩ := mem_extract hx'
  exact byd_f (base := 0) (i := q) (by rw [Nat.zero_add]; exact q3) (k3 q q1 q2)
theorem ma_f2 (hx : arr[n1 - 1]? = some x) (z1 : (arr.extract k n1).size = n1 - k) (hk : k < n1) (j2 : ∀ i, i < j → byd true x arr n1 i = true) :
    ∀ x', (arr.extract k n1)[(arr.extract k n1).size - 1]? = some x' → ∀ y' ∈ (arr.extract n1 (n1 + j)).toList, kyOf y' < kyOf x' := by
  intro x' hx' y' hy'
  have hn : n1 - 1 < arr.size := (Array.getElem?_eq_some_iff.mp hx).1
  rw [z1, Array.getElem?_extract, if_pos (by (first | lia | omega)), show k + (n1 - k - 1) = n1 - 1 by (first | lia | omega), hx] at hx'
  cases hx'
  obtain ⟨q, q1, q2, q3⟩ := mem_extract hy'
  obtain ⟨t, rfl⟩ : ∃ t, q = n1 + t := ⟨q - n1, by (first | lia | omega)⟩
  exact byd_t' (base := n1) (i := t) q3 (j2 t (by (first | lia | omega)))
end
noncomputable def ma4 (sa : Nat) (merged : Array Keyed) : StateT SortSt Sem Bool := do
  modify fun s => setArr s (merged.toList.zipIdx.foldl (fun a (p, j) => a.setIfInBounds (sa + j) p) (arrOf s))
  let s ← get
  pure (failedOf s).isNone
noncomputable def ma3 (arr : Array Keyed) (sa na sb nb : Nat) : StateT SortSt Sem Bool :=
  if na ≤ nb then do
    let merged ← mergeLo' (arr.extract sa sb) (arr.extract sb (sb + nb))
    ma4 sa merged
  else do
    let merged ← mergeHi' (arr.extract sa sb) (arr.extract sb (sb + nb))
    ma4 sa merged
noncomputable def ma2 (arr : Array Keyed) (sa na sb nb : Nat) : StateT SortSt Sem Bool :=
  if (na == 0) = true then pure true
  else do
    let x ← elem' arr (sa + na - 1)
    let r ← gallop' true x arr sb nb (nb - 1)
    match r with
    | some nb => if (nb == 0) = true then pure true else ma3 arr sa na sb nb
    | _ => pure false
noncomputable def ma1 (arr : Array Keyed) (sa na sb nb : Nat) : StateT SortSt Sem Bool := do
  let y ← elem' arr sb
  let r ← gallop' false y arr sa na 0
  match r with
  | some k => ma2 arr (sa + k) (na - k) sb nb
  | _ => pure false
theorem mergeAt'_eq2 (i : Nat) : mergeAt' i = (do
  let s ← get
  match ((pendingOf s)[i]?, (pendingOf s)[i + 1]?) with
  | (some (sa, na, power), some (sb, nb, _)) => do
    set (setPending s (((pendingOf s).setIfInBounds i (sa, na + nb, power)).eraseIdxIfInBounds (i + 1)))
    ma1 (arrOf s) sa na sb nb
  | _ => liftM (unsupported (α := Bool) "internal:list.sort.pending")) := by
  rw [mergeAt'_eq]
  dsimp only [ma1, ma2, ma3, ma4]
section
variable {prog : Program} {w : World} {A : Around} {E : Value → Shared → Prop} {s : Shared}
structure MaH (arr : Array Keyed) (n1 n2 k : Nat) : Prop where
  hn : NumKeys arr.toList
  h1 : 1 ≤ n1
  h2 : 1 ≤ n2
  hs : n1 + n2 = arr.size
  s1 : AscAt arr 0 n1
  s2 : AscAt arr n1 (n1 + n2)
  kl : k < n1
  hA : mg kyOf (arr.toList.take n1) (arr.toList.drop n1) = arr.toList.take k ++ mg kyOf (arr.extract k n1).toList (arr.toList.drop n1)
  f1 : ∀ j, j ≠ 0 → j ≤ n2 → ∀ y', (arr.extract n1 (n1 + j))[0]? = some y' → ∀ x' ∈ (arr.extract k n1).toList, kyOf y' < kyOf x'
theorem wpS_ma3 {arr : Array Keyed} {n1 n2 pw g k j : Nat} {x : Keyed} {Q : Bool → SortSt → Prop} (M : MaH arr n1 n2 k) (hx : arr[n1 - 1]? = some x) (j0 : j ≠ 0) (j1 : j ≤ n2) (j2 : ∀ i, i < j → byd true x arr n1 i = true) (j3 : ∀ i, j ≤ i → i < n2 → byd true x arr n1 i = false)
    (h : ∀ g xs, xs.toList = mg kyOf (arr.toList.take n1) (arr.toList.drop n1) → Q true (SortSt.mk' oneType' xs #[(0, n1 + n2, pw)] g none)) :
    wpS (model prog w) A E s (ma3 arr k (n1 - k) n1 j) Q (SortSt.mk' oneType' arr #[(0, n1 + n2, pw)] g none) := by
  obtain ⟨hn, h1, h2, hs, s1, s2, kl, hA, f1⟩ := M
  have hB := ma_B (k := k) hs (ma_le s1 h1 hx) j1 j3
  have hj : n1 + j ≤ arr.size := hs ▸ Nat.add_le_add_left j1 n1
  have z1 : (arr.extract k n1).size = n1 - k := Array.size_extract_of_le (Nat.le_trans (Nat.le_add_right _ _) hj)
  have z2 : (arr.extract n1 (n1 + j)).size = j := (Array.size_extract_of_le hj).trans (Nat.add_sub_cancel_left _ _)
  have f2 := ma_f2 hx z1 kl j2
  have f1 := f1 j j0 j1
  have a1 := s1.asc k n1 (Nat.zero_le _) (Nat.le_refl _)
  have a2 := s2.asc n1 (n1 + j) (Nat.le_refl _) (Nat.add_le_add_left j1 _)
  have p1 : 1 ≤ (arr.extract k n1).size := by rw [z1]; (first | lia | omega)
  have p2 : 1 ≤ (arr.extract n1 (n1 + j)).size := by rw [z2]; (first | lia | omega)
  have fin : ∀ g' (out : Array Keyed), out.toList = mg kyOf (arr.extract k n1).toList (arr.extract n1 (n1 + j)).toList → wpS (model prog w) A E s (ma4 k out) Q (setG (SortSt.mk' oneType' arr #[(0, n1 + n2, pw)] g none) g') := by
    intro g' out ho
    unfold ma4
    refine wpS_bind (wpS_modify (wpS_bind (wpS_get (wpS_pure (h g' _ ?_)))))
    have hlen : out.toList.length = n1 - k + j := by rw [ho, mg_len, Array.length_toList, Array.length_toList, z1, z2]
    refine (set_fold k out.toList 0 arr (by (first | lia | omega))).trans ?_
    rw [hA, hB, hlen, ho, Nat.add_zero, show k + (n1 - k + j) = n1 + j by (first | lia | omega), List.append_assoc]
  unfold ma3
  split
  · exact wpS_bind (wpS_mergeLo rfl (hn.ext _ _) (hn.ext _ _) a1 a2 p1 p2 f1 f2 fin)
  · exact wpS_bind (wpS_mergeHi rfl (hn.ext _ _) (hn.ext _ _) a1 a2 p1 p2 f1 f2 fin)
theorem wpS_ma2 {arr : Array Keyed} {n1 n2 pw g k : Nat} {Q : Bool → SortSt → Prop} (M : MaH arr n1 n2 k)
    (h : ∀ g xs, xs.toList = mg kyOf (arr.toList.take n1) (arr.toList.drop n1) → Q true (SortSt.mk' oneType' xs #[(0, n1 + n2, pw)] g none)) :
    wpS (model prog w) A E s (ma2 arr k (n1 - k) n1 n2) Q (SortSt.mk' oneType' arr #[(0, n1 + n2, pw)] g none) := by
  have M' := M
  obtain ⟨hn, h1, h2, hs, s1, s2, kl, hA, f1⟩ := M
  unfold ma2
  rw [if_neg (by simp; (first | lia | omega)), show k + (n1 - k) - 1 = n1 - 1 by (first | lia | omega)]
  obtain ⟨x, hx⟩ := some_at (xs := arr) (i := n1 - 1) (by (first | lia | omega))
  refine wpS_bind (wpS_elem hx ?_)
  refine wpS_bind (wpS_gallop rfl (hn.at hx) hn (Nat.le_of_eq hs) (Nat.sub_one_lt (by (first | lia | omega))) (AscAt.byd s2 (Nat.le_of_eq hs) true) fun j j1 j2 j3 => ?_)
  dsimp only
  by_cases c2 : (j == 0) = true
  · rw [if_pos c2]
    have e := eq_of_beq c2
    subst e
    refine wpS_pure (h _ _ ?_)
    rw [hA, ma_B (k := k) hs (ma_le s1 h1 hx) j1 j3, show (arr.extract n1 (n1 + 0)).toList = [] by simp, mg_nil_r, ← List.append_assoc, ← take_ext (Nat.le_of_lt kl), Nat.add_zero, List.take_append_drop]
  · rw [if_neg c2]
    exact wpS_ma3 M' hx (ne_of_beq_false (Bool.not_eq_true _ ▸ c2)) j1 j2 j3 h
theorem wpS_mergeAt0 {st : SortSt} {n1 n2 pw pw2 : Nat} {Q : Bool → SortSt → Prop} (hk : kindOf st = oneType') (hf : failedOf st = none) (hp : pendingOf st = #[(0, n1, pw), (n1, n2, pw2)])
    (hn : NumKeys (arrOf st).toList) (h1 : 1 ≤ n1) (h2 : 1 ≤ n2) (hs : n1 + n2 = (arrOf st).size) (s1 : AscAt (arrOf st) 0 n1) (s2 : AscAt (arrOf st) n1 (n1 + n2))
    (h : ∀ g xs, xs.toList = mg kyOf ((arrOf st).toList.take n1) ((arrOf st).toList.drop n1) → Q true (SortSt.mk' oneType' xs #[(0, n1 + n2, pw)] g none)) :
    wpS (model prog w) A E s (mergeAt' 0) Q st := by
  obtain ⟨kd, arr, pend, g, fl⟩ := st
  change kd = oneType' at hk
  change fl = none at hf
  change pend = _ at hp
  subst hk hf hp
  change NumKeys arr.toList at hn
  change n1 + n2 = arr.size at hs
  change AscAt arr 0 n1 at s1
  change AscAt arr n1 (n1 + n2) at s2
  rw [mergeAt'_eq2]
  refine wpS_bind (wpS_get ?_)
  refine wpS_bind (wpS_set ?_)
  have hpd : ((#[(0, n1, pw), (n1, n2, pw2)] : Array (Nat × Nat × Nat)).setIfInBounds 0 (0, n1 + n2, pw)).eraseIdxIfInBounds 1 = #[(0, n1 + n2, pw)] := by simp [Array.eraseIdxIfInBounds]
  change wpS _ _ _ _ (ma1 arr 0 n1 n1 n2) _ (SortSt.mk' oneType' arr (((#[(0, n1, pw), (n1, n2, pw2)] : Array (Nat × Nat × Nat)).setIfInBounds 0 (0, n1 + n2, pw)).eraseIdxIfInBounds 1) g none)
  rw [hpd]
  unfold ma1
  have hb : 0 + n1 ≤ arr.size := by (first | lia | omega)
  obtain ⟨y, hy⟩ := some_at (xs := arr) (i := n1) (by (first | lia | omega))
  refine wpS_bind (wpS_elem hy ?_)
  refine wpS_bind (wpS_gallop rfl (hn.at hy) hn hb h1 (AscAt.byd (by rw [Nat.zero_add]; exact s1) hb false) fun k k1 k2 k3 => ?_)
  dsimp only
  rw [Nat.zero_add]
  have hA := ma_A s2 hs hy k1 k2
  by_cases c1 : k = n1
  · subst c1
    unfold ma2
    rw [if_pos (by simp)]
    refine wpS_pure (h _ _ ?_)
    rw [hA, show (arr.extract k k).toList = [] by simp, mg_nil_l, List.take_append_drop]
  · exact wpS_ma2 ⟨hn, h1, h2, hs, s1, s2, by (first | lia | omega), hA, fun j j0 j1 => ma_f1 hy j0 hs j1 k3⟩ h
end
end Mine

namespace Mine

theorem at_list {xs : Array Keyed} {L : List Keyed} (h : xs.toList = L) (i : Nat) : xs[i]? = L[i]? := by subst h; simp

theorem mirror_list {xs : Array Keyed} {P M R : List Keyed} (h : xs.toList = P ++ M ++ R) {i j : Nat} (hi : i = P.length) (hj : j = P.length + M.length) :
    (mirror xs i j ((j - i) / 2)).toList = P ++ M.reverse ++ R := by
  have hsz : xs.size = P.length + M.length + R.length := by rw [← Array.length_toList, h]; simp; (first | lia | omega)
  apply List.ext_getElem?
  intro q
  rw [Array.getElem?_toList, getElem?_mirror_all (by (first | lia | omega))]
  split
  · rw [at_list h, List.getElem?_append_left (by simp; (first | lia | omega)), List.getElem?_append_right (by (first | lia | omega)), List.getElem?_append_left (by simp; (first | lia | omega)), List.getElem?_append_right (by (first | lia | omega)),
      List.getElem?_reverse (by (first | lia | omega))]
    congr 1; (first | lia | omega)
  · rw [at_list h]
    by_cases c : q < i
    · rw [List.append_assoc, List.append_assoc, List.getElem?_append_left (by (first | lia | omega)), List.getElem?_append_left (by (first | lia | omega))]
    · rw [List.getElem?_append_right (by simp; (first | lia | omega)), List.getElem?_append_right (by simp; (first | lia | omega))]
      simp

theorem bubble_list {xs : Array Keyed} {P N R : List Keyed} {r : Keyed} (h : xs.toList = P ++ (N ++ [r]) ++ R) {src d : Nat} (hs : src = P.length + N.length) (hd : d = N.length) :
    (bubble xs src d).toList = P ++ (r :: N) ++ R := by
  have hsz : xs.size = P.length + N.length + 1 + R.length := by rw [← Array.length_toList, h]; simp; (first | lia | omega)
  apply List.ext_getElem?
  intro q
  rw [Array.getElem?_toList, getElem?_bubble (by (first | lia | omega)) _ (by (first | lia | omega))]
  rw [at_list h, at_list h, at_list h]
  split
  · rw [List.getElem?_append_left (by simp; (first | lia | omega)), List.getElem?_append_right (by (first | lia | omega)), List.getElem?_append_right (by (first | lia | omega)),
      List.getElem?_append_left (by simp; (first | lia | omega)), List.getElem?_append_right (by (first | lia | omega))]
    rw [show src - P.length - N.length = 0 by (first | lia | omega), show q - P.length = 0 by (first | lia | omega)]; rfl
  · split
    · rw [List.getElem?_append_left (by simp; (first | lia | omega)), List.getElem?_append_right (by (first | lia | omega)), List.getElem?_append_left (by (first | lia | omega)),
        List.getElem?_append_left (by simp; (first | lia | omega)), List.getElem?_append_right (by (first | lia | omega))]
      obtain ⟨t, ht⟩ : ∃ t, q - P.length = t + 1 := ⟨q - P.length - 1, by (first | lia | omega)⟩
      rw [ht, show q - 1 - P.length = t by (first | lia | omega), List.getElem?_cons_succ]
    · by_cases c : q < P.length
      · rw [List.append_assoc P, List.append_assoc P, List.getElem?_append_left c, List.getElem?_append_left c]
      · rw [List.getElem?_append_right (by simp; (first | lia | omega)), List.getElem?_append_right (by simp; (first | lia | omega))]
        simp

noncomputable abbrev fk (k : Int) (l : List Keyed) : List Keyed := l.filter fun a => decide (kyOf a = k)
theorem fk_app (k : Int) (l m : List Keyed) : fk k (l ++ m) = fk k l ++ fk k m := List.filter_append _ _
theorem fk_nil {k : Int} {l : List Keyed} (h : ∀ z ∈ l, kyOf z ≠ k) : fk k l = [] := by
  unfold fk
  rw [List.filter_eq_nil_iff]
  intro a ha
  simpa using h a ha
theorem fk_one (k : Int) (r : Keyed) : fk k [r] = if kyOf r = k then [r] else [] := by
  unfold fk
  rw [List.filter_cons]
  by_cases h : kyOf r = k <;> simp [h]
theorem fk_swap {l : List Keyed} {r : Keyed} (h : ∀ z ∈ l, kyOf z ≠ kyOf r) (k : Int) : fk k (r :: l) = fk k (l ++ [r]) := by
  rw [show r :: l = [r] ++ l from rfl, fk_app, fk_app, fk_one]
  split
  · rename_i e
    subst e
    rw [fk_nil h]; rfl
  · rw [List.append_nil]; rfl
theorem fk_mem {l m : List Keyed} (h : ∀ k, fk k l = fk k m) {z : Keyed} (hz : z ∈ l) : z ∈ m := by
  have : z ∈ fk (kyOf z) l := List.mem_filter.mpr ⟨hz, by simp⟩
  rw [h] at this
  exact (List.mem_filter.mp this).1

section
variable {prog : Program} {w : World} {A : Around} {E : Value → Shared → Prop} {s : Shared}

theorem wpS_ltAtS {st : SortSt} {i j : Nat} {x y : Keyed} {Q : Option Bool → SortSt → Prop} (hk : kindOf st = oneType') (hi : (arrOf st)[i]? = some x) (hj : (arrOf st)[j]? = some y)
    (hx : ∃ n t, x.1 = .int n t) (hy : ∃ n t, y.1 = .int n t) (h : Q (some (decide (kyOf x < kyOf y))) st) : wpS (model prog w) A E s (ltAt' i j) Q st := by
  rw [ltAt'_eq]
  refine wpS_bind (wpS_get ?_)
  show wpS _ _ _ _ (do let x ← elem' (arrOf st) i; let y ← elem' (arrOf st) j; lt' x y) Q st
  exact wpS_bind (wpS_elem hi (wpS_bind (wpS_elem hj (wpS_lt hk hx hy h))))

noncomputable abbrev BsC := Option Bool × Nat × Nat
noncomputable def bsB (lo k : Nat) (c : BsC) : StateT SortSt Sem (ForInStep BsC) :=
  if c.2.1 ≥ c.2.2 then pure (.done (none, c.2.1, c.2.2))
  else do
    let r ← ltAt' (lo + k) (lo + (c.2.1 + c.2.2) / 2)
    match r with
    | some less => if less = true then pure (.yield (none, c.2.1, (c.2.1 + c.2.2) / 2)) else pure (.yield (none, (c.2.1 + c.2.2) / 2 + 1, c.2.2))
    | _ => pure (.done (some false, c.2.1, c.2.2))
noncomputable def bsS (lo k : Nat) : StateT SortSt Sem (ForInStep (Option Bool × Unit)) := do
  let c ← forIn [0:k] (none, 0, k) fun _ c => bsB lo k c
  match c.1 with
  | some r => pure (.done (some r, ()))
  | none => do
    moveDown' (lo + k) (lo + c.2.1)
    pure (.yield (none, ()))
theorem binarySort'_eq2 (lo n ok : Nat) : binarySort' lo n ok = (do
  let c ← forIn [max ok 1:n] (none, ()) fun k _ => bsS lo k
  match c.1 with
  | some r => pure r
  | none => pure true) := by
  rw [binarySort'_eq]
  dsimp only [bsS, bsB, BsC]
  kernel_rfl
theorem half_lt {l r : Nat} (h : ¬ l ≥ r) : l ≤ (l + r) / 2 ∧ (l + r) / 2 < r := by (first | lia | omega)
theorem Asc.get {M : List Keyed} (h : Asc M) {i j : Nat} {y z : Keyed} (hij : i ≤ j) (hy : M[i]? = some y) (hz : M[j]? = some z) : kyOf y ≤ kyOf z := by
  obtain ⟨hi, rfl⟩ := List.getElem?_eq_some_iff.mp hy
  obtain ⟨hj, rfl⟩ := List.getElem?_eq_some_iff.mp hz
  rcases Nat.eq_or_lt_of_le hij with e | e
  · subst e; exact Int.le_refl _
  · exact List.pairwise_iff_getElem.mp h i j hi hj e
structure BsI (st : SortSt) (xs : Array Keyed) (M : List Keyed) (r : Keyed) (x t : Nat) (c : BsC) (st' : SortSt) : Prop where
  s : st' = setArr st xs
  n : c.1 = none
  le : c.2.1 ≤ c.2.2
  up : c.2.2 ≤ x
  d : c.2.2 - c.2.1 ≤ x - t
  lo : ∀ i z, i < c.2.1 → M[i]? = some z → kyOf z ≤ kyOf r
  hi : ∀ i z, c.2.2 ≤ i → M[i]? = some z → kyOf r < kyOf z
theorem wpS_bsFind {st : SortSt} {xs : Array Keyed} {M : List Keyed} {r : Keyed} {lo x : Nat} (hk : kindOf st = oneType') (hnx : NumKeys xs.toList) (hpv : xs[lo + x]? = some r) (hm : ∀ i, i < x → ∃ z, M[i]? = some z ∧ xs[lo + i]? = some z) (asc : Asc M) (hM : M.length = x) :
    wpS (model prog w) A E s (forIn [0:x] (none, 0, x) fun _ c => bsB lo x c) (BsI st xs M r x x) (setArr st xs) := by
  refine wpS_forRange (I := BsI st xs M r x) ?istep (fun c st' h => ⟨h.s, h.n, h.le, h.up, by have := h.d; (first | lia | omega), h.lo, h.hi⟩) ⟨rfl, rfl, Nat.zero_le _, Nat.le_refl _, Nat.le_refl _, fun i z hi => absurd hi (Nat.not_lt_zero _), fun i z h1 h2 => absurd (List.getElem?_eq_some_iff.mp h2).1 (Nat.not_lt.mpr (Nat.le_trans (Nat.le_of_eq hM) h1))⟩
  rintro t ⟨e0, l, q⟩ st' _ htx ⟨rfl, b0, b1, b2, b3, b4, b5⟩
  dsimp only at b0 b1 b2 b3 b4 b5
  unfold bsB
  dsimp only
  by_cases hge : l ≥ q
  · rw [if_pos hge]
    exact wpS_pure ⟨rfl, rfl, b1, b2, by show q - l ≤ x - x; (first | lia | omega), b4, b5⟩
  · rw [if_neg hge]
    obtain ⟨m1, m2⟩ := half_lt hge
    generalize (l + q) / 2 = m at m1 m2 ⊢
    obtain ⟨z, hz1, hz2⟩ := hm m (Nat.lt_of_lt_of_le m2 b2)
    refine wpS_bind (wpS_ltAtS hk hpv hz2 (hnx.at hpv) (hnx.at hz2) ?_)
    by_cases hless : kyOf r < kyOf z
    · simp only [hless, decide_true, if_true]
      exact wpS_pure ⟨rfl, rfl, m1, Nat.le_trans (Nat.le_of_lt m2) b2, sub_dn b3 m2, b4, fun i y h1 h2 => Int.lt_of_lt_of_le hless (asc.get h1 hz1 h2)⟩
    · simp only [hless, decide_false, Bool.false_eq_true, if_false]
      exact wpS_pure ⟨rfl, rfl, m2, b2, sub_up b3 m1, fun i y h1 h2 => Int.le_trans (asc.get (Nat.le_of_lt_succ h1) h2 hz1) (Int.not_lt.mp hless), b5⟩
/-- the new one is laid in its place -/
theorem bs_plain {xs : Array Keyed} {P M R : List Keyed} {r : Keyed} {lo x l : Nat} (e1 : xs.toList = P ++ M ++ r :: R) (hlo : lo = P.length) (e3 : M.length = x) (hl : l ≤ x) (b2 : ∀ i z, i < l → M[i]? = some z → kyOf z ≤ kyOf r) (b3 : ∀ i z, l ≤ i → M[i]? = some z → kyOf r < kyOf z) (e2 : Asc M) :
    (bubble xs (lo + x) (lo + x - (lo + l))).toList = P ++ (M.take l ++ r :: M.drop l) ++ R ∧ Asc (M.take l ++ r :: M.drop l) ∧ (M.take l ++ r :: M.drop l).length = x + 1 ∧ ∀ k, fk k (M.take l ++ r :: M.drop l) = fk k M ++ fk k [r] := by
  have e5 : xs.toList = (P ++ M.take l) ++ (M.drop l ++ [r]) ++ R := by
    rw [e1]
    simp only [List.append_assoc, List.cons_append, List.nil_append]
    rw [← List.append_assoc (M.take l), List.take_append_drop]
  have e6 := bubble_list e5 (src := lo + x) (d := lo + x - (lo + l)) (by simp; (first | lia | omega)) (by simp; (first | lia | omega))
  have t1 : ∀ z ∈ M.take l, kyOf z ≤ kyOf r := by
    intro z hz
    obtain ⟨i, hi, rfl⟩ := List.mem_iff_getElem.mp hz
    rw [List.length_take] at hi
    exact b2 i _ (by (first | lia | omega)) (by rw [List.getElem_take]; exact getElem?_pos M i (by (first | lia | omega)))
  have t2 : ∀ z ∈ M.drop l, kyOf r < kyOf z := by
    intro z hz
    obtain ⟨i, hi, rfl⟩ := List.mem_iff_getElem.mp hz
    rw [List.length_drop] at hi
    exact b3 (l + i) _ (Nat.le_add_right _ _) (by rw [List.getElem_drop]; exact getElem?_pos M (l + i) (by (first | lia | omega)))
  refine ⟨?_, ?_, ?_, fun k => ?_⟩
  · refine e6.trans ?_
    simp
  · unfold Asc at e2 ⊢
    rw [← List.take_append_drop l M, List.pairwise_append] at e2
    rw [List.pairwise_append, List.pairwise_cons]
    refine ⟨e2.1, ⟨fun z hz => Int.le_of_lt (t2 z hz), e2.2.1⟩, ?_⟩
    intro y hy z hz
    rcases List.mem_cons.mp hz with rfl | hz
    · exact t1 y hy
    · exact e2.2.2 y hy z hz
  · rw [List.length_append, List.length_cons, List.length_take, List.length_drop]; (first | lia | omega)
  · rw [fk_app k (M.take l), fk_swap (fun z hz => Int.ne_of_gt (t2 z hz)), fk_app k (M.drop l), ← List.append_assoc, ← fk_app k (M.take l), List.take_append_drop]
structure BsO (st : SortSt) (P M R : List Keyed) (ok x : Nat) (c : Option Bool × Unit) (st' : SortSt) (xs : Array Keyed) (M' : List Keyed) : Prop where
  n : c = (none, ())
  s : st' = setArr st xs
  e1 : xs.toList = P ++ M' ++ R.drop (x - ok)
  e2 : Asc M'
  e3 : M'.length = x
  e4 : ∀ k, fk k M' = fk k (M ++ R.take (x - ok))
theorem wpS_binS {st : SortSt} {lo n ok : Nat} {P M R : List Keyed} {Q : Bool → SortSt → Prop} (hk : kindOf st = oneType') (hn : NumKeys (arrOf st).toList) (harr : (arrOf st).toList = P ++ M ++ R) (hlo : lo = P.length) (hM : M.length = ok) (hok1 : 1 ≤ ok)
    (hR : n - ok ≤ R.length) (hs : Asc M)
    (h : ∀ xs M', xs.toList = P ++ M' ++ R.drop (n - ok) → Asc M' → (∀ k, fk k M' = fk k (M ++ R.take (n - ok))) → M'.length = max ok n → Q true (setArr st xs)) : wpS (model prog w) A E s (binarySort' lo n ok) Q st := by
  rw [binarySort'_eq2, show max ok 1 = ok by (first | lia | omega)]
  refine wpS_bind (wpS_mono (wpS_forRange (I := fun x c st' => ∃ xs M', BsO st P M R ok x c st' xs M')
    (Q := fun c st' => c = (none, ()) ∧ Q true st') ?step ?fin ?init) ?post)
  case post =>
    rintro c st' ⟨rfl, hQ⟩
    exact wpS_pure hQ
  case init =>
    refine ⟨arrOf st, M, rfl, rfl, ?_, hs, hM, ?_⟩
    · rw [Nat.sub_self, List.drop_zero]; exact harr
    · intro k; rw [Nat.sub_self, List.take_zero, List.append_nil]
  case fin =>
    rintro c st' ⟨xs, M', hc, rfl, e1, e2, e3, e4⟩
    refine ⟨hc, ?_⟩
    rw [show max ok n - ok = n - ok by (first | lia | omega)] at e1 e4
    exact h xs M' e1 e2 e4 e3
  case step =>
    rintro x c st' hax hxn ⟨xs, M', rfl, rfl, e1, e2, e3, e4⟩
    have hlt : x - ok < R.length := by (first | lia | omega)
    have hx1 : x + 1 - ok = x - ok + 1 := by (first | lia | omega)
    have hdrop := List.drop_eq_getElem_cons hlt
    have htake := List.take_succ_eq_append_getElem hlt
    rw [← hx1] at hdrop htake
    generalize R[x - ok] = r at hdrop htake
    rw [hdrop] at e1
    have hnx : NumKeys xs.toList := by
      intro z hz
      refine hn z ?_
      rw [harr]
      rw [e1] at hz
      rcases List.mem_append.mp hz with hz | hz
      · rcases List.mem_append.mp hz with hz | hz
        · exact List.mem_append_left _ (List.mem_append_left _ hz)
        · rcases List.mem_append.mp (fk_mem e4 hz) with hz | hz
          · exact List.mem_append_left _ (List.mem_append_right _ hz)
          · exact List.mem_append_right _ (List.mem_of_mem_take hz)
      · rw [← hdrop] at hz
        exact List.mem_append_right _ (List.mem_of_mem_drop hz)
    have hpv : xs[lo + x]? = some r := by
      rw [at_list e1, List.getElem?_append_right (by simp; (first | lia | omega))]
      simp [hlo, e3]
    have hm : ∀ i, i < x → ∃ z, M'[i]? = some z ∧ xs[lo + i]? = some z := by
      intro i hi
      refine ⟨_, getElem?_pos M' i (by (first | lia | omega)), ?_⟩
      rw [at_list e1, List.getElem?_append_left (by simp; (first | lia | omega)), List.getElem?_append_right (by (first | lia | omega)), show lo + i - P.length = i by (first | lia | omega)]
      exact getElem?_pos M' i (by (first | lia | omega))
    unfold bsS
    refine wpS_bind (wpS_mono (wpS_bsFind (st := st) hk hnx hpv hm e2 e3) ?_)
    rintro c st'' ⟨rfl, b0, b1, b2, b3, b4, b5⟩
    rw [b0]
    have hl : c.2.1 = c.2.2 := by (first | lia | omega)
    rw [← hl] at b5 b2
    obtain ⟨g1, g2, g3, g4⟩ := bs_plain e1 hlo e3 b2 b4 b5 e2
    show wpS _ _ _ _ (do moveDown' (lo + x) (lo + c.2.1); pure (ForInStep.yield (none, ()))) _ _
    rw [moveDown'_eq]
    refine wpS_bind (wpS_modify (wpS_pure ⟨_, M'.take c.2.1 ++ r :: M'.drop c.2.1, rfl, rfl, g1, g2, g3, fun k => ?_⟩))
    rw [g4, htake, ← List.append_assoc, fk_app k (M ++ R.take (x - ok)) [r], ← e4 k]
end
end Mine

namespace Mine

theorem take_snoc {O : List Keyed} {x : Nat} {r : Keyed} (h : O[x]? = some r) : O.take (x + 1) = O.take x ++ [r] := by
  obtain ⟨hi, rfl⟩ := List.getElem?_eq_some_iff.mp h
  exact List.take_succ_eq_append_getElem hi
theorem drop_cons {O : List Keyed} {x : Nat} {r : Keyed} (h : O[x]? = some r) : O.drop x = r :: O.drop (x + 1) := by
  obtain ⟨hi, rfl⟩ := List.getElem?_eq_some_iff.mp h
  exact List.drop_eq_getElem_cons hi
theorem Asc.snoc {M : List Keyed} {r : Keyed} (h : Asc M) (hr : ∀ z ∈ M, kyOf z ≤ kyOf r) : Asc (M ++ [r]) := by
  unfold Asc at h ⊢
  rw [List.pairwise_append]
  refine ⟨h, List.pairwise_singleton _ _, fun a ha b hb => ?_⟩
  rw [List.mem_singleton] at hb
  subst hb
  exact hr a ha
theorem Asc.at {M : List Keyed} (h : Asc M) {i j : Nat} {y z : Keyed} (hij : i ≤ j) (hy : M[i]? = some y) (hz : M[j]? = some z) : kyOf y ≤ kyOf z := by
  obtain ⟨hi, rfl⟩ := List.getElem?_eq_some_iff.mp hy
  obtain ⟨hj, rfl⟩ := List.getElem?_eq_some_iff.mp hz
  by_cases e : i = j
  · subst e; exact Int.le_refl _
  · exact List.pairwise_iff_getElem.mp h i j hi hj (by (first | lia | omega))
theorem Asc.le_last {M : List Keyed} (h : Asc M) {x : Nat} {y z : Keyed} (hl : M.length = x) (hx : M[x - 1]? = some y) (hz : z ∈ M) : kyOf z ≤ kyOf y := by
  obtain ⟨i, hi, rfl⟩ := List.mem_iff_getElem.mp hz
  exact h.at (by (first | lia | omega)) (getElem?_pos M i hi) hx

/-- the state while a run that falls is looked at: D has been turned, E are the last ones, with one key -/
structure Fal (P O : List Keyed) (xs : Array Keyed) (x neq : Nat) (D Ee : List Keyed) (e : Int) : Prop where
  arr : xs.toList = P ++ (D ++ Ee) ++ O.drop x
  len : D.length + Ee.length = x
  elen : Ee.length = neq + 1
  ekey : ∀ z ∈ Ee, kyOf z = e
  dkey : ∀ z ∈ D, e < kyOf z
  dasc : Asc D.reverse
  filt : ∀ k, fk k (Ee ++ D.reverse) = fk k (O.take x)

theorem Fal.num {P O : List Keyed} {xs : Array Keyed} {x neq : Nat} {D Ee : List Keyed} {e : Int} (h : Fal P O xs x neq D Ee e) (hn : NumKeys (P ++ O)) : NumKeys xs.toList := by
  intro z hz
  rw [h.arr] at hz
  refine hn z ?_
  rcases List.mem_append.mp hz with hz | hz
  · rcases List.mem_append.mp hz with hz | hz
    · exact List.mem_append_left _ hz
    · refine List.mem_append_right _ (List.mem_of_mem_take (fk_mem h.filt (z := z) ?_))
      rcases List.mem_append.mp hz with hz | hz
      · exact List.mem_append_right _ (List.mem_reverse.mpr hz)
      · exact List.mem_append_left _ hz
  · exact List.mem_append_right _ (List.mem_of_mem_drop hz)

theorem Fal.last {P O : List Keyed} {xs : Array Keyed} {x neq : Nat} {D Ee : List Keyed} {e : Int} (h : Fal P O xs x neq D Ee e) : ∃ z, xs[P.length + x - 1]? = some z ∧ kyOf z = e := by
  have hl := h.len
  have he := h.elen
  have hz : Ee[Ee.length - 1]? = some Ee[Ee.length - 1] := getElem?_pos Ee (Ee.length - 1) (by (first | lia | omega))
  refine ⟨Ee[Ee.length - 1], ?_, h.ekey _ (List.getElem_mem _)⟩
  rw [at_list h.arr, List.getElem?_append_left (by simp; (first | lia | omega)), List.getElem?_append_right (by (first | lia | omega)), List.getElem?_append_right (by (first | lia | omega)), ← hz]
  congr 1; (first | lia | omega)

theorem Fal.next {P O : List Keyed} {xs : Array Keyed} {x neq : Nat} {D Ee : List Keyed} {e : Int} (h : Fal P O xs x neq D Ee e) {r : Keyed} (hr : O[x]? = some r) : xs[P.length + x]? = some r := by
  have hl := h.len
  rw [at_list h.arr, List.getElem?_append_right (by simp; (first | lia | omega)), drop_cons hr]
  rw [show P.length + x - (P ++ (D ++ Ee)).length = 0 by simp; (first | lia | omega)]; rfl

/-- the last ones turned -/
theorem Fal.turn {P O : List Keyed} {xs : Array Keyed} {x neq : Nat} {D Ee : List Keyed} {e : Int} (h : Fal P O xs x neq D Ee e) :
    ∃ ys : Array Keyed, ys = mirror xs (P.length + x - (neq + 1)) (P.length + x) ((P.length + x - (P.length + x - (neq + 1))) / 2) ∧ ys.toList = P ++ (D ++ Ee.reverse) ++ O.drop x := by
  have hl := h.len
  have he := h.elen
  have e1 : xs.toList = (P ++ D) ++ Ee ++ O.drop x := by rw [h.arr]; simp
  refine ⟨_, rfl, ?_⟩
  rw [mirror_list e1 (by simp; (first | lia | omega)) (by simp; (first | lia | omega))]
  simp
theorem Fal.turn0 {P O : List Keyed} {xs : Array Keyed} {x : Nat} {D Ee : List Keyed} {e : Int} (h : Fal P O xs x 0 D Ee e) : xs.toList = P ++ (D ++ Ee.reverse) ++ O.drop x := by
  have he := h.elen
  obtain ⟨z, rfl⟩ := List.length_eq_one_iff.mp (by (first | lia | omega) : Ee.length = 1)
  rw [h.arr]; rfl

theorem Fal.less {P O : List Keyed} {xs ys : Array Keyed} {x neq : Nat} {D Ee : List Keyed} {e : Int} {r : Keyed} (h : Fal P O xs x neq D Ee e) (hy : ys.toList = P ++ (D ++ Ee.reverse) ++ O.drop x) (hr : O[x]? = some r) (hl : kyOf r < e) :
    Fal P O ys (x + 1) 0 (D ++ Ee.reverse) [r] (kyOf r) := by
  have hkeys : ∀ z ∈ D ++ Ee.reverse, kyOf r < kyOf z := by
    intro z hz
    rcases List.mem_append.mp hz with hz | hz
    · have := h.dkey z hz; (first | lia | omega)
    · have := h.ekey z (List.mem_reverse.mp hz); (first | lia | omega)
  refine ⟨?_, ?_, rfl, ?_, hkeys, ?_, ?_⟩
  · rw [hy, drop_cons hr]; simp
  · have := h.len; simp; (first | lia | omega)
  · intro z hz; rw [List.mem_singleton] at hz; rw [hz]
  · rw [List.reverse_append, List.reverse_reverse]
    unfold Asc
    rw [List.pairwise_append]
    refine ⟨?_, h.dasc, ?_⟩
    · rw [List.pairwise_iff_getElem]
      intro i j hi hj _
      rw [h.ekey _ (List.getElem_mem _), h.ekey _ (List.getElem_mem _)]
      exact Int.le_refl _
    · intro a ha b hb
      have := h.ekey a ha
      have := h.dkey b (List.mem_reverse.mp hb)
      (first | lia | omega)
  · intro k
    rw [take_snoc hr, fk_app k (O.take x), ← h.filt, List.reverse_append, List.reverse_reverse, ← fk_app, ← fk_swap]
    · rfl
    · intro z hz
      have : z ∈ D ++ Ee.reverse := by
        rcases List.mem_append.mp hz with hz | hz
        · exact List.mem_append_right _ (List.mem_reverse.mpr hz)
        · exact List.mem_append_left _ (List.mem_reverse.mp hz)
      have := hkeys z this
      (first | lia | omega)

theorem Fal.same {P O : List Keyed} {xs : Array Keyed} {x neq : Nat} {D Ee : List Keyed} {e : Int} {r : Keyed} (h : Fal P O xs x neq D Ee e) (hr : O[x]? = some r) (hl : kyOf r = e) :
    Fal P O xs (x + 1) (neq + 1) D (Ee ++ [r]) e := by
  refine ⟨?_, ?_, ?_, ?_, h.dkey, h.dasc, ?_⟩
  · rw [h.arr, drop_cons hr]; simp
  · have := h.len; simp; (first | lia | omega)
  · have := h.elen; simp; (first | lia | omega)
  · intro z hz
    rcases List.mem_append.mp hz with hz | hz
    · exact h.ekey z hz
    · rw [List.mem_singleton] at hz; rw [hz]; exact hl
  · intro k
    rw [take_snoc hr, fk_app k (O.take x), ← h.filt, List.append_assoc, fk_app k Ee, fk_app k Ee, List.append_assoc, ← fk_app k D.reverse, List.singleton_append, fk_swap]
    intro z hz
    have := h.dkey z (List.mem_reverse.mp hz)
    (first | lia | omega)

theorem Fal.end_ {P O : List Keyed} {xs ys : Array Keyed} {x neq : Nat} {D Ee : List Keyed} {e : Int} (h : Fal P O xs x neq D Ee e) (hy : ys.toList = P ++ (D ++ Ee.reverse) ++ O.drop x) :
    (mirror ys P.length (P.length + x) ((P.length + x - P.length) / 2)).toList = P ++ (Ee ++ D.reverse) ++ O.drop x ∧ Asc (Ee ++ D.reverse) ∧ (Ee ++ D.reverse).length = x := by
  have hl := h.len
  refine ⟨?_, ?_, by simp; (first | lia | omega)⟩
  · rw [mirror_list hy rfl (by simp; (first | lia | omega))]
    simp
  · unfold Asc
    rw [List.pairwise_append]
    refine ⟨?_, h.dasc, ?_⟩
    · rw [List.pairwise_iff_getElem]
      intro i j hi hj _
      rw [h.ekey _ (List.getElem_mem _), h.ekey _ (List.getElem_mem _)]
      exact Int.le_refl _
    · intro a ha b hb
      have := h.ekey a ha
      have := h.dkey b (List.mem_reverse.mp hb)
      (first | lia | omega)

/-- the beginning: equal ones, turned, and a smaller one -/
theorem Fal.begin {P O : List Keyed} {ys : Array Keyed} {n : Nat} {b r : Keyed} (hb : ∀ z ∈ O.take n, kyOf z = kyOf b) (hn : n ≤ O.length) (hr : O[n]? = some r) (hl : kyOf r < kyOf b) (hy : ys.toList = P ++ (O.take n).reverse ++ O.drop n) :
    Fal P O ys (n + 1) 0 (O.take n).reverse [r] (kyOf r) := by
  have hkeys : ∀ z ∈ O.take n, kyOf r < kyOf z := fun z hz => by rw [hb z hz]; exact hl
  refine ⟨?_, ?_, rfl, ?_, fun z hz => hkeys z (List.mem_reverse.mp hz), ?_, ?_⟩
  · rw [hy, drop_cons hr]; simp
  · simp; (first | lia | omega)
  · intro z hz; rw [List.mem_singleton] at hz; rw [hz]
  · rw [List.reverse_reverse]
    unfold Asc
    rw [List.pairwise_iff_getElem]
    intro i j hi hj _
    rw [hb _ (List.getElem_mem _), hb _ (List.getElem_mem _)]
    exact Int.le_refl _
  · intro k
    rw [List.reverse_reverse, take_snoc hr, ← fk_swap]
    · rfl
    · intro z hz; have := hkeys z hz; (first | lia | omega)
end Mine

namespace Mine

theorem Asc.one {N : List Keyed} (x : Nat) (h : x ≤ 1) : Asc (N.take x) := by
  unfold Asc
  rw [List.pairwise_iff_getElem]
  intro i j hi hj hij
  rw [List.length_take] at hi hj
  (first | lia | omega)

section
variable {prog : Program} {w : World} {A : Around} {E : Value → Shared → Prop} {s : Shared}

/-! ### the run, in named steps -/
noncomputable abbrev CrC := Option (Option Nat) × Nat
noncomputable abbrev CrD := Option (Option Nat) × Nat × Nat
noncomputable def crUp (lo : Nat) (c : CrC) : StateT SortSt Sem (ForInStep CrC) := do
  let r ← ltAt' (lo + c.2) (lo + c.2 - 1)
  match r with
  | some smaller => if smaller = true then pure (.done (none, c.2)) else pure (.yield (none, c.2 + 1))
  | _ => pure (.done (some none, c.2))
noncomputable def crTail (lo nrem n : Nat) : StateT SortSt Sem (Option Nat) := do
  reverseSlice' lo (lo + n)
  let c ← forIn [n:nrem] (none, n) fun _ c => crUp lo c
  match c.1 with
  | some r => pure r
  | none => pure (some c.2)
noncomputable def crDn (lo : Nat) (c : CrD) : StateT SortSt Sem (ForInStep CrD) := do
  let r ← ltAt' (lo + c.2.1) (lo + c.2.1 - 1)
  match r with
  | some smaller =>
    if smaller = true then
      if c.2.2 > 0 then do
        let _ ← reverseSlice' (lo + c.2.1 - (c.2.2 + 1)) (lo + c.2.1)
        pure (.yield (none, c.2.1 + 1, 0))
      else pure (.yield (none, c.2.1 + 1, 0))
    else do
      let r ← ltAt' (lo + c.2.1 - 1) (lo + c.2.1)
      match r with
      | some larger => if larger = true then pure (.done (none, c.2.1, c.2.2)) else pure (.yield (none, c.2.1 + 1, c.2.2 + 1))
      | _ => pure (.done (some none, c.2.1, c.2.2))
  | _ => pure (.done (some none, c.2.1, c.2.2))
noncomputable def crDesc (lo nrem n : Nat) : StateT SortSt Sem (Option Nat) := do
  rule "list.sort.descending-run"
  let c ← forIn [n + 1:nrem] (none, n + 1, 0) fun _ c => crDn lo c
  match c.1 with
  | some r => pure r
  | none =>
    if c.2.2 > 0 then do
      let _ ← reverseSlice' (lo + c.2.1 - (c.2.2 + 1)) (lo + c.2.1)
      crTail lo nrem c.2.1
    else crTail lo nrem c.2.1
theorem countRun'_eq2 (lo nrem : Nat) : countRun' lo nrem = (do
  let c ← forIn [1:nrem] (none, 1) fun _ c => crUp lo c
  match c.1 with
  | some r => pure r
  | none =>
    if (c.2 == nrem) = true then pure (some c.2)
    else if c.2 > 1 then do
      let r ← ltAt' lo (lo + c.2 - 1)
      match r with
      | some rose =>
        if rose = true then pure (some c.2)
        else do
          let _ ← reverseSlice' lo (lo + c.2)
          crDesc lo nrem c.2
      | _ => pure none
    else crDesc lo nrem c.2) := by
  rw [countRun'_eq]
  dsimp only [crDesc, crTail, crDn, crUp, CrC, CrD]
  kernel_rfl
noncomputable def UpPost (st : SortSt) (xs : Array Keyed) (N : List Keyed) (nrem a0 : Nat) (c : CrC) (st' : SortSt) : Prop :=
  st' = setArr st xs ∧ ∃ n, c = (none, n) ∧ a0 ≤ n ∧ n ≤ nrem ∧ Asc (N.take n) ∧ (n = nrem ∨ ∃ r p, N[n]? = some r ∧ N[n - 1]? = some p ∧ kyOf r < kyOf p)
/-- a loop that goes on while the next one is not smaller; N is what stands from lo on -/
theorem wpS_up {st : SortSt} {xs : Array Keyed} {N P : List Keyed} {lo nrem a0 : Nat} (hk : kindOf st = oneType') (hN : xs.toList = P ++ N) (hnN : NumKeys xs.toList) (hlo : lo = P.length) (hNl : N.length = nrem) (h1 : 1 ≤ a0) (h2 : a0 ≤ nrem) (ha : Asc (N.take a0)) :
    wpS (model prog w) A E s (forIn [a0:nrem] (none, a0) fun _ c => crUp lo c) (UpPost st xs N nrem a0) (setArr st xs) := by
  refine wpS_forRange (I := fun x c st' => st' = setArr st xs ∧ c = (none, x) ∧ Asc (N.take x)) ?astep ?afin ⟨rfl, rfl, ha⟩
  case afin =>
    rintro c st' ⟨rfl, rfl, b1⟩
    exact ⟨rfl, _, rfl, by (first | lia | omega), by (first | lia | omega), b1, .inl (by (first | lia | omega))⟩
  case astep =>
    rintro x c st' hax hxn ⟨rfl, rfl, b1⟩
    unfold crUp
    have g1 : N[x]? = some N[x] := getElem?_pos N x (by (first | lia | omega))
    have g2 : N[x - 1]? = some N[x - 1] := getElem?_pos N (x - 1) (by (first | lia | omega))
    have g3 : xs[lo + x]? = some N[x] := by rw [at_list hN, List.getElem?_append_right (by (first | lia | omega)), show lo + x - P.length = x by (first | lia | omega)]; exact g1
    have g4 : xs[lo + x - 1]? = some N[x - 1] := by rw [at_list hN, List.getElem?_append_right (by (first | lia | omega)), show lo + x - 1 - P.length = x - 1 by (first | lia | omega)]; exact g2
    refine wpS_bind (wpS_ltAtS hk g3 g4 (hnN.at g3) (hnN.at g4) ?_)
    by_cases hless : kyOf N[x] < kyOf N[x - 1]
    · simp only [hless, decide_true, if_true]
      exact wpS_pure ⟨rfl, x, rfl, hax, by (first | lia | omega), b1, .inr ⟨_, _, g1, g2, hless⟩⟩
    · simp only [hless, decide_false, Bool.false_eq_true, if_false]
      refine wpS_pure ⟨rfl, rfl, ?_⟩
      rw [take_snoc g1]
      refine b1.snoc fun z hz => ?_
      have := b1.le_last (x := x) (y := N[x - 1]) (by rw [List.length_take]; (first | lia | omega)) (by rw [List.getElem?_take, if_pos (by (first | lia | omega))]; exact g2) hz
      (first | lia | omega)
structure CrH (st : SortSt) (lo nrem : Nat) (P O : List Keyed) (Q : Option Nat → SortSt → Prop) : Prop where
  hk : kindOf st = oneType'
  hn : NumKeys (arrOf st).toList
  harr : (arrOf st).toList = P ++ O
  hlo : lo = P.length
  hO : O.length = nrem
  h : ∀ m xs M, xs.toList = P ++ M ++ O.drop m → M.length = m → 1 ≤ m → m ≤ nrem → Asc M → (∀ k, fk k M = fk k (O.take m)) → Q (some m) (setArr st xs)
section
variable {st : SortSt} {lo nrem : Nat} {P O : List Keyed} {Q : Option Nat → SortSt → Prop}
/-- the end of a run that fell: turn it, and go on up -/
theorem wpS_crTail {m neq : Nat} {xs ys : Array Keyed} {D Ee : List Keyed} {e : Int} (H : CrH st lo nrem P O Q) (F : Fal P O xs m neq D Ee e) (hy : ys.toList = P ++ (D ++ Ee.reverse) ++ O.drop m) (m1 : 1 ≤ m) (m2 : m ≤ nrem) :
    wpS (model prog w) A E s (crTail lo nrem m) Q (setArr st ys) := by
  obtain ⟨hk, hn, harr, hlo, hO, h⟩ := H
  unfold crTail
  refine wpS_bind (wpS_reverse ?_)
  obtain ⟨t1, t2, t3⟩ := F.end_ hy
  rw [← hlo] at t1
  obtain ⟨zs, hzs⟩ : ∃ zs, zs = mirror ys lo (lo + m) ((lo + m - lo) / 2) := ⟨_, rfl⟩
  rw [← hzs] at t1
  change wpS _ _ _ _ _ _ (setArr st (mirror ys lo (lo + m) ((lo + m - lo) / 2)))
  rw [← hzs]
  obtain ⟨N, hNd⟩ : ∃ N, N = (Ee ++ D.reverse) ++ O.drop m := ⟨_, rfl⟩
  have hN : zs.toList = P ++ N := by rw [t1, hNd, List.append_assoc]
  have hNl : N.length = nrem := by rw [hNd, List.length_append, t3, List.length_drop]; (first | lia | omega)
  have hnN : NumKeys zs.toList := by
    intro z hz
    rw [t1] at hz
    refine hn z ?_
    rw [harr]
    rcases List.mem_append.mp hz with hz | hz
    · rcases List.mem_append.mp hz with hz | hz
      · exact List.mem_append_left _ hz
      · exact List.mem_append_right _ (List.mem_of_mem_take (fk_mem F.filt hz))
    · exact List.mem_append_right _ (List.mem_of_mem_drop hz)
  have hNm : N.take m = Ee ++ D.reverse := by rw [hNd, List.take_append_of_le_length (by (first | lia | omega)), List.take_of_length_le (by (first | lia | omega))]
  refine wpS_bind (wpS_mono (wpS_up (st := st) hk hN hnN hlo hNl m1 m2 (by rw [hNm]; exact t2)) ?_)
  rintro c st' ⟨rfl, n', rfl, c1, c2, c3, _⟩
  dsimp only
  refine wpS_pure (h n' zs (N.take n') ?_ (by rw [List.length_take]; (first | lia | omega)) (by (first | lia | omega)) c2 c3 ?_)
  · rw [hN]
    have : N.drop n' = O.drop n' := by rw [hNd, List.drop_append, t3, List.drop_of_length_le (by (first | lia | omega)), List.nil_append, List.drop_drop]; congr 1; (first | lia | omega)
    rw [← this, List.append_assoc, List.take_append_drop]
  · intro k
    have e1 : N.take n' = (Ee ++ D.reverse) ++ (O.drop m).take (n' - m) := by rw [hNd, List.take_append, t3, List.take_of_length_le (by (first | lia | omega))]
    have e2 : O.take n' = O.take m ++ (O.drop m).take (n' - m) := by rw [← List.take_add]; congr 1; (first | lia | omega)
    rw [e1, e2, fk_app k (Ee ++ D.reverse), fk_app k (O.take m), F.filt]
/-- a run that falls -/
theorem wpS_crDesc {n : Nat} {xs0 : Array Keyed} {D0 E0 : List Keyed} {e0 : Int} (H : CrH st lo nrem P O Q) (F0 : Fal P O xs0 (n + 1) 0 D0 E0 e0) (n2 : n + 1 ≤ nrem) :
    wpS (model prog w) A E s (crDesc lo nrem n) Q (setArr st xs0) := by
  have H' := H
  obtain ⟨hk, hn, harr, hlo, hO, h⟩ := H
  unfold crDesc
  refine wpS_bind (wpS_lift (wpAny_rule ⟨rfl, ?_⟩))
  refine wpS_bind (wpS_mono (wpS_forRange (I := fun x c st' => ∃ neq xs D Ee e, c = (none, x, neq) ∧ st' = setArr st xs ∧ Fal P O xs x neq D Ee e)
      (Q := fun c st' => ∃ m neq xs D Ee e, c = (none, m, neq) ∧ n + 1 ≤ m ∧ m ≤ nrem ∧ st' = setArr st xs ∧ Fal P O xs m neq D Ee e) ?dstep ?dfin ?dinit) ?dpost)
  case dinit => exact ⟨0, _, _, _, _, rfl, rfl, F0⟩
  case dfin =>
    rintro c st' ⟨neq, xs, D, Ee, e, rfl, rfl, F⟩
    exact ⟨_, _, _, _, _, _, rfl, by (first | lia | omega), by (first | lia | omega), rfl, F⟩
  case dstep =>
    rintro x c st' hax hxn ⟨neq, xs, D, Ee, e, rfl, rfl, F⟩
    unfold crDn
    obtain ⟨z, z1, z2⟩ := F.last
    have g1 : O[x]? = some O[x] := getElem?_pos O x (by (first | lia | omega))
    have g2 := F.next g1
    rw [← hlo] at z1 g2
    have hnx : NumKeys xs.toList := F.num (by rw [← harr]; exact hn)
    refine wpS_bind (wpS_ltAtS hk g2 z1 (hnx.at g2) (hnx.at z1) ?_)
    by_cases hless : kyOf O[x] < kyOf z
    · simp only [hless, decide_true, if_true]
      by_cases hneq : neq > 0
      · rw [if_pos hneq]
        obtain ⟨ys, y1, y2⟩ := F.turn
        rw [← hlo] at y1
        refine wpS_bind (wpS_reverse (wpS_pure ⟨0, ys, _, _, _, rfl, ?_, F.less y2 g1 (by (first | lia | omega))⟩))
        rw [y1]
      · rw [if_neg hneq]
        have : neq = 0 := by (first | lia | omega)
        subst this
        exact wpS_pure ⟨0, xs, _, _, _, rfl, rfl, F.less F.turn0 g1 (by (first | lia | omega))⟩
    · simp only [hless, decide_false, Bool.false_eq_true, if_false]
      refine wpS_bind (wpS_ltAtS hk z1 g2 (hnx.at z1) (hnx.at g2) ?_)
      by_cases hlarger : kyOf z < kyOf O[x]
      · simp only [hlarger, decide_true, if_true]
        exact wpS_pure ⟨_, _, _, _, _, _, rfl, hax, by (first | lia | omega), rfl, F⟩
      · simp only [hlarger, decide_false, Bool.false_eq_true, if_false]
        exact wpS_pure ⟨_, _, _, _, _, rfl, rfl, F.same g1 (by (first | lia | omega))⟩
  case dpost =>
    rintro c st' ⟨m, neq, xs, D, Ee, e, rfl, d1, d2, rfl, F⟩
    dsimp only
    by_cases hneq : neq > 0
    · rw [if_pos hneq]
      obtain ⟨ys, y1, hy⟩ := F.turn
      rw [← hlo] at y1
      refine wpS_bind (wpS_reverse ?_)
      change wpS _ _ _ _ _ _ (setArr st (mirror xs (lo + m - (neq + 1)) (lo + m) ((lo + m - (lo + m - (neq + 1))) / 2)))
      rw [← y1]
      exact wpS_crTail H' F hy (by (first | lia | omega)) d2
    · rw [if_neg hneq]
      have : neq = 0 := by (first | lia | omega)
      subst this
      exact wpS_crTail H' F F.turn0 (by (first | lia | omega)) d2
end

theorem wpS_countRunS {st : SortSt} {lo nrem : Nat} {P O : List Keyed} {Q : Option Nat → SortSt → Prop} (hk : kindOf st = oneType') (hn : NumKeys (arrOf st).toList) (harr : (arrOf st).toList = P ++ O) (hlo : lo = P.length)
    (hO : O.length = nrem) (h1 : 1 ≤ nrem)
    (h : ∀ m xs M, xs.toList = P ++ M ++ O.drop m → M.length = m → 1 ≤ m → m ≤ nrem → Asc M → (∀ k, fk k M = fk k (O.take m)) → Q (some m) (setArr st xs)) :
    wpS (model prog w) A E s (countRun' lo nrem) Q st := by
  have HH : CrH st lo nrem P O Q := ⟨hk, hn, harr, hlo, hO, h⟩
  rw [countRun'_eq2]
  obtain ⟨xs0, hxs0⟩ : ∃ xs0, xs0 = arrOf st := ⟨_, rfl⟩
  have hN : xs0.toList = P ++ O := by rw [hxs0]; exact harr
  have hnN : NumKeys xs0.toList := by rw [hxs0]; exact hn
  have hst : st = setArr st xs0 := by rw [hxs0]
  have up := wpS_up (prog := prog) (w := w) (A := A) (E := E) (s := s) (st := st) (a0 := 1) hk hN hnN hlo hO (Nat.le_refl _) h1 (Asc.one 1 (Nat.le_refl _))
  rw [← hst] at up
  refine wpS_bind (wpS_mono up ?_)
  · rintro c st' ⟨rfl, n, rfl, c1, c2, c3, c4⟩
    dsimp only
    have ret : Q (some n) (setArr st xs0) := by
      refine h n xs0 (O.take n) ?_ (by rw [List.length_take]; (first | lia | omega)) c1 c2 c3 (fun k => rfl)
      rw [hN, List.append_assoc, List.take_append_drop]
    by_cases hnn : n = nrem
    · rw [if_pos (by simpa using hnn)]
      exact wpS_pure ret
    rw [if_neg (by simpa using hnn)]
    obtain ⟨r, p, r1, r2, r3⟩ := c4.resolve_left hnn
    by_cases hgt : n > 1
    · rw [if_pos hgt]
      have f1 : O[0]? = some O[0] := getElem?_pos O 0 (by (first | lia | omega))
      have f2 : xs0[lo]? = some O[0] := by rw [at_list hN, List.getElem?_append_right (by (first | lia | omega)), show lo - P.length = 0 by (first | lia | omega)]; exact f1
      have f3 : xs0[lo + n - 1]? = some p := by rw [at_list hN, List.getElem?_append_right (by (first | lia | omega)), show lo + n - 1 - P.length = n - 1 by (first | lia | omega)]; exact r2
      refine wpS_bind (wpS_ltAtS hk f2 f3 (hnN.at f2) (hnN.at f3) ?_)
      by_cases hrose : kyOf O[0] < kyOf p
      · simp only [hrose, decide_true, if_true]
        exact wpS_pure ret
      · simp only [hrose, decide_false, Bool.false_eq_true, if_false]
        have hall : ∀ z ∈ O.take n, kyOf z = kyOf p := by
          intro z hz
          have e1 := c3.le_last (x := n) (y := p) (by rw [List.length_take]; (first | lia | omega)) (by rw [List.getElem?_take, if_pos (by (first | lia | omega))]; exact r2) hz
          obtain ⟨i, hi, rfl⟩ := List.mem_iff_getElem.mp hz
          have e2 := c3.at (i := 0) (j := i) (y := O[0]) (Nat.zero_le _) (by rw [List.getElem?_take, if_pos (by (first | lia | omega))]; exact f1) (getElem?_pos (O.take n) i hi)
          (first | lia | omega)
        have e0 : xs0.toList = P ++ O.take n ++ O.drop n := by rw [hN, List.append_assoc, List.take_append_drop]
        have e1 := mirror_list e0 (i := lo) (j := lo + n) hlo (by rw [List.length_take]; (first | lia | omega))
        have F0 := Fal.begin hall (by (first | lia | omega)) r1 r3 e1
        refine wpS_bind (wpS_reverse ?_)
        exact wpS_crDesc (st := st) HH F0 (by (first | lia | omega))
    · rw [if_neg hgt]
      have hn1 : n = 1 := by (first | lia | omega)
      have e0 : xs0.toList = P ++ (O.take n).reverse ++ O.drop n := by
        rw [hn1]
        obtain ⟨o, O', rfl⟩ : ∃ o O', O = o :: O' := by cases O with
          | nil => simp at hO; (first | lia | omega)
          | cons o O' => exact ⟨o, O', rfl⟩
        rw [hN]; simp
      have hall : ∀ z ∈ O.take n, kyOf z = kyOf p := by
        intro z hz
        rw [hn1] at hz r2
        obtain ⟨o, O', rfl⟩ : ∃ o O', O = o :: O' := by cases O with
          | nil => simp at hO; (first | lia | omega)
          | cons o O' => exact ⟨o, O', rfl⟩
        simp at hz r2
        rw [hz, r2]
      have F0 := Fal.begin hall (by (first | lia | omega)) r1 r3 e0
      exact wpS_crDesc (st := st) HH F0 (by (first | lia | omega))
end
end Mine

namespace Mine

theorem minRun_128 {n : Nat} (h : n < 128) (h1 : 2 ≤ n) : ∃ m, minRun' n n 0 = m ∧ 2 ≤ m ∧ m ≤ n ∧ n ≤ 2 * m := by
  obtain ⟨f, hf⟩ : ∃ f, n = f + 2 := ⟨n - 2, by (first | lia | omega)⟩
  have e : minRun' n n 0 = minRun' (f + 2) n 0 := by rw [← hf]
  rw [e, minRun'_succ]
  by_cases c : n < 64
  · rw [if_pos c]; exact ⟨_, rfl, by (first | lia | omega), by (first | lia | omega), by (first | lia | omega)⟩
  · rw [if_neg c, minRun'_succ, if_pos (by (first | lia | omega))]
    exact ⟨_, rfl, by (first | lia | omega), by (first | lia | omega), by (first | lia | omega)⟩

section
variable {prog : Program} {w : World} {A : Around} {E : Value → Shared → Prop} {s : Shared}

theorem AscAt.of_list {xs : Array Keyed} {P M R : List Keyed} {lo hi : Nat} (h : xs.toList = P ++ M ++ R) (hm : Asc M) (hlo : lo = P.length) (hhi : hi = lo + M.length) : AscAt xs lo hi := by
  intro i j x y h1 h2 h3 hx hy
  rw [at_list h, List.getElem?_append_left (by simp; (first | lia | omega)), List.getElem?_append_right (by (first | lia | omega))] at hx hy
  exact hm.at (by (first | lia | omega)) hx hy

theorem num_fk {M O : List Keyed} (hn : NumKeys O) (h : ∀ k, fk k M = fk k O) : NumKeys M := fun z hz => hn z (fk_mem h hz)


theorem bin_facts {xs' : Array Keyed} {P M M' R : List Keyed} {m n : Nat} (hmn : m ≤ n) (hf : xs'.toList = P ++ M' ++ (R.drop m).drop (n - m)) (e6 : ∀ k, fk k M = fk k (R.take m))
    (f3 : ∀ k, fk k M' = fk k (M ++ (R.drop m).take (n - m))) : xs'.toList = P ++ M' ++ R.drop n ∧ ∀ k, fk k M' = fk k (R.take n) := by
  refine ⟨?_, fun k => ?_⟩
  · rw [hf, List.drop_drop]; congr 2; (first | lia | omega)
  · have t1 : R.take n = R.take m ++ (R.drop m).take (n - m) := by rw [← List.take_add]; congr 1; (first | lia | omega)
    rw [f3 k, t1, fk_app k M, fk_app k (R.take m), e6 k]

theorem num_run {xs : Array Keyed} {P M R : List Keyed} {m : Nat} (hP : NumKeys P) (hR : NumKeys R) (e1 : xs.toList = P ++ M ++ R.drop m) (e6 : ∀ k, fk k M = fk k (R.take m)) : NumKeys xs.toList := by
  rw [e1]
  intro z hz
  rcases List.mem_append.mp hz with hz | hz
  · rcases List.mem_append.mp hz with hz | hz
    · exact hP z hz
    · exact hR z (List.mem_of_mem_take (fk_mem e6 hz))
  · exact hR z (List.mem_of_mem_drop hz)

/-- the state after the first run -/
noncomputable def One (O : List Keyed) (mr g n1 : Nat) (st' : SortSt) : Prop := ∃ xs M, st' = SortSt.mk' oneType' xs #[(0, n1, 0)] g none ∧ xs.toList = M ++ O.drop n1 ∧ M.length = n1 ∧ mr ≤ n1 ∧ n1 ≤ O.length ∧ Asc M ∧ (∀ k, fk k M = fk k (O.take n1))
/-- the state after the second run -/
noncomputable def Two (O : List Keyed) (g : Nat) (st' : SortSt) : Prop := ∃ n1 xs M1 M2 pw, st' = SortSt.mk' oneType' xs #[(0, n1, pw), (n1, O.length - n1, 0)] g none ∧ xs.toList = M1 ++ M2 ∧ M1.length = n1 ∧ 1 ≤ n1 ∧ n1 < O.length ∧
  M2.length = O.length - n1 ∧ Asc M1 ∧ Asc M2 ∧ (∀ k, fk k M1 = fk k (O.take n1)) ∧ (∀ k, fk k M2 = fk k (O.drop n1))

theorem two_eq (xs : Array Keyed) (g : Nat) (f : Nat × Nat × Nat → Nat) {n1 nn n2 : Nat} (h : nn = n2) :
    setPending (setPending (SortSt.mk' oneType' xs #[(0, n1, 0)] g none) ((pendingOf (SortSt.mk' oneType' xs #[(0, n1, 0)] g none)).modify ((pendingOf (SortSt.mk' oneType' xs #[(0, n1, 0)] g none)).size - 1) fun x => (x.fst, x.2.fst, f x)))
      ((pendingOf (setPending (SortSt.mk' oneType' xs #[(0, n1, 0)] g none) ((pendingOf (SortSt.mk' oneType' xs #[(0, n1, 0)] g none)).modify ((pendingOf (SortSt.mk' oneType' xs #[(0, n1, 0)] g none)).size - 1) fun x => (x.fst, x.2.fst, f x)))).push (n1, nn, 0)) =
    SortSt.mk' oneType' xs #[(0, n1, f (0, n1, 0)), (n1, n2, 0)] g none := by
  subst h
  have e : ((#[(0, n1, 0)] : Array (Nat × Nat × Nat)).modify ((#[(0, n1, 0)] : Array (Nat × Nat × Nat)).size - 1) fun x => (x.fst, x.2.fst, f x)) = #[(0, n1, f (0, n1, 0))] := by simp [Array.modify]; rfl
  show SortSt.mk' oneType' xs (((#[(0, n1, 0)] : Array (Nat × Nat × Nat)).modify ((#[(0, n1, 0)] : Array (Nat × Nat × Nat)).size - 1) fun x => (x.fst, x.2.fst, f x)).push (n1, nn, 0)) g none = _
  rw [e]; rfl

/-- the end -/
noncomputable def Fi (O : List Keyed) (st' : SortSt) : Prop := (pendingOf st').size ≤ 1 ∧ failedOf st' = none ∧ Asc (arrOf st').toList ∧ (∀ k, fk k (arrOf st').toList = fk k O) ∧ (arrOf st').size = O.length

theorem One.fi {O : List Keyed} {mr g : Nat} {st' : SortSt} (h : One O mr g O.length st') : Fi O st' := by
  obtain ⟨xs, M, rfl, d1, d2, d3, d4, d5, d6⟩ := h
  rw [List.drop_of_length_le (Nat.le_refl _), List.append_nil] at d1
  refine ⟨Nat.le_refl 1, rfl, ?_, ?_, ?_⟩
  · show Asc xs.toList; rw [d1]; exact d5
  · intro k; show fk k xs.toList = _; rw [d1, d6 k, List.take_length]
  · show xs.size = _; rw [← Array.length_toList, d1, d2]

/-! ### the runs, in named steps -/
noncomputable def srMrg (pw : Nat) : StateT SortSt Sem (ForInStep (Option Unit × Unit)) := do
  let st ← get
  match if (pendingOf st).size > 1 then (pendingOf st)[(pendingOf st).size - 2]? else none with
  | some (_, _, older) =>
    if older ≤ pw then pure (.done (none, ()))
    else do
      let ok ← mergeAt' ((pendingOf st).size - 2)
      if (!ok) = true then pure (.done (some (), ())) else pure (.yield (none, ()))
  | _ => pure (.done (none, ()))
noncomputable def srPush (lo n : Nat) : StateT SortSt Sem (ForInStep (Option Unit × Nat)) := do
  modify fun s => setPending s ((pendingOf s).push (lo, n, 0))
  pure (.yield (none, lo + n))
noncomputable def srNext (size lo n : Nat) : StateT SortSt Sem (ForInStep (Option Unit × Nat)) := do
  let st ← get
  match (pendingOf st).back? with
  | some (s1, n1, _) => do
    let c ← forIn [0:size] (none, ()) fun _ _ => srMrg (power' size (2 * s1 + n1) (2 * s1 + n1 + n1 + n) size)
    match c.1 with
    | some r => pure (.done (some r, lo))
    | none => do
      modify fun s => setPending s ((pendingOf s).modify ((pendingOf s).size - 1) fun x => match x with | (st, len, _) => (st, len, power' size (2 * s1 + n1) (2 * s1 + n1 + n1 + n) size))
      srPush lo n
  | _ => srPush lo n
noncomputable def srBody (size minrun : Nat) (c : Option Unit × Nat) : StateT SortSt Sem (ForInStep (Option Unit × Nat)) :=
  if c.2 ≥ size then pure (.done (none, c.2))
  else do
    let r ← countRun' c.2 (size - c.2)
    match r with
    | some n =>
      if n < minrun then do
        rule "list.sort.binary-insertion"
        let ok ← binarySort' c.2 (min (size - c.2) minrun) n
        if (!ok) = true then pure (.done (some (), c.2)) else srNext size c.2 (min (size - c.2) minrun)
      else srNext size c.2 n
    | _ => pure (.done (some (), c.2))
noncomputable def srCol : StateT SortSt Sem (ForInStep (Option Unit × Unit)) := do
  let st ← get
  let p := pendingOf st
  if p.size ≤ 1 then pure (.done (none, ()))
  else do
    let i := p.size - 2
    let before := if i > 0 then Option.map (fun x => x.snd.fst) p[i - 1]? else none
    let i := if Option.any (fun x => decide (x < p[i + 1]?.elim 0 fun x => x.snd.fst)) before = true then i - 1 else i
    let ok ← mergeAt' i
    if (!ok) = true then pure (.done (some (), ())) else pure (.yield (none, ()))
theorem sortRuns'_eq2 : sortRuns' = (do
  let st ← get
  let c ← forIn [0:(arrOf st).size] (none, 0) fun _ c => srBody (arrOf st).size (minRun' (arrOf st).size (arrOf st).size 0) c
  match c.1 with
  | some r => pure r
  | none => do
    let e ← forIn [0:(arrOf st).size] (none, ()) fun _ _ => srCol
    match e.1 with
    | some r => pure r
    | none => pure ()) := by
  rw [sortRuns'_eq]
  dsimp only [srBody, srNext, srPush, srMrg, srCol]
  kernel_rfl
noncomputable def SrI (O : List Keyed) (xs₀ : Array Keyed) (mr g x : Nat) (c : Option Unit × Nat) (st' : SortSt) : Prop :=
  (x = 0 ∧ c = (none, 0) ∧ st' = SortSt.mk' oneType' xs₀ #[] g none) ∨ (1 ≤ x ∧ ∃ n1, c = (none, n1) ∧ One O mr g n1 st' ∧ (x = 1 ∨ n1 = O.length)) ∨ (2 ≤ x ∧ c = (none, O.length) ∧ Two O g st')
noncomputable def SrQ (O : List Keyed) (mr g : Nat) (c : Option Unit × Nat) (st' : SortSt) : Prop := c = (none, O.length) ∧ (One O mr g O.length st' ∨ Two O g st')
noncomputable def SrP (O : List Keyed) (xs₀ : Array Keyed) (mr g x : Nat) (r : ForInStep (Option Unit × Nat)) (st' : SortSt) : Prop := match r with | .done c' => SrQ O mr g c' st' | .yield c' => SrI O xs₀ mr g (x + 1) c' st'
theorem wpS_next0 {O M : List Keyed} {xs₀ xs : Array Keyed} {mr g n : Nat} (f4 : xs.toList = M ++ O.drop n) (f6 : M.length = n) (h1 : mr ≤ n) (h2 : n ≤ O.length) (f2 : Asc M) (f5 : ∀ k, fk k M = fk k (O.take n)) :
    wpS (model prog w) A E s (srNext O.length 0 n) (SrP O xs₀ mr g 0) (SortSt.mk' oneType' xs #[] g none) := by
  unfold srNext
  refine wpS_bind (wpS_get ?_)
  have hb : (pendingOf (SortSt.mk' oneType' xs #[] g none)).back? = none := rfl
  rw [hb]
  dsimp only
  unfold srPush
  refine wpS_bind (wpS_modify (wpS_pure (.inr (.inl ⟨Nat.le_refl 1, n, by rw [Nat.zero_add], ?_, .inl rfl⟩))))
  exact ⟨xs, M, rfl, f4, f6, h1, h2, f2, f5⟩
theorem wpS_next1 {O M M' : List Keyed} {xs₀ xs : Array Keyed} {mr g n1 n x : Nat} (hx1 : 1 ≤ x) (hn : n1 + n = O.length) (d2 : M.length = n1) (d3 : 1 ≤ n1) (d3' : n1 < O.length) (d5 : Asc M) (d6 : ∀ k, fk k M = fk k (O.take n1))
    (f4 : xs.toList = M ++ M' ++ (O.drop n1).drop n) (f6 : M'.length = n) (f2 : Asc M') (f5 : ∀ k, fk k M' = fk k ((O.drop n1).take n)) :
    wpS (model prog w) A E s (srNext O.length n1 n) (SrP O xs₀ mr g x) (SortSt.mk' oneType' xs #[(0, n1, 0)] g none) := by
  unfold srNext
  refine wpS_bind (wpS_get ?_)
  have hb : (pendingOf (SortSt.mk' oneType' xs #[(0, n1, 0)] g none)).back? = some (0, n1, 0) := rfl
  rw [hb]
  dsimp only
  refine wpS_bind (wpS_mono (wpS_forRange (I := fun _ c st'' => st'' = SortSt.mk' oneType' xs #[(0, n1, 0)] g none ∧ c = (none, ())) (Q := fun c st'' => st'' = SortSt.mk' oneType' xs #[(0, n1, 0)] g none ∧ c = (none, ())) ?lstep (fun _ _ hh => hh) ⟨rfl, rfl⟩) ?lpost)
  case lstep =>
    rintro x c st'' _ _ ⟨rfl, rfl⟩
    unfold srMrg
    refine wpS_bind (wpS_get ?_)
    rw [if_neg (by show ¬ ((#[(0, n1, 0)] : Array (Nat × Nat × Nat)).size > 1); simp)]
    exact wpS_pure ⟨rfl, rfl⟩
  case lpost =>
    rintro c st'' ⟨rfl, rfl⟩
    dsimp only
    unfold srPush
    refine wpS_bind (wpS_modify (wpS_bind (wpS_modify (wpS_pure (.inr (.inr ⟨by (first | lia | omega), ?_, ?_⟩))))))
    · rw [Prod.mk.injEq]; exact ⟨rfl, by (first | lia | omega)⟩
    · have hdr : (O.drop n1).length = O.length - n1 := List.length_drop
      refine ⟨n1, xs, M, M', _, two_eq _ _ _ (by (first | lia | omega)), ?_, d2, by (first | lia | omega), by (first | lia | omega), by (first | lia | omega), d5, f2, d6, ?_⟩
      · rw [f4, List.drop_of_length_le (by (first | lia | omega)), List.append_nil]
      · intro k; rw [f5 k, List.take_of_length_le (by (first | lia | omega))]

theorem wpS_sortRunsS {xs₀ : Array Keyed} {g : Nat} {Q : Unit → SortSt → Prop} (hn : NumKeys xs₀.toList) (h2 : 2 ≤ xs₀.size) (h128 : xs₀.size < 128)
    (h : ∀ st' : SortSt, Asc (arrOf st').toList → (∀ k, fk k (arrOf st').toList = fk k xs₀.toList) → (arrOf st').size = xs₀.size → failedOf st' = none → Q () st') :
    wpS (model prog w) A E s sortRuns' Q (SortSt.mk' oneType' xs₀ #[] g none) := by
  rw [sortRuns'_eq2]
  refine wpS_bind (wpS_get ?_)
  change wpS _ _ _ _ (forIn [0:xs₀.size] _ (fun _ c => srBody xs₀.size (minRun' xs₀.size xs₀.size 0) c) >>= fun c => match c.1 with | some r => pure r | none => forIn [0:xs₀.size] (none, ()) (fun _ _ => srCol) >>= fun e => match e.1 with | some r => pure r | none => pure ()) _ _
  obtain ⟨O, hO⟩ : ∃ O, O = xs₀.toList := ⟨_, rfl⟩
  have hsz : xs₀.size = O.length := by rw [hO]; simp
  rw [hsz] at h2 h128
  rw [← hO] at hn
  obtain ⟨mr, hmr, m1, m2, m3⟩ := minRun_128 h128 h2
  change wpS _ _ _ _ (_ >>= _) _ _
  simp only [hsz, hmr]
  refine wpS_bind (wpS_mono (wpS_forRange (I := SrI O xs₀ mr g) (Q := SrQ O mr g) ?step ?fin (.inl ⟨rfl, rfl, rfl⟩)) ?post)
  case fin =>
    rintro c st' (⟨hx, _, _⟩ | ⟨_, n1, rfl, hD, hn1⟩ | ⟨_, rfl, hD⟩)
    · (first | lia | omega)
    · have : n1 = O.length := by (first | lia | omega)
      subst this
      exact ⟨rfl, .inl hD⟩
    · exact ⟨rfl, .inr hD⟩
  case step =>
    rintro x c st' _ hx (⟨rfl, rfl, rfl⟩ | ⟨hx1, n1, rfl, hD, hn1⟩ | ⟨hx2, rfl, hD⟩)
    · unfold srBody
      dsimp only
      rw [if_neg (by (first | lia | omega))]
      simp only [Nat.sub_zero]
      refine wpS_bind (wpS_countRunS (P := []) (O := O) rfl (by show NumKeys xs₀.toList; rw [← hO]; exact hn) (by show xs₀.toList = _; rw [← hO]; rfl) rfl rfl (by (first | lia | omega)) fun m xs M e1 e2 e3 e4 e5 e6 => ?_)
      have hxn : NumKeys xs.toList := num_run (fun _ hz => by cases hz) hn e1 e6
      dsimp only
      by_cases hlt : m < mr
      · rw [if_pos hlt]
        refine wpS_bind (wpS_lift (wpAny_rule ⟨rfl, ?_⟩))
        refine wpS_bind (wpS_binS rfl hxn e1 rfl e2 e3 (by rw [List.length_drop]; (first | lia | omega)) e5 fun xs' M' f1 f2 f3 f6 => ?_)
        obtain ⟨f4, f5⟩ := bin_facts (by (first | lia | omega)) f1 e6 f3
        simp only [Bool.not_true, Bool.false_eq_true, if_false]
        rw [show max m (min O.length mr) = min O.length mr by (first | lia | omega)] at f6
        exact wpS_next0 (prog := prog) (w := w) (E := E) (g := g) (mr := mr) (xs₀ := xs₀) f4 f6 (by (first | lia | omega)) (by (first | lia | omega)) f2 f5
      · rw [if_neg hlt]
        have f4 := e1; have f2 := e5; have f5 := e6; have f6 := e2
        exact wpS_next0 (prog := prog) (w := w) (E := E) (g := g) (mr := mr) (xs₀ := xs₀) f4 f6 (by (first | lia | omega)) (by (first | lia | omega)) f2 f5
    · obtain ⟨xs, M, rfl, d1, d2, d3, d4, d5, d6⟩ := hD
      have hn' : NumKeys (O.take n1) := fun z hz => hn z (List.mem_of_mem_take hz)
      unfold srBody
      dsimp only
      by_cases hge : n1 ≥ O.length
      · rw [if_pos hge]
        have : n1 = O.length := by (first | lia | omega)
        subst this
        exact wpS_pure ⟨rfl, .inl ⟨xs, M, rfl, d1, d2, d3, d4, d5, d6⟩⟩
      · rw [if_neg hge]
        have hM : NumKeys M := num_fk hn' d6
        refine wpS_bind (wpS_countRunS (P := M) (O := O.drop n1) rfl (num_run (P := []) (fun _ hz => by cases hz) hn d1 d6) d1 d2.symm (by rw [List.length_drop]) (by (first | lia | omega)) fun m xs M2 e1 e2 e3 e4 e5 e6 => ?_)
        have hR : NumKeys (O.drop n1) := fun z hz => hn z (List.mem_of_mem_drop hz)
        have hxn : NumKeys xs.toList := num_run hM hR e1 e6
        dsimp only
        by_cases hlt : m < mr
        · rw [if_pos hlt]
          refine wpS_bind (wpS_lift (wpAny_rule ⟨rfl, ?_⟩))
          refine wpS_bind (wpS_binS rfl hxn e1 d2.symm e2 e3 (by rw [List.length_drop, List.length_drop]; (first | lia | omega)) e5 fun xs' M' f1 f2 f3 f6 => ?_)
          obtain ⟨f4, f5⟩ := bin_facts (by (first | lia | omega)) f1 e6 f3
          simp only [Bool.not_true, Bool.false_eq_true, if_false]
          rw [show max m (min (O.length - n1) mr) = min (O.length - n1) mr by (first | lia | omega)] at f6
          change wpS _ _ _ _ _ _ (SortSt.mk' oneType' xs' #[(0, n1, 0)] g none)
          refine wpS_mono (wpS_next1 (prog := prog) (w := w) (E := E) (g := g) (mr := mr) (xs₀ := xs₀) hx1 (by (first | lia | omega)) d2 (by (first | lia | omega)) (by (first | lia | omega)) d5 d6 f4 f6 f2 f5) fun r st' hr => ?_
          cases r <;> exact hr
        · rw [if_neg hlt]
          have f4 := e1; have f2 := e5; have f5 := e6; have f6 := e2
          change wpS _ _ _ _ _ _ (SortSt.mk' oneType' xs #[(0, n1, 0)] g none)
          refine wpS_mono (wpS_next1 (prog := prog) (w := w) (E := E) (g := g) (mr := mr) (xs₀ := xs₀) hx1 (by (first | lia | omega)) d2 (by (first | lia | omega)) (by (first | lia | omega)) d5 d6 f4 f6 f2 f5) fun r st' hr => ?_
          cases r <;> exact hr
    · unfold srBody
      dsimp only
      rw [if_pos (Nat.le_refl _)]
      exact wpS_pure ⟨rfl, .inr hD⟩
  case post =>
    rintro c st' ⟨rfl, hD⟩
    dsimp only
    have h0 : Fi O st' ∨ Two O g st' := hD.imp One.fi id
    refine wpS_bind (wpS_mono (wpS_forRange (I := fun x c st'' => c = (none, ()) ∧ (Fi O st'' ∨ (x = 0 ∧ Two O g st''))) (Q := fun c st'' => c = (none, ()) ∧ Fi O st'') ?_ ?_ ⟨rfl, h0.imp id fun t => ⟨rfl, t⟩⟩) ?_)
    · rintro x c st'' _ _ ⟨rfl, hF | ⟨rfl, hT⟩⟩
      · unfold srCol
        refine wpS_bind (wpS_get ?_)
        rw [if_pos hF.1]
        exact wpS_pure ⟨rfl, hF⟩
      · obtain ⟨n1, xs, M1, M2, pw, rfl, t1, t2, t3, t4, t5, t6, t7, t8, t9⟩ := hT
        unfold srCol
        refine wpS_bind (wpS_get ?_)
        rw [if_neg (by show ¬ ((#[(0, n1, pw), (n1, O.length - n1, 0)] : Array (Nat × Nat × Nat)).size ≤ 1); simp)]
        have hlen : xs.size = O.length := by rw [← Array.length_toList, t1, List.length_append]; (first | lia | omega)
        have e1 : xs.toList.take n1 = M1 := by rw [t1, List.take_append_of_le_length (by (first | lia | omega)), List.take_of_length_le (by (first | lia | omega))]
        have e2 : xs.toList.drop n1 = M2 := by rw [t1, ← t2, List.drop_left]
        have hnx : NumKeys xs.toList := by
          intro z hz
          rw [t1] at hz
          rcases List.mem_append.mp hz with hz | hz
          · exact hn z (List.mem_of_mem_take (fk_mem t8 hz))
          · exact hn z (List.mem_of_mem_drop (fk_mem t9 hz))
        refine wpS_bind (wpS_mergeAt0 rfl rfl rfl hnx t3 (by (first | lia | omega)) (by show _ = xs.size; (first | lia | omega))
          (AscAt.of_list (P := []) (M := M1) (R := M2) t1 t6 rfl (by simp; (first | lia | omega))) (AscAt.of_list (P := M1) (M := M2) (R := []) (by rw [List.append_nil]; exact t1) t7 t2.symm (by (first | lia | omega))) fun g' ys hy => ?_)
        simp only [Bool.not_true, Bool.false_eq_true, if_false]
        change ys.toList = mg kyOf (xs.toList.take n1) (xs.toList.drop n1) at hy
        rw [e1, e2] at hy
        refine wpS_pure ⟨rfl, .inl ⟨Nat.le_refl 1, rfl, ?_, ?_, ?_⟩⟩
        · show Asc ys.toList; rw [hy]; exact mg_sorted _ _ t6 t7
        · intro k
          show fk k ys.toList = _
          rw [hy]
          refine (mg_filter k _ _ t6).trans ?_
          show fk k M1 ++ fk k M2 = _
          rw [t8, t9, ← fk_app, List.take_append_drop]
        · show ys.size = _; rw [← Array.length_toList, hy, mg_len]; (first | lia | omega)
    · rintro c st'' ⟨rfl, hF | ⟨hx, _⟩⟩
      · exact ⟨rfl, hF⟩
      · (first | lia | omega)
    · rintro c st'' ⟨rfl, hF⟩
      refine wpS_pure (h _ hF.2.2.1 ?_ ?_ hF.2.1)
      · rw [← hO]; exact hF.2.2.2.1
      · rw [hsz]; exact hF.2.2.2.2
end
end Mine

set_option maxHeartbeats 4000000
namespace Mine

noncomputable def PZ (κ : Int → Int) (p : Keyed) : Prop := ∃ z t t', p = (.int (κ z) t', .int z t)
theorem PZ.key {κ : Int → Int} {p : Keyed} (h : PZ κ p) : kyOf p = κ (numOf p.2) := by obtain ⟨z, t, t', rfl⟩ := h; rfl
theorem pz_num {κ : Int → Int} {l : List Keyed} (h : ∀ p ∈ l, PZ κ p) : NumKeys l := fun p hp => by obtain ⟨z, t, t', rfl⟩ := h p hp; exact ⟨_, _, rfl⟩
theorem pz_ints {κ : Int → Int} : ∀ {l : List Keyed}, (∀ p ∈ l, PZ κ p) → IntsAre (l.map (·.2)) (l.map fun p => numOf p.2)
  | [], _ => .nil
  | p :: l, h => by
    obtain ⟨z, t, t', rfl⟩ := h p (.head _)
    exact .cons z t (pz_ints fun q hq => h q (.tail _ hq))
theorem pz_filter {κ : Int → Int} (k : Int) : ∀ {l : List Keyed}, (∀ p ∈ l, PZ κ p) → (l.map fun p => numOf p.2).filter (fun z => decide (κ z = k)) = (fk k l).map fun p => numOf p.2
  | [], _ => rfl
  | p :: l, h => by
    have e := (h p (.head _)).key
    have ih := pz_filter k (l := l) fun q hq => h q (.tail _ hq)
    unfold fk at ih ⊢
    rw [List.map_cons, List.filter_cons, List.filter_cons, e, ih]
    split <;> rfl
theorem pz_sorted {κ : Int → Int} {l : List Keyed} (h : ∀ p ∈ l, PZ κ p) (hs : Asc l) : (l.map fun p => numOf p.2).Pairwise (fun a b => κ a ≤ κ b) := by
  rw [List.pairwise_map]
  exact List.Pairwise.imp_of_mem (fun {a b} ha hb q => by rw [← (h a ha).key, ← (h b hb).key]; exact q) hs
theorem pz_zip {κ : Int → Int} : ∀ {vs ks : List Value} {ns : List Int}, IntsAre vs ns → IntsAre ks (ns.map κ) → ∀ p ∈ ks.zip vs, PZ κ p
  | [], ks, _, _, _ => by simp
  | v :: vs, [], _, _, _ => by simp
  | v :: vs, k :: ks, ns, h1, h2 => by
    cases h1 with
    | cons z t h1 =>
      rw [List.map_cons] at h2
      cases h2 with
      | cons z' t' h2 =>
        intro p hp
        rcases List.mem_cons.mp hp with rfl | hp
        · exact ⟨z, t, t', rfl⟩
        · exact pz_zip h1 h2 p hp
theorem pz_nums : ∀ {vs ks : List Value} {ns : List Int}, IntsAre vs ns → ks.length = vs.length → ((ks.zip vs).map fun p => numOf p.2) = ns
  | [], ks, _, h, _ => by cases h; cases ks <;> rfl
  | v :: vs, [], _, _, e => by simp at e
  | v :: vs, k :: ks, ns, h, e => by
    cases h with
    | cons z t h =>
      rw [List.zip_cons_cons, List.map_cons, pz_nums h (by simpa using e)]
      rfl

section
variable {prog : Program} {w : World} {A : Around} {E : Value → Shared → Prop} {s : Shared} {a kS : Addr} {vs : List Value} {ns : List Int} {keys : Array Value} {e e1 : Nat} {P : PySem.Fin → Shared → Prop} {κ : Int → Int}

theorem sk_tail {st : SortSt} (hka : kS ≠ a) (nk : s.heap.get? kS = some (seqObj "list" keys e)) (na : s.heap.get? a = some (seqObj "list" #[] e1)) (hsz : keys.size ≤ 200) (hsz2 : (arrOf st).size ≤ 200) (hfl : failedOf st = none)
    (h : ∀ h' tk c, (∀ b o, b ≠ a → b ≠ kS → s.heap.get? b = some o → h'.get? b = some o) → h'.get? a = some (seqObj "list" ((arrOf st).map (·.2)) c) → P (.done (.ret .none)) { s with heap := h', toks := tk }) :
    wpAny (model prog w) A (ksk_tail a false e1 (.ref kS) st) P E s := by
  have s1 := Heap.SameBut.update s.heap kS (Obj.mapSeq fun _ => (#[] : Array Value))
  have na1 : (s.heap.update kS (Obj.mapSeq fun _ => (#[] : Array Value))).get? a = some (seqObj "list" #[] e1) := (s1.2 a hka.symm).trans na
  have s2 := Heap.SameBut.update (s.heap.update kS (Obj.mapSeq fun _ => (#[] : Array Value))) a (Obj.mapSeq fun _ => (arrOf st).map (·.2))
  obtain ⟨c2, hc2⟩ : ∃ c2, ((s.heap.update kS (Obj.mapSeq fun _ => (#[] : Array Value))).update a (Obj.mapSeq fun _ => (arrOf st).map (·.2))).get? a = some (seqObj "list" ((arrOf st).map (·.2)) c2) :=
    ⟨_, get?_update_seq na1 fun _ => (arrOf st).map (·.2)⟩
  unfold ksk_tail
  dsimp only
  refine wpAny_bind (listUpdate_at nk rfl ?_ (by rw [sizeLine_eq]; (first | lia | omega)) (Nat.zero_le _))
  refine wpAny_bind (wpAny_letGo ?_)
  refine wpAny_bind (seqEpoch_at na1 rfl ?_)
  refine wpAny_bind (listUpdate_at na1 rfl ?_ (Nat.zero_le _) (by
    show (if false = true then _ else (arrOf st).map (·.2)).size ≤ _
    rw [if_neg (by simp), Array.size_map, sizeLine_eq]; (first | lia | omega)))
  rw [hfl]
  simp only [bne_self_eq_false, Bool.false_eq_true, if_false]
  refine wpAny_pure (h _ _ c2 (fun b o h1 h2 hb => ?_) hc2)
  exact (s2.2 b h1).trans ((s1.2 b h2).trans hb)

theorem sk_end (hka : kS ≠ a) (nk : s.heap.get? kS = some (seqObj "list" keys e)) (na : s.heap.get? a = some (seqObj "list" #[] e1)) (hI : IntsAre vs ns) (hk : IntsAre keys.toList (ns.map κ)) (h128 : vs.length < 128)
    (h : ∀ h' tk out c ns', (∀ b o, b ≠ a → b ≠ kS → s.heap.get? b = some o → h'.get? b = some o) → h'.get? a = some (seqObj "list" out c) → IntsAre out.toList ns' →
      ns'.Pairwise (fun x y => κ x ≤ κ y) → (∀ k, ns'.filter (fun z => decide (κ z = k)) = ns.filter (fun z => decide (κ z = k))) → P (.done (.ret .none)) { s with heap := h', toks := tk }) :
    wpAny (model prog w) A (ksk_end a false vs.toArray e1 (.ref kS) keys) P E s := by
  have hl1 := hI.length
  have hsz : keys.size = vs.length := by
    have h1 := hk.length
    rw [Array.length_toList, List.length_map] at h1
    (first | lia | omega)
  have hzs : (keys.zip vs.toArray).size = vs.length := by rw [Array.size_zip, hsz, List.size_toArray, Nat.min_self]
  have hzl : (keys.zip vs.toArray).toList = keys.toList.zip vs := ksk_zip _ _
  have pz : ∀ p ∈ (keys.zip vs.toArray).toList, PZ κ p := by rw [hzl]; exact pz_zip hI hk
  have fin : ∀ xs : Array Keyed, Asc xs.toList → (∀ k, fk k xs.toList = fk k (keys.zip vs.toArray).toList) → (∀ h' tk c, (∀ b o, b ≠ a → b ≠ kS → s.heap.get? b = some o → h'.get? b = some o) → h'.get? a = some (seqObj "list" (xs.map (·.2)) c) → P (.done (.ret .none)) { s with heap := h', toks := tk }) := by
    intro xs ha hf h' tk c h1 h2
    have px : ∀ p ∈ xs.toList, PZ κ p := fun p hp => pz p (fk_mem hf hp)
    refine h h' tk _ c (xs.toList.map fun p => numOf p.2) h1 h2 ?_ (pz_sorted px ha) fun k => ?_
    · rw [Array.toList_map]; exact pz_ints px
    · rw [pz_filter k px, hf k, ← pz_filter k pz, hzl, pz_nums hI (by rw [Array.length_toList]; (first | lia | omega))]
  unfold ksk_end
  dsimp only
  rw [if_neg (by simp)]
  by_cases h2 : vs.toArray.size < 2
  · rw [if_pos h2, if_pos h2]
    refine wpAny_bind (wpAny_pure ?_)
    rw [StateT.run_pure]
    refine wpAny_bind (wpAny_pure ?_)
    dsimp only
    rw [List.size_toArray] at h2
    refine sk_tail (st := SortSt.mk' general' (keys.zip vs.toArray) #[] 7 none) hka nk na (by (first | lia | omega)) (by show (keys.zip vs.toArray).size ≤ 200; (first | lia | omega)) rfl (fin _ ?_ fun _ => rfl)
    unfold Asc
    rw [List.pairwise_iff_getElem]
    intro i j hi hj hij
    rw [Array.length_toList, hzs] at hi hj
    (first | lia | omega)
  · rw [if_neg h2, if_neg h2]
    rw [List.size_toArray] at h2
    rw [ksk_kind hk (by rw [hsz]; (first | lia | omega))]
    refine wpAny_bind (wpAny_pure ?_)
    refine wpAny_bind (wpAny_mono (wpS_sortRunsS (xs₀ := keys.zip vs.toArray) (g := 7) (Q := fun _ st' => Asc (arrOf st').toList ∧ (∀ k, fk k (arrOf st').toList = fk k (keys.zip vs.toArray).toList) ∧ (arrOf st').size = (keys.zip vs.toArray).size ∧ failedOf st' = none)
      (pz_num pz) (by rw [hzs]; (first | lia | omega)) (by rw [hzs]; exact h128) fun st' a1 a2 a3 a4 => ⟨a1, a2, a3, a4⟩) ?_ fun _ _ e => e)
    rintro ⟨⟨⟩, st'⟩ s' ⟨rfl, a1, a2, a3, a4⟩
    dsimp only
    exact sk_tail hka nk na (by (first | lia | omega)) (by rw [a3, hzs]; (first | lia | omega)) a4 (fin _ a1 a2)

theorem sk_rest {f : Value} (hka : kS ≠ a) (nk : s.heap.get? kS = some (seqObj "list" #[] 0)) (na : s.heap.get? a = some (seqObj "list" #[] e1)) (hI : IntsAre vs ns) (h128 : vs.length < 128)
    (turn : ∀ z t (h : Heap) tk, (∀ b o, b ≠ kS → s.heap.get? b = some o → h.get? b = some o) →
      wpAny (model prog w) A (call f [.int z t]) (fun r s' => ∃ h' tk' t', s' = { s with heap := h', toks := tk' } ∧ r = .int (κ z) t' ∧ ∀ b o, h.get? b = some o → h'.get? b = some o) (fun _ _ => False) { s with heap := h, toks := tk })
    (h : ∀ h' tk out c ns', (∀ b o, b ≠ a → b ≠ kS → s.heap.get? b = some o → h'.get? b = some o) → h'.get? a = some (seqObj "list" out c) → IntsAre out.toList ns' →
      ns'.Pairwise (fun x y => κ x ≤ κ y) → (∀ k, ns'.filter (fun z => decide (κ z = k)) = ns.filter (fun z => decide (κ z = k))) → P (.done (.ret .none)) { s with heap := h', toks := tk }) :
    wpAny (model prog w) A (ksk_rest a f false vs.toArray e1 (.ref kS)) P E s := by
  unfold ksk_rest
  refine wpAny_bind (wpAny_rule ?_)
  first
    | rw [List.forIn_toArray]
    | (rw [← Array.forIn_toList]; simp only [List.toList_toArray])
  have hl1 := hI.length
  refine wpAny_bind (ksk_fold (fun i s' => ∃ h' tk kA e, s' = { s with heap := h', toks := tk } ∧ (∀ b o, b ≠ kS → s.heap.get? b = some o → h'.get? b = some o) ∧ h'.get? kS = some (seqObj "list" kA e) ∧ IntsAre kA.toList ((ns.map κ).take i)) vs 0 s
    ⟨s.heap, s.toks, #[], 0, rfl, fun _ _ _ q => q, nk, by simpa using IntsAre.nil⟩ ?step ?done)
  case step =>
    rintro j x s' hx ⟨h', tk, kA, e, rfl, kp, nk', hk⟩
    simp only [Nat.zero_add] at hk ⊢
    have hj : j < vs.length := (List.getElem?_eq_some_iff.mp hx).1
    obtain ⟨z, t, hz, rfl⟩ : ∃ z t, ns[j]? = some z ∧ x = .int z t := by
      have key : ∀ {vs : List Value} {ns : List Int} {j : Nat}, IntsAre vs ns → vs[j]? = some x → ∃ z t, ns[j]? = some z ∧ x = .int z t := by
        intro vs ns j hI
        induction hI generalizing j with
        | nil => intro q; simp at q
        | cons z t _ ih =>
          intro q
          cases j with
          | zero => simp at q; exact ⟨z, t, rfl, q.symm⟩
          | succ j => simpa using ih (by simpa using q)
      exact key hI hx
    have hzz : kA.size ≤ vs.length := by
      have h1 := hk.length
      rw [Array.length_toList, List.length_take] at h1
      (first | lia | omega)
    refine wpAny_bind (wpAny_attempt (wpAny_mono (turn z t h' tk kp) (fun v s'' he => ?_) fun _ _ hF => hF.elim))
    obtain ⟨g, tk2, t2, rfl, rfl, kp2⟩ := he
    dsimp only
    have nk2 := kp2 _ _ nk'
    have s1 := Heap.SameBut.update g kS (Obj.mapSeq (·.push (.int (κ z) t2)))
    obtain ⟨c2, hc2⟩ : ∃ c2, (g.update kS (Obj.mapSeq (·.push (.int (κ z) t2)))).get? kS = some (seqObj "list" (kA.push (.int (κ z) t2)) c2) := ⟨_, get?_update_seq nk2 (·.push (.int (κ z) t2))⟩
    have ek : (ns.map κ).take (j + 1) = (ns.map κ).take j ++ [κ z] := by rw [List.take_add_one, List.getElem?_map, hz]; simp
    have ea : (kA.push (Value.int (κ z) t2)).toList = kA.toList ++ [Value.int (κ z) t2] := by simp
    refine wpAny_bind (listUpdate_at nk2 rfl ?_ (by rw [sizeLine_eq]; (first | lia | omega)) (Nat.le_trans (Nat.le_of_eq (Array.size_push ..)) (by rw [sizeLine_eq]; (first | lia | omega))))
    refine wpAny_pure ⟨rfl, _, _, kA.push (.int (κ z) t2), c2, rfl, fun b o hb q => (s1.2 b hb).trans (kp2 _ _ (kp b o hb q)), hc2, by rw [ea, ek]; exact ksk_snoc hk⟩
  case done =>
    rintro s' ⟨h', tk, kA, e, rfl, kp, nk', hk⟩
    have hk' : IntsAre kA.toList (ns.map κ) := by
      have e3 : (ns.map κ).take (0 + vs.length) = ns.map κ := List.take_of_length_le (by rw [List.length_map]; (first | lia | omega))
      rw [e3] at hk
      exact hk
    try dsimp only
    refine wpAny_bind (listItems_at nk' rfl ?_)
    refine sk_end (s := { s with heap := h', toks := tk }) hka nk' (kp _ _ hka.symm na) hI hk' h128 fun h3 tk3 out c ns' k1 k2 k3 k4 k5 => h h3 tk3 out c ns' (fun b o h1 h2 q => k1 b o h1 h2 (kp b o h2 q)) k2 k3 k4 k5

theorem sk_sort {f : Value} {n : Nat} (ho : s.heap.get? a = some (seqObj "list" vs.toArray n)) (hI : IntsAre vs ns) (h128 : vs.length < 128)
    (turn : ∀ z t (h : Heap) tk, (∀ b o, b ≠ a → s.heap.get? b = some o → h.get? b = some o) →
      wpAny (model prog w) A (call f [.int z t]) (fun r s' => ∃ h' tk' t', s' = { s with heap := h', toks := tk' } ∧ r = .int (κ z) t' ∧ ∀ b o, h.get? b = some o → h'.get? b = some o) (fun _ _ => False) { s with heap := h, toks := tk })
    (h : ∀ h' tk out c ns', (∀ b o, b ≠ a → s.heap.get? b = some o → h'.get? b = some o) → h'.get? a = some (seqObj "list" out c) → IntsAre out.toList ns' →
      ns'.Pairwise (fun x y => κ x ≤ κ y) → (∀ k, ns'.filter (fun z => decide (κ z = k)) = ns.filter (fun z => decide (κ z = k))) → P (.done (.ret .none)) { s with heap := h', toks := tk }) :
    wpAny (model prog w) A (ksk_tree a f false) P E s := by
  have ha : a < s.heap.objs.size := Heap.lt_size ho
  have s1 := Heap.SameBut.update s.heap a (Obj.mapSeq fun _ => (#[] : Array Value))
  obtain ⟨e1, ho1⟩ : ∃ e1, (s.heap.update a (Obj.mapSeq fun _ => (#[] : Array Value))).get? a = some (seqObj "list" #[] e1) := ⟨_, get?_update_seq ho fun _ => #[]⟩
  have hkS : ((s.heap.update a (Obj.mapSeq fun _ => (#[] : Array Value))).push (seqObj "tuple" vs.toArray 0)).objs.size = s.heap.objs.size + 1 := by rw [size_push', Heap.size_update]
  unfold ksk_tree
  refine wpAny_bind (listItems_at ho rfl ?_)
  refine wpAny_bind (listUpdate_at ho rfl ?_ (by rw [List.size_toArray, sizeLine_eq]; (first | lia | omega)) (Nat.zero_le _))
  refine wpAny_bind (seqEpoch_at ho1 rfl ?_)
  refine wpAny_bind (wpAny_newTuple ?_ (by show vs.length ≤ _; rw [sizeLine_eq]; (first | lia | omega)))
  refine wpAny_bind (wpAny_newList ?_ (Nat.zero_le _))
  refine wpAny_holding ?_
  have kp : ∀ b o, b ≠ a → s.heap.get? b = some o → (((s.heap.update a (Obj.mapSeq fun _ => (#[] : Array Value))).push (seqObj "tuple" vs.toArray 0)).push (seqObj "list" #[] 0)).get? b = some o := fun b o hb q =>
    Heap.get?_push_of_some _ (Heap.get?_push_of_some _ ((s1.2 b hb).trans q))
  have nkS : ∀ b o, s.heap.get? b = some o → b ≠ ((s.heap.update a (Obj.mapSeq fun _ => (#[] : Array Value))).push (seqObj "tuple" vs.toArray 0)).objs.size := fun b o q => by
    rw [hkS]; exact Nat.ne_of_lt (Nat.lt_succ_of_lt (Heap.lt_size q))
  exact sk_rest (s := { s with heap := ((s.heap.update a (Obj.mapSeq fun _ => (#[] : Array Value))).push (seqObj "tuple" vs.toArray 0)).push (seqObj "list" #[] 0) }) (kS := ((s.heap.update a (Obj.mapSeq fun _ => (#[] : Array Value))).push (seqObj "tuple" vs.toArray 0)).objs.size)
    (by rw [hkS]; exact Nat.ne_of_gt (Nat.lt_succ_of_lt ha)) (Heap.get?_push_size _ rfl) (Heap.get?_push_of_some _ (Heap.get?_push_of_some _ ho1)) hI h128
    (fun z t h' tk q => turn z t h' tk fun b o hb e => q b o (nkS b o e) (kp b o hb e))
    fun h' tk out c ns' k1 k2 k3 k4 k5 => h h' tk out c ns' (fun b o hb e => k1 b o hb (nkS b o e) (kp b o hb e)) k2 k3 k4 k5

/-- sorted(list, key=f) -/
theorem sk_sorted {l q : Addr} {Q : Value → Shared → Prop} (hl : s.heap.IsList l vs.toArray) (hI : IntsAre vs ns) (h128 : vs.length < 128)
    (turn : ∀ z t (h : Heap) tk, (∀ b o, s.heap.get? b = some o → h.get? b = some o) →
      wpAny (model prog w) A.in1.in1 (call (.ref q) [.int z t]) (fun r s' => ∃ h' tk' t', s' = { s with heap := h', toks := tk' } ∧ r = .int (κ z) t' ∧ ∀ b o, h.get? b = some o → h'.get? b = some o) (fun _ _ => False) { s with heap := h, toks := tk })
    (h : ∀ D h' tk out c ns', D = s.heap.objs.size + 1 → (∀ b o, s.heap.get? b = some o → h'.get? b = some o) → h'.get? D = some (seqObj "list" out c) → IntsAre out.toList ns' →
      ns'.Pairwise (fun x y => κ x ≤ κ y) → (∀ k, ns'.filter (fun z => decide (κ z = k)) = ns.filter (fun z => decide (κ z = k))) → Q (.ref D) { s with heap := h', toks := tk }) :
    wpAny (model prog w) A (call (.builtin "sorted") [.ref l] [(Str.ofString "key", .ref q)]) Q E s := by
  refine call_function_entry_kw kind_sorted plain_sorted entry_sorted (ksk_s1 _ _) ?_
  unfold Builtin.«sorted»
  refine wpAny_bind (m := checkCount "sorted" 1 1 _) (wpAny_pure ?_)
  refine wpAny_bind (collect_list hl ?_ (by rw [sizeLine_eq]; (first | lia | omega)))
  refine wpAny_bind (wpAny_newList ?_ (by rw [sizeLine_eq]; (first | lia | omega)))
  have hsz : ((s.heap.push (seqObj "list" #[] 0)).update s.heap.objs.size (Obj.mapSeq (· ++ vs.toArray))).objs.size = s.heap.objs.size + 1 := by
    rw [Heap.size_update, size_push']
  have hoL : (((s.heap.push (seqObj "list" #[] 0)).update s.heap.objs.size (Obj.mapSeq (· ++ vs.toArray))).push (seqObj "list" vs.toArray 0)).get? (s.heap.objs.size + 1) = some (seqObj "list" vs.toArray 0) := by
    rw [← hsz]; exact Heap.get?_push_size _ rfl
  have keep : ∀ b o, s.heap.get? b = some o → (((s.heap.push (seqObj "list" #[] 0)).update s.heap.objs.size (Obj.mapSeq (· ++ vs.toArray))).push (seqObj "list" vs.toArray 0)).get? b = some o := fun b o q => by
    have hlt : b < s.heap.objs.size := Heap.lt_size q
    rw [Heap.get?_push_ne _ _ _ (by rw [hsz]; exact Nat.ne_of_lt (Nat.lt_succ_of_lt hlt)), Heap.get?_update_ne _ _ _ _ (Nat.ne_of_lt hlt), Heap.get?_push_ne _ _ _ (Nat.ne_of_lt hlt)]
    exact q
  have nD : ∀ b o, s.heap.get? b = some o → b ≠ s.heap.objs.size + 1 := fun b o q => Nat.ne_of_lt (Nat.lt_succ_of_lt (Heap.lt_size q))
  show wpAny _ _ _ _ _ { s with heap := ((s.heap.push (seqObj "list" #[] 0)).update s.heap.objs.size (Obj.mapSeq (· ++ vs.toArray))).push (seqObj "list" vs.toArray 0) }
  rw [hsz]
  refine wpAny_bind (wpAny_holding (wpAny_call_entry_kw slot_list_sort ⟨_, hoL, rfl⟩ entry_list_sort ?body (ksk_l1 _ _)))
  case body =>
    rw [ksk_t1]
    refine sk_sort (s := { s with heap := ((s.heap.push (seqObj "list" #[] 0)).update s.heap.objs.size (Obj.mapSeq (· ++ vs.toArray))).push (seqObj "list" vs.toArray 0) }) hoL hI h128
      (fun z t h' tk qq => turn z t h' tk fun b o e => qq b o (nD b o e) (keep b o e)) fun h' tk out c ns' k1 k2 k3 k4 k5 => ⟨_, rfl, ?_⟩
    refine wpAny_pure ⟨_, rfl, h _ h' tk out c ns' rfl (fun b o e => k1 b o (nD b o e) (keep b o e)) k2 k3 k4 k5⟩
end
end Mine

set_option maxHeartbeats 4000000
namespace Mine

/-- lambda x: x // k -/
noncomputable def lamDiv (x : Str) (k : Int) (xp cp bp : Pos) (ck : Nat) : Expr := .BinOp (.Name x xp) .FloorDiv (.Constant (.int k) ck cp) bp

section
variable {prog : Program} {w : World} {A : Around} {E : Value → Shared → Prop} {s : Shared}
theorem lam_turn {f : Addr} {o : Obj} {fd : FuncData} {x : Str} {k : Int} {xp cp bp : Pos} {ck : Nat} {z : Int} {t : Tok} {c' : Addr} {qual : Str} (ho : s.heap.get? f = some o) (hd : o.data = .func fd) (hb : fd.body = .expr (lamDiv x k xp cp bp ck)) (hclo : fd.closure = [])
    (hcode : fd.code = .ref c') (hq : fd.qualname = qual) (hcd : s.heap.CodeRec (.ref c') qual) (NL : s.heap.NoLimit) (hroom : A.depth < 900)
    (hbind : ∀ v, bindArgs fd ⟨[v], []⟩ = pure [(x, v)]) (hco : fd.scope.isCoroutine = false) (hgen : fd.scope.isGenerator = false) (hk : fd.scope.kind = .function) (hn : fd.scope.names = [(x, .local)]) (hdx : (x == ("__debug__" : Str)) = false)
    (hk0 : k ≠ 0) (hk1 : k.natAbs < 1073741824) :
    wpAny (model prog w) A (call (.ref f) [.int z t]) (fun r s' => ∃ h' tk' t', s' = { s with heap := h', toks := tk' } ∧ r = .int (z.fdiv k) t' ∧ ∀ b o, s.heap.get? b = some o → h'.get? b = some o) (fun _ _ => False) s := by
  refine wpAny_call ?_
  refine kla_callFunE (by show A.depth < 1000; (first | lia | omega)) ho hd hco hgen hb (by rw [hcode, hq]; exact hcd) ?_
  rw [hbind]
  have hloc : fd.scope.names.lookup x = some .local := by rw [hn]; simp [List.lookup]
  refine wpAny_pure ?_
  rw [hclo]
  refine wpAny_newFunctionEnv (fun y hy => by rw [hn] at hy; rw [List.mem_singleton] at hy; rw [hy]; exact fun q => (nomatch q)) (fun y hy => by rw [List.mem_singleton] at hy; rw [hy]; exact hloc) (fun h₁ hns hsb => ?_) hk
  have kp : ∀ b o, s.heap.get? b = some o → h₁.get? b = some o := fun b o e => hsb.extBut b o (Nat.ne_of_lt (Heap.lt_size e)) (Heap.get?_push_of_some _ e)
  refine ⟨NL.keeps kp, kla_codeExpr ?_⟩
  unfold lamDiv
  refine wpAny_BinOp (wpAny_Name (wpAny_loadName_local (m := fun y => [(x, Value.int z t)].reverse.lookup y) hk hloc hns (v := .int z t) (by simp [List.lookup]) ?_) hdx)
  refine wpAny_Constant_int ?_
  refine floordiv_int hk0 ?_ (.inl (PyProof.noPylong_small hk1))
  exact ⟨_, _, _, rfl, rfl, kp⟩
end
end Mine

set_option maxHeartbeats 4000000
namespace Mine
section
variable {c : Cx} {d : Nat} {sc : Scope} {ρ : List Str} {cc P : Addr}
/-! ### where the code of the frame is known, and its table is the first object -/
noncomputable def Ev2 (c : Cx) (d : Nat) (sc : Scope) (ρ : List Str) (cc P : Addr) (e : Expr) (W : WE) : Prop :=
  ∀ env A E s φ sl H Q, env.code = .ref cc → φ.l[0]? = some P → EnvOK sc env → AOK d A → Ok c φ H s.heap → Vars c ρ φ s.heap env sl → W sl H Q → wpAny (model c.prog c.w) A (eval e env) (PostE c φ s Q) E s
noncomputable def Et2 (c : Cx) (d : Nat) (sc : Scope) (ρ : List Str) (cc P : Addr) (e : Expr) (W : WT) : Prop :=
  ∀ env A E s φ sl H Q, env.code = .ref cc → φ.l[0]? = some P → EnvOK sc env → AOK d A → Ok c φ H s.heap → Vars c ρ φ s.heap env sl → W sl H Q → wpAny (model c.prog c.w) A (isTrue e env (eval e env)) (PostT c φ s Q) E s
noncomputable def Ex2 (c : Cx) (d : Nat) (sc : Scope) (ρ : List Str) (cc P : Addr) (e : Stmt) (W : WS) : Prop :=
  ∀ env A E s φ sl H Q, env.code = .ref cc → φ.l[0]? = some P → EnvOK sc env → AOK d A → Ok c φ H s.heap → Vars c ρ φ s.heap env sl → W sl H Q → wpAny (model c.prog c.w) A (exec e env) (PostS c ρ env φ s Q) E s
noncomputable def Exs2 (c : Cx) (d : Nat) (sc : Scope) (ρ : List Str) (cc P : Addr) (e : List Stmt) (W : WS) : Prop :=
  ∀ env A E s φ sl H Q, env.code = .ref cc → φ.l[0]? = some P → EnvOK sc env → AOK d A → Ok c φ H s.heap → Vars c ρ φ s.heap env sl → W sl H Q → wpAny (model c.prog c.w) A (execs e env) (PostS c ρ env φ s Q) E s
theorem ex2_of {e W} (h : Ex c d sc ρ e W) : Ex2 c d sc ρ cc P e W := fun env A E s φ sl H Q _ _ eo ao ok vs w => h env A E s φ sl H Q eo ao ok vs w
theorem exs2_of {e W} (h : Exs c d sc ρ e W) : Exs2 c d sc ρ cc P e W := fun env A E s φ sl H Q _ _ eo ao ok vs w => h env A E s φ sl H Q eo ao ok vs w
theorem Grow.first {φ h φ' h'} (g : Grow φ h φ' h') (e : φ.l[0]? = some P) : φ'.l[0]? = some P := by
  obtain ⟨δ, ζ, e1, _⟩ := g.ext
  rw [e1, List.getElem?_append_left (List.getElem?_eq_some_iff.mp e).1]; exact e
theorem GrowS.first {env φ h φ' h'} (g : GrowS env φ h φ' h') (e : φ.l[0]? = some P) : φ'.l[0]? = some P := by
  obtain ⟨δ, ζ, e1, _⟩ := g.ext
  rw [e1, List.getElem?_append_left (List.getElem?_eq_some_iff.mp e).1]; exact e
theorem exs2_cons {e es a b} (he : Ex2 c d sc ρ cc P e a) (hes : Exs2 c d sc ρ cc P es b) : Exs2 c d sc ρ cc P (e :: es) (wSeq a b) := by
  intro env A E s φ sl H Q hf hg eo ao ok vs w
  refine wpAny_execs_cons (wpAny_mono (he env A E s φ sl H _ hf hg eo ao ok vs w) (fun f s₁ p₁ => ?_) fun _ _ e => e)
  obtain ⟨F, sl₁, H₁, φ₁, w₁, ok₁, vs₁, rf, g₁, r₁⟩ := p₁
  cases F with
  | next =>
    cases f with
    | next => exact wpAny_mono (hes env A E s₁ φ₁ sl₁ H₁ Q hf (g₁.first hg) eo ao ok₁ vs₁ w₁) (fun f s₂ p₂ => p₂.shift g₁ r₁) fun _ _ e => e
    | _ => exact rf.elim
  | ret v =>
    cases f with
    | ret x => exact ⟨.ret v, sl₁, H₁, φ₁, w₁, ok₁, vs₁, rf, g₁, r₁⟩
    | _ => exact rf.elim
theorem ex2_if {t body orelse pos w a b} (ht : Et2 c d sc ρ cc P t w) (ha : Exs c d sc ρ body a) (hb : Exs c d sc ρ orelse b) : Ex2 c d sc ρ cc P (.If t body orelse pos) (wIf w a b) := by
  intro env A E s φ sl H Q hf hg eo ao ok vs q
  refine wpAny_If (wpAny_mono (ht env A E s φ sl H _ hf hg eo ao ok vs q) (fun y s₁ p₁ => ?_) fun _ _ e => e)
  obtain ⟨H₁, φ₁, w₁, ok₁, g₁, r₁⟩ := p₁
  cases y with
  | true => simp only [if_true] at w₁ ⊢; exact wpAny_mono (ha env A E s₁ φ₁ sl H₁ Q eo ao ok₁ (vs.grow g₁) w₁) (fun f s₂ p₂ => p₂.shift g₁.toS r₁) fun _ _ e => e
  | false => simp only [Bool.false_eq_true, if_false] at w₁ ⊢; exact wpAny_mono (hb env A E s₁ φ₁ sl H₁ Q eo ao ok₁ (vs.grow g₁) w₁) (fun f s₂ p₂ => p₂.shift g₁.toS r₁) fun _ _ e => e
theorem et2_cmp {op f l r pos a b} (B : CmpOK c d op f) (hl : Ev c d sc ρ l a) (hr : Ev2 c d sc ρ cc P r b) (hm : behindInMarks op r = false := by with_unfolding_all rfl) : Et2 c d sc ρ cc P (.Compare l [op] [r] pos) (tv (wBin f a b)) := by
  intro env A E s φ sl H Q hf hg eo ao ok vs w
  refine wpAny_isTrue_Compare1 (wpAny_mono (hl env A E s φ sl H _ eo ao ok vs w) (fun x s₁ p₁ => ?_) fun _ _ e => e) hm
  obtain ⟨v, H₁, φ₁, w₁, ok₁, rv, g₁, r₁⟩ := p₁
  refine wpAny_mono (hr env A E s₁ φ₁ sl H₁ _ hf (g₁.first hg) eo ao ok₁ (vs.grow g₁) w₁) (fun y s₂ p₂ => ?_) fun _ _ e => e
  obtain ⟨u, H₂, φ₂, w₂, ok₂, ru, g₂, r₂⟩ := p₂
  refine wpAny_mono (B A E s₂ φ₂ H₂ v u x y _ ao ok₂ (rv.grow g₂) ru w₂) (fun z s₃ p₃ => ?_) fun _ _ e => e
  obtain ⟨t, H₃, φ₃, w₃, ok₃, rt, g₃, r₃⟩ := p₃
  split at w₃
  · cases rt
    exact wpAny_truthy_bool ⟨H₃, φ₃, w₃, ok₃, (g₁.trans g₂).trans g₃, (r₁.trans r₂).trans r₃⟩
  · exact w₃.elim
noncomputable def FnC2 (c : Cx) (d : Nat) (P : Addr) (f : Value) (W : WF) : Prop :=
  ∀ A s φ H args vals Q (R : Result → Shared → Prop), φ.l[0]? = some P → AOK d A → Ok c φ H s.heap → RepVs c φ s.heap args vals → W args H Q → (∀ x s', PostE c φ s Q x s' → R (.ok (.ret x)) s') → codeAny (model c.prog c.w) A (.call f ⟨vals, []⟩) R s
theorem FnC2.weaken {f W W'} (h : FnC2 c d P f W) (k : ∀ args H Q, W' args H Q → W args H Q) : FnC2 c d P f W' := fun A s φ H args vals Q R hf ao ok r w => h A s φ H args vals Q R hf ao ok r (k _ _ _ w)
theorem fn_ok2 {f : Addr} {fo : Obj} {fd : FuncData} {body : List Stmt} {ps rest : List Str} {W : WS} (G : Good c) (ho : c.h₀.get? f = some fo) (hd : fo.data = .func fd) (hcd : c.h₀.CodeRec fd.code fd.qualname) (hbody : fd.body = .stmts body) (hclo : fd.closure = [])
    (hbind : ∀ vals : List Value, vals.length = ps.length → bindArgs fd ⟨vals, []⟩ = pure (ps.zip vals)) (hg : fd.globals = mainGlobals) (hbi : fd.builtins = builtinsNs) (hco : fd.scope.isCoroutine = false) (hgen : fd.scope.isGenerator = false) (hk : fd.scope.kind = .function)
    (hnd : (ps ++ rest).Nodup) (hkd : ∀ x ∈ ps ++ rest, fd.scope.names.lookup x = some .local ∨ fd.scope.names.lookup x = some .cell) (hcode : fd.code = .ref cc) (hb : Exs2 c d fd.scope (ps ++ rest) cc P body W) : FnC2 c (d + 1) P (.ref f) (fnW ps.length rest.length W) :=
  fun A s φ H args vals Q R hf ao ok r w k =>
  fn_okG (PA0 := fun _ φ => φ.l[0]? = some P) (PA := fun env _ φ => env.code = .ref cc ∧ φ.l[0]? = some P) G ho hd hcd hbody hclo hbind hg hbi hco hgen hk hnd hkd (fun A L φ h => ⟨hcode, h⟩) (fun env A E s φ sl H Q p eo ao ok vs w => hb env A E s φ sl H Q p.1 p.2 eo ao ok vs w) A s φ H args vals Q R hf ao ok r w k

/-! ### sorted(name, key=lambda x: x // k) -/
noncomputable def wSortK (k : Int) (as : WEs) : WE := fun sl H Q => as sl H fun vs H₁ => ∃ (j : Nat) (xs : List Int), vs = [.loc j] ∧ lstAt H₁ j = some (xs.map .int) ∧ xs.length < 128 ∧ H₁[0]? = some (.tab 0) ∧
  ∀ ys : List Int, ys.Pairwise (fun a b => a.fdiv k ≤ b.fdiv k) → (∀ q, ys.filter (fun z => decide (z.fdiv k = q)) = xs.filter (fun z => decide (z.fdiv k = q))) → Q (.loc H₁.length) (H₁.set 0 (.tab 3) ++ [.list (ys.map .int)])
theorem ev2_sortK {np yp kpos pos lpos : Pos} {y x : Str} {k : Int} {xp cp bp : Pos} {ck : Nat} {params : Arguments} {scope : Scope} {as : WEs} (G : Good c) (hk : sc.kind = .function) (hx : sc.names.lookup (Str.ofString "sorted") = some .globalImplicit) (hg : c.mg (Str.ofString "sorted") = none) (hv : c.mb (Str.ofString "sorted") = some (.builtin "sorted"))
    (ha : Evs c d sc ρ [.Name y yp] as) (C : CodeHd c.h₀ cc P) (hgP : mainGlobals ≠ P) (HB : c.h₀.BuiltinsAt c.mg P)
    (hdef : ∀ env, defaultsOf params env = ([], [])) (hcl : ∀ env, closureFor scope env = pure [])
    (hbind : ∀ qual pm cv ct v, bindArgs (kla_fn "<lambda>" qual params (lamDiv x k xp cp bp ck) scope [] pm cv ct) ⟨[v], []⟩ = pure [(x, v)])
    (hco : scope.isCoroutine = false) (hgen : scope.isGenerator = false) (hks : scope.kind = .function) (hn : scope.names = [(x, .local)]) (hdx : (x == ("__debug__" : Str)) = false) (hk0 : k ≠ 0) (hk1 : k.natAbs < 1073741824) :
    Ev2 c d sc ρ cc P (.Call (.Name (Str.ofString "sorted") np) [.Name y yp] [⟨some (Str.ofString "key"), .Lambda params (lamDiv x k xp cp bp ck) scope lpos, kpos⟩] pos) (wSortK k as) := by
  intro env A E s φ sl H Q hcode h0 eo ao ok vs w
  show wpAny _ A (eval (.Name (Str.ofString "sorted") np) env >>= fun f => callWith pos f [] (backTo pos (starEach [.Name y yp] env)) (backToKw pos (keywordEach [⟨some (Str.ofString "key"), .Lambda params (lamDiv x k xp cp bp ck) scope lpos, kpos⟩] env))) _ _ _
  refine wpAny_bind (name_built G eo ok hk hx hg hv (by decide) ?_)
  refine callWith_kw ?_
  refine wpAny_mono (ha.2 env A E s φ sl H _ eo ao ok vs w pos) (fun ys s₁ p₁ => ?_) fun _ _ e => e
  obtain ⟨v, H₁, φ₁, ⟨j, xs, rfl, hl, h128, ht, q⟩, ok₁, rv, g₁, r₁⟩ := p₁
  have h1 := g₁.first h0
  cases rv with
  | cons rv rs =>
    cases rs
    obtain ⟨oP, hoP, rP⟩ := ok₁.objs 0 P _ h1 ht
    cases rP with
    | @tab _ ps hps =>
      have hps0 : ps = #[] := Array.eq_empty_of_size_eq_zero hps
      subst hps0
      refine kws_cons (kla_eval (hdef env) ?_)
      obtain ⟨bm, ob, b1, b2, b3, b4, b5, b6⟩ := HB
      refine kla_makeFunction (mg := c.mg) (hcl env) eo.glob (ok₁.G G) hcode (C.keeps ok₁.base) hoP (by first | exact trivial | (intro q; simp) | constructor) rfl hgP ⟨bm, ob, b1, b2, b3, b4, ok₁.base _ _ b5, b6⟩ fun c' ctv h' tk hx' hge hlt hrec htb => ?_
      refine kws_nil ?_
      obtain ⟨fo, hfo⟩ : ∃ fo, fo = kla_obj "<lambda>" (env.qual ++ "<lambda>") params (lamDiv x k xp cp bp ck) scope [] ((c.mg "__name__").getD .none) c' ctv := ⟨_, rfl⟩
      rw [← hfo]
      have kP : ∀ b o, b ≠ P → s₁.heap.get? b = some o → (h'.push fo).get? b = some o := fun b o hb e => Heap.get?_push_of_some _ (hx' b o hb e)
      have eP : (h'.push fo).get? P = some (tabObj (#[] ++ #[rawInt lpos.line, rawInt lpos.col, .ref c'])) := Heap.get?_push_of_some _ htb
      obtain ⟨ok₂, g₂⟩ := ok₁.put (h' := h'.push fo) h1 kP eP (.tab (n := 3) rfl)
      have hj : j ≠ 0 := by
        intro e
        subst e
        rw [lstAt_of hl] at ht
        cases ht
      have hl2 : (H₁.set 0 (.tab 3))[j]? = some (.list (xs.map .int)) := by
        rw [List.getElem?_set_ne (fun e => hj e.symm)]; exact lstAt_of hl
      obtain ⟨al, us, n, rfl, hal, hL, rL⟩ := loc_list ok₂ (rv.grow g₂) hl2
      have hI : IntsAre us xs := ints_of rL
      have hlen : us.length < 128 := by rw [hI.length]; exact h128
      show wpAny _ A (call (.builtin "sorted") [.ref al] [(Str.ofString "key", .ref h'.objs.size)]) _ _ { s₁ with heap := h'.push fo, toks := tk }
      refine sk_sorted (κ := fun z => z.fdiv k) (s := { s₁ with heap := h'.push fo, toks := tk }) (vs := us) (ns := xs) ?isl hI hlen ?turn ?fin
      case isl => exact hL.isList
      case turn =>
        intro z t hh tk' kp
        have hf : hh.get? h'.objs.size = some fo := kp _ _ (Heap.get?_push_size _ (by rw [hfo]; rfl))
        have hrec2 : hh.CodeRec (.ref c') (env.qual ++ "<lambda>") := hrec.keeps fun b o e => kp _ _ (Heap.get?_push_of_some _ e)
        refine wpAny_mono (lam_turn (s := { s₁ with heap := hh, toks := tk' }) (k := k) (x := x) (xp := xp) (cp := cp) (bp := bp) (ck := ck) hf (by rw [hfo]) rfl rfl rfl rfl hrec2 (G.NL.keeps fun b o e => kp _ _ (ok₂.base _ _ e)) (by show A.depth < 900; have := ao.depth; (first | lia | omega)) (fun v => hbind _ _ _ _ v) hco hgen hks hn hdx hk0 hk1) (fun r s' p => ?_) fun _ _ e => e
        obtain ⟨h3, tk3, t3, rfl, e2, e3⟩ := p
        exact ⟨h3, tk3, t3, rfl, e2, e3⟩
      case fin =>
        intro D h3 tk3 out cN ns' hD kp hDo hI' hs hfil
        have nm : D ≠ sysModules := by rw [hD]; exact ok₂.newS1
        have hD0 : (h'.push fo).get? D = none := by rw [hD]; exact Heap.get?_none_of_le (Nat.le_succ _)
        have eo' : seqObj "list" out cN = { cls := .type "list", data := .seq out.toList.toArray cN } := by simp [seqObj]
        rw [eo'] at hDo
        obtain ⟨ok₃, g₃⟩ := ok₂.alloc (lo := .list (ns'.map .int)) hD0 kp hDo (.list (repInts hI')) nm
        exact ⟨_, _, _, q ns' hs hfil, ok₃, .loc (by have := ok₂.len; rw [List.length_set] at this; rw [← this]; simp), (g₁.trans g₂).trans g₃, r₁.trans ⟨_, _, rfl⟩⟩
end
end Mine

namespace Mine
noncomputable def mergedB_b1 (c : Cx) : WS := wSeq (wIf (tOr (tv (wBin (wIs c id) (wVar 2) (wVar 0))) (tAnd (tv (wBin (wIs c not) (wVar 1) (wVar 0))) (tv (wBin (onI fun i j => V.bool (decide (i ≤ j))) (wBin wDiv (wMeth c 0 (gSlot c 0 0) (wVar 1) wNil) (wK (V.int 10))) (wBin wDiv (wMeth c 0 (gSlot c 0 0) (wVar 2) wNil) (wK (V.int 10))))))) (wSeq (wSet 3 (wCall mkTI (wCons (wVar 3) (wCons (wMeth c 0 (gSlot c 0 0) (wVar 1) wNil) wNil)))) (wSeq (wSet 1 (wMeth c 0 (gSlot c 0 1) (wVar 1) wNil)) wSkip)) (wSeq (wSet 3 (wCall mkTI (wCons (wVar 3) (wCons (wMeth c 0 (gSlot c 0 0) (wVar 2) wNil) wNil)))) (wSeq (wSet 2 (wMeth c 0 (gSlot c 0 1) (wVar 2) wNil)) wSkip))) wSkip
noncomputable def mergedB_b2 (c : Cx) : WS := wSeq (wSet 4 (wCall mkTI (wCons (wVar 4) (wCons (wMeth c 0 (gSlot c 0 0) (wVar 3) wNil) wNil)))) (wSeq (wSet 3 (wMeth c 0 (gSlot c 0 1) (wVar 3) wNil)) wSkip)
noncomputable def mergedR2 (c : Cx) : WS := wSeq (wSet 4 (wVar 0)) (wSeq (wWhile (tv (wBin (wIs c not) (wVar 3) (wVar 0))) (mergedB_b2 c)) (wSeq (wRet (wVar 4)) wSkip))
noncomputable def mergedB (c : Cx) : WS := wSeq (wSet 3 (wVar 0)) (wSeq (wWhile (tOr (tv (wBin (wIs c not) (wVar 1) (wVar 0))) (tv (wBin (wIs c not) (wVar 2) (wVar 0)))) (mergedB_b1 c)) (mergedR2 c))
noncomputable def lawB09_b1 (c : Cx) (WM : WF) : WS := wSeq (wDrop (wAppend (wVar 7) (wCall WM (wCons (wIdxX c.ns (wVar 4) (wVar 6)) (wCons (wIdxX c.ns (wVar 5) (wVar 8)) (wCons (wIdxX c.ns (wVar 5) (wBin (wAdd c.ns) (wVar 8) (wK (V.int 1)))) wNil)))))) (wSeq (wAug 6 (onI fun i j => V.int (i + j)) (wK (V.int 1))) wSkip)
noncomputable def lawB09_b2 (c : Cx) (WM : WF) : WS := wSeq (wSet 7 (wList wNil)) (wSeq (wFor c.ns (iRange3 (wK (V.int 0)) (wBin (onI fun i j => V.int (i - j)) (wCall (bLen c.ns) (wCons (wVar 5) wNil)) (wK (V.int 1))) (wK (V.int 2))) (aName 8) (lawB09_b1 c WM)) (wSeq (wSet 5 (wBin (wAdd c.ns) (wVar 7) (wSlice c.ns (wVar 5) (oSome (wBin wMul (wK (V.int 2)) (wCall (bLen c.ns) (wCons (wVar 7) wNil)))) oNone oNone))) wSkip))
noncomputable def lawB09_b3 (c : Cx) : WS := wSeq (wDrop (wAppend (wVar 10) (wMeth c 0 (gSlot c 0 0) (wVar 9) wNil))) (wSeq (wSet 9 (wMeth c 0 (gSlot c 0 1) (wVar 9) wNil)) wSkip)
noncomputable def lawR12 (c : Cx) (WM : WF) : WS := wSeq (wRet (wBin (wEqD c.ns id) (wComp c.ns (iList c.ns (wVar 1)) [] tTrue (wSlot c 1 0 (wVar 0))) (wList (wCons (wK V.none) (wCons (wK (V.str (Str.ofString ""))) (wCons (wK (V.str (Str.ofString "p:x"))) (wCons (wCall (bLen c.ns) (wCons (wVar 0) wNil)) wNil))))))) wSkip
noncomputable def lawR11 (c : Cx) (WM : WF) : WS := wSeq (wIf (tOr (tv (wBin (wIs c not) (wMeth c 0 (gSlot c 0 0) (wVar 9) wNil) (wK V.none))) (tv (wBin (wIs c not) (wMeth c 0 (gSlot c 0 1) (wVar 9) wNil) (wK V.none)))) (wSeq (wRet (wK (V.bool false))) wSkip) wSkip) (lawR12 c WM)
noncomputable def lawR10 (c : Cx) (WM : WF) : WS := wSeq (wIf (tv (wBin (wEqD c.ns not) (wVar 10) (wSortK 10 (wCons (wVar 3) wNil)))) (wSeq (wRet (wK (V.bool false))) wSkip) wSkip) (lawR11 c WM)
noncomputable def lawR9 (c : Cx) (WM : WF) : WS := wSeq (wWhile (tv (wBin (wIs c not) (wVar 9) (wK (V.glob 67)))) (lawB09_b3 c)) (lawR10 c WM)
noncomputable def lawR8 (c : Cx) (WM : WF) : WS := wSeq (wSetR [9, 10] (wTup (wCons (wIdxX c.ns (wVar 5) (wK (V.int 0))) (wCons (wList wNil) wNil)))) (lawR9 c WM)
noncomputable def lawR7 (c : Cx) (WM : WF) : WS := wSeq (wWhile (tv (wBin (onI fun i j => V.bool (decide (j < i))) (wCall (bLen c.ns) (wCons (wVar 5) wNil)) (wK (V.int 1)))) (lawB09_b2 c WM)) (lawR8 c WM)
noncomputable def lawR6 (c : Cx) (WM : WF) : WS := wSeq (wSet 6 (wK (V.int 0))) (lawR7 c WM)
noncomputable def lawR5 (c : Cx) (WM : WF) : WS := wSeq (wSet 5 (wComp c.ns (iRange1 (wCall (bLen c.ns) (wCons (wVar 3) wNil))) [4, 3] tTrue (wCall mkTI (wCons (wIdxX c.ns (wVar 1) (wVar 0)) (wCons (wIdxX c.ns (wVar 2) (wVar 0)) wNil))))) (lawR6 c WM)
noncomputable def lawR4 (c : Cx) (WM : WF) : WS := wSeq (wIf (tv (wBin (wEqD c.ns not) (wComp c.ns (iList c.ns (wVar 4)) [] (tv (wBin (wIs c not) (wVar 0) (wK (V.glob 67)))) (wVar 0)) (wList wNil))) (wSeq (wRet (wK (V.bool false))) wSkip) wSkip) (lawR5 c WM)
noncomputable def lawR3 (c : Cx) (WM : WF) : WS := wSeq (wSet 4 (wComp c.ns (iList c.ns (wVar 3)) [1, 2] tTrue (wMeth c 1 (kGlob 2 67) (wIdxX c.ns (wVar 1) (wBin wMod (wVar 0) (wK (V.int 4)))) (wCons (wIdxX c.ns (wVar 2) (wBin wMod (wBin wDiv (wVar 0) (wK (V.int 4))) (wK (V.int 5)))) wNil)))) (lawR4 c WM)
noncomputable def lawR2 (c : Cx) (WM : WF) : WS := wSeq (wSet 3 (wBin (wAdd c.ns) (wList (wCons (wK (V.int 21)) (wCons (wK (V.int 7)) (wCons (wK (V.int 12)) (wCons (wK (V.int 3)) (wCons (wK (V.int 7)) (wCons (wK (V.int 29)) wNil))))))) (wVar 0))) (lawR3 c WM)
noncomputable def lawR1 (c : Cx) (WM : WF) : WS := wSeq (wSet 2 (wList (wCons (wK (V.str (Str.ofString "p:x"))) (wCons (wK (V.str (Str.ofString ""))) (wCons (wK V.none) (wCons (wK (V.str (Str.ofString "n"))) (wCons (wCall (bLen c.ns) (wCons (wVar 0) wNil)) wNil))))))) (lawR2 c WM)
noncomputable def lawB09 (c : Cx) (WM : WF) : WS := wSeq (wSet 1 (wComp c.ns (iList c.ns (wList (wCons (wK V.none) (wCons (wK (V.str (Str.ofString ""))) (wCons (wK (V.str (Str.ofString "p:x"))) (wCons (wCall (bLen c.ns) (wCons (wVar 0) wNil)) wNil)))))) [] tTrue (wCall (mkEI 1) (wCons (wVar 0) wNil)))) (lawR1 c WM)

section
variable {c : Cx} {H : HW}
section
variable {sl : Sl} {ns : List Int}
theorem d_skip {Q} : wSkip sl H Q = Q .next sl H := rfl
theorem d_seq {a b Q} : wSeq a b sl H Q = a sl H (fun F sl' H' => match F with | .next => b sl' H' Q | .ret v => Q (.ret v) sl' H') := rfl
theorem d_set {i a Q} : wSet i a sl H Q = a sl H (fun v H' => Q .next (sl.set i (some v)) H') := rfl
theorem d_aug {i f a Q} : wAug i f a sl H Q = wBin f (wVar i) a sl H (fun v H' => Q .next (sl.set i (some v)) H') := rfl
theorem d_drop {a Q} : wDrop a sl H Q = a sl H (fun v H' => match v with | .none => Q .next sl H' | _ => False) := rfl
theorem d_if {t a b Q} : wIf t a b sl H Q = t sl H (fun r H' => if r then a sl H' Q else b sl H' Q) := rfl
theorem d_ret {a Q} : wRet a sl H Q = a sl H (fun v H' => Q (.ret v) sl H') := rfl
theorem d_setR {is a Q} : wSetR is a sl H Q = a sl H (fun v H' => aTupR is v sl H' fun sl' H'' => Q .next sl' H'') := rfl
theorem d_aTupR {is vs K} : aTupR is (.tup vs) sl H K = (vs.length = is.length ∧ K (setAll is.reverse vs.reverse sl) H) := rfl
theorem d_aName {i v K} : aName i v sl H K = K (sl.set i (some v)) H := rfl
theorem d_k {v Q} : wK v sl H Q = Q v H := rfl
theorem d_var {i Q} : wVar i sl H Q = (match sl[i]? with | some (some v) => Q v H | _ => False) := rfl
theorem d_bin {f a b Q} : wBin f a b sl H Q = a sl H (fun v H₁ => b sl H₁ fun w H₂ => f v w H₂ Q) := rfl
theorem d_onI {f i j Q} : onI f (.int i) (.int j) H Q = Q (f i j) H := rfl
theorem d_mod {i j Q} : wMod (.int i) (.int j) H Q = (j ≠ 0 ∧ Q (.int (i.fmod j)) H) := rfl
theorem d_div {i j Q} : wDiv (.int i) (.int j) H Q = ((j ≠ 0 ∧ j.natAbs < 1073741824) ∧ Q (.int (i.fdiv j)) H) := rfl
theorem d_addI {i j Q} : wAdd ns (.int i) (.int j) H Q = Q (.int (i + j)) H := rfl
theorem d_tv {w Q} : tv w sl H Q = w sl H (fun v H' => match v with | .bool b => Q b H' | _ => False) := rfl
theorem d_and {a b Q} : tAnd a b sl H Q = a sl H (fun t H' => if t then b sl H' Q else Q false H') := rfl
theorem d_or {a b Q} : tOr a b sl H Q = a sl H (fun t H' => if t then Q true H' else b sl H' Q) := rfl
theorem d_nil {Q} : wNil sl H Q = Q [] H := rfl
theorem d_cons {a b Q} : wCons a b sl H Q = a sl H (fun v H₁ => b sl H₁ fun vs H₂ => Q (v :: vs) H₂) := rfl
theorem d_list {a Q} : wList a sl H Q = a sl H (fun vs H₁ => vs.length ≤ 1000000 ∧ Q (.loc H₁.length) (H₁ ++ [.list vs])) := rfl
theorem d_tup {a Q} : wTup a sl H Q = a sl H (fun vs H₁ => vs.length ≤ 1000000 ∧ Q (.tup vs) H₁) := rfl
theorem d_call {W as Q} : wCall W as sl H Q = as sl H (fun vs H₁ => W vs H₁ Q) := rfl
theorem d_meth {k W a as Q} : wMeth c k W a as sl H Q = a sl H (fun v H₁ => clsV c H₁ v = some k ∧ as sl H₁ fun vs H₂ => W (v :: vs) H₂ Q) := rfl
theorem d_onone {Q} : oNone sl H Q = Q none H := rfl
theorem d_osome {a Q} : oSome a sl H Q = a sl H (fun v H' => match v with | .int i => Q (some i) H' | _ => False) := rfl
theorem d_slice {a lo hi st Q} : wSlice ns a lo hi st sl H Q = a sl H (fun v H₁ => lo sl H₁ fun l H₂ => hi sl H₂ fun u H₃ => st sl H₃ fun k H₄ => match asL ns H₄ v with
  | some xs => (xs.length ≤ 1000000 ∧ k ≠ some 0) ∧ Q (.loc H₄.length) (H₄ ++ [.list (sliceV xs l u k)])
  | none => False) := rfl
theorem d_append {a b Q} : wAppend a b sl H Q = a sl H (fun v H₁ => match v with
  | .loc k => (lstAt H₁ k).isSome = true ∧ b sl H₁ fun w H₂ => (match lstAt H₂ k with | some xs => xs.length ≤ 1000000 ∧ Q .none (H₂.set k (.list (xs ++ [w]))) | none => False)
  | _ => False) := rfl
theorem d_mul {i j Q} : wMul (.int i) (.int j) H Q = (IntMulOk i j ∧ Q (.int (i * j)) H) := rfl
theorem d_is {f v w Q} : wIs c f v w H Q = (match isV c v w with | some b => Q (.bool (f b)) H | none => False) := rfl
theorem d_mkEI {k a H Q} : mkEI k [a] H Q = Q (.obj k [a]) H := rfl
theorem d_slot {c : Cx} {sl H k i a Q} : wSlot c k i a sl H Q = a sl H (fun v H₁ => clsV c H₁ v = some k ∧ match slotV c H₁ i v with | some u => Q u H₁ | none => False) := rfl
theorem d_mkTI {a b H Q} : mkTI [a, b] H Q = Q (.obj 0 [b, a]) H := rfl
theorem d_idxX {a b Q} : wIdxX ns a b sl H Q = a sl H (fun v H₁ => b sl H₁ fun w H₂ => idxV ns v w H₂ Q) := rfl
theorem d_kGlob2 {n a x y Q} : kGlob n a [x, y] H Q = (2 = n ∧ Q (.glob a) H) := rfl
end
theorem while_dn {t : WT} {b : WS} {Q : Fl → Sl → HW → Prop} (I : Nat → Sl → HW → Prop) (step : ∀ n sl H, I n sl H → ∀ R : Fl → Sl → HW → Prop, (∀ m sl' H', n = m + 1 → I m sl' H' → R .next sl' H') → (∀ v sl' H', Q (.ret v) sl' H' → R (.ret v) sl' H') → t sl H fun r H₁ => if r then b sl H₁ R else Q .next sl H₁) : ∀ n sl H, I n sl H → wWhileN t b (n + 1) sl H Q := by
  intro n
  induction n with
  | zero =>
    intro sl H i
    exact step 0 sl H i _ (fun m sl' H' e => by (first | lia | omega)) (fun v _ _ h => h)
  | succ m ih =>
    intro sl H i
    exact step (m + 1) sl H i _ (fun m' sl' H' e i' => by cases e; exact ih sl' H' i') (fun v _ _ h => h)
theorem while_ok {t : WT} {b : WS} {Q : Fl → Sl → HW → Prop} {n sl H} (I : Nat → Sl → HW → Prop) (step : ∀ n sl H, I n sl H → ∀ R : Fl → Sl → HW → Prop, (∀ m sl' H', n = m + 1 → I m sl' H' → R .next sl' H') → (∀ v sl' H', Q (.ret v) sl' H' → R (.ret v) sl' H') → t sl H fun r H₁ => if r then b sl H₁ R else Q .next sl H₁)
    (h : I n sl H) : wWhile t b sl H Q := ⟨n + 1, while_dn I step n sl H h⟩
/-- a chain -/
noncomputable def chV : List Int → V
  | [] => .glob 67
  | x :: xs => .obj 0 [.int x, chV xs]
noncomputable abbrev tens (x : Int) : Int := x.fdiv 10
theorem is_nil (hg : c.gC 67 = some (0, 2)) (xs : List Int) : isV c (chV xs) (.glob 67) = some (decide (xs = [])) := by
  cases xs with
  | nil => rfl
  | cons x xs => rfl
noncomputable def mergedW : WF := fun args H Q => ∃ xs ys, args = [.glob 67, chV xs, chV ys] ∧ Q (chV (mg tens xs ys)) H
theorem merged_b1 (hg : c.gC 67 = some (0, 2)) {us vs acc : List Int} {y4 : Option V} {R : Fl → Sl → HW → Prop} (h : us ≠ [] ∨ vs ≠ [])
    (r : ∀ us' vs' acc', us.length + vs.length = us'.length + vs'.length + 1 → acc'.reverse ++ mg tens us' vs' = acc.reverse ++ mg tens us vs → R .next [some (.glob 67), some (chV us'), some (chV vs'), some (chV acc'), y4] H) :
    mergedB_b1 c [some (.glob 67), some (chV us), some (chV vs), some (chV acc), y4] H R := by
  unfold mergedB_b1
  cases us with
  | cons u us =>
    cases vs with
    | nil =>
      ((try dsimp only [d_skip, d_seq, d_set, d_aug, d_drop, d_if, d_ret, d_setR, d_aTupR, d_aName, d_k, d_var, d_bin, d_onI, d_mod, d_div, d_addI, d_tv, d_and, d_or, d_nil, d_cons, d_list, d_tup, d_call, d_meth, d_onone, d_osome, d_slice, d_append, d_mul, d_is, d_mkEI, d_slot, d_mkTI, d_idxX, d_kGlob2, List.getElem?_cons_zero, List.getElem?_cons_succ, List.set_cons_zero, List.set_cons_succ, List.length_cons, List.length_nil, List.nil_append, List.cons_append, e_setAll, e_clsO, id, Option.isSome_some, if_true, if_false, chV, isV]); (try simp only [e_idxX, e_kGlob2, e_lenS, e_gSlotO0, e_gSlotO1, e_mkEI, e_slot, e_mul, e_is, true_and, and_true, ne_eq, not_false_eq_true, Int.reduceEq, Nat.reduceLeDiff, Nat.reduceLT, reduceIte, Option.isSome_some, reduceCtorEq, Int.reduceBEq, Int.reduceNeg, Int.reduceLT, Nat.reduceAdd, Bool.false_eq_true, Bool.not_true, Bool.not_false, if_true, if_false, e_skip, isN, id, e_mkTI, e_addI, e_drop, e_append, e_seq, e_setR, e_list, e_tup, e_cons, e_meth, e_var, e_nil, e_k, e_set, e_aug, e_bin, e_mod, e_div, e_if, e_ret, e_and, e_or, e_tv, e_onI, e_call, e_aTupR, e_aName, e_clsO, e_onone, e_osome, e_slice, List.getElem?_cons_zero, List.getElem?_cons_succ, List.set_cons_zero, List.set_cons_succ, List.length_cons, List.length_nil, List.reverse_cons, List.reverse_nil, List.nil_append, List.cons_append, e_setAll, e_setAll0, asL_loc, chV, is_nil hg, isV]))
      refine r us [] (u :: acc) rfl ?_
      rw [mg_nil_r, mg_nil_r]; simp
    | cons v vs =>
      by_cases hl : tens v < tens u
      · have hl' : ¬ (u.fdiv 10 ≤ v.fdiv 10) := Int.not_le.mpr hl
        ((try dsimp only [d_skip, d_seq, d_set, d_aug, d_drop, d_if, d_ret, d_setR, d_aTupR, d_aName, d_k, d_var, d_bin, d_onI, d_mod, d_div, d_addI, d_tv, d_and, d_or, d_nil, d_cons, d_list, d_tup, d_call, d_meth, d_onone, d_osome, d_slice, d_append, d_mul, d_is, d_mkEI, d_slot, d_mkTI, d_idxX, d_kGlob2, List.getElem?_cons_zero, List.getElem?_cons_succ, List.set_cons_zero, List.set_cons_succ, List.length_cons, List.length_nil, List.nil_append, List.cons_append, e_setAll, e_clsO, id, Option.isSome_some, if_true, if_false, chV, isV]); (try simp only [e_idxX, e_kGlob2, e_lenS, e_gSlotO0, e_gSlotO1, e_mkEI, e_slot, e_mul, e_is, true_and, and_true, ne_eq, not_false_eq_true, Int.reduceEq, Nat.reduceLeDiff, Nat.reduceLT, reduceIte, Option.isSome_some, reduceCtorEq, Int.reduceBEq, Int.reduceNeg, Int.reduceLT, Nat.reduceAdd, Bool.false_eq_true, Bool.not_true, Bool.not_false, if_true, if_false, e_skip, isN, id, e_mkTI, e_addI, e_drop, e_append, e_seq, e_setR, e_list, e_tup, e_cons, e_meth, e_var, e_nil, e_k, e_set, e_aug, e_bin, e_mod, e_div, e_if, e_ret, e_and, e_or, e_tv, e_onI, e_call, e_aTupR, e_aName, e_clsO, e_onone, e_osome, e_slice, List.getElem?_cons_zero, List.getElem?_cons_succ, List.set_cons_zero, List.set_cons_succ, List.length_cons, List.length_nil, List.reverse_cons, List.reverse_nil, List.nil_append, List.cons_append, e_setAll, e_setAll0, asL_loc, chV, is_nil hg, isV, decide_eq_false hl']))
        refine ⟨by decide, by decide, r (u :: us) vs (v :: acc) rfl ?_⟩
        rw [mg_lt hl]; simp
      · have hl' : u.fdiv 10 ≤ v.fdiv 10 := Int.not_lt.mp hl
        ((try dsimp only [d_skip, d_seq, d_set, d_aug, d_drop, d_if, d_ret, d_setR, d_aTupR, d_aName, d_k, d_var, d_bin, d_onI, d_mod, d_div, d_addI, d_tv, d_and, d_or, d_nil, d_cons, d_list, d_tup, d_call, d_meth, d_onone, d_osome, d_slice, d_append, d_mul, d_is, d_mkEI, d_slot, d_mkTI, d_idxX, d_kGlob2, List.getElem?_cons_zero, List.getElem?_cons_succ, List.set_cons_zero, List.set_cons_succ, List.length_cons, List.length_nil, List.nil_append, List.cons_append, e_setAll, e_clsO, id, Option.isSome_some, if_true, if_false, chV, isV]); (try simp only [e_idxX, e_kGlob2, e_lenS, e_gSlotO0, e_gSlotO1, e_mkEI, e_slot, e_mul, e_is, true_and, and_true, ne_eq, not_false_eq_true, Int.reduceEq, Nat.reduceLeDiff, Nat.reduceLT, reduceIte, Option.isSome_some, reduceCtorEq, Int.reduceBEq, Int.reduceNeg, Int.reduceLT, Nat.reduceAdd, Bool.false_eq_true, Bool.not_true, Bool.not_false, if_true, if_false, e_skip, isN, id, e_mkTI, e_addI, e_drop, e_append, e_seq, e_setR, e_list, e_tup, e_cons, e_meth, e_var, e_nil, e_k, e_set, e_aug, e_bin, e_mod, e_div, e_if, e_ret, e_and, e_or, e_tv, e_onI, e_call, e_aTupR, e_aName, e_clsO, e_onone, e_osome, e_slice, List.getElem?_cons_zero, List.getElem?_cons_succ, List.set_cons_zero, List.set_cons_succ, List.length_cons, List.length_nil, List.reverse_cons, List.reverse_nil, List.nil_append, List.cons_append, e_setAll, e_setAll0, asL_loc, chV, is_nil hg, isV, decide_eq_true hl']))
        refine ⟨by decide, by decide, r us (v :: vs) (u :: acc) (by simp; (first | lia | omega)) ?_⟩
        rw [mg_ge hl]; simp
  | nil =>
    cases vs with
    | nil => simp at h
    | cons v vs =>
      ((try dsimp only [d_skip, d_seq, d_set, d_aug, d_drop, d_if, d_ret, d_setR, d_aTupR, d_aName, d_k, d_var, d_bin, d_onI, d_mod, d_div, d_addI, d_tv, d_and, d_or, d_nil, d_cons, d_list, d_tup, d_call, d_meth, d_onone, d_osome, d_slice, d_append, d_mul, d_is, d_mkEI, d_slot, d_mkTI, d_idxX, d_kGlob2, List.getElem?_cons_zero, List.getElem?_cons_succ, List.set_cons_zero, List.set_cons_succ, List.length_cons, List.length_nil, List.nil_append, List.cons_append, e_setAll, e_clsO, id, Option.isSome_some, if_true, if_false, chV, isV]); (try simp only [e_idxX, e_kGlob2, e_lenS, e_gSlotO0, e_gSlotO1, e_mkEI, e_slot, e_mul, e_is, true_and, and_true, ne_eq, not_false_eq_true, Int.reduceEq, Nat.reduceLeDiff, Nat.reduceLT, reduceIte, Option.isSome_some, reduceCtorEq, Int.reduceBEq, Int.reduceNeg, Int.reduceLT, Nat.reduceAdd, Bool.false_eq_true, Bool.not_true, Bool.not_false, if_true, if_false, e_skip, isN, id, e_mkTI, e_addI, e_drop, e_append, e_seq, e_setR, e_list, e_tup, e_cons, e_meth, e_var, e_nil, e_k, e_set, e_aug, e_bin, e_mod, e_div, e_if, e_ret, e_and, e_or, e_tv, e_onI, e_call, e_aTupR, e_aName, e_clsO, e_onone, e_osome, e_slice, List.getElem?_cons_zero, List.getElem?_cons_succ, List.set_cons_zero, List.set_cons_succ, List.length_cons, List.length_nil, List.reverse_cons, List.reverse_nil, List.nil_append, List.cons_append, e_setAll, e_setAll0, asL_loc, chV, is_nil hg, isV]))
      refine r [] vs (v :: acc) (by simp) ?_
      rw [mg_nil_l, mg_nil_l]; simp
theorem merged_end (hg : c.gC 67 = some (0, 2)) {acc : List Int} {x1 x2 y4 : Option V} {Q : Fl → Sl → HW → Prop} (q : ∀ sl, Q (.ret (chV acc.reverse)) sl H) : mergedR2 c [some (.glob 67), x1, x2, some (chV acc), y4] H Q := by
  ((try dsimp only [d_skip, d_seq, d_set, d_aug, d_drop, d_if, d_ret, d_setR, d_aTupR, d_aName, d_k, d_var, d_bin, d_onI, d_mod, d_div, d_addI, d_tv, d_and, d_or, d_nil, d_cons, d_list, d_tup, d_call, d_meth, d_onone, d_osome, d_slice, d_append, d_mul, d_is, d_mkEI, d_slot, d_mkTI, d_idxX, d_kGlob2, List.getElem?_cons_zero, List.getElem?_cons_succ, List.set_cons_zero, List.set_cons_succ, List.length_cons, List.length_nil, List.nil_append, List.cons_append, e_setAll, e_clsO, id, Option.isSome_some, if_true, if_false, mergedR2]); (try simp only [e_idxX, e_kGlob2, e_lenS, e_gSlotO0, e_gSlotO1, e_mkEI, e_slot, e_mul, e_is, true_and, and_true, ne_eq, not_false_eq_true, Int.reduceEq, Nat.reduceLeDiff, Nat.reduceLT, reduceIte, Option.isSome_some, reduceCtorEq, Int.reduceBEq, Int.reduceNeg, Int.reduceLT, Nat.reduceAdd, Bool.false_eq_true, Bool.not_true, Bool.not_false, if_true, if_false, e_skip, isN, id, e_mkTI, e_addI, e_drop, e_append, e_seq, e_setR, e_list, e_tup, e_cons, e_meth, e_var, e_nil, e_k, e_set, e_aug, e_bin, e_mod, e_div, e_if, e_ret, e_and, e_or, e_tv, e_onI, e_call, e_aTupR, e_aName, e_clsO, e_onone, e_osome, e_slice, List.getElem?_cons_zero, List.getElem?_cons_succ, List.set_cons_zero, List.set_cons_succ, List.length_cons, List.length_nil, List.reverse_cons, List.reverse_nil, List.nil_append, List.cons_append, e_setAll, e_setAll0, asL_loc, mergedR2]))
  refine while_ok (n := acc.length) (fun n sl H'' => H'' = H ∧ ∃ as ms, n = as.length ∧ sl = [some (.glob 67), x1, x2, some (chV as), some (chV ms)] ∧ as.reverse ++ ms = acc.reverse) ?_ ⟨rfl, acc, [], rfl, rfl, by rw [List.append_nil]⟩
  rintro n sl H'' ⟨rfl, as, ms, hn', rfl, he'⟩ R rn' rr'
  cases as with
  | nil =>
    ((try dsimp only [d_skip, d_seq, d_set, d_aug, d_drop, d_if, d_ret, d_setR, d_aTupR, d_aName, d_k, d_var, d_bin, d_onI, d_mod, d_div, d_addI, d_tv, d_and, d_or, d_nil, d_cons, d_list, d_tup, d_call, d_meth, d_onone, d_osome, d_slice, d_append, d_mul, d_is, d_mkEI, d_slot, d_mkTI, d_idxX, d_kGlob2, List.getElem?_cons_zero, List.getElem?_cons_succ, List.set_cons_zero, List.set_cons_succ, List.length_cons, List.length_nil, List.nil_append, List.cons_append, e_setAll, e_clsO, id, Option.isSome_some, if_true, if_false, chV, isV]); (try simp only [e_idxX, e_kGlob2, e_lenS, e_gSlotO0, e_gSlotO1, e_mkEI, e_slot, e_mul, e_is, true_and, and_true, ne_eq, not_false_eq_true, Int.reduceEq, Nat.reduceLeDiff, Nat.reduceLT, reduceIte, Option.isSome_some, reduceCtorEq, Int.reduceBEq, Int.reduceNeg, Int.reduceLT, Nat.reduceAdd, Bool.false_eq_true, Bool.not_true, Bool.not_false, if_true, if_false, e_skip, isN, id, e_mkTI, e_addI, e_drop, e_append, e_seq, e_setR, e_list, e_tup, e_cons, e_meth, e_var, e_nil, e_k, e_set, e_aug, e_bin, e_mod, e_div, e_if, e_ret, e_and, e_or, e_tv, e_onI, e_call, e_aTupR, e_aName, e_clsO, e_onone, e_osome, e_slice, List.getElem?_cons_zero, List.getElem?_cons_succ, List.set_cons_zero, List.set_cons_succ, List.length_cons, List.length_nil, List.reverse_cons, List.reverse_nil, List.nil_append, List.cons_append, e_setAll, e_setAll0, asL_loc, chV, isV]))
    simp only [List.reverse_nil, List.nil_append] at he'
    rw [he']
    exact q _
  | cons a as =>
    ((try dsimp only [d_skip, d_seq, d_set, d_aug, d_drop, d_if, d_ret, d_setR, d_aTupR, d_aName, d_k, d_var, d_bin, d_onI, d_mod, d_div, d_addI, d_tv, d_and, d_or, d_nil, d_cons, d_list, d_tup, d_call, d_meth, d_onone, d_osome, d_slice, d_append, d_mul, d_is, d_mkEI, d_slot, d_mkTI, d_idxX, d_kGlob2, List.getElem?_cons_zero, List.getElem?_cons_succ, List.set_cons_zero, List.set_cons_succ, List.length_cons, List.length_nil, List.nil_append, List.cons_append, e_setAll, e_clsO, id, Option.isSome_some, if_true, if_false, mergedB_b2, chV, isV]); (try simp only [e_idxX, e_kGlob2, e_lenS, e_gSlotO0, e_gSlotO1, e_mkEI, e_slot, e_mul, e_is, true_and, and_true, ne_eq, not_false_eq_true, Int.reduceEq, Nat.reduceLeDiff, Nat.reduceLT, reduceIte, Option.isSome_some, reduceCtorEq, Int.reduceBEq, Int.reduceNeg, Int.reduceLT, Nat.reduceAdd, Bool.false_eq_true, Bool.not_true, Bool.not_false, if_true, if_false, e_skip, isN, id, e_mkTI, e_addI, e_drop, e_append, e_seq, e_setR, e_list, e_tup, e_cons, e_meth, e_var, e_nil, e_k, e_set, e_aug, e_bin, e_mod, e_div, e_if, e_ret, e_and, e_or, e_tv, e_onI, e_call, e_aTupR, e_aName, e_clsO, e_onone, e_osome, e_slice, List.getElem?_cons_zero, List.getElem?_cons_succ, List.set_cons_zero, List.set_cons_succ, List.length_cons, List.length_nil, List.reverse_cons, List.reverse_nil, List.nil_append, List.cons_append, e_setAll, e_setAll0, asL_loc, mergedB_b2, chV, isV]))
    refine rn' as.length _ _ (by simp at hn'; (first | lia | omega)) ⟨rfl, as, a :: ms, rfl, rfl, ?_⟩
    rw [← he']; simp
theorem merged_plain {args Q} (hg : c.gC 67 = some (0, 2)) (h : mergedW args H Q) : fnW 3 2 (mergedB c) args H Q := by
  obtain ⟨xs, ys, rfl, q⟩ := h
  refine ⟨rfl, ?_⟩
  show mergedB c [some (.glob 67), some (chV xs), some (chV ys), none, none] H _
  unfold mergedB
  ((try dsimp only [d_skip, d_seq, d_set, d_aug, d_drop, d_if, d_ret, d_setR, d_aTupR, d_aName, d_k, d_var, d_bin, d_onI, d_mod, d_div, d_addI, d_tv, d_and, d_or, d_nil, d_cons, d_list, d_tup, d_call, d_meth, d_onone, d_osome, d_slice, d_append, d_mul, d_is, d_mkEI, d_slot, d_mkTI, d_idxX, d_kGlob2, List.getElem?_cons_zero, List.getElem?_cons_succ, List.set_cons_zero, List.set_cons_succ, List.length_cons, List.length_nil, List.nil_append, List.cons_append, e_setAll, e_clsO, id, Option.isSome_some, if_true, if_false]); (try simp only [e_idxX, e_kGlob2, e_lenS, e_gSlotO0, e_gSlotO1, e_mkEI, e_slot, e_mul, e_is, true_and, and_true, ne_eq, not_false_eq_true, Int.reduceEq, Nat.reduceLeDiff, Nat.reduceLT, reduceIte, Option.isSome_some, reduceCtorEq, Int.reduceBEq, Int.reduceNeg, Int.reduceLT, Nat.reduceAdd, Bool.false_eq_true, Bool.not_true, Bool.not_false, if_true, if_false, e_skip, isN, id, e_mkTI, e_addI, e_drop, e_append, e_seq, e_setR, e_list, e_tup, e_cons, e_meth, e_var, e_nil, e_k, e_set, e_aug, e_bin, e_mod, e_div, e_if, e_ret, e_and, e_or, e_tv, e_onI, e_call, e_aTupR, e_aName, e_clsO, e_onone, e_osome, e_slice, List.getElem?_cons_zero, List.getElem?_cons_succ, List.set_cons_zero, List.set_cons_succ, List.length_cons, List.length_nil, List.reverse_cons, List.reverse_nil, List.nil_append, List.cons_append, e_setAll, e_setAll0, asL_loc]))
  refine while_ok (n := xs.length + ys.length) (fun n sl H' => H' = H ∧ ∃ us vs acc, n = us.length + vs.length ∧ sl = [some (.glob 67), some (chV us), some (chV vs), some (chV acc), none] ∧ acc.reverse ++ mg tens us vs = mg tens xs ys) ?_ ⟨rfl, xs, ys, [], rfl, rfl, rfl⟩
  rintro n sl H' ⟨rfl, us, vs, acc, hn, rfl, he⟩ R rn rr
  ((try dsimp only [d_skip, d_seq, d_set, d_aug, d_drop, d_if, d_ret, d_setR, d_aTupR, d_aName, d_k, d_var, d_bin, d_onI, d_mod, d_div, d_addI, d_tv, d_and, d_or, d_nil, d_cons, d_list, d_tup, d_call, d_meth, d_onone, d_osome, d_slice, d_append, d_mul, d_is, d_mkEI, d_slot, d_mkTI, d_idxX, d_kGlob2, List.getElem?_cons_zero, List.getElem?_cons_succ, List.set_cons_zero, List.set_cons_succ, List.length_cons, List.length_nil, List.nil_append, List.cons_append, e_setAll, e_clsO, id, Option.isSome_some, if_true, if_false]); (try simp only [e_idxX, e_kGlob2, e_lenS, e_gSlotO0, e_gSlotO1, e_mkEI, e_slot, e_mul, e_is, true_and, and_true, ne_eq, not_false_eq_true, Int.reduceEq, Nat.reduceLeDiff, Nat.reduceLT, reduceIte, Option.isSome_some, reduceCtorEq, Int.reduceBEq, Int.reduceNeg, Int.reduceLT, Nat.reduceAdd, Bool.false_eq_true, Bool.not_true, Bool.not_false, if_true, if_false, e_skip, isN, id, e_mkTI, e_addI, e_drop, e_append, e_seq, e_setR, e_list, e_tup, e_cons, e_meth, e_var, e_nil, e_k, e_set, e_aug, e_bin, e_mod, e_div, e_if, e_ret, e_and, e_or, e_tv, e_onI, e_call, e_aTupR, e_aName, e_clsO, e_onone, e_osome, e_slice, List.getElem?_cons_zero, List.getElem?_cons_succ, List.set_cons_zero, List.set_cons_succ, List.length_cons, List.length_nil, List.reverse_cons, List.reverse_nil, List.nil_append, List.cons_append, e_setAll, e_setAll0, asL_loc, is_nil hg]))
  have go : us ≠ [] ∨ vs ≠ [] → mergedB_b1 c [some (.glob 67), some (chV us), some (chV vs), some (chV acc), none] H' R := fun h =>
    merged_b1 hg h fun us' vs' acc' h1 h2 => rn (us'.length + vs'.length) _ _ (hn.trans h1) ⟨rfl, us', vs', acc', rfl, rfl, h2.trans he⟩
  by_cases h1 : us = []
  · rw [if_neg (by simp [h1])]
    by_cases h2 : vs = []
    · rw [if_neg (by simp [h2])]
      subst h1 h2
      rw [mg_nil_l, List.append_nil] at he
      exact merged_end hg fun _ => by rw [he]; exact q
    · rw [if_pos (by simp [h2])]
      exact go (.inr h2)
  · rw [if_pos (by simp [h1])]
    exact go (.inl h1)
/-! ### one round of merging -/
noncomputable def pmR : List (List Int) → List (List Int)
  | a :: b :: r => mg tens a b :: pmR r
  | [] => []
  | [_] => []
theorem pmR_len : ∀ L : List (List Int), (pmR L).length = L.length / 2
  | [] => by simp [pmR]
  | [_] => by simp [pmR]
  | a :: b :: r => by
    have := pmR_len r
    simp only [pmR, List.length_cons, this]; (first | lia | omega)
theorem pmR_at : ∀ (L : List (List Int)) (n : Nat), 2 * n + 1 < L.length → ∃ a b, L[2 * n]? = some a ∧ L[2 * n + 1]? = some b ∧ (pmR L)[n]? = some (mg tens a b)
  | [], n, h => by simp at h
  | [_], n, h => by simp at h
  | a :: b :: r, 0, h => ⟨a, b, rfl, rfl, rfl⟩
  | a :: b :: r, n + 1, h => by
    obtain ⟨x, y, h1, h2, h3⟩ := pmR_at r n (by simp at h; (first | lia | omega))
    exact ⟨x, y, by rw [show 2 * (n + 1) = 2 * n + 1 + 1 by (first | lia | omega)]; simpa using h1, by rw [show 2 * (n + 1) + 1 = 2 * n + 1 + 1 + 1 by (first | lia | omega)]; simpa using h2, by simpa [pmR] using h3⟩
noncomputable def rd (L : List (List Int)) : List (List Int) := pmR L ++ L.drop (2 * (pmR L).length)
theorem rd_two (a b : List Int) (r : List (List Int)) : rd (a :: b :: r) = mg tens a b :: rd r := by
  unfold rd
  simp only [pmR, List.length_cons, List.cons_append]
  rw [show 2 * ((pmR r).length + 1) = 2 * (pmR r).length + 1 + 1 by (first | lia | omega)]
  simp
theorem rd_len : ∀ L : List (List Int), (rd L).length = L.length - L.length / 2 := by
  intro L
  unfold rd
  rw [List.length_append, List.length_drop, pmR_len]; (first | lia | omega)
noncomputable def SrtL (L : List (List Int)) : Prop := ∀ l ∈ L, l.Pairwise (fun a b => tens a ≤ tens b)
theorem rd_srt : ∀ L : List (List Int), SrtL L → SrtL (rd L) ∧ ∀ k, (rd L).flatten.filter (fun z => decide (tens z = k)) = L.flatten.filter (fun z => decide (tens z = k))
  | [], h => ⟨h, fun _ => rfl⟩
  | [x], h => ⟨h, fun _ => rfl⟩
  | a :: b :: r, h => by
    obtain ⟨h1, h2⟩ := rd_srt r fun l hl => h l (.tail _ (.tail _ hl))
    rw [rd_two]
    refine ⟨fun l hl => ?_, fun k => ?_⟩
    · rcases List.mem_cons.mp hl with rfl | hl
      · exact mg_sorted _ _ (h a (.head _)) (h b (.tail _ (.head _)))
      · exact h1 l hl
    · rw [List.flatten_cons, List.flatten_cons, List.flatten_cons, List.filter_append, List.filter_append, List.filter_append, h2, mg_filter k _ _ (h a (.head _)), List.append_assoc]
theorem range2 (m : Nat) (hm : 1 ≤ m) : rangeL 0 ((m : Int) - 1) 2 = (List.range (m / 2)).map fun i => natV (2 * i) := by
  unfold rangeL
  have : (Builtin.Range.rangeSize 0 ((m : Int) - 1) 2).toNat = m / 2 := by
    unfold Builtin.Range.rangeSize
    simp only [show ((2 : Int) > 0) = True by simp, if_true]
    split <;> (first | lia | omega)
  rw [this]
  apply List.map_congr_left
  intro i _
  congr 1
  push_cast
  (first | lia | omega)
theorem round_ok {L : List (List Int)} {kC kE N st : Nat} {y0 y1 y2 y3 x7 x8 y9 y10 : Option V} {R : Fl → Sl → HW → Prop} (hC : lstAt H kC = some (L.map chV)) (hE : lstAt H kE = some (List.replicate N (.glob 67))) (hN : N ≤ 1000) (h2 : 2 ≤ L.length) (hst : st + L.length ≤ N)
    (r : ∀ H' kC' x7 x8, KeepP (· < H.length) H H' → lstAt H' kC' = some ((rd L).map chV) → R .next [y0, y1, y2, y3, some (.loc kE), some (.loc kC'), some (natV (st + L.length / 2)), x7, x8, y9, y10] H') :
    lawB09_b2 c mergedW [y0, y1, y2, y3, some (.loc kE), some (.loc kC), some (natV st), x7, x8, y9, y10] H R := by
  unfold lawB09_b2
  ((try dsimp only [d_skip, d_seq, d_set, d_aug, d_drop, d_if, d_ret, d_setR, d_aTupR, d_aName, d_k, d_var, d_bin, d_onI, d_mod, d_div, d_addI, d_tv, d_and, d_or, d_nil, d_cons, d_list, d_tup, d_call, d_meth, d_onone, d_osome, d_slice, d_append, d_mul, d_is, d_mkEI, d_slot, d_mkTI, d_idxX, d_kGlob2, List.getElem?_cons_zero, List.getElem?_cons_succ, List.set_cons_zero, List.set_cons_succ, List.length_cons, List.length_nil, List.nil_append, List.cons_append, e_setAll, e_clsO, id, Option.isSome_some, if_true, if_false]); (try simp only [e_idxX, e_kGlob2, e_lenS, e_gSlotO0, e_gSlotO1, e_mkEI, e_slot, e_mul, e_is, true_and, and_true, ne_eq, not_false_eq_true, Int.reduceEq, Nat.reduceLeDiff, Nat.reduceLT, reduceIte, Option.isSome_some, reduceCtorEq, Int.reduceBEq, Int.reduceNeg, Int.reduceLT, Nat.reduceAdd, Bool.false_eq_true, Bool.not_true, Bool.not_false, if_true, if_false, e_skip, isN, id, e_mkTI, e_addI, e_drop, e_append, e_seq, e_setR, e_list, e_tup, e_cons, e_meth, e_var, e_nil, e_k, e_set, e_aug, e_bin, e_mod, e_div, e_if, e_ret, e_and, e_or, e_tv, e_onI, e_call, e_aTupR, e_aName, e_clsO, e_onone, e_osome, e_slice, List.getElem?_cons_zero, List.getElem?_cons_succ, List.set_cons_zero, List.set_cons_succ, List.length_cons, List.length_nil, List.reverse_cons, List.reverse_nil, List.nil_append, List.cons_append, e_setAll, e_setAll0, asL_loc]))
  have hC1 : lstAt (H ++ [.list []]) kC = some (L.map chV) := lstAt_ext hC
  rw [e_for, e_iRange3]
  ((try dsimp only [d_skip, d_seq, d_set, d_aug, d_drop, d_if, d_ret, d_setR, d_aTupR, d_aName, d_k, d_var, d_bin, d_onI, d_mod, d_div, d_addI, d_tv, d_and, d_or, d_nil, d_cons, d_list, d_tup, d_call, d_meth, d_onone, d_osome, d_slice, d_append, d_mul, d_is, d_mkEI, d_slot, d_mkTI, d_idxX, d_kGlob2, List.getElem?_cons_zero, List.getElem?_cons_succ, List.set_cons_zero, List.set_cons_succ, List.length_cons, List.length_nil, List.nil_append, List.cons_append, e_setAll, e_clsO, id, Option.isSome_some, if_true, if_false]); (try simp only [e_idxX, e_kGlob2, e_lenS, e_gSlotO0, e_gSlotO1, e_mkEI, e_slot, e_mul, e_is, true_and, and_true, ne_eq, not_false_eq_true, Int.reduceEq, Nat.reduceLeDiff, Nat.reduceLT, reduceIte, Option.isSome_some, reduceCtorEq, Int.reduceBEq, Int.reduceNeg, Int.reduceLT, Nat.reduceAdd, Bool.false_eq_true, Bool.not_true, Bool.not_false, if_true, if_false, e_skip, isN, id, e_mkTI, e_addI, e_drop, e_append, e_seq, e_setR, e_list, e_tup, e_cons, e_meth, e_var, e_nil, e_k, e_set, e_aug, e_bin, e_mod, e_div, e_if, e_ret, e_and, e_or, e_tv, e_onI, e_call, e_aTupR, e_aName, e_clsO, e_onone, e_osome, e_slice, List.getElem?_cons_zero, List.getElem?_cons_succ, List.set_cons_zero, List.set_cons_succ, List.length_cons, List.length_nil, List.reverse_cons, List.reverse_nil, List.nil_append, List.cons_append, e_setAll, e_setAll0, asL_loc, e_len hC1, List.length_map]))
  refine ⟨by (first | lia | omega), ⟨by (first | lia | omega), by (first | lia | omega)⟩, ?_⟩
  show wForGo c.ns (.walk (rangeL 0 ((L.length : Int) - 1) 2)) (aName 8) (lawB09_b1 c mergedW) (rangeL 0 ((L.length : Int) - 1) 2) _ _ _
  rw [range2 _ (by (first | lia | omega))]
  refine for_inv (I := fun n sl H' => n ≤ L.length / 2 ∧ (∃ x8, sl = [y0, y1, y2, y3, some (.loc kE), some (.loc kC), some (natV (st + n)), some (.loc H.length), x8, y9, y10]) ∧ KeepP (· < H.length) H H' ∧ lstAt H' H.length = some (((pmR L).take n).map chV)) ?inv ?step ?fin ⟨Nat.zero_le _, ⟨_, rfl⟩, Ext.keepP .app, lstAt_new⟩
  case inv => exact fun _ _ _ _ => trivial
  case step =>
    rintro n v sl H' hv ⟨hn, ⟨x8, rfl⟩, kp, hm⟩ R' rn
    rw [List.getElem?_map] at hv
    obtain ⟨i, hi, rfl⟩ := Option.map_eq_some_iff.mp hv
    obtain ⟨hi1, hi2⟩ := List.getElem?_eq_some_iff.mp hi
    simp at hi1 hi2
    subst hi2
    obtain ⟨a, b, ha, hb, hab⟩ := pmR_at L n (by (first | lia | omega))
    have hkC : kC < H.length := lstAt_lt hC
    have hkE : kE < H.length := lstAt_lt hE
    have hC' := kp.lst hkC hC
    have hE' := kp.lst hkE hE
    ((try dsimp only [d_skip, d_seq, d_set, d_aug, d_drop, d_if, d_ret, d_setR, d_aTupR, d_aName, d_k, d_var, d_bin, d_onI, d_mod, d_div, d_addI, d_tv, d_and, d_or, d_nil, d_cons, d_list, d_tup, d_call, d_meth, d_onone, d_osome, d_slice, d_append, d_mul, d_is, d_mkEI, d_slot, d_mkTI, d_idxX, d_kGlob2, List.getElem?_cons_zero, List.getElem?_cons_succ, List.set_cons_zero, List.set_cons_succ, List.length_cons, List.length_nil, List.nil_append, List.cons_append, e_setAll, e_clsO, id, Option.isSome_some, if_true, if_false, lawB09_b1]); (try simp only [e_idxX, e_kGlob2, e_lenS, e_gSlotO0, e_gSlotO1, e_mkEI, e_slot, e_mul, e_is, true_and, and_true, ne_eq, not_false_eq_true, Int.reduceEq, Nat.reduceLeDiff, Nat.reduceLT, reduceIte, Option.isSome_some, reduceCtorEq, Int.reduceBEq, Int.reduceNeg, Int.reduceLT, Nat.reduceAdd, Bool.false_eq_true, Bool.not_true, Bool.not_false, if_true, if_false, e_skip, isN, id, e_mkTI, e_addI, e_drop, e_append, e_seq, e_setR, e_list, e_tup, e_cons, e_meth, e_var, e_nil, e_k, e_set, e_aug, e_bin, e_mod, e_div, e_if, e_ret, e_and, e_or, e_tv, e_onI, e_call, e_aTupR, e_aName, e_clsO, e_onone, e_osome, e_slice, List.getElem?_cons_zero, List.getElem?_cons_succ, List.set_cons_zero, List.set_cons_succ, List.length_cons, List.length_nil, List.reverse_cons, List.reverse_nil, List.nil_append, List.cons_append, e_setAll, e_setAll0, asL_loc, lawB09_b1]))
    refine ⟨by rw [hm]; rfl, ?_⟩
    refine idx_nat hE' (by simp; (first | lia | omega)) (u := .glob 67) (by rw [List.getElem?_replicate, if_pos (by (first | lia | omega))]) ?_
    refine idx_nat hC' (by simp; (first | lia | omega)) (u := chV a) (by rw [List.getElem?_map, ha]; rfl) ?_
    rw [show ((2 * n : Nat) : Int) + 1 = ((2 * n + 1 : Nat) : Int) by (first | lia | omega)]
    refine idx_nat hC' (by simp; (first | lia | omega)) (u := chV b) (by rw [List.getElem?_map, hb]; rfl) ?_
    refine ⟨a, b, rfl, ?_⟩
    dsimp only
    rw [hm]
    refine ⟨by simp; (first | lia | omega), ?_⟩
    rw [show ((st + n : Nat) : Int) + 1 = ((st + (n + 1) : Nat) : Int) by (first | lia | omega)]
    refine rn _ _ ⟨by (first | lia | omega), ⟨_, rfl⟩, kp.trans (KeepP.set (by (first | lia | omega))), ?_⟩
    rw [lstAt_set (lstAt_lt hm), List.take_add_one, hab]
    simp
  case fin =>
    rintro sl H' ⟨hn, ⟨x8, rfl⟩, kp, hm⟩
    rw [List.length_map, List.length_range] at hm ⊢
    rw [List.take_of_length_le (by rw [pmR_len]; exact Nat.le_refl _)] at hm
    have hC' := kp.lst (lstAt_lt hC) hC
    ((try dsimp only [d_skip, d_seq, d_set, d_aug, d_drop, d_if, d_ret, d_setR, d_aTupR, d_aName, d_k, d_var, d_bin, d_onI, d_mod, d_div, d_addI, d_tv, d_and, d_or, d_nil, d_cons, d_list, d_tup, d_call, d_meth, d_onone, d_osome, d_slice, d_append, d_mul, d_is, d_mkEI, d_slot, d_mkTI, d_idxX, d_kGlob2, List.getElem?_cons_zero, List.getElem?_cons_succ, List.set_cons_zero, List.set_cons_succ, List.length_cons, List.length_nil, List.nil_append, List.cons_append, e_setAll, e_clsO, id, Option.isSome_some, if_true, if_false]); (try simp only [e_idxX, e_kGlob2, e_lenS, e_gSlotO0, e_gSlotO1, e_mkEI, e_slot, e_mul, e_is, true_and, and_true, ne_eq, not_false_eq_true, Int.reduceEq, Nat.reduceLeDiff, Nat.reduceLT, reduceIte, Option.isSome_some, reduceCtorEq, Int.reduceBEq, Int.reduceNeg, Int.reduceLT, Nat.reduceAdd, Bool.false_eq_true, Bool.not_true, Bool.not_false, if_true, if_false, e_skip, isN, id, e_mkTI, e_addI, e_drop, e_append, e_seq, e_setR, e_list, e_tup, e_cons, e_meth, e_var, e_nil, e_k, e_set, e_aug, e_bin, e_mod, e_div, e_if, e_ret, e_and, e_or, e_tv, e_onI, e_call, e_aTupR, e_aName, e_clsO, e_onone, e_osome, e_slice, List.getElem?_cons_zero, List.getElem?_cons_succ, List.set_cons_zero, List.set_cons_succ, List.length_cons, List.length_nil, List.reverse_cons, List.reverse_nil, List.nil_append, List.cons_append, e_setAll, e_setAll0, asL_loc, e_len hm, hC', List.length_map]))
    have hpl := pmR_len L
    refine ⟨by (first | lia | omega), IntMulOk.of_left (by decide), by (first | lia | omega), ?_⟩
    refine addL_k (lstAt_ext hm) lstAt_new (by
      have : (2 * ((pmR L).length : Int)) = ((2 * (pmR L).length : Nat) : Int) := by (first | lia | omega)
      rw [this, sliceV_drop]; simp; (first | lia | omega)) fun m H2 x2 y2 _ => ?_
    refine r _ _ _ _ (kp.trans (Ext.keepP (Ext.app.trans x2))) ?_
    have : (2 * ((pmR L).length : Int)) = ((2 * (pmR L).length : Nat) : Int) := by (first | lia | omega)
    rw [y2, this, sliceV_drop]
    unfold rd
    rw [List.map_append, List.map_drop]
theorem comp_gen_map {ns : List Int} {sl : Sl} {a : WE} {xs : List V} {e : WE} {is : List Nat} {f : V → V} {Q : V → HW → Prop} (ha : ∀ R : V → HW → Prop, (∀ k H', Ext H H' → lstAt H' k = some xs → R (.loc k) H') → a sl H R) (hm : xs.length ≤ 1000)
    (he : ∀ v ∈ xs, ∀ H', Ext H H' → ∀ R : V → HW → Prop, R (f v) H' → e (some v :: fvOf sl is) H' R) (q : ∀ k' H', Ext H H' → lstAt H' k' = some (xs.map f) → H.length ≤ k' → Q (.loc k') H') : wComp ns (iList ns a) is tTrue e sl H Q := by
  rw [e_wComp, e_iList]
  refine ha _ fun k H' x y => ?_
  rw [asL_loc, y]
  refine ⟨by show xs.length ≤ 100000; (first | lia | omega), comp_map (by exact y) _ (fun v mv R r => he v mv H' x R r) (q _ _ (x.trans .app) lstAt_new x.len)⟩
theorem flat1 (l : List Int) : (l.map fun z => [z]).flatten = l := by
  induction l with
  | nil => rfl
  | cons x l ih => simp only [List.map_cons, List.flatten_cons, ih]; rfl
theorem ints_lay (r : List Int) : PyData.canLayAll0 (r.map .int) = true ∧ PyData.depthAll (r.map .int) ≤ 1 := by
  induction r with
  | nil => exact ⟨rfl, by simp [PyData.depthAll]⟩
  | cons x r ih =>
    rw [List.map_cons]
    exact ⟨by rw [PyData.canLayAll0, ih.1]; rfl, by rw [PyData.depthAll]; have := ih.2; simp [PyData.depth]; (first | lia | omega)⟩
theorem rd_flen : ∀ L : List (List Int), (rd L).flatten.length = L.flatten.length
  | [] => rfl
  | [x] => rfl
  | a :: b :: r => by
    rw [rd_two, List.flatten_cons, List.flatten_cons, List.flatten_cons, List.length_append, List.length_append, List.length_append, mg_len, rd_flen r]; (first | lia | omega)
theorem law09_end (hg : c.gC 67 = some (0, 2)) (hn : c.ns.length ≤ 63) {nums row : List Int} {iI iM kR : Nat} {y2 y4 y5 y6 y7 y8 : Option V} {Q : Fl → Sl → HW → Prop} (q : ∀ sl (H' : HW), H'[0]? = some (.tab 3) → Q (.ret (.bool true)) sl H')
    (h0 : H[0]? = some (.tab 0)) (hI : lstAt H iI = some [.obj 1 [.none], .obj 1 [.str (Str.ofString "")], .obj 1 [.str (Str.ofString "p:x")], .obj 1 [.int c.ns.length]]) (hM : lstAt H iM = some (nums.map .int)) (hR : lstAt H kR = some (row.map .int)) (nl : nums.length = c.ns.length + 6)
    (hrs : row.Pairwise (fun a b => tens a ≤ tens b)) (hrf : ∀ k, row.filter (fun z => decide (tens z = k)) = nums.filter (fun z => decide (tens z = k))) :
    lawR10 c mergedW [some .script, some (.loc iI), y2, some (.loc iM), y4, y5, y6, y7, y8, some (.glob 67), some (.loc kR)] H Q := by
  ((try dsimp only [d_skip, d_seq, d_set, d_aug, d_drop, d_if, d_ret, d_setR, d_aTupR, d_aName, d_k, d_var, d_bin, d_onI, d_mod, d_div, d_addI, d_tv, d_and, d_or, d_nil, d_cons, d_list, d_tup, d_call, d_meth, d_onone, d_osome, d_slice, d_append, d_mul, d_is, d_mkEI, d_slot, d_mkTI, d_idxX, d_kGlob2, List.getElem?_cons_zero, List.getElem?_cons_succ, List.set_cons_zero, List.set_cons_succ, List.length_cons, List.length_nil, List.nil_append, List.cons_append, e_setAll, e_clsO, id, Option.isSome_some, if_true, if_false, lawR10]); (try simp only [e_idxX, e_kGlob2, e_lenS, e_gSlotO0, e_gSlotO1, e_mkEI, e_slot, e_mul, e_is, true_and, and_true, ne_eq, not_false_eq_true, Int.reduceEq, Nat.reduceLeDiff, Nat.reduceLT, reduceIte, Option.isSome_some, reduceCtorEq, Int.reduceBEq, Int.reduceNeg, Int.reduceLT, Nat.reduceAdd, Bool.false_eq_true, Bool.not_true, Bool.not_false, if_true, if_false, e_skip, isN, id, e_mkTI, e_addI, e_drop, e_append, e_seq, e_setR, e_list, e_tup, e_cons, e_meth, e_var, e_nil, e_k, e_set, e_aug, e_bin, e_mod, e_div, e_if, e_ret, e_and, e_or, e_tv, e_onI, e_call, e_aTupR, e_aName, e_clsO, e_onone, e_osome, e_slice, List.getElem?_cons_zero, List.getElem?_cons_succ, List.set_cons_zero, List.set_cons_succ, List.length_cons, List.length_nil, List.reverse_cons, List.reverse_nil, List.nil_append, List.cons_append, e_setAll, e_setAll0, asL_loc, lawR10]))
  unfold wSortK
  ((try dsimp only [d_skip, d_seq, d_set, d_aug, d_drop, d_if, d_ret, d_setR, d_aTupR, d_aName, d_k, d_var, d_bin, d_onI, d_mod, d_div, d_addI, d_tv, d_and, d_or, d_nil, d_cons, d_list, d_tup, d_call, d_meth, d_onone, d_osome, d_slice, d_append, d_mul, d_is, d_mkEI, d_slot, d_mkTI, d_idxX, d_kGlob2, List.getElem?_cons_zero, List.getElem?_cons_succ, List.set_cons_zero, List.set_cons_succ, List.length_cons, List.length_nil, List.nil_append, List.cons_append, e_setAll, e_clsO, id, Option.isSome_some, if_true, if_false]); (try simp only [e_idxX, e_kGlob2, e_lenS, e_gSlotO0, e_gSlotO1, e_mkEI, e_slot, e_mul, e_is, true_and, and_true, ne_eq, not_false_eq_true, Int.reduceEq, Nat.reduceLeDiff, Nat.reduceLT, reduceIte, Option.isSome_some, reduceCtorEq, Int.reduceBEq, Int.reduceNeg, Int.reduceLT, Nat.reduceAdd, Bool.false_eq_true, Bool.not_true, Bool.not_false, if_true, if_false, e_skip, isN, id, e_mkTI, e_addI, e_drop, e_append, e_seq, e_setR, e_list, e_tup, e_cons, e_meth, e_var, e_nil, e_k, e_set, e_aug, e_bin, e_mod, e_div, e_if, e_ret, e_and, e_or, e_tv, e_onI, e_call, e_aTupR, e_aName, e_clsO, e_onone, e_osome, e_slice, List.getElem?_cons_zero, List.getElem?_cons_succ, List.set_cons_zero, List.set_cons_succ, List.length_cons, List.length_nil, List.reverse_cons, List.reverse_nil, List.nil_append, List.cons_append, e_setAll, e_setAll0, asL_loc]))
  refine ⟨iM, nums, rfl, hM, by (first | lia | omega), h0, fun ys p1 p2 => ?_⟩
  have ey : ys = row := stable_uniq (κ := tens) p1 hrs fun k => (p2 k).trans (hrf k).symm
  subst ey
  have k8 : KeepP (fun k => k ≠ 0) H (H.set 0 (.tab 3)) := KeepP.set (by simp)
  have kR0 : kR ≠ 0 := by
    intro e
    subst e
    rw [lstAt_of hR] at h0
    cases h0
  have hR8 : lstAt (H.set 0 (.tab 3) ++ [.list (ys.map .int)]) kR = some (ys.map .int) := lstAt_ext (k8.lst kR0 hR)
  have hN8 : lstAt (H.set 0 (.tab 3) ++ [.list (ys.map .int)]) H.length = some (ys.map .int) := by
    have := lstAt_new (H := H.set 0 (.tab 3)) (xs := ys.map .int)
    rw [List.length_set] at this
    exact this
  have iI0 : iI ≠ 0 := by
    intro e
    subst e
    rw [lstAt_of hI] at h0
    cases h0
  have hI8 : lstAt (H.set 0 (.tab 3) ++ [.list (ys.map .int)]) iI = some [.obj 1 [.none], .obj 1 [.str (Str.ofString "")], .obj 1 [.str (Str.ofString "p:x")], .obj 1 [.int c.ns.length]] := lstAt_ext (k8.lst iI0 hI)
  have h08 : (H.set 0 (.tab 3) ++ [.list (ys.map .int)])[0]? = some (.tab 3) := Ext.at .app (List.getElem?_set_self (List.getElem?_eq_some_iff.mp h0).1)
  generalize H.set 0 (.tab 3) ++ [.list (ys.map .int)] = H8 at hR8 hN8 hI8 h08 ⊢
  obtain ⟨o1, o2⟩ := ints_lay ys
  have cl : (PyData.list (ys.map .int)).canLay0 = true := by rw [PyData.canLay0]; exact o1
  have sh : SeqAt.shaped (.list (ys.map .int)) = true := by
    unfold SeqAt.shaped
    rw [cl, Bool.true_and, decide_eq_true_iff, PyData.depth]
    (first | lia | omega)
  refine ⟨_, _, .list (by rw [asL_loc]; exact hR8) (dvs_ints ys), .list (by rw [asL_loc]; exact hN8) (dvs_ints ys), ⟨sh, sh⟩, ?_⟩
  rw [eqv_self cl]
  dsimp only
  rw [if_neg (by decide)]
  have cg : ∀ H : HW, clsV c H (.glob 67) = some 0 := fun H => by simp [clsV, hg]
  have in_ : isV c .none .none = some true := rfl
  ((try dsimp only [d_skip, d_seq, d_set, d_aug, d_drop, d_if, d_ret, d_setR, d_aTupR, d_aName, d_k, d_var, d_bin, d_onI, d_mod, d_div, d_addI, d_tv, d_and, d_or, d_nil, d_cons, d_list, d_tup, d_call, d_meth, d_onone, d_osome, d_slice, d_append, d_mul, d_is, d_mkEI, d_slot, d_mkTI, d_idxX, d_kGlob2, List.getElem?_cons_zero, List.getElem?_cons_succ, List.set_cons_zero, List.set_cons_succ, List.length_cons, List.length_nil, List.nil_append, List.cons_append, e_setAll, e_clsO, id, Option.isSome_some, if_true, if_false, lawR11]); (try simp only [e_idxX, e_kGlob2, e_lenS, e_gSlotO0, e_gSlotO1, e_mkEI, e_slot, e_mul, e_is, true_and, and_true, ne_eq, not_false_eq_true, Int.reduceEq, Nat.reduceLeDiff, Nat.reduceLT, reduceIte, Option.isSome_some, reduceCtorEq, Int.reduceBEq, Int.reduceNeg, Int.reduceLT, Nat.reduceAdd, Bool.false_eq_true, Bool.not_true, Bool.not_false, if_true, if_false, e_skip, isN, id, e_mkTI, e_addI, e_drop, e_append, e_seq, e_setR, e_list, e_tup, e_cons, e_meth, e_var, e_nil, e_k, e_set, e_aug, e_bin, e_mod, e_div, e_if, e_ret, e_and, e_or, e_tv, e_onI, e_call, e_aTupR, e_aName, e_clsO, e_onone, e_osome, e_slice, List.getElem?_cons_zero, List.getElem?_cons_succ, List.set_cons_zero, List.set_cons_succ, List.length_cons, List.length_nil, List.reverse_cons, List.reverse_nil, List.nil_append, List.cons_append, e_setAll, e_setAll0, asL_loc, lawR11]))
  refine ⟨cg _, ?_⟩
  rw [e_gSlotG hg (by decide)]
  ((try dsimp only [d_skip, d_seq, d_set, d_aug, d_drop, d_if, d_ret, d_setR, d_aTupR, d_aName, d_k, d_var, d_bin, d_onI, d_mod, d_div, d_addI, d_tv, d_and, d_or, d_nil, d_cons, d_list, d_tup, d_call, d_meth, d_onone, d_osome, d_slice, d_append, d_mul, d_is, d_mkEI, d_slot, d_mkTI, d_idxX, d_kGlob2, List.getElem?_cons_zero, List.getElem?_cons_succ, List.set_cons_zero, List.set_cons_succ, List.length_cons, List.length_nil, List.nil_append, List.cons_append, e_setAll, e_clsO, id, Option.isSome_some, if_true, if_false]); (try simp only [e_idxX, e_kGlob2, e_lenS, e_gSlotO0, e_gSlotO1, e_mkEI, e_slot, e_mul, e_is, true_and, and_true, ne_eq, not_false_eq_true, Int.reduceEq, Nat.reduceLeDiff, Nat.reduceLT, reduceIte, Option.isSome_some, reduceCtorEq, Int.reduceBEq, Int.reduceNeg, Int.reduceLT, Nat.reduceAdd, Bool.false_eq_true, Bool.not_true, Bool.not_false, if_true, if_false, e_skip, isN, id, e_mkTI, e_addI, e_drop, e_append, e_seq, e_setR, e_list, e_tup, e_cons, e_meth, e_var, e_nil, e_k, e_set, e_aug, e_bin, e_mod, e_div, e_if, e_ret, e_and, e_or, e_tv, e_onI, e_call, e_aTupR, e_aName, e_clsO, e_onone, e_osome, e_slice, List.getElem?_cons_zero, List.getElem?_cons_succ, List.set_cons_zero, List.set_cons_succ, List.length_cons, List.length_nil, List.reverse_cons, List.reverse_nil, List.nil_append, List.cons_append, e_setAll, e_setAll0, asL_loc, in_]))
  refine ⟨cg _, ?_⟩
  rw [e_gSlotG hg (by decide)]
  ((try dsimp only [d_skip, d_seq, d_set, d_aug, d_drop, d_if, d_ret, d_setR, d_aTupR, d_aName, d_k, d_var, d_bin, d_onI, d_mod, d_div, d_addI, d_tv, d_and, d_or, d_nil, d_cons, d_list, d_tup, d_call, d_meth, d_onone, d_osome, d_slice, d_append, d_mul, d_is, d_mkEI, d_slot, d_mkTI, d_idxX, d_kGlob2, List.getElem?_cons_zero, List.getElem?_cons_succ, List.set_cons_zero, List.set_cons_succ, List.length_cons, List.length_nil, List.nil_append, List.cons_append, e_setAll, e_clsO, id, Option.isSome_some, if_true, if_false, lawR12]); (try simp only [e_idxX, e_kGlob2, e_lenS, e_gSlotO0, e_gSlotO1, e_mkEI, e_slot, e_mul, e_is, true_and, and_true, ne_eq, not_false_eq_true, Int.reduceEq, Nat.reduceLeDiff, Nat.reduceLT, reduceIte, Option.isSome_some, reduceCtorEq, Int.reduceBEq, Int.reduceNeg, Int.reduceLT, Nat.reduceAdd, Bool.false_eq_true, Bool.not_true, Bool.not_false, if_true, if_false, e_skip, isN, id, e_mkTI, e_addI, e_drop, e_append, e_seq, e_setR, e_list, e_tup, e_cons, e_meth, e_var, e_nil, e_k, e_set, e_aug, e_bin, e_mod, e_div, e_if, e_ret, e_and, e_or, e_tv, e_onI, e_call, e_aTupR, e_aName, e_clsO, e_onone, e_osome, e_slice, List.getElem?_cons_zero, List.getElem?_cons_succ, List.set_cons_zero, List.set_cons_succ, List.length_cons, List.length_nil, List.reverse_cons, List.reverse_nil, List.nil_append, List.cons_append, e_setAll, e_setAll0, asL_loc, in_, lawR12]))
  refine comp_lst_map (k := iI) (xs := [.obj 1 [.none], .obj 1 [.str (Str.ofString "")], .obj 1 [.str (Str.ofString "p:x")], .obj 1 [.int c.ns.length]]) (f := fun v => match v with | .obj 1 [a] => a | v => v) (fun R r => r) hI8 (by simp) (fun v mv R r => ?_) ?_
  · obtain ⟨a, rfl⟩ : ∃ a, v = .obj 1 [a] := by
      simp at mv
      rcases mv with rfl | rfl | rfl | rfl <;> exact ⟨_, rfl⟩
    ((try dsimp only [d_skip, d_seq, d_set, d_aug, d_drop, d_if, d_ret, d_setR, d_aTupR, d_aName, d_k, d_var, d_bin, d_onI, d_mod, d_div, d_addI, d_tv, d_and, d_or, d_nil, d_cons, d_list, d_tup, d_call, d_meth, d_onone, d_osome, d_slice, d_append, d_mul, d_is, d_mkEI, d_slot, d_mkTI, d_idxX, d_kGlob2, List.getElem?_cons_zero, List.getElem?_cons_succ, List.set_cons_zero, List.set_cons_succ, List.length_cons, List.length_nil, List.nil_append, List.cons_append, e_setAll, e_clsO, id, Option.isSome_some, if_true, if_false]); (try simp only [e_idxX, e_kGlob2, e_lenS, e_gSlotO0, e_gSlotO1, e_mkEI, e_slot, e_mul, e_is, true_and, and_true, ne_eq, not_false_eq_true, Int.reduceEq, Nat.reduceLeDiff, Nat.reduceLT, reduceIte, Option.isSome_some, reduceCtorEq, Int.reduceBEq, Int.reduceNeg, Int.reduceLT, Nat.reduceAdd, Bool.false_eq_true, Bool.not_true, Bool.not_false, if_true, if_false, e_skip, isN, id, e_mkTI, e_addI, e_drop, e_append, e_seq, e_setR, e_list, e_tup, e_cons, e_meth, e_var, e_nil, e_k, e_set, e_aug, e_bin, e_mod, e_div, e_if, e_ret, e_and, e_or, e_tv, e_onI, e_call, e_aTupR, e_aName, e_clsO, e_onone, e_osome, e_slice, List.getElem?_cons_zero, List.getElem?_cons_succ, List.set_cons_zero, List.set_cons_succ, List.length_cons, List.length_nil, List.reverse_cons, List.reverse_nil, List.nil_append, List.cons_append, e_setAll, e_setAll0, asL_loc, slotV]))
    exact r
  intro k9 H9 e9 y9 _
  have cl2 : (PyData.list [.none, .str (Str.ofString ""), .str (Str.ofString "p:x"), .int c.ns.length]).canLay0 = true := by
    have t1 : PyData.canLay0 (.str (Str.ofString "p:x")) = true := by decide +kernel
    have t2 : PyData.canLay0 (.str (Str.ofString "")) = true := by decide +kernel
    rw [PyData.canLay0, PyData.canLayAll0, PyData.canLayAll0, t2, PyData.canLayAll0, t1]; rfl
  have sh2 : SeqAt.shaped (.list [.none, .str (Str.ofString ""), .str (Str.ofString "p:x"), .int c.ns.length]) = true := by
    unfold SeqAt.shaped
    rw [cl2, Bool.true_and, decide_eq_true_iff]
    simp [PyData.depth, PyData.depthAll]
  refine ⟨by (first | lia | omega), _, _, .list (by rw [asL_loc]; exact lstAt_ext y9) (.cons .none (.cons .str (.cons .str (.cons .int .nil)))), .list (by rw [asL_loc]; exact lstAt_new) (.cons .none (.cons .str (.cons .str (.cons .int .nil)))), ⟨sh2, sh2⟩, ?_⟩
  rw [eqv_self cl2]
  exact q _ _ (Ext.at .app (e9.at h08))
theorem law09_read (hg : c.gC 67 = some (0, 2)) (hn : c.ns.length ≤ 63) {nums row : List Int} {iI iM kC : Nat} {y2 y4 y6 y7 y8 y9 y10 : Option V} {Q : Fl → Sl → HW → Prop} (q : ∀ sl (H' : HW), H'[0]? = some (.tab 3) → Q (.ret (.bool true)) sl H')
    (h0 : H[0]? = some (.tab 0)) (hI : lstAt H iI = some [.obj 1 [.none], .obj 1 [.str (Str.ofString "")], .obj 1 [.str (Str.ofString "p:x")], .obj 1 [.int c.ns.length]]) (hM : lstAt H iM = some (nums.map .int)) (hC : lstAt H kC = some [chV row]) (nl : nums.length = c.ns.length + 6) (hlen : row.length ≤ 100)
    (hrs : row.Pairwise (fun a b => tens a ≤ tens b)) (hrf : ∀ k, row.filter (fun z => decide (tens z = k)) = nums.filter (fun z => decide (tens z = k))) :
    lawR8 c mergedW [some .script, some (.loc iI), y2, some (.loc iM), y4, some (.loc kC), y6, y7, y8, y9, y10] H Q := by
  ((try dsimp only [d_skip, d_seq, d_set, d_aug, d_drop, d_if, d_ret, d_setR, d_aTupR, d_aName, d_k, d_var, d_bin, d_onI, d_mod, d_div, d_addI, d_tv, d_and, d_or, d_nil, d_cons, d_list, d_tup, d_call, d_meth, d_onone, d_osome, d_slice, d_append, d_mul, d_is, d_mkEI, d_slot, d_mkTI, d_idxX, d_kGlob2, List.getElem?_cons_zero, List.getElem?_cons_succ, List.set_cons_zero, List.set_cons_succ, List.length_cons, List.length_nil, List.nil_append, List.cons_append, e_setAll, e_clsO, id, Option.isSome_some, if_true, if_false, lawR8, lawR9]); (try simp only [e_idxX, e_kGlob2, e_lenS, e_gSlotO0, e_gSlotO1, e_mkEI, e_slot, e_mul, e_is, true_and, and_true, ne_eq, not_false_eq_true, Int.reduceEq, Nat.reduceLeDiff, Nat.reduceLT, reduceIte, Option.isSome_some, reduceCtorEq, Int.reduceBEq, Int.reduceNeg, Int.reduceLT, Nat.reduceAdd, Bool.false_eq_true, Bool.not_true, Bool.not_false, if_true, if_false, e_skip, isN, id, e_mkTI, e_addI, e_drop, e_append, e_seq, e_setR, e_list, e_tup, e_cons, e_meth, e_var, e_nil, e_k, e_set, e_aug, e_bin, e_mod, e_div, e_if, e_ret, e_and, e_or, e_tv, e_onI, e_call, e_aTupR, e_aName, e_clsO, e_onone, e_osome, e_slice, List.getElem?_cons_zero, List.getElem?_cons_succ, List.set_cons_zero, List.set_cons_succ, List.length_cons, List.length_nil, List.reverse_cons, List.reverse_nil, List.nil_append, List.cons_append, e_setAll, e_setAll0, asL_loc, lawR8, lawR9]))
  refine idx_nat (i := 0) hC (by simp) (u := chV row) rfl ?_
  refine while_ok (n := row.length) (fun n sl H' => ∃ don rest : List Int, rest.length = n ∧ don ++ rest = row ∧ sl = [some V.script, some (V.loc iI), y2, some (V.loc iM), y4, some (.loc kC), y6, y7, y8, some (chV rest), some (.loc H.length)] ∧ KeepP (· < H.length) H H' ∧ lstAt H' H.length = some (don.map .int)) ?_ ⟨[], row, rfl, rfl, rfl, Ext.keepP .app, lstAt_new⟩
  rintro n' sl H7 ⟨don, rest, m1, m2, rfl, kp7, hR⟩ R' rn' rr'
  cases rest with
  | cons z rest =>
    ((try dsimp only [d_skip, d_seq, d_set, d_aug, d_drop, d_if, d_ret, d_setR, d_aTupR, d_aName, d_k, d_var, d_bin, d_onI, d_mod, d_div, d_addI, d_tv, d_and, d_or, d_nil, d_cons, d_list, d_tup, d_call, d_meth, d_onone, d_osome, d_slice, d_append, d_mul, d_is, d_mkEI, d_slot, d_mkTI, d_idxX, d_kGlob2, List.getElem?_cons_zero, List.getElem?_cons_succ, List.set_cons_zero, List.set_cons_succ, List.length_cons, List.length_nil, List.nil_append, List.cons_append, e_setAll, e_clsO, id, Option.isSome_some, if_true, if_false, lawB09_b3, chV, isV]); (try simp only [e_idxX, e_kGlob2, e_lenS, e_gSlotO0, e_gSlotO1, e_mkEI, e_slot, e_mul, e_is, true_and, and_true, ne_eq, not_false_eq_true, Int.reduceEq, Nat.reduceLeDiff, Nat.reduceLT, reduceIte, Option.isSome_some, reduceCtorEq, Int.reduceBEq, Int.reduceNeg, Int.reduceLT, Nat.reduceAdd, Bool.false_eq_true, Bool.not_true, Bool.not_false, if_true, if_false, e_skip, isN, id, e_mkTI, e_addI, e_drop, e_append, e_seq, e_setR, e_list, e_tup, e_cons, e_meth, e_var, e_nil, e_k, e_set, e_aug, e_bin, e_mod, e_div, e_if, e_ret, e_and, e_or, e_tv, e_onI, e_call, e_aTupR, e_aName, e_clsO, e_onone, e_osome, e_slice, List.getElem?_cons_zero, List.getElem?_cons_succ, List.set_cons_zero, List.set_cons_succ, List.length_cons, List.length_nil, List.reverse_cons, List.reverse_nil, List.nil_append, List.cons_append, e_setAll, e_setAll0, asL_loc, lawB09_b3, chV, isV, hR]))
    refine ⟨by rw [← m2] at hlen; simp at hlen ⊢; (first | lia | omega), ?_⟩
    refine rn' rest.length _ _ (by simp at m1; (first | lia | omega)) ⟨don ++ [z], rest, rfl, by rw [← m2]; simp, rfl, kp7.trans (KeepP.set (by (first | lia | omega))), ?_⟩
    rw [lstAt_set (lstAt_lt hR)]; simp
  | nil =>
    ((try dsimp only [d_skip, d_seq, d_set, d_aug, d_drop, d_if, d_ret, d_setR, d_aTupR, d_aName, d_k, d_var, d_bin, d_onI, d_mod, d_div, d_addI, d_tv, d_and, d_or, d_nil, d_cons, d_list, d_tup, d_call, d_meth, d_onone, d_osome, d_slice, d_append, d_mul, d_is, d_mkEI, d_slot, d_mkTI, d_idxX, d_kGlob2, List.getElem?_cons_zero, List.getElem?_cons_succ, List.set_cons_zero, List.set_cons_succ, List.length_cons, List.length_nil, List.nil_append, List.cons_append, e_setAll, e_clsO, id, Option.isSome_some, if_true, if_false, chV, isV]); (try simp only [e_idxX, e_kGlob2, e_lenS, e_gSlotO0, e_gSlotO1, e_mkEI, e_slot, e_mul, e_is, true_and, and_true, ne_eq, not_false_eq_true, Int.reduceEq, Nat.reduceLeDiff, Nat.reduceLT, reduceIte, Option.isSome_some, reduceCtorEq, Int.reduceBEq, Int.reduceNeg, Int.reduceLT, Nat.reduceAdd, Bool.false_eq_true, Bool.not_true, Bool.not_false, if_true, if_false, e_skip, isN, id, e_mkTI, e_addI, e_drop, e_append, e_seq, e_setR, e_list, e_tup, e_cons, e_meth, e_var, e_nil, e_k, e_set, e_aug, e_bin, e_mod, e_div, e_if, e_ret, e_and, e_or, e_tv, e_onI, e_call, e_aTupR, e_aName, e_clsO, e_onone, e_osome, e_slice, List.getElem?_cons_zero, List.getElem?_cons_succ, List.set_cons_zero, List.set_cons_succ, List.length_cons, List.length_nil, List.reverse_cons, List.reverse_nil, List.nil_append, List.cons_append, e_setAll, e_setAll0, asL_loc, chV, isV]))
    rw [List.append_nil] at m2
    subst m2
    exact law09_end hg hn q (kp7.at_ 0 _ (List.getElem?_eq_some_iff.mp h0).1 h0) (kp7.lst (lstAt_lt hI) hI) (kp7.lst (lstAt_lt hM) hM) hR nl hrs hrf
theorem law09 (hg : c.gC 67 = some (0, 2)) (hn : c.ns.length ≤ 63) {Q : Fl → Sl → HW → Prop} (q : ∀ sl (H' : HW), H'[0]? = some (.tab 3) → Q (.ret (.bool true)) sl H') : lawB09 c mergedW [some .script, none, none, none, none, none, none, none, none, none, none] [.tab 0] Q := by
  unfold lawB09
  rw [e_seq, e_set]
  refine comp_gen_map (xs := [.none, .str (Str.ofString ""), .str (Str.ofString "p:x"), .int c.ns.length]) (f := fun v => .obj 1 [v]) (fun R r => ?_) (by simp) (fun v _ H' _ R r => ?_) ?_
  · ((try dsimp only [d_skip, d_seq, d_set, d_aug, d_drop, d_if, d_ret, d_setR, d_aTupR, d_aName, d_k, d_var, d_bin, d_onI, d_mod, d_div, d_addI, d_tv, d_and, d_or, d_nil, d_cons, d_list, d_tup, d_call, d_meth, d_onone, d_osome, d_slice, d_append, d_mul, d_is, d_mkEI, d_slot, d_mkTI, d_idxX, d_kGlob2, List.getElem?_cons_zero, List.getElem?_cons_succ, List.set_cons_zero, List.set_cons_succ, List.length_cons, List.length_nil, List.nil_append, List.cons_append, e_setAll, e_clsO, id, Option.isSome_some, if_true, if_false]); (try simp only [e_idxX, e_kGlob2, e_lenS, e_gSlotO0, e_gSlotO1, e_mkEI, e_slot, e_mul, e_is, true_and, and_true, ne_eq, not_false_eq_true, Int.reduceEq, Nat.reduceLeDiff, Nat.reduceLT, reduceIte, Option.isSome_some, reduceCtorEq, Int.reduceBEq, Int.reduceNeg, Int.reduceLT, Nat.reduceAdd, Bool.false_eq_true, Bool.not_true, Bool.not_false, if_true, if_false, e_skip, isN, id, e_mkTI, e_addI, e_drop, e_append, e_seq, e_setR, e_list, e_tup, e_cons, e_meth, e_var, e_nil, e_k, e_set, e_aug, e_bin, e_mod, e_div, e_if, e_ret, e_and, e_or, e_tv, e_onI, e_call, e_aTupR, e_aName, e_clsO, e_onone, e_osome, e_slice, List.getElem?_cons_zero, List.getElem?_cons_succ, List.set_cons_zero, List.set_cons_succ, List.length_cons, List.length_nil, List.reverse_cons, List.reverse_nil, List.nil_append, List.cons_append, e_setAll, e_setAll0, asL_loc]))
    exact ⟨by (first | lia | omega), r _ _ ⟨_, rfl⟩ rfl⟩
  · ((try dsimp only [d_skip, d_seq, d_set, d_aug, d_drop, d_if, d_ret, d_setR, d_aTupR, d_aName, d_k, d_var, d_bin, d_onI, d_mod, d_div, d_addI, d_tv, d_and, d_or, d_nil, d_cons, d_list, d_tup, d_call, d_meth, d_onone, d_osome, d_slice, d_append, d_mul, d_is, d_mkEI, d_slot, d_mkTI, d_idxX, d_kGlob2, List.getElem?_cons_zero, List.getElem?_cons_succ, List.set_cons_zero, List.set_cons_succ, List.length_cons, List.length_nil, List.nil_append, List.cons_append, e_setAll, e_clsO, id, Option.isSome_some, if_true, if_false]); (try simp only [e_idxX, e_kGlob2, e_lenS, e_gSlotO0, e_gSlotO1, e_mkEI, e_slot, e_mul, e_is, true_and, and_true, ne_eq, not_false_eq_true, Int.reduceEq, Nat.reduceLeDiff, Nat.reduceLT, reduceIte, Option.isSome_some, reduceCtorEq, Int.reduceBEq, Int.reduceNeg, Int.reduceLT, Nat.reduceAdd, Bool.false_eq_true, Bool.not_true, Bool.not_false, if_true, if_false, e_skip, isN, id, e_mkTI, e_addI, e_drop, e_append, e_seq, e_setR, e_list, e_tup, e_cons, e_meth, e_var, e_nil, e_k, e_set, e_aug, e_bin, e_mod, e_div, e_if, e_ret, e_and, e_or, e_tv, e_onI, e_call, e_aTupR, e_aName, e_clsO, e_onone, e_osome, e_slice, List.getElem?_cons_zero, List.getElem?_cons_succ, List.set_cons_zero, List.set_cons_succ, List.length_cons, List.length_nil, List.reverse_cons, List.reverse_nil, List.nil_append, List.cons_append, e_setAll, e_setAll0, asL_loc]))
    exact r
  intro iI H1 x1 y1 _
  ((try dsimp only [d_skip, d_seq, d_set, d_aug, d_drop, d_if, d_ret, d_setR, d_aTupR, d_aName, d_k, d_var, d_bin, d_onI, d_mod, d_div, d_addI, d_tv, d_and, d_or, d_nil, d_cons, d_list, d_tup, d_call, d_meth, d_onone, d_osome, d_slice, d_append, d_mul, d_is, d_mkEI, d_slot, d_mkTI, d_idxX, d_kGlob2, List.getElem?_cons_zero, List.getElem?_cons_succ, List.set_cons_zero, List.set_cons_succ, List.length_cons, List.length_nil, List.nil_append, List.cons_append, e_setAll, e_clsO, id, Option.isSome_some, if_true, if_false, lawR1, lawR2, lawR3]); (try simp only [e_idxX, e_kGlob2, e_lenS, e_gSlotO0, e_gSlotO1, e_mkEI, e_slot, e_mul, e_is, true_and, and_true, ne_eq, not_false_eq_true, Int.reduceEq, Nat.reduceLeDiff, Nat.reduceLT, reduceIte, Option.isSome_some, reduceCtorEq, Int.reduceBEq, Int.reduceNeg, Int.reduceLT, Nat.reduceAdd, Bool.false_eq_true, Bool.not_true, Bool.not_false, if_true, if_false, e_skip, isN, id, e_mkTI, e_addI, e_drop, e_append, e_seq, e_setR, e_list, e_tup, e_cons, e_meth, e_var, e_nil, e_k, e_set, e_aug, e_bin, e_mod, e_div, e_if, e_ret, e_and, e_or, e_tv, e_onI, e_call, e_aTupR, e_aName, e_clsO, e_onone, e_osome, e_slice, List.getElem?_cons_zero, List.getElem?_cons_succ, List.set_cons_zero, List.set_cons_succ, List.length_cons, List.length_nil, List.reverse_cons, List.reverse_nil, List.nil_append, List.cons_append, e_setAll, e_setAll0, asL_loc, lawR1, lawR2, lawR3, e_addS1 lstAt_new]))
  refine ⟨by (first | lia | omega), by simp; (first | lia | omega), ?_⟩
  have hI : lstAt (H1 ++ [LO.list [V.str (Str.ofString "p:x"), V.str (Str.ofString ""), V.none, V.str (Str.ofString "n"), V.int ↑c.ns.length]] ++ [LO.list [V.int 21, V.int 7, V.int 12, V.int 3, V.int 7, V.int 29]] ++ [LO.list (V.int 21 :: V.int 7 :: V.int 12 :: V.int 3 :: V.int 7 :: V.int 29 :: List.map V.int c.ns)]) iI = some [.obj 1 [.none], .obj 1 [.str (Str.ofString "")], .obj 1 [.str (Str.ofString "p:x")], .obj 1 [.int c.ns.length]] := lstAt_ext (lstAt_ext (lstAt_ext y1))
  have hS : lstAt (H1 ++ [LO.list [V.str (Str.ofString "p:x"), V.str (Str.ofString ""), V.none, V.str (Str.ofString "n"), V.int ↑c.ns.length]] ++ [LO.list [V.int 21, V.int 7, V.int 12, V.int 3, V.int 7, V.int 29]] ++ [LO.list (V.int 21 :: V.int 7 :: V.int 12 :: V.int 3 :: V.int 7 :: V.int 29 :: List.map V.int c.ns)]) H1.length = some [V.str (Str.ofString "p:x"), V.str (Str.ofString ""), V.none, V.str (Str.ofString "n"), V.int ↑c.ns.length] := lstAt_ext (lstAt_ext lstAt_new)
  have hM : lstAt (H1 ++ [LO.list [V.str (Str.ofString "p:x"), V.str (Str.ofString ""), V.none, V.str (Str.ofString "n"), V.int ↑c.ns.length]] ++ [LO.list [V.int 21, V.int 7, V.int 12, V.int 3, V.int 7, V.int 29]] ++ [LO.list (V.int 21 :: V.int 7 :: V.int 12 :: V.int 3 :: V.int 7 :: V.int 29 :: List.map V.int c.ns)]) (H1 ++ [LO.list [V.str (Str.ofString "p:x"), V.str (Str.ofString ""), V.none, V.str (Str.ofString "n"), V.int ↑c.ns.length]] ++ [LO.list [V.int 21, V.int 7, V.int 12, V.int 3, V.int 7, V.int 29]]).length = some ((21 :: 7 :: 12 :: 3 :: 7 :: 29 :: c.ns).map V.int) := lstAt_new
  have h0 : ((H1 ++ [LO.list [V.str (Str.ofString "p:x"), V.str (Str.ofString ""), V.none, V.str (Str.ofString "n"), V.int ↑c.ns.length]] ++ [LO.list [V.int 21, V.int 7, V.int 12, V.int 3, V.int 7, V.int 29]] ++ [LO.list (V.int 21 :: V.int 7 :: V.int 12 :: V.int 3 :: V.int 7 :: V.int 29 :: List.map V.int c.ns)]) : HW)[0]? = some (.tab 0) := Ext.at (Ext.app.trans (Ext.app.trans .app)) (x1.at rfl)
  generalize hB : (H1 ++ [LO.list [V.str (Str.ofString "p:x"), V.str (Str.ofString ""), V.none, V.str (Str.ofString "n"), V.int ↑c.ns.length]] ++ [LO.list [V.int 21, V.int 7, V.int 12, V.int 3, V.int 7, V.int 29]] ++ [LO.list (V.int 21 :: V.int 7 :: V.int 12 :: V.int 3 :: V.int 7 :: V.int 29 :: List.map V.int c.ns)]) = B at *
  generalize hiM : (H1 ++ [LO.list [V.str (Str.ofString "p:x"), V.str (Str.ofString ""), V.none, V.str (Str.ofString "n"), V.int ↑c.ns.length]] ++ [LO.list [V.int 21, V.int 7, V.int 12, V.int 3, V.int 7, V.int 29]]).length = iM at *
  generalize hiS : List.length H1 = iS at *
  obtain ⟨nums, en⟩ : ∃ nums, nums = 21 :: 7 :: 12 :: 3 :: 7 :: 29 :: c.ns := ⟨_, rfl⟩
  have nl : nums.length = c.ns.length + 6 := by rw [en]; rfl
  rw [← en] at hM
  clear hB hiM hiS y1 x1
  refine comp_gen_map (xs := nums.map V.int) (f := fun _ => .glob 67) (fun R r => r _ _ (.refl _) hM) (by simp; (first | lia | omega)) (fun v mv H' x R r => ?_) ?_
  · obtain ⟨z, _, rfl⟩ := List.mem_map.mp mv
    show wMeth c 1 (kGlob 2 67) _ _ [some (.int z), some (.loc iI), some (.loc iS)] H' R
    ((try dsimp only [d_skip, d_seq, d_set, d_aug, d_drop, d_if, d_ret, d_setR, d_aTupR, d_aName, d_k, d_var, d_bin, d_onI, d_mod, d_div, d_addI, d_tv, d_and, d_or, d_nil, d_cons, d_list, d_tup, d_call, d_meth, d_onone, d_osome, d_slice, d_append, d_mul, d_is, d_mkEI, d_slot, d_mkTI, d_idxX, d_kGlob2, List.getElem?_cons_zero, List.getElem?_cons_succ, List.set_cons_zero, List.set_cons_succ, List.length_cons, List.length_nil, List.nil_append, List.cons_append, e_setAll, e_clsO, id, Option.isSome_some, if_true, if_false]); (try simp only [e_idxX, e_kGlob2, e_lenS, e_gSlotO0, e_gSlotO1, e_mkEI, e_slot, e_mul, e_is, true_and, and_true, ne_eq, not_false_eq_true, Int.reduceEq, Nat.reduceLeDiff, Nat.reduceLT, reduceIte, Option.isSome_some, reduceCtorEq, Int.reduceBEq, Int.reduceNeg, Int.reduceLT, Nat.reduceAdd, Bool.false_eq_true, Bool.not_true, Bool.not_false, if_true, if_false, e_skip, isN, id, e_mkTI, e_addI, e_drop, e_append, e_seq, e_setR, e_list, e_tup, e_cons, e_meth, e_var, e_nil, e_k, e_set, e_aug, e_bin, e_mod, e_div, e_if, e_ret, e_and, e_or, e_tv, e_onI, e_call, e_aTupR, e_aName, e_clsO, e_onone, e_osome, e_slice, List.getElem?_cons_zero, List.getElem?_cons_succ, List.set_cons_zero, List.set_cons_succ, List.length_cons, List.length_nil, List.reverse_cons, List.reverse_nil, List.nil_append, List.cons_append, e_setAll, e_setAll0, asL_loc]))
    have h4 : 0 ≤ z.fmod 4 := Int.fmod_nonneg_of_pos z (by decide)
    have h4' : z.fmod 4 < 4 := Int.fmod_lt_of_pos z (by decide)
    obtain ⟨i, hi⟩ : ∃ i : Nat, z.fmod 4 = i := ⟨(z.fmod 4).toNat, by (first | lia | omega)⟩
    have h5 : 0 ≤ (z.fdiv 4).fmod 5 := Int.fmod_nonneg_of_pos _ (by decide)
    have h5' : (z.fdiv 4).fmod 5 < 5 := Int.fmod_lt_of_pos _ (by decide)
    obtain ⟨j, hj⟩ : ∃ j : Nat, (z.fdiv 4).fmod 5 = j := ⟨((z.fdiv 4).fmod 5).toNat, by (first | lia | omega)⟩
    rw [hi, hj]
    obtain ⟨w, hw⟩ : ∃ w, ([.obj 1 [.none], .obj 1 [.str (Str.ofString "")], .obj 1 [.str (Str.ofString "p:x")], .obj 1 [.int c.ns.length]] : List V)[i]? = some (.obj 1 [w]) := by
      have : i = 0 ∨ i = 1 ∨ i = 2 ∨ i = 3 := by (first | lia | omega)
      rcases this with rfl | rfl | rfl | rfl <;> exact ⟨_, rfl⟩
    refine idx_nat (x.lst hI) (by simp) hw ⟨rfl, by decide, ?_⟩
    exact idx_nat (x.lst hS) (by simp) (getElem?_pos _ j (by simp; (first | lia | omega))) r
  intro iE H2 x2 y2 _
  have hrep : ∀ l : List Int, (l.map V.int).map (fun _ => V.glob 67) = List.replicate l.length (.glob 67) := by
    intro l
    induction l with
    | nil => rfl
    | cons x l ih => simp only [List.map_cons, List.length_cons, List.replicate_succ, ih]
  have hE : lstAt H2 iE = some (List.replicate nums.length (.glob 67)) := by rw [y2, hrep]
  have hI2 := x2.lst hI
  have hM2 := x2.lst hM
  have h02 := x2.at h0
  ((try dsimp only [d_skip, d_seq, d_set, d_aug, d_drop, d_if, d_ret, d_setR, d_aTupR, d_aName, d_k, d_var, d_bin, d_onI, d_mod, d_div, d_addI, d_tv, d_and, d_or, d_nil, d_cons, d_list, d_tup, d_call, d_meth, d_onone, d_osome, d_slice, d_append, d_mul, d_is, d_mkEI, d_slot, d_mkTI, d_idxX, d_kGlob2, List.getElem?_cons_zero, List.getElem?_cons_succ, List.set_cons_zero, List.set_cons_succ, List.length_cons, List.length_nil, List.nil_append, List.cons_append, e_setAll, e_clsO, id, Option.isSome_some, if_true, if_false, lawR4]); (try simp only [e_idxX, e_kGlob2, e_lenS, e_gSlotO0, e_gSlotO1, e_mkEI, e_slot, e_mul, e_is, true_and, and_true, ne_eq, not_false_eq_true, Int.reduceEq, Nat.reduceLeDiff, Nat.reduceLT, reduceIte, Option.isSome_some, reduceCtorEq, Int.reduceBEq, Int.reduceNeg, Int.reduceLT, Nat.reduceAdd, Bool.false_eq_true, Bool.not_true, Bool.not_false, if_true, if_false, e_skip, isN, id, e_mkTI, e_addI, e_drop, e_append, e_seq, e_setR, e_list, e_tup, e_cons, e_meth, e_var, e_nil, e_k, e_set, e_aug, e_bin, e_mod, e_div, e_if, e_ret, e_and, e_or, e_tv, e_onI, e_call, e_aTupR, e_aName, e_clsO, e_onone, e_osome, e_slice, List.getElem?_cons_zero, List.getElem?_cons_succ, List.set_cons_zero, List.set_cons_succ, List.length_cons, List.length_nil, List.reverse_cons, List.reverse_nil, List.nil_append, List.cons_append, e_setAll, e_setAll0, asL_loc, lawR4]))
  refine comp_lst_filter (k := iE) (p := fun _ => false) (fun R r => r) hE (by simp; (first | lia | omega)) (fun v mv R r => ?_) ?_
  · obtain ⟨_, rfl⟩ := List.mem_replicate.mp mv
    ((try dsimp only [d_skip, d_seq, d_set, d_aug, d_drop, d_if, d_ret, d_setR, d_aTupR, d_aName, d_k, d_var, d_bin, d_onI, d_mod, d_div, d_addI, d_tv, d_and, d_or, d_nil, d_cons, d_list, d_tup, d_call, d_meth, d_onone, d_osome, d_slice, d_append, d_mul, d_is, d_mkEI, d_slot, d_mkTI, d_idxX, d_kGlob2, List.getElem?_cons_zero, List.getElem?_cons_succ, List.set_cons_zero, List.set_cons_succ, List.length_cons, List.length_nil, List.nil_append, List.cons_append, e_setAll, e_clsO, id, Option.isSome_some, if_true, if_false, isV]); (try simp only [e_idxX, e_kGlob2, e_lenS, e_gSlotO0, e_gSlotO1, e_mkEI, e_slot, e_mul, e_is, true_and, and_true, ne_eq, not_false_eq_true, Int.reduceEq, Nat.reduceLeDiff, Nat.reduceLT, reduceIte, Option.isSome_some, reduceCtorEq, Int.reduceBEq, Int.reduceNeg, Int.reduceLT, Nat.reduceAdd, Bool.false_eq_true, Bool.not_true, Bool.not_false, if_true, if_false, e_skip, isN, id, e_mkTI, e_addI, e_drop, e_append, e_seq, e_setR, e_list, e_tup, e_cons, e_meth, e_var, e_nil, e_k, e_set, e_aug, e_bin, e_mod, e_div, e_if, e_ret, e_and, e_or, e_tv, e_onI, e_call, e_aTupR, e_aName, e_clsO, e_onone, e_osome, e_slice, List.getElem?_cons_zero, List.getElem?_cons_succ, List.set_cons_zero, List.set_cons_succ, List.length_cons, List.length_nil, List.reverse_cons, List.reverse_nil, List.nil_append, List.cons_append, e_setAll, e_setAll0, asL_loc, isV]))
    exact r
  intro k3 H3 x3 y3 _
  have y3' : lstAt H3 k3 = some [] := by rw [y3]; simp
  refine ⟨.list [], .list [], .list (xs := []) (by rw [asL_loc]; exact lstAt_ext y3') .nil, .list (xs := []) (by rw [asL_loc]; exact lstAt_new) .nil, ⟨rfl, rfl⟩, ?_⟩
  dsimp only
  rw [if_neg (by simp [PyData.eqv, PyData.eqvAll])]
  have x4 : Ext H2 (H3 ++ [LO.list []]) := x3.trans .app
  generalize H3 ++ [LO.list []] = H4 at x4 ⊢
  have hE4 := x4.lst hE
  have hI4 := x4.lst hI2
  have hM4 := x4.lst hM2
  have h04 := x4.at h02
  ((try dsimp only [d_skip, d_seq, d_set, d_aug, d_drop, d_if, d_ret, d_setR, d_aTupR, d_aName, d_k, d_var, d_bin, d_onI, d_mod, d_div, d_addI, d_tv, d_and, d_or, d_nil, d_cons, d_list, d_tup, d_call, d_meth, d_onone, d_osome, d_slice, d_append, d_mul, d_is, d_mkEI, d_slot, d_mkTI, d_idxX, d_kGlob2, List.getElem?_cons_zero, List.getElem?_cons_succ, List.set_cons_zero, List.set_cons_succ, List.length_cons, List.length_nil, List.nil_append, List.cons_append, e_setAll, e_clsO, id, Option.isSome_some, if_true, if_false, lawR5]); (try simp only [e_idxX, e_kGlob2, e_lenS, e_gSlotO0, e_gSlotO1, e_mkEI, e_slot, e_mul, e_is, true_and, and_true, ne_eq, not_false_eq_true, Int.reduceEq, Nat.reduceLeDiff, Nat.reduceLT, reduceIte, Option.isSome_some, reduceCtorEq, Int.reduceBEq, Int.reduceNeg, Int.reduceLT, Nat.reduceAdd, Bool.false_eq_true, Bool.not_true, Bool.not_false, if_true, if_false, e_skip, isN, id, e_mkTI, e_addI, e_drop, e_append, e_seq, e_setR, e_list, e_tup, e_cons, e_meth, e_var, e_nil, e_k, e_set, e_aug, e_bin, e_mod, e_div, e_if, e_ret, e_and, e_or, e_tv, e_onI, e_call, e_aTupR, e_aName, e_clsO, e_onone, e_osome, e_slice, List.getElem?_cons_zero, List.getElem?_cons_succ, List.set_cons_zero, List.set_cons_succ, List.length_cons, List.length_nil, List.reverse_cons, List.reverse_nil, List.nil_append, List.cons_append, e_setAll, e_setAll0, asL_loc, lawR5]))
  refine comp_range_map (m := nums.length) (f := fun v => chV [nums.getD v 0]) (fun R r => ?_) (by (first | lia | omega)) (fun v hv R r => ?_) ?_
  · ((try dsimp only [d_skip, d_seq, d_set, d_aug, d_drop, d_if, d_ret, d_setR, d_aTupR, d_aName, d_k, d_var, d_bin, d_onI, d_mod, d_div, d_addI, d_tv, d_and, d_or, d_nil, d_cons, d_list, d_tup, d_call, d_meth, d_onone, d_osome, d_slice, d_append, d_mul, d_is, d_mkEI, d_slot, d_mkTI, d_idxX, d_kGlob2, List.getElem?_cons_zero, List.getElem?_cons_succ, List.set_cons_zero, List.set_cons_succ, List.length_cons, List.length_nil, List.nil_append, List.cons_append, e_setAll, e_clsO, id, Option.isSome_some, if_true, if_false]); (try simp only [e_idxX, e_kGlob2, e_lenS, e_gSlotO0, e_gSlotO1, e_mkEI, e_slot, e_mul, e_is, true_and, and_true, ne_eq, not_false_eq_true, Int.reduceEq, Nat.reduceLeDiff, Nat.reduceLT, reduceIte, Option.isSome_some, reduceCtorEq, Int.reduceBEq, Int.reduceNeg, Int.reduceLT, Nat.reduceAdd, Bool.false_eq_true, Bool.not_true, Bool.not_false, if_true, if_false, e_skip, isN, id, e_mkTI, e_addI, e_drop, e_append, e_seq, e_setR, e_list, e_tup, e_cons, e_meth, e_var, e_nil, e_k, e_set, e_aug, e_bin, e_mod, e_div, e_if, e_ret, e_and, e_or, e_tv, e_onI, e_call, e_aTupR, e_aName, e_clsO, e_onone, e_osome, e_slice, List.getElem?_cons_zero, List.getElem?_cons_succ, List.set_cons_zero, List.set_cons_succ, List.length_cons, List.length_nil, List.reverse_cons, List.reverse_nil, List.nil_append, List.cons_append, e_setAll, e_setAll0, asL_loc, e_len hM4]))
    refine ⟨by simp; (first | lia | omega), ?_⟩
    simpa using r
  · show wCall mkTI _ [some (natV v), some (.loc iE), some (.loc iM)] H4 R
    ((try dsimp only [d_skip, d_seq, d_set, d_aug, d_drop, d_if, d_ret, d_setR, d_aTupR, d_aName, d_k, d_var, d_bin, d_onI, d_mod, d_div, d_addI, d_tv, d_and, d_or, d_nil, d_cons, d_list, d_tup, d_call, d_meth, d_onone, d_osome, d_slice, d_append, d_mul, d_is, d_mkEI, d_slot, d_mkTI, d_idxX, d_kGlob2, List.getElem?_cons_zero, List.getElem?_cons_succ, List.set_cons_zero, List.set_cons_succ, List.length_cons, List.length_nil, List.nil_append, List.cons_append, e_setAll, e_clsO, id, Option.isSome_some, if_true, if_false]); (try simp only [e_idxX, e_kGlob2, e_lenS, e_gSlotO0, e_gSlotO1, e_mkEI, e_slot, e_mul, e_is, true_and, and_true, ne_eq, not_false_eq_true, Int.reduceEq, Nat.reduceLeDiff, Nat.reduceLT, reduceIte, Option.isSome_some, reduceCtorEq, Int.reduceBEq, Int.reduceNeg, Int.reduceLT, Nat.reduceAdd, Bool.false_eq_true, Bool.not_true, Bool.not_false, if_true, if_false, e_skip, isN, id, e_mkTI, e_addI, e_drop, e_append, e_seq, e_setR, e_list, e_tup, e_cons, e_meth, e_var, e_nil, e_k, e_set, e_aug, e_bin, e_mod, e_div, e_if, e_ret, e_and, e_or, e_tv, e_onI, e_call, e_aTupR, e_aName, e_clsO, e_onone, e_osome, e_slice, List.getElem?_cons_zero, List.getElem?_cons_succ, List.set_cons_zero, List.set_cons_succ, List.length_cons, List.length_nil, List.reverse_cons, List.reverse_nil, List.nil_append, List.cons_append, e_setAll, e_setAll0, asL_loc]))
    refine idx_nat hE4 (by simp; (first | lia | omega)) (u := .glob 67) (by rw [List.getElem?_replicate, if_pos (by (first | lia | omega))]) ?_
    refine idx_nat hM4 (by simp; (first | lia | omega)) (u := .int (nums.getD v 0)) (by rw [List.getElem?_map, List.getD_eq_getElem?_getD, getElem?_pos nums v (by (first | lia | omega))]; rfl) ?_
    exact r
  intro iC H5 x5 y5 _
  have hE5 := x5.lst hE4
  have hI5 := x5.lst hI4
  have hM5 := x5.lst hM4
  have h05 := x5.at h04
  have hL0 : lstAt H5 iC = some ((nums.map fun z => [z]).map chV) := by
    rw [y5]
    congr 1
    apply List.ext_getElem (by simp)
    intro n h1 h2
    simp at h1
    simp [List.getD_eq_getElem?_getD, h1]
  ((try dsimp only [d_skip, d_seq, d_set, d_aug, d_drop, d_if, d_ret, d_setR, d_aTupR, d_aName, d_k, d_var, d_bin, d_onI, d_mod, d_div, d_addI, d_tv, d_and, d_or, d_nil, d_cons, d_list, d_tup, d_call, d_meth, d_onone, d_osome, d_slice, d_append, d_mul, d_is, d_mkEI, d_slot, d_mkTI, d_idxX, d_kGlob2, List.getElem?_cons_zero, List.getElem?_cons_succ, List.set_cons_zero, List.set_cons_succ, List.length_cons, List.length_nil, List.nil_append, List.cons_append, e_setAll, e_clsO, id, Option.isSome_some, if_true, if_false, lawR6, lawR7]); (try simp only [e_idxX, e_kGlob2, e_lenS, e_gSlotO0, e_gSlotO1, e_mkEI, e_slot, e_mul, e_is, true_and, and_true, ne_eq, not_false_eq_true, Int.reduceEq, Nat.reduceLeDiff, Nat.reduceLT, reduceIte, Option.isSome_some, reduceCtorEq, Int.reduceBEq, Int.reduceNeg, Int.reduceLT, Nat.reduceAdd, Bool.false_eq_true, Bool.not_true, Bool.not_false, if_true, if_false, e_skip, isN, id, e_mkTI, e_addI, e_drop, e_append, e_seq, e_setR, e_list, e_tup, e_cons, e_meth, e_var, e_nil, e_k, e_set, e_aug, e_bin, e_mod, e_div, e_if, e_ret, e_and, e_or, e_tv, e_onI, e_call, e_aTupR, e_aName, e_clsO, e_onone, e_osome, e_slice, List.getElem?_cons_zero, List.getElem?_cons_succ, List.set_cons_zero, List.set_cons_succ, List.length_cons, List.length_nil, List.reverse_cons, List.reverse_nil, List.nil_append, List.cons_append, e_setAll, e_setAll0, asL_loc, lawR6, lawR7]))
  refine while_ok (n := nums.length) (fun n sl H' => ∃ (L : List (List Int)) (kC st : Nat) (x7 x8 : Option V), L.length ≤ n ∧ 1 ≤ L.length ∧ st + L.length = nums.length ∧
    sl = [some V.script, some (V.loc iI), some (V.loc iS), some (V.loc iM), some (V.loc iE), some (.loc kC), some (natV st), x7, x8, none, none] ∧ KeepP (· < H5.length) H5 H' ∧ lstAt H' kC = some (L.map chV) ∧ L.flatten.length = nums.length ∧ SrtL L ∧ ∀ k, L.flatten.filter (fun z => decide (tens z = k)) = nums.filter (fun z => decide (tens z = k))) ?_
    ⟨nums.map fun z => [z], iC, 0, none, none, by simp, by simp; (first | lia | omega), by simp, rfl, .refl _ _, hL0, by rw [flat1], fun l hl => by obtain ⟨z, _, rfl⟩ := List.mem_map.mp hl; exact List.pairwise_singleton _ _, fun k => by
      have : ∀ l : List Int, (l.map fun z => [z]).flatten = l := by
        intro l
        induction l with
        | nil => rfl
        | cons x l ih => simp only [List.map_cons, List.flatten_cons, ih]; rfl
      rw [this]⟩
  rintro n sl H6 ⟨L, kC, st, x7, x8, l1, l2, l3, rfl, kp, hC, hfl, hs, hf⟩ R rn rr
  ((try dsimp only [d_skip, d_seq, d_set, d_aug, d_drop, d_if, d_ret, d_setR, d_aTupR, d_aName, d_k, d_var, d_bin, d_onI, d_mod, d_div, d_addI, d_tv, d_and, d_or, d_nil, d_cons, d_list, d_tup, d_call, d_meth, d_onone, d_osome, d_slice, d_append, d_mul, d_is, d_mkEI, d_slot, d_mkTI, d_idxX, d_kGlob2, List.getElem?_cons_zero, List.getElem?_cons_succ, List.set_cons_zero, List.set_cons_succ, List.length_cons, List.length_nil, List.nil_append, List.cons_append, e_setAll, e_clsO, id, Option.isSome_some, if_true, if_false]); (try simp only [e_idxX, e_kGlob2, e_lenS, e_gSlotO0, e_gSlotO1, e_mkEI, e_slot, e_mul, e_is, true_and, and_true, ne_eq, not_false_eq_true, Int.reduceEq, Nat.reduceLeDiff, Nat.reduceLT, reduceIte, Option.isSome_some, reduceCtorEq, Int.reduceBEq, Int.reduceNeg, Int.reduceLT, Nat.reduceAdd, Bool.false_eq_true, Bool.not_true, Bool.not_false, if_true, if_false, e_skip, isN, id, e_mkTI, e_addI, e_drop, e_append, e_seq, e_setR, e_list, e_tup, e_cons, e_meth, e_var, e_nil, e_k, e_set, e_aug, e_bin, e_mod, e_div, e_if, e_ret, e_and, e_or, e_tv, e_onI, e_call, e_aTupR, e_aName, e_clsO, e_onone, e_osome, e_slice, List.getElem?_cons_zero, List.getElem?_cons_succ, List.set_cons_zero, List.set_cons_succ, List.length_cons, List.length_nil, List.reverse_cons, List.reverse_nil, List.nil_append, List.cons_append, e_setAll, e_setAll0, asL_loc, e_len hC, List.length_map]))
  refine ⟨by (first | lia | omega), ?_⟩
  have hE6 := kp.lst (lstAt_lt hE5) hE5
  by_cases h1 : 1 < L.length
  · rw [if_pos (by simp; (first | lia | omega))]
    refine round_ok hC hE6 (by (first | lia | omega)) (by (first | lia | omega)) (by (first | lia | omega)) fun H7 kC' x7' x8' kp7 hC7 => ?_
    obtain ⟨s1, s2⟩ := rd_srt L hs
    have hrl := rd_len L
    refine rn (n - 1) _ _ (by (first | lia | omega)) ⟨rd L, kC', st + L.length / 2, x7', x8', by (first | lia | omega), by (first | lia | omega), by (first | lia | omega), rfl, kp.trans ⟨kp7.len, fun k o h e => kp7.at_ k o (Nat.lt_of_lt_of_le h kp.len) e⟩, hC7, by rw [rd_flen]; exact hfl, s1, fun k => (s2 k).trans (hf k)⟩
  · rw [if_neg (by simp; (first | lia | omega))]
    obtain ⟨row, rfl⟩ : ∃ row, L = [row] := List.length_eq_one_iff.mp (by (first | lia | omega))
    have hI6 := kp.lst (lstAt_lt hI5) hI5
    have hM6 := kp.lst (lstAt_lt hM5) hM5
    have h06 := kp.at_ 0 _ (List.getElem?_eq_some_iff.mp h05).1 h05
    have hlen : row.length ≤ 100 := by
      simp at hfl
      (first | lia | omega)
    have hrs : row.Pairwise (fun a b => tens a ≤ tens b) := hs row (.head _)
    have hrf : ∀ k, row.filter (fun z => decide (tens z = k)) = nums.filter (fun z => decide (tens z = k)) := fun k => by rw [← hf k]; simp
    exact law09_read hg hn q h06 hI6 hM6 hC nl hlen hrs hrf
end
end Mine

namespace Mine
set_option maxHeartbeats 8000000 in
open_top hd09 for PySem.Challenge.rw_dn0274_09
end Mine

namespace Mine
noncomputable abbrev cx09 (w : World) (h₀ : Heap) (mg mb : Str → Option Value) (aS : Addr) (vs : List Value) (ns : List Int) : Cx :=
  { prog := Challenge.rw_dn0274_09.row.prog, w := w, h₀ := h₀, mg := mg, mb := mb, K := hd09.heap_39 w.params, aS := aS, vs := vs, ns := ns, cls := fun k => if k = 0 then 61 else 143, gC := fun a => if a = 67 then some (0, 2) else none }
section
variable {w : World} {h₀ : Heap} {mg mb : Str → Option Value} {aS : Addr} {vs : List Value} {ns : List Int} {d : Nat} {sc : Scope} {ρ : List Str}
theorem slot_name (G : Good (cx09 w h₀ mg mb aS vs ns)) {o pos a} (ho : Ev (cx09 w h₀ mg mb aS vs ns) d sc ρ o a)
    (he : ∀ env, eval (.Attribute o (Str.ofString "name") pos) env = (eval o env >>= fun ov => standAt pos.atName >>= fun _ => holding [ov] (getAttr ov (Str.ofString "name") true) >>= fun r => pure r)) :
    Ev (cx09 w h₀ mg mb aS vs ns) d sc ρ (.Attribute o (Str.ofString "name") pos) (wSlot (cx09 w h₀ mg mb aS vs ns) 0 0 a) :=
  ev_slot (k := 0) (i := 0) (p := 62) G ho (by kernel_rfl) (by kernel_rfl) (by kernel_rfl) (by kernel_rfl) (by kernel_rfl) (by kernel_rfl) he
theorem set_name (G : Good (cx09 w h₀ mg mb aS vs ns)) {o ap e pos a b} (ho : Ev (cx09 w h₀ mg mb aS vs ns) d sc ρ o a) (he : Ev (cx09 w h₀ mg mb aS vs ns) d sc ρ e b)
    (hw : ∀ env, swapsWith e (some (.Attribute o (Str.ofString "name") ap)) pos.line env = pure false) : Ex (cx09 w h₀ mg mb aS vs ns) d sc ρ (.Assign [.Attribute o (Str.ofString "name") ap] e pos) (wSetAttr 0 0 a b) :=
  ex_setattr (k := 0) (i := 0) (p := 62) G ho he (by kernel_rfl) (by kernel_rfl) (by kernel_rfl) (by kernel_rfl) (by kernel_rfl) (by decide) hw
theorem slot_ns (G : Good (cx09 w h₀ mg mb aS vs ns)) {o pos a} (ho : Ev (cx09 w h₀ mg mb aS vs ns) d sc ρ o a)
    (he : ∀ env, eval (.Attribute o (Str.ofString "namespace") pos) env = (eval o env >>= fun ov => standAt pos.atName >>= fun _ => holding [ov] (getAttr ov (Str.ofString "namespace") true) >>= fun r => pure r)) :
    Ev (cx09 w h₀ mg mb aS vs ns) d sc ρ (.Attribute o (Str.ofString "namespace") pos) (wSlot (cx09 w h₀ mg mb aS vs ns) 0 1 a) :=
  ev_slot (k := 0) (i := 1) (p := 63) G ho (by kernel_rfl) (by kernel_rfl) (by kernel_rfl) (by kernel_rfl) (by kernel_rfl) (by kernel_rfl) he
theorem set_ns (G : Good (cx09 w h₀ mg mb aS vs ns)) {o ap e pos a b} (ho : Ev (cx09 w h₀ mg mb aS vs ns) d sc ρ o a) (he : Ev (cx09 w h₀ mg mb aS vs ns) d sc ρ e b)
    (hw : ∀ env, swapsWith e (some (.Attribute o (Str.ofString "namespace") ap)) pos.line env = pure false) : Ex (cx09 w h₀ mg mb aS vs ns) d sc ρ (.Assign [.Attribute o (Str.ofString "namespace") ap] e pos) (wSetAttr 0 1 a b) :=
  ex_setattr (k := 0) (i := 1) (p := 63) G ho he (by kernel_rfl) (by kernel_rfl) (by kernel_rfl) (by kernel_rfl) (by kernel_rfl) (by decide) hw
theorem slot_tag (G : Good (cx09 w h₀ mg mb aS vs ns)) {o pos a} (ho : Ev (cx09 w h₀ mg mb aS vs ns) d sc ρ o a)
    (he : ∀ env, eval (.Attribute o (Str.ofString "tagName") pos) env = (eval o env >>= fun ov => standAt pos.atName >>= fun _ => holding [ov] (getAttr ov (Str.ofString "tagName") true) >>= fun r => pure r)) :
    Ev (cx09 w h₀ mg mb aS vs ns) d sc ρ (.Attribute o (Str.ofString "tagName") pos) (wSlot (cx09 w h₀ mg mb aS vs ns) 1 0 a) :=
  ev_slot (k := 1) (i := 0) (p := 144) G ho (by kernel_rfl) (by kernel_rfl) (by kernel_rfl) (by kernel_rfl) (by kernel_rfl) (by kernel_rfl) he
theorem set_tag (G : Good (cx09 w h₀ mg mb aS vs ns)) {o ap e pos a b} (ho : Ev (cx09 w h₀ mg mb aS vs ns) d sc ρ o a) (he : Ev (cx09 w h₀ mg mb aS vs ns) d sc ρ e b)
    (hw : ∀ env, swapsWith e (some (.Attribute o (Str.ofString "tagName") ap)) pos.line env = pure false) : Ex (cx09 w h₀ mg mb aS vs ns) d sc ρ (.Assign [.Attribute o (Str.ofString "tagName") ap] e pos) (wSetAttr 1 0 a b) :=
  ex_setattr (k := 1) (i := 0) (p := 144) G ho he (by kernel_rfl) (by kernel_rfl) (by kernel_rfl) (by kernel_rfl) (by kernel_rfl) (by decide) hw
theorem g_nt (G : Good (cx09 w h₀ mg mb aS vs ns)) {np} (hk : sc.kind = .function) (hx : sc.names.lookup (Str.ofString "_no_type") = some .globalImplicit) : Ev (cx09 w h₀ mg mb aS vs ns) d sc ρ (.Name (Str.ofString "_no_type") np) (wK (.glob 67)) :=
  ev_glob G hk hx (by kernel_rfl) (by rfl) (by decide)
theorem get_name (G : Good (cx09 w h₀ mg mb aS vs ns)) {d} : FnC (cx09 w h₀ mg mb aS vs ns) (d + 1) (.ref 50) (gSlot (cx09 w h₀ mg mb aS vs ns) 0 0) := by
  refine' FnC.weaken (fn_ok (W := _) (ps := [Str.ofString "self"]) (rest := []) G (G.X 50 _ rfl) rfl (codeRec_of G.X (by kernel_rfl)) rfl rfl ?hb rfl rfl rfl rfl rfl ?nd ?kd ?ex) ?k
  case hb => intro vals hl; match vals, hl with | [a], _ => rfl
  case nd => decide
  case kd => decide
  case ex =>
    dsimp only [List.append_nil, List.cons_append, List.nil_append]
    repeat' (first
      | with_reducible exact at0
      | with_reducible exact exs_nil
      | with_reducible exact evs_nil
      | with_reducible exact ev_none
      | with_reducible exact ev_bool
      | with_reducible refine' atS ?_
      | with_reducible refine' exs_cons ?_ ?_
      | with_reducible refine' evs_cons ?_ ?_ (fun _ => rfl)
      | ((with_reducible refine' ev_local ?_ ?a rfl (by decide)); (case a => exact rfl))
      | with_reducible refine' ex_ret ?_
      | ((with_reducible refine' slot_name (by assumption) ?_ ?he); (case he => exact fun _ => rfl))
      | ((with_reducible refine' set_name (by assumption) ?_ ?_ ?he); (case he => exact fun _ => rfl))
      | ((with_reducible refine' slot_ns (by assumption) ?_ ?he); (case he => exact fun _ => rfl))
      | ((with_reducible refine' set_ns (by assumption) ?_ ?_ ?he); (case he => exact fun _ => rfl))
      | ((with_reducible refine' slot_tag (by assumption) ?_ ?he); (case he => exact fun _ => rfl))
      | ((with_reducible refine' set_tag (by assumption) ?_ ?_ ?he); (case he => exact fun _ => rfl))
      | ((with_reducible refine' g_nt (by assumption) rfl ?a); (case a => exact rfl)))
  case k =>
    intro args H Q h
    obtain ⟨v, rfl, h1, h2⟩ := gSlot_of h
    exact ⟨rfl, h1, by rw [slotIs_def] at h2; revert h2; cases slotV (cx09 w h₀ mg mb aS vs ns) H 0 v <;> exact fun h => h⟩
theorem get_ns (G : Good (cx09 w h₀ mg mb aS vs ns)) {d} : FnC (cx09 w h₀ mg mb aS vs ns) (d + 1) (.ref 57) (gSlot (cx09 w h₀ mg mb aS vs ns) 0 1) := by
  refine' FnC.weaken (fn_ok (W := _) (ps := [Str.ofString "self"]) (rest := []) G (G.X 57 _ rfl) rfl (codeRec_of G.X (by kernel_rfl)) rfl rfl ?hb rfl rfl rfl rfl rfl ?nd ?kd ?ex) ?k
  case hb => intro vals hl; match vals, hl with | [a], _ => rfl
  case nd => decide
  case kd => decide
  case ex =>
    dsimp only [List.append_nil, List.cons_append, List.nil_append]
    repeat' (first
      | with_reducible exact at0
      | with_reducible exact exs_nil
      | with_reducible exact evs_nil
      | with_reducible exact ev_none
      | with_reducible exact ev_bool
      | with_reducible refine' atS ?_
      | with_reducible refine' exs_cons ?_ ?_
      | with_reducible refine' evs_cons ?_ ?_ (fun _ => rfl)
      | ((with_reducible refine' ev_local ?_ ?a rfl (by decide)); (case a => exact rfl))
      | with_reducible refine' ex_ret ?_
      | ((with_reducible refine' slot_name (by assumption) ?_ ?he); (case he => exact fun _ => rfl))
      | ((with_reducible refine' set_name (by assumption) ?_ ?_ ?he); (case he => exact fun _ => rfl))
      | ((with_reducible refine' slot_ns (by assumption) ?_ ?he); (case he => exact fun _ => rfl))
      | ((with_reducible refine' set_ns (by assumption) ?_ ?_ ?he); (case he => exact fun _ => rfl))
      | ((with_reducible refine' slot_tag (by assumption) ?_ ?he); (case he => exact fun _ => rfl))
      | ((with_reducible refine' set_tag (by assumption) ?_ ?_ ?he); (case he => exact fun _ => rfl))
      | ((with_reducible refine' g_nt (by assumption) rfl ?a); (case a => exact rfl)))
  case k =>
    intro args H Q h
    obtain ⟨v, rfl, h1, h2⟩ := gSlot_of h
    exact ⟨rfl, h1, by rw [slotIs_def] at h2; revert h2; cases slotV (cx09 w h₀ mg mb aS vs ns) H 1 v <;> exact fun h => h⟩
theorem ti_init (G : Good (cx09 w h₀ mg mb aS vs ns)) {d} : FnC (cx09 w h₀ mg mb aS vs ns) (d + 1) (.ref 36) (fun args H Q => match args with | [.loc j, a, b] => H[j]? = some (.inst 0 []) ∧ Q .none (H.set j (.inst 0 [some b, some a])) | _ => False) := by
  refine' FnC.weaken (fn_ok (W := _) (ps := [Str.ofString "self", Str.ofString "namespace", Str.ofString "name"]) (rest := []) G (G.X 36 _ rfl) rfl (codeRec_of G.X (by kernel_rfl)) rfl rfl ?hb rfl rfl rfl rfl rfl ?nd ?kd ?ex) ?k
  case hb => intro vals hl; match vals, hl with | [a, b, c], _ => rfl
  case nd => decide
  case kd => decide
  case ex =>
    dsimp only [List.append_nil, List.cons_append, List.nil_append]
    repeat' (first
      | with_reducible exact at0
      | with_reducible exact exs_nil
      | with_reducible exact evs_nil
      | with_reducible exact ev_none
      | with_reducible exact ev_bool
      | with_reducible refine' atS ?_
      | with_reducible refine' exs_cons ?_ ?_
      | with_reducible refine' evs_cons ?_ ?_ (fun _ => rfl)
      | ((with_reducible refine' ev_local ?_ ?a rfl (by decide)); (case a => exact rfl))
      | with_reducible refine' ex_ret ?_
      | ((with_reducible refine' slot_name (by assumption) ?_ ?he); (case he => exact fun _ => rfl))
      | ((with_reducible refine' set_name (by assumption) ?_ ?_ ?he); (case he => exact fun _ => rfl))
      | ((with_reducible refine' slot_ns (by assumption) ?_ ?he); (case he => exact fun _ => rfl))
      | ((with_reducible refine' set_ns (by assumption) ?_ ?_ ?he); (case he => exact fun _ => rfl))
      | ((with_reducible refine' slot_tag (by assumption) ?_ ?he); (case he => exact fun _ => rfl))
      | ((with_reducible refine' set_tag (by assumption) ?_ ?_ ?he); (case he => exact fun _ => rfl))
      | ((with_reducible refine' g_nt (by assumption) rfl ?a); (case a => exact rfl)))
  case k =>
    intro args H Q h
    split at h
    · rename_i j a b
      have hl : j < H.length := (List.getElem?_eq_some_iff.mp h.1).1
      obtain ⟨h1, h2⟩ := h
      simp only [fnW, wSeq, wSetAttr, wVar, wSkip]
      refine ⟨rfl, ?_⟩
      simp [h1, List.getElem?_set_self hl, setF, retV, h2]
    · exact h.elim
theorem ti_make (G : Good (cx09 w h₀ mg mb aS vs ns)) {d} : FnC (cx09 w h₀ mg mb aS vs ns) (d + 1 + 1) (.ref 61) mkTI := by
  refine (make_fr (k := 0) G (by kernel_rfl) (by kernel_rfl) (by kernel_rfl) (ti_init G)).weaken fun args H Q h => ?_
  simp only [mkTI] at h
  split at h
  · rename_i a b
    refine ⟨by simp, rfl, [b, a], by simp, by simp, h⟩
  · exact h.elim
theorem ei_init (G : Good (cx09 w h₀ mg mb aS vs ns)) {d} : FnC (cx09 w h₀ mg mb aS vs ns) (d + 1) (.ref 83) (fun args H Q => match args with | [.loc j, a] => H[j]? = some (.inst 1 []) ∧ Q .none (H.set j (.inst 1 [some a])) | _ => False) := by
  refine' FnC.weaken (fn_ok (W := _) (ps := [Str.ofString "self", Str.ofString "name"]) (rest := []) G (G.X 83 _ rfl) rfl (codeRec_of G.X (by kernel_rfl)) rfl rfl ?hb rfl rfl rfl rfl rfl ?nd ?kd ?ex) ?k
  case hb => intro vals hl; match vals, hl with | [a, b], _ => rfl
  case nd => decide
  case kd => decide
  case ex =>
    dsimp only [List.append_nil, List.cons_append, List.nil_append]
    repeat' (first
      | with_reducible exact at0
      | with_reducible exact exs_nil
      | with_reducible exact evs_nil
      | with_reducible exact ev_none
      | with_reducible exact ev_bool
      | with_reducible refine' atS ?_
      | with_reducible refine' exs_cons ?_ ?_
      | with_reducible refine' evs_cons ?_ ?_ (fun _ => rfl)
      | ((with_reducible refine' ev_local ?_ ?a rfl (by decide)); (case a => exact rfl))
      | with_reducible refine' ex_ret ?_
      | ((with_reducible refine' slot_name (by assumption) ?_ ?he); (case he => exact fun _ => rfl))
      | ((with_reducible refine' set_name (by assumption) ?_ ?_ ?he); (case he => exact fun _ => rfl))
      | ((with_reducible refine' slot_ns (by assumption) ?_ ?he); (case he => exact fun _ => rfl))
      | ((with_reducible refine' set_ns (by assumption) ?_ ?_ ?he); (case he => exact fun _ => rfl))
      | ((with_reducible refine' slot_tag (by assumption) ?_ ?he); (case he => exact fun _ => rfl))
      | ((with_reducible refine' set_tag (by assumption) ?_ ?_ ?he); (case he => exact fun _ => rfl))
      | ((with_reducible refine' g_nt (by assumption) rfl ?a); (case a => exact rfl)))
  case k =>
    intro args H Q h
    split at h
    · rename_i j a
      have hl : j < H.length := (List.getElem?_eq_some_iff.mp h.1).1
      obtain ⟨h1, h2⟩ := h
      simp only [fnW, wSeq, wSetAttr, wVar, wSkip]
      refine ⟨rfl, ?_⟩
      simp [h1, List.getElem?_set_self hl, setF, retV, h2]
    · exact h.elim
theorem ei_make (G : Good (cx09 w h₀ mg mb aS vs ns)) {d} : FnC (cx09 w h₀ mg mb aS vs ns) (d + 1 + 1) (.ref 143) (mkEI 1) := by
  refine (make_fr (k := 1) G (by kernel_rfl) (by kernel_rfl) (by kernel_rfl) (ei_init G)).weaken fun args H Q h => ?_
  simp only [mkEI] at h
  split at h
  · rename_i a
    refine ⟨by simp, rfl, [a], by simp, by simp, h⟩
  · exact h.elim
theorem ei_type (G : Good (cx09 w h₀ mg mb aS vs ns)) {d} : FnC (cx09 w h₀ mg mb aS vs ns) (d + 1) (.ref 90) (kGlob 2 67) := by
  refine' FnC.weaken (fn_ok (W := _) (ps := [Str.ofString "self", Str.ofString "aname"]) (rest := []) G (G.X 90 _ rfl) rfl (codeRec_of G.X (by kernel_rfl)) rfl rfl ?hb rfl rfl rfl rfl rfl ?nd ?kd ?ex) ?k
  case hb => intro vals hl; match vals, hl with | [a, b], _ => rfl
  case nd => decide
  case kd => decide
  case ex =>
    dsimp only [List.append_nil, List.cons_append, List.nil_append]
    repeat' (first
      | with_reducible exact at0
      | with_reducible exact exs_nil
      | with_reducible exact evs_nil
      | with_reducible exact ev_none
      | with_reducible exact ev_bool
      | with_reducible refine' atS ?_
      | with_reducible refine' exs_cons ?_ ?_
      | with_reducible refine' evs_cons ?_ ?_ (fun _ => rfl)
      | ((with_reducible refine' ev_local ?_ ?a rfl (by decide)); (case a => exact rfl))
      | with_reducible refine' ex_ret ?_
      | ((with_reducible refine' slot_name (by assumption) ?_ ?he); (case he => exact fun _ => rfl))
      | ((with_reducible refine' set_name (by assumption) ?_ ?_ ?he); (case he => exact fun _ => rfl))
      | ((with_reducible refine' slot_ns (by assumption) ?_ ?he); (case he => exact fun _ => rfl))
      | ((with_reducible refine' set_ns (by assumption) ?_ ?_ ?he); (case he => exact fun _ => rfl))
      | ((with_reducible refine' slot_tag (by assumption) ?_ ?he); (case he => exact fun _ => rfl))
      | ((with_reducible refine' set_tag (by assumption) ?_ ?_ ?he); (case he => exact fun _ => rfl))
      | ((with_reducible refine' g_nt (by assumption) rfl ?a); (case a => exact rfl)))
  case k =>
    exact fun args H Q h => ⟨h.1, h.2⟩
theorem m_name (G : Good (cx09 w h₀ mg mb aS vs ns)) {o apos pos a} {pl : Env → Sem Bool} (ho : Ev (cx09 w h₀ mg mb aS vs ns) (d + 1) sc ρ o a) 
    (he : ∀ env, eval (.Call (.Attribute o (Str.ofString "_get_name") apos) [] [] pos) env = (do
      let ov ← eval o env
      standAt apos.atName
      let (f, first) ← holding [ov] (getMethod ov (Str.ofString "_get_name") (pl env))
      callWith pos f first (backTo pos (starEach [] env)) (backToKw pos (keywordEach [] env)))) : Ev (cx09 w h₀ mg mb aS vs ns) (d + 1) sc ρ (.Call (.Attribute o (Str.ofString "_get_name") apos) [] [] pos) (wMeth (cx09 w h₀ mg mb aS vs ns) 0 (gSlot (cx09 w h₀ mg mb aS vs ns) 0 0) a wNil) :=
  ev_meth (k := 0) (f := 50) G ho evs_nil (get_name G).ok (by kernel_rfl) (by kernel_rfl) (by kernel_rfl) (by kernel_rfl) he
theorem m_ns (G : Good (cx09 w h₀ mg mb aS vs ns)) {o apos pos a} {pl : Env → Sem Bool} (ho : Ev (cx09 w h₀ mg mb aS vs ns) (d + 1) sc ρ o a) 
    (he : ∀ env, eval (.Call (.Attribute o (Str.ofString "_get_namespace") apos) [] [] pos) env = (do
      let ov ← eval o env
      standAt apos.atName
      let (f, first) ← holding [ov] (getMethod ov (Str.ofString "_get_namespace") (pl env))
      callWith pos f first (backTo pos (starEach [] env)) (backToKw pos (keywordEach [] env)))) : Ev (cx09 w h₀ mg mb aS vs ns) (d + 1) sc ρ (.Call (.Attribute o (Str.ofString "_get_namespace") apos) [] [] pos) (wMeth (cx09 w h₀ mg mb aS vs ns) 0 (gSlot (cx09 w h₀ mg mb aS vs ns) 0 1) a wNil) :=
  ev_meth (k := 0) (f := 57) G ho evs_nil (get_ns G).ok (by kernel_rfl) (by kernel_rfl) (by kernel_rfl) (by kernel_rfl) he
theorem m_type (G : Good (cx09 w h₀ mg mb aS vs ns)) {o apos pos a} {pl : Env → Sem Bool} (ho : Ev (cx09 w h₀ mg mb aS vs ns) (d + 1) sc ρ o a) {args as} (ha : Evs (cx09 w h₀ mg mb aS vs ns) (d + 1) sc ρ args as) 
    (he : ∀ env, eval (.Call (.Attribute o (Str.ofString "getAttributeType") apos) args [] pos) env = (do
      let ov ← eval o env
      standAt apos.atName
      let (f, first) ← holding [ov] (getMethod ov (Str.ofString "getAttributeType") (pl env))
      callWith pos f first (backTo pos (starEach args env)) (backToKw pos (keywordEach [] env)))) : Ev (cx09 w h₀ mg mb aS vs ns) (d + 1) sc ρ (.Call (.Attribute o (Str.ofString "getAttributeType") apos) args [] pos) (wMeth (cx09 w h₀ mg mb aS vs ns) 1 (kGlob 2 67) a as) :=
  ev_meth (k := 1) (f := 90) G ho ha (ei_type G).ok (by kernel_rfl) (by kernel_rfl) (by kernel_rfl) (by kernel_rfl) he
theorem c_ti (G : Good (cx09 w h₀ mg mb aS vs ns)) {np args pos as} (ha : Evs (cx09 w h₀ mg mb aS vs ns) (d + 1 + 1) sc ρ args as) (hk : sc.kind = .function) (hx : sc.names.lookup (Str.ofString "TypeInfo") = some .globalImplicit) : Ev (cx09 w h₀ mg mb aS vs ns) (d + 1 + 1) sc ρ (.Call (.Name (Str.ofString "TypeInfo") np) args [] pos) (wCall mkTI as) :=
  ev_fn G (ti_make G) ha hk hx (by kernel_rfl) (by kernel_rfl) (by decide)
theorem c_ei (G : Good (cx09 w h₀ mg mb aS vs ns)) {np args pos as} (ha : Evs (cx09 w h₀ mg mb aS vs ns) (d + 1 + 1) sc ρ args as) (hk : sc.kind = .function) (hx : sc.names.lookup (Str.ofString "ElementInfo") = some .globalImplicit) : Ev (cx09 w h₀ mg mb aS vs ns) (d + 1 + 1) sc ρ (.Call (.Name (Str.ofString "ElementInfo") np) args [] pos) (wCall (mkEI 1) as) :=
  ev_fn G (ei_make G) ha hk hx (by kernel_rfl) (by kernel_rfl) (by decide)
theorem c_merged (G : Good (cx09 w h₀ mg mb aS vs ns)) {np args pos as W} (hf : FnC (cx09 w h₀ mg mb aS vs ns) d (.ref 153) W) (ha : Evs (cx09 w h₀ mg mb aS vs ns) d sc ρ args as) (hk : sc.kind = .function) (hx : sc.names.lookup (Str.ofString "_law_merged") = some .globalImplicit) : Ev (cx09 w h₀ mg mb aS vs ns) d sc ρ (.Call (.Name (Str.ofString "_law_merged") np) args [] pos) (wCall W as) :=
  ev_fn G hf ha hk hx (by kernel_rfl) (by kernel_rfl) (by decide)
theorem c_len (G : Good (cx09 w h₀ mg mb aS vs ns)) {np args pos as} (ha : Evs (cx09 w h₀ mg mb aS vs ns) d sc ρ args as) (hk : sc.kind = .function) (hx : sc.names.lookup (Str.ofString "len") = some .globalImplicit) : Ev (cx09 w h₀ mg mb aS vs ns) d sc ρ (.Call (.Name (Str.ofString "len") np) args [] pos) (wCall (bLen ns) as) :=
  ev_callB G hk hx (mgNo G (by kernel_rfl)) ((G.BB _ (by decide)).trans (by kernel_rfl)) (by decide) (len_ok G) ha
theorem c_range1 (G : Good (cx09 w h₀ mg mb aS vs ns)) {np pos e a} (he : Ev (cx09 w h₀ mg mb aS vs ns) d sc ρ e a) (hs : ∀ env, starEach [e] env = [(false, eval e env)]) (hk : sc.kind = .function) (hx : sc.names.lookup (Str.ofString "range") = some .globalImplicit) : Ei (cx09 w h₀ mg mb aS vs ns) d sc ρ (.Call (.Name (Str.ofString "range") np) [e] [] pos) (iRange1 a) :=
  ei_range1 G hk hx (mgNo G (by kernel_rfl)) ((G.BB _ (by decide)).trans (by kernel_rfl)) (by decide) he hs
theorem c_range3 (G : Good (cx09 w h₀ mg mb aS vs ns)) {np pos e₁ e₂ e₃ a₁ a₂ a₃} (h₁ : Ev (cx09 w h₀ mg mb aS vs ns) d sc ρ e₁ a₁) (h₂ : Ev (cx09 w h₀ mg mb aS vs ns) d sc ρ e₂ a₂) (h₃ : Ev (cx09 w h₀ mg mb aS vs ns) d sc ρ e₃ a₃) (hs : ∀ env, starEach [e₁, e₂, e₃] env = [(false, eval e₁ env), (false, eval e₂ env), (false, eval e₃ env)]) (hk : sc.kind = .function) (hx : sc.names.lookup (Str.ofString "range") = some .globalImplicit) : Ei (cx09 w h₀ mg mb aS vs ns) d sc ρ (.Call (.Name (Str.ofString "range") np) [e₁, e₂, e₃] [] pos) (iRange3 a₁ a₂ a₃) :=
  ei_range3 G hk hx (mgNo G (by kernel_rfl)) ((G.BB _ (by decide)).trans (by kernel_rfl)) (by decide) h₁ h₂ h₃ hs
theorem c_sortK (G : Good (cx09 w h₀ mg mb aS vs ns)) (CH : CodeHd h₀ 157 155) (HB : h₀.BuiltinsAt mg 155) {np yp kpos pos lpos xp cp bp ap : Pos} {y : Str} {ck : Nat} {as : WEs} (ha : Evs (cx09 w h₀ mg mb aS vs ns) d sc ρ [.Name y yp] as) (hk : sc.kind = .function) (hx : sc.names.lookup (Str.ofString "sorted") = some .globalImplicit) :
    Ev2 (cx09 w h₀ mg mb aS vs ns) d sc ρ 157 155 (.Call (.Name (Str.ofString "sorted") np) [.Name y yp] [⟨some (Str.ofString "key"), .Lambda { posonlyargs := [], args := [{ arg := Str.ofString "x", annotation := none, pos := ap }], vararg := none, kwonlyargs := [], kw_defaults := [], kwarg := none, defaults := [] } (.BinOp (.Name (Str.ofString "x") xp) .FloorDiv (.Constant (.int 10) ck cp) bp) { kind := .function, names := [(Str.ofString "x", .local)], isGenerator := false, isCoroutine := false, more := [] } lpos, kpos⟩] pos) (wSortK 10 as) :=
  ev2_sortK (x := Str.ofString "x") (k := 10) (xp := xp) (cp := cp) (bp := bp) (ck := ck) G hk hx (mgNo G (by kernel_rfl)) ((G.BB _ (by decide)).trans (by kernel_rfl)) ha CH (by decide) HB (fun _ => rfl) (fun _ => rfl) (fun _ _ _ _ _ => rfl) rfl rfl rfl rfl (by decide) (by decide) (by decide)
set_option maxHeartbeats 4000000 in
theorem merged_ok (G : Good (cx09 w h₀ mg mb aS vs ns)) {d} : FnC (cx09 w h₀ mg mb aS vs ns) (d + 1 + 1 + 1) (.ref 153) mergedW := by
  refine' FnC.weaken (fn_ok (W := _) (ps := [Str.ofString "end", Str.ofString "first", Str.ofString "second"]) (rest := [Str.ofString "turned", Str.ofString "merged"]) G (G.X 153 _ rfl) rfl (codeRec_of G.X (by kernel_rfl)) rfl rfl ?hb rfl rfl rfl rfl rfl ?nd ?kd ?ex) ?k
  case hb => intro vals hl; match vals, hl with | [a, b, c], _ => rfl
  case nd => decide
  case kd => decide
  case ex =>
    dsimp only [List.append_nil, List.cons_append, List.nil_append]
    repeat' (first
      | with_reducible exact at0
      | with_reducible refine' atS ?_
      | ((with_reducible show Ev _ _ _ _ _ _); first
        | with_reducible exact ev_none
        | with_reducible exact ev_int
        | with_reducible exact ev_bool
        | with_reducible exact ev_str
        | ((with_reducible refine' ev_local ?_ ?a rfl (by decide)); (case a => exact rfl))
        | ((with_reducible refine' ev_cell ?_ ?a rfl (by decide)); (case a => exact rfl))
        | with_reducible refine' ev_list ?_
        | with_reducible refine' ev_tup ?_
        | with_reducible refine' ev_bin sub_ok ?_ ?_
        | with_reducible refine' ev_bin (addV_ok (by assumption)) ?_ ?_
        | with_reducible refine' ev_bin mod_ok ?_ ?_
        | with_reducible refine' ev_bin div_ok ?_ ?_
        | with_reducible refine' ev_bin mul_ok ?_ ?_
        | ((with_reducible refine' ev_append ?_ ?_ ?b ?he); (case b => exact fun _ => rfl); (case he => exact fun _ => rfl))
        | ((with_reducible refine' m_name (by assumption) ?_ ?he); (case he => exact fun _ => rfl))
        | ((with_reducible refine' m_ns (by assumption) ?_ ?he); (case he => exact fun _ => rfl))
        | ((with_reducible refine' m_type (by assumption) ?_ ?_ ?he); (case he => exact fun _ => rfl))
        | ((with_reducible refine' slot_tag (by assumption) ?_ ?he); (case he => exact fun _ => rfl))
        | ((with_reducible refine' c_ti (by assumption) ?_ rfl ?a); (case a => exact rfl))
        | ((with_reducible refine' c_ei (by assumption) ?_ rfl ?a); (case a => exact rfl))
        | ((with_reducible refine' c_merged (by assumption) (by assumption) ?_ rfl ?a); (case a => exact rfl))
        | ((with_reducible refine' c_len (by assumption) ?_ rfl ?a); (case a => exact rfl))
        | ((with_reducible refine' g_nt (by assumption) rfl ?a); (case a => exact rfl))
        | ((with_reducible refine' ev_idxX (by assumption) ?_ ?_ ?b); (case b => exact fun _ _ => rfl))
        | ((with_reducible refine' ev_cmp (eqD_ok (by assumption)) ?_ ?_ ?hm); (case hm => with_unfolding_all rfl))
        | with_reducible refine' ev_slice (by assumption) ?_ ?_ ?_ ?_
        | ((with_reducible refine' ev_comp (by assumption) ⟨rfl, rfl, ?nc, ?lc, ?nm, ?fe, ?nd, ?fr⟩ ?_ ?_ ?_ ?hs); (case nc => decide); (case lc => rfl); (case nm => decide); (case fe => decide); (case hs => exact fun _ _ => rfl); (case fr => (repeat' (first | with_reducible exact frs_nil | ((with_reducible refine' frs_free ?_ ?_ ?a); (case a => rfl)) | with_reducible refine' frs_local ?_ | with_reducible refine' frs_glob ?_ | with_reducible refine' frs_cell ?_ | with_reducible exact at0 | with_reducible refine' atS ?_))); (case nd => decide)))
      | ((with_reducible show Exs2 _ _ _ _ _ _ _ _); first | with_reducible refine' exs2_cons ?_ ?_ | with_reducible exact exs2_of exs_nil)
      | ((with_reducible show Ex2 _ _ _ _ _ _ _ _); first | ((with_reducible refine' ex2_if (et2_cmp (neD_ok (by assumption)) ?_ (c_sortK (by assumption) (by assumption) (by assumption) ?_ rfl ?a) ?hm) ?_ ?_); (case a => exact rfl); (case hm => with_unfolding_all rfl)) | with_reducible refine' ex2_of ?_)
      | ((with_reducible show Evs _ _ _ _ _ _); first
        | with_reducible exact evs_nil
        | with_reducible refine' evs_cons ?_ ?_ (fun _ => rfl))
      | ((with_reducible show Et _ _ _ _ _ _); first
        | with_reducible refine' et_and ?_ ?_
        | with_reducible refine' et_or ?_ ?_
        | with_reducible refine' et_cmp (is_ok (by assumption)) ?_ ?_
        | with_reducible refine' et_cmp (isnot_ok (by assumption)) ?_ ?_
        | with_reducible refine' et_cmp le_okI ?_ ?_
        | with_reducible refine' et_cmp gt_okI ?_ ?_
        | with_reducible refine' et_cmp (neD_ok (by assumption)) ?_ ?_)
      | ((with_reducible show Ets _ _ _ _ _ _); first
        | with_reducible exact ets_nil
        | with_reducible refine' ets_one ?_)
      | ((with_reducible show Ei _ _ _ _ _ _); first
        | ((with_reducible refine' c_range1 (by assumption) ?_ ?hs rfl ?a); (case hs => exact fun _ => rfl); (case a => exact rfl))
        | ((with_reducible refine' c_range3 (by assumption) ?_ ?_ ?_ ?hs rfl ?a); (case hs => exact fun _ => rfl); (case a => exact rfl))
        | ((with_reducible refine' ei_list (by assumption) ?_)))
      | ((with_reducible show Ex _ _ _ _ _ _); first
        | ((with_reducible refine' ex_set ?_ ?_ (.inl ?a) rfl ?b); (case a => exact rfl); (case b => exact fun _ => rfl))
        | ((with_reducible refine' ex_set ?_ ?_ (.inr ?a) rfl ?b); (case a => exact rfl); (case b => exact fun _ => rfl))
        | ((with_reducible refine' ex_setX ?_ ?_ (.inr ?a) rfl ?sw); (case a => exact rfl); (case sw => (intro env he; unfold swapsWith Env.blockKind Env.kindOf; rw [he]; rfl)))
        | ((with_reducible refine' ex_setC (by assumption) ⟨rfl, rfl, ?nc, ?lc, ?nm, ?fe, ?nd, ?fr⟩ ?_ ?_ ?_ ?_ ?hs ?hl ?sw); (case nc => decide); (case lc => rfl); (case nm => decide); (case fe => decide); (case hs => exact fun _ _ => rfl); (case hl => rfl); (case sw => (intro env he; unfold swapsWith Env.blockKind Env.kindOf; rw [he]; rfl)); (case fr => (repeat' (first | with_reducible exact frs_nil | ((with_reducible refine' frs_free ?_ ?_ ?a); (case a => rfl)) | with_reducible refine' frs_local ?_ | with_reducible refine' frs_glob ?_ | with_reducible refine' frs_cell ?_ | with_reducible exact at0 | with_reducible refine' atS ?_))); (case nd => decide))
        | ((with_reducible refine' ex_setRN ?_ ?_ rfl ?b ?sw); (case b => exact fun _ => rfl); (case sw => (intro env he; unfold swappedStores Env.blockKind Env.kindOf; rw [he]; rfl)))
        | ((with_reducible refine' ex_for (by assumption) ?_ ?_ ?_ ?_ ?fs); (case fs => exact fun _ _ => rfl))
        | with_reducible refine' ex_while ?_ ?_
        | with_reducible refine' ex_ret ?_
        | with_reducible refine' ex_if ?_ ?_ ?_
        | ((with_reducible refine' ex_aug iadd_ok ?_ ?_ ?a rfl); (case a => exact rfl))
        | ((with_reducible refine' ex_expr ?_ rfl ?b); (case b => exact fun _ => rfl)))
      | ((with_reducible show Exs _ _ _ _ _ _); first
        | with_reducible exact exs_nil
        | with_reducible refine' exs_cons ?_ ?_)
      | with_reducible exact evo_none
      | with_reducible refine' evo_some ?_
      | with_reducible exact lot_name
      | ((with_reducible show Slots _ _ _ _); first | exact slots_nil | (refine' slots_cons ?_ ?_ (.inl ?a); (case a => exact rfl)) | (refine' slots_cons ?_ ?_ (.inr ?a); (case a => exact rfl)))
      | ((with_reducible refine' at_name ?_ (.inl ?a) rfl); (case a => exact rfl))
      | ((with_reducible refine' at_name ?_ (.inr ?a) rfl); (case a => exact rfl))
      )
  case k =>
    exact fun args H Q h => merged_plain (c := (cx09 w h₀ mg mb aS vs ns)) rfl h
set_option maxHeartbeats 4000000 in
theorem law_step (G : Good (cx09 w h₀ mg mb aS vs ns)) (CH : CodeHd h₀ 157 155) (HB : h₀.BuiltinsAt mg 155) (hM : FnC (cx09 w h₀ mg mb aS vs ns) 9 (.ref 153) mergedW) : FnC2 (cx09 w h₀ mg mb aS vs ns) (10) 155 (.ref 158) (fun args H Q => args = [.script] ∧ H = [.tab 0] ∧ ns.length ≤ 63 ∧ ∀ (H' : HW), H'[0]? = some (.tab 3) → Q (.bool true) H') := by
  refine' FnC2.weaken (fn_ok2 (cc := 157) (P := 155) (W := _) (ps := [Str.ofString "script"]) (rest := [Str.ofString "infos", Str.ofString "names", Str.ofString "numbers", Str.ofString "ends", Str.ofString "chains", Str.ofString "step", Str.ofString "merged", Str.ofString "k", Str.ofString "chain", Str.ofString "row"]) G (G.X 158 _ rfl) rfl (codeRec_of G.X (by kernel_rfl)) rfl rfl ?hb rfl rfl rfl rfl rfl ?nd ?kd rfl ?ex) ?k
  case hb => intro vals hl; match vals, hl with | [a], _ => rfl
  case nd => decide
  case kd => decide
  case ex =>
    dsimp only [List.append_nil, List.cons_append, List.nil_append]
    repeat' (first
      | with_reducible exact at0
      | with_reducible refine' atS ?_
      | ((with_reducible show Ev _ _ _ _ _ _); first
        | with_reducible exact ev_none
        | with_reducible exact ev_int
        | with_reducible exact ev_bool
        | with_reducible exact ev_str
        | ((with_reducible refine' ev_local ?_ ?a rfl (by decide)); (case a => exact rfl))
        | ((with_reducible refine' ev_cell ?_ ?a rfl (by decide)); (case a => exact rfl))
        | with_reducible refine' ev_list ?_
        | with_reducible refine' ev_tup ?_
        | with_reducible refine' ev_bin sub_ok ?_ ?_
        | with_reducible refine' ev_bin (addV_ok (by assumption)) ?_ ?_
        | with_reducible refine' ev_bin mod_ok ?_ ?_
        | with_reducible refine' ev_bin div_ok ?_ ?_
        | with_reducible refine' ev_bin mul_ok ?_ ?_
        | ((with_reducible refine' ev_append ?_ ?_ ?b ?he); (case b => exact fun _ => rfl); (case he => exact fun _ => rfl))
        | ((with_reducible refine' m_name (by assumption) ?_ ?he); (case he => exact fun _ => rfl))
        | ((with_reducible refine' m_ns (by assumption) ?_ ?he); (case he => exact fun _ => rfl))
        | ((with_reducible refine' m_type (by assumption) ?_ ?_ ?he); (case he => exact fun _ => rfl))
        | ((with_reducible refine' slot_tag (by assumption) ?_ ?he); (case he => exact fun _ => rfl))
        | ((with_reducible refine' c_ti (by assumption) ?_ rfl ?a); (case a => exact rfl))
        | ((with_reducible refine' c_ei (by assumption) ?_ rfl ?a); (case a => exact rfl))
        | ((with_reducible refine' c_merged (by assumption) (by assumption) ?_ rfl ?a); (case a => exact rfl))
        | ((with_reducible refine' c_len (by assumption) ?_ rfl ?a); (case a => exact rfl))
        | ((with_reducible refine' g_nt (by assumption) rfl ?a); (case a => exact rfl))
        | ((with_reducible refine' ev_idxX (by assumption) ?_ ?_ ?b); (case b => exact fun _ _ => rfl))
        | ((with_reducible refine' ev_cmp (eqD_ok (by assumption)) ?_ ?_ ?hm); (case hm => with_unfolding_all rfl))
        | with_reducible refine' ev_slice (by assumption) ?_ ?_ ?_ ?_
        | ((with_reducible refine' ev_comp (by assumption) ⟨rfl, rfl, ?nc, ?lc, ?nm, ?fe, ?nd, ?fr⟩ ?_ ?_ ?_ ?hs); (case nc => decide); (case lc => rfl); (case nm => decide); (case fe => decide); (case hs => exact fun _ _ => rfl); (case fr => (repeat' (first | with_reducible exact frs_nil | ((with_reducible refine' frs_free ?_ ?_ ?a); (case a => rfl)) | with_reducible refine' frs_local ?_ | with_reducible refine' frs_glob ?_ | with_reducible refine' frs_cell ?_ | with_reducible exact at0 | with_reducible refine' atS ?_))); (case nd => decide)))
      | ((with_reducible show Exs2 _ _ _ _ _ _ _ _); first | with_reducible refine' exs2_cons ?_ ?_ | with_reducible exact exs2_of exs_nil)
      | ((with_reducible show Ex2 _ _ _ _ _ _ _ _); first | ((with_reducible refine' ex2_if (et2_cmp (neD_ok (by assumption)) ?_ (c_sortK (by assumption) (by assumption) (by assumption) ?_ rfl ?a) ?hm) ?_ ?_); (case a => exact rfl); (case hm => with_unfolding_all rfl)) | with_reducible refine' ex2_of ?_)
      | ((with_reducible show Evs _ _ _ _ _ _); first
        | with_reducible exact evs_nil
        | with_reducible refine' evs_cons ?_ ?_ (fun _ => rfl))
      | ((with_reducible show Et _ _ _ _ _ _); first
        | with_reducible refine' et_and ?_ ?_
        | with_reducible refine' et_or ?_ ?_
        | with_reducible refine' et_cmp (is_ok (by assumption)) ?_ ?_
        | with_reducible refine' et_cmp (isnot_ok (by assumption)) ?_ ?_
        | with_reducible refine' et_cmp le_okI ?_ ?_
        | with_reducible refine' et_cmp gt_okI ?_ ?_
        | with_reducible refine' et_cmp (neD_ok (by assumption)) ?_ ?_)
      | ((with_reducible show Ets _ _ _ _ _ _); first
        | with_reducible exact ets_nil
        | with_reducible refine' ets_one ?_)
      | ((with_reducible show Ei _ _ _ _ _ _); first
        | ((with_reducible refine' c_range1 (by assumption) ?_ ?hs rfl ?a); (case hs => exact fun _ => rfl); (case a => exact rfl))
        | ((with_reducible refine' c_range3 (by assumption) ?_ ?_ ?_ ?hs rfl ?a); (case hs => exact fun _ => rfl); (case a => exact rfl))
        | ((with_reducible refine' ei_list (by assumption) ?_)))
      | ((with_reducible show Ex _ _ _ _ _ _); first
        | ((with_reducible refine' ex_set ?_ ?_ (.inl ?a) rfl ?b); (case a => exact rfl); (case b => exact fun _ => rfl))
        | ((with_reducible refine' ex_set ?_ ?_ (.inr ?a) rfl ?b); (case a => exact rfl); (case b => exact fun _ => rfl))
        | ((with_reducible refine' ex_setX ?_ ?_ (.inr ?a) rfl ?sw); (case a => exact rfl); (case sw => (intro env he; unfold swapsWith Env.blockKind Env.kindOf; rw [he]; rfl)))
        | ((with_reducible refine' ex_setC (by assumption) ⟨rfl, rfl, ?nc, ?lc, ?nm, ?fe, ?nd, ?fr⟩ ?_ ?_ ?_ ?_ ?hs ?hl ?sw); (case nc => decide); (case lc => rfl); (case nm => decide); (case fe => decide); (case hs => exact fun _ _ => rfl); (case hl => rfl); (case sw => (intro env he; unfold swapsWith Env.blockKind Env.kindOf; rw [he]; rfl)); (case fr => (repeat' (first | with_reducible exact frs_nil | ((with_reducible refine' frs_free ?_ ?_ ?a); (case a => rfl)) | with_reducible refine' frs_local ?_ | with_reducible refine' frs_glob ?_ | with_reducible refine' frs_cell ?_ | with_reducible exact at0 | with_reducible refine' atS ?_))); (case nd => decide))
        | ((with_reducible refine' ex_setRN ?_ ?_ rfl ?b ?sw); (case b => exact fun _ => rfl); (case sw => (intro env he; unfold swappedStores Env.blockKind Env.kindOf; rw [he]; rfl)))
        | ((with_reducible refine' ex_for (by assumption) ?_ ?_ ?_ ?_ ?fs); (case fs => exact fun _ _ => rfl))
        | with_reducible refine' ex_while ?_ ?_
        | with_reducible refine' ex_ret ?_
        | with_reducible refine' ex_if ?_ ?_ ?_
        | ((with_reducible refine' ex_aug iadd_ok ?_ ?_ ?a rfl); (case a => exact rfl))
        | ((with_reducible refine' ex_expr ?_ rfl ?b); (case b => exact fun _ => rfl)))
      | ((with_reducible show Exs _ _ _ _ _ _); first
        | with_reducible exact exs_nil
        | with_reducible refine' exs_cons ?_ ?_)
      | with_reducible exact evo_none
      | with_reducible refine' evo_some ?_
      | with_reducible exact lot_name
      | ((with_reducible show Slots _ _ _ _); first | exact slots_nil | (refine' slots_cons ?_ ?_ (.inl ?a); (case a => exact rfl)) | (refine' slots_cons ?_ ?_ (.inr ?a); (case a => exact rfl)))
      | ((with_reducible refine' at_name ?_ (.inl ?a) rfl); (case a => exact rfl))
      | ((with_reducible refine' at_name ?_ (.inr ?a) rfl); (case a => exact rfl))
      )
  case k =>
    rintro args H Q ⟨rfl, rfl, hn, q⟩
    exact ⟨rfl, law09 (c := (cx09 w h₀ mg mb aS vs ns)) rfl hn fun _ H' => q H'⟩
theorem law_ok (G : Good (cx09 w h₀ mg mb aS vs ns)) (CH : CodeHd h₀ 157 155) (HB : h₀.BuiltinsAt mg 155) : FnC2 (cx09 w h₀ mg mb aS vs ns) 10 155 (.ref 158) (fun args H Q => args = [.script] ∧ H = [.tab 0] ∧ ns.length ≤ 63 ∧ ∀ (H' : HW), H'[0]? = some (.tab 3) → Q (.bool true) H') := law_step G CH HB (merged_ok G)
end
end Mine

open Mine
theorem Mine.ns_hide {h : Heap} {a : Addr} {m} (n : h.Ns a m) (hP : h.get? 155 = some (tabObj #[])) : (hideAll h [155]).Ns a m := by
  obtain ⟨o, es, ep, e, hd, r⟩ := n
  refine ⟨o, es, ep, hideAll_get _ e (fun q => ?_), hd, r⟩
  rw [List.mem_singleton.mp q, hP] at e
  cases e
  cases hd
set_option maxHeartbeats 8000000 in
theorem PySem.Challenge.cw_dn0274_09_holds : PySem.Challenge.rw_dn0274_09.Holds := by
  refine Mine.hd09 ?_
  intro w s₀ s₁ mg mb G Y fa o pm cd doc dV kV ho hd hcd hD hmg hg args vals as hpre hlay hrd hwl hlo
  have KX := km_in_of Y
  have KT := km_tabs_of Y 155 (.head _)
  refine Ground.open G ?_
  intro T B D TE TW
  wrow_args hpre hlay hrd hwl hlo
  all_goals (
    first | refine callC_kw (enter_call ?_) | refine enter_call ?_ | refine callC_kw (enter_callW ?_) | refine enter_callW ?_ | w_how
    w_top on)
  clear hd hcd hD
  rename_i ns _ _ _ _ _ _ _ aS vals _ hL _ _ _ hI _ hlen _
  have KX' : (Mine.hd09.heap_39 w.params).In (hideAll s₁.heap [155]) := fun a o e => hideAll_get _ (KX a o e) fun q => by
    rw [List.mem_singleton.mp q] at e
    have e2 : (Mine.hd09.heap_39 w.params).lookup 155 = none := by kernel_rfl
    rw [e2] at e; cases e
  have hS' : (hideAll s₁.heap [155]).IsList aS vals.toArray := by
    obtain ⟨o, e, cl, r⟩ := hL
    refine ⟨o, hideAll_get _ e (fun q => ?_), cl, r⟩
    rw [List.mem_singleton.mp q, KT] at e
    cases e
    cases cl
  have hG : Good (cx09 w (hideAll s₁.heap [155]) mg mb aS vals ns) := ⟨ns_hide T.g KT, ns_hide T.b KT, let ⟨mc, a, b⟩ := T.nolimit; ⟨mc, ns_hide a KT, b⟩, KX', T.builtins, hS', hI, fun a k n e => by
    have e' : (if a = 67 then some ((0 : Nat), (2 : Nat)) else none) = some (k, n) := e
    split at e'
    · rename_i q
      cases e'
      subst q
      exact ⟨66, KX' 67 _ (by kernel_rfl), KX' 66 _ (by kernel_rfl)⟩
    · cases e'⟩
  have h158 : mg (Str.ofString "law") = some (.ref 158) := mg_of KX T.g (by kernel_rfl)
  have efa : fa = 158 := by
    have := hmg.symm.trans h158
    cases this; rfl
  subst efa
  have CH : CodeHd (hideAll s₁.heap [155]) 157 155 := codeHd_of_K KX' (by kernel_rfl)
  have HB : (hideAll s₁.heap [155]).BuiltinsAt mg 155 := by
    obtain ⟨bm, ob, b1, b2, b3, b4, b5⟩ := T.bmain
    have n155 : bm ≠ 155 := fun q => by rw [q, KT] at b3; cases b3; cases b4
    have nmg : bm ≠ mainGlobals := fun q => by
      obtain ⟨o, es, ep, e, hd, _⟩ := T.g
      rw [q, e] at b3; cases b3; rw [hd] at b5; cases b5.2
    exact ⟨bm, ob, b1, b2, nmg, n155, hideAll_get _ b3 (fun q => n155 (List.mem_singleton.mp q)), b4, b5⟩
  have h0n : (hideAll s₁.heap [155]).get? 155 = none := hideAll_none _ (.head _)
  refine law_ok hG CH HB callerA s₁ ⟨[155], []⟩ [.tab 0] [.script] [.ref aS] (fun v H => v = .bool true ∧ H[0]? = some (.tab 3)) _ rfl ⟨rfl, by decide, by decide⟩ ?_ (.cons .script .nil) ⟨rfl, rfl, by (first | lia | omega), fun _ h => ⟨rfl, h⟩⟩ fun x s' p => ?_
  · refine ⟨fun b o e => of_hideAll _ e, fun b o e m => ?_, rfl, by simp, fun k a lo e1 e2 => ?_, fun _ h => (nomatch h), fun _ h => (nomatch h), (let ⟨o, _, _, ho, _⟩ := hG.G; ⟨o, ho⟩), fun a m => ?_⟩
    · rw [List.mem_singleton.mp m, h0n] at e; cases e
    · cases k with
      | zero =>
        simp at e1 e2
        subst e1 e2
        exact ⟨_, KT, .tab rfl⟩
      | succ k => simp at e1
    · rw [List.mem_singleton.mp m]; decide
  obtain ⟨v, H, φ', ⟨rfl, hH0⟩, ok, rv, g, r⟩ := p
  cases rv
  obtain ⟨h', t', rfl⟩ := r
  have hold : OldK s₁.heap h' := by
    obtain ⟨o', e', ro⟩ := ok.objs 0 155 _ (Grow.first g rfl) hH0
    cases ro with
    | @tab _ ps hps =>
      have kp : ∀ b o, b ≠ 155 → s₁.heap.get? b = some o → h'.get? b = some o := fun b o hb e => ok.base b o (hideAll_get _ e fun q => hb (List.mem_singleton.mp q))
      refine ⟨fun b o e => ?_, fun b o e => ?_⟩
      · by_cases hb : b = 155
        · subst hb
          rw [KT] at e
          cases e
          obtain ⟨oc, vc, _, _, _, _, _, _, _, c1, c2, c3, c4, _⟩ := codeHd_of_K KX (c := 157) (P := 155) (by kernel_rfl)
          exact .inr (.inl ⟨⟨157, oc, vc, c1, c2, c3, c4⟩, rfl, #[], ps, rfl, by rw [e']; simp⟩)
        · exact .inl (kp b o hb e)
      · by_cases hb : b = 155
        · subst hb
          exact ⟨_, e'⟩
        · exact ⟨o, kp b o hb e⟩
  exact ⟨.inl ⟨.bool true, .bool true, [], rfl, fun cls => rfl, .bool true, by first | kernel_rfl | (show (decide _) = true; simp) | trace_state, unshared_nil⟩, hold, rfl, .of_eq hg⟩
