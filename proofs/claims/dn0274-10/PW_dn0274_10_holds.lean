import PyProof.Rows.All
import Wide.All
import OpenK.AllK
import Wide.FinOn
import PySem.Challenge.RW_dn0274_10
open PySem PySem.W PyProof.Rows
set_option Elab.async false
set_option linter.all false
set_option maxRecDepth 100000
namespace Mine

/-- abstract values -/
inductive V where
  | none
  | bool (b : Bool)
  | int (i : Int)
  | str (s : Str)
  | loc (k : Nat)
  | tup (vs : List V)
  | obj (c : Nat) (fs : List V)
  | glob (a : Addr)
  | script

/-- abstract mutable objects -/
inductive LO where
  | list (xs : List V)
  | inst (c : Nat) (fs : List (Option V))
  | dict (kvs : List (Int × V))

abbrev HW := List LO
abbrev Sl := List (Option V)

/-- what stays as it is throughout the law's call -/
structure Cx where
  prog : Program
  w : World
  h₀ : Heap
  mg : Str → Option Value
  mb : Str → Option Value
  K : Frag
  aS : Addr
  vs : List Value
  ns : List Int
  cls : Nat → Addr
  gC : Addr → Option (Nat × Nat)

structure Good (c : Cx) : Prop where
  G : c.h₀.Ns mainGlobals c.mg
  B : c.h₀.Ns builtinsNs c.mb
  NL : c.h₀.NoLimit
  X : c.K.In c.h₀
  BB : ∀ x, x ≠ Str.ofString "__name__" → c.mb x = bootBuiltins x
  S : c.h₀.IsList c.aS c.vs.toArray
  I : IntsAre c.vs c.ns
  gl : ∀ a k n, c.gC a = some (k, n) → ∃ b, c.h₀.get? a = some ⟨.ref (c.cls k), some b, .plain, (List.replicate n (some Value.none)).toArray⟩ ∧ c.h₀.get? b = some (dictOf [] 0)

/-- which addresses bear the tracked objects, and which bear what values lean on and nothing turns -/
structure Mp where
  l : List Addr
  z : List Addr

mutual
inductive RepV (c : Cx) (φ : Mp) (h : Heap) : V → Value → Prop
  | none : RepV c φ h .none .none
  | bool {b} : RepV c φ h (.bool b) (.bool b)
  | int {i t} : RepV c φ h (.int i) (.int i t)
  | str {s t} : RepV c φ h (.str s) (.str s t)
  | loc {k a} : φ.l[k]? = some a → RepV c φ h (.loc k) (.ref a)
  | tup {vs xs a n} : a ∉ φ.l → a ∈ φ.z → c.h₀.get? a = none → h.get? a = some { cls := .type "tuple", data := .seq xs.toArray n } → RepVs c φ h vs xs → RepV c φ h (.tup vs) (.ref a)
  | obj {k fs xs a b} {sl : Array (Option Value)} : a ∉ φ.l → a ∈ φ.z → b ∉ φ.l → b ∈ φ.z → c.h₀.get? a = none → h.get? a = some ⟨.ref (c.cls k), some b, .plain, sl⟩ → (∀ i : Nat, (sl[i]?).join = xs[i]?) → h.get? b = some (dictOf [] 0) → RepVs c φ h fs xs → RepV c φ h (.obj k fs) (.ref a)
  | glob {a o} : c.h₀.get? a = some o → RepV c φ h (.glob a) (.ref a)
  | script : RepV c φ h .script (.ref c.aS)
inductive RepVs (c : Cx) (φ : Mp) (h : Heap) : List V → List Value → Prop
  | nil : RepVs c φ h [] []
  | cons {v x vs xs} : RepV c φ h v x → RepVs c φ h vs xs → RepVs c φ h (v :: vs) (x :: xs)
end

/-- the heap has grown; what is not tracked stands as it stood -/
structure Grow (φ : Mp) (h : Heap) (φ' : Mp) (h' : Heap) : Prop where
  ext : ∃ δ ζ, φ'.l = φ.l ++ δ ∧ φ'.z = φ.z ++ ζ ∧ (∀ a ∈ δ, h.get? a = none) ∧ ∀ a ∈ ζ, h.get? a = none
  keep : ∀ b o, h.get? b = some o → b ∉ φ.l → h'.get? b = some o
  live : ∀ b o, h.get? b = some o → ∃ o', h'.get? b = some o'

theorem Grow.nin {φ h φ' h'} (g : Grow φ h φ' h') {a o} (n : a ∉ φ.l) (e : h.get? a = some o) : a ∉ φ'.l := by
  obtain ⟨δ, ζ, e1, e2, hd, hz⟩ := g.ext
  rw [e1]
  intro m
  rcases List.mem_append.mp m with m | m
  · exact n m
  · rw [hd a m] at e; cases e
theorem Grow.ninz {φ h φ' h'} (g : Grow φ h φ' h') {a o} (n : a ∉ φ.z) (e : h.get? a = some o) : a ∉ φ'.z := by
  obtain ⟨δ, ζ, e1, e2, hd, hz⟩ := g.ext
  rw [e2]
  intro m
  rcases List.mem_append.mp m with m | m
  · exact n m
  · rw [hz a m] at e; cases e
theorem Grow.inz {φ h φ' h'} (g : Grow φ h φ' h') {a} (n : a ∈ φ.z) : a ∈ φ'.z := by
  obtain ⟨δ, ζ, e1, e2, hd, hz⟩ := g.ext
  rw [e2]; exact List.mem_append_left _ n
theorem Grow.at {φ h φ' h'} (g : Grow φ h φ' h') {k : Nat} {a} (e : φ.l[k]? = some a) : φ'.l[k]? = some a := by
  obtain ⟨δ, ζ, e1, _, _⟩ := g.ext
  rw [e1, List.getElem?_append_left]
  · exact e
  · exact (List.getElem?_eq_some_iff.mp e).1
theorem Grow.refl (φ h) : Grow φ h φ h := ⟨⟨[], [], by simp, by simp, by simp, by simp⟩, fun _ _ e _ => e, fun _ o e => ⟨o, e⟩⟩
theorem Grow.trans {φ h φ₁ h₁ φ₂ h₂} (g : Grow φ h φ₁ h₁) (g' : Grow φ₁ h₁ φ₂ h₂) : Grow φ h φ₂ h₂ := by
  refine ⟨?_, fun b o e n => g'.keep b o (g.keep b o e n) (g.nin n e), fun b o e => ?_⟩
  · obtain ⟨δ, ζ, e1, e2, hd, hz⟩ := g.ext
    obtain ⟨δ', ζ', e1', e2', hd', hz'⟩ := g'.ext
    refine ⟨δ ++ δ', ζ ++ ζ', by simp [e1, e1'], by simp [e2, e2'], fun a m => ?_, fun a m => ?_⟩
    · rcases List.mem_append.mp m with m | m
      · exact hd a m
      · cases q : h.get? a with
        | none => rfl
        | some o => obtain ⟨o', e'⟩ := g.live a o q; rw [hd' a m] at e'; cases e'
    · rcases List.mem_append.mp m with m | m
      · exact hz a m
      · cases q : h.get? a with
        | none => rfl
        | some o => obtain ⟨o', e'⟩ := g.live a o q; rw [hz' a m] at e'; cases e'
  · obtain ⟨o', e'⟩ := g.live b o e
    exact g'.live b o' e'
/-- nothing tracked is touched, nothing new is tracked -/
theorem Grow.of_keep {φ h h'} (k : ∀ b o, h.get? b = some o → h'.get? b = some o) : Grow φ h φ h' :=
  ⟨⟨[], [], by simp, by simp, by simp, by simp⟩, fun b o e _ => k b o e, fun b o e => ⟨o, k b o e⟩⟩

mutual
theorem RepV.grow {c : Cx} {φ h φ' h'} (g : Grow φ h φ' h') : ∀ {v x}, RepV c φ h v x → RepV c φ' h' v x
  | _, _, .none => .none
  | _, _, .bool => .bool
  | _, _, .int => .int
  | _, _, .str => .str
  | _, _, .loc e => .loc (g.at e)
  | _, _, .tup n z n0 e r => .tup (g.nin n e) (g.inz z) n0 (g.keep _ _ e n) (RepVs.grow g r)
  | _, _, .obj n z m y n0 e es e' r => .obj (g.nin n e) (g.inz z) (g.nin m e') (g.inz y) n0 (g.keep _ _ e n) es (g.keep _ _ e' m) (RepVs.grow g r)
  | _, _, .glob e => .glob e
  | _, _, .script => .script
theorem RepVs.grow {c : Cx} {φ h φ' h'} (g : Grow φ h φ' h') : ∀ {vs xs}, RepVs c φ h vs xs → RepVs c φ' h' vs xs
  | _, _, .nil => .nil
  | _, _, .cons r rs => .cons (RepV.grow g r) (RepVs.grow g rs)
end

mutual
theorem RepV.keep {c : Cx} {φ h h'} (g : ∀ b o, b ∈ φ.z → h.get? b = some o → h'.get? b = some o) : ∀ {v x}, RepV c φ h v x → RepV c φ h' v x
  | _, _, .none => .none
  | _, _, .bool => .bool
  | _, _, .int => .int
  | _, _, .str => .str
  | _, _, .loc e => .loc e
  | _, _, .tup n z n0 e r => .tup n z n0 (g _ _ z e) (RepVs.keep g r)
  | _, _, .obj n z m y n0 e es e' r => .obj n z m y n0 (g _ _ z e) es (g _ _ y e') (RepVs.keep g r)
  | _, _, .glob e => .glob e
  | _, _, .script => .script
theorem RepVs.keep {c : Cx} {φ h h'} (g : ∀ b o, b ∈ φ.z → h.get? b = some o → h'.get? b = some o) : ∀ {vs xs}, RepVs c φ h vs xs → RepVs c φ h' vs xs
  | _, _, .nil => .nil
  | _, _, .cons r rs => .cons (RepV.keep g r) (RepVs.keep g rs)
end

theorem RepVs.length {c : Cx} {φ h} : ∀ {vs xs}, RepVs c φ h vs xs → vs.length = xs.length
  | _, _, .nil => rfl
  | _, _, .cons _ r => by simp [r.length]
theorem RepVs.get {c : Cx} {φ h} : ∀ {vs xs}, RepVs c φ h vs xs → ∀ {i : Nat} {v}, vs[i]? = some v → ∃ x, xs[i]? = some x ∧ RepV c φ h v x
  | _, _, .nil, i, v, e => by simp at e
  | _, _, .cons r rs, 0, v, e => by
    simp at e; subst e; exact ⟨_, rfl, r⟩
  | _, _, .cons r rs, i + 1, v, e => by
    simp at e; obtain ⟨x, h1, h2⟩ := rs.get e; exact ⟨x, by simpa using h1, h2⟩
theorem RepVs.append {c : Cx} {φ h} : ∀ {vs xs ws ys}, RepVs c φ h vs xs → RepVs c φ h ws ys → RepVs c φ h (vs ++ ws) (xs ++ ys)
  | _, _, _, _, .nil, s => s
  | _, _, _, _, .cons r rs, s => .cons r (rs.append s)
theorem RepVs.take {c : Cx} {φ h} : ∀ {vs xs}, RepVs c φ h vs xs → ∀ n : Nat, RepVs c φ h (vs.take n) (xs.take n)
  | _, _, .nil, n => by simp; exact .nil
  | _, _, .cons r rs, 0 => by simp; exact .nil
  | _, _, .cons r rs, n + 1 => by simp; exact .cons r (rs.take n)
theorem RepVs.drop {c : Cx} {φ h} : ∀ {vs xs}, RepVs c φ h vs xs → ∀ n : Nat, RepVs c φ h (vs.drop n) (xs.drop n)
  | _, _, .nil, n => by simp; exact .nil
  | _, _, .cons r rs, 0 => by simp; exact .cons r rs
  | _, _, .cons r rs, n + 1 => by simp; exact rs.drop n
theorem RepVs.reverse {c : Cx} {φ h} : ∀ {vs xs}, RepVs c φ h vs xs → RepVs c φ h vs.reverse xs.reverse
  | _, _, .nil => .nil
  | _, _, .cons r rs => by simp only [List.reverse_cons]; exact rs.reverse.append (.cons r .nil)

/-- the object of the heap that bears an abstract one -/
inductive RepO (c : Cx) (φ : Mp) (h : Heap) : LO → Obj → Prop
  | list {vs xs n} : RepVs c φ h vs xs → RepO c φ h (.list vs) { cls := .type "list", data := .seq xs.toArray n }
  | inst {k : Nat} {fs : List (Option V)} {xs : Array (Option Value)} {b : Addr} : (∀ (i : Nat) v, (fs[i]?).join = some v → ∃ x, (xs[i]?).join = some x ∧ RepV c φ h v x) → (∀ i : Nat, (fs[i]?).join = none → (xs[i]?).join = none) →
      b ∉ φ.l → b ∈ φ.z → h.get? b = some (dictOf [] 0) → RepO c φ h (.inst k fs) ⟨.ref (c.cls k), some b, .plain, xs⟩
  | dict {kvs : List (Int × V)} {xs : List (Int × Value)} {o : Obj} : o.IsDictOf (intKind c.prog c.w) xs → xs.map (·.1) = kvs.map (·.1) → RepVs c φ h (kvs.map (·.2)) (xs.map (·.2)) → RepO c φ h (.dict kvs) o

theorem RepO.grow {c : Cx} {φ h φ' h'} (g : Grow φ h φ' h') {lo o} (r : RepO c φ h lo o) : RepO c φ' h' lo o := by
  cases r with
  | list r => exact .list (r.grow g)
  | dict d k r => exact .dict d k (r.grow g)
  | inst r z n y e => exact .inst (fun i v e => by obtain ⟨x, h1, h2⟩ := r i v e; exact ⟨x, h1, h2.grow g⟩) z (g.nin n e) (g.inz y) (g.keep _ _ e n)
theorem RepO.keep {c : Cx} {φ h h'} (g : ∀ b o, b ∈ φ.z → h.get? b = some o → h'.get? b = some o) {lo o} (r : RepO c φ h lo o) : RepO c φ h' lo o := by
  cases r with
  | list r => exact .list (r.keep g)
  | dict d k r => exact .dict d k (r.keep g)
  | inst r z n y e => exact .inst (fun i v e => by obtain ⟨x, h1, h2⟩ := r i v e; exact ⟨x, h1, h2.keep g⟩) z n y (g _ _ y e)

structure Ok (c : Cx) (φ : Mp) (H : HW) (h : Heap) : Prop where
  base : ∀ b o, c.h₀.get? b = some o → h.get? b = some o
  off : ∀ b o, c.h₀.get? b = some o → b ∉ φ.l
  len : φ.l.length = H.length
  nodup : φ.l.Nodup
  objs : ∀ (k : Nat) a lo, φ.l[k]? = some a → H[k]? = some lo → ∃ o, h.get? a = some o ∧ RepO c φ h lo o
  dj : ∀ a, a ∈ φ.z → a ∉ φ.l
  zl : ∀ a, a ∈ φ.z → ∃ o, h.get? a = some o
  g0 : ∃ o, c.h₀.get? mainGlobals = some o
  sm : ∀ a, a ∈ φ.l → a ≠ sysModules
theorem Ok.newS {c φ H h} (ok : Ok c φ H h) : h.objs.size ≠ sysModules := by
  obtain ⟨o, e⟩ := ok.g0
  have := Heap.lt_size (ok.base _ _ e)
  intro q
  rw [q] at this
  exact absurd this (by decide)
theorem Ok.newS1 {c φ H h} (ok : Ok c φ H h) : h.objs.size + 1 ≠ sysModules := by
  obtain ⟨o, e⟩ := ok.g0
  have := Heap.lt_size (ok.base _ _ e)
  intro q
  have h2 : mainGlobals < h.objs.size + 1 := Nat.lt_succ_of_lt this
  rw [q] at h2
  exact absurd h2 (by decide)

theorem Ok.live {c φ H h} (ok : Ok c φ H h) {a} (m : a ∈ φ.l) : ∃ o, h.get? a = some o := by
  obtain ⟨k, hk, e⟩ := List.getElem_of_mem m
  have hk' : k < H.length := by rw [← ok.len]; exact hk
  obtain ⟨o, e', _⟩ := ok.objs k a H[k] (by rw [List.getElem?_eq_getElem hk, e]) (List.getElem?_eq_getElem hk')
  exact ⟨o, e'⟩
/-- untracked objects alone are new -/
theorem Ok.keep {c φ H h h'} (ok : Ok c φ H h) (k : ∀ b o, h.get? b = some o → h'.get? b = some o) : Ok c φ H h' :=
  ⟨fun b o e => k b o (ok.base b o e), ok.off, ok.len, ok.nodup, fun i a lo e1 e2 => by
    obtain ⟨o, h1, h2⟩ := ok.objs i a lo e1 e2
    exact ⟨o, k _ _ h1, h2.keep fun b o _ e => k b o e⟩, ok.dj, fun a m => by obtain ⟨o, e⟩ := ok.zl a m; exact ⟨o, k _ _ e⟩, ok.g0, ok.sm⟩
/-- an object that is neither tracked nor leant on is turned -/
theorem Ok.same {c φ H h h'} (ok : Ok c φ H h) {L : Addr} (n : L ∉ φ.l) (z : L ∉ φ.z) (n0 : c.h₀.get? L = none) (k : ∀ b o, b ≠ L → h.get? b = some o → h'.get? b = some o) : Ok c φ H h' :=
  ⟨fun b o e => k b o (fun q => by rw [q, n0] at e; cases e) (ok.base b o e), ok.off, ok.len, ok.nodup, fun i a lo e1 e2 => by
    obtain ⟨o, h1, h2⟩ := ok.objs i a lo e1 e2
    exact ⟨o, k _ _ (fun q => n (q ▸ List.mem_of_getElem? e1)) h1, h2.keep fun b o y e => k b o (fun q => z (q ▸ y)) e⟩, ok.dj, fun a m => by obtain ⟨o, e⟩ := ok.zl a m; exact ⟨o, k _ _ (fun q => z (q ▸ m)) e⟩, ok.g0, ok.sm⟩
/-- a new object that values lean on -/
theorem Ok.freeze {c φ H h h'} (ok : Ok c φ H h) {a : Addr} {o : Obj} (n : h.get? a = none) (k : ∀ b o, h.get? b = some o → h'.get? b = some o) (e : h'.get? a = some o) :
    Ok c ⟨φ.l, φ.z ++ [a]⟩ H h' ∧ Grow φ h ⟨φ.l, φ.z ++ [a]⟩ h' := by
  have g : Grow φ h ⟨φ.l, φ.z ++ [a]⟩ h' := ⟨⟨[], [a], by simp, rfl, by simp, fun b m => by rw [List.mem_singleton.mp m]; exact n⟩, fun b o e _ => k b o e, fun b o e => ⟨o, k b o e⟩⟩
  refine ⟨⟨fun b o e => k b o (ok.base b o e), ok.off, ok.len, ok.nodup, fun i x lo' e1 e2 => ?_, fun b m => ?_, fun b m => ?_, ok.g0, ok.sm⟩, g⟩
  · obtain ⟨o', h1, h2⟩ := ok.objs i x lo' e1 e2
    exact ⟨o', k _ _ h1, h2.grow g⟩
  · rcases List.mem_append.mp m with m | m
    · exact ok.dj b m
    · rw [List.mem_singleton.mp m]
      intro q
      obtain ⟨o', e'⟩ := ok.live q
      rw [n] at e'; cases e'
  · rcases List.mem_append.mp m with m | m
    · obtain ⟨o, e⟩ := ok.zl b m; exact ⟨o, k _ _ e⟩
    · rw [List.mem_singleton.mp m]; exact ⟨o, e⟩
/-- a new tracked object -/
theorem Ok.alloc {c φ H h h'} (ok : Ok c φ H h) {a : Addr} {o : Obj} {lo : LO} (n : h.get? a = none) (k : ∀ b o, h.get? b = some o → h'.get? b = some o) (e : h'.get? a = some o) (r : RepO c φ h lo o) (hm : a ≠ sysModules) :
    Ok c ⟨φ.l ++ [a], φ.z⟩ (H ++ [lo]) h' ∧ Grow φ h ⟨φ.l ++ [a], φ.z⟩ h' := by
  have g : Grow φ h ⟨φ.l ++ [a], φ.z⟩ h' := ⟨⟨[a], [], rfl, by simp, fun b m => by rw [List.mem_singleton.mp m]; exact n, by simp⟩, fun b o e _ => k b o e, fun b o e => ⟨o, k b o e⟩⟩
  refine ⟨⟨fun b o e => k b o (ok.base b o e), fun b o e m => ?_, by simp [ok.len], ?_, fun i x lo' e1 e2 => ?_, fun b m q => ?_, fun b m => by obtain ⟨o, e⟩ := ok.zl b m; exact ⟨o, k _ _ e⟩, ok.g0, fun b m => (List.mem_append.mp m).elim (ok.sm b) fun q => by rw [List.mem_singleton.mp q]; exact hm⟩, g⟩
  · rcases List.mem_append.mp m with m | m
    · exact ok.off b o e m
    · rw [List.mem_singleton.mp m] at e; have := ok.base a o e; rw [n] at this; cases this
  · refine List.nodup_append.mpr ⟨ok.nodup, by simp, fun x m y m' q => ?_⟩
    rw [List.mem_singleton.mp m'] at q
    obtain ⟨o', e'⟩ := ok.live m
    rw [q, n] at e'; cases e'
  · by_cases hi : i < φ.l.length
    · rw [List.getElem?_append_left hi] at e1
      rw [List.getElem?_append_left (by rw [← ok.len]; exact hi)] at e2
      obtain ⟨o', h1, h2⟩ := ok.objs i x lo' e1 e2
      exact ⟨o', k _ _ h1, h2.grow g⟩
    · have hi' : φ.l.length ≤ i := Nat.not_lt.mp hi
      rw [List.getElem?_append_right hi'] at e1
      rw [List.getElem?_append_right (by rw [← ok.len]; exact hi'), ← ok.len] at e2
      cases q : i - φ.l.length with
      | zero =>
        rw [q] at e1 e2
        simp at e1 e2
        subst e1 e2
        exact ⟨o, e, r.grow g⟩
      | succ j => rw [q] at e1; simp at e1
  · rcases List.mem_append.mp q with q | q
    · exact ok.dj b m q
    · obtain ⟨o', e'⟩ := ok.zl b m
      rw [List.mem_singleton.mp q, n] at e'; cases e'
/-- a tracked object is turned -/
theorem Ok.put {c φ H h h'} (ok : Ok c φ H h) {k : Nat} {a : Addr} {o : Obj} {lo : LO} (ek : φ.l[k]? = some a) (sb : ∀ b o, b ≠ a → h.get? b = some o → h'.get? b = some o) (e : h'.get? a = some o) (r : RepO c φ h lo o) :
    Ok c φ (H.set k lo) h' ∧ Grow φ h φ h' := by
  have ma : a ∈ φ.l := List.mem_of_getElem? ek
  have g : Grow φ h φ h' := ⟨⟨[], [], by simp, by simp, by simp, by simp⟩, fun b o e n => sb b o (fun q => n (q ▸ ma)) e, fun b o' e' => by
    by_cases q : b = a
    · exact ⟨o, q ▸ e⟩
    · exact ⟨o', sb b o' q e'⟩⟩
  refine ⟨⟨fun b o e => sb b o (fun q => ok.off b o e (q ▸ ma)) (ok.base b o e), ok.off, by simp [ok.len], ok.nodup, fun i x lo' e1 e2 => ?_, ok.dj, fun b m => by obtain ⟨o, e⟩ := ok.zl b m; exact ⟨o, sb _ _ (fun q => ok.dj b m (q ▸ ma)) e⟩, ok.g0, ok.sm⟩, g⟩
  by_cases q : i = k
  · subst q
    rw [e1] at ek
    cases ek
    rw [List.getElem?_set_self (by rw [← ok.len]; exact (List.getElem?_eq_some_iff.mp e1).1)] at e2
    cases e2
    exact ⟨o, e, r.grow g⟩
  · rw [List.getElem?_set_ne (Ne.symm q)] at e2
    obtain ⟨o', h1, h2⟩ := ok.objs i x lo' e1 e2
    refine ⟨o', sb _ _ (fun z => q ?_) h1, h2.grow g⟩
    subst z
    obtain ⟨l1, e1'⟩ := List.getElem?_eq_some_iff.mp e1
    obtain ⟨l2, ek'⟩ := List.getElem?_eq_some_iff.mp ek
    exact (List.getElem_inj (h₀ := l1) (h₁ := l2) ok.nodup).mp (e1'.trans ek'.symm)
end Mine

namespace Mine

inductive Fl where
  | next
  | ret (v : V)

def RepF (c : Cx) (φ : Mp) (h : Heap) : Fl → Flow → Prop
  | .next, .next => True
  | .ret v, .ret x => RepV c φ h v x
  | _, _ => False

structure EnvOK (sc : Scope) (env : Env) : Prop where
  scope : env.scope = sc
  glob : env.globals = mainGlobals
  bi : env.builtins = builtinsNs
theorem EnvOK.kind {sc env} (e : EnvOK sc env) (x : Str) : env.kindOf x = sc.names.lookup x := by
  unfold Env.kindOf; rw [e.scope]

structure AOK (d : Nat) (A : Around) : Prop where
  handled : A.handled = none
  depth : A.depth + d < 900
  units : A.units + 20 * d < 9000

def Rest (s s' : Shared) : Prop := ∃ h t, s' = { s with heap := h, toks := t }
theorem Rest.refl (s : Shared) : Rest s s := ⟨s.heap, s.toks, rfl⟩
theorem Rest.trans {a b c : Shared} (x : Rest a b) (y : Rest b c) : Rest a c := by
  obtain ⟨_, _, rfl⟩ := x
  obtain ⟨_, _, rfl⟩ := y
  exact ⟨_, _, rfl⟩
theorem Rest.mk (s : Shared) (h t) : Rest s { s with heap := h, toks := t } := ⟨h, t, rfl⟩

structure Vars (c : Cx) (ρ : List Str) (φ : Mp) (h : Heap) (env : Env) (sl : Sl) : Prop where
  nd : ρ.Nodup
  len : sl.length = ρ.length
  offL : env.locals ∉ φ.l
  offZ : env.locals ∉ φ.z
  newL : c.h₀.get? env.locals = none
  loc : ∃ m, h.Ns env.locals m ∧ ∀ (i : Nat) x v, ρ[i]? = some x → env.kindOf x = some .local → sl[i]? = some (some v) → ∃ y, m x = some y ∧ RepV c φ h v y
  offC : ∀ x a, env.cells.lookup x = some a → a ∉ φ.l ∧ a ∉ φ.z ∧ c.h₀.get? a = none ∧ ∃ y, h.IsCell a y
  inj : ∀ x y a, env.cells.lookup x = some a → env.cells.lookup y = some a → x = y
  cel : ∀ (i : Nat) x v, ρ[i]? = some x → (env.kindOf x = some .cell ∨ env.kindOf x = some .free) → sl[i]? = some (some v) → ∃ a y, env.cells.lookup x = some a ∧ h.IsCell a (some y) ∧ RepV c φ h v y
  has : ∀ (i : Nat) x, ρ[i]? = some x → env.kindOf x = some .cell → ∃ a, env.cells.lookup x = some a

theorem Vars.grow {c ρ φ h env sl φ' h'} (v : Vars c ρ φ h env sl) (g : Grow φ h φ' h') : Vars c ρ φ' h' env sl := by
  obtain ⟨m, hn, hm⟩ := v.loc
  obtain ⟨o, es, ep, ho, r⟩ := id hn
  refine ⟨v.nd, v.len, g.nin v.offL ho, g.ninz v.offZ ho, v.newL, ⟨m, ⟨o, es, ep, g.keep _ _ ho v.offL, r⟩, fun i x w h1 h2 h3 => ?_⟩, fun x a e => ?_, v.inj, fun i x w h1 h2 h3 => ?_, v.has⟩
  · obtain ⟨y, h4, h5⟩ := hm i x w h1 h2 h3
    exact ⟨y, h4, h5.grow g⟩
  · obtain ⟨n, z, n0, y, o', ho', hd⟩ := v.offC x a e
    exact ⟨g.nin n ho', g.ninz z ho', n0, y, o', g.keep _ _ ho' n, hd⟩
  · obtain ⟨a, y, h4, ⟨o', ho', hd⟩, h6⟩ := v.cel i x w h1 h2 h3
    exact ⟨a, y, h4, ⟨o', g.keep _ _ ho' (v.offC x a h4).1, hd⟩, h6.grow g⟩

/-- what statements leave as it was -/
structure GrowS (env : Env) (φ : Mp) (h : Heap) (φ' : Mp) (h' : Heap) : Prop where
  ext : ∃ δ ζ, φ'.l = φ.l ++ δ ∧ φ'.z = φ.z ++ ζ ∧ (∀ a ∈ δ, h.get? a = none) ∧ ∀ a ∈ ζ, h.get? a = none
  keep : ∀ b o, h.get? b = some o → b ∉ φ.l → b ≠ env.locals → (∀ x, env.cells.lookup x ≠ some b) → h'.get? b = some o
  live : ∀ b o, h.get? b = some o → ∃ o', h'.get? b = some o'
theorem GrowS.nin {env φ h φ' h'} (g : GrowS env φ h φ' h') {a o} (n : a ∉ φ.l) (e : h.get? a = some o) : a ∉ φ'.l := by
  obtain ⟨δ, ζ, e1, e2, hd, hz⟩ := g.ext
  rw [e1]
  intro m
  rcases List.mem_append.mp m with m | m
  · exact n m
  · rw [hd a m] at e; cases e
theorem GrowS.ninz {env φ h φ' h'} (g : GrowS env φ h φ' h') {a o} (n : a ∉ φ.z) (e : h.get? a = some o) : a ∉ φ'.z := by
  obtain ⟨δ, ζ, e1, e2, hd, hz⟩ := g.ext
  rw [e2]
  intro m
  rcases List.mem_append.mp m with m | m
  · exact n m
  · rw [hz a m] at e; cases e
theorem GrowS.at {env φ h φ' h'} (g : GrowS env φ h φ' h') {k : Nat} {a} (e : φ.l[k]? = some a) : φ'.l[k]? = some a := by
  obtain ⟨δ, ζ, e1, _, _⟩ := g.ext
  rw [e1, List.getElem?_append_left]
  · exact e
  · exact (List.getElem?_eq_some_iff.mp e).1
theorem GrowS.trans {env φ h φ₁ h₁ φ₂ h₂} (g : GrowS env φ h φ₁ h₁) (g' : GrowS env φ₁ h₁ φ₂ h₂) : GrowS env φ h φ₂ h₂ := by
  refine ⟨?_, fun b o e n n1 n2 => g'.keep b o (g.keep b o e n n1 n2) (g.nin n e) n1 n2, fun b o e => ?_⟩
  · obtain ⟨δ, ζ, e1, e2, hd, hz⟩ := g.ext
    obtain ⟨δ', ζ', e1', e2', hd', hz'⟩ := g'.ext
    refine ⟨δ ++ δ', ζ ++ ζ', by simp [e1, e1'], by simp [e2, e2'], fun a m => ?_, fun a m => ?_⟩
    · rcases List.mem_append.mp m with m | m
      · exact hd a m
      · cases q : h.get? a with
        | none => rfl
        | some o => obtain ⟨o', e'⟩ := g.live a o q; rw [hd' a m] at e'; cases e'
    · rcases List.mem_append.mp m with m | m
      · exact hz a m
      · cases q : h.get? a with
        | none => rfl
        | some o => obtain ⟨o', e'⟩ := g.live a o q; rw [hz' a m] at e'; cases e'
  · obtain ⟨o', e'⟩ := g.live b o e
    exact g'.live b o' e'
theorem GrowS.refl (env φ h) : GrowS env φ h φ h := ⟨⟨[], [], by simp, by simp, by simp, by simp⟩, fun _ _ e _ _ _ => e, fun _ o e => ⟨o, e⟩⟩
theorem Grow.toS {env φ h φ' h'} (g : Grow φ h φ' h') : GrowS env φ h φ' h' := ⟨g.ext, fun b o e n _ _ => g.keep b o e n, g.live⟩

def PostE (c : Cx) (φ : Mp) (s : Shared) (Q : V → HW → Prop) (x : Value) (s' : Shared) : Prop :=
  ∃ v H φ', Q v H ∧ Ok c φ' H s'.heap ∧ RepV c φ' s'.heap v x ∧ Grow φ s.heap φ' s'.heap ∧ Rest s s'
def PostEs (c : Cx) (φ : Mp) (s : Shared) (Q : List V → HW → Prop) (x : List Value) (s' : Shared) : Prop :=
  ∃ v H φ', Q v H ∧ Ok c φ' H s'.heap ∧ RepVs c φ' s'.heap v x ∧ Grow φ s.heap φ' s'.heap ∧ Rest s s'
def PostT (c : Cx) (φ : Mp) (s : Shared) (Q : Bool → HW → Prop) (b : Bool) (s' : Shared) : Prop :=
  ∃ H φ', Q b H ∧ Ok c φ' H s'.heap ∧ Grow φ s.heap φ' s'.heap ∧ Rest s s'
def PostS (c : Cx) (ρ : List Str) (env : Env) (φ : Mp) (s : Shared) (Q : Fl → Sl → HW → Prop) (f : Flow) (s' : Shared) : Prop :=
  ∃ F sl H φ', Q F sl H ∧ Ok c φ' H s'.heap ∧ Vars c ρ φ' s'.heap env sl ∧ RepF c φ' s'.heap F f ∧ GrowS env φ s.heap φ' s'.heap ∧ Rest s s'

abbrev WE := Sl → HW → (V → HW → Prop) → Prop
abbrev WEs := Sl → HW → (List V → HW → Prop) → Prop
abbrev WT := Sl → HW → (Bool → HW → Prop) → Prop
abbrev WS := Sl → HW → (Fl → Sl → HW → Prop) → Prop
abbrev WF := List V → HW → (V → HW → Prop) → Prop

def Ev (c : Cx) (d : Nat) (sc : Scope) (ρ : List Str) (e : Expr) (W : WE) : Prop :=
  ∀ env A E s φ sl H Q, EnvOK sc env → AOK d A → Ok c φ H s.heap → Vars c ρ φ s.heap env sl → W sl H Q → wpAny (model c.prog c.w) A (eval e env) (PostE c φ s Q) E s
def Evs (c : Cx) (d : Nat) (sc : Scope) (ρ : List Str) (es : List Expr) (W : WEs) : Prop :=
  (∀ env, starEach es env = es.map fun e => (false, eval e env)) ∧ ∀ env A E s φ sl H Q, EnvOK sc env → AOK d A → Ok c φ H s.heap → Vars c ρ φ s.heap env sl → W sl H Q → ∀ pos, wpAny (model c.prog c.w) A (spliced (backTo pos (starEach es env))) (PostEs c φ s Q) E s
def Et (c : Cx) (d : Nat) (sc : Scope) (ρ : List Str) (e : Expr) (W : WT) : Prop :=
  ∀ env A E s φ sl H Q, EnvOK sc env → AOK d A → Ok c φ H s.heap → Vars c ρ φ s.heap env sl → W sl H Q → wpAny (model c.prog c.w) A (isTrue e env (eval e env)) (PostT c φ s Q) E s
def Ex (c : Cx) (d : Nat) (sc : Scope) (ρ : List Str) (e : Stmt) (W : WS) : Prop :=
  ∀ env A E s φ sl H Q, EnvOK sc env → AOK d A → Ok c φ H s.heap → Vars c ρ φ s.heap env sl → W sl H Q → wpAny (model c.prog c.w) A (exec e env) (PostS c ρ env φ s Q) E s
def Exs (c : Cx) (d : Nat) (sc : Scope) (ρ : List Str) (e : List Stmt) (W : WS) : Prop :=
  ∀ env A E s φ sl H Q, EnvOK sc env → AOK d A → Ok c φ H s.heap → Vars c ρ φ s.heap env sl → W sl H Q → wpAny (model c.prog c.w) A (execs e env) (PostS c ρ env φ s Q) E s
/-- a callable of the text keeps to a contract -/
def FnOK (c : Cx) (d : Nat) (f : Value) (W : WF) : Prop :=
  ∀ A E s φ H args vals Q, AOK d A → Ok c φ H s.heap → RepVs c φ s.heap args vals → W args H Q → wpAny (model c.prog c.w) A (call f vals) (PostE c φ s Q) E s

section
variable {c : Cx} {d : Nat} {sc : Scope} {ρ : List Str}

/-- a value that is at hand -/
theorem PostE.here {φ : Mp} {s s' : Shared} {Q : V → HW → Prop} {x : Value} {v : V} {H : HW} (q : Q v H) (ok : Ok c φ H s'.heap) (r : RepV c φ s'.heap v x) (k : ∀ b o, s.heap.get? b = some o → s'.heap.get? b = some o) (rs : Rest s s') : PostE c φ s Q x s' :=
  ⟨v, H, φ, q, ok, r, .of_keep k, rs⟩
theorem PostE.shift {φ φ₁ : Mp} {s s₁ s' : Shared} {Q : V → HW → Prop} {x : Value} (g : Grow φ s.heap φ₁ s₁.heap) (r : Rest s s₁) (p : PostE c φ₁ s₁ Q x s') : PostE c φ s Q x s' := by
  obtain ⟨v, H, φ', q, ok, rv, g', r'⟩ := p
  exact ⟨v, H, φ', q, ok, rv, g.trans g', r.trans r'⟩
theorem PostEs.shift {φ φ₁ : Mp} {s s₁ s' : Shared} {Q : List V → HW → Prop} {x : List Value} (g : Grow φ s.heap φ₁ s₁.heap) (r : Rest s s₁) (p : PostEs c φ₁ s₁ Q x s') : PostEs c φ s Q x s' := by
  obtain ⟨v, H, φ', q, ok, rv, g', r'⟩ := p
  exact ⟨v, H, φ', q, ok, rv, g.trans g', r.trans r'⟩
theorem PostT.shift {φ φ₁ : Mp} {s s₁ s' : Shared} {Q : Bool → HW → Prop} {x : Bool} (g : Grow φ s.heap φ₁ s₁.heap) (r : Rest s s₁) (p : PostT c φ₁ s₁ Q x s') : PostT c φ s Q x s' := by
  obtain ⟨H, φ', q, ok, g', r'⟩ := p
  exact ⟨H, φ', q, ok, g.trans g', r.trans r'⟩
theorem PostS.shift {env : Env} {φ φ₁ : Mp} {s s₁ s' : Shared} {Q : Fl → Sl → HW → Prop} {x : Flow} (g : GrowS env φ s.heap φ₁ s₁.heap) (r : Rest s s₁) (p : PostS c ρ env φ₁ s₁ Q x s') : PostS c ρ env φ s Q x s' := by
  obtain ⟨F, sl, H, φ', q, ok, vs, rf, g', r'⟩ := p
  exact ⟨F, sl, H, φ', q, ok, vs, rf, g.trans g', r.trans r'⟩

/-! ### names -/
def wVar (i : Nat) : WE := fun sl H Q => match sl[i]? with | some (some v) => Q v H | _ => False

theorem wVar_of {i : Nat} {sl : Sl} {H : HW} {Q : V → HW → Prop} (h : wVar i sl H Q) : ∃ v, sl[i]? = some (some v) ∧ Q v H := by
  unfold wVar at h
  split at h
  · rename_i v e; exact ⟨v, e, h⟩
  · exact h.elim

theorem ev_local {i : Nat} {x : Str} {pos : Pos} (hi : ρ[i]? = some x) (hx : sc.names.lookup x = some .local) (hk : sc.kind = .function) (hd : (x == ("__debug__" : Str)) = false) : Ev c d sc ρ (.Name x pos) (wVar i) := by
  intro env A E s φ sl H Q eo ao ok vs w
  obtain ⟨v, e, q⟩ := wVar_of w
  have kx := (eo.kind x).trans hx
  obtain ⟨m, hn, hm⟩ := vs.loc
  obtain ⟨y, h1, h2⟩ := hm i x v hi kx e
  exact wpAny_Name (wpAny_loadName_local (by rw [eo.scope]; exact hk) kx hn h1 (.here q ok h2 (fun _ _ e => e) (Rest.refl s))) hd
theorem ev_cell {i : Nat} {x : Str} {pos : Pos} (hi : ρ[i]? = some x) (hx : sc.names.lookup x = some .cell) (hk : sc.kind = .function) (hd : (x == ("__debug__" : Str)) = false) : Ev c d sc ρ (.Name x pos) (wVar i) := by
  intro env A E s φ sl H Q eo ao ok vs w
  obtain ⟨v, e, q⟩ := wVar_of w
  have kx := (eo.kind x).trans hx
  obtain ⟨a, y, h1, h2, h3⟩ := vs.cel i x v hi (.inl kx) e
  exact wpAny_Name (wpAny_loadName_cell (by rw [eo.scope]; exact hk) kx h1 h2 (.here q ok h3 (fun _ _ e => e) (Rest.refl s))) hd
/-- storing a name -/
theorem store_okK {i : Nat} {x : Str} {env : Env} {A : Around} {E : Value → Shared → Prop} {s : Shared} {φ : Mp} {sl : Sl} {H : HW} {v : V} {y : Value} {R : Unit → Shared → Prop}
    (hi : ρ[i]? = some x) (hx : sc.names.lookup x = some .local ∨ sc.names.lookup x = some .cell) (hk : sc.kind = .function) (eo : EnvOK sc env) (ok : Ok c φ H s.heap) (vs : Vars c ρ φ s.heap env sl) (rv : RepV c φ s.heap v y)
    (k : ∀ s', Ok c φ H s'.heap → Vars c ρ φ s'.heap env (sl.set i (some v)) → GrowS env φ s.heap φ s'.heap → Rest s s' → (∀ b o, b ≠ env.locals → env.cells.lookup x ≠ some b → s.heap.get? b = some o → s'.heap.get? b = some o) → R () s') : wpAny (model c.prog c.w) A (storeName env x y) R E s := by
  obtain ⟨m, hn, hm⟩ := id vs.loc
  have LC : ∀ a z, s.heap.IsCell a z → a ≠ env.locals := fun a z hz q => by
    obtain ⟨o', ho', hd⟩ := hz
    obtain ⟨o2, es, ep, ho2, hd2, _⟩ := hn
    rw [q, ho2] at ho'; cases ho'; rw [hd] at hd2; cases hd2
  have jx : ∀ j z, ρ[j]? = some z → z = x → j = i := fun j z e q => by
    subst q
    obtain ⟨l1, e1⟩ := List.getElem?_eq_some_iff.mp e
    obtain ⟨l2, e2⟩ := List.getElem?_eq_some_iff.mp hi
    exact (List.getElem_inj (h₀ := l1) (h₁ := l2) vs.nd).mp (e1.trans e2.symm)
  have il : i < sl.length := by rw [vs.len]; exact (List.getElem?_eq_some_iff.mp hi).1
  rcases hx with hx | hx
  · have kx := (eo.kind x).trans hx
    refine wpAny_storeName_local kx hn (fun h' hn' sb => ?_) (by rw [eo.scope, hk]; rfl)
    have kp : ∀ b o, b ≠ env.locals → s.heap.get? b = some o → h'.get? b = some o := fun b o n e => (sb.2 b n).trans e
    have kv : ∀ b o, b ∈ φ.z → s.heap.get? b = some o → h'.get? b = some o := fun b o z e => kp b o (fun q => vs.offZ (q ▸ z)) e
    have ok' := ok.same vs.offL vs.offZ vs.newL kp
    refine k _ ok' ⟨vs.nd, by simp [vs.len], vs.offL, vs.offZ, vs.newL, ⟨_, hn', fun j z w h1 h2 h3 => ?_⟩, fun z a e => ?_, vs.inj, fun j z w h1 h2 h3 => ?_, vs.has⟩ ⟨⟨[], [], by simp, by simp, by simp, by simp⟩, fun b o e _ n _ => kp b o n e, fun b o e => ?_⟩ (Rest.mk ..) (fun b o n _ e => kp b o n e)
    · by_cases q : z = x
      · have := jx j z h1 q
        subst this
        rw [List.getElem?_set_self il] at h3
        cases h3
        exact ⟨y, by simp [q], rv.keep kv⟩
      · rw [List.getElem?_set_ne (fun z2 => q (by subst z2; rw [hi] at h1; cases h1; rfl))] at h3
        obtain ⟨y', h4, h5⟩ := hm j z w h1 h2 h3
        exact ⟨y', by simp [q, h4], h5.keep kv⟩
    · obtain ⟨a1, az, a2, z', ha⟩ := vs.offC z a e
      obtain ⟨oc, ho, hdc⟩ := id ha
      exact ⟨a1, az, a2, z', oc, kp a oc (LC a z' ha) ho, hdc⟩
    · have q : z ≠ x := fun q => by subst q; rw [kx] at h2; rcases h2 with h2 | h2 <;> cases h2
      rw [List.getElem?_set_ne (fun z2 => q (by subst z2; rw [hi] at h1; cases h1; rfl))] at h3
      obtain ⟨a, y', h4, h5, h6⟩ := vs.cel j z w h1 h2 h3
      obtain ⟨oc, ho, hdc⟩ := id h5
      exact ⟨a, y', h4, ⟨oc, kp a oc (LC a _ h5) ho, hdc⟩, h6.keep kv⟩
    · by_cases q : b = env.locals
      · obtain ⟨o2, _, _, ho2, _⟩ := hn'
        exact ⟨o2, q ▸ ho2⟩
      · exact ⟨o, kp b o q e⟩
  · have kx := (eo.kind x).trans hx
    obtain ⟨a, ea⟩ := vs.has i x hi kx
    obtain ⟨a1, az, a2, z0, ha⟩ := vs.offC x a ea
    refine wpAny_storeName_cell (by rw [eo.scope]; exact hk) kx ea ha fun h' hv' sb => ?_
    have kp : ∀ b o, b ≠ a → s.heap.get? b = some o → h'.get? b = some o := fun b o n e => (sb.2 b n).trans e
    have kv : ∀ b o, b ∈ φ.z → s.heap.get? b = some o → h'.get? b = some o := fun b o z e => kp b o (fun q => az (q ▸ z)) e
    have ok' := ok.same a1 az a2 kp
    obtain ⟨o2, es, ep, ho2, r2⟩ := id hn
    refine k _ ok' ⟨vs.nd, by simp [vs.len], vs.offL, vs.offZ, vs.newL, ⟨m, ⟨o2, es, ep, kp _ o2 (fun q => LC a z0 ha q.symm) ho2, r2⟩, fun j z w h1 h2 h3 => ?_⟩, fun z b e => ?_, vs.inj, fun j z w h1 h2 h3 => ?_, vs.has⟩ ⟨⟨[], [], by simp, by simp, by simp, by simp⟩, fun b o e _ _ n => kp b o (fun q => n x (q ▸ ea)) e, fun b o e => ?_⟩ ⟨h', s.toks, rfl⟩ (fun b o _ n e => kp b o (fun q => n (q ▸ ea)) e)
    · have q : z ≠ x := fun q => by subst q; rw [kx] at h2; cases h2
      rw [List.getElem?_set_ne (fun z2 => q (by subst z2; rw [hi] at h1; cases h1; rfl))] at h3
      obtain ⟨y', h4, h5⟩ := hm j z w h1 h2 h3
      exact ⟨y', h4, h5.keep kv⟩
    · by_cases q : b = a
      · subst q
        exact ⟨a1, az, a2, _, hv'⟩
      · obtain ⟨b1, bz, b2, z', oc, ho, hdc⟩ := vs.offC z b e
        exact ⟨b1, bz, b2, z', oc, kp b oc q ho, hdc⟩
    · by_cases q : z = x
      · have := jx j z h1 q
        subst this
        rw [List.getElem?_set_self il] at h3
        cases h3
        exact ⟨a, y, q ▸ ea, hv', rv.keep kv⟩
      · rw [List.getElem?_set_ne (fun z2 => q (by subst z2; rw [hi] at h1; cases h1; rfl))] at h3
        obtain ⟨b, y', h4, h5, h6⟩ := vs.cel j z w h1 h2 h3
        obtain ⟨oc, ho, hdc⟩ := id h5
        exact ⟨b, y', h4, ⟨oc, kp b oc (fun z2 => q (vs.inj z x a (z2 ▸ h4) ea)) ho, hdc⟩, h6.keep kv⟩
    · by_cases q : b = a
      · obtain ⟨o3, ho3, _⟩ := hv'
        exact ⟨o3, q ▸ ho3⟩
      · exact ⟨o, kp b o q e⟩
theorem store_ok {i : Nat} {x : Str} {env : Env} {A : Around} {E : Value → Shared → Prop} {s : Shared} {φ : Mp} {sl : Sl} {H : HW} {v : V} {y : Value} {R : Unit → Shared → Prop}
    (hi : ρ[i]? = some x) (hx : sc.names.lookup x = some .local ∨ sc.names.lookup x = some .cell) (hk : sc.kind = .function) (eo : EnvOK sc env) (ok : Ok c φ H s.heap) (vs : Vars c ρ φ s.heap env sl) (rv : RepV c φ s.heap v y)
    (k : ∀ s', Ok c φ H s'.heap → Vars c ρ φ s'.heap env (sl.set i (some v)) → GrowS env φ s.heap φ s'.heap → Rest s s' → R () s') : wpAny (model c.prog c.w) A (storeName env x y) R E s :=
  store_okK hi hx hk eo ok vs rv fun s' h1 h2 h3 h4 _ => k s' h1 h2 h3 h4
end
end Mine

namespace Mine
section
variable {c : Cx} {d : Nat} {sc : Scope} {ρ : List Str}

theorem Ok.X {φ H h} (G : Good c) (ok : Ok c φ H h) : c.K.In h := G.X.keeps ok.base
theorem Ok.G {φ H h} (G : Good c) (ok : Ok c φ H h) : h.Ns mainGlobals c.mg := G.G.keeps ok.base
theorem Ok.B {φ H h} (G : Good c) (ok : Ok c φ H h) : h.Ns builtinsNs c.mb := G.B.keeps ok.base

/-! ### constants -/
def wK (v : V) : WE := fun _ H Q => Q v H
theorem ev_none {k pos} : Ev c d sc ρ (.Constant .none k pos) (wK .none) := fun _ _ _ _ _ _ _ _ _ _ ok _ w =>
  wpAny_pure (.here w ok .none (fun _ _ e => e) (Rest.refl _))
theorem ev_bool {b k pos} : Ev c d sc ρ (.Constant (.bool b) k pos) (wK (.bool b)) := fun _ _ _ _ _ _ _ _ _ _ ok _ w =>
  wpAny_pure (.here w ok .bool (fun _ _ e => e) (Rest.refl _))
theorem ev_int {i k pos} : Ev c d sc ρ (.Constant (.int i) k pos) (wK (.int i)) := fun _ _ _ s _ _ _ _ _ _ ok _ w =>
  wpAny_Constant_int (.here w ok .int (fun _ _ e => e) (Rest.mk s s.heap _))
theorem ev_str {x k pos} : Ev c d sc ρ (.Constant (.str x) k pos) (wK (.str x)) := fun _ _ _ s _ _ _ _ _ _ ok _ w =>
  wpAny_mkText (.here w ok .str (fun _ _ e => e) (Rest.mk s s.heap _))

/-! ### two operands -/
abbrev WB := V → V → HW → (V → HW → Prop) → Prop
def wBin (f : WB) (a b : WE) : WE := fun sl H Q => a sl H fun v H₁ => b sl H₁ fun w H₂ => f v w H₂ Q
def BinOK (c : Cx) (d : Nat) (op : Operator) (f : WB) : Prop :=
  ∀ A E s φ H v w x y Q, AOK d A → Ok c φ H s.heap → RepV c φ s.heap v x → RepV c φ s.heap w y → f v w H Q → wpAny (model c.prog c.w) A (binaryOp op x y) (PostE c φ s Q) E s
def CmpOK (c : Cx) (d : Nat) (op : CmpOp) (f : WB) : Prop :=
  ∀ A E s φ H v w x y Q, AOK d A → Ok c φ H s.heap → RepV c φ s.heap v x → RepV c φ s.heap w y → f v w H Q → wpAny (model c.prog c.w) A (compareOp op x y) (PostE c φ s Q) E s

theorem ev_bin {op f l r pos a b} (B : BinOK c d op f) (hl : Ev c d sc ρ l a) (hr : Ev c d sc ρ r b) : Ev c d sc ρ (.BinOp l op r pos) (wBin f a b) := by
  intro env A E s φ sl H Q eo ao ok vs w
  refine wpAny_BinOp (wpAny_mono (hl env A E s φ sl H _ eo ao ok vs w) (fun x s₁ p₁ => ?_) fun _ _ e => e)
  obtain ⟨v, H₁, φ₁, w₁, ok₁, rv, g₁, r₁⟩ := p₁
  refine wpAny_mono (hr env A E s₁ φ₁ sl H₁ _ eo ao ok₁ (vs.grow g₁) w₁) (fun y s₂ p₂ => ?_) fun _ _ e => e
  obtain ⟨u, H₂, φ₂, w₂, ok₂, ru, g₂, r₂⟩ := p₂
  exact wpAny_mono (B A E s₂ φ₂ H₂ v u x y Q ao ok₂ (rv.grow g₂) ru w₂) (fun z s₃ p₃ => p₃.shift (g₁.trans g₂) (r₁.trans r₂)) fun _ _ e => e
theorem ev_cmp {op f l r pos a b} (B : CmpOK c d op f) (hl : Ev c d sc ρ l a) (hr : Ev c d sc ρ r b) (hm : behindInMarks op r = false := by with_unfolding_all rfl) : Ev c d sc ρ (.Compare l [op] [r] pos) (wBin f a b) := by
  intro env A E s φ sl H Q eo ao ok vs w
  refine wpAny_Compare1 (wpAny_mono (hl env A E s φ sl H _ eo ao ok vs w) (fun x s₁ p₁ => ?_) fun _ _ e => e) hm
  obtain ⟨v, H₁, φ₁, w₁, ok₁, rv, g₁, r₁⟩ := p₁
  refine wpAny_mono (hr env A E s₁ φ₁ sl H₁ _ eo ao ok₁ (vs.grow g₁) w₁) (fun y s₂ p₂ => ?_) fun _ _ e => e
  obtain ⟨u, H₂, φ₂, w₂, ok₂, ru, g₂, r₂⟩ := p₂
  exact wpAny_mono (B A E s₂ φ₂ H₂ v u x y Q ao ok₂ (rv.grow g₂) ru w₂) (fun z s₃ p₃ => p₃.shift (g₁.trans g₂) (r₁.trans r₂)) fun _ _ e => e

def onI (f : Int → Int → V) : WB := fun v w H Q => match v, w with | .int i, .int j => Q (f i j) H | _, _ => False
theorem onI_of {f v w H Q} (h : onI f v w H Q) : ∃ i j, v = .int i ∧ w = .int j ∧ Q (f i j) H := by
  unfold onI at h
  split at h
  · exact ⟨_, _, rfl, rfl, h⟩
  · exact h.elim
theorem add_ok : BinOK c d .Add (onI fun i j => .int (i + j)) := by
  intro A E s φ H v w x y Q ao ok rv rw' q
  obtain ⟨i, j, rfl, rfl, q⟩ := onI_of q
  cases rv; cases rw'
  exact add_int (.here q ok .int (fun _ _ e => e) (Rest.mk s s.heap _))
theorem sub_ok : BinOK c d .Sub (onI fun i j => .int (i - j)) := by
  intro A E s φ H v w x y Q ao ok rv rw' q
  obtain ⟨i, j, rfl, rfl, q⟩ := onI_of q
  cases rv; cases rw'
  exact sub_int (.here q ok .int (fun _ _ e => e) (Rest.mk s s.heap _))
/-- % and // by a number that is not nought and small -/
def wMod : WB := fun v w H Q => match v, w with | .int i, .int j => j ≠ 0 ∧ Q (.int (i.fmod j)) H | _, _ => False
theorem mod_ok : BinOK c d .Mod wMod := by
  intro A E s φ H v w x y Q ao ok rv rw' q
  unfold wMod at q
  split at q
  · cases rv; cases rw'
    exact mod_int' q.1 (.here q.2 ok .int (fun _ _ e => e) (Rest.mk s s.heap _))
  · exact q.elim
def wDiv : WB := fun v w H Q => match v, w with | .int i, .int j => (j ≠ 0 ∧ j.natAbs < 1073741824) ∧ Q (.int (i.fdiv j)) H | _, _ => False
theorem div_ok : BinOK c d .FloorDiv wDiv := by
  intro A E s φ H v w x y Q ao ok rv rw' q
  unfold wDiv at q
  split at q
  · cases rv; cases rw'
    exact floordiv_int q.1.1 (.here q.2 ok .int (fun _ _ e => e) (Rest.mk s s.heap _)) (.inl (PyProof.noPylong_small q.1.2))
  · exact q.elim
theorem lt_okI : CmpOK c d .Lt (onI fun i j => .bool (decide (i < j))) := by
  intro A E s φ H v w x y Q ao ok rv rw' q
  obtain ⟨i, j, rfl, rfl, q⟩ := onI_of q
  cases rv; cases rw'
  exact lt_int (.here q ok .bool (fun _ _ e => e) (Rest.refl s))
theorem gt_okI : CmpOK c d .Gt (onI fun i j => .bool (decide (j < i))) := by
  intro A E s φ H v w x y Q ao ok rv rw' q
  obtain ⟨i, j, rfl, rfl, q⟩ := onI_of q
  cases rv; cases rw'
  exact gt_int (.here q ok .bool (fun _ _ e => e) (Rest.refl s))
/-- «is None» -/
def isN : V → Bool | .none => true | _ => false
theorem isN_of {φ h v x} (r : RepV c φ h v x) : (x == Value.none) = isN v := by cases r <;> rfl
def wIsN (f : Bool → Bool) : WB := fun v w H Q => match w with | .none => Q (.bool (f (isN v))) H | _ => False
/-! ### tests -/
def tv (w : WE) : WT := fun sl H Q => w sl H fun v H' => match v with | .bool b => Q b H' | _ => False
/-- a comparison as a test -/
theorem et_cmp {op f l r pos a b} (B : CmpOK c d op f) (hl : Ev c d sc ρ l a) (hr : Ev c d sc ρ r b) (hm : behindInMarks op r = false := by with_unfolding_all rfl) : Et c d sc ρ (.Compare l [op] [r] pos) (tv (wBin f a b)) := by
  intro env A E s φ sl H Q eo ao ok vs w
  refine wpAny_isTrue_Compare1 (wpAny_mono (hl env A E s φ sl H _ eo ao ok vs w) (fun x s₁ p₁ => ?_) fun _ _ e => e) hm
  obtain ⟨v, H₁, φ₁, w₁, ok₁, rv, g₁, r₁⟩ := p₁
  refine wpAny_mono (hr env A E s₁ φ₁ sl H₁ _ eo ao ok₁ (vs.grow g₁) w₁) (fun y s₂ p₂ => ?_) fun _ _ e => e
  obtain ⟨u, H₂, φ₂, w₂, ok₂, ru, g₂, r₂⟩ := p₂
  refine wpAny_mono (B A E s₂ φ₂ H₂ v u x y _ ao ok₂ (rv.grow g₂) ru w₂) (fun z s₃ p₃ => ?_) fun _ _ e => e
  obtain ⟨t, H₃, φ₃, w₃, ok₃, rt, g₃, r₃⟩ := p₃
  split at w₃
  · cases rt
    exact wpAny_truthy_bool ⟨H₃, φ₃, w₃, ok₃, (g₁.trans g₂).trans g₃, (r₁.trans r₂).trans r₃⟩
  · exact w₃.elim
def tNot (w : WT) : WT := fun sl H Q => w sl H fun b H' => Q (!b) H'
def tAnd (a b : WT) : WT := fun sl H Q => a sl H fun t H' => if t then b sl H' Q else Q false H'
def tOr (a b : WT) : WT := fun sl H Q => a sl H fun t H' => if t then Q true H' else b sl H' Q
theorem et_and {x y pos a b} (hx : Et c d sc ρ x a) (hy : Et c d sc ρ y b) : Et c d sc ρ (.BoolOp .And [x, y] pos) (tAnd a b) := by
  intro env A E s φ sl H Q eo ao ok vs q
  show wpAny _ _ (isTrue x env (eval x env) >>= fun b => match BoolOp.And, b with | .And, false => pure false | .Or, true => pure true | _, _ => isTrue y env (eval y env) >>= fun b' => match BoolOp.And, b' with | .And, false => pure false | .Or, true => pure true | _, _ => pure true) _ _ _
  refine wpAny_bind (wpAny_mono (hx env A E s φ sl H _ eo ao ok vs q) (fun t s₁ p => ?_) fun _ _ e => e)
  obtain ⟨H₁, φ₁, w₁, ok₁, g₁, r₁⟩ := p
  cases t with
  | false => exact wpAny_pure ⟨H₁, φ₁, by simpa using w₁, ok₁, g₁, r₁⟩
  | true =>
    simp only [if_true] at w₁
    refine wpAny_bind (wpAny_mono (hy env A E s₁ φ₁ sl H₁ _ eo ao ok₁ (vs.grow g₁) w₁) (fun t s₂ p => ?_) fun _ _ e => e)
    have p' := p.shift g₁ r₁
    cases t <;> exact wpAny_pure p'
theorem et_or {x y pos a b} (hx : Et c d sc ρ x a) (hy : Et c d sc ρ y b) : Et c d sc ρ (.BoolOp .Or [x, y] pos) (tOr a b) := by
  intro env A E s φ sl H Q eo ao ok vs q
  show wpAny _ _ (isTrue x env (eval x env) >>= fun b => match BoolOp.Or, b with | .And, false => pure false | .Or, true => pure true | _, _ => isTrue y env (eval y env) >>= fun b' => match BoolOp.Or, b' with | .And, false => pure false | .Or, true => pure true | _, _ => pure false) _ _ _
  refine wpAny_bind (wpAny_mono (hx env A E s φ sl H _ eo ao ok vs q) (fun t s₁ p => ?_) fun _ _ e => e)
  obtain ⟨H₁, φ₁, w₁, ok₁, g₁, r₁⟩ := p
  cases t with
  | true => exact wpAny_pure ⟨H₁, φ₁, by simpa using w₁, ok₁, g₁, r₁⟩
  | false =>
    simp only [Bool.false_eq_true, if_false] at w₁
    refine wpAny_bind (wpAny_mono (hy env A E s₁ φ₁ sl H₁ _ eo ao ok₁ (vs.grow g₁) w₁) (fun t s₂ p => ?_) fun _ _ e => e)
    have p' := p.shift g₁ r₁
    cases t <;> exact wpAny_pure p'

/-! ### lists of expressions, displays -/
def wNil : WEs := fun _ H Q => Q [] H
def wCons (a : WE) (b : WEs) : WEs := fun sl H Q => a sl H fun v H₁ => b sl H₁ fun vs H₂ => Q (v :: vs) H₂
theorem evs_nil : Evs c d sc ρ [] wNil := ⟨fun _ => rfl, fun _ _ _ _ _ _ _ _ _ _ ok _ w _ => Calls.spliced_nil ⟨[], _, _, w, ok, .nil, .refl _ _, Rest.refl _⟩⟩
theorem evs_cons {e es a b} (he : Ev c d sc ρ e a) (hes : Evs c d sc ρ es b) (hs : ∀ env, starEach (e :: es) env = (false, eval e env) :: starEach es env) : Evs c d sc ρ (e :: es) (wCons a b) := by
  refine ⟨fun env => by rw [hs, hes.1]; rfl, ?_⟩
  intro env A E s φ sl H Q eo ao ok vs w pos
  rw [hs]
  show wpAny _ _ (spliced ((false, eval e env) :: backTo pos (starEach es env))) _ _ _
  refine Calls.spliced_cons (wpAny_mono (he env A E s φ sl H _ eo ao ok vs w) (fun x s₁ p₁ => ?_) fun _ _ e => e)
  obtain ⟨v, H₁, φ₁, w₁, ok₁, rv, g₁, r₁⟩ := p₁
  refine wpAny_mono (hes.2 env A E s₁ φ₁ sl H₁ _ eo ao ok₁ (vs.grow g₁) w₁ pos) (fun y s₂ p₂ => ?_) fun _ _ e => e
  obtain ⟨u, H₂, φ₂, w₂, ok₂, ru, g₂, r₂⟩ := p₂
  exact ⟨v :: u, H₂, φ₂, w₂, ok₂, .cons (rv.grow g₂) ru, g₁.trans g₂, r₁.trans r₂⟩

theorem new_none (h : Heap) : h.get? h.objs.size = none := Heap.get?_none_of_le (Nat.le_refl _)
/-- a new list -/
theorem new_list {φ H} {s : Shared} {xs ys} {Q : V → HW → Prop} (ok : Ok c φ H s.heap) (r : RepVs c φ s.heap xs ys) (q : Q (.loc H.length) (H ++ [.list xs])) {n} (s' : Shared) (hs : s' = { s with heap := s.heap.push { cls := .type "list", data := .seq ys.toArray n }, toks := s'.toks }) :
    PostE c φ s Q (.ref s.heap.objs.size) s' := by
  obtain ⟨ok', g⟩ := ok.alloc (lo := .list xs) (new_none s.heap) (h' := s.heap.push { cls := .type "list", data := .seq ys.toArray n }) (fun b o e => Heap.get?_push_of_some _ e) (Heap.get?_push_size _ rfl) (.list r) ok.newS
  rw [hs]
  exact ⟨_, _, _, q, ok', .loc (by rw [← ok.len]; simp), g, _, _, rfl⟩
/-- a new tuple -/
theorem new_tup {φ H} {s : Shared} {xs ys} {Q : V → HW → Prop} (ok : Ok c φ H s.heap) (r : RepVs c φ s.heap xs ys) (q : Q (.tup xs) H) {n} (s' : Shared) (hs : s' = { s with heap := s.heap.push { cls := .type "tuple", data := .seq ys.toArray n }, toks := s'.toks }) :
    PostE c φ s Q (.ref s.heap.objs.size) s' := by
  obtain ⟨ok', g⟩ := ok.freeze (new_none s.heap) (h' := s.heap.push { cls := .type "tuple", data := .seq ys.toArray n }) (fun b o e => Heap.get?_push_of_some _ e) (Heap.get?_push_size _ rfl)
  rw [hs]
  refine ⟨_, _, _, q, ok', .tup (n := n) ?_ ?_ ?_ (Heap.get?_push_size _ rfl) (r.grow g), g, _, _, rfl⟩
  · intro m; obtain ⟨o, e⟩ := ok.live m; rw [new_none] at e; cases e
  · exact List.mem_append_right _ (.head _)
  · cases q : c.h₀.get? s.heap.objs.size with
    | none => rfl
    | some o => have := ok.base _ _ q; rw [new_none] at this; cases this
def wList (a : WEs) : WE := fun sl H Q => a sl H fun vs H₁ => vs.length ≤ 1000000 ∧ Q (.loc H₁.length) (H₁ ++ [.list vs])
def wTup (a : WEs) : WE := fun sl H Q => a sl H fun vs H₁ => vs.length ≤ 1000000 ∧ Q (.tup vs) H₁
theorem ev_list {es pos a} (he : Evs c d sc ρ es a) : Ev c d sc ρ (.List es pos) (wList a) := by
  intro env A E s φ sl H Q eo ao ok vs w
  refine List_ (wpAny_mono (he.2 env A E s φ sl H _ eo ao ok vs w pos) (fun x s₁ p₁ => ?_) fun _ _ e => e)
  obtain ⟨v, H₁, φ₁, w₁, ok₁, rv, g₁, r₁⟩ := p₁
  exact wpAny_newObj_type ((new_list ok₁ rv w₁.2 _ rfl).shift g₁ r₁) (by show x.toArray.size ≤ sizeLine; rw [List.size_toArray, ← rv.length, sizeLine_eq]; exact Nat.le_trans w₁.1 (by decide))
theorem ev_tup {es k pos a} (he : Evs c d sc ρ es a) : Ev c d sc ρ (.Tuple es k pos) (wTup a) := by
  intro env A E s φ sl H Q eo ao ok vs w
  refine Tuple_ (wpAny_mono (he.2 env A E s φ sl H _ eo ao ok vs w pos) (fun x s₁ p₁ => ?_) fun _ _ e => e)
  obtain ⟨v, H₁, φ₁, w₁, ok₁, rv, g₁, r₁⟩ := p₁
  exact wpAny_newObj_type ((new_tup ok₁ rv w₁.2 _ rfl).shift g₁ r₁) (by show x.toArray.size ≤ sizeLine; rw [List.size_toArray, ← rv.length, sizeLine_eq]; exact Nat.le_trans w₁.1 (by decide))
end
end Mine

namespace Mine
section
variable {c : Cx} {d : Nat} {sc : Scope} {ρ : List Str}

/-! ### lists that are read -/
def asL (ns : List Int) (H : HW) : V → Option (List V)
  | .loc k => match H[k]? with | some (.list xs) => some xs | _ => none
  | .script => some (ns.map .int)
  | _ => none
theorem repInts {φ h} : ∀ {vs : List Value} {ns : List Int}, IntsAre vs ns → RepVs c φ h (ns.map .int) vs
  | _, _, .nil => .nil
  | _, _, .cons _ _ r => .cons .int (repInts r)
theorem asL_of (G : Good c) {φ H h v x xs} (ok : Ok c φ H h) (r : RepV c φ h v x) (e : asL c.ns H v = some xs) : ∃ a ys, x = .ref a ∧ h.IsList a ys.toArray ∧ RepVs c φ h xs ys := by
  cases r <;> simp only [asL] at e <;> try (cases e; done)
  · rename_i k a hk
    split at e
    · rename_i xs' e'
      cases e
      obtain ⟨o, h1, h2⟩ := ok.objs k a _ hk e'
      cases h2 with
      | list r => exact ⟨a, _, rfl, ⟨_, h1, rfl, _, rfl⟩, r⟩
    · cases e
  · cases e
    obtain ⟨o, ho, r⟩ := G.S
    exact ⟨_, _, rfl, ⟨o, ok.base _ _ ho, r⟩, repInts G.I⟩
/-- an own list -/
theorem loc_list {φ H h} {k : Nat} {x xs} (ok : Ok c φ H h) (r : RepV c φ h (.loc k) x) (e : H[k]? = some (.list xs)) : ∃ a ys n, x = .ref a ∧ φ.l[k]? = some a ∧ IsL h a ys.toArray n ∧ RepVs c φ h xs ys := by
  cases r with
  | loc hk =>
    obtain ⟨o, h1, h2⟩ := ok.objs k _ _ hk e
    cases h2 with
    | list r => exact ⟨_, _, _, rfl, hk, h1, r⟩

/-! ### calls -/
theorem plain_any {es : List Expr} {env : Env} {pos : Pos} (h : starEach es env = es.map fun e => (false, eval e env)) : (backTo pos (starEach es env)).any (·.1) = false := by
  rw [h]
  unfold backTo
  rw [List.map_map]
  induction es with
  | nil => rfl
  | cons e es ih => simp at ih ⊢
theorem evalArgs_of {M : Model} {A : Around} {E : Value → Shared → Prop} {s : Shared} {env : Env} {f : Value} {es : List Expr} {pos : Pos} {Q : Args → Shared → Prop} (hp : starEach es env = es.map fun e => (false, eval e env))
    (h : wpAny M A (spliced (backTo pos (starEach es env))) (fun vs s' => Q ⟨vs, []⟩ s') E s) : wpAny M A (evalArgs f true (backTo pos (starEach es env)) []) Q E s := by
  cases es with
  | nil =>
    unfold evalArgs
    show wpAny M A (spliced (backTo pos (starEach [] env)) >>= _) Q E s
    refine wpAny_bind (wpAny_mono h (fun vs s' h' => ?_) fun _ _ x => x)
    exact wpAny_bind (wpAny_pure (wpAny_holding (wpAny_bind (wpAny_pure (wpAny_bind (wpAny_pure (wpAny_pure h')))))))
  | cons e es =>
    rw [hp] at h ⊢
    exact Calls.evalArgs_plain h

/-- a name of the top -/
theorem name_glob {env : Env} {A E s φ H x pos v} {R : Value → Shared → Prop} (G : Good c) (eo : EnvOK sc env) (ok : Ok c φ H s.heap) (hk : sc.kind = .function) (hx : sc.names.lookup x = some .globalImplicit) (hv : c.mg x = some v) (hd : (x == ("__debug__" : Str)) = false)
    (k : R v s) : wpAny (model c.prog c.w) A (eval (.Name x pos) env) R E s :=
  Calls.Name_function_global (by rw [eo.scope]; exact hk) ((eo.kind x).trans hx) (Calls.loadGlobal_global (by rw [eo.glob]; exact ok.G G) hv k) hd
theorem name_built {env : Env} {A E s φ H x pos v} {R : Value → Shared → Prop} (G : Good c) (eo : EnvOK sc env) (ok : Ok c φ H s.heap) (hk : sc.kind = .function) (hx : sc.names.lookup x = some .globalImplicit) (hg : c.mg x = none) (hv : c.mb x = some v) (hd : (x == ("__debug__" : Str)) = false)
    (k : R v s) : wpAny (model c.prog c.w) A (eval (.Name x pos) env) R E s :=
  Calls.Name_function_global (by rw [eo.scope]; exact hk) ((eo.kind x).trans hx) (Calls.loadGlobal_builtin (by rw [eo.glob]; exact ok.G G) hg (by rw [eo.bi]; exact ok.B G) hv k) hd

def wCall (W : WF) (as : WEs) : WE := fun sl H Q => as sl H fun vs H₁ => W vs H₁ Q
/-- a def or a class of the top, called by its name -/
theorem ev_call {x np args pos f W as} (G : Good c) (hk : sc.kind = .function) (hx : sc.names.lookup x = some .globalImplicit) (hv : c.mg x = some f) (hd : (x == ("__debug__" : Str)) = false) (hkeep : keepIn c.K f = true)
    (hf : FnOK c d f W) (ha : Evs c d sc ρ args as) : Ev c d sc ρ (.Call (.Name x np) args [] pos) (wCall W as) := by
  intro env A E s φ sl H Q eo ao ok vs w
  refine Call_Name rfl (name_glob G eo ok hk hx hv hd ?_)
  refine callWith_of (P := fun h => c.K.In h) (by rw [plain_any (ha.1 env)]; rfl) (keeps_K hkeep) (evalArgs_of (ha.1 env) ?_)
  refine wpAny_mono (ha.2 env A E s φ sl H _ eo ao ok vs w pos) (fun ys s₁ p₁ => ?_) fun _ _ e => e
  obtain ⟨v, H₁, φ₁, w₁, ok₁, rv, g₁, r₁⟩ := p₁
  exact ⟨ok₁.X G, wpAny_mono (hf A E s₁ φ₁ H₁ v ys Q ao ok₁ rv w₁) (fun z s₂ p₂ => p₂.shift g₁ r₁) fun _ _ e => e⟩
/-- a built-in function -/
theorem ev_callB {x np args pos id W as} (G : Good c) (hk : sc.kind = .function) (hx : sc.names.lookup x = some .globalImplicit) (hg : c.mg x = none) (hv : c.mb x = some (.builtin id)) (hd : (x == ("__debug__" : Str)) = false)
    (hf : FnOK c d (.builtin id) W) (ha : Evs c d sc ρ args as) : Ev c d sc ρ (.Call (.Name x np) args [] pos) (wCall W as) := by
  intro env A E s φ sl H Q eo ao ok vs w
  refine Call_Name rfl (name_built G eo ok hk hx hg hv hd ?_)
  refine Calls.callWith_builtin (plain_any (ha.1 env)) (evalArgs_of (ha.1 env) ?_)
  refine wpAny_mono (ha.2 env A E s φ sl H _ eo ao ok vs w pos) (fun ys s₁ p₁ => ?_) fun _ _ e => e
  obtain ⟨v, H₁, φ₁, w₁, ok₁, rv, g₁, r₁⟩ := p₁
  exact wpAny_mono (hf A E s₁ φ₁ H₁ v ys Q ao ok₁ rv w₁) (fun z s₂ p₂ => p₂.shift g₁ r₁) fun _ _ e => e

/-! ### instances of the text's classes -/
def clsV (c : Cx) (H : HW) : V → Option Nat
  | .obj k _ => some k
  | .loc j => match H[j]? with | some (.inst k _) => some k | _ => none
  | .glob a => (c.gC a).map (·.1)
  | _ => none
def slotV (c : Cx) (H : HW) (i : Nat) : V → Option V
  | .obj _ fs => fs[i]?
  | .loc j => match H[j]? with | some (.inst _ fs) => (fs[i]?).join | _ => none
  | .glob a => match c.gC a with | some (_, n) => if i < n then some .none else none | none => none
  | _ => none
theorem inst_of (G : Good c) {φ H h v x k} (ok : Ok c φ H h) (r : RepV c φ h v x) (e : clsV c H v = some k) :
    ∃ a ox, x = .ref a ∧ InstAt h a ox (c.cls k) (some (dictOf [] 0)) ∧ ∀ i u, slotV c H i v = some u → ∃ y, (ox.slots[i]?).join = some y ∧ RepV c φ h u y := by
  cases r <;> simp only [clsV] at e <;> try (cases e; done)
  · rename_i j a hj
    split at e
    · rename_i k' fs e'
      cases e
      obtain ⟨o, h1, h2⟩ := ok.objs j a _ hj e'
      cases h2 with
      | inst r z n y eb =>
        refine ⟨a, _, rfl, ⟨h1, rfl, rfl, eb⟩, fun i u hu => ?_⟩
        simp only [slotV, e'] at hu
        exact r i u hu
    · cases e
  · rename_i fs xs a b sl n z m y n0 e1 es e2 r
    cases e
    refine ⟨a, _, rfl, ⟨e1, rfl, rfl, e2⟩, fun i u hu => ?_⟩
    simp only [slotV] at hu
    obtain ⟨y, h1, h2⟩ := r.get hu
    exact ⟨y, by show (sl[i]?).join = some y; rw [es, h1], h2⟩
  · rename_i a o ho
    obtain ⟨⟨k', n⟩, h1, rfl⟩ := Option.map_eq_some_iff.mp e
    obtain ⟨b, h2, h3⟩ := G.gl a k' n h1
    refine ⟨a, _, rfl, ⟨ok.base _ _ h2, rfl, rfl, ok.base _ _ h3⟩, fun i u hu => ?_⟩
    simp only [slotV, h1] at hu
    split at hu
    · rename_i hi
      cases hu
      exact ⟨.none, by simp [hi], .none⟩
    · cases hu

def wMeth (c : Cx) (k : Nat) (W : WF) (a : WE) (as : WEs) : WE := fun sl H Q => a sl H fun v H₁ => clsV c H₁ v = some k ∧ as sl H₁ fun vs H₂ => W (v :: vs) H₂ Q
theorem ev_meth {o name apos args pos f k W a as} {pl : Env → Sem Bool} (G : Good c) (ho : Ev c d sc ρ o a) (ha : Evs c d sc ρ args as) (hf : FnOK c d (.ref f) W)
    (hg : plainGet c.K (c.cls k) name = true) (hm : findIn c.K (.ref (c.cls k)) name = some (some (.ref f))) (ht : isFn c.K (.ref f) = true) (hkeep : keepIn c.K (.ref f) = true)
    (he : ∀ env, eval (.Call (.Attribute o name apos) args [] pos) env = (do
      let ov ← eval o env
      standAt apos.atName
      let (f, first) ← holding [ov] (getMethod ov name (pl env))
      callWith pos f first (backTo pos (starEach args env)) (backToKw pos (keywordEach [] env)))) : Ev c d sc ρ (.Call (.Attribute o name apos) args [] pos) (wMeth c k W a as) := by
  intro env A E s φ sl H Q eo ao ok vs w
  refine methodCall_KW (pl := pl env) (wpAny_mono (ho env A E s φ sl H _ eo ao ok vs w) (fun x s₁ p₁ => ?_) fun _ _ e => e) (he env)
  obtain ⟨v, H₁, φ₁, ⟨wc, w₁⟩, ok₁, rv, g₁, r₁⟩ := p₁
  obtain ⟨xa, ox, rfl, I, _⟩ := inst_of G ok₁ rv wc
  refine method_fn (ok₁.X G) I (plainGet_of hg).1 (plainGet_of hg).2 hm (beq_iff_eq.mp ht) rfl ?_
  refine callWith_of (P := fun h => c.K.In h) (by rw [plain_any (ha.1 env)]; rfl) (keeps_K hkeep) (evalArgs_of (ha.1 env) ?_)
  refine wpAny_mono (ha.2 env A E s₁ φ₁ sl H₁ _ eo ao ok₁ (vs.grow g₁) w₁ pos) (fun ys s₂ p₂ => ?_) fun _ _ e => e
  obtain ⟨u, H₂, φ₂, w₂, ok₂, ru, g₂, r₂⟩ := p₂
  exact ⟨ok₂.X G, wpAny_mono (hf A E s₂ φ₂ H₂ (v :: u) _ Q ao ok₂ (.cons (rv.grow g₂) ru) w₂) (fun z s₃ p₃ => p₃.shift (g₁.trans g₂) (r₁.trans r₂)) fun _ _ e => e⟩

/-- a slot that is read -/
def wSlot (c : Cx) (k i : Nat) (a : WE) : WE := fun sl H Q => a sl H fun v H₁ => clsV c H₁ v = some k ∧ match slotV c H₁ i v with | some u => Q u H₁ | none => False
theorem ev_slot {o name pos a k p i} (G : Good c) (ho : Ev c d sc ρ o a) (hg : plainGet c.K (c.cls k) name = true) (hc : isClsIn c.K (c.cls k) = true)
    (ha : findIn c.K (.ref (c.cls k)) name = some (some (.ref p))) (hn : specialIn c.K (.ref p) "__get__" = some (some (.builtin "member_descriptor.__get__"))) (ht : takesIn c.K (.ref p) = some true) (hp : slotIn c.K p (c.cls k) = some i)
    (he : ∀ env, eval (.Attribute o name pos) env = (eval o env >>= fun ov => standAt pos.atName >>= fun _ => holding [ov] (getAttr ov name true) >>= fun r => pure r)) : Ev c d sc ρ (.Attribute o name pos) (wSlot c k i a) := by
  intro env A E s φ sl H Q eo ao ok vs w
  rw [he]
  refine wpAny_bind (wpAny_mono (ho env A E s φ sl H _ eo ao ok vs w) (fun x s₁ p₁ => ?_) fun _ _ e => e)
  obtain ⟨v, H₁, φ₁, ⟨wc, w₁⟩, ok₁, rv, g₁, r₁⟩ := p₁
  obtain ⟨xa, ox, rfl, I, hs⟩ := inst_of G ok₁ rv wc
  split at w₁
  · rename_i u eu
    obtain ⟨y, hy, ry⟩ := hs i u eu
    have hh : handedIn y = true := by cases ry <;> rfl
    refine wpAny_bind (wpAny_standAt (wpAny_bind (wpAny_holding ?_)))
    refine get_bind (ok₁.X G) I (plainGet_of hg).1 (findObj_data hc ha hn ht) (plainGet_of hg).2 (wpAny_call (slot_get (s := { s₁ with toks := s₁.toks + 1 }) (ok₁.X G) I hp hy (handed_on hh ?_)))
    exact wpAny_pure ((PostE.here (s' := { s₁ with toks := s₁.toks + 1 }) w₁ ok₁ ry (fun _ _ e => e) (Rest.mk s₁ s₁.heap _)).shift g₁ r₁)
  · exact w₁.elim
end
end Mine

namespace Mine
section
variable {c : Cx} {d : Nat} {sc : Scope} {ρ : List Str}

/-! ### items of a list -/
def getI (xs : List V) (k : Int) : Option V := if 0 ≤ k then xs[k.toNat]? else if -(xs.length : Int) ≤ k then xs[(k + xs.length).toNat]? else none
def wIdx (ns : List Int) (a b : WE) : WE := fun sl H Q => a sl H fun v H₁ => b sl H₁ fun w H₂ => match asL ns H₂ v, w with
  | some xs, .int k => xs.length ≤ 1000000 ∧ (match getI xs k with | some u => Q u H₂ | none => False)
  | _, _ => False
theorem item_ok (G : Good c) {A E s φ H v x xs k t u} {R : Value → Shared → Prop} (ok : Ok c φ H s.heap) (rv : RepV c φ s.heap v x) (e : asL c.ns H v = some xs) (hl : xs.length ≤ 1000000) (hg : getI xs k = some u)
    (h : ∀ y, RepV c φ s.heap u y → R y s) : wpAny (model c.prog c.w) A (getItem x (.int k t)) R E s := by
  obtain ⟨a, ys, rfl, il, r⟩ := asL_of G ok rv e
  have len := r.length
  unfold getI at hg
  split at hg
  · rename_i h0
    obtain ⟨y, h1, h2⟩ := r.get hg
    have hb := (List.getElem?_eq_some_iff.mp hg).1
    exact wpAny_getItem_list il h0 (by omega) (by simpa using h1) (h y h2)
  · rename_i h0
    split at hg
    · rename_i h1
      obtain ⟨y, h2, h3⟩ := r.get hg
      refine wpAny_getItem_list_neg il (by omega) (by simp only [List.size_toArray]; omega) (by omega) ?_ (h y h3)
      simp only [List.size_toArray, List.getElem?_toArray]
      rw [← len]; exact h2
    · cases hg
/-! ### slices -/
def sliceV {α : Type} (xs : List α) (lo hi st : Option Int) : List α := (sliceRange (sliceBounds lo hi st xs.length).1 (sliceBounds lo hi st xs.length).2.1 (sliceBounds lo hi st xs.length).2.2).filterMap (xs[·]?)
abbrev WO := Sl → HW → (Option Int → HW → Prop) → Prop
def oNone : WO := fun _ H Q => Q none H
def oSome (a : WE) : WO := fun sl H Q => a sl H fun v H' => match v with | .int i => Q (some i) H' | _ => False
def wSlice (ns : List Int) (a : WE) (lo hi st : WO) : WE := fun sl H Q => a sl H fun v H₁ => lo sl H₁ fun l H₂ => hi sl H₂ fun u H₃ => st sl H₃ fun k H₄ => match asL ns H₄ v with
  | some xs => (xs.length ≤ 1000000 ∧ k ≠ some 0) ∧ Q (.loc H₄.length) (H₄ ++ [.list (sliceV xs l u k)])
  | none => False
/-! ### lists joined and compared -/
def wAddL (ns : List Int) : WB := fun v w H Q => match asL ns H v, asL ns H w with
  | some xs, some ys => xs.length + ys.length ≤ 1000000 ∧ Q (.loc H.length) (H ++ [.list (xs ++ ys)])
  | _, _ => False
theorem addL_ok (G : Good c) : BinOK c d .Add (wAddL c.ns) := by
  intro A E s φ H v w x y Q ao ok rv rw' q
  unfold wAddL at q
  split at q
  · rename_i xs ys e1 e2
    obtain ⟨a, us, rfl, il, r1⟩ := asL_of G ok rv e1
    obtain ⟨b, ws, rfl, il', r2⟩ := asL_of G ok rw' e2
    obtain ⟨⟨cls, dd, data, sl⟩, ho, hc, n, hd⟩ := id il
    obtain ⟨⟨cls2, dd2, data2, sl2⟩, ho2, hc2, n2, hd2⟩ := id il'
    simp only at hc hd hc2 hd2
    subst hc hd hc2 hd2
    have e : us.toArray ++ ws.toArray = (us ++ ws).toArray := by simp
    refine concat_meets ⟨_, ho, rfl⟩ ⟨_, ho2, rfl⟩ noFill_list_add seq_list_add PySem.F.slot_list_add PySem.F.entry_list_add (PySem.F.args_list_add_2 _ _) (list_addW a b us.toArray ws.toArray n n2 dd dd2 sl sl2 (by simp only [List.size_toArray]; rw [← r1.length, ← r2.length, sizeLine_eq]; omega)) ⟨ho, ho2, ?_⟩
    rw [e]
    exact new_list ok (r1.append r2) q.2 _ rfl
  · exact q.elim
def intsV : List V → Option (List Int)
  | [] => some []
  | .int i :: r => (intsV r).map (i :: ·)
  | _ => none
def wCmpI (ns : List Int) (f : Bool → Bool) : WB := fun v w H Q => match (asL ns H v).bind intsV, (asL ns H w).bind intsV with
  | some is, some js => Q (.bool (f (decide (is = js)))) H
  | _, _ => False
/-! ### built-in functions -/
def bLen (ns : List Int) : WF := fun args H Q => match args with
  | [v] => (match asL ns H v with | some xs => xs.length ≤ 1000000 ∧ Q (.int xs.length) H | none => False)
  | _ => False
theorem len_ok (G : Good c) : FnOK c d (.builtin "len") (bLen c.ns) := by
  intro A E s φ H args vals Q ao ok r q
  unfold bLen at q
  split at q
  · split at q
    · rename_i xs ex
      cases r with
      | cons rv rs =>
        cases rs
        obtain ⟨a, ys, rfl, il, rr⟩ := asL_of G ok rv ex
        refine len_list il (by simp only [List.size_toArray]; rw [← rr.length]; omega) ?_
        simp only [List.size_toArray]
        rw [← rr.length]
        exact .here q.2 ok .int (fun _ _ e => e) (Rest.mk s s.heap _)
    · exact q.elim
  · exact q.elim
def bMin : WF := fun args H Q => match args with | [.int a, .int b] => Q (.int (if b < a then b else a)) H | _ => False
def bMax : WF := fun args H Q => match args with | [.int a, .int b] => Q (.int (if b > a then b else a)) H | _ => False
/-! ### methods of a list -/
theorem upd_list {φ H} {k : Nat} {a : Addr} {xs : List V} {ys us : List Value} {n : Nat} {s : Shared} {Q : V → HW → Prop} {v x} {f : Array Value → Array Value} (ok : Ok c φ H s.heap) (hk : φ.l[k]? = some a) (il : IsL s.heap a ys.toArray n) (e : f ys.toArray = us.toArray) (r : RepVs c φ s.heap xs us)
    (rv : RepV c φ s.heap v x) (q : Q v (H.set k (.list xs))) : PostE c φ s Q x { s with heap := s.heap.update a (Obj.mapSeq f) } := by
  have il' := IsL.update il f
  rw [e] at il'
  obtain ⟨ok', g⟩ := ok.put (lo := .list xs) hk (fun b o n e => (Heap.get?_update_ne _ _ _ _ n).trans e) il' (.list r)
  exact ⟨v, _, φ, q, ok', rv.grow g, g, _, _, rfl⟩
def lstAt (H : HW) (k : Nat) : Option (List V) := match H[k]? with | some (.list xs) => some xs | _ => none
theorem lstAt_of {H : HW} {k : Nat} {xs} (e : lstAt H k = some xs) : H[k]? = some (.list xs) := by
  unfold lstAt at e
  split at e
  · rename_i h; cases e; exact h
  · cases e
def wAppend (a b : WE) : WE := fun sl H Q => a sl H fun v H₁ => match v with
  | .loc k => (lstAt H₁ k).isSome = true ∧ b sl H₁ fun w H₂ => (match lstAt H₂ k with | some xs => xs.length ≤ 1000000 ∧ Q .none (H₂.set k (.list (xs ++ [w]))) | none => False)
  | _ => False
theorem meth_list {M : Model} {A : Around} {E : Value → Shared → Prop} {s : Shared} {φ H} {k : Nat} {x : Value} {name : Str} {id : String} {pl : Sem Bool} {Q : Value × List Value → Shared → Prop} (ok : Ok c φ H s.heap) (rv : RepV c φ s.heap (.loc k) x) (hl : (lstAt H k).isSome = true)
    (slot : Slot "list" name id) (hty : typeOf (.builtin id) = pure (.type "method_descriptor")) (h : Q (.builtin id, [x]) s) : wpAny M A (getMethod x name pl) Q E s := by
  obtain ⟨xs, e⟩ := Option.isSome_iff_exists.mp hl
  obtain ⟨a, ys, n, rfl, hk, il, r⟩ := loc_list ok rv (lstAt_of e)
  exact getMethod_builtin ⟨_, il, rfl⟩ PySem.F.plainAttrs_list slot hty (fun b hb => by cases hb; exact ⟨_, il, rfl⟩) h
theorem ev_append {o e apos pos a b} {pl : Env → Sem Bool} (ho : Ev c d sc ρ o a) (hb : Ev c d sc ρ e b) (hs : ∀ env, backTo pos (starEach [e] env) = [(false, eval e env)])
    (he : ∀ env, eval (.Call (.Attribute o (Str.ofString "append") apos) [e] [] pos) env = (do
      let ov ← eval o env
      standAt apos.atName
      let (f, first) ← holding [ov] (getMethod ov (Str.ofString "append") (pl env))
      callWith pos f first (backTo pos (starEach [e] env)) (backToKw pos (keywordEach [] env)))) : Ev c d sc ρ (.Call (.Attribute o (Str.ofString "append") apos) [e] [] pos) (wAppend a b) := by
  intro env A E s φ sl H Q eo ao ok vs w
  refine methodCall_KW (pl := pl env) (wpAny_mono (ho env A E s φ sl H _ eo ao ok vs w) (fun x s₁ p₁ => ?_) fun _ _ e => e) (he env)
  obtain ⟨v, H₁, φ₁, w₁, ok₁, rv, g₁, r₁⟩ := p₁
  split at w₁
  · rename_i k
    refine meth_list ok₁ rv w₁.1 PySem.F.slot_list_append PySem.F.type_list_append ?_
    have ex : ∃ al, x = .ref al := by cases rv; exact ⟨_, rfl⟩
    obtain ⟨al, rfl⟩ := ex
    show wpAny _ _ (callWith pos (.builtin "list.append") [.ref al] (backTo pos (starEach [e] env)) []) _ _ _
    rw [hs]
    refine PySem.P.append_list (wpAny_mono (hb env A E s₁ φ₁ sl H₁ _ eo ao ok₁ (vs.grow g₁) w₁.2) (fun y s₂ p₂ => ?_) fun _ _ e => e)
    obtain ⟨u, H₂, φ₂, w₂, ok₂, ru, g₂, r₂⟩ := p₂
    split at w₂
    · rename_i xs ex
      obtain ⟨a', ys, n, ea, hk, il, r⟩ := loc_list ok₂ (rv.grow g₂) (lstAt_of ex)
      cases ea
      refine ⟨ys.toArray, n, by rw [List.size_toArray, ← r.length, sizeLine_eq]; omega, il, ?_⟩
      exact (upd_list (us := ys ++ [y]) ok₂ hk il (by simp) (r.append (.cons ru .nil)) .none w₂.2).shift (g₁.trans g₂) (r₁.trans r₂)
    · exact w₂.elim
  · exact w₁.elim
def wPop (a : WE) : WE := fun sl H Q => a sl H fun v H₁ => match v with
  | .loc k => (match lstAt H₁ k with | some xs => xs.length ≤ 1000000 ∧ (match xs.getLast? with | some u => Q u (H₁.set k (.list xs.dropLast)) | none => False) | none => False)
  | _ => False
end
end Mine

namespace Mine
section
variable {c : Cx} {d : Nat} {sc : Scope} {ρ : List Str}

/-! ### statements -/
def wSkip : WS := fun sl H Q => Q .next sl H
def wSeq (a b : WS) : WS := fun sl H Q => a sl H fun F sl' H' => match F with | .next => b sl' H' Q | .ret v => Q (.ret v) sl' H'
theorem exs_nil : Exs c d sc ρ [] wSkip := fun _ _ _ s φ sl H _ _ _ ok vs w => wpAny_execs_nil ⟨.next, sl, H, φ, w, ok, vs, trivial, .refl _ _ _, Rest.refl s⟩
theorem exs_cons {e es a b} (he : Ex c d sc ρ e a) (hes : Exs c d sc ρ es b) : Exs c d sc ρ (e :: es) (wSeq a b) := by
  intro env A E s φ sl H Q eo ao ok vs w
  refine wpAny_execs_cons (wpAny_mono (he env A E s φ sl H _ eo ao ok vs w) (fun f s₁ p₁ => ?_) fun _ _ e => e)
  obtain ⟨F, sl₁, H₁, φ₁, w₁, ok₁, vs₁, rf, g₁, r₁⟩ := p₁
  cases F with
  | next =>
    cases f with
    | next => exact wpAny_mono (hes env A E s₁ φ₁ sl₁ H₁ Q eo ao ok₁ vs₁ w₁) (fun f s₂ p₂ => p₂.shift g₁ r₁) fun _ _ e => e
    | _ => exact rf.elim
  | ret v =>
    cases f with
    | ret x => exact ⟨.ret v, sl₁, H₁, φ₁, w₁, ok₁, vs₁, rf, g₁, r₁⟩
    | _ => exact rf.elim
def wSet (i : Nat) (a : WE) : WS := fun sl H Q => a sl H fun v H' => Q .next (sl.set i (some v)) H'
theorem ex_set {i x xp e pos a} (he : Ev c d sc ρ e a) (hi : ρ[i]? = some x) (hx : sc.names.lookup x = some .local ∨ sc.names.lookup x = some .cell) (hk : sc.kind = .function)
    (hs : ∀ env, swapsWith e (some (.Name x xp)) pos.line env = pure false) : Ex c d sc ρ (.Assign [.Name x xp] e pos) (wSet i a) := by
  intro env A E s φ sl H Q eo ao ok vs w
  refine wpAny_Assign_Name (wpAny_mono (he env A E s φ sl H _ eo ao ok vs w) (fun y s₁ p₁ => ?_) fun _ _ e => e) (hs env)
  obtain ⟨v, H₁, φ₁, w₁, ok₁, rv, g₁, r₁⟩ := p₁
  exact store_ok hi hx hk eo ok₁ (vs.grow g₁) rv fun s₂ ok₂ vs₂ g₂ r₂ => ⟨.next, _, H₁, φ₁, w₁, ok₂, vs₂, trivial, g₁.toS.trans g₂, r₁.trans r₂⟩
def wAug (i : Nat) (f : WB) (a : WE) : WS := fun sl H Q => wBin f (wVar i) a sl H fun v H' => Q .next (sl.set i (some v)) H'
def wDrop (a : WE) : WS := fun sl H Q => a sl H fun v H' => match v with | .none => Q .next sl H' | _ => False
theorem ex_expr {e pos a} (he : Ev c d sc ρ e a) (hk : sc.kind = .function) (hs : ∀ env, swapsWith e none pos.line env = pure false) : Ex c d sc ρ (.Expr e pos) (wDrop a) := by
  intro env A E s φ sl H Q eo ao ok vs w
  refine wpAny_Expr (wpAny_mono (he env A E s φ sl H _ eo ao ok vs w) (fun y s₁ p₁ => ?_) fun _ _ e => e) (by unfold interactive; rw [eo.scope, hk]; rfl) (hs env)
  obtain ⟨v, H₁, φ₁, w₁, ok₁, rv, g₁, r₁⟩ := p₁
  split at w₁
  · cases rv
    exact ⟨.next, sl, H₁, φ₁, w₁, ok₁, vs.grow g₁, trivial, g₁.toS, r₁⟩
  · exact w₁.elim
def wIf (t : WT) (a b : WS) : WS := fun sl H Q => t sl H fun r H' => if r then a sl H' Q else b sl H' Q
theorem ex_if {t body orelse pos w a b} (ht : Et c d sc ρ t w) (ha : Exs c d sc ρ body a) (hb : Exs c d sc ρ orelse b) : Ex c d sc ρ (.If t body orelse pos) (wIf w a b) := by
  intro env A E s φ sl H Q eo ao ok vs q
  refine wpAny_If (wpAny_mono (ht env A E s φ sl H _ eo ao ok vs q) (fun y s₁ p₁ => ?_) fun _ _ e => e)
  obtain ⟨H₁, φ₁, w₁, ok₁, g₁, r₁⟩ := p₁
  cases y with
  | true => simp only [if_true] at w₁ ⊢; exact wpAny_mono (ha env A E s₁ φ₁ sl H₁ Q eo ao ok₁ (vs.grow g₁) w₁) (fun f s₂ p₂ => p₂.shift g₁.toS r₁) fun _ _ e => e
  | false => simp only [Bool.false_eq_true, if_false] at w₁ ⊢; exact wpAny_mono (hb env A E s₁ φ₁ sl H₁ Q eo ao ok₁ (vs.grow g₁) w₁) (fun f s₂ p₂ => p₂.shift g₁.toS r₁) fun _ _ e => e
def wRet (a : WE) : WS := fun sl H Q => a sl H fun v H' => Q (.ret v) sl H'
theorem ex_ret {e pos a} (he : Ev c d sc ρ e a) : Ex c d sc ρ (.Return (some e) pos) (wRet a) := by
  intro env A E s φ sl H Q eo ao ok vs w
  refine wpAny_Return_some (wpAny_mono (he env A E s φ sl H _ eo ao ok vs w) (fun y s₁ p₁ => ?_) fun _ _ e => e)
  obtain ⟨v, H₁, φ₁, w₁, ok₁, rv, g₁, r₁⟩ := p₁
  exact ⟨.ret v, sl, H₁, φ₁, w₁, ok₁, vs.grow g₁, rv, g₁.toS, r₁⟩

/-! ### while -/
/-! ### targets -/
abbrev WA := V → Sl → HW → (Sl → HW → Prop) → Prop
def At (c : Cx) (d : Nat) (sc : Scope) (ρ : List Str) (t : Expr) (W : WA) : Prop :=
  ∀ env A E s φ sl H v x K, EnvOK sc env → AOK d A → Ok c φ H s.heap → Vars c ρ φ s.heap env sl → RepV c φ s.heap v x → W v sl H K →
    wpAny (model c.prog c.w) A (assign t env x) (fun _ s' => ∃ sl' H' φ', K sl' H' ∧ Ok c φ' H' s'.heap ∧ Vars c ρ φ' s'.heap env sl' ∧ GrowS env φ s.heap φ' s'.heap ∧ Rest s s') E s
def aName (i : Nat) : WA := fun v sl H K => K (sl.set i (some v)) H
theorem at_name {i x xp} (hi : ρ[i]? = some x) (hx : sc.names.lookup x = some .local ∨ sc.names.lookup x = some .cell) (hk : sc.kind = .function) : At c d sc ρ (.Name x xp) (aName i) := by
  intro env A E s φ sl H v y K eo ao ok vs rv q
  exact wpAny_assign_Name (store_ok hi hx hk eo ok vs rv fun s₂ ok₂ vs₂ g₂ r₂ => ⟨_, H, φ, q, ok₂, vs₂, g₂, r₂⟩)
def setAll : List Nat → List V → Sl → Sl
  | i :: is, v :: vs, sl => setAll is vs (sl.set i (some v))
  | _, _, sl => sl
theorem ExtBut.keep {h h' : Heap} (x : Heap.ExtBut h.objs.size h h') : ∀ b o, h.get? b = some o → h'.get? b = some o := fun b o e => x b o (Nat.ne_of_lt (Heap.lt_size e)) e
/-- each function of the row stores the name at its place -/
def Stores (M : Model) (env : Env) : List Str → List (Value → Sem Unit) → Prop
  | [], [] => True
  | x :: xs, f :: fs => (∀ A E v s (R : Unit → Shared → Prop), wpAny M A (storeName env x v) R E s → wpAny M A (f v) R E s) ∧ Stores M env xs fs
  | _, _ => False
def Slots (sc : Scope) (ρ : List Str) : List Nat → List Str → Prop
  | [], [] => True
  | i :: is, x :: xs => (ρ[i]? = some x ∧ (sc.names.lookup x = some .local ∨ sc.names.lookup x = some .cell)) ∧ Slots sc ρ is xs
  | _, _ => False
theorem inOrder_ok {env : Env} {A E φ H} (hk : sc.kind = .function) (eo : EnvOK sc env) (is : List Nat) : ∀ (xs : List Str) (fs : List (Value → Sem Unit)) (vs : List V) (ys : List Value) (s : Shared) (sl : Sl) (R : Unit → Shared → Prop),
    Stores (model c.prog c.w) env xs fs → Slots sc ρ is xs → vs.length = is.length → Ok c φ H s.heap → Vars c ρ φ s.heap env sl → RepVs c φ s.heap vs ys →
    (∀ s', Ok c φ H s'.heap → Vars c ρ φ s'.heap env (setAll is vs sl) → GrowS env φ s.heap φ s'.heap → Rest s s' → R () s') →
    wpAny (model c.prog c.w) A (assignInOrder fs ys) R E s := by
  induction is with
  | nil =>
    intro xs fs vs ys s sl R hf h1 h2 ok va r k
    cases vs with
    | cons _ _ => simp at h2
    | nil =>
      cases r
      have : assignInOrder fs [] = pure () := by cases fs <;> rfl
      rw [this]
      exact wpAny_pure (k s ok va (.refl _ _ _) (Rest.refl s))
  | cons i is ih =>
    intro xs fs vs ys s sl R hf h1 h2 ok va r k
    cases r with
    | nil => simp at h2
    | cons r rs =>
      cases xs with
      | nil => exact h1.elim
      | cons x xs =>
        cases fs with
        | nil => exact hf.elim
        | cons f fs =>
          rename_i v y vs ys
          show wpAny _ _ (holding ys (f y) >>= fun _ => assignInOrder fs ys) _ _ _
          refine wpAny_bind (wpAny_holding (hf.1 _ _ _ _ _ (store_ok h1.1.1 h1.1.2 hk eo ok va r fun s₂ ok₂ vs₂ g₂ r₂ => ?_)))
          refine ih xs fs vs ys s₂ _ R hf.2 h1.2 (by simpa using h2) ok₂ vs₂ ?_ fun s₃ ok₃ vs₃ g₃ r₃ => k s₃ ok₃ vs₃ (g₂.trans g₃) (r₂.trans r₃)
          exact rs.keep fun b o z e => g₂.keep b o e (ok.dj b z) (fun q => va.offZ (q ▸ z)) fun x q => (va.offC x b q).2.1 z
/-- a tuple's places to names, in their order -/
def aTup (is : List Nat) : WA := fun v sl H K => match v with | .tup vs => vs.length = is.length ∧ K (setAll is vs sl) H | _ => False
theorem Stores.len {M env} : ∀ {xs : List Str} {fs : List (Value → Sem Unit)}, Stores M env xs fs → fs.length = xs.length
  | [], [], _ => rfl
  | _ :: _, _ :: _, h => by simp [h.2.len]
  | [], _ :: _, h => h.elim
  | _ :: _, [], h => h.elim
theorem Slots.len : ∀ {is : List Nat} {xs : List Str}, Slots sc ρ is xs → xs.length = is.length
  | [], [], _ => rfl
  | _ :: _, _ :: _, h => by simp [h.2.len]
  | [], _ :: _, h => h.elim
  | _ :: _, [], h => h.elim
theorem at_tup {elts k pos is} {xs : List Str} (hk : sc.kind = .function) (hx : Slots sc ρ is xs) (hst : ∀ env, (assignEach elts env).findIdx? (·.1) = none)
    (hm : ∀ env, Stores (model c.prog c.w) env xs ((assignEach elts env).map (·.2))) : At c d sc ρ (.Tuple elts k pos) (aTup is) := by
  intro env A E s φ sl H v y K eo ao ok vs rv q
  unfold aTup at q
  split at q
  · cases rv with
    | tup n z n0 e r =>
      obtain ⟨hlen, q⟩ := q
      have hl := (hm env).len
      rw [List.length_map] at hl
      refine wpAny_assign_Tuple ao.handled ⟨_, e, rfl, _, rfl⟩ (by rw [hl, List.size_toArray, ← r.length, hlen, hx.len]) (hst env) fun h' x => ?_
      have kp := ExtBut.keep x
      have g : Grow φ s.heap φ h' := .of_keep kp
      refine inOrder_ok (s := { s with heap := h' }) hk eo is xs _ _ _ sl _ (hm env) hx hlen (ok.keep kp) (vs.grow g) (by simpa using r.grow g) fun s₃ ok₃ vs₃ g₃ r₃ => ⟨_, _, φ, q, ok₃, vs₃, g.toS.trans g₃, (Rest.mk s h' s.toks).trans r₃⟩
  · exact q.elim
/-- «a, b = e» without an exchange -/
def wSetT (is : List Nat) (a : WE) : WS := fun sl H Q => a sl H fun v H' => aTup is v sl H' fun sl' H'' => Q .next sl' H''
/-- «a, b = x, y»: the stores go from the last to the first -/
def aTupR (is : List Nat) : WA := fun v sl H K => match v with | .tup vs => vs.length = is.length ∧ K (setAll is.reverse vs.reverse sl) H | _ => False
def wSetR (is : List Nat) (a : WE) : WS := fun sl H Q => a sl H fun v H' => aTupR is v sl H' fun sl' H'' => Q .next sl' H''
theorem Slots.snoc {i x} (h : ρ[i]? = some x ∧ (sc.names.lookup x = some .local ∨ sc.names.lookup x = some .cell)) : ∀ {is : List Nat} {xs : List Str}, Slots sc ρ is xs → Slots sc ρ (is ++ [i]) (xs ++ [x])
  | [], [], _ => ⟨h, trivial⟩
  | _ :: _, _ :: _, g => ⟨g.1, Slots.snoc h g.2⟩
  | [], _ :: _, g => g.elim
  | _ :: _, [], g => g.elim
theorem Slots.reverse : ∀ {is : List Nat} {xs : List Str}, Slots sc ρ is xs → Slots sc ρ is.reverse xs.reverse
  | [], [], _ => trivial
  | _ :: _, _ :: _, g => by simp only [List.reverse_cons]; exact g.2.reverse.snoc g.1
  | [], _ :: _, g => g.elim
  | _ :: _, [], g => g.elim
end
end Mine

namespace Mine
section
variable {c : Cx} {d : Nat} {sc : Scope} {ρ : List Str}

/-! ### what a loop goes over -/
inductive ItK where
  | list (kv : V) (xs : List V)
  | walk (xs : List V)
def ItK.items : ItK → List V
  | .list _ xs => xs
  | .walk xs => xs
def ItK.inv (ns : List Int) (H : HW) : ItK → Prop
  | .list kv xs => asL ns H kv = some xs
  | .walk _ => True
def RepL (c : Cx) (φ : Mp) (v : V) (a : Addr) : Prop := (∃ k, v = .loc k ∧ φ.l[k]? = some a) ∨ (v = .script ∧ a = c.aS)
theorem RepL.rep {φ h v a} (r : RepL c φ v a) : RepV c φ h v (.ref a) := by
  rcases r with ⟨k, rfl, e⟩ | ⟨rfl, rfl⟩
  · exact .loc e
  · exact .script
def ItAt (c : Cx) (A : Around) (φ : Mp) (h : Heap) (I : Addr) (i : Nat) : ItK → Prop
  | .list kv _ => ∃ a, RepL c φ kv a ∧ h.IsListIter I a i
  | .walk xs => ∃ P St, Walks c.prog c.w A I [I] [I] xs.length P St ∧ (∀ i v, P i v → ∃ u, xs[i]? = some u ∧ (∀ T, v ≠ .ref T) ∧ ∀ φ h, RepV c φ h u v) ∧ (∀ i h, St i h → ∃ o, h.get? I = some o) ∧ St i h
theorem ItAt.keep {A φ φ' h h' I i k} (x : ItAt c A φ h I i k) (e : ∀ o, h.get? I = some o → h'.get? I = some o) (g : ∀ (k : Nat) a, φ.l[k]? = some a → φ'.l[k]? = some a) : ItAt c A φ' h' I i k := by
  cases k with
  | list kv xs =>
    obtain ⟨a, r, o, ho, q⟩ := x
    refine ⟨a, ?_, o, e _ ho, q⟩
    rcases r with ⟨k, rfl, e⟩ | ⟨rfl, rfl⟩
    · exact .inl ⟨k, rfl, g _ _ e⟩
    · exact .inr ⟨rfl, rfl⟩
  | walk xs =>
    obtain ⟨P, St, W, hp, hl, st⟩ := x
    exact ⟨P, St, W, hp, hl, W.frame _ _ _ st fun b hb o eo => by rw [List.mem_singleton.mp hb] at eo ⊢; exact e o eo⟩
/-- one item more -/
theorem ItAt.item {A E φ H I i k} {v : V} {s : Shared} {R : Option Value → Shared → Prop} (G : Good c) (ok : Ok c φ H s.heap) (iv : k.inv c.ns H) (x : ItAt c A φ s.heap I i k) (hv : k.items[i]? = some v)
    (h : ∀ y h' t, RepV c φ s.heap v y → ItAt c A φ h' I (i + 1) k → (∀ b o, b ≠ I → s.heap.get? b = some o → h'.get? b = some o) → (∃ o, h'.get? I = some o) → ((∃ l, h'.IsListIter I l (i + 1)) ∨ ∀ T, y ≠ .ref T) → R (some y) { s with heap := h', toks := t }) :
    wpAny (model c.prog c.w) A (pyNext (.ref I)) R E s := by
  cases k with
  | list kv xs =>
    obtain ⟨a, r, it⟩ := x
    obtain ⟨a', ys, ea, il, rr⟩ := asL_of G ok r.rep iv
    cases ea
    obtain ⟨y, h1, h2⟩ := rr.get hv
    refine wpAny_pyNext_list_item it il (by simpa using h1) fun h' it' sb => h y h' s.toks h2 ⟨a, r, it'⟩ (fun b o n e => (sb.2 b n).trans e) (by obtain ⟨o, ho, _⟩ := it'; exact ⟨o, ho⟩) (.inl ⟨a, it'⟩)
  | walk xs =>
    obtain ⟨P, St, W, hp, hl, st⟩ := x
    have hi : i < xs.length := (List.getElem?_eq_some_iff.mp hv).1
    refine W.item i s _ _ hi st fun y h' tk py st' kp => ?_
    obtain ⟨u, hu, nr, ru⟩ := hp i y py
    have : u = v := by have := hu.symm.trans hv; cases this; rfl
    subst this
    exact h y h' tk (ru _ _) ⟨P, St, W, hp, hl, st'⟩ (fun b o n e => kp b o (fun m => n (List.mem_singleton.mp m)) e) (hl _ _ st') (.inr nr)
theorem ItAt.done {A E φ H I i k} {s : Shared} {R : Option Value → Shared → Prop} (G : Good c) (hh : A.handled = none) (ok : Ok c φ H s.heap) (iv : k.inv c.ns H) (x : ItAt c A φ s.heap I i k) (hv : i = k.items.length)
    (h : ∀ h' t, (∀ b o, b ≠ I → s.heap.get? b = some o → h'.get? b = some o) → R none { s with heap := h', toks := t }) :
    wpAny (model c.prog c.w) A (pyNext (.ref I)) R E s := by
  cases k with
  | list kv xs =>
    obtain ⟨a, r, it⟩ := x
    obtain ⟨a', ys, ea, il, rr⟩ := asL_of G ok r.rep iv
    cases ea
    refine wpAny_pyNext_list_end hh it il (by rw [hv]; simp [ItK.items, rr.length]) fun h' xb => h h' s.toks fun b o n e => xb b o n e
  | walk xs =>
    obtain ⟨P, St, W, hp, hl, st⟩ := x
    rw [hv] at st
    exact W.done s _ _ st fun h' tk kp => h h' tk fun b o n e => kp b o (fun m => n (List.mem_singleton.mp m)) e
theorem ItAt.live {A φ h I i k} (x : ItAt c A φ h I i k) : ∃ o, h.get? I = some o := by
  cases k with
  | list kv xs => obtain ⟨a, r, o, ho, _⟩ := x; exact ⟨o, ho⟩
  | walk xs => obtain ⟨P, St, W, hp, hl, st⟩ := x; exact hl _ _ st

theorem Vars.same {φ h env sl h'} (v : Vars c ρ φ h env sl) {I : Addr} (nL : I ≠ env.locals) (nC : ∀ x, env.cells.lookup x ≠ some I) (nZ : I ∉ φ.z) (k : ∀ b o, b ≠ I → h.get? b = some o → h'.get? b = some o) : Vars c ρ φ h' env sl := by
  obtain ⟨m, hn, hm⟩ := v.loc
  obtain ⟨o, es, ep, ho, r⟩ := id hn
  have kz : ∀ b o, b ∈ φ.z → h.get? b = some o → h'.get? b = some o := fun b o z e => k b o (fun q => nZ (q ▸ z)) e
  refine ⟨v.nd, v.len, v.offL, v.offZ, v.newL, ⟨m, ⟨o, es, ep, k _ _ (Ne.symm nL) ho, r⟩, fun i x w h1 h2 h3 => ?_⟩, fun x a e => ?_, v.inj, fun i x w h1 h2 h3 => ?_, v.has⟩
  · obtain ⟨y, h4, h5⟩ := hm i x w h1 h2 h3
    exact ⟨y, h4, h5.keep kz⟩
  · obtain ⟨n, z, n0, y, o', ho', hd⟩ := v.offC x a e
    exact ⟨n, z, n0, y, o', k _ _ (fun q => nC x (q ▸ e)) ho', hd⟩
  · obtain ⟨a, y, h4, ⟨o', ho', hd⟩, h6⟩ := v.cel i x w h1 h2 h3
    exact ⟨a, y, h4, ⟨o', k _ _ (fun q => nC x (q ▸ h4)) ho', hd⟩, h6.keep kz⟩

/-- what a loop goes over, made -/
abbrev WI := Sl → HW → (ItK → HW → Prop) → Prop
def PostI (c : Cx) (A : Around) (φ : Mp) (s : Shared) (Q : ItK → HW → Prop) (it : Value) (s' : Shared) : Prop :=
  ∃ I k H φ', it = .ref I ∧ Q k H ∧ k.inv c.ns H ∧ ItAt c A φ' s'.heap I 0 k ∧ s.heap.get? I = none ∧ I ∉ φ'.l ∧ I ∉ φ'.z ∧ Ok c φ' H s'.heap ∧ Grow φ s.heap φ' s'.heap ∧ Rest s s'
def Ei (c : Cx) (d : Nat) (sc : Scope) (ρ : List Str) (e : Expr) (W : WI) : Prop :=
  ∀ env A E s φ sl H Q, EnvOK sc env → AOK d A → Ok c φ H s.heap → Vars c ρ φ s.heap env sl → W sl H Q →
    wpAny (model c.prog c.w) A (eval e env) (fun x s₁ => wpAny (model c.prog c.w) A (pyIter x) (PostI c A φ s Q) E s₁) E s
def iList (ns : List Int) (a : WE) : WI := fun sl H Q => a sl H fun v H' => match asL ns H' v with | some xs => Q (.list v xs) H' | none => False
theorem new_unz {φ H} {h : Heap} (ok : Ok c φ H h) : h.objs.size ∉ φ.l ∧ h.objs.size ∉ φ.z := by
  constructor
  · intro m; obtain ⟨o, e⟩ := ok.live m; rw [new_none] at e; cases e
  · intro m; obtain ⟨o, e⟩ := ok.zl _ m; rw [new_none] at e; cases e
theorem Grow.none {φ h φ' h'} (g : Grow φ h φ' h') {a} (e : h'.get? a = none) : h.get? a = none := by
  cases q : h.get? a with
  | none => rfl
  | some o => obtain ⟨o', e'⟩ := g.live a o q; rw [e] at e'; cases e'
theorem ei_list {e a} (G : Good c) (he : Ev c d sc ρ e a) : Ei c d sc ρ e (iList c.ns a) := by
  intro env A E s φ sl H Q eo ao ok vs w
  refine wpAny_mono (he env A E s φ sl H _ eo ao ok vs w) (fun x s₁ p₁ => ?_) fun _ _ e => e
  obtain ⟨v, H₁, φ₁, w₁, ok₁, rv, g₁, r₁⟩ := p₁
  split at w₁
  · rename_i xs ex
    obtain ⟨al, ys, rfl, il, rr⟩ := asL_of G ok₁ rv ex
    refine wpAny_pyIter_list il ?_
    have kp : ∀ b o, s₁.heap.get? b = some o → (s₁.heap.push { cls := .type "list_iterator", data := .fields #[.ref al, .int 0 0] }).get? b = some o := fun b o e => Heap.get?_push_of_some _ e
    refine ⟨_, .list v xs, H₁, φ₁, rfl, w₁, ex, ⟨al, ?_, _, Heap.get?_push_size _ rfl, rfl, rfl⟩, g₁.none (new_none _), (new_unz ok₁).1, (new_unz ok₁).2, ok₁.keep kp, g₁.trans (.of_keep kp), r₁.trans (Rest.mk s₁ _ s₁.toks)⟩
    cases rv <;> simp only [asL] at ex <;> try (cases ex; done)
    · rename_i k hk; exact .inl ⟨k, rfl, hk⟩
    · exact .inr ⟨rfl, rfl⟩
  · exact w₁.elim
/-- the numbers of a range -/
def rangeL (a b st : Int) : List V := (List.range (Builtin.Range.rangeSize a b st).toNat).map fun i => .int (a + (i : Nat) * st)
def iRange1 (x : WE) : WI := fun sl H Q => x sl H fun v H' => match v with | .int n => (-1000000 < n ∧ n < 1000000) ∧ Q (.walk (rangeL 0 n 1)) H' | _ => False
theorem range_walk {A I a b st h} (hh : A.handled = none) (e : h.get? I = some { cls := .type "range_iterator", data := .fields #[rawInt a, rawInt (Builtin.Range.rangeSize a b st), rawInt st] }) (hn : 0 ≤ Builtin.Range.rangeSize a b st) (φ : Mp) :
    ItAt c A φ h I 0 (.walk (rangeL a b st)) := by
  refine ⟨fun i v => ∃ t, v = .int (a + (i : Nat) * st) t ∧ i < (Builtin.Range.rangeSize a b st).toNat, fun i h => IsRangeIter h I (a + (i : Nat) * st) (((Builtin.Range.rangeSize a b st).toNat : Int) - (i : Nat)) st, ?_, ?_, ?_, ?_⟩
  · have W := Walks.range (prog := c.prog) (w := c.w) hh I a st (Builtin.Range.rangeSize a b st).toNat
    have el : (rangeL a b st).length = (Builtin.Range.rangeSize a b st).toNat := by simp [rangeL]
    rw [el]
    exact ⟨W.sub, W.frame, fun i s Q E hi st hQ => W.item i s Q E hi st fun v h' tk pv => by obtain ⟨t, rfl⟩ := pv; exact hQ _ h' tk ⟨t, rfl, hi⟩, W.done, W.self⟩
  · rintro i v ⟨t, rfl, hi⟩
    exact ⟨.int (a + i * st), by simp [rangeL, hi], fun T e => (nomatch e), fun _ _ => .int⟩
  · exact fun i h st => ⟨_, st⟩
  · show h.get? I = _
    rw [e]
    simp [Int.toNat_of_nonneg hn]
theorem rangeSize_nonneg (a b st : Int) : 0 ≤ Builtin.Range.rangeSize a b st := by rw [rangeSize_toNat]; omega
theorem range_small {n : Int} (h : -1000000 < n ∧ n < 1000000) : Builtin.Range.small 0 n 1 = true := small_one (by decide) (by decide) (by omega) (by omega)
theorem ei_range1 {x np pos e a} (G : Good c) (hk : sc.kind = .function) (hx : sc.names.lookup x = some .globalImplicit) (hg : c.mg x = none) (hv : c.mb x = some (.type "range")) (hd : (x == ("__debug__" : Str)) = false)
    (he : Ev c d sc ρ e a) (hs : ∀ env, starEach [e] env = [(false, eval e env)]) : Ei c d sc ρ (.Call (.Name x np) [e] [] pos) (iRange1 a) := by
  intro env A E s φ sl H Q eo ao ok vs w
  refine Call_Name1 (name_built G eo ok hk hx hg hv hd ?_) (hs env)
  refine PyProof.Rows.callWith_type rfl (Calls.evalArgs_plain (Calls.spliced_cons ?_))
  refine wpAny_mono (he env A E s φ sl H _ eo ao ok vs w) (fun y s₁ p₁ => ?_) fun _ _ e => e
  obtain ⟨v, H₁, φ₁, w₁, ok₁, rv, g₁, r₁⟩ := p₁
  refine Calls.spliced_nil ?_
  split at w₁
  · rename_i n
    cases rv with
    | @int _ t =>
      refine call_range_1 ?_
      have kp : ∀ b o, s₁.heap.get? b = some o → (s₁.heap.push { cls := .type "range", data := .fields #[.int 0 s₁.toks, .int n t, .int 1 (s₁.toks + 1)] }).get? b = some o := fun b o e => Heap.get?_push_of_some _ e
      refine wpAny_pyIter_range (s := { s₁ with heap := s₁.heap.push { cls := .type "range", data := .fields #[.int 0 s₁.toks, .int n t, .int 1 (s₁.toks + 1)] }, toks := s₁.toks + 1 + 1 }) (IsRange.new ..) (range_small w₁.1) ?_
      have ok₂ := ok₁.keep kp
      have kp' : ∀ b o, (s₁.heap.push { cls := .type "range", data := .fields #[.int 0 s₁.toks, .int n t, .int 1 (s₁.toks + 1)] }).get? b = some o → ((s₁.heap.push { cls := .type "range", data := .fields #[.int 0 s₁.toks, .int n t, .int 1 (s₁.toks + 1)] }).push { cls := .type "range_iterator", data := .fields #[rawInt 0, rawInt (Builtin.Range.rangeSize 0 n 1), rawInt 1] }).get? b = some o := fun b o e => Heap.get?_push_of_some _ e
      exact ⟨_, _, H₁, φ₁, rfl, w₁.2, trivial, range_walk ao.handled (Heap.get?_push_size _ rfl) (rangeSize_nonneg ..) φ₁, (g₁.trans (.of_keep kp)).none (new_none _), (new_unz ok₂).1, (new_unz ok₂).2, ok₂.keep kp', (g₁.trans (.of_keep kp)).trans (.of_keep kp'), (r₁.trans (Rest.mk s₁ _ _)).trans (Rest.mk _ _ _)⟩
  · exact w₁.elim

/-! ### for -/
def wForGo (ns : List Int) (k : ItK) (ta : WA) (b : WS) : List V → WS
  | [] => fun sl H Q => Q .next sl H
  | v :: r => fun sl H Q => ta v sl H fun sl₁ H₁ => b sl₁ H₁ fun F sl₂ H₂ => match F with | .next => k.inv ns H₂ ∧ wForGo ns k ta b r sl₂ H₂ Q | .ret u => Q (.ret u) sl₂ H₂
def wFor (ns : List Int) (it : WI) (ta : WA) (b : WS) : WS := fun sl H Q => it sl H fun k H₁ => wForGo ns k ta b k.items sl H₁ Q
/-- the target does not look at the iterator -/
def Lot (M : Model) (t : Expr) : Prop := ∀ A E s I l i (y : Value) (R : Unit → Shared → Prop), (s.heap.IsListIter I l i ∨ ∀ T, y ≠ .ref T) → R () s → wpAny M A (letOwnedTupleGo t (.ref I) y) R E s
theorem lot_name {M x p} : Lot M (.Name x p) := fun _ _ _ _ _ _ _ _ _ h => wpAny_pure h
theorem ex_for {t iter body pos wi wa wb} (G : Good c) (hi : Ei c d sc ρ iter wi) (ht : At c d sc ρ t wa) (hb : Exs c d sc ρ body wb) (hl : Lot (model c.prog c.w) t) (hs : ∀ env x, foldedSetIterable iter env x = pure x) : Ex c d sc ρ (.For t iter body [] pos) (wFor c.ns wi wa wb) := by
  intro env A E s φ sl H Q eo ao ok vs w
  refine wpAny_For (wpAny_mono (hi env A E s φ sl H _ eo ao ok vs w) (fun x s₁ p₁ => wpAny_mono p₁ (fun it s₂ p₂ => ?_) fun _ _ e => e) fun _ _ e => e) (hs env)
  obtain ⟨I, k, H₂, φ₂, rfl, q, iv, ia, fI, nl, nz, ok₂, g₂, r₂⟩ := p₂
  have vs₂ := vs.grow g₂
  have fr : I ≠ env.locals ∧ (∀ x, env.cells.lookup x ≠ some I) ∧ c.h₀.get? I = none := by
    refine ⟨fun e => ?_, fun x e => ?_, ?_⟩
    · obtain ⟨m, ⟨o, _, _, ho, _⟩, _⟩ := vs.loc
      rw [← e, fI] at ho; cases ho
    · obtain ⟨_, _, _, y, o, ho, _⟩ := vs.offC x I e
      rw [fI] at ho; cases ho
    · cases e : c.h₀.get? I with
      | none => rfl
      | some o => have := ok.base _ _ e; rw [fI] at this; cases this
  obtain ⟨fL, fC, f0⟩ := fr
  refine codeAny_forLoop_any (fun n s' => ∃ i φ' sl' H', i + n = k.items.length ∧ wForGo c.ns k wa wb (k.items.drop i) sl' H' Q ∧ k.inv c.ns H' ∧ ItAt c A φ' s'.heap I i k ∧ I ∉ φ'.l ∧ I ∉ φ'.z ∧ Ok c φ' H' s'.heap ∧ Vars c ρ φ' s'.heap env sl' ∧ GrowS env φ s.heap φ' s'.heap ∧ Rest s s')
    ?_ k.items.length ⟨0, φ₂, sl, H₂, by simp, q, iv, ia, nl, nz, ok₂, vs₂, g₂.toS, r₂⟩
  rintro n s' ⟨i, φ', sl', H', hn, q, iv, ia, nl, nz, ok', vs', g', r'⟩
  cases n with
  | zero =>
    have hi : i = k.items.length := by omega
    refine ItAt.done G ao.handled ok' iv ia hi fun h' t kp => wpAny_execs_nil ?_
    rw [List.drop_eq_nil_of_le (by omega)] at q
    refine ⟨.next, sl', H', φ', q, ok'.same nl nz f0 kp, vs'.same fL fC nz kp, trivial, ?_, r'.trans (Rest.mk s' _ _)⟩
    refine ⟨g'.ext, fun b o e n1 n2 n3 => kp b o (fun z => ?_) (g'.keep b o e n1 n2 n3), fun b o e => ?_⟩
    · rw [z, fI] at e; cases e
    · obtain ⟨o', e'⟩ := g'.live b o e
      exact ⟨o', kp b o' (fun z => by rw [z, fI] at e; cases e) e'⟩
  | succ n =>
    have hlt : i < k.items.length := by omega
    obtain ⟨v, ev⟩ : ∃ v, k.items[i]? = some v := ⟨_, List.getElem?_eq_getElem hlt⟩
    rw [List.drop_eq_getElem_cons hlt] at q
    have ev' : k.items[i] = v := by rw [List.getElem?_eq_getElem hlt] at ev; cases ev; rfl
    rw [ev'] at q
    refine ItAt.item G ok' iv ia ev fun y h' tk ry ia' kp lv lt => ?_
    have ok₃ := ok'.same nl nz f0 kp
    have vs₃ := vs'.same fL fC nz kp
    have g₃ : GrowS env φ s.heap φ' h' := ⟨g'.ext, fun b o e n1 n2 n3 => kp b o (fun z => by rw [z, fI] at e; cases e) (g'.keep b o e n1 n2 n3), fun b o e => by
      obtain ⟨o', e'⟩ := g'.live b o e
      exact ⟨o', kp b o' (fun z => by rw [z, fI] at e; cases e) e'⟩⟩
    have ry₃ : RepV c φ' h' v y := ry.keep fun b o z e => kp b o (fun w => nz (w ▸ z)) e
    have go : wpAny (model c.prog c.w) A (letOwnedTupleGo t (.ref I) y) (fun _ s₁' => s₁' = { s' with heap := h', toks := tk }) (notedBy (model c.prog c.w) A env fun e s' => (match (Except.error e : Result) with | .ok f => PostS c ρ env φ s Q f s' | .error e => cameBackBy (model c.prog c.w) A env E e s')) { s' with heap := h', toks := tk } := by
      rcases lt with ⟨l, it⟩ | nr
      · exact hl _ _ _ _ l _ _ _ (.inl it) rfl
      · exact hl _ _ _ _ 0 0 _ _ (.inr nr) rfl
    refine wpAny_mono go (fun _ s₁' es => ?_) fun _ _ e => e
    subst es
    refine wpAny_mono (ht env A _ _ φ' sl' H' v y _ eo ao ok₃ vs₃ ry₃ q) (fun _ s₄ p₄ => ?_) fun _ _ e => e
    obtain ⟨sl₄, H₄, φ₄, q₄, ok₄, vs₄, g₄, r₄⟩ := p₄
    refine wpAny_mono (hb env A _ s₄ φ₄ sl₄ H₄ _ eo ao ok₄ vs₄ q₄) (fun f s₅ p₅ => ?_) fun _ _ e => e
    obtain ⟨F, sl₅, H₅, φ₅, q₅, ok₅, vs₅, rf, g₅, r₅⟩ := p₅
    have rr : Rest s s₅ := ((r'.trans (Rest.mk s' h' tk)).trans r₄).trans r₅
    cases F with
    | ret u =>
      cases f with
      | ret x => exact ⟨.ret u, sl₅, H₅, φ₅, q₅, ok₅, vs₅, rf, (g₃.trans g₄).trans g₅, rr⟩
      | _ => exact rf.elim
    | next =>
      cases f with
      | next =>
        obtain ⟨o, lo⟩ := lv
        have n4 := g₄.nin nl lo
        have z4 := g₄.ninz nz lo
        have l4 := g₄.keep I o lo nl fL fC
        have n5 := g₅.nin n4 l4
        have z5 := g₅.ninz z4 l4
        have l5 := g₅.keep I o l4 n4 fL fC
        refine ⟨n, Nat.lt_succ_self n, i + 1, φ₅, sl₅, H₅, by omega, q₅.2, q₅.1, ia'.keep (fun o' e' => ?_) (fun k a e => g₅.at (g₄.at e)), n5, z5, ok₅, vs₅, (g₃.trans g₄).trans g₅, rr⟩
        rw [lo] at e'; cases e'; exact l5
      | _ => exact rf.elim
end
end Mine

namespace Mine
section
variable {c : Cx} {d : Nat} {sc : Scope} {ρ : List Str}

/-! ### a slot is stored -/
def othersOf (h : Heap) (L x : Addr) : List (Addr × Obj) := (List.range h.objs.size).filterMap fun b => if b = L ∨ b = x then none else (h.get? b).map fun o => (b, o)
theorem mem_others {h : Heap} {L x b : Addr} {o : Obj} : (b, o) ∈ othersOf h L x ↔ h.get? b = some o ∧ b ≠ L ∧ b ≠ x := by
  unfold othersOf
  rw [List.mem_filterMap]
  constructor
  · rintro ⟨b', _, e⟩
    split at e
    · cases e
    · rename_i n
      obtain ⟨o', h1, h2⟩ := Option.map_eq_some_iff.mp e
      cases h2
      exact ⟨h1, fun q => n (.inl q), fun q => n (.inr q)⟩
  · rintro ⟨e, n1, n2⟩
    exact ⟨b, List.mem_range.mpr (Heap.lt_size e), by rw [if_neg (by rintro (q | q); exact n1 q; exact n2 q), e]; rfl⟩
theorem set_slot_ok {A E} {s : Shared} {K : Frag} {C p x L : Addr} {i : Nat} {name : Str} {v : Value} {ox od : Obj} {m : Str → Option Value} {R : Unit → Shared → Prop} (X : K.In s.heap) (I : InstAt s.heap x ox C (some od))
    (hs : findIn K (.ref C) "__setattr__" = some (some (.builtin "object.__setattr__"))) (hp : plainOver K C = true) (ht : takerIn K C name = some (some (.ref p))) (hT : typeIn K (.ref p) = some (.type "member_descriptor")) (hi : slotIn K p C = some i) (hz : i < 1000)
    (hn : s.heap.Ns L m) (hx : x ≠ L) (hf : ox.isFreed = false)
    (h : ∀ h', h'.Ns L m → (∀ b o, b ≠ x → b ≠ L → s.heap.get? b = some o → h'.get? b = some o) → h'.get? x = some { ox with slots := (ox.slots ++ Array.replicate (i + 1 - ox.slots.size) none).setIfInBounds i (some v) } → R () { s with heap := h', toks := s.toks + 1 }) :
    wpAny (model c.prog c.w) A (setAttr (.ref x) name v) R E s := by
  have F : Fr { objs := #[] } L s.heap m := ⟨hn, fun b o e => by simp [Heap.get?] at e, Nat.zero_le _⟩
  have N : News { objs := #[] } L s.heap ([] ++ (x, ox) :: othersOf s.heap L x) := by
    intro q hq
    rcases List.mem_cons.mp hq with rfl | hq
    · exact ⟨I.at_, hx, by simp [Heap.get?]⟩
    · obtain ⟨h1, h2, h3⟩ := mem_others.mp hq
      exact ⟨h1, h2, by simp [Heap.get?]⟩
  refine set_plain X I hs (osa_descr (s := { s with toks := s.toks + 1 }) KF.slot_mset X I hp ht hT (slot_set (s := { s with toks := s.toks + 1 }) F N X I hi hz (fun _ h => nomatch h) (fun q hq => (mem_others.mp hq).2.2) rfl ?_ fun h' F' N' => ?_))
  · obtain ⟨a, b, dt, sl⟩ := ox
    cases dt <;> first | rfl | exact hf
  · exact h h' F'.ns (fun b o n1 n2 e => (N' (b, o) (.tail _ (mem_others.mpr ⟨e, n2, n1⟩))).1) (N' (x, _) (.head _)).1
/-- a tracked object is turned, and the frame's own object may be another one that says the same -/
theorem put_in {φ H h h' env sl lo o m} {j : Nat} {a : Addr} (ok : Ok c φ H h) (vs : Vars c ρ φ h env sl) (hj : φ.l[j]? = some a) (r : RepO c φ h lo o) (hn' : h'.Ns env.locals m) (kp : ∀ b o, b ≠ a → b ≠ env.locals → h.get? b = some o → h'.get? b = some o) (e : h'.get? a = some o)
    (hm : h.Ns env.locals m := by assumption) : Ok c φ (H.set j lo) h' ∧ Vars c ρ φ h' env sl ∧ GrowS env φ h φ h' := by
  have ma : a ∈ φ.l := List.mem_of_getElem? hj
  have kz : ∀ b o, b ∈ φ.z → h.get? b = some o → h'.get? b = some o := fun b o z e => kp b o (fun q => ok.dj b z (q ▸ ma)) (fun q => vs.offZ (q ▸ z)) e
  refine ⟨⟨fun b o e => kp b o (fun q => ok.off b o e (q ▸ ma)) (fun q => by rw [q, vs.newL] at e; cases e) (ok.base b o e), ok.off, by simp [ok.len], ok.nodup, fun i x lo' e1 e2 => ?_, ok.dj, fun b m => by obtain ⟨o, e⟩ := ok.zl b m; exact ⟨o, kz b o m e⟩, ok.g0, ok.sm⟩, ?_, ?_⟩
  · by_cases q : i = j
    · subst q
      rw [e1] at hj
      cases hj
      rw [List.getElem?_set_self (by rw [← ok.len]; exact (List.getElem?_eq_some_iff.mp e1).1)] at e2
      cases e2
      exact ⟨o, e, r.keep kz⟩
    · rw [List.getElem?_set_ne (Ne.symm q)] at e2
      obtain ⟨o', h1, h2⟩ := ok.objs i x lo' e1 e2
      refine ⟨o', kp _ _ (fun z => q ?_) (fun z => vs.offL (z ▸ List.mem_of_getElem? e1)) h1, h2.keep kz⟩
      subst z
      obtain ⟨l1, e1'⟩ := List.getElem?_eq_some_iff.mp e1
      obtain ⟨l2, ek'⟩ := List.getElem?_eq_some_iff.mp hj
      exact (List.getElem_inj (h₀ := l1) (h₁ := l2) ok.nodup).mp (e1'.trans ek'.symm)
  · obtain ⟨m₀, hn₀, hm₀⟩ := vs.loc
    have em : m₀ = m := by
      obtain ⟨o1, es1, ep1, h1, d1, _, f1⟩ := hn₀
      obtain ⟨o2, es2, ep2, h2, d2, _, f2⟩ := hm
      rw [h1] at h2; cases h2
      rw [d1] at d2; cases d2
      funext x; rw [← f1 x, ← f2 x]
    subst em
    have kc : ∀ x b, env.cells.lookup x = some b → ∀ o, h.get? b = some o → h'.get? b = some o := fun x b ex o eb => by
      obtain ⟨n, z, n0, y, o', ho', hd⟩ := vs.offC x b ex
      refine kp b o (fun q => n (q ▸ ma)) (fun q => ?_) eb
      obtain ⟨o2, es, ep, ho2, hd2, _⟩ := hn₀
      rw [q, ho2] at ho'; cases ho'; rw [hd] at hd2; cases hd2
    refine ⟨vs.nd, vs.len, vs.offL, vs.offZ, vs.newL, ⟨m₀, hn', fun i x w h1 h2 h3 => ?_⟩, fun x b ex => ?_, vs.inj, fun i x w h1 h2 h3 => ?_, vs.has⟩
    · obtain ⟨y, h4, h5⟩ := hm₀ i x w h1 h2 h3
      exact ⟨y, h4, h5.keep kz⟩
    · obtain ⟨n, z, n0, y, o', ho', hd⟩ := vs.offC x b ex
      exact ⟨n, z, n0, y, o', kc x b ex o' ho', hd⟩
    · obtain ⟨b, y, h4, ⟨o', ho', hd⟩, h6⟩ := vs.cel i x w h1 h2 h3
      exact ⟨b, y, h4, ⟨o', kc x b h4 o' ho', hd⟩, h6.keep kz⟩
  · refine ⟨⟨[], [], by simp, by simp, by simp, by simp⟩, fun b o e n1 n2 _ => kp b o (fun q => n1 (q ▸ ma)) n2 e, fun b o' e' => ?_⟩
    by_cases q : b = a
    · exact ⟨o, q ▸ e⟩
    · by_cases q2 : b = env.locals
      · obtain ⟨o2, _, _, ho2, _⟩ := hn'
        exact ⟨o2, q2 ▸ ho2⟩
      · exact ⟨o', kp b o' q q2 e'⟩
def setF (fs : List (Option V)) (i : Nat) (v : V) : List (Option V) := (fs ++ List.replicate (i + 1 - fs.length) none).set i (some v)
theorem setF_join {fs : List (Option V)} {i : Nat} {v : V} (j : Nat) : ((setF fs i v)[j]?).join = if j = i then some v else (fs[j]?).join := by
  unfold setF
  by_cases q : j = i
  · subst q
    rw [List.getElem?_set_self (by simp; omega)]
    simp
  · rw [List.getElem?_set_ne (Ne.symm q), if_neg q]
    by_cases l : j < fs.length
    · rw [List.getElem?_append_left l]
    · rw [List.getElem?_append_right (Nat.not_lt.mp l), List.getElem?_replicate, List.getElem?_eq_none (Nat.not_lt.mp l)]
      split <;> rfl
theorem setA_join {xs : Array (Option Value)} {i : Nat} {v : Value} (j : Nat) : (((xs ++ Array.replicate (i + 1 - xs.size) none).setIfInBounds i (some v))[j]?).join = if j = i then some v else (xs[j]?).join := by
  by_cases q : j = i
  · subst q
    rw [Array.getElem?_setIfInBounds_self_of_lt (by simp; omega)]
    simp
  · rw [Array.getElem?_setIfInBounds_ne (Ne.symm q), if_neg q]
    by_cases l : j < xs.size
    · rw [Array.getElem?_append_left l]
    · rw [Array.getElem?_append_right (Nat.not_lt.mp l), Array.getElem?_replicate, Array.getElem?_eq_none (Nat.not_lt.mp l)]
      split <;> rfl
def wSetAttr (k i : Nat) (a b : WE) : WS := fun sl H Q => b sl H fun v H₁ => a sl H₁ fun o H₂ => match o with
  | .loc j => (match H₂[j]? with | some (.inst k' fs) => k' = k ∧ Q .next sl (H₂.set j (.inst k (setF fs i v))) | _ => False)
  | _ => False
theorem ex_setattr {o name ap e pos k i p a b} (G : Good c) (ho : Ev c d sc ρ o a) (he : Ev c d sc ρ e b)
    (hs : findIn c.K (.ref (c.cls k)) "__setattr__" = some (some (.builtin "object.__setattr__"))) (hp : plainOver c.K (c.cls k) = true) (ht : takerIn c.K (c.cls k) name = some (some (.ref p))) (hT : typeIn c.K (.ref p) = some (.type "member_descriptor")) (hi : slotIn c.K p (c.cls k) = some i) (hz : i < 1000)
    (hw : ∀ env, swapsWith e (some (.Attribute o name ap)) pos.line env = pure false) : Ex c d sc ρ (.Assign [.Attribute o name ap] e pos) (wSetAttr k i a b) := by
  intro env A E s φ sl H Q eo ao ok vs w
  refine plainObj_wpAny_Assign_Attribute (wpAny_mono (he env A E s φ sl H _ eo ao ok vs w) (fun y s₁ p₁ => ?_) fun _ _ e => e) (hw env)
  obtain ⟨v, H₁, φ₁, w₁, ok₁, rv, g₁, r₁⟩ := p₁
  refine wpAny_mono (ho env A E s₁ φ₁ sl H₁ _ eo ao ok₁ (vs.grow g₁) w₁) (fun x s₂ p₂ => ?_) fun _ _ e => e
  obtain ⟨u, H₂, φ₂, w₂, ok₂, ru, g₂, r₂⟩ := p₂
  have vs₂ := vs.grow (g₁.trans g₂)
  split at w₂
  · rename_i j
    split at w₂
    · rename_i k' fs ej
      obtain ⟨rfl, w₂⟩ := w₂
      cases ru with
      | loc hj =>
        rename_i xa
        obtain ⟨oo, h1, h2⟩ := ok₂.objs j xa _ hj ej
        cases h2 with
        | inst r z n yz eb =>
          rename_i xs b
          have mj : xa ∈ φ₂.l := List.mem_of_getElem? hj
          have nL : xa ≠ env.locals := fun q => vs₂.offL (q ▸ mj)
          obtain ⟨m, hn, hm⟩ := id vs₂.loc
          refine set_slot_ok (ok₂.X G) ⟨h1, rfl, rfl, eb⟩ hs hp ht hT hi hz hn nL rfl fun h' hn' kp hx' => ?_
          have rv₂ := rv.grow g₂
          have ro : RepO c φ₂ s₂.heap (.inst k' (setF fs i v)) { cls := .ref (c.cls k'), dict := some b, data := .plain, slots := (xs ++ Array.replicate (i + 1 - xs.size) none).setIfInBounds i (some y) } := by
            refine .inst (fun t u e => ?_) (fun t e => ?_) n ‹_› eb
            · rw [setF_join] at e
              rw [setA_join]
              split at e
              · rename_i q; cases e; exact ⟨_, if_pos q, rv₂⟩
              · rename_i q; obtain ⟨x', h3, h4⟩ := r t u e
                exact ⟨x', by rw [if_neg q]; exact h3, h4⟩
            · rw [setF_join] at e
              rw [setA_join]
              split at e
              · cases e
              · rename_i q; rw [if_neg q]; exact z t e
          obtain ⟨ok', vs', g'⟩ := put_in ok₂ vs₂ hj ro hn' kp hx'
          exact ⟨.next, sl, _, φ₂, w₂, ok', vs', trivial, (g₁.trans g₂).toS.trans g', (r₁.trans r₂).trans (Rest.mk s₂ h' _)⟩
    · exact w₂.elim
  · exact w₂.elim
end
end Mine

namespace Mine
section
variable {c : Cx} {d : Nat} {sc : Scope} {ρ : List Str}

/-! ### a def of the text -/
def FnC (c : Cx) (d : Nat) (f : Value) (W : WF) : Prop :=
  ∀ A s φ H args vals Q (R : Result → Shared → Prop), AOK d A → Ok c φ H s.heap → RepVs c φ s.heap args vals → W args H Q → (∀ x s', PostE c φ s Q x s' → R (.ok (.ret x)) s') → codeAny (model c.prog c.w) A (.call f ⟨vals, []⟩) R s
theorem FnC.ok {f W} (h : FnC c d f W) : FnOK c d f W := fun A _ s φ H args vals Q ao ok r w => wpAny_call (h A s φ H args vals Q _ ao ok r w fun _ _ p => p)
theorem FnC.weaken {f W W'} (h : FnC c d f W) (k : ∀ args H Q, W' args H Q → W args H Q) : FnC c d f W' := fun A s φ H args vals Q R ao ok r w => h A s φ H args vals Q R ao ok r (k _ _ _ w)
def retV : Fl → V
  | .ret v => v
  | .next => .none
def fnW (n k : Nat) (W : WS) : WF := fun args H Q => args.length = n ∧ W (args.map some ++ List.replicate k none) H fun F _ H' => Q (retV F) H'
theorem bindL_not {kd : Str → Option NameKind} {x : Str} : ∀ (bs : List (Str × Value)) (m : Str → Option Value), x ∉ bs.map (·.1) → bindL kd bs m x = m x
  | [], _, _ => rfl
  | (n, v) :: r, m, h => by
    rw [List.map_cons, List.mem_cons] at h
    unfold bindL
    rw [bindL_not r _ fun q => h (.inr q)]
    split
    · exact if_neg fun q => h (.inl q)
    · rfl
theorem bindC_not {kd : Str → Option NameKind} {x : Str} : ∀ (bs : List (Str × Value)) (m : Str → Option Value), x ∉ bs.map (·.1) → bindC kd bs m x = m x
  | [], _, _ => rfl
  | (n, v) :: r, m, h => by
    rw [List.map_cons, List.mem_cons] at h
    unfold bindC
    rw [bindC_not r _ fun q => h (.inr q)]
    split
    · rfl
    · exact if_neg fun q => h (.inl q)
theorem bindL_get {kd : Str → Option NameKind} {x : Str} {v : Value} : ∀ (bs : List (Str × Value)) (m : Str → Option Value), (bs.map (·.1)).Nodup → (x, v) ∈ bs → kd x = some .local → bindL kd bs m x = some v
  | (n, w) :: r, m, nd, h, hk => by
    rw [List.map_cons, List.nodup_cons] at nd
    unfold bindL
    rcases List.mem_cons.mp h with e | h
    · cases e
      rw [bindL_not r _ nd.1, if_pos hk, if_pos rfl]
    · exact bindL_get r _ nd.2 h hk
theorem bindC_get {kd : Str → Option NameKind} {x : Str} {v : Value} : ∀ (bs : List (Str × Value)) (m : Str → Option Value), (bs.map (·.1)).Nodup → (x, v) ∈ bs → kd x = some .cell → bindC kd bs m x = some v
  | (n, w) :: r, m, nd, h, hk => by
    rw [List.map_cons, List.nodup_cons] at nd
    unfold bindC
    rcases List.mem_cons.mp h with e | h
    · cases e
      rw [bindC_not r _ nd.1, if_neg (by rw [hk]; decide), if_pos rfl]
    · exact bindC_get r _ nd.2 h hk
theorem Ok.fresh {φ H h a} (ok : Ok c φ H h) (e : h.get? a = none) : a ∉ φ.l ∧ a ∉ φ.z ∧ c.h₀.get? a = none := by
  refine ⟨fun m => ?_, fun m => ?_, ?_⟩
  · obtain ⟨o, e'⟩ := ok.live m; rw [e] at e'; cases e'
  · obtain ⟨o, e'⟩ := ok.zl _ m; rw [e] at e'; cases e'
  · cases q : c.h₀.get? a with
    | none => rfl
    | some o => have := ok.base _ _ q; rw [e] at this; cases this
theorem fn_ok {f : Addr} {fo : Obj} {fd : FuncData} {body : List Stmt} {ps rest : List Str} {W : WS} (G : Good c) (ho : c.h₀.get? f = some fo) (hd : fo.data = .func fd) (hcd : c.h₀.CodeRec fd.code fd.qualname) (hbody : fd.body = .stmts body) (hclo : fd.closure = [])
    (hbind : ∀ vals : List Value, vals.length = ps.length → bindArgs fd ⟨vals, []⟩ = pure (ps.zip vals)) (hg : fd.globals = mainGlobals) (hbi : fd.builtins = builtinsNs) (hco : fd.scope.isCoroutine = false) (hgen : fd.scope.isGenerator = false) (hk : fd.scope.kind = .function)
    (hnd : (ps ++ rest).Nodup) (hkd : ∀ x ∈ ps ++ rest, fd.scope.names.lookup x = some .local ∨ fd.scope.names.lookup x = some .cell) (hb : Exs c d fd.scope (ps ++ rest) body W) : FnC c (d + 1) (.ref f) (fnW ps.length rest.length W) := by
  intro A s φ H args vals Q R ao ok r w k
  obtain ⟨hn, w⟩ := w
  have hv : vals.length = ps.length := by rw [← r.length, hn]
  have kz : (ps.zip vals).map (·.1) = ps := List.map_fst_zip (by omega)
  have pn : ps.Nodup := (List.nodup_append.mp hnd).1
  refine codeAny_call_cells (by have := ao.depth; show A.depth < 1000; omega) (ok.base _ _ ho) hd (G.NL.keeps ok.base) (hcd.keeps ok.base) hbody (hbind vals hv) hclo (fun x hx => ?_) (fun s₁ x => ?_) hco hgen hk
  · have hm : x.1 ∈ ps := by rw [← kz]; exact List.mem_map_of_mem hx
    rcases hkd x.1 (List.mem_append_left _ hm) with h | h
    · exact .inl h
    · exact .inr ⟨h, cellsFrom_some _ _ _ (.inl h)⟩
  · have kp := x.toInCall.keep
    have eL : (callEnvC fd s.heap.objs.size f).locals = s.heap.objs.size := rfl
    have eK : ∀ y, (callEnvC fd s.heap.objs.size f).kindOf y = fd.scope.names.lookup y := fun _ => rfl
    have eC : (callEnvC fd s.heap.objs.size f).cells = cellsFrom (s.heap.objs.size + 1) fd.scope.names [] := rfl
    have nb : ∀ a, s.heap.get? a = none → a ∉ φ.l ∧ a ∉ φ.z ∧ c.h₀.get? a = none := fun a e => ok.fresh e
    have fc : ∀ y a, (callEnvC fd s.heap.objs.size f).cells.lookup y = some a → s.heap.get? a = none := fun y a e => by
      have := x.above y a (PySem.mem_of_lookup e)
      exact Heap.get?_none_of_le (Nat.le_of_lt this)
    have ok₁ : Ok c φ H s₁.heap := ok.keep kp
    have g₁ : Grow φ s.heap φ s₁.heap := .of_keep kp
    have r₁ := r.grow g₁
    have at_ : ∀ (i : Nat) y v, (ps ++ rest)[i]? = some y → (args.map some ++ List.replicate rest.length none)[i]? = some (some v) → ∃ z, (y, z) ∈ ps.zip vals ∧ RepV c φ s₁.heap v z := fun i y v e1 e2 => by
      by_cases hi : i < ps.length
      · rw [List.getElem?_append_left hi] at e1
        rw [List.getElem?_append_left (by simp [hn]; exact hi), List.getElem?_map] at e2
        obtain ⟨u, h1, h2⟩ := Option.map_eq_some_iff.mp e2
        cases h2
        obtain ⟨z, h3, h4⟩ := r₁.get h1
        refine ⟨z, ?_, h4⟩
        apply List.mem_of_getElem? (i := i)
        rw [List.getElem?_zip_eq_some]
        exact ⟨e1, h3⟩
      · rw [List.getElem?_append_right (by simp [hn]; omega), List.getElem?_replicate] at e2
        split at e2 <;> cases e2
    have vs : Vars c (ps ++ rest) φ s₁.heap (callEnvC fd s.heap.objs.size f) (args.map some ++ List.replicate rest.length none) := by
      refine ⟨hnd, by simp [hn], (nb _ (new_none _)).1, (nb _ (new_none _)).2.1, (nb _ (new_none _)).2.2, ⟨_, x.toInCall.ns, fun i y v e1 e2 e3 => ?_⟩, fun y a e => ?_, fun y z a e1 e2 => PySem.name_of_addr x.apart (PySem.mem_of_lookup e1) (PySem.mem_of_lookup e2), fun i y v e1 e2 e3 => ?_, fun i y e1 e2 => ?_⟩
      · obtain ⟨z, h1, h2⟩ := at_ i y v e1 e3
        exact ⟨z, bindL_get _ _ (by rw [kz]; exact pn) h1 e2, h2⟩
      · have e0 := fc y a e
        exact ⟨(nb a e0).1, (nb a e0).2.1, (nb a e0).2.2, _, x.cell y a e⟩
      · obtain ⟨z, h1, h2⟩ := at_ i y v e1 e3
        have ey : (callEnvC fd s.heap.objs.size f).kindOf y = some .cell := by
          rcases e2 with e2 | e2
          · exact e2
          · rcases hkd y (List.mem_of_getElem? e1) with q | q <;> (rw [eK, q] at e2; cases e2)
        obtain ⟨a, ea⟩ := Option.isSome_iff_exists.mp (cellsFrom_some (x := y) fd.scope.names (s.heap.objs.size + 1) [] (.inl ey))
        refine ⟨a, z, ea, ?_, h2⟩
        have := x.cell y a ea
        rw [bindC_get _ _ (by rw [kz]; exact pn) h1 ey] at this
        exact this
      · exact Option.isSome_iff_exists.mp (cellsFrom_some (x := y) fd.scope.names (s.heap.objs.size + 1) [] (.inl e2))
    refine wpAny_mono (hb _ (A.deeper (callEnvC fd s.heap.objs.size f)) _ s₁ φ _ H _ ⟨rfl, hg, hbi⟩ ⟨ao.handled, by have := ao.depth; show A.depth + 1 + d < 900; omega, by have := ao.units; show A.units + 3 + 20 * d < 9000; omega⟩ ok₁ vs w) (fun fl s' p => ?_) fun _ _ e => e
    obtain ⟨F, sl', H', φ', q, ok', vs', rf, g', rs'⟩ := p
    have g : Grow φ s.heap φ' s'.heap := by
      refine ⟨?_, fun b o e n => g'.keep b o (kp b o e) n (fun z => ?_) (fun y z => ?_), fun b o e => g'.live b o (kp b o e)⟩
      · obtain ⟨δ, ζ, e1, e2, h1, h2⟩ := g'.ext
        exact ⟨δ, ζ, e1, e2, fun a m => g₁.none (h1 a m), fun a m => g₁.none (h2 a m)⟩
      · rw [z, eL, new_none] at e; cases e
      · rw [fc y b z] at e; cases e
    have rs : Rest s s' := by
      obtain ⟨h1, t1, e1, _⟩ := x.done
      exact Rest.trans (b := s₁) ⟨h1, t1, e1⟩ rs'
    cases F with
    | next =>
      cases fl with
      | next => exact k _ _ ⟨.none, H', φ', q, ok', .none, g, rs⟩
      | _ => exact rf.elim
    | ret v =>
      cases fl with
      | ret y => exact k _ _ ⟨v, H', φ', q, ok', rf, g, rs⟩
      | _ => exact rf.elim

/-! ### classes -/
theorem Ok.inst0 {φ H h k} (ok : Ok c φ H h) : Ok c ⟨φ.l ++ [h.objs.size + 1], φ.z ++ [h.objs.size]⟩ (H ++ [.inst k []]) ((h.push emptyDict).push (instObj (c.cls k) h.objs.size)) ∧
    Grow φ h ⟨φ.l ++ [h.objs.size + 1], φ.z ++ [h.objs.size]⟩ ((h.push emptyDict).push (instObj (c.cls k) h.objs.size)) := by
  obtain ⟨ok₁, g₁⟩ := ok.freeze (new_none h) (h' := h.push emptyDict) (fun b o e => Heap.get?_push_of_some _ e) (Heap.get?_push_size _ rfl)
  have sz : (h.push emptyDict).objs.size = h.objs.size + 1 := Heap.size_push ..
  have n1 : (h.push emptyDict).get? (h.objs.size + 1) = none := by rw [← sz]; exact new_none _
  obtain ⟨ok₂, g₂⟩ := ok₁.alloc (a := h.objs.size + 1) (lo := .inst k []) (o := instObj (c.cls k) h.objs.size) n1 (h' := (h.push emptyDict).push (instObj (c.cls k) h.objs.size)) (fun b o e => Heap.get?_push_of_some _ e) (by rw [← sz]; exact Heap.get?_push_size _ rfl)
    (.inst (fun i v e => by simp at e) (fun i _ => by simp) (new_unz ok).1 (List.mem_append_right _ (.head _)) (Heap.get?_push_size _ rfl)) ok.newS1
  exact ⟨ok₂, g₁.trans g₂⟩
/-! ### an instance that nothing turns any more -/
mutual
inductive Bel (n : Nat) : V → Prop
  | none : Bel n .none
  | bool {b} : Bel n (.bool b)
  | int {i} : Bel n (.int i)
  | str {s} : Bel n (.str s)
  | loc {k} : k < n → Bel n (.loc k)
  | tup {vs} : Bels n vs → Bel n (.tup vs)
  | obj {k fs} : Bels n fs → Bel n (.obj k fs)
  | glob {a} : Bel n (.glob a)
  | script : Bel n .script
inductive Bels (n : Nat) : List V → Prop
  | nil : Bels n []
  | cons {v vs} : Bel n v → Bels n vs → Bels n (v :: vs)
end
mutual
theorem RepV.bel {φ h} : ∀ {v x}, RepV c φ h v x → Bel φ.l.length v
  | _, _, .none => .none
  | _, _, .bool => .bool
  | _, _, .int => .int
  | _, _, .str => .str
  | _, _, .loc e => .loc (List.getElem?_eq_some_iff.mp e).1
  | _, _, .tup _ _ _ _ r => .tup (RepVs.bel r)
  | _, _, .obj _ _ _ _ _ _ _ _ r => .obj (RepVs.bel r)
  | _, _, .glob _ => .glob
  | _, _, .script => .script
theorem RepVs.bel {φ h} : ∀ {vs xs}, RepVs c φ h vs xs → Bels φ.l.length vs
  | _, _, .nil => .nil
  | _, _, .cons r rs => .cons (RepV.bel r) (RepVs.bel rs)
end
theorem Bels.mem {n} : ∀ {vs}, Bels n vs → ∀ v ∈ vs, Bel n v
  | _, .cons h _, _, .head _ => h
  | _, .cons _ t, _, .tail _ m => Bels.mem t _ m
mutual
theorem RepV.unt {φ h} {l : List Addr} {x : Addr} (e : φ.l = l ++ [x]) : ∀ {v y}, RepV c φ h v y → Bel l.length v → RepV c ⟨l, φ.z ++ [x]⟩ h v y
  | _, _, .none, _ => .none
  | _, _, .bool, _ => .bool
  | _, _, .int, _ => .int
  | _, _, .str, _ => .str
  | _, _, .loc e', .loc hk => .loc (by rw [e, List.getElem?_append_left hk] at e'; exact e')
  | _, _, .tup n z n0 e' r, .tup b => .tup (fun m => n (by rw [e]; exact List.mem_append_left _ m)) (List.mem_append_left _ z) n0 e' (RepVs.unt e r b)
  | _, _, .obj n z m y n0 e1 es e2 r, .obj b => .obj (fun q => n (by rw [e]; exact List.mem_append_left _ q)) (List.mem_append_left _ z) (fun q => m (by rw [e]; exact List.mem_append_left _ q)) (List.mem_append_left _ y) n0 e1 es e2 (RepVs.unt e r b)
  | _, _, .glob e', _ => .glob e'
  | _, _, .script, _ => .script
theorem RepVs.unt {φ h} {l : List Addr} {x : Addr} (e : φ.l = l ++ [x]) : ∀ {vs ys}, RepVs c φ h vs ys → Bels l.length vs → RepVs c ⟨l, φ.z ++ [x]⟩ h vs ys
  | _, _, .nil, _ => .nil
  | _, _, .cons r rs, .cons b bs => .cons (RepV.unt e r b) (RepVs.unt e rs bs)
end
theorem RepO.unt {φ h φ₀ h₀' lo o o₀} {x : Addr} (e : φ.l = φ₀.l ++ [x]) (r : RepO c φ h lo o) (r₀ : RepO c φ₀ h₀' lo o₀) : RepO c ⟨φ₀.l, φ.z ++ [x]⟩ h lo o := by
  cases r with
  | list r => cases r₀ with | list r₀ => exact .list (r.unt e r₀.bel)
  | dict d k r => cases r₀ with | dict d₀ k₀ r₀ => exact .dict d k (r.unt e r₀.bel)
  | inst r z n y eb =>
    cases r₀ with
    | inst r₀ =>
      refine .inst (fun i v ev => ?_) z (fun m => n (by rw [e]; exact List.mem_append_left _ m)) (List.mem_append_left _ y) eb
      obtain ⟨x', h1, h2⟩ := r i v ev
      obtain ⟨_, _, h3⟩ := r₀ i v ev
      exact ⟨x', h1, h2.unt e h3.bel⟩
def frW (k : Nat) (W : WF) : WF := fun args H Q => W (.loc H.length :: args) (H ++ [.inst k []]) fun r H' => r = .none ∧ ∃ fs, (∀ v ∈ fs, v ∈ args) ∧ H' = H ++ [.inst k (fs.map some)] ∧ Q (.obj k fs) H
theorem slots_of {φ h} {fs : List V} {sl : Array (Option Value)} (r : ∀ (i : Nat) v, ((fs.map some)[i]?).join = some v → ∃ x, (sl[i]?).join = some x ∧ RepV c φ h v x) (z : ∀ i : Nat, ((fs.map some)[i]?).join = none → (sl[i]?).join = none) :
    ∃ xs : List Value, (∀ i : Nat, (sl[i]?).join = xs[i]?) ∧ RepVs c φ h fs xs := by
  have hj : ∀ (fs : List V) (i : Nat), ((fs.map some)[i]?).join = fs[i]? := fun fs i => by rw [List.getElem?_map]; cases fs[i]? <;> rfl
  have key : ∀ (fs : List V) (k : Nat), (∀ (i : Nat) v, fs[i]? = some v → ∃ x, (sl[k + i]?).join = some x ∧ RepV c φ h v x) → ∃ xs : List Value, (∀ i : Nat, i < fs.length → (sl[k + i]?).join = xs[i]?) ∧ RepVs c φ h fs xs := by
    intro fs
    induction fs with
    | nil => exact fun k _ => ⟨[], fun i hi => by simp at hi, .nil⟩
    | cons f fs ih =>
      intro k hf
      obtain ⟨x, h1, h2⟩ := hf 0 f rfl
      obtain ⟨xs, h3, h4⟩ := ih (k + 1) fun i v e => by
        obtain ⟨x, a, b⟩ := hf (i + 1) v (by simpa using e)
        exact ⟨x, by rw [show k + 1 + i = k + (i + 1) by omega]; exact a, b⟩
      refine ⟨x :: xs, fun i hi => ?_, .cons h2 h4⟩
      cases i with
      | zero => simpa using h1
      | succ i => rw [show k + (i + 1) = k + 1 + i by omega]; simpa using h3 i (by simpa using hi)
  obtain ⟨xs, h1, h2⟩ := key fs 0 fun i v e => by
    obtain ⟨x, a, b⟩ := r i v (by rw [hj]; exact e)
    exact ⟨x, by simpa using a, b⟩
  refine ⟨xs, fun i => ?_, h2⟩
  by_cases hi : i < fs.length
  · simpa using h1 i hi
  · rw [z i (by rw [hj]; exact List.getElem?_eq_none (Nat.not_lt.mp hi)), List.getElem?_eq_none (by rw [← h2.length]; exact Nat.not_lt.mp hi)]
theorem make_fr {k fI W} (G : Good c) (hm : makesIn c.K (c.cls k) = true) (hi : findIn c.K (.ref (c.cls k)) "__init__" = some (some (.ref fI))) (hf : typeIn c.K (.ref fI) = some (.type "function")) (h : FnC c d (.ref fI) W) : FnC c (d + 1) (.ref (c.cls k)) (frW k W) := by
  intro A s φ H args vals Q R ao ok r w K
  have X := ok.X G
  obtain ⟨hh, gg, dd, t, os⟩ := s
  obtain ⟨ok₂, g₂⟩ := ok.inst0 (k := k)
  refine make_core (makes_of X hm) (looks_findIn X hi) (fun self => bind_fn X self hf) (.inl rfl) ?_
  refine h _ ⟨(hh.push emptyDict).push (instObj (c.cls k) hh.objs.size), gg, dd, t, os⟩ _ _ _ _ _ _ ⟨ao.handled, ?_, ?_⟩ ok₂ (.cons (.loc ?_) (r.grow g₂)) w fun x s' p => ?_
  · have := ao.depth; show A.depth + 1 + d < 900; omega
  · have := ao.units; show A.units + 1 + 20 * d < 9000; omega
  · rw [← ok.len]; simp
  · obtain ⟨v, H', φ', ⟨rfl, fs, hfs, rfl, q⟩, ok', rv, g', rs'⟩ := p
    cases rv
    obtain ⟨δ, ζ, e1, e2, hδ, hζ⟩ := g'.ext
    have e3 : φ'.l = φ.l ++ [hh.objs.size + 1] := by
      have l1 := ok'.len
      have l2 := ok.len
      have : δ = [] := by
        rw [e1] at l1
        simp at l1
        apply List.eq_nil_of_length_eq_zero
        omega
      rw [e1, this, List.append_nil]
    have at1 : φ'.l[H.length]? = some (hh.objs.size + 1) := by rw [e3, ← ok.len]; simp
    have mx : hh.objs.size + 1 ∈ φ'.l := List.mem_of_getElem? at1
    have nx : hh.objs.size + 1 ∉ φ.l := fun m => by
      have := ok'.nodup
      rw [e3, List.nodup_append] at this
      exact this.2.2 _ m _ (.head _) rfl
    have sub : ∀ a, a ∈ φ.l → a ∈ φ'.l := fun a m => by rw [e3]; exact List.mem_append_left _ m
    obtain ⟨ox, hox, rox⟩ := ok'.objs H.length _ (.inst k (fs.map some)) at1 (by simp)
    refine ⟨rfl, K _ _ ⟨.obj k fs, H, ⟨φ.l, φ'.z ++ [hh.objs.size + 1]⟩, q, ⟨ok'.base, fun b o e m => ok'.off b o e (sub _ m), ok.len, ok.nodup, fun i a lo ea el => ?_, fun a m m' => ?_, fun a m => ?_, ok'.g0, fun a m => ok'.sm a (sub a m)⟩, ?_, ?_, ?_⟩⟩
    · have hlt := (List.getElem?_eq_some_iff.mp ea).1
      obtain ⟨o, h1, h2⟩ := ok'.objs i a lo (by rw [e3, List.getElem?_append_left hlt]; exact ea) (by rw [List.getElem?_append_left (by rw [← ok.len]; exact hlt)]; exact el)
      obtain ⟨o₀, _, h4⟩ := ok.objs i a lo ea el
      exact ⟨o, h1, h2.unt e3 h4⟩
    · rcases List.mem_append.mp m with m | m
      · exact ok'.dj a m (sub _ m')
      · rw [List.mem_singleton.mp m] at m'; exact nx m'
    · rcases List.mem_append.mp m with m | m
      · exact ok'.zl a m
      · rw [List.mem_singleton.mp m]; exact ⟨ox, hox⟩
    · cases rox with
      | inst ri zi n y eb =>
        obtain ⟨xs, h1, h2⟩ := slots_of (fun i v e => by
          obtain ⟨x', a1, a2⟩ := ri i v e
          refine ⟨x', a1, a2.unt e3 ?_⟩
          have : v ∈ fs := by
            rw [List.getElem?_map] at e
            cases q2 : fs[i]? with
            | none => rw [q2] at e; cases e
            | some u => rw [q2] at e; cases e; exact List.mem_of_getElem? q2
          exact r.bel.mem v (hfs v this)) zi
        exact .obj nx (List.mem_append_right _ (.head _)) (fun m => n (sub _ m)) (List.mem_append_left _ y) (by
          cases q3 : c.h₀.get? (hh.objs.size + 1) with
          | none => rfl
          | some o => exact absurd mx (ok'.off _ _ q3)) hox h1 eb h2
    · refine ⟨⟨[], [hh.objs.size] ++ ζ ++ [hh.objs.size + 1], by simp, by rw [e2]; simp, by simp, fun a m => ?_⟩, fun b o e n => ?_, fun b o e => ?_⟩
      · rcases List.mem_append.mp m with m | m
        · rcases List.mem_append.mp m with m | m
          · rw [List.mem_singleton.mp m]; exact new_none hh
          · exact g₂.none (hζ a m)
        · rw [List.mem_singleton.mp m]; exact Heap.get?_none_of_le (Nat.le_succ _)
      · refine g'.keep b o (g₂.keep b o e n) (g₂.nin n e)
      · obtain ⟨o', e'⟩ := g₂.live b o e
        exact g'.live b o' e'
    · obtain ⟨h1, t1, rfl⟩ := rs'
      exact ⟨h1, t1, rfl⟩
end
end Mine

namespace Mine
section
variable {c : Cx} {d : Nat} {sc : Scope} {ρ : List Str}
theorem at0 {x : Str} {l : List Str} : (x :: l)[0]? = some x := rfl
theorem atS {x y : Str} {l : List Str} {i : Nat} (h : l[i]? = some y) : (x :: l)[i + 1]? = some y := by simpa using h
theorem lstAt_set {H : HW} {k : Nat} {xs} (h : k < H.length) : lstAt (H.set k (.list xs)) k = some xs := by
  unfold lstAt; rw [List.getElem?_set_self h]
theorem lstAt_lt {H : HW} {k : Nat} {xs} (h : lstAt H k = some xs) : k < H.length := (List.getElem?_eq_some_iff.mp (lstAt_of h)).1
/-! ### names by the written part -/
theorem mgIn (G : Good c) {x v} (e : nsIn c.K mainGlobals x = some (some v)) : c.mg x = some v := mg_of G.X G.G e
theorem mgNo (G : Good c) {x} (e : nsIn c.K mainGlobals x = some none) : c.mg x = none := mg_none_of G.X G.G e
theorem ev_fn {x np args pos f W as} (G : Good c) (hf : FnC c d f W) (ha : Evs c d sc ρ args as) (hk : sc.kind = .function) (hx : sc.names.lookup x = some .globalImplicit) (hv : nsIn c.K mainGlobals x = some (some f)) (hkeep : keepIn c.K f = true) (hd : (x == ("__debug__" : Str)) = false) : Ev c d sc ρ (.Call (.Name x np) args [] pos) (wCall W as) :=
  ev_call G hk hx (mgIn G hv) hd hkeep hf.ok ha
/-! ### minus -/
def wNeg (a : WE) : WE := fun sl H Q => a sl H fun v H' => match v with | .int i => Q (.int (-i)) H' | _ => False
theorem ev_neg {x pos a} (h : Ev c d sc ρ x a) : Ev c d sc ρ (.UnaryOp .USub x pos) (wNeg a) := by
  intro env A E s φ sl H Q eo ao ok vs w
  show wpAny _ _ (eval x env >>= fun v => standAt pos >>= fun _ => holding [v] (unaryOp .USub v)) _ _ _
  refine wpAny_bind (wpAny_mono (h env A E s φ sl H _ eo ao ok vs w) (fun y s₁ p₁ => ?_) fun _ _ e => e)
  obtain ⟨v, H₁, φ₁, w₁, ok₁, rv, g₁, r₁⟩ := p₁
  split at w₁
  · cases rv
    exact wpAny_bind (wpAny_standAt (wpAny_holding (neg_int ((PostE.here (s' := { s₁ with toks := s₁.toks + 1 }) w₁ ok₁ .int (fun _ _ e => e) (Rest.mk s₁ s₁.heap _)).shift g₁ r₁))))
  · exact w₁.elim
/-! ### tuple targets -/
def allN : List Expr → Bool
  | [] => true
  | .Name _ _ :: r => allN r
  | _ => false
def tnames : List Expr → List Str
  | .Name x _ :: r => x :: tnames r
  | _ => []
theorem stores_N {M : Model} {env : Env} : ∀ elts : List Expr, allN elts = true → (assignEach elts env).findIdx? (·.1) = none ∧ Stores M env (tnames elts) ((assignEach elts env).map (·.2))
  | [], _ => ⟨rfl, trivial⟩
  | .Name x p :: r, h => by
    have ih := stores_N (M := M) (env := env) r h
    refine ⟨?_, fun _ _ _ _ _ h => PySem.wpAny_assign_Name h, ih.2⟩
    show List.findIdx? (·.1) ((false, assign (.Name x p) env) :: assignEach r env) = none
    rw [List.findIdx?_cons, ih.1]
    rfl
theorem slots_nil : Slots sc ρ [] [] := trivial
theorem slots_cons {i is x xs} (h : ρ[i]? = some x) (hs : Slots sc ρ is xs) (hx : sc.names.lookup x = some .local ∨ sc.names.lookup x = some .cell) : Slots sc ρ (i :: is) (x :: xs) := ⟨⟨h, hx⟩, hs⟩
/-! ### + of any kind -/
def wAdd (ns : List Int) : WB := fun v w H Q => match v, w with
  | .int i, .int j => Q (.int (i + j)) H
  | .str a, .str b => a.length + b.length ≤ 1000000 ∧ Q (.str (a ++ b)) H
  | v, w => wAddL ns v w H Q
theorem addV_ok (G : Good c) : BinOK c d .Add (wAdd c.ns) := by
  intro A E s φ H v w x y Q ao ok rv rw' q
  unfold wAdd at q
  split at q
  · exact add_ok A E s φ H _ _ x y Q ao ok rv rw' q
  · rename_i a b
    cases rv; cases rw'
    exact PyProof.Rows.add_str (fun t' tk => PostE.here (s := s) (s' := { s with toks := tk }) q.2 ok .str (fun _ _ e => e) (Rest.mk s s.heap tk)) (by rw [sizeLine_eq]; omega)
  · exact addL_ok G A E s φ H _ _ x y Q ao ok rv rw' q
end
end Mine

namespace Mine
/-! ### slices, plainly -/
/-! ### the abstract heap grown -/
theorem ext_lt {α : Type} {H L : List α} {k : Nat} (h : k < H.length) : (H ++ L)[k]? = H[k]? := List.getElem?_append_left h
theorem lstAt_ext {H L : HW} {k : Nat} {xs} (h : lstAt H k = some xs) : lstAt (H ++ L) k = some xs := by
  have := lstAt_of h
  unfold lstAt
  rw [ext_lt (lstAt_lt h), this]
theorem lstAt_set_ne {H : HW} {k j : Nat} {lo : LO} (h : k ≠ j) : lstAt (H.set j lo) k = lstAt H k := by
  unfold lstAt
  rw [List.getElem?_set_ne (Ne.symm h)]
theorem asL_loc {ns : List Int} {H : HW} {k : Nat} : asL ns H (.loc k) = lstAt H k := rfl
end Mine

namespace Mine
/-! ### the words, opened one at a time (as rewritings that are not by computation) -/
section
variable {sl : Sl} {H : HW} {c : Cx} {ns : List Int}
theorem e_skip {Q} : wSkip sl H Q = Q .next sl H := propext Iff.rfl
theorem e_seq {a b Q} : wSeq a b sl H Q = a sl H (fun F sl' H' => match F with | .next => b sl' H' Q | .ret v => Q (.ret v) sl' H') := propext Iff.rfl
theorem e_set {i a Q} : wSet i a sl H Q = a sl H (fun v H' => Q .next (sl.set i (some v)) H') := propext Iff.rfl
theorem e_aug {i f a Q} : wAug i f a sl H Q = wBin f (wVar i) a sl H (fun v H' => Q .next (sl.set i (some v)) H') := propext Iff.rfl
theorem e_drop {a Q} : wDrop a sl H Q = a sl H (fun v H' => match v with | .none => Q .next sl H' | _ => False) := propext Iff.rfl
theorem e_if {t a b Q} : wIf t a b sl H Q = t sl H (fun r H' => if r then a sl H' Q else b sl H' Q) := propext Iff.rfl
theorem e_ret {a Q} : wRet a sl H Q = a sl H (fun v H' => Q (.ret v) sl H') := propext Iff.rfl
theorem e_setT {is a Q} : wSetT is a sl H Q = a sl H (fun v H' => aTup is v sl H' fun sl' H'' => Q .next sl' H'') := propext Iff.rfl
theorem e_setR {is a Q} : wSetR is a sl H Q = a sl H (fun v H' => aTupR is v sl H' fun sl' H'' => Q .next sl' H'') := propext Iff.rfl
theorem e_aTup {is vs K} : aTup is (.tup vs) sl H K = (vs.length = is.length ∧ K (setAll is vs sl) H) := propext Iff.rfl
theorem e_aTupR {is vs K} : aTupR is (.tup vs) sl H K = (vs.length = is.length ∧ K (setAll is.reverse vs.reverse sl) H) := propext Iff.rfl
theorem e_aName {i v K} : aName i v sl H K = K (sl.set i (some v)) H := propext Iff.rfl
theorem e_setAll {i is v vs} : setAll (i :: is) (v :: vs) sl = setAll is vs (sl.set i (some v)) := rfl
theorem e_setAll0 {vs} : setAll [] vs sl = sl := by cases vs <;> rfl
theorem e_k {v Q} : wK v sl H Q = Q v H := propext Iff.rfl
theorem e_var {i Q} : wVar i sl H Q = (match sl[i]? with | some (some v) => Q v H | _ => False) := propext Iff.rfl
theorem e_bin {f a b Q} : wBin f a b sl H Q = a sl H (fun v H₁ => b sl H₁ fun w H₂ => f v w H₂ Q) := propext Iff.rfl
theorem e_onI {f i j Q} : onI f (.int i) (.int j) H Q = Q (f i j) H := propext Iff.rfl
theorem e_mod {i j Q} : wMod (.int i) (.int j) H Q = (j ≠ 0 ∧ Q (.int (i.fmod j)) H) := propext Iff.rfl
theorem e_div {i j Q} : wDiv (.int i) (.int j) H Q = ((j ≠ 0 ∧ j.natAbs < 1073741824) ∧ Q (.int (i.fdiv j)) H) := propext Iff.rfl
theorem e_addI {i j Q} : wAdd ns (.int i) (.int j) H Q = Q (.int (i + j)) H := propext Iff.rfl
theorem e_addS {i j Q} : wAdd ns (.str i) (.str j) H Q = (i.length + j.length ≤ 1000000 ∧ Q (.str (i ++ j)) H) := propext Iff.rfl
theorem e_addL {k j xs ys Q} (h1 : lstAt H k = some xs) (h2 : lstAt H j = some ys) : wAdd ns (.loc k) (.loc j) H Q = (xs.length + ys.length ≤ 1000000 ∧ Q (.loc H.length) (H ++ [.list (xs ++ ys)])) := by
  show wAddL ns (.loc k) (.loc j) H Q = _
  unfold wAddL
  rw [asL_loc, asL_loc, h1, h2]
theorem e_addS1 {k xs Q} (h1 : lstAt H k = some xs) : wAdd ns (.loc k) .script H Q = (xs.length + (ns.map V.int).length ≤ 1000000 ∧ Q (.loc H.length) (H ++ [.list (xs ++ ns.map V.int)])) := by
  show wAddL ns (.loc k) .script H Q = _
  unfold wAddL
  rw [asL_loc, h1]; rfl
theorem e_isN {f v Q} : wIsN f v .none H Q = Q (.bool (f (isN v))) H := propext Iff.rfl
theorem e_tv {w Q} : tv w sl H Q = w sl H (fun v H' => match v with | .bool b => Q b H' | _ => False) := propext Iff.rfl
theorem e_not {w Q} : tNot w sl H Q = w sl H (fun b H' => Q (!b) H') := propext Iff.rfl
theorem e_and {a b Q} : tAnd a b sl H Q = a sl H (fun t H' => if t then b sl H' Q else Q false H') := propext Iff.rfl
theorem e_or {a b Q} : tOr a b sl H Q = a sl H (fun t H' => if t then Q true H' else b sl H' Q) := propext Iff.rfl
theorem e_nil {Q} : wNil sl H Q = Q [] H := propext Iff.rfl
theorem e_cons {a b Q} : wCons a b sl H Q = a sl H (fun v H₁ => b sl H₁ fun vs H₂ => Q (v :: vs) H₂) := propext Iff.rfl
theorem e_list {a Q} : wList a sl H Q = a sl H (fun vs H₁ => vs.length ≤ 1000000 ∧ Q (.loc H₁.length) (H₁ ++ [.list vs])) := propext Iff.rfl
theorem e_tup {a Q} : wTup a sl H Q = a sl H (fun vs H₁ => vs.length ≤ 1000000 ∧ Q (.tup vs) H₁) := propext Iff.rfl
theorem e_call {W as Q} : wCall W as sl H Q = as sl H (fun vs H₁ => W vs H₁ Q) := propext Iff.rfl
theorem e_meth {k W a as Q} : wMeth c k W a as sl H Q = a sl H (fun v H₁ => clsV c H₁ v = some k ∧ as sl H₁ fun vs H₂ => W (v :: vs) H₂ Q) := propext Iff.rfl
theorem e_clsO {k fs} : clsV c H (.obj k fs) = some k := rfl
theorem e_neg {a Q} : wNeg a sl H Q = a sl H (fun v H' => match v with | .int i => Q (.int (-i)) H' | _ => False) := propext Iff.rfl
theorem e_idx {a b Q} : wIdx ns a b sl H Q = a sl H (fun v H₁ => b sl H₁ fun w H₂ => match asL ns H₂ v, w with
  | some xs, .int k => xs.length ≤ 1000000 ∧ (match getI xs k with | some u => Q u H₂ | none => False)
  | _, _ => False) := propext Iff.rfl
theorem e_onone {Q} : oNone sl H Q = Q none H := propext Iff.rfl
theorem e_osome {a Q} : oSome a sl H Q = a sl H (fun v H' => match v with | .int i => Q (some i) H' | _ => False) := propext Iff.rfl
theorem e_slice {a lo hi st Q} : wSlice ns a lo hi st sl H Q = a sl H (fun v H₁ => lo sl H₁ fun l H₂ => hi sl H₂ fun u H₃ => st sl H₃ fun k H₄ => match asL ns H₄ v with
  | some xs => (xs.length ≤ 1000000 ∧ k ≠ some 0) ∧ Q (.loc H₄.length) (H₄ ++ [.list (sliceV xs l u k)])
  | none => False) := propext Iff.rfl
theorem e_append {a b Q} : wAppend a b sl H Q = a sl H (fun v H₁ => match v with
  | .loc k => (lstAt H₁ k).isSome = true ∧ b sl H₁ fun w H₂ => (match lstAt H₂ k with | some xs => xs.length ≤ 1000000 ∧ Q .none (H₂.set k (.list (xs ++ [w]))) | none => False)
  | _ => False) := propext Iff.rfl
theorem e_pop {a Q} : wPop a sl H Q = a sl H (fun v H₁ => match v with
  | .loc k => (match lstAt H₁ k with | some xs => xs.length ≤ 1000000 ∧ (match xs.getLast? with | some u => Q u (H₁.set k (.list xs.dropLast)) | none => False) | none => False)
  | _ => False) := propext Iff.rfl
theorem e_len {k xs Q} (h : lstAt H k = some xs) : bLen ns [.loc k] H Q = (xs.length ≤ 1000000 ∧ Q (.int xs.length) H) := by
  show (match asL ns H (.loc k) with | some xs => xs.length ≤ 1000000 ∧ Q (.int xs.length) H | none => False) = _
  rw [asL_loc, h]
theorem e_min {a b Q} : bMin [.int a, .int b] H Q = Q (.int (if b < a then b else a)) H := propext Iff.rfl
theorem e_max {a b Q} : bMax [.int a, .int b] H Q = Q (.int (if b > a then b else a)) H := propext Iff.rfl
theorem e_for {it ta b Q} : wFor ns it ta b sl H Q = it sl H (fun k H₁ => wForGo ns k ta b k.items sl H₁ Q) := propext Iff.rfl
theorem e_iList {a Q} : iList ns a sl H Q = a sl H (fun v H' => match asL ns H' v with | some xs => Q (.list v xs) H' | none => False) := propext Iff.rfl
theorem e_iRange1 {a Q} : iRange1 a sl H Q = a sl H (fun v H' => match v with | .int n => (-1000000 < n ∧ n < 1000000) ∧ Q (.walk (rangeL 0 n 1)) H' | _ => False) := propext Iff.rfl
theorem e_for0 {k ta b Q} : wForGo ns k ta b [] sl H Q = Q .next sl H := propext Iff.rfl
theorem e_for1 {k ta b v r Q} : wForGo ns k ta b (v :: r) sl H Q = ta v sl H (fun sl₁ H₁ => b sl₁ H₁ fun F sl₂ H₂ => match F with | .next => k.inv ns H₂ ∧ wForGo ns k ta b r sl₂ H₂ Q | .ret u => Q (.ret u) sl₂ H₂) := propext Iff.rfl
end
end Mine

namespace Mine
section
variable {c : Cx} {d : Nat} {sc : Scope} {ρ : List Str}

/-! ### a list that nobody tracked is tracked from here on -/
mutual
theorem RepV.adopt {φ : Mp} {h D} (n : D ∉ φ.z) : ∀ {v x}, RepV c φ h v x → RepV c ⟨φ.l ++ [D], φ.z⟩ h v x
  | _, _, .none => .none
  | _, _, .bool => .bool
  | _, _, .int => .int
  | _, _, .str => .str
  | _, _, .loc e => .loc (by
      show (φ.l ++ [D])[_]? = _
      rw [List.getElem?_append_left (List.getElem?_eq_some_iff.mp e).1]; exact e)
  | _, _, .tup n1 z n0 e r => .tup (fun m => (List.mem_append.mp m).elim n1 fun q => n (by rw [← List.mem_singleton.mp q]; exact z)) z n0 e (RepVs.adopt n r)
  | _, _, .obj n1 z m1 y n0 e es e' r => .obj (fun m => (List.mem_append.mp m).elim n1 fun q => n (by rw [← List.mem_singleton.mp q]; exact z)) z (fun m => (List.mem_append.mp m).elim m1 fun q => n (by rw [← List.mem_singleton.mp q]; exact y)) y n0 e es e' (RepVs.adopt n r)
  | _, _, .glob e => .glob e
  | _, _, .script => .script
theorem RepVs.adopt {φ : Mp} {h D} (n : D ∉ φ.z) : ∀ {vs xs}, RepVs c φ h vs xs → RepVs c ⟨φ.l ++ [D], φ.z⟩ h vs xs
  | _, _, .nil => .nil
  | _, _, .cons r rs => .cons (RepV.adopt n r) (RepVs.adopt n rs)
end
theorem RepO.adopt {φ : Mp} {h D} (n : D ∉ φ.z) {lo o} (r : RepO c φ h lo o) : RepO c ⟨φ.l ++ [D], φ.z⟩ h lo o := by
  cases r with
  | list r => exact .list (r.adopt n)
  | dict d k r => exact .dict d k (r.adopt n)
  | inst r z m y e => exact .inst (fun i v e => by obtain ⟨x, h1, h2⟩ := r i v e; exact ⟨x, h1, h2.adopt n⟩) z (fun q => (List.mem_append.mp q).elim m fun q => n (by rw [← List.mem_singleton.mp q]; exact y)) y e
theorem Ok.adopt {φ H h D o lo} (ok : Ok c φ H h) (nl : D ∉ φ.l) (nz : D ∉ φ.z) (n0 : c.h₀.get? D = none) (e : h.get? D = some o) (r : RepO c φ h lo o) (hm : D ≠ sysModules) : Ok c ⟨φ.l ++ [D], φ.z⟩ (H ++ [lo]) h := by
  refine ⟨ok.base, fun b o e m => ?_, by simp [ok.len], ?_, fun i x lo' e1 e2 => ?_, fun b m q => ?_, ok.zl, ok.g0, fun b m => (List.mem_append.mp m).elim (ok.sm b) fun q => by rw [List.mem_singleton.mp q]; exact hm⟩
  · rcases List.mem_append.mp m with m | m
    · exact ok.off b o e m
    · rw [List.mem_singleton.mp m, n0] at e; cases e
  · refine List.nodup_append.mpr ⟨ok.nodup, by simp, fun x m y m' q => ?_⟩
    rw [List.mem_singleton.mp m'] at q
    exact nl (q ▸ m)
  · by_cases hi : i < φ.l.length
    · rw [List.getElem?_append_left hi] at e1
      rw [List.getElem?_append_left (by rw [← ok.len]; exact hi)] at e2
      obtain ⟨o', h1, h2⟩ := ok.objs i x lo' e1 e2
      exact ⟨o', h1, h2.adopt nz⟩
    · have hi' : φ.l.length ≤ i := Nat.not_lt.mp hi
      rw [List.getElem?_append_right hi'] at e1
      rw [List.getElem?_append_right (by rw [← ok.len]; exact hi'), ← ok.len] at e2
      cases q : i - φ.l.length with
      | zero =>
        rw [q] at e1 e2
        simp at e1 e2
        subst e1 e2
        exact ⟨o, e, r.adopt nz⟩
      | succ j => rw [q] at e1; simp at e1
  · rcases List.mem_append.mp q with q | q
    · exact ok.dj b m q
    · rw [List.mem_singleton.mp q] at m; exact nz m

/-! ### comprehensions -/
def relS (scope sc : Scope) : Scope :=
  { scope with names := scope.names.map fun (n, k) => if (k == .free && sc.kind == .function && sc.names.lookup n == some .cell) then (n, .cell) else (n, k) }
theorem relabel_eq {scope : Scope} {env : Env} (e : EnvOK sc env) : relabel scope env = relS scope sc := by
  obtain ⟨rfl, _, _⟩ := e
  rfl
/-- where the free names of the comprehension stand in the frame -/
def Frs (sc : Scope) (ρ : List Str) : List (Str × NameKind) → List Nat → List Str → Prop
  | [], is, xs => is = [] ∧ xs = []
  | (n, k) :: r, is, xs => if k = .free then ∃ i is' xs', is = i :: is' ∧ xs = n :: xs' ∧ ρ[i]? = some n ∧ sc.names.lookup n = some .cell ∧ Frs sc ρ r is' xs' else Frs sc ρ r is xs
theorem frs_nil : Frs sc ρ [] [] [] := ⟨rfl, rfl⟩
theorem frs_free {n r i is xs} (h : ρ[i]? = some n) (hs : Frs sc ρ r is xs) (hc : sc.names.lookup n = some .cell) : Frs sc ρ ((n, .free) :: r) (i :: is) (n :: xs) := by
  unfold Frs; rw [if_pos rfl]; exact ⟨i, is, xs, rfl, rfl, h, hc, hs⟩
theorem frs_local {n r is xs} (hs : Frs sc ρ r is xs) : Frs sc ρ ((n, .local) :: r) is xs := by
  unfold Frs; rw [if_neg (by decide)]; exact hs
theorem frs_cell {n r is xs} (hs : Frs sc ρ r is xs) : Frs sc ρ ((n, .cell) :: r) is xs := by
  unfold Frs; rw [if_neg (by decide)]; exact hs
theorem frs_glob {n r is xs} (hs : Frs sc ρ r is xs) : Frs sc ρ ((n, .globalImplicit) :: r) is xs := by
  unfold Frs; rw [if_neg (by decide)]; exact hs
def clOf (env : Env) : List (Str × NameKind) → List (Str × Addr) → List (Str × Addr)
  | [], cs => cs
  | (n, k) :: r, cs => clOf env r (if k = .free then (match env.cells.lookup n with | some a => (n, a) :: cs | none => cs) else cs)
theorem closureFor_eq {scope : Scope} {env : Env} (h : ∀ x ∈ scope.names, x.2 = .free → (env.cells.lookup x.1).isSome = true) : closureFor scope env = pure (clOf env scope.names []) := by
  have go : ∀ (l : List (Str × NameKind)) (cs : List (Str × Addr)), (∀ x ∈ l, x.2 = .free → (env.cells.lookup x.1).isSome = true) →
      (forIn l cs fun x r => (match x with | (name, kind) => if (kind == NameKind.free) = true then do let a ← cellOf env name; pure (ForInStep.yield ((name, a) :: r)) else pure (ForInStep.yield r) : Sem (ForInStep (List (Str × Addr))))) = pure (clOf env l cs) := by
    intro l
    induction l with
    | nil => intro cs _; rfl
    | cons x r ih =>
      intro cs hl
      obtain ⟨n, k⟩ := x
      rw [List.forIn_cons]
      by_cases hk : k = .free
      · subst hk
        obtain ⟨a, ea⟩ := Option.isSome_iff_exists.mp (hl (n, .free) List.mem_cons_self rfl)
        have : cellOf env n = pure a := by unfold cellOf; rw [show env.cells.lookup n = some a from ea]
        simp only [beq_self_eq_true, if_true, this, clOf, show env.cells.lookup n = some a from ea]
        exact ih _ fun y hy => hl y (List.mem_cons_of_mem _ hy)
      · have hb : (k == NameKind.free) = false := by simpa using hk
        simp only [hb, Bool.false_eq_true, if_false, clOf, hk]
        exact ih _ fun y hy => hl y (List.mem_cons_of_mem _ hy)
  have e : closureFor scope env = (forIn scope.names ([] : List (Str × Addr)) fun x r => (match x with | (name, kind) => if (kind == NameKind.free) = true then do let a ← cellOf env name; pure (ForInStep.yield ((name, a) :: r)) else pure (ForInStep.yield r) : Sem (ForInStep (List (Str × Addr))))) >>= fun r => pure r := rfl
  rw [e, go _ _ h]
  rfl
theorem clOf_sub {env : Env} : ∀ (l : List (Str × NameKind)) (cs : List (Str × Addr)), (∀ x a, cs.lookup x = some a → env.cells.lookup x = some a) → ∀ x a, (clOf env l cs).lookup x = some a → env.cells.lookup x = some a
  | [], cs, h => h
  | (n, k) :: r, cs, h => by
    refine clOf_sub r _ fun x a e => ?_
    split at e
    · split at e
      · rename_i b eb
        rw [List.lookup_cons] at e
        split at e
        · rename_i q
          cases e
          rw [eq_of_beq q]; exact eb
        · exact h x a e
      · exact h x a e
    · exact h x a e
theorem clOf_has {env : Env} : ∀ (l : List (Str × NameKind)) (cs : List (Str × Addr)) (x : Str) (a : Addr), (env.cells.lookup x = some a) → (cs.lookup x = some a ∨ (x, NameKind.free) ∈ l) → (∀ y b, cs.lookup y = some b → env.cells.lookup y = some b) → (clOf env l cs).lookup x = some a
  | [], cs, x, a, e, h, hs => by
    rcases h with h | h
    · exact h
    · cases h
  | (n, k) :: r, cs, x, a, e, h, hs => by
    have hs' : ∀ y b, (if k = .free then (match env.cells.lookup n with | some a => (n, a) :: cs | none => cs) else cs).lookup y = some b → env.cells.lookup y = some b := by
      intro y b eb
      split at eb
      · split at eb
        · rename_i b' eb'
          rw [List.lookup_cons] at eb
          split at eb
          · rename_i q
            cases eb
            rw [eq_of_beq q]; exact eb'
          · exact hs y b eb
        · exact hs y b eb
      · exact hs y b eb
    refine clOf_has r _ x a e ?_ hs'
    by_cases q : x = n ∧ k = .free
    · obtain ⟨rfl, rfl⟩ := q
      left
      rw [if_pos rfl, e]
      simp
    · rcases h with h | h
      · left
        split
        · rename_i hk
          split
          · rename_i b' eb'
            rw [List.lookup_cons]
            have : (x == n) = false := by
              cases z : x == n with
              | false => rfl
              | true => exact absurd ⟨eq_of_beq z, hk⟩ q
            rw [this]; exact h
          · exact h
        · exact h
      · right
        rcases List.mem_cons.mp h with h | h
        · cases h; exact absurd ⟨rfl, rfl⟩ q
        · exact h
end
end Mine

namespace Mine
section
variable {c : Cx} {d : Nat} {sc : Scope} {ρ : List Str}
theorem lookup_relS_free {n : Str} (hs : sc.kind = .function) (hc : sc.names.lookup n = some .cell) : ∀ {names : List (Str × NameKind)}, names.lookup n = some .free →
    (names.map fun (n, k) => if (k == NameKind.free && sc.kind == .function && sc.names.lookup n == some .cell) then (n, NameKind.cell) else (n, k)).lookup n = some .cell
  | [], h => by simp at h
  | (m, k) :: r, h => by
    have ih := @lookup_relS_free n hs hc r
    rw [List.map_cons]
    cases hx : n == m with
    | true =>
      have := eq_of_beq hx
      subst this
      simp only [List.lookup_cons, hx] at h
      cases h
      simp [List.lookup_cons, hs, hc]
    | false =>
      simp only [List.lookup_cons, hx] at h
      have := ih h
      by_cases hc' : (k == NameKind.free && sc.kind == .function && sc.names.lookup m == some .cell) = true
      · show List.lookup n ((if (k == NameKind.free && sc.kind == .function && sc.names.lookup m == some .cell) = true then (m, NameKind.cell) else (m, k)) :: _) = _
        rw [if_pos hc', List.lookup_cons, hx]; exact this
      · show List.lookup n ((if (k == NameKind.free && sc.kind == .function && sc.names.lookup m == some .cell) = true then (m, NameKind.cell) else (m, k)) :: _) = _
        rw [if_neg hc', List.lookup_cons, hx]; exact this
theorem Frs.get {sc ρ} : ∀ {l : List (Str × NameKind)} {is : List Nat} {xs : List Str}, Frs sc ρ l is xs → is.length = xs.length ∧ ∀ (j : Nat) y, xs[j]? = some y → ∃ i, is[j]? = some i ∧ ρ[i]? = some y ∧ sc.names.lookup y = some .cell ∧ (y, NameKind.free) ∈ l
  | [], _, _, h => by obtain ⟨rfl, rfl⟩ := h; simp
  | (n, k) :: r, is, xs, h => by
    unfold Frs at h
    split at h
    · rename_i hk
      obtain ⟨i, is', xs', rfl, rfl, h1, h2, h3⟩ := h
      have ih := Frs.get h3
      refine ⟨by simp [ih.1], fun j y e => ?_⟩
      cases j with
      | zero => simp at e; subst e; exact ⟨i, rfl, h1, h2, by rw [← hk]; exact List.mem_cons_self⟩
      | succ j =>
        simp at e
        obtain ⟨i', a1, a2, a3, a4⟩ := ih.2 j y e
        exact ⟨i', by simpa using a1, a2, a3, List.mem_cons_of_mem _ a4⟩
    · have ih := Frs.get h
      exact ⟨ih.1, fun j y e => by obtain ⟨i', a1, a2, a3, a4⟩ := ih.2 j y e; exact ⟨i', a1, a2, a3, List.mem_cons_of_mem _ a4⟩⟩
/-- what a comprehension's own scope must be like -/
structure CSc (sc scope : Scope) (x : Str) (is : List Nat) (xs : List Str) (ρ : List Str) : Prop where
  kind : scope.kind = .function
  skind : sc.kind = .function
  nocell : ∀ y ∈ scope.names, y.2 ≠ .cell
  loc : scope.names.lookup x = some .local
  names : ∀ y ∈ scope.names, y.2 = .local → scope.names.lookup y.1 = some .local
  free : ∀ y ∈ scope.names, y.2 = .free → scope.names.lookup y.1 = some .free
  nd : (x :: xs).Nodup
  fr : Frs sc ρ scope.names is xs
def fvOf (sl : Sl) (is : List Nat) : Sl := is.map fun i => (sl[i]?).join
theorem CSc.closed {scope x is xs} (S : CSc sc scope x is xs ρ) {env φ h sl} (eo : EnvOK sc env) (vs : Vars c ρ φ h env sl) : ∀ y ∈ scope.names, y.2 = .free → (env.cells.lookup y.1).isSome = true := by
  have go : ∀ (l : List (Str × NameKind)) is xs, Frs sc ρ l is xs → ∀ y ∈ l, y.2 = .free → (env.cells.lookup y.1).isSome = true := by
    intro l
    induction l with
    | nil => intro _ _ _ y hy; cases hy
    | cons z r ih =>
      intro is xs h y hy hf
      obtain ⟨n, k⟩ := z
      unfold Frs at h
      split at h
      · obtain ⟨i, is', xs', rfl, rfl, h1, h2, h3⟩ := h
        rcases List.mem_cons.mp hy with e | e
        · subst e
          obtain ⟨a, ea⟩ := vs.has i n h1 ((eo.kind n).trans h2)
          rw [ea]; rfl
        · exact ih _ _ h3 y e hf
      · rename_i nk
        rcases List.mem_cons.mp hy with e | e
        · subst e; exact absurd hf nk
        · exact ih _ _ h y e hf
  exact go _ _ _ S.fr
theorem comp_env {scope : Scope} {env : Env} {A : Around} {E : Value → Shared → Prop} {s : Shared} {φ : Mp} {sl : Sl} {H : HW} {is xs x} {R : Env → Shared → Prop} (S : CSc sc scope x is xs ρ)
    (eo : EnvOK sc env) (ok : Ok c φ H s.heap) (vs : Vars c ρ φ s.heap env sl)
    (k : ∀ cenv s', cenv.locals = s.heap.objs.size → EnvOK (relS scope sc) cenv → (∀ b, cenv.cells.lookup x = some b → s.heap.get? b = none) → (∀ y b, cenv.cells.lookup y = some b → env.cells.lookup y = some b ∨ s.heap.get? b = none) → Vars c (x :: xs) φ s'.heap cenv (none :: fvOf sl is) →
      (∀ b o, s.heap.get? b = some o → s'.heap.get? b = some o) → Rest s s' → R cenv s') :
    wpAny (model c.prog c.w) A (newFunctionEnv scope env.globals (clOf env scope.names []) [] env.qual none .none (some env)) (fun cenv s' => R { cenv with scope := relabel scope env } s') E s := by
  refine wpAny_newFunctionEnv S.nocell (by intro y hy; simp at hy) (fun h₁ hns₁ hsb₁ => ?_) S.kind
  have kp : ∀ b o, s.heap.get? b = some o → h₁.get? b = some o := fun b o e => hsb₁.extBut b o (Nat.ne_of_lt (Heap.lt_size e)) (Heap.get?_push_of_some _ e)
  have sub := clOf_sub (env := env) scope.names [] (by intro x a e; simp at e)
  have hC : c.h₀.get? s.heap.objs.size = none := by
    cases e : c.h₀.get? s.heap.objs.size with
    | none => rfl
    | some o => have := ok.base _ _ e; rw [new_none] at this; cases this
  have kindC : ∀ y, y ∈ xs → (relS scope sc).names.lookup y = some .cell := fun y hy => by
    obtain ⟨j, hj, ej⟩ := List.getElem_of_mem hy
    obtain ⟨i, a1, a2, a3, a4⟩ := (S.fr.get).2 j y (by rw [List.getElem?_eq_getElem hj, ej])
    exact lookup_relS_free S.skind a3 (S.free _ a4 rfl)
  have kindX : (relS scope sc).names.lookup x = some .local := by
    have := lookup_relabel_local (env := env) S.loc
    rw [show (relS scope sc) = relabel scope env from (relabel_eq eo).symm]
    exact this
  have eoC : EnvOK (relS scope sc) { (newEnv scope s.heap.objs.size env.globals (clOf env scope.names []) env.qual none .none (some env) builtinsNs) with scope := relabel scope env } :=
    ⟨relabel_eq eo, eo.glob, eo.bi⟩
  refine k _ { s with heap := h₁, toks := s.toks + ([] : List (Str × Value)).length } rfl eoC ?_ (fun y b e => .inl (sub y b e)) ⟨S.nd, ?_, (new_unz ok).1, (new_unz ok).2, hC, ⟨_, hns₁, ?_⟩, ?_, ?_, ?_, ?_⟩ kp (Rest.mk s _ _)
  · intro b e
    have e' : (clOf env scope.names []).lookup x = some b := e
    have : ∀ (l : List (Str × NameKind)) (cs : List (Str × Addr)) (y : Str) b, (clOf env l cs).lookup y = some b → cs.lookup y = some b ∨ (y, NameKind.free) ∈ l := by
      intro l
      induction l with
      | nil => intro cs y b e; exact .inl e
      | cons z r ih =>
        intro cs y b e
        obtain ⟨n, kk⟩ := z
        rcases ih _ y b e with h | h
        · split at h
          · rename_i hk
            split at h
            · rw [List.lookup_cons] at h
              split at h
              · rename_i q; right; rw [eq_of_beq q, hk]; exact List.mem_cons_self
              · exact .inl h
            · exact .inl h
          · exact .inl h
        · exact .inr (List.mem_cons_of_mem _ h)
    rcases this _ _ _ _ e' with h | h
    · simp at h
    · have := S.free _ h rfl
      rw [S.loc] at this; cases this
  · simp [fvOf, S.fr.get.1]
  · intro i y v h1 h2 h3
    cases i with
    | zero => simp at h3
    | succ i =>
      simp at h1
      have := (eoC.kind y).symm.trans h2
      rw [kindC y (List.mem_of_getElem? h1)] at this; cases this
  · intro y a e
    obtain ⟨n, z, n0, u, o', ho', hd⟩ := vs.offC y a (sub y a e)
    exact ⟨n, z, n0, u, o', kp _ _ ho', hd⟩
  · intro y z a e1 e2
    exact vs.inj y z a (sub y a e1) (sub z a e2)
  · intro i y v h1 h2 h3
    cases i with
    | zero => simp at h3
    | succ i =>
      simp at h1 h3
      obtain ⟨j, a1, a2, a3, a4⟩ := S.fr.get.2 i y h1
      simp only [fvOf, List.getElem?_map, a1, Option.map_some] at h3
      have h4 : sl[j]? = some (some v) := by
        cases q : sl[j]? with
        | none => rw [q] at h3; simp at h3
        | some u => rw [q] at h3; simp at h3; rw [h3]
      obtain ⟨a, u, e1, ⟨o', ho', hd⟩, e3⟩ := vs.cel j y v a2 (.inl ((eo.kind y).trans a3)) h4
      exact ⟨a, u, clOf_has _ _ _ _ e1 (.inr a4) (by intro x a e; simp at e), ⟨o', kp _ _ ho', hd⟩, e3.grow (.of_keep kp)⟩
  · intro i y h1 h2
    cases i with
    | zero =>
      simp at h1
      subst h1
      have := (eoC.kind x).symm.trans h2
      rw [kindX] at this; cases this
    | succ i =>
      simp at h1
      obtain ⟨j, a1, a2, a3, a4⟩ := S.fr.get.2 i y h1
      obtain ⟨a, ea⟩ := vs.has j y a2 ((eo.kind y).trans a3)
      exact ⟨a, clOf_has _ _ _ _ ea (.inr a4) (by intro x a e; simp at e)⟩
end
end Mine

namespace Mine
section
variable {c : Cx} {d : Nat} {sc : Scope} {ρ : List Str}
/-- the tests of a comprehension -/
def Ets (c : Cx) (d : Nat) (sc : Scope) (ρ : List Str) (ifs : List Expr) (W : WT) : Prop :=
  ∀ env A E s φ sl H Q, EnvOK sc env → AOK d A → Ok c φ H s.heap → Vars c ρ φ s.heap env sl → W sl H Q →
    wpAny (model c.prog c.w) A (forIn ifs true fun c r => if r = true then do let ok ← isTrue c env (eval c env); pure (ForInStep.yield ok) else pure (ForInStep.yield r)) (PostT c φ s Q) E s
def tTrue : WT := fun _ H Q => Q true H
theorem ets_nil : Ets c d sc ρ [] tTrue := fun env A E s φ sl H Q eo ao ok vs w => wpAny_tests_nil ⟨H, φ, w, ok, .refl _ _, Rest.refl s⟩
theorem ets_one {t w} (h : Et c d sc ρ t w) : Ets c d sc ρ [t] w := fun env A E s φ sl H Q eo ao ok vs q => wpAny_tests_one (h env A E s φ sl H Q eo ao ok vs q)

def wCompGo (ns : List Int) (k : ItK) (t : WT) (e : WE) (fv : Sl) : List V → List V → HW → (List V → HW → Prop) → Prop
  | [], ys => fun H Q => Q ys H
  | v :: r, ys => fun H Q => t (some v :: fv) H fun b H₁ => if b then e (some v :: fv) H₁ fun y H₂ => k.inv ns H₂ ∧ wCompGo ns k t e fv r (ys ++ [y]) H₂ Q else k.inv ns H₁ ∧ wCompGo ns k t e fv r ys H₁ Q
def wComp (ns : List Int) (it : WI) (is : List Nat) (t : WT) (e : WE) : WE := fun sl H Q => it sl H fun k H₁ => k.items.length ≤ 100000 ∧ wCompGo ns k t e (fvOf sl is) k.items [] H₁ fun ys H₂ => Q (.loc H₂.length) (H₂ ++ [.list ys])

structure CompEnd (c : Cx) (φ : Mp) (s : Shared) (Q : List V → HW → Prop) (D C : Addr) (s' : Shared) (ys : List V) (H' : HW) (φ' : Mp) (xs : List Value) : Prop where
  q : Q ys H'
  ok : Ok c φ' H' s'.heap
  rep : RepVs c φ' s'.heap ys xs
  lst : s'.heap.PlainList D xs.toArray
  g : Grow φ s.heap φ' s'.heap
  r : Rest s s'
  dl : D ∉ φ'.l
  dz : D ∉ φ'.z
  cl : C ∉ φ'.l
  cz : C ∉ φ'.z
  dc : D ≠ C
  fd : s.heap.get? D = none
  dm : D ≠ sysModules
  fc : s.heap.get? C = none
  ns : ∃ m, s'.heap.Ns C m
theorem fresh0 {φ H} {h : Heap} (ok : Ok c φ H h) {a} (e : h.get? a = none) : c.h₀.get? a = none := by
  cases q : c.h₀.get? a with
  | none => rfl
  | some o => have := ok.base _ _ q; rw [e] at this; cases this
/-- the names are let go -/
theorem CompEnd.post {φ H s Q D C s' ys H' φ' xs} (x : CompEnd c φ s Q D C s' ys H' φ' xs) (ok0 : Ok c φ H s.heap) {h'} (sb : Heap.SameBut C s'.heap h') {Q' : V → HW → Prop} (hq : ∀ ys H', Q ys H' → Q' (.loc H'.length) (H' ++ [.list ys])) :
    PostE c φ s Q' (.ref D) { s' with heap := h' } := by
  obtain ⟨n, hD⟩ := x.lst
  have kp : ∀ b o, b ≠ C → s'.heap.get? b = some o → h'.get? b = some o := fun b o n e => (sb.2 b n).trans e
  have ok₁ : Ok c φ' H' h' := x.ok.same x.cl x.cz (fresh0 ok0 x.fc) kp
  have rp : RepVs c φ' h' ys xs := x.rep.keep fun b o z e => kp b o (fun q => x.cz (q ▸ z)) e
  have hD' := kp D _ x.dc hD
  refine ⟨_, _, ⟨φ'.l ++ [D], φ'.z⟩, hq _ _ x.q, ok₁.adopt x.dl x.dz (fresh0 ok0 x.fd) hD' (.list rp) x.dm, .loc ?_, ?_, x.r.trans ⟨h', s'.toks, rfl⟩⟩
  · show (φ'.l ++ [D])[H'.length]? = some D
    rw [← x.ok.len]; simp
  · obtain ⟨δ, ζ, e1, e2, hd, hz⟩ := x.g.ext
    refine ⟨⟨δ ++ [D], ζ, by simp [e1], e2, fun a m => ?_, hz⟩, fun b o e n => kp b o (fun q => ?_) (x.g.keep b o e n), fun b o e => ?_⟩
    · rcases List.mem_append.mp m with m | m
      · exact hd a m
      · rw [List.mem_singleton.mp m]; exact x.fd
    · rw [q, x.fc] at e; cases e
    · obtain ⟨o', e'⟩ := x.g.live b o e
      exact ⟨o', kp b o' (fun q => by rw [q, x.fc] at e; cases e) e'⟩

theorem comp_loop {elt iter : Expr} {x : Str} {xp : Pos} {ifs : List Expr} {scope sc' : Scope} {pos : Pos} {I D : Addr} {cenv : Env} {A : Around} {R : Result → Shared → Prop} {xs : List Str} {t : WT} {e : WE} {fv : Sl} {k : ItK} {φ : Mp} {s s₁ : Shared} {φ₁ : Mp} {H₁ : HW} {Q : List V → HW → Prop}
    (G : Good c) (ht : Ets c d sc' (x :: xs) ifs t) (he : Ev c d sc' (x :: xs) elt e) (eo : EnvOK sc' cenv) (ao : AOK d A) (hk : sc'.kind = .function) (hx : sc'.names.lookup x = some .local ∨ sc'.names.lookup x = some .cell)
    (fI : s.heap.get? I = none) (fD : s.heap.get? D = none) (fC : s.heap.get? cenv.locals = none) (fX : ∀ b, cenv.cells.lookup x = some b → s.heap.get? b = none) (ok0 : ∃ H, Ok c φ H s.heap)
    (dm : D ≠ sysModules) (nID : I ≠ D) (nIC : I ≠ cenv.locals) (nDC : D ≠ cenv.locals) (nIx : ∀ y, cenv.cells.lookup y ≠ some I) (nDx : ∀ y, cenv.cells.lookup y ≠ some D)
    (q : wCompGo c.ns k t e fv k.items [] H₁ Q) (hlen : k.items.length ≤ 100000) (iv : k.inv c.ns H₁) (ia : ItAt c A φ₁ s₁.heap I 0 k) (Il : I ∉ φ₁.l) (Iz : I ∉ φ₁.z) (Dl : D ∉ φ₁.l) (Dz : D ∉ φ₁.z)
    (ok₁ : Ok c φ₁ H₁ s₁.heap) (vs₁ : Vars c (x :: xs) φ₁ s₁.heap cenv (none :: fv)) (lst : s₁.heap.PlainList D #[]) (g₁ : Grow φ s.heap φ₁ s₁.heap) (r₁ : Rest s s₁)
    (hR : ∀ s' ys H' φ' xs', CompEnd c φ s Q D cenv.locals s' ys H' φ' xs' → R (.ok .next) s') :
    codeAny (model c.prog c.w) A (.compLoop (.ListComp elt [⟨.Name x xp, iter, ifs, 0⟩] scope pos) 0 (.ref I) (.ref D) cenv) R s₁ := by
  obtain ⟨H0, ok0⟩ := ok0
  refine codeAny_compLoop_tests (fun n s' => ∃ (i : Nat) (φ' : Mp) (H' : HW) (ys : List V) (xs' : List Value) (u : Option V), i + n = k.items.length ∧ wCompGo c.ns k t e fv (k.items.drop i) ys H' Q ∧ k.inv c.ns H' ∧ ItAt c A φ' s'.heap I i k ∧ I ∉ φ'.l ∧ I ∉ φ'.z ∧ D ∉ φ'.l ∧ D ∉ φ'.z ∧
      Ok c φ' H' s'.heap ∧ Vars c (x :: xs) φ' s'.heap cenv (u :: fv) ∧ s'.heap.PlainList D xs'.toArray ∧ RepVs c φ' s'.heap ys xs' ∧ ys.length ≤ i ∧ Grow φ s.heap φ' s'.heap ∧ Rest s s')
    ?_ k.items.length ⟨0, φ₁, H₁, [], [], none, by simp, q, iv, ia, Il, Iz, Dl, Dz, ok₁, vs₁, lst, .nil, Nat.le_refl _, g₁, r₁⟩
  rintro n s' ⟨i, φ', H', ys, xs', u, hn, q, iv, ia, Il, Iz, Dl, Dz, ok', vs', lst', rep', hys, g', r'⟩
  cases n with
  | zero =>
    have hi : i = k.items.length := by omega
    refine ItAt.done G ao.handled ok' iv ia hi fun h' tk kp => ?_
    rw [List.drop_eq_nil_of_le (by omega)] at q
    obtain ⟨m, hn, _⟩ := vs'.loc
    refine hR _ ys H' φ' xs' ⟨q, ok'.same Il Iz (fresh0 ok0 fI) kp, rep'.keep fun b o z e => kp b o (fun w => Iz (w ▸ z)) e, lst'.at fun o e => kp D o (Ne.symm nID) e, ?_, r'.trans (Rest.mk s' _ _), Dl, Dz, vs'.offL, vs'.offZ, nDC, fD, dm, fC, ⟨m, hn.at' fun o e => kp _ o (Ne.symm nIC) e⟩⟩
    exact ⟨g'.ext, fun b o e n => kp b o (fun q => by rw [q, fI] at e; cases e) (g'.keep b o e n), fun b o e => by
      obtain ⟨o', e'⟩ := g'.live b o e
      exact ⟨o', kp b o' (fun q => by rw [q, fI] at e; cases e) e'⟩⟩
  | succ n =>
    have hlt : i < k.items.length := by omega
    obtain ⟨v, ev⟩ : ∃ v, k.items[i]? = some v := ⟨_, List.getElem?_eq_getElem hlt⟩
    rw [List.drop_eq_getElem_cons hlt] at q
    have ev' : k.items[i] = v := by rw [List.getElem?_eq_getElem hlt] at ev; cases ev; rfl
    rw [ev'] at q
    refine ItAt.item G ok' iv ia ev fun y h₂ tk ry ia₂ kp₂ lv lt => ?_
    have ok₂ := ok'.same Il Iz (fresh0 ok0 fI) kp₂
    have vs₂ := vs'.same nIC nIx Iz kp₂
    have ry₂ : RepV c φ' h₂ v y := ry.keep fun b o z e => kp₂ b o (fun w => Iz (w ▸ z)) e
    refine wpAny_assign_Name (store_okK (s := { s' with heap := h₂, toks := tk }) (i := 0) rfl hx hk eo ok₂ vs₂ ry₂ fun s₃ ok₃ vs₃ gs₃ r₃ kp₃ => ?_)
    have kp3 : ∀ b o, b ≠ I → b ≠ cenv.locals → cenv.cells.lookup x ≠ some b → s'.heap.get? b = some o → s₃.heap.get? b = some o := fun b o n1 n2 n3 e => kp₃ b o n2 n3 (kp₂ b o n1 e)
    obtain ⟨oI, lo⟩ := lv
    have lI : s₃.heap.get? I = some oI := kp₃ I oI nIC (nIx x) lo
    have ia₃ : ItAt c A φ' s₃.heap I (i + 1) k := ia₂.keep (fun o e => kp₃ I o nIC (nIx x) e) fun _ _ e => e
    have lst₃ : s₃.heap.PlainList D xs'.toArray := lst'.at fun o e => kp3 D o (Ne.symm nID) nDC (nDx x) e
    have rep₃ : RepVs c φ' s₃.heap ys xs' := rep'.keep fun b o z e => kp3 b o (fun w => Iz (w ▸ z)) (fun w => vs'.offZ (w ▸ z)) (fun w => (vs'.offC x b w).2.1 z) e
    have g₃ : Grow φ s.heap φ' s₃.heap := by
      have nn : ∀ b o, s.heap.get? b = some o → b ≠ I ∧ b ≠ cenv.locals ∧ cenv.cells.lookup x ≠ some b := fun b o e => ⟨fun q => by (rw [q, fI] at e; cases e), fun q => by (rw [q, fC] at e; cases e), fun q => by (rw [fX b q] at e; cases e)⟩
      refine ⟨g'.ext, fun b o e n => kp3 b o (nn b o e).1 (nn b o e).2.1 (nn b o e).2.2 (g'.keep b o e n), fun b o e => ?_⟩
      obtain ⟨o', e'⟩ := g'.live b o e
      exact ⟨o', kp3 b o' (nn b o e).1 (nn b o e).2.1 (nn b o e).2.2 e'⟩
    have rr₃ : Rest s s₃ := (r'.trans (Rest.mk s' h₂ tk)).trans r₃
    have vs₃' : Vars c (x :: xs) φ' s₃.heap cenv (some v :: fv) := vs₃
    refine wpAny_mono (ht cenv A _ s₃ φ' (some v :: fv) H' _ eo ao ok₃ vs₃' q) (fun b s₄ p₄ => ?_) fun _ _ e => e
    obtain ⟨H₄, φ₄, q₄, ok₄, g₄, r₄⟩ := p₄
    have lI₄ := g₄.keep I oI lI Il
    have Il₄ := g₄.nin Il lI
    have Iz₄ := g₄.ninz Iz lI
    obtain ⟨nD, lD⟩ := id lst₃
    have Dl₄ := g₄.nin Dl lD
    have Dz₄ := g₄.ninz Dz lD
    have lst₄ : s₄.heap.PlainList D xs'.toArray := ⟨nD, g₄.keep _ _ lD Dl⟩
    have vs₄ := vs₃'.grow g₄
    have ia₄ : ItAt c A φ₄ s₄.heap I (i + 1) k := ia₃.keep (fun o e => g₄.keep I o e Il) fun _ _ e => g₄.at e
    cases b with
    | false =>
      simp only [Bool.false_eq_true, if_false] at q₄ ⊢
      exact ⟨n, Nat.lt_succ_self n, i + 1, φ₄, H₄, ys, xs', some v, by omega, q₄.2, q₄.1, ia₄, Il₄, Iz₄, Dl₄, Dz₄, ok₄, vs₄, lst₄, rep₃.grow g₄, by omega, g₃.trans g₄, rr₃.trans r₄⟩
    | true =>
      simp only [if_true] at q₄ ⊢
      refine wpAny_mono (he cenv A _ s₄ φ₄ (some v :: fv) H₄ _ eo ao ok₄ vs₄ q₄) (fun z s₅ p₅ => ?_) fun _ _ e => e
      obtain ⟨y', H₅, φ₅, q₅, ok₅, ry₅, g₅, r₅⟩ := p₅
      have lI₅ := g₅.keep I oI lI₄ Il₄
      have Il₅ := g₅.nin Il₄ lI₄
      have Iz₅ := g₅.ninz Iz₄ lI₄
      obtain ⟨nD₄, lD₄⟩ := id lst₄
      have Dl₅ := g₅.nin Dl₄ lD₄
      have Dz₅ := g₅.ninz Dz₄ lD₄
      have lst₅ : s₅.heap.PlainList D xs'.toArray := ⟨nD₄, g₅.keep _ _ lD₄ Dl₄⟩
      have vs₅ := vs₄.grow g₅
      have ia₅ : ItAt c A φ₅ s₅.heap I (i + 1) k := ia₄.keep (fun o e => g₅.keep I o e Il₄) fun _ _ e => g₅.at e
      have rep₅ : RepVs c φ₅ s₅.heap (ys ++ [y']) (xs' ++ [z]) := ((rep₃.grow g₄).grow g₅).append (.cons ry₅ .nil)
      refine wpAny_list_append_plain lst₅ (fun h₆ l₆ sb => ?_) (by rw [List.size_toArray, ← rep'.length, sizeLine_eq]; omega)
      have kp : ∀ b o, b ≠ D → s₅.heap.get? b = some o → h₆.get? b = some o := fun b o n e => (sb.2 b n).trans e
      refine ⟨n, Nat.lt_succ_self n, i + 1, φ₅, H₅, ys ++ [y'], xs' ++ [z], some v, by omega, q₅.2, q₅.1, ia₅.keep (fun o e => kp I o nID e) fun _ _ e => e, Il₅, Iz₅, Dl₅, Dz₅,
        ok₅.same Dl₅ Dz₅ (fresh0 ok0 fD) kp, vs₅.same nDC nDx Dz₅ kp, by simpa using l₆, rep₅.keep fun b o z e => kp b o (fun w => Dz₅ (w ▸ z)) e, by simp; omega, ?_, ((rr₃.trans r₄).trans r₅).trans ⟨h₆, s₅.toks, rfl⟩⟩
      have g₅' := (g₃.trans g₄).trans g₅
      exact ⟨g₅'.ext, fun b o e n => kp b o (fun q => by rw [q, fD] at e; cases e) (g₅'.keep b o e n), fun b o e => by
        obtain ⟨o', e'⟩ := g₅'.live b o e
        exact ⟨o', kp b o' (fun q => by rw [q, fD] at e; cases e) e'⟩⟩
end
end Mine

namespace Mine
section
variable {c : Cx} {d : Nat} {sc : Scope} {ρ : List Str}
theorem ItAt.self {A E φ I i k} {s : Shared} {R : Value → Shared → Prop} (x : ItAt c A φ s.heap I i k) (h : R (.ref I) s) : wpAny (model c.prog c.w) A (pyIter (.ref I)) R E s := by
  cases k with
  | list kv xs => obtain ⟨a, r, it⟩ := x; exact wpAny_pyIter_listiter it h
  | walk xs => obtain ⟨P, St, W, hp, hl, st⟩ := x; exact W.self _ _ _ _ st h
theorem comp_block {elt iter : Expr} {x : Str} {xp : Pos} {ifs : List Expr} {scope : Scope} {pos : Pos} {env : Env} {A : Around} {E : Value → Shared → Prop} {s : Shared} {φ : Mp} {sl : Sl} {H : HW} {is xs} {wi : WI} {t : WT} {e : WE} {RR : Value → Addr → Result → Shared → Prop} {Q : List V → HW → Prop}
    (G : Good c) (S : CSc sc scope x is xs ρ) (hi : Ei c d sc ρ iter wi) (ht : Ets c d (relS scope sc) (x :: xs) ifs t) (he : Ev c d (relS scope sc) (x :: xs) elt e)
    (eo : EnvOK sc env) (ao : AOK d A) (ok : Ok c φ H s.heap) (vs : Vars c ρ φ s.heap env sl)
    (w : wi sl H fun k H₁ => k.items.length ≤ 100000 ∧ wCompGo c.ns k t e (fvOf sl is) k.items [] H₁ Q)
    (hRR : ∀ D C s' ys H' φ' xs', CompEnd c φ s Q D C s' ys H' φ' xs' → RR (.ref D) C (.ok .next) s') :
    wpAny (model c.prog c.w) A (eval iter env) (fun xv s₁ => wpAny (model c.prog c.w) A (pyIter xv) (fun it s₂ => wpAny (model c.prog c.w) A (newList []) (fun acc s₃ =>
      wpAny (model c.prog c.w) A (newFunctionEnv scope env.globals (clOf env scope.names []) [] env.qual none .none (some env)) (fun cenv s₄ =>
        codeAny (model c.prog c.w) A (.compStart (.ListComp elt [⟨.Name x xp, iter, ifs, 0⟩] scope pos) 0 it acc { cenv with scope := relabel scope env }) (RR acc cenv.locals) s₄) E s₃) E s₂) E s₁) E s := by
  refine wpAny_mono (hi env A E s φ sl H _ eo ao ok vs w) (fun xv s₁ p₁ => wpAny_mono p₁ (fun it s₂ p₂ => ?_) fun _ _ e => e) fun _ _ e => e
  obtain ⟨I, k, H₂, φ₂, rfl, ⟨hlen, q⟩, iv, ia, fI, Il, Iz, ok₂, g₂, r₂⟩ := p₂
  have vs₂ := vs.grow g₂
  refine wpAny_newObj_type (hd := by size_fits) ?_
  have kp₃ : ∀ b o, s₂.heap.get? b = some o → (s₂.heap.push { cls := .type "list", dict := none, data := .seq ([] : List Value).toArray }).get? b = some o := fun b o e => Heap.get?_push_of_some _ e
  have ok₃ := ok₂.keep kp₃
  have g₃ : Grow φ₂ s₂.heap φ₂ (s₂.heap.push { cls := .type "list", dict := none, data := .seq ([] : List Value).toArray }) := .of_keep kp₃
  have fD : s.heap.get? s₂.heap.objs.size = none := g₂.none (new_none _)
  obtain ⟨oI, lI⟩ := ia.live
  refine comp_env (s := { s₂ with heap := s₂.heap.push { cls := .type "list", dict := none, data := .seq ([] : List Value).toArray } }) (R := fun cenv' s₄ => codeAny (model c.prog c.w) A (.compStart (.ListComp elt [⟨.Name x xp, iter, ifs, 0⟩] scope pos) 0 (.ref I) (.ref s₂.heap.objs.size) cenv') (RR (.ref s₂.heap.objs.size) cenv'.locals) s₄) S eo ok₃ (vs₂.grow g₃) fun cenv s₄ hC eoC fX fY vsC kp₄ r₄ => ?_
  have ok₄ := ok₃.keep kp₄
  have lD : s₄.heap.get? s₂.heap.objs.size = some { cls := .type "list", dict := none, data := .seq ([] : List Value).toArray } := kp₄ _ _ (Heap.get?_push_size _ rfl)
  have sz : cenv.locals = s₂.heap.objs.size + 1 := by rw [hC]; exact Heap.size_push ..
  have nf : ∀ b, (s₂.heap.push { cls := .type "list", dict := none, data := .seq ([] : List Value).toArray }).get? b = none → s.heap.get? b = none := fun b e => (g₂.trans g₃).none e
  have ia₄ : ItAt c A φ₂ s₄.heap I 0 k := ia.keep (fun o e => kp₄ _ _ (kp₃ _ _ e)) fun _ _ e => e
  have notcell : ∀ a o, s₂.heap.get? a = some o → a ≠ cenv.locals := fun a o e q => by
    have h1 := Heap.lt_size e
    rw [q, sz] at h1
    exact absurd h1 (Nat.not_lt.mpr (Nat.le_succ _))
  have cellObj : ∀ y a, cenv.cells.lookup y = some a → ∀ o, s₄.heap.get? a = some o → ∃ z, o.data = .cell z := fun y a e o eo' => by
    obtain ⟨_, _, _, z, o', ho', hd⟩ := vsC.offC y a e
    rw [ho'] at eo'; cases eo'; exact ⟨z, hd⟩
  have loop : codeAny (model c.prog c.w) A (.compLoop (.ListComp elt [⟨.Name x xp, iter, ifs, 0⟩] scope pos) 0 (.ref I) (.ref s₂.heap.objs.size) cenv) (RR (.ref s₂.heap.objs.size) cenv.locals) s₄ := by
    refine comp_loop G ht he eoC ao S.kind (.inl ?_) fI fD (nf _ (by rw [hC]; exact new_none _)) (fun b e => nf b (fX b e)) ⟨H, ok⟩ ok₂.newS (fun q => ?_) (fun q => notcell I oI lI q) (fun q => by rw [sz] at q; exact absurd q (Nat.ne_of_lt (Nat.lt_succ_self _)))
      (fun y e => ?_) (fun y e => ?_) q hlen iv ia₄ Il Iz (new_unz ok₂).1 (new_unz ok₂).2 ok₄ vsC ⟨_, lD⟩ ((g₂.trans g₃).trans (.of_keep kp₄)) ((r₂.trans ⟨_, s₂.toks, rfl⟩).trans r₄) fun s' ys H' φ' xs' ce => hRR _ _ s' ys H' φ' xs' ce
    · have := lookup_relabel_local (env := env) S.loc
      rw [show (relS scope sc) = relabel scope env from (relabel_eq eo).symm]
      exact this
    · have := Heap.lt_size lI
      rw [q] at this; exact Nat.lt_irrefl _ this
    · rcases fY y I e with h | h
      · obtain ⟨_, _, _, u', o3, ho3, _⟩ := vs.offC y I h
        rw [fI] at ho3; cases ho3
      · have := kp₃ _ _ lI
        rw [show (s₂.heap.push { cls := .type "list", dict := none, data := .seq ([] : List Value).toArray }).get? I = none from h] at this; cases this
    · obtain ⟨z, hd⟩ := cellObj y _ e _ lD
      cases hd
  exact codeAny_compStart_list loop (ia₄.self loop)
theorem CompPost.mk {φ s} {A : Around} {E : Value → Shared → Prop} {H} {Q : List V → HW → Prop} {Q' : V → HW → Prop} {D C s' ys H' φ' xs} (ok : Ok c φ H s.heap) (x : CompEnd c φ s Q D C s' ys H' φ' xs) (hq : ∀ ys H', Q ys H' → Q' (.loc H'.length) (H' ++ [.list ys])) :
    compPost (model c.prog c.w) A E none (PostE c φ s Q') (.ref D) C (.ok .next) s' := by
  obtain ⟨m, hn⟩ := x.ns
  exact ⟨m, hn, fun h' sb => x.post ok sb hq⟩
theorem ev_comp {elt iter : Expr} {x : Str} {xp : Pos} {ifs : List Expr} {scope : Scope} {pos : Pos} {is xs} {wi : WI} {t : WT} {e : WE} (G : Good c) (S : CSc sc scope x is xs ρ)
    (hi : Ei c d sc ρ iter wi) (ht : Ets c d (relS scope sc) (x :: xs) ifs t) (he : Ev c d (relS scope sc) (x :: xs) elt e) (hs : ∀ env x, foldedSetIterable iter env x = pure x) :
    Ev c d sc ρ (.ListComp elt [⟨.Name x xp, iter, ifs, 0⟩] scope pos) (wComp c.ns wi is t e) := by
  intro env A E s φ sl H Q eo ao ok vs w
  rw [eval_ListComp]
  show wpAny _ _ (comprehension _ scope env _ (newList []) false (eval iter env)) _ _ _
  refine wpAny_comprehension_free rfl (hs env) (closureFor_eq (S.closed eo vs)) S.kind S.names ?_
  exact comp_block G S hi ht he eo ao ok vs w fun D C s' ys H' φ' xs' ce => CompPost.mk ok ce fun _ _ q => q
theorem ex_setC {i : Nat} {y : Str} {yp : Pos} {elt iter : Expr} {x : Str} {xp : Pos} {ifs : List Expr} {scope : Scope} {pos spos : Pos} {is : List Nat} {xs : List Str} {wi : WI} {t : WT} {e : WE} (G : Good c) (S : CSc sc scope x is xs ρ)
    (hi : Ei c d sc ρ iter wi) (ht : Ets c d (relS scope sc) (x :: xs) ifs t) (he : Ev c d (relS scope sc) (x :: xs) elt e) (hy : ρ[i]? = some y) (hs : ∀ env x, foldedSetIterable iter env x = pure x)
    (hl : sc.names.lookup y = some .local) (hw : ∀ env, env.scope = sc → swapsWith (.ListComp elt [⟨.Name x xp, iter, ifs, 0⟩] scope pos) (some (.Name y yp)) spos.line env = pure true) :
    Ex c d sc ρ (.Assign [.Name y yp] (.ListComp elt [⟨.Name x xp, iter, ifs, 0⟩] scope pos) spos) (wSet i (wComp c.ns wi is t e)) := by
  intro env A E s φ sl H Q eo ao ok vs w
  rw [exec_Assign_Name_used _ _ _ _ (hw env eo.scope)]
  refine wpAny_bind (wpAny_standAt (wpAny_bind ?_))
  show wpAny _ A (do let _ ← comprehension (.ListComp elt [⟨.Name x xp, iter, ifs, 0⟩] scope pos) scope env _ (newList []) false (eval iter env) (some (assign (.Name y yp) env))) _ _ s
  refine wpAny_bind (wpAny_mono (wpAny_comprehension_free (Q := fun _ s' => PostS c ρ env φ s Q .next s') rfl (hs env) (closureFor_eq (S.closed eo vs)) S.kind S.names ?_) (fun _ s' hq => wpAny_pure (wpAny_pure hq)) fun _ _ e => e)
  refine comp_block G S hi ht he eo ao ok vs w fun D C s' ys H' φ' xs' ce => ?_
  obtain ⟨n, hD⟩ := ce.lst
  have ok₁ : Ok c ⟨φ'.l ++ [D], φ'.z⟩ (H' ++ [.list ys]) s'.heap := ce.ok.adopt ce.dl ce.dz (fresh0 ok ce.fd) hD (.list ce.rep) ce.dm
  have rv : RepV c ⟨φ'.l ++ [D], φ'.z⟩ s'.heap (.loc H'.length) (.ref D) := .loc (by
    show (φ'.l ++ [D])[H'.length]? = some D
    rw [← ce.ok.len]; simp)
  have g₁ : Grow φ s.heap ⟨φ'.l ++ [D], φ'.z⟩ s'.heap := by
    obtain ⟨δ, ζ, e1, e2, hd, hz⟩ := ce.g.ext
    refine ⟨⟨δ ++ [D], ζ, by simp [e1], e2, fun a m => ?_, hz⟩, ce.g.keep, ce.g.live⟩
    rcases List.mem_append.mp m with m | m
    · exact hd a m
    · rw [List.mem_singleton.mp m]; exact ce.fd
  have fL : C ≠ env.locals := fun q => by
    obtain ⟨m, ⟨o, _, _, ho, _⟩, _⟩ := vs.loc
    rw [← q, ce.fc] at ho; cases ho
  have fCl : ∀ z, env.cells.lookup z ≠ some C := fun z q => by
    obtain ⟨_, _, _, u, o, ho, _⟩ := vs.offC z C q
    rw [ce.fc] at ho; cases ho
  have vs₁ : Vars c ρ ⟨φ'.l ++ [D], φ'.z⟩ s'.heap env sl := vs.grow g₁
  refine wpAny_assign_Name (store_okK (s := s') hy (.inl hl) S.skind eo ok₁ vs₁ rv fun s₂ ok₂ vs₂ gs₂ r₂ kp₂ => ?_)
  obtain ⟨m, hn⟩ := ce.ns
  refine ⟨m, hn.at' fun o e => kp₂ C o fL (fCl y) e, fun h₃ sb => ?_⟩
  have cl' : C ∉ φ'.l ++ [D] := fun q => (List.mem_append.mp q).elim ce.cl fun q => ce.dc (List.mem_singleton.mp q).symm
  have kp₃ : ∀ b o, b ≠ C → s₂.heap.get? b = some o → h₃.get? b = some o := fun b o n e => (sb.2 b n).trans e
  refine ⟨.next, _, _, ⟨φ'.l ++ [D], φ'.z⟩, ce.q, ok₂.same cl' ce.cz (fresh0 ok ce.fc) kp₃, vs₂.same fL fCl ce.cz kp₃, trivial, ?_, ((ce.r.trans r₂).trans ⟨h₃, s₂.toks, rfl⟩)⟩
  have g₂ := g₁.toS.trans gs₂
  exact ⟨g₂.ext, fun b o e n1 n2 n3 => kp₃ b o (fun q => by rw [q, ce.fc] at e; cases e) (g₂.keep b o e n1 n2 n3), fun b o e => by
    obtain ⟨o', e'⟩ := g₂.live b o e
    exact ⟨o', kp₃ b o' (fun q => by rw [q, ce.fc] at e; cases e) e'⟩⟩
end
end Mine

namespace Mine
section
variable {c : Cx} {d : Nat} {sc : Scope} {ρ : List Str}
/-! ### identity -/
def isV (c : Cx) : V → V → Option Bool
  | v, .none => some (isN v)
  | .none, v => some (isN v)
  | .bool a, .bool b => some (a == b)
  | .loc i, .loc j => some (i == j)
  | .loc _, .obj _ _ => some false
  | .obj _ _, .loc _ => some false
  | .loc _, .glob _ => some false
  | .obj _ _, .glob _ => some false
  | .glob a, .loc _ => if (c.gC a).isSome then some false else none
  | .glob a, .obj _ _ => if (c.gC a).isSome then some false else none
  | .glob a, .glob b => if a = b then some true else if (c.gC a).isSome then some false else none
  | _, _ => none
theorem ok_obj {φ : Mp} {H h} {k : Nat} {a} (ok : Ok c φ H h) (e : φ.l[k]? = some a) : ∃ o, h.get? a = some o ∧ o.cls ≠ .type "tuple" := by
  have hk : k < H.length := by rw [← ok.len]; exact (List.getElem?_eq_some_iff.mp e).1
  obtain ⟨o, h1, h2⟩ := ok.objs k a H[k] e (List.getElem?_eq_getElem hk)
  refine ⟨o, h1, ?_⟩
  generalize H[k] = lo at h2
  cases h2 with
  | list r => intro q; simp at q
  | inst _ _ _ _ _ => intro q; simp at q
  | dict d k r => obtain ⟨es, ep, hx, _⟩ := d; rw [hx.1]; intro q; simp at q
theorem isSame_ok {A : Around} {E : Value → Shared → Prop} {s : Shared} {φ H v w x y b} {R : Bool → Shared → Prop} (G : Good c) (ok : Ok c φ H s.heap) (rv : RepV c φ s.heap v x) (rw' : RepV c φ s.heap w y) (e : isV c v w = some b) (h : R b s) : wpAny (model c.prog c.w) A (isSame x y) R E s := by
  have N : ∀ {a a' : Addr} {o o'}, a ≠ a' → s.heap.get? a = some o → s.heap.get? a' = some o' → o.cls ≠ .type "tuple" → some false = some b → wpAny (model c.prog c.w) A (isSame (.ref a) (.ref a')) R E s := fun n h1 h2 h3 h4 => by
    cases h4; exact wpAny_isSame_ref_other n h1 h2 h3 h
  have P : ∀ {a b' : Value}, plainIs a b' = true → some (a == b') = some b → wpAny (model c.prog c.w) A (isSame a b') R E s := fun h1 h2 => by
    cases h2; exact wpAny_isSame_plain h1 h
  have gN : ∀ {a : Addr} {o}, c.h₀.get? a = some o → (if (c.gC a).isSome = true then some false else none) = some b → some false = some b ∧ ∃ o', s.heap.get? a = some o' ∧ o'.cls ≠ .type "tuple" := fun h1 h2 => by
    split at h2
    · rename_i q
      obtain ⟨⟨k, n⟩, ek⟩ := Option.isSome_iff_exists.mp q
      obtain ⟨b', e1, e2⟩ := G.gl _ k n ek
      exact ⟨h2, _, ok.base _ _ e1, by intro q; cases q⟩
    · cases h2
  cases rw' with
  | none =>
    have : isV c v .none = some (isN v) := by cases v <;> rfl
    rw [this] at e
    refine P (by cases rv <;> rfl) (by rw [isN_of rv]; exact e)
  | bool =>
    cases rv with
    | none => exact P rfl e
    | bool => rename_i b1 b2; refine P rfl ?_; rw [← e]; cases b1 <;> cases b2 <;> rfl
    | _ => cases e
  | int => cases rv with
    | none => exact P rfl e
    | _ => cases e
  | str => cases rv with
    | none => exact P rfl e
    | _ => cases e
  | script => cases rv with
    | none => exact P rfl e
    | _ => cases e
  | tup => cases rv with
    | none => exact P rfl e
    | _ => cases e
  | loc e2 => cases rv with
    | none => exact P rfl e
    | loc e1 =>
      rename_i k2 a2 k1 a1
      obtain ⟨o1, h1, c1⟩ := ok_obj ok e1
      obtain ⟨o2, h2, c2⟩ := ok_obj ok e2
      simp only [isV] at e
      by_cases q : k1 = k2
      · subst q
        rw [e1] at e2; cases e2
        rw [beq_self_eq_true] at e
        cases e
        exact wpAny_isSame_ref_self h
      · refine N (fun z => q ?_) h1 h2 c1 (by rw [← e]; simp [q])
        subst z
        obtain ⟨l1, e1⟩ := List.getElem?_eq_some_iff.mp e1
        obtain ⟨l2, e2⟩ := List.getElem?_eq_some_iff.mp e2
        exact (List.getElem_inj (h₀ := l1) (h₁ := l2) ok.nodup).mp (e1.trans e2.symm)
    | obj n z m y n0 o1 es o2 r =>
      obtain ⟨o3, h2, c2⟩ := ok_obj ok e2
      exact N (fun q => n (q ▸ List.mem_of_getElem? e2)) o1 h2 (by intro q; cases q) e
    | glob e1 =>
      obtain ⟨e, o', h1, c1⟩ := gN e1 e
      obtain ⟨o3, h2, c2⟩ := ok_obj ok e2
      exact N (fun q => ok.off _ _ e1 (q ▸ List.mem_of_getElem? e2)) h1 h2 c1 e
    | _ => cases e
  | obj n z m y n0 o1 es o2 r => cases rv with
    | none => exact P rfl e
    | loc e1 =>
      obtain ⟨o3, h2, c2⟩ := ok_obj ok e1
      exact N (fun q => n (q ▸ List.mem_of_getElem? e1)) h2 o1 c2 e
    | glob e1 =>
      obtain ⟨e, o', h1, c1⟩ := gN e1 e
      exact N (fun q => by rw [← q, e1] at n0; cases n0) h1 o1 c1 e
    | _ => cases e
  | glob e2 => cases rv with
    | none => exact P rfl e
    | loc e1 =>
      obtain ⟨o3, h2, c2⟩ := ok_obj ok e1
      exact N (fun q => ok.off _ _ e2 (q ▸ List.mem_of_getElem? e1)) h2 (ok.base _ _ e2) c2 e
    | obj n z m y n0 o1 es o2 r => exact N (fun q => by rw [q, e2] at n0; cases n0) o1 (ok.base _ _ e2) (by intro q; cases q) e
    | glob e1 =>
      simp only [isV] at e
      split at e
      · rename_i q; subst q; cases e; exact wpAny_isSame_ref_self h
      · rename_i q
        obtain ⟨e, o', h1, c1⟩ := gN e1 e
        exact N q h1 (ok.base _ _ e2) c1 e
    | _ => cases e
def wIs (c : Cx) (f : Bool → Bool) : WB := fun v w H Q => match isV c v w with | some b => Q (.bool (f b)) H | none => False
theorem is_ok (G : Good c) : CmpOK c d .Is (wIs c id) := by
  intro A E s φ H v w x y Q ao ok rv rw' q
  unfold wIs at q
  split at q
  · rename_i b e
    show wpAny _ A (do return Value.bool (← isSame x y) : Sem Value) _ E s
    exact wpAny_bind (isSame_ok G ok rv rw' e (wpAny_pure (.here q ok .bool (fun _ _ e => e) (Rest.refl s))))
  · exact q.elim
theorem isnot_ok (G : Good c) : CmpOK c d .IsNot (wIs c not) := by
  intro A E s φ H v w x y Q ao ok rv rw' q
  unfold wIs at q
  split at q
  · rename_i b e
    show wpAny _ A (do return Value.bool (!(← isSame x y)) : Sem Value) _ E s
    exact wpAny_bind (isSame_ok G ok rv rw' e (wpAny_pure (.here q ok .bool (fun _ _ e => e) (Rest.refl s))))
  · exact q.elim
end
end Mine

namespace Mine
section
variable {c : Cx} {d : Nat} {sc : Scope} {ρ : List Str}
/-! ### the conditional expression -/
/-! ### a global object -/
theorem ev_glob {x np a o} (G : Good c) (hk : sc.kind = .function) (hx : sc.names.lookup x = some .globalImplicit) (hv : nsIn c.K mainGlobals x = some (some (.ref a))) (ho : c.K.lookup a = some o) (hd : (x == ("__debug__" : Str)) = false) : Ev c d sc ρ (.Name x np) (wK (.glob a)) := by
  intro env A E s φ sl H Q eo ao ok vs q
  exact name_glob G eo ok hk hx (mgIn G hv) hd (.here q ok (.glob (G.X _ _ ho)) (fun _ _ e => e) (Rest.refl s))
/-! ### isinstance -/
/-! ### texts -/
/-! ### range with a step of two -/
end
end Mine

namespace Mine
section
variable {c : Cx} {d : Nat} {sc : Scope} {ρ : List Str}
/-! ### comparisons of several kinds -/
def wEqX (f : Bool → Bool) : WB := fun v w H Q => match v, w with
  | .int i, .int j => Q (.bool (f (i == j))) H
  | .str a, .str b => Q (.bool (f (a == b))) H
  | _, _ => False
def wNeX (ns : List Int) : WB := fun v w H Q => match v, w with
  | .int i, .int j => Q (.bool (i != j)) H
  | v, w => wCmpI ns not v w H Q
/-! ### times -/
def wMul : WB := fun v w H Q => match v, w with | .int i, .int j => IntMulOk i j ∧ Q (.int (i * j)) H | _, _ => False
theorem mul_ok : BinOK c d .Mult wMul := by
  intro A E s φ H v w x y Q ao ok rv rw' q
  unfold wMul at q
  split at q
  · cases rv; cases rw'
    exact PyProof.Rows.mul_int (.here q.2 ok .int (fun _ _ e => e) (Rest.mk s s.heap _)) q.1
  · exact q.elim
/-! ### a value as a test -/
theorem et_tv {e a} (he : Ev c d sc ρ e a) (ht : ∀ env whole, isTrue e env whole = (do let v ← whole; standAt e.pos; holding [v] (truthy v))) : Et c d sc ρ e (tv a) := by
  intro env A E s φ sl H Q eo ao ok vs w
  rw [ht]
  refine wpAny_bind (wpAny_mono (he env A E s φ sl H _ eo ao ok vs w) (fun x s₁ p₁ => wpAny_bind (wpAny_standAt (wpAny_holding ?_))) fun _ _ e => e)
  obtain ⟨v, H₁, φ₁, w₁, ok₁, rv, g₁, r₁⟩ := p₁
  split at w₁
  · cases rv
    exact wpAny_pure ⟨H₁, φ₁, w₁, ok₁, g₁, r₁⟩
  · exact w₁.elim
/-! ### over a list or a text -/
end
section
variable {sl : Sl} {H : HW} {c : Cx} {ns : List Int}
theorem e_wComp {it is t e Q} : wComp ns it is t e sl H Q = it sl H (fun k H₁ => k.items.length ≤ 100000 ∧ wCompGo ns k t e (fvOf sl is) k.items [] H₁ fun ys H₂ => Q (.loc H₂.length) (H₂ ++ [.list ys])) := propext Iff.rfl
theorem e_comp0 {k t e fv ys Q} : wCompGo ns k t e fv [] ys H Q = Q ys H := propext Iff.rfl
theorem e_compS {k t e fv v r ys Q} : wCompGo ns k t e fv (v :: r) ys H Q = t (some v :: fv) H (fun b H₁ => if b then e (some v :: fv) H₁ fun y H₂ => k.inv ns H₂ ∧ wCompGo ns k t e fv r (ys ++ [y]) H₂ Q else k.inv ns H₁ ∧ wCompGo ns k t e fv r ys H₁ Q) := propext Iff.rfl
theorem e_tTrue {Q} : tTrue sl H Q = Q true H := propext Iff.rfl
theorem e_mul {i j Q} : wMul (.int i) (.int j) H Q = (IntMulOk i j ∧ Q (.int (i * j)) H) := propext Iff.rfl
theorem e_eqXI {f i j Q} : wEqX f (.int i) (.int j) H Q = Q (.bool (f (i == j))) H := propext Iff.rfl
theorem e_eqXS {f i j Q} : wEqX f (.str i) (.str j) H Q = Q (.bool (f (i == j))) H := propext Iff.rfl
theorem e_neXI {i j Q} : wNeX ns (.int i) (.int j) H Q = Q (.bool (i != j)) H := propext Iff.rfl
theorem e_neXL {k j Q} : wNeX ns (.loc k) (.loc j) H Q = wCmpI ns not (.loc k) (.loc j) H Q := propext Iff.rfl
/-- a comprehension whose parts leave the heap alone -/
theorem comp_pure {k t e fv} {p : V → Bool} {f : V → V} {Q : List V → HW → Prop} (hi : k.inv ns H) : ∀ (xs ys : List V), (∀ v ∈ xs, ∀ R : Bool → HW → Prop, R (p v) H → t (some v :: fv) H R) → (∀ v ∈ xs, p v = true → ∀ R : V → HW → Prop, R (f v) H → e (some v :: fv) H R) →
    Q (ys ++ (xs.filter p).map f) H → wCompGo ns k t e fv xs ys H Q
  | [], ys, _, _, q => by rw [e_comp0]; simpa using q
  | x :: xs, ys, ht, he, q => by
    rw [e_compS]
    refine ht x List.mem_cons_self _ ?_
    cases hp : p x with
    | true =>
      rw [if_pos rfl]
      refine he x List.mem_cons_self hp _ ⟨hi, comp_pure hi xs _ (fun v m => ht v (List.mem_cons_of_mem _ m)) (fun v m => he v (List.mem_cons_of_mem _ m)) ?_⟩
      simpa [List.filter_cons, hp] using q
    | false =>
      rw [if_neg (by decide)]
      refine ⟨hi, comp_pure hi xs _ (fun v m => ht v (List.mem_cons_of_mem _ m)) (fun v m => he v (List.mem_cons_of_mem _ m)) ?_⟩
      simpa [List.filter_cons, hp] using q
theorem comp_map {k e fv} {f : V → V} {Q : List V → HW → Prop} (hi : k.inv ns H) (xs : List V) (he : ∀ v ∈ xs, ∀ R : V → HW → Prop, R (f v) H → e (some v :: fv) H R)
    (q : Q (xs.map f) H) : wCompGo ns k tTrue e fv xs [] H Q :=
  comp_pure (p := fun _ => true) hi xs [] (fun v _ R r => r) (fun v m _ => he v m) (by rw [List.nil_append, List.filter_eq_self.mpr (fun _ _ => rfl)]; exact q)
end
end Mine

namespace Mine
section
variable {c : Cx} {d : Nat} {sc : Scope} {ρ : List Str}
/-! ### lists of plain data, compared -/
mutual
inductive DV (ns : List Int) (H : HW) : V → PyData → Prop
  | none : DV ns H .none .none
  | bool {b} : DV ns H (.bool b) (.bool b)
  | int {i} : DV ns H (.int i) (.int i)
  | str {s} : DV ns H (.str s) (.str s)
  | list {v xs ds} : asL ns H v = some xs → DVs ns H xs ds → DV ns H v (.list ds)
inductive DVs (ns : List Int) (H : HW) : List V → List PyData → Prop
  | nil : DVs ns H [] []
  | cons {v d vs ds} : DV ns H v d → DVs ns H vs ds → DVs ns H (v :: vs) (d :: ds)
end
mutual
theorem DV.reads (G : Good c) {φ H h} (ok : Ok c φ H h) : ∀ {v dd x}, DV c.ns H v dd → RepV c φ h v x → ∃ as, Reads h x dd as
  | _, _, _, .none, r => by cases r; exact ⟨_, .none⟩
  | _, _, _, .bool, r => by cases r; exact ⟨_, .bool _⟩
  | _, _, _, .int, r => by cases r; exact ⟨_, .int _ _⟩
  | _, _, _, .str, r => by cases r; exact ⟨_, .str _ _⟩
  | _, _, _, .list e ds, r => by
    obtain ⟨a, ys, rfl, ⟨o, ho, hc, n, hd⟩, rr⟩ := asL_of G ok r e
    obtain ⟨as, h1⟩ := DVs.reads G ok ds rr
    exact ⟨_, .list ho hc hd h1⟩
theorem DVs.reads (G : Good c) {φ H h} (ok : Ok c φ H h) : ∀ {vs ds xs}, DVs c.ns H vs ds → RepVs c φ h vs xs → ∃ as, ReadsAll h xs ds as
  | _, _, _, .nil, r => by cases r; exact ⟨_, .nil⟩
  | _, _, _, .cons x xs, r => by
    cases r with
    | cons r rs =>
      obtain ⟨as, h1⟩ := DV.reads G ok x r
      obtain ⟨bs, h2⟩ := DVs.reads G ok xs rs
      exact ⟨_, .cons h1 h2⟩
end
def wEqD (ns : List Int) (f : Bool → Bool) : WB := fun v w H Q => ∃ da db, DV ns H v da ∧ DV ns H w db ∧ (SeqAt.shaped da = true ∧ SeqAt.shaped db = true) ∧ Q (.bool (f (PyData.eqv da db))) H
theorem eqD_ok (G : Good c) : CmpOK c d .Eq (wEqD c.ns id) := by
  rintro A E s φ H v w x y Q ao ok rv rw' ⟨da, db, d1, d2, ⟨s1, s2⟩, q⟩
  obtain ⟨as, r1⟩ := d1.reads G ok rv
  obtain ⟨bs, r2⟩ := d2.reads G ok rw'
  exact eq_dataH r1 r2 s1 s2 (by have := ao.units; rw [cLine_is]; omega) (.here q ok .bool (fun _ _ e => e) (Rest.refl s))
theorem neD_ok (G : Good c) : CmpOK c d .NotEq (wEqD c.ns not) := by
  rintro A E s φ H v w x y Q ao ok rv rw' ⟨da, db, d1, d2, ⟨s1, s2⟩, q⟩
  obtain ⟨as, r1⟩ := d1.reads G ok rv
  obtain ⟨bs, r2⟩ := d2.reads G ok rw'
  exact ne_dataH r1 r2 s1 s2 (by have := ao.units; rw [cLine_is]; omega) (.here q ok .bool (fun _ _ e => e) (Rest.refl s))
theorem e_eqD {ns H f v w Q} : wEqD ns f v w H Q = (∃ da db, DV ns H v da ∧ DV ns H w db ∧ (SeqAt.shaped da = true ∧ SeqAt.shaped db = true) ∧ Q (.bool (f (PyData.eqv da db))) H) := propext Iff.rfl
mutual
theorem eqv_self : ∀ {x : PyData}, x.canLay0 = true → PyData.eqv x x = true
  | .none, _ => rfl
  | .bool _, _ => by simp [PyData.eqv]
  | .int _, _ => by simp [PyData.eqv]
  | .str _, _ => by simp [PyData.eqv]
  | .list xs, h => by rw [PyData.eqv]; exact eqvAll_self (by simpa [PyData.canLay0] using h)
  | .tuple xs, h => by rw [PyData.eqv]; exact eqvAll_self (by simpa [PyData.canLay0] using h)
  | .dict _, h => by simp [PyData.canLay0] at h
theorem eqvAll_self : ∀ {xs : List PyData}, PyData.canLayAll0 xs = true → PyData.eqvAll xs xs = true
  | [], _ => rfl
  | x :: xs, h => by
    rw [PyData.canLayAll0, Bool.and_eq_true] at h
    rw [PyData.eqvAll, Bool.and_eq_true]
    exact ⟨eqv_self h.1, eqvAll_self h.2⟩
end
theorem dvs_ints {ns H} : ∀ is : List Int, DVs ns H (is.map .int) (is.map .int)
  | [] => .nil
  | _ :: is => .cons .int (dvs_ints is)
end
end Mine

namespace Mine
section
variable {c : Cx} {d : Nat} {sc : Scope} {ρ : List Str}
def bSum (ns : List Int) : WF := fun args H Q => match args with | [v] => ∃ is : List Int, asL ns H v = some (is.map .int) ∧ Q (.int is.sum) H | _ => False
def bMinL (ns : List Int) : WF := fun args H Q => match args with | [v] => ∃ is : List Int, asL ns H v = some (is.map .int) ∧ is ≠ [] ∧ ∀ M, M ∈ is → (∀ a ∈ is, M ≤ a) → Q (.int M) H | _ => False
/-! ### «in» among numbers -/
def wInI (ns : List Int) (f : Bool → Bool) : WB := fun v w H Q => match v with | .int k => (∃ is : List Int, asL ns H w = some (is.map .int) ∧ Q (.bool (f (is.any (· == k)))) H) | _ => False
/-! ### ^ and ** -/
def wPow : WB := fun v w H Q => match v, w with | .int i, .int j => (0 ≤ j ∧ j ≤ 1000 ∧ i.natAbs < 2 ^ 64) ∧ Q (.int (i ^ j.toNat)) H | _, _ => False
end
section
variable {sl : Sl} {H : HW} {c : Cx} {ns : List Int}
theorem e_sum {v Q} : bSum ns [v] H Q = (∃ is : List Int, asL ns H v = some (is.map .int) ∧ Q (.int is.sum) H) := propext Iff.rfl
theorem e_minL {v Q} : bMinL ns [v] H Q = (∃ is : List Int, asL ns H v = some (is.map .int) ∧ is ≠ [] ∧ ∀ M, M ∈ is → (∀ a ∈ is, M ≤ a) → Q (.int M) H) := propext Iff.rfl
theorem e_inI {f k w Q} : wInI ns f (.int k) w H Q = (∃ is : List Int, asL ns H w = some (is.map .int) ∧ Q (.bool (f (is.any (· == k)))) H) := propext Iff.rfl
theorem e_pow {i j Q} : wPow (.int i) (.int j) H Q = ((0 ≤ j ∧ j ≤ 1000 ∧ i.natAbs < 2 ^ 64) ∧ Q (.int (i ^ j.toNat)) H) := propext Iff.rfl
theorem e_is {f v w Q} : wIs c f v w H Q = (match isV c v w with | some b => Q (.bool (f b)) H | none => False) := propext Iff.rfl
end
end Mine

namespace Mine
section
variable {c : Cx} {d : Nat} {sc : Scope} {ρ : List Str}
/-! ### a comprehension whose own variable is a cell -/
end
end Mine

namespace Mine
section
variable {c : Cx} {d : Nat} {sc : Scope} {ρ : List Str}
end
/-! ElementInfo: an instance is .obj k [tagName] -/
def mkEI (k : Nat) : WF := fun args H Q => match args with | [a] => Q (.obj k [a]) H | _ => False
theorem e_mkEI {k a H Q} : mkEI k [a] H Q = Q (.obj k [a]) H := propext Iff.rfl
def kFalse : WF := fun args H Q => args.length = 1 ∧ Q (.bool false) H
theorem e_kFalse {a H Q} : kFalse [a] H Q = (1 = 1 ∧ Q (.bool false) H) := propext Iff.rfl
end Mine

namespace Mine
/-! ### the abstract heap has grown -/
def Ext (H H' : HW) : Prop := ∃ L, H' = H ++ L
theorem Ext.refl (H : HW) : Ext H H := ⟨[], by simp⟩
theorem Ext.app {H L : HW} : Ext H (H ++ L) := ⟨L, rfl⟩
theorem Ext.trans {a b d : HW} (x : Ext a b) (y : Ext b d) : Ext a d := by
  obtain ⟨L, rfl⟩ := x
  obtain ⟨M, rfl⟩ := y
  exact ⟨L ++ M, by simp⟩
theorem Ext.at {H H' : HW} (x : Ext H H') {k : Nat} {o} (h : H[k]? = some o) : H'[k]? = some o := by
  obtain ⟨L, rfl⟩ := x
  rw [List.getElem?_append_left (List.getElem?_eq_some_iff.mp h).1]; exact h
theorem Ext.lst {H H' : HW} (x : Ext H H') {k xs} (h : lstAt H k = some xs) : lstAt H' k = some xs := by
  obtain ⟨L, rfl⟩ := x
  exact lstAt_ext h
theorem lstAt_new {H : HW} {xs} : lstAt (H ++ [.list xs]) H.length = some xs := by unfold lstAt; simp
section
variable {ns : List Int} {k : ItK}
theorem comp_inv {t : WT} {e : WE} {fv : Sl} {Q : List V → HW → Prop} (I : Nat → List V → HW → Prop) (hi : ∀ n ys H, I n ys H → k.inv ns H) (all : List V)
    (step : ∀ (n : Nat) v ys H, all[n]? = some v → I n ys H → ∀ (R : Bool → HW → Prop), (∀ H', I (n + 1) ys H' → R false H') → (∀ H', (∀ R' : V → HW → Prop, (∀ y H'', I (n + 1) (ys ++ [y]) H'' → R' y H'') → e (some v :: fv) H' R') → R true H') → t (some v :: fv) H R)
    (fin : ∀ ys H, I all.length ys H → Q ys H) : ∀ (m n : Nat), n + m = all.length → ∀ ys H, I n ys H → wCompGo ns k t e fv (all.drop n) ys H Q
  | 0, n, hn, ys, H, i => by
    rw [List.drop_eq_nil_of_le (by omega), e_comp0]
    exact fin _ _ (by rw [← hn]; exact i)
  | m + 1, n, hn, ys, H, i => by
    have hlt : n < all.length := by omega
    rw [List.drop_eq_getElem_cons hlt, e_compS]
    refine step n all[n] ys H (List.getElem?_eq_getElem hlt) i _ (fun H' i' => ?_) (fun H' h => ?_)
    · rw [if_neg (by decide)]
      exact ⟨hi _ _ _ i', comp_inv I hi all step fin m (n + 1) (by omega) _ _ i'⟩
    · rw [if_pos rfl]
      exact h _ fun y H'' i' => ⟨hi _ _ _ i', comp_inv I hi all step fin m (n + 1) (by omega) _ _ i'⟩
theorem comp_invT {e : WE} {fv : Sl} {Q : List V → HW → Prop} {all : List V} {H : HW} (I : Nat → List V → HW → Prop) (hi : ∀ n ys H, I n ys H → k.inv ns H)
    (step : ∀ (n : Nat) v ys H, all[n]? = some v → I n ys H → ∀ (R' : V → HW → Prop), (∀ y H'', I (n + 1) (ys ++ [y]) H'' → R' y H'') → e (some v :: fv) H R')
    (h0 : I 0 [] H) (fin : ∀ ys H, I all.length ys H → Q ys H) : wCompGo ns k tTrue e fv all [] H Q := by
  have := comp_inv (ns := ns) (k := k) (t := tTrue) (e := e) (fv := fv) (Q := Q) I hi all (fun n v ys H hv i R _ h2 => h2 H fun R' hr => step n v ys H hv i R' hr) fin all.length 0 (by simp) [] H h0
  simpa using this
theorem for_inv {ta : WA} {b : WS} {Q : Fl → Sl → HW → Prop} (I : Nat → Sl → HW → Prop) (hi : ∀ n sl H, I n sl H → k.inv ns H) {all : List V}
    (step : ∀ (n : Nat) v sl H, all[n]? = some v → I n sl H → ∀ R : Fl → Sl → HW → Prop, (∀ sl' H', I (n + 1) sl' H' → R .next sl' H') → ta v sl H fun sl₁ H₁ => b sl₁ H₁ R)
    (fin : ∀ sl H, I all.length sl H → Q .next sl H) {sl H} (h0 : I 0 sl H) : wForGo ns k ta b all sl H Q := by
  have go : ∀ (m n : Nat), n + m = all.length → ∀ sl H, I n sl H → wForGo ns k ta b (all.drop n) sl H Q := by
    intro m
    induction m with
    | zero =>
      intro n hn sl H i
      rw [List.drop_eq_nil_of_le (by omega), e_for0]
      exact fin _ _ (by rw [← hn]; exact i)
    | succ m ih =>
      intro n hn sl H i
      have hlt : n < all.length := by omega
      rw [List.drop_eq_getElem_cons hlt, e_for1]
      exact step n all[n] sl H (List.getElem?_eq_getElem hlt) i _ fun sl' H' i' => ⟨hi _ _ _ i', ih (n + 1) (by omega) _ _ i'⟩
  simpa using go all.length 0 (by simp) sl H h0
end
theorem rangeL_nat (n : Nat) : rangeL 0 (n : Int) 1 = (List.range n).map fun i => V.int (i : Nat) := by
  unfold rangeL
  have : (Builtin.Range.rangeSize 0 (n : Int) 1).toNat = n := by
    unfold Builtin.Range.rangeSize
    simp only [show ((1 : Int) > 0) = True by simp, if_true]
    split <;> omega
  rw [this]
  apply List.map_congr_left
  intro i _
  congr 1; omega
theorem getI_nat {xs : List V} {k : Nat} : getI xs (k : Int) = xs[k]? := by
  unfold getI; rw [if_pos (by omega)]; simp
theorem asL_scr {ns : List Int} {H : HW} : asL ns H .script = some (ns.map .int) := rfl
abbrev natV (n : Nat) : V := .int (n : Int)
theorem range_get {N n : Nat} {v : V} (h : ((List.range N).map natV)[n]? = some v) : n < N ∧ v = natV n := by
  rw [List.getElem?_map] at h
  obtain ⟨i, h1, rfl⟩ := Option.map_eq_some_iff.mp h
  obtain ⟨h2, h3⟩ := List.getElem?_eq_some_iff.mp h1
  simp at h2 h3
  subst h3
  exact ⟨h2, rfl⟩
section
variable {ns : List Int} {sl : Sl} {H : HW}
theorem comp_lst {a : WE} {k : Nat} {xs : List V} {t : WT} {e : WE} {is : List Nat} {Q : V → HW → Prop} (ha : ∀ R : V → HW → Prop, R (.loc k) H → a sl H R) (hk : lstAt H k = some xs) (hm : xs.length ≤ 1000)
    (h : wCompGo ns (.list (.loc k) xs) t e (fvOf sl is) xs [] H fun ys H₂ => Q (.loc H₂.length) (H₂ ++ [.list ys])) : wComp ns (iList ns a) is t e sl H Q := by
  rw [e_wComp, e_iList]
  refine ha _ ?_
  rw [asL_loc, hk]
  exact ⟨by show xs.length ≤ 100000; omega, h⟩
theorem comp_lst_map {a : WE} {k : Nat} {xs : List V} {e : WE} {is : List Nat} {f : V → V} {Q : V → HW → Prop} (ha : ∀ R : V → HW → Prop, R (.loc k) H → a sl H R) (hk : lstAt H k = some xs) (hm : xs.length ≤ 1000)
    (he : ∀ v ∈ xs, ∀ R : V → HW → Prop, R (f v) H → e (some v :: fvOf sl is) H R) (q : ∀ k' H', Ext H H' → lstAt H' k' = some (xs.map f) → k' = H.length → Q (.loc k') H') : wComp ns (iList ns a) is tTrue e sl H Q :=
  comp_lst ha hk hm (comp_map (by exact hk) _ he (q _ _ .app lstAt_new rfl))
theorem for_range {a : WE} {m : Nat} {ta : WA} {b : WS} {Q : Fl → Sl → HW → Prop} (ha : ∀ R : V → HW → Prop, R (natV m) H → a sl H R) (hm : m ≤ 1000)
    (h : wForGo ns (.walk ((List.range m).map natV)) ta b ((List.range m).map natV) sl H Q) : wFor ns (iRange1 a) ta b sl H Q := by
  rw [e_for, e_iRange1]
  refine ha _ ⟨⟨by omega, by omega⟩, ?_⟩
  show wForGo ns (.walk (rangeL 0 (m : Int) 1)) ta b (rangeL 0 (m : Int) 1) sl H Q
  rw [rangeL_nat]
  exact h
end
theorem addL_k {ns : List Int} {H : HW} {k j xs ys} {Q : V → HW → Prop} (h1 : lstAt H k = some xs) (h2 : lstAt H j = some ys) (hl : xs.length + ys.length ≤ 1000000) (q : ∀ m H', Ext H H' → lstAt H' m = some (xs ++ ys) → m = H.length → Q (.loc m) H') : wAdd ns (.loc k) (.loc j) H Q := by
  rw [e_addL h1 h2]
  exact ⟨hl, q _ _ .app lstAt_new rfl⟩
theorem e_slot {c : Cx} {sl H k i a Q} : wSlot c k i a sl H Q = a sl H (fun v H₁ => clsV c H₁ v = some k ∧ match slotV c H₁ i v with | some u => Q u H₁ | none => False) := propext Iff.rfl
end Mine

namespace Mine
/-! ### dicts with whole numbers as keys -/
def dGet (kvs : List (Int × V)) (k : Int) : Option V := (kvs.find? fun kv => decide (kv.1 = k)).map (·.2)
def dHas (kvs : List (Int × V)) (k : Int) : Bool := kvs.any fun kv => decide (kv.1 = k)
def dSet (kvs : List (Int × V)) (k : Int) (v : V) : List (Int × V) := if dHas kvs k then kvs.map (fun kv => if kv.1 = k then (kv.1, v) else kv) else kvs ++ [(k, v)]
def asD (H : HW) : V → Option (List (Int × V))
  | .loc k => match H[k]? with | some (.dict kvs) => some kvs | _ => none
  | _ => none
section
variable {c : Cx} {d : Nat} {sc : Scope} {ρ : List Str}
theorem kv_get {φ h} {k : Int} : ∀ {kvs : List (Int × V)} {xs : List (Int × Value)}, xs.map (·.1) = kvs.map (·.1) → RepVs c φ h (kvs.map (·.2)) (xs.map (·.2)) →
    (∀ u, dGet kvs k = some u → ∃ y, valueAt xs k = some y ∧ RepV c φ h u y) ∧ (valueAt xs k).isSome = dHas kvs k
  | [], [], _, _ => by simp [dGet, valueAt, dHas]
  | [], _ :: _, e, _ => by simp at e
  | _ :: _, [], e, _ => by simp at e
  | (a, v) :: kvs, (b, x) :: xs, e, r => by
    simp only [List.map_cons, List.cons.injEq] at e
    obtain ⟨rfl, e⟩ := e
    cases r with
    | cons r rs =>
      have ih := kv_get (k := k) e rs
      by_cases q : b = k
      · subst q
        simp [dGet, valueAt, dHas]
        exact r
      · simp only [dGet, valueAt, dHas, List.find?_cons, List.any_cons, decide_eq_false q, Bool.false_or] at ih ⊢
        exact ih
theorem kv_map {φ h} {k : Int} {v : V} {y : Value} (rv : RepV c φ h v y) : ∀ {kvs : List (Int × V)} {xs : List (Int × Value)}, xs.map (·.1) = kvs.map (·.1) → RepVs c φ h (kvs.map (·.2)) (xs.map (·.2)) →
    (xs.map fun kv => if kv.1 = k then (kv.1, y) else kv).map (·.1) = (kvs.map fun kv => if kv.1 = k then (kv.1, v) else kv).map (·.1) ∧
    RepVs c φ h ((kvs.map fun kv => if kv.1 = k then (kv.1, v) else kv).map (·.2)) ((xs.map fun kv => if kv.1 = k then (kv.1, y) else kv).map (·.2))
  | [], [], _, _ => ⟨rfl, .nil⟩
  | [], _ :: _, e, _ => by simp at e
  | _ :: _, [], e, _ => by simp at e
  | (a, w) :: kvs, (b, x) :: xs, e, r => by
    simp only [List.map_cons, List.cons.injEq] at e
    obtain ⟨rfl, e⟩ := e
    cases r with
    | cons r rs =>
      have ih := kv_map (k := k) rv e rs
      by_cases q : b = k
      · simp only [List.map_cons, if_pos q]
        exact ⟨by rw [ih.1], .cons rv ih.2⟩
      · simp only [List.map_cons, if_neg q]
        exact ⟨by rw [ih.1], .cons r ih.2⟩
theorem kv_any {k : Int} : ∀ {kvs : List (Int × V)} {xs : List (Int × Value)}, xs.map (·.1) = kvs.map (·.1) → (xs.any fun kv => decide (kv.1 = k)) = dHas kvs k
  | [], [], _ => rfl
  | [], _ :: _, e => by simp at e
  | _ :: _, [], e => by simp at e
  | (a, w) :: kvs, (b, x) :: xs, e => by
    simp only [List.map_cons, List.cons.injEq] at e
    obtain ⟨rfl, e⟩ := e
    have ih := kv_any (k := k) e
    simp only [dHas, List.any_cons] at ih ⊢
    rw [ih]
theorem kv_set {φ h} {k : Int} {v : V} {y : Value} (rv : RepV c φ h v y) {kvs : List (Int × V)} {xs : List (Int × Value)} (e : xs.map (·.1) = kvs.map (·.1)) (r : RepVs c φ h (kvs.map (·.2)) (xs.map (·.2))) :
    (stored xs k y).map (·.1) = (dSet kvs k v).map (·.1) ∧ RepVs c φ h ((dSet kvs k v).map (·.2)) ((stored xs k y).map (·.2)) := by
  unfold stored dSet
  rw [kv_any e]
  split
  · exact kv_map rv e r
  · exact ⟨by simp [e], by simpa using r.append (.cons rv .nil)⟩
theorem asD_of {φ H h v x kvs} (ok : Ok c φ H h) (r : RepV c φ h v x) (e : asD H v = some kvs) : ∃ (j : Nat) (a : Addr) (xs : List (Int × Value)), v = .loc j ∧ x = .ref a ∧ φ.l[j]? = some a ∧ H[j]? = some (.dict kvs) ∧ (a == sysModules) = false ∧ h.DictOf (intKind c.prog c.w) a xs ∧ xs.map (·.1) = kvs.map (·.1) ∧ RepVs c φ h (kvs.map (·.2)) (xs.map (·.2)) := by
  cases r <;> simp only [asD] at e <;> try (cases e; done)
  rename_i j a hj
  split at e
  · rename_i kvs' e'
    cases e
    obtain ⟨o, h1, h2⟩ := ok.objs j a _ hj e'
    cases h2 with
    | dict dd k r =>
      refine ⟨j, a, _, rfl, rfl, hj, e', ?_, Heap.dictOf_iff.mpr ⟨o, h1, dd⟩, k, r⟩
      have := ok.sm a (List.mem_of_getElem? hj)
      simpa using this
  · cases e
def wDict0 : WE := fun _ H Q => Q (.loc H.length) (H ++ [.dict []])
theorem ev_dict0 {pos} : Ev c d sc ρ (.Dict [] [] pos) wDict0 := by
  intro env A E s φ sl H Q eo ao ok vs w
  refine wpAny_Dict_empty ?_
  have hd : ({ cls := .type "dict", data := .dict #[] } : Obj).IsDictOf (intKind c.prog c.w) [] := by
    obtain ⟨o, ho, hd⟩ := Heap.dictOf_iff.mp (Heap.DictOf.new (knd := intKind c.prog c.w) s.heap)
    rw [Heap.get?_push_size _ rfl] at ho
    exact (Option.some.inj ho) ▸ hd
  obtain ⟨ok', g⟩ := ok.alloc (lo := .dict []) (new_none s.heap) (h' := s.heap.push { cls := .type "dict", data := .dict #[] }) (fun b o e => Heap.get?_push_of_some _ e) (Heap.get?_push_size _ rfl) (.dict hd rfl .nil) ok.newS
  exact ⟨_, _, _, w, ok', .loc (by rw [← ok.len]; simp), g, _, _, rfl⟩
/-- an item of a dict or of a list -/
def wIdxX (ns : List Int) (a b : WE) : WE := fun sl H Q => a sl H fun v H₁ => b sl H₁ fun w H₂ => match asD H₂ v with
  | some kvs => (match w with | .int k => (match dGet kvs k with | some u => Q u H₂ | none => False) | _ => False)
  | none => match asL ns H₂ v, w with
    | some xs, .int k => xs.length ≤ 1000000 ∧ (match getI xs k with | some u => Q u H₂ | none => False)
    | _, _ => False
theorem ev_idxX {o i pos a b} (G : Good c) (ho : Ev c d sc ρ o a) (hi : Ev c d sc ρ i b) (hs : ∀ x y, subscripted i false x y = operate [x, y] (getItem x y)) : Ev c d sc ρ (.Subscript o i pos) (wIdxX c.ns a b) := by
  intro env A E s φ sl H Q eo ao ok vs w
  refine Subscript_ (wpAny_mono (ho env A E s φ sl H _ eo ao ok vs w) (fun x s₁ p₁ => ?_) fun _ _ e => e)
  obtain ⟨v, H₁, φ₁, w₁, ok₁, rv, g₁, r₁⟩ := p₁
  refine wpAny_mono (hi env A E s₁ φ₁ sl H₁ _ eo ao ok₁ (vs.grow g₁) w₁) (fun y s₂ p₂ => ?_) fun _ _ e => e
  obtain ⟨u, H₂, φ₂, w₂, ok₂, ru, g₂, r₂⟩ := p₂
  have rv₂ := rv.grow g₂
  split at w₂
  · rename_i kvs ek
    split at w₂
    · rename_i k
      split at w₂
      · rename_i z ez
        cases ru
        obtain ⟨j, al, xs, rfl, rfl, hj, hH, hm, hd, hk, hr⟩ := asD_of ok₂ rv₂ ek
        obtain ⟨y', h1, h2⟩ := (kv_get hk hr).1 z ez
        refine tail_any hd.typeIs slot_dict_getitem.lookup (wpAny_getItem_of (intKind_is _ _ _ _) hd.mapOf h1 ?_) (hs _ _)
        exact (PostE.here (s' := { s₂ with toks := s₂.toks + 1 }) w₂ ok₂ h2 (fun _ _ e => e) (Rest.mk s₂ s₂.heap _)).shift (g₁.trans g₂) (r₁.trans r₂)
      · exact w₂.elim
    · exact w₂.elim
  · split at w₂
    · rename_i xs k ex
      obtain ⟨hl, w₂⟩ := w₂
      split at w₂
      · rename_i z ez
        cases ru
        obtain ⟨a', ys, rfl, il, rr⟩ := asL_of G ok₂ rv₂ ex
        refine tail_any il.typeIs slot_list_getitem.lookup (item_ok G ok₂ rv₂ ex hl ez fun y' ry => ?_) (hs _ _)
        exact (PostE.here w₂ ok₂ ry (fun _ _ e => e) (Rest.refl s₂)).shift (g₁.trans g₂) (r₁.trans r₂)
      · exact w₂.elim
    · exact w₂.elim
/-- an item is stored -/
def stV (v w u : V) (H : HW) (Q : HW → Prop) : Prop := match v, w with
  | .loc j, .int k => (match H[j]? with
    | some (.dict kvs) => kvs.length ≤ 1000000 ∧ Q (H.set j (.dict (dSet kvs k u)))
    | some (.list xs) => xs.length ≤ 1000000 ∧ (0 ≤ k ∧ k < xs.length) ∧ Q (H.set j (.list (xs.set k.toNat u)))
    | _ => False)
  | _, _ => False
def wSetI (a b e : WE) : WS := fun sl H Q => e sl H fun u H₁ => a sl H₁ fun v H₂ => b sl H₂ fun w H₃ => stV v w u H₃ fun H' => Q .next sl H'
theorem ex_setI {o i ip e pos a b w} (he : Ev c d sc ρ e w) (ho : Ev c d sc ρ o a) (hi : Ev c d sc ρ i b) (hs : ∀ env, swapsWith e (some (.Subscript o i ip)) pos.line env = pure false) : Ex c d sc ρ (.Assign [.Subscript o i ip] e pos) (wSetI a b w) := by
  intro env A E s φ sl H Q eo ao ok vs q
  refine wpAny_Assign_Subscript (wpAny_mono (he env A E s φ sl H _ eo ao ok vs q) (fun z s₁ p₁ => ?_) fun _ _ e => e) (hs env)
  obtain ⟨u, H₁, φ₁, w₁, ok₁, ru, g₁, r₁⟩ := p₁
  refine wpAny_mono (ho env A E s₁ φ₁ sl H₁ _ eo ao ok₁ (vs.grow g₁) w₁) (fun x s₂ p₂ => ?_) fun _ _ e => e
  obtain ⟨v, H₂, φ₂, w₂, ok₂, rv, g₂, r₂⟩ := p₂
  refine wpAny_mono (hi env A E s₂ φ₂ sl H₂ _ eo ao ok₂ (vs.grow (g₁.trans g₂)) w₂) (fun y s₃ p₃ => ?_) fun _ _ e => e
  obtain ⟨t, H₃, φ₃, w₃, ok₃, rt, g₃, r₃⟩ := p₃
  have rv₃ := rv.grow g₃
  have ru₃ := ru.grow (g₂.trans g₃)
  have gg := (g₁.trans g₂).trans g₃
  have rr := (r₁.trans r₂).trans r₃
  unfold stV at w₃
  split at w₃
  · rename_i j k
    cases rt
    split at w₃
    · rename_i kvs eH
      obtain ⟨j', al, xs, ej, rfl, hj, hH, hm, hd, hk, hr⟩ := asD_of (kvs := kvs) ok₃ rv₃ (by simp only [asD, eH])
      cases ej
      have hl : xs.length = kvs.length := by have := congrArg List.length hk; simpa using this
      refine wpAny_setItem_pairs (intKind_is _ _ _ _) hd (fun h' hd' sb => ?_) (by rw [hl, sizeLine_eq]; omega)
      obtain ⟨o', ho', hdo⟩ := Heap.dictOf_iff.mp hd'
      obtain ⟨e1, e2⟩ := kv_set (k := k) ru₃ hk hr
      obtain ⟨ok', g⟩ := ok₃.put (lo := .dict (dSet kvs k u)) hj (fun b o n e => (sb.2 b n).trans e) ho' (.dict hdo e1 e2)
      exact ⟨.next, sl, _, φ₃, w₃.2, ok', (vs.grow gg).grow g, trivial, (gg.trans g).toS, rr.trans (Rest.mk s₃ _ _)⟩
    · rename_i xs eH
      obtain ⟨hz, ⟨h0, h1⟩, w₃⟩ := w₃
      obtain ⟨al, ys, n, rfl, hk, il, r⟩ := loc_list ok₃ rv₃ eH
      refine ki_setAt (n := n) il h0 (by omega) (by rw [List.size_toArray, ← r.length]; exact h1) ?_
      have il' := IsL.update il (·.setIfInBounds k.toNat z)
      have e : ys.toArray.setIfInBounds k.toNat z = (ys.set k.toNat z).toArray := by simp
      rw [e] at il'
      have rs : ∀ {xs : List V} {ys : List Value} (k : Nat), RepVs c φ₃ s₃.heap xs ys → RepVs c φ₃ s₃.heap (xs.set k u) (ys.set k z) := by
        intro xs ys k r
        induction k generalizing xs ys with
        | zero => cases r with
          | nil => exact .nil
          | cons r rs => exact .cons ru₃ rs
        | succ k ih => cases r with
          | nil => exact .nil
          | cons r rs => exact .cons r (ih rs)
      obtain ⟨ok', g⟩ := ok₃.put (lo := .list (xs.set k.toNat u)) hk (fun b o n e => (Heap.get?_update_ne _ _ _ _ n).trans e) il' (.list (rs _ r))
      exact ⟨.next, sl, _, φ₃, w₃, ok', (vs.grow gg).grow g, trivial, (gg.trans g).toS, rr.trans ⟨_, s₃.toks, rfl⟩⟩
    · exact w₃.elim
  · exact w₃.elim
end
end Mine

namespace Mine
section
variable {c : Cx} {d : Nat} {sc : Scope} {ρ : List Str}
/-! ### a tuple's or a list's places to names -/
def aTupX (ns : List Int) (is : List Nat) : WA := fun v sl H K => match v with
  | .tup vs => vs.length = is.length ∧ K (setAll is vs sl) H
  | v => match asL ns H v with | some vs => vs.length = is.length ∧ K (setAll is vs sl) H | none => False
theorem at_tupX {elts k pos is} {xs : List Str} (G : Good c) (hk : sc.kind = .function) (hx : Slots sc ρ is xs) (hst : ∀ env, (assignEach elts env).findIdx? (·.1) = none)
    (hm : ∀ env, Stores (model c.prog c.w) env xs ((assignEach elts env).map (·.2))) : At c d sc ρ (.Tuple elts k pos) (aTupX c.ns is) := by
  intro env A E s φ sl H v y K eo ao ok vs rv q
  unfold aTupX at q
  split at q
  · exact at_tup hk hx hst hm env A E s φ sl H _ y K eo ao ok vs rv q
  · split at q
    · rename_i ws ew
      obtain ⟨al, ys, rfl, il, r⟩ := asL_of G ok rv ew
      obtain ⟨hlen, q⟩ := q
      have hl := (hm env).len
      rw [List.length_map] at hl
      rw [arm_assign_Tuple]
      refine wpAny_bind (wpAny_standAt ?_)
      unfold unpack
      rw [hst env]
      have hsz : (assignEach elts env).length = ys.toArray.size := by rw [hl, List.size_toArray, ← r.length, hlen, hx.len]
      rw [hsz]
      refine wpAny_bind (wpAny_holding (kun_itemsOf ao.handled il fun h' x => ?_))
      have kp := ExtBut.keep x
      have g : Grow φ s.heap φ h' := .of_keep kp
      refine inOrder_ok (s := { s with heap := h' }) hk eo is xs _ _ _ sl _ (hm env) hx hlen (ok.keep kp) (vs.grow g) (by simpa using r.grow g) fun s₃ ok₃ vs₃ g₃ r₃ => ⟨_, _, φ, q, ok₃, vs₃, g.toS.trans g₃, (Rest.mk s h' s.toks).trans r₃⟩
    · exact q.elim
def wSetTX (ns : List Int) (is : List Nat) (a : WE) : WS := fun sl H Q => a sl H fun v H' => aTupX ns is v sl H' fun sl' H'' => Q .next sl' H''
theorem ex_setTX {elts k tpos e pos a is} (G : Good c) (he : Ev c d sc ρ e a) (hx : Slots sc ρ is (tnames elts)) (hk : sc.kind = .function) (hn : allN elts = true)
    (hs : ∀ env, swapsWithSole [.Tuple elts k tpos] e pos.line env = pure false) (hw : ∀ env, env.scope = sc → swappedStores [.Tuple elts k tpos] e env = pure none) : Ex c d sc ρ (.Assign [.Tuple elts k tpos] e pos) (wSetTX c.ns is a) := by
  intro env A E s φ sl H Q eo ao ok vs w
  refine Assign_Tuple (wpAny_mono (he env A E s φ sl H _ eo ao ok vs w) (fun y s₁ p₁ => ?_) fun _ _ e => e) (hs env) (hw env eo.scope)
  obtain ⟨v, H₁, φ₁, w₁, ok₁, rv, g₁, r₁⟩ := p₁
  refine wpAny_mono (at_tupX G hk hx (fun env => (stores_N (M := model c.prog c.w) (env := env) elts hn).1) (fun env => (stores_N elts hn).2) env A E s₁ φ₁ sl H₁ v y _ eo ao ok₁ (vs.grow g₁) rv w₁) (fun _ s₂ p₂ => ?_) fun _ _ e => e
  obtain ⟨sl', H', φ', q, ok', vs', g', r'⟩ := p₂
  exact ⟨.next, sl', H', φ', q, ok', vs', trivial, g₁.toS.trans g', r₁.trans r'⟩
/-! ### sorted of a dict's keys -/
def bSortD : WF := fun args H Q => match args with
  | [v] => (match asD H v with | some kvs => kvs.length < 64 ∧ ∀ js : List Int, js.Perm (kvs.map (·.1)) → js.Pairwise (· ≤ ·) → Q (.loc H.length) (H ++ [.list (js.map .int)]) | none => False)
  | _ => False
theorem intsAre_of {P : Nat → Value → Prop} {kvs : List (Int × Value)} (hP : ∀ i v, P i v → ∃ k x, kvs[i]? = some (k, x) ∧ (intKind c.prog c.w).is k v = true) :
    ∀ {acc : List Value}, acc.length = kvs.length → (∀ (j : Nat) v, acc[j]? = some v → P j v) → IntsAre acc (kvs.map (·.1)) := by
  intro acc hl h
  have go : ∀ (acc : List Value) (kvs : List (Int × Value)), acc.length = kvs.length → (∀ (j : Nat) v, acc[j]? = some v → ∃ k x, kvs[j]? = some (k, x) ∧ (intKind c.prog c.w).is k v = true) → IntsAre acc (kvs.map (·.1)) := by
    intro acc
    induction acc with
    | nil => intro kvs hl _; cases kvs with
      | nil => exact .nil
      | cons _ _ => simp at hl
    | cons a acc ih =>
      intro kvs hl h
      cases kvs with
      | nil => simp at hl
      | cons q kvs =>
        obtain ⟨k, x, e, hk⟩ := h 0 a rfl
        simp at e
        subst e
        obtain ⟨t, rfl⟩ := Value.isInt_shape hk
        refine .cons _ _ (ih kvs (by simpa using hl) fun j v e => ?_)
        simpa using h (j + 1) v (by simpa using e)
  exact go acc kvs hl fun j v e => hP j v (h j v e)
theorem sortD_ok : FnOK c d (.builtin "sorted") bSortD := by
  intro A E s φ H args vals Q ao ok r q
  unfold bSortD at q
  split at q
  · split at q
    · rename_i v kvs ek
      obtain ⟨h64, q⟩ := q
      cases r with
      | cons rv rs =>
        cases rs
        obtain ⟨j, al, xs, rfl, rfl, hj, hH, hm, hd, hk, hr⟩ := asD_of ok rv ek
        have hl : xs.length = kvs.length := by have := congrArg List.length hk; simpa using this
        obtain ⟨ep, hat⟩ := hd.dictAt
        refine Calls.call_function_entry kind_sorted plain_sorted entry_sorted (args_sorted1 _) ?_
        unfold Builtin.«sorted»
        refine wpAny_bind (m := checkCount "sorted" 1 1 _) (wpAny_pure ?_)
        refine wpAny_bind (kdu_collect (A := A.in1) (kdl_dict (knd := intKind c.prog c.w) (kvs := xs) (ep := ep) hm) ao.handled hat (by rw [hl, sizeLine_eq]; omega) fun h' tk acc kp hacc => ?_)
        have hlen : acc.toList.length = xs.length := by rw [Array.length_toList]; exact hacc.1
        have hI : IntsAre acc.toList (xs.map (·.1)) := intsAre_of (c := c) (fun i v p => p) hlen fun j v e => hacc.2 j v (by rw [← Array.getElem?_toList]; exact e)
        refine wpAny_bind (wpAny_newList ?_ (by rw [hlen, hl, sizeLine_eq]; omega))
        have hoL : (h'.push (seqObj "list" acc.toList.toArray 0)).get? h'.objs.size = some (seqObj "list" acc.toList.toArray 0) := Heap.get?_push_size _ rfl
        refine wpAny_bind (wpAny_holding (wpAny_call_entry slot_list_sort (s := { s with heap := h'.push (seqObj "list" acc.toList.toArray 0), toks := tk }) ⟨_, hoL, rfl⟩ entry_list_sort (list_sort_tree (s := { s with heap := h'.push (seqObj "list" acc.toList.toArray 0), toks := tk }) hoL hI (by rw [hlen, hl]; exact h64) fun out ns' a1 a2 a3 => ⟨_, rfl, ?_⟩) (args_list_sort _)))
        refine wpAny_pure ⟨_, rfl, ?_⟩
        obtain ⟨e, he⟩ := sortedHeap_at (out := out) hoL
        have nw : s.heap.get? h'.objs.size = none := by
          cases q2 : s.heap.get? h'.objs.size with
          | none => rfl
          | some o => have := kp _ _ q2; rw [new_none] at this; cases this
        have kp' : ∀ b o, s.heap.get? b = some o → (sortedHeap (h'.push (seqObj "list" acc.toList.toArray 0)) h'.objs.size acc.toList out).get? b = some o := fun b o eb => by
          have hb := kp b o eb
          have hlt := Heap.lt_size hb
          rw [sortedHeap_old (Nat.ne_of_lt hlt) (by rw [size_push']; exact Nat.lt_succ_of_lt hlt)]
          exact Heap.get?_push_of_some _ hb
        have nm : h'.objs.size ≠ sysModules := by
          have := (ok.keep kp).newS
          exact this
        have eo' : seqObj "list" out e = { cls := .type "list", data := .seq out.toList.toArray e } := by simp [seqObj]
        rw [eo'] at he
        obtain ⟨ok', g⟩ := ok.alloc (lo := .list (ns'.map .int)) nw kp' he (.list (repInts a1)) nm
        exact ⟨_, _, _, q ns' (by rw [← hk]; exact a2) a3, ok', .loc (by rw [← ok.len]; simp), g, _, _, rfl⟩
    · exact q.elim
  · exact q.elim
end
end Mine

namespace Mine
/-! TypeInfo: an instance is .obj 0 [name, namespace] -/
def gName : WF := fun args H Q => match args with | [.obj 0 [a, _]] => Q a H | _ => False
def gNs : WF := fun args H Q => match args with | [.obj 0 [_, a]] => Q a H | _ => False
def mkTI : WF := fun args H Q => match args with | [a, b] => Q (.obj 0 [b, a]) H | _ => False
theorem e_gName {a b H Q} : gName [.obj 0 [a, b]] H Q = Q a H := propext Iff.rfl
theorem e_gNs {a b H Q} : gNs [.obj 0 [a, b]] H Q = Q b H := propext Iff.rfl
theorem e_mkTI {a b H Q} : mkTI [a, b] H Q = Q (.obj 0 [b, a]) H := propext Iff.rfl
end Mine

namespace Mine
/-! ### a getter of a slot -/
def slotIs (c : Cx) (H : HW) (i : Nat) (v : V) (Q : V → HW → Prop) : Prop := match slotV c H i v with | some u => Q u H | none => False
theorem slotIs_def {c H i v Q} : slotIs c H i v Q = (match slotV c H i v with | some u => Q u H | none => False) := rfl
def gSlot (c : Cx) (k i : Nat) : WF := fun args H Q => match args with | [v] => clsV c H v = some k ∧ slotIs c H i v Q | _ => False
theorem gSlot_of {c k i args H Q} (h : gSlot c k i args H Q) : ∃ v, args = [v] ∧ clsV c H v = some k ∧ slotIs c H i v Q := by
  unfold gSlot at h
  split at h
  · exact ⟨_, rfl, h⟩
  · exact h.elim
theorem e_gSlotO {c k i fs u H Q} (h : fs[i]? = some u) : gSlot c k i [.obj k fs] H Q = Q u H := by
  refine propext ⟨fun x => ?_, fun x => ⟨rfl, ?_⟩⟩
  · have := x.2
    unfold slotIs at this
    simpa [slotV, h] using this
  · unfold slotIs
    simpa [slotV, h] using x
theorem e_gSlotO0 {c k a b H Q} : gSlot c k 0 [.obj k [a, b]] H Q = Q a H := e_gSlotO rfl
theorem e_gSlotO1 {c k a b H Q} : gSlot c k 1 [.obj k [a, b]] H Q = Q b H := e_gSlotO rfl
theorem e_gSlot1 {c k a H Q} : gSlot c k 0 [.obj k [a]] H Q = Q a H := e_gSlotO rfl
theorem e_gSlotG {c k i a n H Q} (h : c.gC a = some (k, n)) (hi : i < n) : gSlot c k i [.glob a] H Q = Q .none H := by
  refine propext ⟨fun x => ?_, fun x => ⟨?_, ?_⟩⟩
  · have := x.2
    unfold slotIs at this
    simpa [slotV, h, hi] using this
  · simp [clsV, h]
  · unfold slotIs
    simpa [slotV, h, hi] using x
/-- a method that gives back a global object, whatever its arguments -/
def kGlob (n : Nat) (a : Addr) : WF := fun args H Q => args.length = n ∧ Q (.glob a) H
/-! ### what is kept from a place on -/
structure KeepB (B : Nat) (H H' : HW) : Prop where
  len : H.length ≤ H'.length
  at_ : ∀ (k : Nat) o, B ≤ k → H[k]? = some o → H'[k]? = some o
theorem KeepB.refl (B H) : KeepB B H H := ⟨Nat.le_refl _, fun _ _ _ e => e⟩
theorem KeepB.trans {B H H' H''} (x : KeepB B H H') (y : KeepB B H' H'') : KeepB B H H'' := ⟨Nat.le_trans x.len y.len, fun k o h e => y.at_ k o h (x.at_ k o h e)⟩
theorem KeepB.app {B H L} : KeepB B H (H ++ L) := ⟨by simp, fun k o _ e => by rw [List.getElem?_append_left (List.getElem?_eq_some_iff.mp e).1]; exact e⟩
theorem KeepB.set {B H j o} (h : j < B) : KeepB B H (H.set j o) := ⟨by simp, fun k o' hk e => by rw [List.getElem?_set_ne (by omega)]; exact e⟩
theorem KeepB.lst {B H H'} (x : KeepB B H H') {k xs} (h : B ≤ k) (e : lstAt H k = some xs) : lstAt H' k = some xs := by
  unfold lstAt; rw [x.at_ k _ h (lstAt_of e)]
end Mine

namespace Mine
section
variable {sl : Sl} {H : HW} {c : Cx} {ns : List Int}
def idxV (ns : List Int) (v w : V) (H : HW) (Q : V → HW → Prop) : Prop := match asD H v with
  | some kvs => (match w with | .int k => (match dGet kvs k with | some u => Q u H | none => False) | _ => False)
  | none => match asL ns H v, w with
    | some xs, .int k => xs.length ≤ 1000000 ∧ (match getI xs k with | some u => Q u H | none => False)
    | _, _ => False
theorem e_idxX {a b Q} : wIdxX ns a b sl H Q = a sl H (fun v H₁ => b sl H₁ fun w H₂ => idxV ns v w H₂ Q) := propext Iff.rfl
theorem asD_lst {k xs} (h : lstAt H k = some xs) : asD H (.loc k) = none := by simp only [asD, lstAt_of h]
theorem asD_dct {k kvs} (h : H[k]? = some (.dict kvs)) : asD H (.loc k) = some kvs := by simp only [asD, h]
theorem e_idxL {k xs i Q} (h : lstAt H k = some xs) : idxV ns (.loc k) (.int i) H Q = (xs.length ≤ 1000000 ∧ (match getI xs i with | some u => Q u H | none => False)) := by
  unfold idxV; rw [asD_lst h, asL_loc, h]
theorem e_idxD {k kvs i Q} (h : H[k]? = some (.dict kvs)) : idxV ns (.loc k) (.int i) H Q = (match dGet kvs i with | some u => Q u H | none => False) := by
  unfold idxV; rw [asD_dct h]
theorem idx_lst {k xs i u} {Q : V → HW → Prop} (h : lstAt H k = some xs) (hl : xs.length ≤ 1000000) (hg : getI xs i = some u) (q : Q u H) : idxV ns (.loc k) (.int i) H Q := by
  rw [e_idxL h, hg]; exact ⟨hl, q⟩
theorem idx_nat {k xs u} {i : Nat} {Q : V → HW → Prop} (h : lstAt H k = some xs) (hl : xs.length ≤ 1000000) (hg : xs[i]? = some u) (q : Q u H) : idxV ns (.loc k) (.int (i : Int)) H Q := idx_lst h hl (by rw [getI_nat]; exact hg) q
theorem idx_last {k xs u} {Q : V → HW → Prop} (h : lstAt H k = some xs) (hl : xs.length ≤ 1000000) (hg : xs.getLast? = some u) (q : Q u H) : idxV ns (.loc k) (.int (-1)) H Q := by
  refine idx_lst h hl ?_ q
  have hn : xs.length ≠ 0 := fun e => by rw [List.length_eq_zero_iff] at e; subst e; simp at hg
  unfold getI
  rw [if_neg (by decide), if_pos (by omega), ← hg, List.getLast?_eq_getElem?]
  congr 1
  omega
theorem idx_dct {k kvs i u} {Q : V → HW → Prop} (h : H[k]? = some (.dict kvs)) (hg : dGet kvs i = some u) (q : Q u H) : idxV ns (.loc k) (.int i) H Q := by
  rw [e_idxD h, hg]; exact q
theorem e_setI {a b e Q} : wSetI a b e sl H Q = e sl H (fun u H₁ => a sl H₁ fun v H₂ => b sl H₂ fun w H₃ => stV v w u H₃ fun H' => Q .next sl H') := propext Iff.rfl
theorem st_dct {j k u kvs} {Q : HW → Prop} (h : H[j]? = some (.dict kvs)) (hl : kvs.length ≤ 1000000) (q : Q (H.set j (.dict (dSet kvs k u)))) : stV (.loc j) (.int k) u H Q := by
  unfold stV; simp only [h]; exact ⟨hl, q⟩
theorem e_setTX {is a Q} : wSetTX ns is a sl H Q = a sl H (fun v H' => aTupX ns is v sl H' fun sl' H'' => Q .next sl' H'') := propext Iff.rfl
theorem e_aTupXT {is vs K} : aTupX ns is (.tup vs) sl H K = (vs.length = is.length ∧ K (setAll is vs sl) H) := propext Iff.rfl
theorem e_aTupXL {is k vs K} (h : lstAt H k = some vs) : aTupX ns is (.loc k) sl H K = (vs.length = is.length ∧ K (setAll is vs sl) H) := by
  show (match asL ns H (.loc k) with | some vs => vs.length = is.length ∧ K (setAll is vs sl) H | none => False) = _
  rw [asL_loc, h]
theorem e_dict0 {Q} : wDict0 sl H Q = Q (.loc H.length) (H ++ [.dict []]) := propext Iff.rfl
theorem e_kGlob2 {n a x y Q} : kGlob n a [x, y] H Q = (2 = n ∧ Q (.glob a) H) := propext Iff.rfl
theorem e_kGlob3 {n a x y z Q} : kGlob n a [x, y, z] H Q = (3 = n ∧ Q (.glob a) H) := propext Iff.rfl
theorem e_sortD {k : Nat} {kvs : List (Int × V)} {Q : V → HW → Prop} (h : H[k]? = some (.dict kvs)) : bSortD [.loc k] H Q = (kvs.length < 64 ∧ ∀ js : List Int, js.Perm (kvs.map (·.1)) → js.Pairwise (· ≤ ·) → Q (.loc H.length) (H ++ [.list (js.map .int)])) := by
  unfold bSortD
  simp only [asD_dct h]
theorem e_lenS {Q} : bLen ns [.script] H Q = (ns.length ≤ 1000000 ∧ Q (.int ns.length) H) := by
  show (match asL ns H .script with | some xs => xs.length ≤ 1000000 ∧ Q (.int xs.length) H | none => False) = _
  rw [asL_scr]; simp
end
/-! ### what is kept at the places that a law protects -/
structure KeepP (P : Nat → Prop) (H H' : HW) : Prop where
  len : H.length ≤ H'.length
  at_ : ∀ (k : Nat) o, P k → H[k]? = some o → H'[k]? = some o
theorem KeepP.refl (P H) : KeepP P H H := ⟨Nat.le_refl _, fun _ _ _ e => e⟩
theorem KeepP.trans {P H H' H''} (x : KeepP P H H') (y : KeepP P H' H'') : KeepP P H H'' := ⟨Nat.le_trans x.len y.len, fun k o h e => y.at_ k o h (x.at_ k o h e)⟩
theorem Ext.keepP {P H H'} (x : Ext H H') : KeepP P H H' := by
  obtain ⟨L, rfl⟩ := x
  exact ⟨by simp, fun k o _ e => by rw [List.getElem?_append_left (List.getElem?_eq_some_iff.mp e).1]; exact e⟩
theorem KeepP.set {P H j o} (h : ¬ P j) : KeepP P H (H.set j o) := ⟨by simp, fun k o' hk e => by rw [List.getElem?_set_ne (fun q => h (by rw [q]; exact hk))]; exact e⟩
theorem KeepP.lst {P H H'} (x : KeepP P H H') {k xs} (h : P k) (e : lstAt H k = some xs) : lstAt H' k = some xs := by
  unfold lstAt; rw [x.at_ k _ h (lstAt_of e)]
theorem Ext.len {H H'} (x : Ext H H') : H.length ≤ H'.length := by obtain ⟨L, rfl⟩ := x; simp
end Mine

namespace Mine
def mk5 (x : Int) : Int := x.fmod 5
inductive BN where
  | leaf
  | node (l : BN) (x : Int) (r : BN)
def BN.ins : BN → Int → BN
  | .leaf, x => .node .leaf x .leaf
  | .node l y r, x => if mk5 x < mk5 y then .node (l.ins x) y r else if mk5 y < mk5 x then .node l y (r.ins x) else .node l x r
def BN.row : BN → List Int
  | .leaf => []
  | .node l x r => l.row ++ x :: r.row
def BN.depth : BN → Nat
  | .leaf => 0
  | .node l _ r => max l.depth r.depth + 1
theorem BN.depth_le : ∀ t : BN, t.depth ≤ t.row.length
  | .leaf => Nat.le_refl _
  | .node l x r => by
    have h1 := l.depth_le
    have h2 := r.depth_le
    simp only [BN.depth, BN.row, List.length_append, List.length_cons]
    omega
def BN.srt (t : BN) : Prop := t.row.Pairwise fun a b => mk5 a < mk5 b
theorem ins_spec : ∀ (t : BN) (x : Int), t.srt → (t.ins x).srt ∧ ∀ y, y ∈ (t.ins x).row ↔ (y = x ∨ (y ∈ t.row ∧ mk5 y ≠ mk5 x))
  | .leaf, x, _ => by
    constructor
    · simp [BN.srt, BN.ins, BN.row]
    · simp [BN.ins, BN.row]
  | .node l z r, x, h => by
    simp only [BN.srt, BN.row, List.pairwise_append, List.pairwise_cons] at h
    obtain ⟨hl, ⟨hzr, hr⟩, hlz⟩ := h
    have il := ins_spec l x hl
    have ir := ins_spec r x hr
    have hz : ∀ a ∈ l.row, mk5 a < mk5 z := fun a ha => hlz a ha z List.mem_cons_self
    by_cases h1 : mk5 x < mk5 z
    · simp only [BN.ins, if_pos h1, BN.srt, BN.row, List.pairwise_append, List.pairwise_cons]
      refine ⟨⟨il.1, ⟨hzr, hr⟩, fun a ha b hb => ?_⟩, fun y => ?_⟩
      · have ha' : mk5 a < mk5 z := by
          rcases (il.2 a).mp ha with rfl | ha
          · exact h1
          · exact hz a ha.1
        rcases List.mem_cons.mp hb with rfl | hb
        · exact ha'
        · have := hzr b hb; omega
      · simp only [List.mem_append, List.mem_cons, il.2]
        constructor
        · rintro ((h | h) | h | h)
          · exact .inl h
          · exact .inr ⟨.inl h.1, h.2⟩
          · subst h; exact .inr ⟨.inr (.inl rfl), by omega⟩
          · have := hzr y h; exact .inr ⟨.inr (.inr h), by omega⟩
        · rintro (h | ⟨h | h | h, n⟩)
          · exact .inl (.inl h)
          · exact .inl (.inr ⟨h, n⟩)
          · exact .inr (.inl h)
          · exact .inr (.inr h)
    · by_cases h2 : mk5 z < mk5 x
      · simp only [BN.ins, if_neg h1, if_pos h2, BN.srt, BN.row, List.pairwise_append, List.pairwise_cons]
        have hrx : ∀ b ∈ (r.ins x).row, mk5 z < mk5 b := fun b hb => by
          rcases (ir.2 b).mp hb with rfl | hb
          · exact h2
          · exact hzr b hb.1
        refine ⟨⟨hl, ⟨hrx, ir.1⟩, fun a ha b hb => ?_⟩, fun y => ?_⟩
        · have := hz a ha
          rcases List.mem_cons.mp hb with rfl | hb
          · exact this
          · have := hrx b hb; omega
        · simp only [List.mem_append, List.mem_cons, ir.2]
          constructor
          · rintro (h | h | h | h)
            · have := hz y h; exact .inr ⟨.inl h, by omega⟩
            · subst h; exact .inr ⟨.inr (.inl rfl), by omega⟩
            · exact .inl h
            · exact .inr ⟨.inr (.inr h.1), h.2⟩
          · rintro (h | ⟨h | h | h, n⟩)
            · exact .inr (.inr (.inl h))
            · exact .inl h
            · exact .inr (.inl h)
            · exact .inr (.inr (.inr ⟨h, n⟩))
      · have e : mk5 z = mk5 x := by omega
        simp only [BN.ins, if_neg h1, if_neg h2, BN.srt, BN.row, List.pairwise_append, List.pairwise_cons]
        refine ⟨⟨hl, ⟨fun b hb => by have := hzr b hb; omega, hr⟩, fun a ha b hb => ?_⟩, fun y => ?_⟩
        · have := hz a ha
          rcases List.mem_cons.mp hb with rfl | hb
          · omega
          · have := hzr b hb; omega
        · simp only [List.mem_append, List.mem_cons]
          constructor
          · rintro (h | h | h)
            · have := hz y h; exact .inr ⟨.inl h, by omega⟩
            · exact .inl h
            · have := hzr y h; exact .inr ⟨.inr (.inr h), by omega⟩
          · rintro (h | ⟨h | h | h, n⟩)
            · exact .inr (.inl h)
            · exact .inl h
            · subst h; exact absurd e n
            · exact .inr (.inr h)
def dOf (ds : List Int) : List (Int × V) := ds.map fun x => (mk5 x, V.int x)
def dPut (ds : List Int) (x : Int) : List Int := if ds.any (fun y => decide (mk5 y = mk5 x)) then ds.map (fun y => if mk5 y = mk5 x then x else y) else ds ++ [x]
theorem dSet_dOf (ds : List Int) (x : Int) : dSet (dOf ds) (mk5 x) (.int x) = dOf (dPut ds x) := by
  unfold dSet dOf dPut dHas
  rw [List.any_map]
  show (if (ds.any fun y => decide (mk5 y = mk5 x)) = true then _ else _) = _
  split
  · rw [List.map_map, List.map_map]
    apply List.map_congr_left
    intro y _
    simp only [Function.comp]
    by_cases h : mk5 y = mk5 x
    · simp [h]
    · simp [h]
  · simp
theorem dPut_spec {ds : List Int} (x : Int) (nd : (ds.map mk5).Nodup) : ((dPut ds x).map mk5).Nodup ∧ ∀ y, y ∈ dPut ds x ↔ (y = x ∨ (y ∈ ds ∧ mk5 y ≠ mk5 x)) := by
  unfold dPut
  split
  · rename_i h
    rw [List.any_eq_true] at h
    obtain ⟨z, hz, ez⟩ := h
    have ez := of_decide_eq_true ez
    constructor
    · rw [List.map_map]
      have : ds.map (mk5 ∘ fun y => if mk5 y = mk5 x then x else y) = ds.map mk5 := by
        apply List.map_congr_left
        intro y _
        simp only [Function.comp]
        split
        · rename_i h; exact h.symm
        · rfl
      rw [this]; exact nd
    · intro y
      rw [List.mem_map]
      constructor
      · rintro ⟨a, ha, rfl⟩
        split
        · exact .inl rfl
        · rename_i h; exact .inr ⟨ha, h⟩
      · rintro (rfl | ⟨h, n⟩)
        · exact ⟨z, hz, by rw [if_pos ez]⟩
        · exact ⟨y, h, by rw [if_neg n]⟩
  · rename_i h
    have h' : ∀ y ∈ ds, mk5 y ≠ mk5 x := fun y hy e => h (List.any_eq_true.mpr ⟨y, hy, decide_eq_true e⟩)
    constructor
    · rw [List.map_append, List.nodup_append]
      refine ⟨nd, by simp, fun a ha b hb => ?_⟩
      obtain ⟨y, hy, rfl⟩ := List.mem_map.mp ha
      simp at hb
      subst hb
      exact h' y hy
    · intro y
      rw [List.mem_append, List.mem_singleton]
      constructor
      · rintro (h | h)
        · exact .inr ⟨h, h' y h⟩
        · exact .inl h
      · rintro (h | h)
        · exact .inr h
        · exact .inl h.1
theorem dGet_dOf : ∀ {ds : List Int} {x : Int}, (ds.map mk5).Nodup → x ∈ ds → dGet (dOf ds) (mk5 x) = some (.int x)
  | y :: ds, x, nd, h => by
    rw [List.map_cons, List.nodup_cons] at nd
    unfold dGet dOf
    rw [List.map_cons, List.find?_cons]
    rcases List.mem_cons.mp h with rfl | h
    · simp
    · have : mk5 y ≠ mk5 x := fun e => nd.1 (by rw [e]; exact List.mem_map_of_mem h)
      simp only [decide_eq_false this]
      exact dGet_dOf nd.2 h
structure J10 (t : BN) (ds : List Int) : Prop where
  srt : t.srt
  nd : (ds.map mk5).Nodup
  mem : ∀ y, y ∈ ds ↔ y ∈ t.row
theorem J10.start : J10 .leaf [] := ⟨by simp [BN.srt, BN.row], by simp, by simp [BN.row]⟩
theorem J10.put {t ds} (j : J10 t ds) (x : Int) : J10 (t.ins x) (dPut ds x) := by
  obtain ⟨h1, h2⟩ := ins_spec t x j.srt
  obtain ⟨h3, h4⟩ := dPut_spec x j.nd
  exact ⟨h1, h3, fun y => by rw [h4, h2, j.mem]⟩
theorem nodup_of_map {f : Int → Int} {ds : List Int} (h : (ds.map f).Nodup) : ds.Nodup := by
  unfold List.Nodup at h ⊢
  rw [List.pairwise_map] at h
  exact h.imp fun h e => h (by rw [e])
theorem J10.rowNd {t ds} (j : J10 t ds) : (t.row.map mk5).Nodup := by
  unfold List.Nodup
  rw [List.pairwise_map]
  exact j.srt.imp fun h => by omega
theorem J10.perm {t ds} (j : J10 t ds) : ds.Perm t.row := (List.perm_ext_iff_of_nodup (nodup_of_map j.nd) (nodup_of_map j.rowNd)).mpr j.mem
theorem J10.len {t ds} (j : J10 t ds) : t.row.length ≤ 5 := by
  have := j.rowNd.length_le_of_subset (l₂ := [0, 1, 2, 3, 4]) fun a ha => by
    obtain ⟨y, _, rfl⟩ := List.mem_map.mp ha
    have h1 : 0 ≤ mk5 y := Int.fmod_nonneg_of_pos y (by decide)
    have h2 : mk5 y < 5 := Int.fmod_lt_of_pos y (by decide)
    simp
    omega
  simpa using this
theorem J10.dlen {t ds} (j : J10 t ds) : ds.length ≤ 5 := by rw [j.perm.length_eq]; exact j.len
theorem J10.keys {t ds} (j : J10 t ds) {js : List Int} (hp : js.Perm ((dOf ds).map (·.1))) (hs : js.Pairwise (· ≤ ·)) : js = t.row.map mk5 := by
  have e : (dOf ds).map (·.1) = ds.map mk5 := by unfold dOf; rw [List.map_map]; rfl
  rw [e] at hp
  refine List.Perm.eq_of_pairwise (le := (· ≤ ·)) (fun a b _ _ h1 h2 => Int.le_antisymm h1 h2) hs ?_ (hp.trans (j.perm.map mk5))
  rw [List.pairwise_map]
  exact j.srt.imp fun h => by omega
theorem J10.get {t ds} (j : J10 t ds) {x : Int} (h : x ∈ t.row) : dGet (dOf ds) (mk5 x) = some (.int x) := dGet_dOf j.nd ((j.mem x).mpr h)
end Mine

namespace Mine
def laidB (c : Cx) (WL : WF) : WS := wSeq (wIf (tv (wBin (wIs c id) (wVar 0) (wVar 1))) (wSeq (wRet (wCall mkTI (wCons (wList (wCons (wVar 1) (wCons (wVar 1) wNil))) (wCons (wVar 2) wNil)))) wSkip) wSkip) (wSeq (wSetTX c.ns [3, 4] (wMeth c 0 (gSlot c 0 1) (wVar 0) wNil)) (wSeq (wSet 5 (wBin wMod (wMeth c 0 (gSlot c 0 0) (wVar 0) wNil) (wK (V.int 5)))) (wSeq (wIf (tv (wBin (onI fun i j => V.bool (decide (i < j))) (wBin wMod (wVar 2) (wK (V.int 5))) (wVar 5))) (wSeq (wRet (wCall mkTI (wCons (wList (wCons (wCall WL (wCons (wVar 3) (wCons (wVar 1) (wCons (wVar 2) wNil)))) (wCons (wVar 4) wNil))) (wCons (wMeth c 0 (gSlot c 0 0) (wVar 0) wNil) wNil)))) wSkip) wSkip) (wSeq (wIf (tv (wBin (onI fun i j => V.bool (decide (j < i))) (wBin wMod (wVar 2) (wK (V.int 5))) (wVar 5))) (wSeq (wRet (wCall mkTI (wCons (wList (wCons (wVar 3) (wCons (wCall WL (wCons (wVar 4) (wCons (wVar 1) (wCons (wVar 2) wNil)))) wNil))) (wCons (wMeth c 0 (gSlot c 0 0) (wVar 0) wNil) wNil)))) wSkip) wSkip) (wSeq (wRet (wCall mkTI (wCons (wList (wCons (wVar 3) (wCons (wVar 4) wNil))) (wCons (wVar 2) wNil)))) wSkip)))))
def rowB (c : Cx) (WR : WF) : WS := wSeq (wIf (tv (wBin (wIs c id) (wVar 0) (wVar 1))) (wSeq (wRet (wList wNil)) wSkip) wSkip) (wSeq (wSetTX c.ns [2, 3] (wMeth c 0 (gSlot c 0 1) (wVar 0) wNil)) (wSeq (wRet (wBin (wAdd c.ns) (wBin (wAdd c.ns) (wCall WR (wCons (wVar 2) (wCons (wVar 1) wNil))) (wList (wCons (wMeth c 0 (gSlot c 0 0) (wVar 0) wNil) wNil))) (wCall WR (wCons (wVar 3) (wCons (wVar 1) wNil))))) wSkip))
def lawB_b1 (c : Cx) : WS := wSeq (wSet 7 (wMeth c 1 (kGlob 3 67) (wIdxX c.ns (wVar 1) (wBin wMod (wVar 6) (wK (V.int 3)))) (wCons (wIdxX c.ns (wVar 2) (wBin wMod (wBin wDiv (wVar 6) (wK (V.int 3))) (wK (V.int 4)))) (wCons (wIdxX c.ns (wVar 3) (wBin wMod (wBin wDiv (wVar 6) (wK (V.int 12))) (wK (V.int 4)))) wNil)))) (wSeq (wIf (tv (wBin (wIs c not) (wVar 7) (wMeth c 1 (kGlob 2 67) (wIdxX c.ns (wVar 1) (wBin wMod (wBin wDiv (wVar 6) (wK (V.int 2))) (wK (V.int 3)))) (wCons (wIdxX c.ns (wVar 3) (wBin wMod (wBin wDiv (wVar 6) (wK (V.int 12))) (wK (V.int 4)))) wNil)))) (wSeq (wRet (wK (V.bool false))) wSkip) wSkip) (wSeq (wDrop (wAppend (wVar 5) (wVar 7))) wSkip))
def lawB_b2 (c : Cx) (WL : WF) : WS := wSeq (wDrop (wAppend (wVar 8) (wCall WL (wCons (wIdxX c.ns (wVar 8) (wVar 11)) (wCons (wIdxX c.ns (wVar 5) (wVar 11)) (wCons (wIdxX c.ns (wVar 4) (wVar 11)) wNil)))))) (wSeq (wSetI (wVar 9) (wBin wMod (wIdxX c.ns (wVar 4) (wVar 11)) (wK (V.int 5))) (wIdxX c.ns (wVar 4) (wVar 11))) (wSeq (wDrop (wAppend (wVar 10) (wComp c.ns (iList c.ns (wCall bSortD (wCons (wVar 9) wNil))) [9] tTrue (wIdxX c.ns (wVar 1) (wVar 0))))) wSkip))
def lawB (c : Cx) (WL : WF) (WR : WF) : WS := wSeq (wSet 1 (wComp c.ns (iList c.ns (wList (wCons (wK V.none) (wCons (wK (V.str (Str.ofString "p:x"))) (wCons (wCall (bLen c.ns) (wCons (wVar 0) wNil)) wNil))))) [] tTrue (wCall (mkEI 1) (wCons (wVar 0) wNil)))) (wSeq (wSet 2 (wList (wCons (wK V.none) (wCons (wK (V.str (Str.ofString ""))) (wCons (wK (V.str (Str.ofString "u"))) (wCons (wCall (bLen c.ns) (wCons (wVar 0) wNil)) wNil)))))) (wSeq (wSet 3 (wList (wCons (wK (V.str (Str.ofString "x"))) (wCons (wK V.none) (wCons (wK (V.str (Str.ofString "p:x"))) (wCons (wK (V.str (Str.ofString ""))) wNil)))))) (wSeq (wSet 4 (wBin (wAdd c.ns) (wList (wCons (wK (V.int 22)) (wCons (wK (V.int 11)) (wCons (wK (V.int 34)) (wCons (wK (V.int 7)) (wCons (wK (V.int 13)) wNil)))))) (wVar 0))) (wSeq (wSet 5 (wList wNil)) (wSeq (wFor c.ns (iList c.ns (wVar 4)) (aName 6) (lawB_b1 c)) (wSeq (wSetTX c.ns [8, 9, 10] (wTup (wCons (wList (wCons (wIdxX c.ns (wVar 5) (wK (V.int 0))) wNil)) (wCons wDict0 (wCons (wList (wCons (wList wNil) wNil)) wNil))))) (wSeq (wFor c.ns (iRange1 (wCall (bLen c.ns) (wCons (wVar 4) wNil))) (aName 11) (lawB_b2 c WL)) (wSeq (wIf (tv (wBin (wEqD c.ns not) (wComp c.ns (iList c.ns (wVar 8)) [5] tTrue (wCall WR (wCons (wVar 0) (wCons (wIdxX c.ns (wVar 1) (wNeg (wK (V.int 1)))) wNil)))) (wVar 10))) (wSeq (wRet (wK (V.bool false))) wSkip) wSkip) (wSeq (wIf (tOr (tv (wBin (wIs c not) (wMeth c 0 (gSlot c 0 0) (wIdxX c.ns (wVar 8) (wK (V.int 0))) wNil) (wK V.none))) (tv (wBin (wIs c not) (wMeth c 0 (gSlot c 0 1) (wIdxX c.ns (wVar 8) (wK (V.int 0))) wNil) (wK V.none)))) (wSeq (wRet (wK (V.bool false))) wSkip) wSkip) (wSeq (wRet (wBin (wEqD c.ns id) (wComp c.ns (iList c.ns (wVar 1)) [] tTrue (wSlot c 1 0 (wVar 0))) (wList (wCons (wK V.none) (wCons (wK (V.str (Str.ofString "p:x"))) (wCons (wCall (bLen c.ns) (wCons (wVar 0) wNil)) wNil)))))) wSkip))))))))))

section
variable {c : Cx} {H : HW}
/-- a value that bears a tree -/
inductive Tr (P : Nat → Prop) (H : HW) : V → BN → Prop
  | leaf : Tr P H (.glob 67) .leaf
  | node {k l r tl tr x} : P k → lstAt H k = some [l, r] → Tr P H l tl → Tr P H r tr → Tr P H (.obj 0 [.int x, .loc k]) (.node tl x tr)
theorem Tr.keep {P : Nat → Prop} {H' v t} (x : KeepP P H H') (h : Tr P H v t) : Tr P H' v t := by
  induction h with
  | leaf => exact .leaf
  | node hk hl _ _ i1 i2 => exact .node hk (x.lst hk hl) i1 i2
def laidW (n : Nat) : WF := fun args H Q => ∃ (P : Nat → Prop) (node : V) (x : Int) (t : BN), args = [node, .glob 67, .int x] ∧ (∀ k, H.length ≤ k → P k) ∧ Tr P H node t ∧ t.depth < n ∧ ∀ v H', Ext H H' → Tr P H' v (t.ins x) → Q v H'
def rowW10 (n : Nat) : WF := fun args H Q => ∃ (P : Nat → Prop) (node : V) (t : BN), args = [node, .glob 67] ∧ Tr P H node t ∧ t.depth < n ∧ t.row.length ≤ 100 ∧ ∀ k H', Ext H H' → lstAt H' k = some (t.row.map .int) → Q (.loc k) H'
theorem laid_plain {n args Q} (hg : c.gC 67 = some (0, 2)) (h : laidW (n + 1) args H Q) : fnW 3 3 (laidB c (laidW n)) args H Q := by
  obtain ⟨P, node, x, t, rfl, hP, tr, hd, q⟩ := h
  refine ⟨rfl, ?_⟩
  show laidB c (laidW n) [some node, some (.glob 67), some (.int x), none, none, none] H _
  unfold laidB
  cases tr with
  | leaf =>
    simp only [e_idxX, e_setI, e_setTX, e_aTupXT, e_dict0, e_kGlob2, e_kGlob3, e_lenS, e_gSlotO0, e_gSlotO1, e_gSlot1, e_mkEI, e_kFalse, e_slot, e_comp0, e_mul, e_eqXI, e_eqXS, e_neXI, e_neXL, e_pow, e_is, e_eqD, e_sum, e_minL, e_inI, e_tTrue, true_and, and_true, ne_eq, not_false_eq_true, Int.reduceEq, Nat.reduceLeDiff, Nat.reduceLT, reduceIte, Option.isSome_some, reduceCtorEq, Int.reduceBEq, Int.reduceNeg, Int.reduceLT, Nat.reduceAdd, Bool.false_eq_true, Bool.not_true, Bool.not_false, if_true, if_false, e_skip, e_isN, isN, id, e_mkTI, e_addI, e_addS, e_min, e_max, e_drop, e_append, e_pop, e_seq, e_setR, e_setT, e_list, e_tup, e_cons, e_meth, e_var, e_nil, e_idx, e_neg, e_k, e_set, e_aug, e_bin, e_mod, e_div, e_if, e_ret, e_and, e_or, e_not, e_tv, e_onI, e_call, e_aTupR, e_aTup, e_aName, e_gName, e_gNs, e_clsO, e_onone, e_osome, e_slice, List.getElem?_cons_zero, List.getElem?_cons_succ, List.set_cons_zero, List.set_cons_succ, List.length_cons, List.length_nil, List.reverse_cons, List.reverse_nil, List.nil_append, List.cons_append, e_setAll, e_setAll0, asL_loc, isV]
    refine q _ _ .app ?_
    exact .node (hP _ (Nat.le_refl _)) lstAt_new .leaf .leaf
  | @node k l r tl tr y hk hl htl htr =>
    simp only [BN.depth] at hd
    simp only [e_idxX, e_setI, e_setTX, e_aTupXT, e_dict0, e_kGlob2, e_kGlob3, e_lenS, e_gSlotO0, e_gSlotO1, e_gSlot1, e_mkEI, e_kFalse, e_slot, e_comp0, e_mul, e_eqXI, e_eqXS, e_neXI, e_neXL, e_pow, e_is, e_eqD, e_sum, e_minL, e_inI, e_tTrue, true_and, and_true, ne_eq, not_false_eq_true, Int.reduceEq, Nat.reduceLeDiff, Nat.reduceLT, reduceIte, Option.isSome_some, reduceCtorEq, Int.reduceBEq, Int.reduceNeg, Int.reduceLT, Nat.reduceAdd, Bool.false_eq_true, Bool.not_true, Bool.not_false, if_true, if_false, e_skip, e_isN, isN, id, e_mkTI, e_addI, e_addS, e_min, e_max, e_drop, e_append, e_pop, e_seq, e_setR, e_setT, e_list, e_tup, e_cons, e_meth, e_var, e_nil, e_idx, e_neg, e_k, e_set, e_aug, e_bin, e_mod, e_div, e_if, e_ret, e_and, e_or, e_not, e_tv, e_onI, e_call, e_aTupR, e_aTup, e_aName, e_gName, e_gNs, e_clsO, e_onone, e_osome, e_slice, List.getElem?_cons_zero, List.getElem?_cons_succ, List.set_cons_zero, List.set_cons_succ, List.length_cons, List.length_nil, List.reverse_cons, List.reverse_nil, List.nil_append, List.cons_append, e_setAll, e_setAll0, asL_loc, isV, e_aTupXL hl]
    by_cases h1 : mk5 x < mk5 y
    · have h1' : x.fmod 5 < y.fmod 5 := h1
      simp only [e_idxX, e_setI, e_setTX, e_aTupXT, e_dict0, e_kGlob2, e_kGlob3, e_lenS, e_gSlotO0, e_gSlotO1, e_gSlot1, e_mkEI, e_kFalse, e_slot, e_comp0, e_mul, e_eqXI, e_eqXS, e_neXI, e_neXL, e_pow, e_is, e_eqD, e_sum, e_minL, e_inI, e_tTrue, true_and, and_true, ne_eq, not_false_eq_true, Int.reduceEq, Nat.reduceLeDiff, Nat.reduceLT, reduceIte, Option.isSome_some, reduceCtorEq, Int.reduceBEq, Int.reduceNeg, Int.reduceLT, Nat.reduceAdd, Bool.false_eq_true, Bool.not_true, Bool.not_false, if_true, if_false, e_skip, e_isN, isN, id, e_mkTI, e_addI, e_addS, e_min, e_max, e_drop, e_append, e_pop, e_seq, e_setR, e_setT, e_list, e_tup, e_cons, e_meth, e_var, e_nil, e_idx, e_neg, e_k, e_set, e_aug, e_bin, e_mod, e_div, e_if, e_ret, e_and, e_or, e_not, e_tv, e_onI, e_call, e_aTupR, e_aTup, e_aName, e_gName, e_gNs, e_clsO, e_onone, e_osome, e_slice, List.getElem?_cons_zero, List.getElem?_cons_succ, List.set_cons_zero, List.set_cons_succ, List.length_cons, List.length_nil, List.reverse_cons, List.reverse_nil, List.nil_append, List.cons_append, e_setAll, e_setAll0, asL_loc, decide_eq_true h1']
      refine ⟨P, l, x, tl, rfl, hP, htl, by omega, fun v H' ex hv => ?_⟩
      simp only [e_idxX, e_setI, e_setTX, e_aTupXT, e_dict0, e_kGlob2, e_kGlob3, e_lenS, e_gSlotO0, e_gSlotO1, e_gSlot1, e_mkEI, e_kFalse, e_slot, e_comp0, e_mul, e_eqXI, e_eqXS, e_neXI, e_neXL, e_pow, e_is, e_eqD, e_sum, e_minL, e_inI, e_tTrue, true_and, and_true, ne_eq, not_false_eq_true, Int.reduceEq, Nat.reduceLeDiff, Nat.reduceLT, reduceIte, Option.isSome_some, reduceCtorEq, Int.reduceBEq, Int.reduceNeg, Int.reduceLT, Nat.reduceAdd, Bool.false_eq_true, Bool.not_true, Bool.not_false, if_true, if_false, e_skip, e_isN, isN, id, e_mkTI, e_addI, e_addS, e_min, e_max, e_drop, e_append, e_pop, e_seq, e_setR, e_setT, e_list, e_tup, e_cons, e_meth, e_var, e_nil, e_idx, e_neg, e_k, e_set, e_aug, e_bin, e_mod, e_div, e_if, e_ret, e_and, e_or, e_not, e_tv, e_onI, e_call, e_aTupR, e_aTup, e_aName, e_gName, e_gNs, e_clsO, e_onone, e_osome, e_slice, List.getElem?_cons_zero, List.getElem?_cons_succ, List.set_cons_zero, List.set_cons_succ, List.length_cons, List.length_nil, List.reverse_cons, List.reverse_nil, List.nil_append, List.cons_append, e_setAll, e_setAll0, asL_loc]
      refine q _ _ (ex.trans .app) ?_
      rw [BN.ins, if_pos h1]
      exact .node (hP _ ex.len) lstAt_new (hv.keep (Ext.keepP .app)) (htr.keep (Ext.keepP (ex.trans .app)))
    · have h1' : ¬ x.fmod 5 < y.fmod 5 := h1
      simp only [e_idxX, e_setI, e_setTX, e_aTupXT, e_dict0, e_kGlob2, e_kGlob3, e_lenS, e_gSlotO0, e_gSlotO1, e_gSlot1, e_mkEI, e_kFalse, e_slot, e_comp0, e_mul, e_eqXI, e_eqXS, e_neXI, e_neXL, e_pow, e_is, e_eqD, e_sum, e_minL, e_inI, e_tTrue, true_and, and_true, ne_eq, not_false_eq_true, Int.reduceEq, Nat.reduceLeDiff, Nat.reduceLT, reduceIte, Option.isSome_some, reduceCtorEq, Int.reduceBEq, Int.reduceNeg, Int.reduceLT, Nat.reduceAdd, Bool.false_eq_true, Bool.not_true, Bool.not_false, if_true, if_false, e_skip, e_isN, isN, id, e_mkTI, e_addI, e_addS, e_min, e_max, e_drop, e_append, e_pop, e_seq, e_setR, e_setT, e_list, e_tup, e_cons, e_meth, e_var, e_nil, e_idx, e_neg, e_k, e_set, e_aug, e_bin, e_mod, e_div, e_if, e_ret, e_and, e_or, e_not, e_tv, e_onI, e_call, e_aTupR, e_aTup, e_aName, e_gName, e_gNs, e_clsO, e_onone, e_osome, e_slice, List.getElem?_cons_zero, List.getElem?_cons_succ, List.set_cons_zero, List.set_cons_succ, List.length_cons, List.length_nil, List.reverse_cons, List.reverse_nil, List.nil_append, List.cons_append, e_setAll, e_setAll0, asL_loc, decide_eq_false h1']
      by_cases h2 : mk5 y < mk5 x
      · have h2' : y.fmod 5 < x.fmod 5 := h2
        simp only [e_idxX, e_setI, e_setTX, e_aTupXT, e_dict0, e_kGlob2, e_kGlob3, e_lenS, e_gSlotO0, e_gSlotO1, e_gSlot1, e_mkEI, e_kFalse, e_slot, e_comp0, e_mul, e_eqXI, e_eqXS, e_neXI, e_neXL, e_pow, e_is, e_eqD, e_sum, e_minL, e_inI, e_tTrue, true_and, and_true, ne_eq, not_false_eq_true, Int.reduceEq, Nat.reduceLeDiff, Nat.reduceLT, reduceIte, Option.isSome_some, reduceCtorEq, Int.reduceBEq, Int.reduceNeg, Int.reduceLT, Nat.reduceAdd, Bool.false_eq_true, Bool.not_true, Bool.not_false, if_true, if_false, e_skip, e_isN, isN, id, e_mkTI, e_addI, e_addS, e_min, e_max, e_drop, e_append, e_pop, e_seq, e_setR, e_setT, e_list, e_tup, e_cons, e_meth, e_var, e_nil, e_idx, e_neg, e_k, e_set, e_aug, e_bin, e_mod, e_div, e_if, e_ret, e_and, e_or, e_not, e_tv, e_onI, e_call, e_aTupR, e_aTup, e_aName, e_gName, e_gNs, e_clsO, e_onone, e_osome, e_slice, List.getElem?_cons_zero, List.getElem?_cons_succ, List.set_cons_zero, List.set_cons_succ, List.length_cons, List.length_nil, List.reverse_cons, List.reverse_nil, List.nil_append, List.cons_append, e_setAll, e_setAll0, asL_loc, decide_eq_true h2']
        refine ⟨P, r, x, tr, rfl, hP, htr, by omega, fun v H' ex hv => ?_⟩
        simp only [e_idxX, e_setI, e_setTX, e_aTupXT, e_dict0, e_kGlob2, e_kGlob3, e_lenS, e_gSlotO0, e_gSlotO1, e_gSlot1, e_mkEI, e_kFalse, e_slot, e_comp0, e_mul, e_eqXI, e_eqXS, e_neXI, e_neXL, e_pow, e_is, e_eqD, e_sum, e_minL, e_inI, e_tTrue, true_and, and_true, ne_eq, not_false_eq_true, Int.reduceEq, Nat.reduceLeDiff, Nat.reduceLT, reduceIte, Option.isSome_some, reduceCtorEq, Int.reduceBEq, Int.reduceNeg, Int.reduceLT, Nat.reduceAdd, Bool.false_eq_true, Bool.not_true, Bool.not_false, if_true, if_false, e_skip, e_isN, isN, id, e_mkTI, e_addI, e_addS, e_min, e_max, e_drop, e_append, e_pop, e_seq, e_setR, e_setT, e_list, e_tup, e_cons, e_meth, e_var, e_nil, e_idx, e_neg, e_k, e_set, e_aug, e_bin, e_mod, e_div, e_if, e_ret, e_and, e_or, e_not, e_tv, e_onI, e_call, e_aTupR, e_aTup, e_aName, e_gName, e_gNs, e_clsO, e_onone, e_osome, e_slice, List.getElem?_cons_zero, List.getElem?_cons_succ, List.set_cons_zero, List.set_cons_succ, List.length_cons, List.length_nil, List.reverse_cons, List.reverse_nil, List.nil_append, List.cons_append, e_setAll, e_setAll0, asL_loc]
        refine q _ _ (ex.trans .app) ?_
        rw [BN.ins, if_neg h1, if_pos h2]
        exact .node (hP _ ex.len) lstAt_new (htl.keep (Ext.keepP (ex.trans .app))) (hv.keep (Ext.keepP .app))
      · have h2' : ¬ y.fmod 5 < x.fmod 5 := h2
        simp only [e_idxX, e_setI, e_setTX, e_aTupXT, e_dict0, e_kGlob2, e_kGlob3, e_lenS, e_gSlotO0, e_gSlotO1, e_gSlot1, e_mkEI, e_kFalse, e_slot, e_comp0, e_mul, e_eqXI, e_eqXS, e_neXI, e_neXL, e_pow, e_is, e_eqD, e_sum, e_minL, e_inI, e_tTrue, true_and, and_true, ne_eq, not_false_eq_true, Int.reduceEq, Nat.reduceLeDiff, Nat.reduceLT, reduceIte, Option.isSome_some, reduceCtorEq, Int.reduceBEq, Int.reduceNeg, Int.reduceLT, Nat.reduceAdd, Bool.false_eq_true, Bool.not_true, Bool.not_false, if_true, if_false, e_skip, e_isN, isN, id, e_mkTI, e_addI, e_addS, e_min, e_max, e_drop, e_append, e_pop, e_seq, e_setR, e_setT, e_list, e_tup, e_cons, e_meth, e_var, e_nil, e_idx, e_neg, e_k, e_set, e_aug, e_bin, e_mod, e_div, e_if, e_ret, e_and, e_or, e_not, e_tv, e_onI, e_call, e_aTupR, e_aTup, e_aName, e_gName, e_gNs, e_clsO, e_onone, e_osome, e_slice, List.getElem?_cons_zero, List.getElem?_cons_succ, List.set_cons_zero, List.set_cons_succ, List.length_cons, List.length_nil, List.reverse_cons, List.reverse_nil, List.nil_append, List.cons_append, e_setAll, e_setAll0, asL_loc, decide_eq_false h2']
        refine q _ _ .app ?_
        rw [BN.ins, if_neg h1, if_neg h2]
        exact .node (hP _ (Nat.le_refl _)) lstAt_new (htl.keep (Ext.keepP .app)) (htr.keep (Ext.keepP .app))
theorem row_plain {n args Q} (hg : c.gC 67 = some (0, 2)) (h : rowW10 (n + 1) args H Q) : fnW 2 2 (rowB c (rowW10 n)) args H Q := by
  obtain ⟨P, node, t, rfl, tr, hd, hs, q⟩ := h
  refine ⟨rfl, ?_⟩
  show rowB c (rowW10 n) [some node, some (.glob 67), none, none] H _
  unfold rowB
  cases tr with
  | leaf =>
    simp only [e_idxX, e_setI, e_setTX, e_aTupXT, e_dict0, e_kGlob2, e_kGlob3, e_lenS, e_gSlotO0, e_gSlotO1, e_gSlot1, e_mkEI, e_kFalse, e_slot, e_comp0, e_mul, e_eqXI, e_eqXS, e_neXI, e_neXL, e_pow, e_is, e_eqD, e_sum, e_minL, e_inI, e_tTrue, true_and, and_true, ne_eq, not_false_eq_true, Int.reduceEq, Nat.reduceLeDiff, Nat.reduceLT, reduceIte, Option.isSome_some, reduceCtorEq, Int.reduceBEq, Int.reduceNeg, Int.reduceLT, Nat.reduceAdd, Bool.false_eq_true, Bool.not_true, Bool.not_false, if_true, if_false, e_skip, e_isN, isN, id, e_mkTI, e_addI, e_addS, e_min, e_max, e_drop, e_append, e_pop, e_seq, e_setR, e_setT, e_list, e_tup, e_cons, e_meth, e_var, e_nil, e_idx, e_neg, e_k, e_set, e_aug, e_bin, e_mod, e_div, e_if, e_ret, e_and, e_or, e_not, e_tv, e_onI, e_call, e_aTupR, e_aTup, e_aName, e_gName, e_gNs, e_clsO, e_onone, e_osome, e_slice, List.getElem?_cons_zero, List.getElem?_cons_succ, List.set_cons_zero, List.set_cons_succ, List.length_cons, List.length_nil, List.reverse_cons, List.reverse_nil, List.nil_append, List.cons_append, e_setAll, e_setAll0, asL_loc, isV]
    exact q _ _ .app lstAt_new
  | @node k l r tl tr y hk hl htl htr =>
    simp only [BN.depth] at hd
    simp only [BN.row, List.length_append, List.length_cons] at hs
    simp only [e_idxX, e_setI, e_setTX, e_aTupXT, e_dict0, e_kGlob2, e_kGlob3, e_lenS, e_gSlotO0, e_gSlotO1, e_gSlot1, e_mkEI, e_kFalse, e_slot, e_comp0, e_mul, e_eqXI, e_eqXS, e_neXI, e_neXL, e_pow, e_is, e_eqD, e_sum, e_minL, e_inI, e_tTrue, true_and, and_true, ne_eq, not_false_eq_true, Int.reduceEq, Nat.reduceLeDiff, Nat.reduceLT, reduceIte, Option.isSome_some, reduceCtorEq, Int.reduceBEq, Int.reduceNeg, Int.reduceLT, Nat.reduceAdd, Bool.false_eq_true, Bool.not_true, Bool.not_false, if_true, if_false, e_skip, e_isN, isN, id, e_mkTI, e_addI, e_addS, e_min, e_max, e_drop, e_append, e_pop, e_seq, e_setR, e_setT, e_list, e_tup, e_cons, e_meth, e_var, e_nil, e_idx, e_neg, e_k, e_set, e_aug, e_bin, e_mod, e_div, e_if, e_ret, e_and, e_or, e_not, e_tv, e_onI, e_call, e_aTupR, e_aTup, e_aName, e_gName, e_gNs, e_clsO, e_onone, e_osome, e_slice, List.getElem?_cons_zero, List.getElem?_cons_succ, List.set_cons_zero, List.set_cons_succ, List.length_cons, List.length_nil, List.reverse_cons, List.reverse_nil, List.nil_append, List.cons_append, e_setAll, e_setAll0, asL_loc, isV, e_aTupXL hl]
    refine ⟨P, l, tl, rfl, htl, by omega, by omega, fun k1 H1 x1 y1 => ?_⟩
    simp only [e_idxX, e_setI, e_setTX, e_aTupXT, e_dict0, e_kGlob2, e_kGlob3, e_lenS, e_gSlotO0, e_gSlotO1, e_gSlot1, e_mkEI, e_kFalse, e_slot, e_comp0, e_mul, e_eqXI, e_eqXS, e_neXI, e_neXL, e_pow, e_is, e_eqD, e_sum, e_minL, e_inI, e_tTrue, true_and, and_true, ne_eq, not_false_eq_true, Int.reduceEq, Nat.reduceLeDiff, Nat.reduceLT, reduceIte, Option.isSome_some, reduceCtorEq, Int.reduceBEq, Int.reduceNeg, Int.reduceLT, Nat.reduceAdd, Bool.false_eq_true, Bool.not_true, Bool.not_false, if_true, if_false, e_skip, e_isN, isN, id, e_mkTI, e_addI, e_addS, e_min, e_max, e_drop, e_append, e_pop, e_seq, e_setR, e_setT, e_list, e_tup, e_cons, e_meth, e_var, e_nil, e_idx, e_neg, e_k, e_set, e_aug, e_bin, e_mod, e_div, e_if, e_ret, e_and, e_or, e_not, e_tv, e_onI, e_call, e_aTupR, e_aTup, e_aName, e_gName, e_gNs, e_clsO, e_onone, e_osome, e_slice, List.getElem?_cons_zero, List.getElem?_cons_succ, List.set_cons_zero, List.set_cons_succ, List.length_cons, List.length_nil, List.reverse_cons, List.reverse_nil, List.nil_append, List.cons_append, e_setAll, e_setAll0, asL_loc]
    refine addL_k (lstAt_ext y1) lstAt_new (by simp; omega) fun m2 H2 x2 y2 _ => ?_
    have e2 : Ext H H2 := (x1.trans .app).trans x2
    refine ⟨P, r, tr, rfl, htr.keep e2.keepP, by omega, by omega, fun k3 H3 x3 y3 => ?_⟩
    refine addL_k (x3.lst y2) y3 (by simp; omega) fun m4 H4 x4 y4 _ => ?_
    refine q _ _ ((e2.trans x3).trans x4) ?_
    rw [y4]; simp [BN.row]
theorem comp_gen_map {ns : List Int} {sl : Sl} {a : WE} {xs : List V} {e : WE} {is : List Nat} {f : V → V} {Q : V → HW → Prop} (ha : ∀ R : V → HW → Prop, (∀ k H', Ext H H' → lstAt H' k = some xs → R (.loc k) H') → a sl H R) (hm : xs.length ≤ 1000)
    (he : ∀ v ∈ xs, ∀ H', Ext H H' → ∀ R : V → HW → Prop, R (f v) H' → e (some v :: fvOf sl is) H' R) (q : ∀ k' H', Ext H H' → lstAt H' k' = some (xs.map f) → H.length ≤ k' → Q (.loc k') H') : wComp ns (iList ns a) is tTrue e sl H Q := by
  rw [e_wComp, e_iList]
  refine ha _ fun k H' x y => ?_
  rw [asL_loc, y]
  refine ⟨by show xs.length ≤ 100000; omega, comp_map (by exact y) _ (fun v mv R r => he v mv H' x R r) (q _ _ (x.trans .app) lstAt_new x.len)⟩
/-! the states of the loops -/
def treeAt (nums : List Int) (i : Nat) : BN := (nums.take i).foldl BN.ins .leaf
def dsAt (nums : List Int) (i : Nat) : List Int := (nums.take i).foldl dPut []
theorem J_at (nums : List Int) (i : Nat) : J10 (treeAt nums i) (dsAt nums i) := by
  unfold treeAt dsAt
  have : ∀ (l : List Int) (t : BN) (ds : List Int), J10 t ds → J10 (l.foldl BN.ins t) (l.foldl dPut ds) := by
    intro l
    induction l with
    | nil => exact fun t ds j => j
    | cons x l ih => exact fun t ds j => ih _ _ (j.put x)
  exact this _ _ _ .start
theorem treeAt_succ {nums : List Int} {i : Nat} {x} (h : nums[i]? = some x) : treeAt nums (i + 1) = (treeAt nums i).ins x ∧ dsAt nums (i + 1) = dPut (dsAt nums i) x := by
  unfold treeAt dsAt
  have : nums.take (i + 1) = nums.take i ++ [x] := by
    obtain ⟨hl, e⟩ := List.getElem?_eq_some_iff.mp h
    rw [List.take_succ_eq_append_getElem hl, e]
  rw [this]
  simp
def infV (S : Int) : List V := [.obj 1 [.none], .obj 1 [.str (Str.ofString "p:x")], .obj 1 [.int S]]
def spV (S : Int) : List V := [.none, .str (Str.ofString ""), .str (Str.ofString "u"), .int S]
def nameV : List V := [.str (Str.ofString "x"), .none, .str (Str.ofString "p:x"), .str (Str.ofString "")]
theorem get_mod {xs : List V} {m : Nat} (hm : xs.length = m) (h0 : 0 < m) (x : Int) : ∃ u, getI xs (x.fmod m) = some u ∧ u ∈ xs := by
  have h1 : 0 ≤ x.fmod m := Int.fmod_nonneg_of_pos x (by omega)
  have h2 : x.fmod m < m := Int.fmod_lt_of_pos x (by omega)
  obtain ⟨j, hj⟩ := Int.eq_ofNat_of_zero_le h1
  rw [hj] at h2 ⊢
  rw [getI_nat]
  have : j < xs.length := by omega
  exact ⟨xs[j], List.getElem?_eq_getElem this, List.getElem_mem this⟩
theorem inf_cls {S : Int} {u : V} (h : u ∈ infV S) : ∃ a, u = .obj 1 [a] := by
  simp only [infV, List.mem_cons, List.not_mem_nil, or_false] at h
  rcases h with rfl | rfl | rfl <;> exact ⟨_, rfl⟩
def L1 (nums : List Int) (iI iS iN iM : Nat) (B : HW) (n : Nat) (sl : Sl) (H : HW) : Prop :=
  ∃ x6 x7, sl = [some .script, some (.loc iI), some (.loc iS), some (.loc iN), some (.loc iM), some (.loc B.length), x6, x7, none, none, none, none] ∧ H = B ++ [.list (List.replicate n (.glob 67))]
theorem body10a {nums : List Int} {iI iS iN iM : Nat} {B : HW} {S : Int} (hg : c.gC 67 = some (0, 2)) (hI : lstAt B iI = some (infV S)) (hS : lstAt B iS = some (spV S)) (hN : lstAt B iN = some nameV) (hl : nums.length ≤ 100) {n : Nat} {v : V} (hv : (nums.map V.int)[n]? = some v) {sl : Sl} (i : L1 nums iI iS iN iM B n sl H)
    (R : Fl → Sl → HW → Prop) (hr : ∀ sl' H', L1 nums iI iS iN iM B (n + 1) sl' H' → R .next sl' H') : aName 6 v sl H fun sl₁ H₁ => lawB_b1 c sl₁ H₁ R := by
  have hn : n < nums.length := by have := (List.getElem?_eq_some_iff.mp hv).1; simpa using this
  rw [List.getElem?_map] at hv
  obtain ⟨x, hx, rfl⟩ := Option.map_eq_some_iff.mp hv
  obtain ⟨x6, x7, rfl, rfl⟩ := i
  have hI' := lstAt_ext (L := [.list (List.replicate n (.glob 67))]) hI
  have hS' := lstAt_ext (L := [.list (List.replicate n (.glob 67))]) hS
  have hN' := lstAt_ext (L := [.list (List.replicate n (.glob 67))]) hN
  obtain ⟨u1, g1, m1⟩ := get_mod (xs := infV S) (m := 3) rfl (by decide) x
  obtain ⟨a1, rfl⟩ := inf_cls m1
  obtain ⟨u2, g2, m2⟩ := get_mod (xs := spV S) (m := 4) rfl (by decide) (x.fdiv 3)
  obtain ⟨u3, g3, m3⟩ := get_mod (xs := nameV) (m := 4) rfl (by decide) (x.fdiv 12)
  obtain ⟨u4, g4, m4⟩ := get_mod (xs := infV S) (m := 3) rfl (by decide) (x.fdiv 2)
  obtain ⟨a4, rfl⟩ := inf_cls m4
  have l1 : (infV S).length ≤ 1000000 := by simp [infV]
  have l2 : (spV S).length ≤ 1000000 := by simp [spV]
  have l3 : nameV.length ≤ 1000000 := by decide
  rw [e_aName]
  unfold lawB_b1
  simp only [e_idxX, e_setI, e_setTX, e_aTupXT, e_dict0, e_kGlob2, e_kGlob3, e_lenS, e_gSlotO0, e_gSlotO1, e_gSlot1, e_mkEI, e_kFalse, e_slot, e_comp0, e_mul, e_eqXI, e_eqXS, e_neXI, e_neXL, e_pow, e_is, e_eqD, e_sum, e_minL, e_inI, e_tTrue, true_and, and_true, ne_eq, not_false_eq_true, Int.reduceEq, Nat.reduceLeDiff, Nat.reduceLT, reduceIte, Option.isSome_some, reduceCtorEq, Int.reduceBEq, Int.reduceNeg, Int.reduceLT, Nat.reduceAdd, Bool.false_eq_true, Bool.not_true, Bool.not_false, if_true, if_false, e_skip, e_isN, isN, id, e_mkTI, e_addI, e_addS, e_min, e_max, e_drop, e_append, e_pop, e_seq, e_setR, e_setT, e_list, e_tup, e_cons, e_meth, e_var, e_nil, e_idx, e_neg, e_k, e_set, e_aug, e_bin, e_mod, e_div, e_if, e_ret, e_and, e_or, e_not, e_tv, e_onI, e_call, e_aTupR, e_aTup, e_aName, e_gName, e_gNs, e_clsO, e_onone, e_osome, e_slice, List.getElem?_cons_zero, List.getElem?_cons_succ, List.set_cons_zero, List.set_cons_succ, List.length_cons, List.length_nil, List.reverse_cons, List.reverse_nil, List.nil_append, List.cons_append, e_setAll, e_setAll0, asL_loc]
  refine idx_lst hI' l1 g1 ⟨rfl, ?_⟩
  refine ⟨by decide, idx_lst hS' l2 g2 ⟨by decide, idx_lst hN' l3 g3 ?_⟩⟩
  refine ⟨by decide, idx_lst hI' l1 g4 ⟨rfl, by decide, idx_lst hN' l3 g3 ?_⟩⟩
  have ei : isV c (.glob 67) (.glob 67) = some true := by simp [isV]
  simp only [e_idxX, e_setI, e_setTX, e_aTupXT, e_dict0, e_kGlob2, e_kGlob3, e_lenS, e_gSlotO0, e_gSlotO1, e_gSlot1, e_mkEI, e_kFalse, e_slot, e_comp0, e_mul, e_eqXI, e_eqXS, e_neXI, e_neXL, e_pow, e_is, e_eqD, e_sum, e_minL, e_inI, e_tTrue, true_and, and_true, ne_eq, not_false_eq_true, Int.reduceEq, Nat.reduceLeDiff, Nat.reduceLT, reduceIte, Option.isSome_some, reduceCtorEq, Int.reduceBEq, Int.reduceNeg, Int.reduceLT, Nat.reduceAdd, Bool.false_eq_true, Bool.not_true, Bool.not_false, if_true, if_false, e_skip, e_isN, isN, id, e_mkTI, e_addI, e_addS, e_min, e_max, e_drop, e_append, e_pop, e_seq, e_setR, e_setT, e_list, e_tup, e_cons, e_meth, e_var, e_nil, e_idx, e_neg, e_k, e_set, e_aug, e_bin, e_mod, e_div, e_if, e_ret, e_and, e_or, e_not, e_tv, e_onI, e_call, e_aTupR, e_aTup, e_aName, e_gName, e_gNs, e_clsO, e_onone, e_osome, e_slice, List.getElem?_cons_zero, List.getElem?_cons_succ, List.set_cons_zero, List.set_cons_succ, List.length_cons, List.length_nil, List.reverse_cons, List.reverse_nil, List.nil_append, List.cons_append, e_setAll, e_setAll0, asL_loc, ei, lstAt_new]
  refine ⟨by simp; omega, hr _ _ ⟨_, _, rfl, ?_⟩⟩
  rw [List.replicate_succ']
  simp
/-! the second loop -/
def P10 (b : Nat) (k : Nat) : Prop := k ≠ b ∧ k ≠ b + 1 ∧ k ≠ b + 3
structure S2 (nums : List Int) (b : Nat) (B : HW) (n : Nat) (H : HW) : Prop where
  kp : ∀ k xs, lstAt B k = some xs → lstAt H k = some xs
  len : b + 4 ≤ H.length
  tr : ∃ tvs, lstAt H b = some tvs ∧ tvs.length = n + 1 ∧ tvs[0]? = some (.glob 67) ∧ ∀ (i : Nat) v, tvs[i]? = some v → Tr (P10 b) H v (treeAt nums i)
  dc : H[b + 1]? = some (.dict (dOf (dsAt nums n)))
  rw_ : ∃ rvs, lstAt H (b + 3) = some rvs ∧ rvs.length = n + 1 ∧ ∀ (i : Nat) v, rvs[i]? = some v → ∃ k, v = .loc k ∧ P10 b k ∧ lstAt H k = some ((treeAt nums i).row.map .int)
def L2 (nums : List Int) (iI iS iN iM iE : Nat) (B : HW) (n : Nat) (sl : Sl) (H : HW) : Prop :=
  (∃ x6 x7 x11, sl = [some .script, some (.loc iI), some (.loc iS), some (.loc iN), some (.loc iM), some (.loc iE), x6, x7, some (.loc B.length), some (.loc (B.length + 1)), some (.loc (B.length + 3)), x11]) ∧ S2 nums B.length B n H
theorem S2.ext {nums b B n H'} (s : S2 nums b B n H) (x : Ext H H') : S2 nums b B n H' := by
  obtain ⟨tvs, h1, h2, h3, h4⟩ := s.tr
  obtain ⟨rvs, r1, r2, r3⟩ := s.rw_
  refine ⟨fun k xs e => x.lst (s.kp k xs e), Nat.le_trans s.len x.len, ⟨tvs, x.lst h1, h2, h3, fun i v e => (h4 i v e).keep x.keepP⟩, x.at s.dc, ⟨rvs, x.lst r1, r2, fun i v e => ?_⟩⟩
  obtain ⟨k, e1, e2, e3⟩ := r3 i v e
  exact ⟨k, e1, e2, x.lst e3⟩
theorem body10b {nums : List Int} {iI iS iN iM iE : Nat} {B : HW} (hg : c.gC 67 = some (0, 2)) (hM : lstAt B iM = some (nums.map .int)) (hE : lstAt B iE = some (List.replicate nums.length (.glob 67))) (hl : nums.length ≤ 100) {n : Nat} {v : V} (hv : ((List.range nums.length).map natV)[n]? = some v) {sl : Sl} (i : L2 nums iI iS iN iM iE B n sl H)
    (R : Fl → Sl → HW → Prop) (hr : ∀ sl' H', L2 nums iI iS iN iM iE B (n + 1) sl' H' → R .next sl' H') : aName 11 v sl H fun sl₁ H₁ => lawB_b2 c (laidW 7) sl₁ H₁ R := by
  obtain ⟨hn, rfl⟩ := range_get hv
  obtain ⟨⟨x6, x7, x11, rfl⟩, s⟩ := i
  obtain ⟨tvs, t1, t2, t3, t4⟩ := s.tr
  have lM := s.kp _ _ hM
  have lE := s.kp _ _ hE
  have sl' := s.len
  have bM := lstAt_lt hM
  have bE := lstAt_lt hE
  have J := J_at nums n
  obtain ⟨x, hx⟩ : ∃ x, nums[n]? = some x := ⟨_, List.getElem?_eq_getElem hn⟩
  have hxV : (nums.map V.int)[n]? = some (.int x) := by rw [List.getElem?_map, hx]; rfl
  have heV : (List.replicate nums.length (V.glob 67))[n]? = some (.glob 67) := by rw [List.getElem?_replicate, if_pos hn]
  obtain ⟨tv, htv⟩ : ∃ tv, tvs[n]? = some tv := ⟨_, List.getElem?_eq_getElem (by omega)⟩
  rw [e_aName]
  unfold lawB_b2
  simp only [e_idxX, e_setI, e_setTX, e_aTupXT, e_dict0, e_kGlob2, e_kGlob3, e_lenS, e_gSlotO0, e_gSlotO1, e_gSlot1, e_mkEI, e_kFalse, e_slot, e_comp0, e_mul, e_eqXI, e_eqXS, e_neXI, e_neXL, e_pow, e_is, e_eqD, e_sum, e_minL, e_inI, e_tTrue, true_and, and_true, ne_eq, not_false_eq_true, Int.reduceEq, Nat.reduceLeDiff, Nat.reduceLT, reduceIte, Option.isSome_some, reduceCtorEq, Int.reduceBEq, Int.reduceNeg, Int.reduceLT, Nat.reduceAdd, Bool.false_eq_true, Bool.not_true, Bool.not_false, if_true, if_false, e_skip, e_isN, isN, id, e_mkTI, e_addI, e_addS, e_min, e_max, e_drop, e_append, e_pop, e_seq, e_setR, e_setT, e_list, e_tup, e_cons, e_meth, e_var, e_nil, e_idx, e_neg, e_k, e_set, e_aug, e_bin, e_mod, e_div, e_if, e_ret, e_and, e_or, e_not, e_tv, e_onI, e_call, e_aTupR, e_aTup, e_aName, e_gName, e_gNs, e_clsO, e_onone, e_osome, e_slice, List.getElem?_cons_zero, List.getElem?_cons_succ, List.set_cons_zero, List.set_cons_succ, List.length_cons, List.length_nil, List.reverse_cons, List.reverse_nil, List.nil_append, List.cons_append, e_setAll, e_setAll0, asL_loc, t1]
  refine idx_nat t1 (by omega) htv (idx_nat lE (by simp; omega) heV (idx_nat lM (by simp; omega) hxV ?_))
  refine ⟨P10 B.length, tv, x, treeAt nums n, rfl, fun k hk => ⟨by omega, by omega, by omega⟩, t4 n tv htv, by have := J.len; have := (treeAt nums n).depth_le; omega, fun v1 H1 e1 tr1 => ?_⟩
  have s1 := s.ext e1
  have T1 := e1.lst t1
  simp only [e_idxX, e_setI, e_setTX, e_aTupXT, e_dict0, e_kGlob2, e_kGlob3, e_lenS, e_gSlotO0, e_gSlotO1, e_gSlot1, e_mkEI, e_kFalse, e_slot, e_comp0, e_mul, e_eqXI, e_eqXS, e_neXI, e_neXL, e_pow, e_is, e_eqD, e_sum, e_minL, e_inI, e_tTrue, true_and, and_true, ne_eq, not_false_eq_true, Int.reduceEq, Nat.reduceLeDiff, Nat.reduceLT, reduceIte, Option.isSome_some, reduceCtorEq, Int.reduceBEq, Int.reduceNeg, Int.reduceLT, Nat.reduceAdd, Bool.false_eq_true, Bool.not_true, Bool.not_false, if_true, if_false, e_skip, e_isN, isN, id, e_mkTI, e_addI, e_addS, e_min, e_max, e_drop, e_append, e_pop, e_seq, e_setR, e_setT, e_list, e_tup, e_cons, e_meth, e_var, e_nil, e_idx, e_neg, e_k, e_set, e_aug, e_bin, e_mod, e_div, e_if, e_ret, e_and, e_or, e_not, e_tv, e_onI, e_call, e_aTupR, e_aTup, e_aName, e_gName, e_gNs, e_clsO, e_onone, e_osome, e_slice, List.getElem?_cons_zero, List.getElem?_cons_succ, List.set_cons_zero, List.set_cons_succ, List.length_cons, List.length_nil, List.reverse_cons, List.reverse_nil, List.nil_append, List.cons_append, e_setAll, e_setAll0, asL_loc, T1]
  refine ⟨by omega, ?_⟩
  obtain ⟨es1, es2⟩ := treeAt_succ hx
  have J' := J_at nums (n + 1)
  have l1 := s1.len
  have lM1 := s1.kp _ _ hM
  have lM2 : lstAt (H1.set B.length (.list (tvs ++ [v1]))) iM = some (nums.map .int) := by rw [lstAt_set_ne (by omega)]; exact lM1
  have dc2 : (H1.set B.length (.list (tvs ++ [v1])))[B.length + 1]? = some (.dict (dOf (dsAt nums n))) := by rw [List.getElem?_set_ne (by omega)]; exact s1.dc
  refine idx_nat lM2 (by simp; omega) hxV (idx_nat lM2 (by simp; omega) hxV ?_)
  rw [e_mod]
  refine ⟨by decide, st_dct dc2 (by unfold dOf; have := J.dlen; simp; omega) ?_⟩
  rw [show x.fmod 5 = mk5 x from rfl, dSet_dOf, ← es2]
  generalize hH2 : (H1.set B.length (.list (tvs ++ [v1]))) = H2 at *
  have l2 : H2.length = H1.length := by rw [← hH2]; simp
  have k12 : KeepP (P10 B.length) H1 H2 := by rw [← hH2]; exact .set fun h => h.1 rfl
  have k23 : KeepP (P10 B.length) H2 (H2.set (B.length + 1) (.dict (dOf (dsAt nums (n + 1))))) := .set fun h => h.2.1 rfl
  have T2 : lstAt H2 B.length = some (tvs ++ [v1]) := by rw [← hH2]; exact lstAt_set (by omega)
  have T3 : lstAt (H2.set (B.length + 1) (.dict (dOf (dsAt nums (n + 1))))) B.length = some (tvs ++ [v1]) := by rw [lstAt_set_ne (by omega)]; exact T2
  have D3 : (H2.set (B.length + 1) (.dict (dOf (dsAt nums (n + 1)))))[B.length + 1]? = some (.dict (dOf (dsAt nums (n + 1)))) := List.getElem?_set_self (by omega)
  obtain ⟨rvs, r1, r2, r3⟩ := s1.rw_
  have R3 : lstAt (H2.set (B.length + 1) (.dict (dOf (dsAt nums (n + 1))))) (B.length + 3) = some rvs := by rw [lstAt_set_ne (by omega), ← hH2, lstAt_set_ne (by omega)]; exact r1
  have l3 : (H2.set (B.length + 1) (.dict (dOf (dsAt nums (n + 1))))).length = H1.length := by simp [l2]
  generalize hH3 : (H2.set (B.length + 1) (.dict (dOf (dsAt nums (n + 1))))) = H3 at *
  rw [R3]
  refine ⟨rfl, ?_⟩
  refine comp_gen_map (xs := ((treeAt nums (n + 1)).row.map mk5).map .int) (f := fun v => match v with | .int j => (dGet (dOf (dsAt nums (n + 1))) j).getD .none | v => v) ?_ (by have := J'.len; simp; omega) ?_ ?_
  · intro R' h'
    simp only [e_idxX, e_setI, e_setTX, e_aTupXT, e_dict0, e_kGlob2, e_kGlob3, e_lenS, e_gSlotO0, e_gSlotO1, e_gSlot1, e_mkEI, e_kFalse, e_slot, e_comp0, e_mul, e_eqXI, e_eqXS, e_neXI, e_neXL, e_pow, e_is, e_eqD, e_sum, e_minL, e_inI, e_tTrue, true_and, and_true, ne_eq, not_false_eq_true, Int.reduceEq, Nat.reduceLeDiff, Nat.reduceLT, reduceIte, Option.isSome_some, reduceCtorEq, Int.reduceBEq, Int.reduceNeg, Int.reduceLT, Nat.reduceAdd, Bool.false_eq_true, Bool.not_true, Bool.not_false, if_true, if_false, e_skip, e_isN, isN, id, e_mkTI, e_addI, e_addS, e_min, e_max, e_drop, e_append, e_pop, e_seq, e_setR, e_setT, e_list, e_tup, e_cons, e_meth, e_var, e_nil, e_idx, e_neg, e_k, e_set, e_aug, e_bin, e_mod, e_div, e_if, e_ret, e_and, e_or, e_not, e_tv, e_onI, e_call, e_aTupR, e_aTup, e_aName, e_gName, e_gNs, e_clsO, e_onone, e_osome, e_slice, List.getElem?_cons_zero, List.getElem?_cons_succ, List.set_cons_zero, List.set_cons_succ, List.length_cons, List.length_nil, List.reverse_cons, List.reverse_nil, List.nil_append, List.cons_append, e_setAll, e_setAll0, asL_loc, e_sortD D3]
    refine ⟨by unfold dOf; have := J'.dlen; simp; omega, fun js hp hs => ?_⟩
    rw [J'.keys hp hs]
    exact h' _ _ .app lstAt_new
  · intro v mv H4 e4 R' h'
    obtain ⟨j, mj, rfl⟩ := List.mem_map.mp mv
    obtain ⟨y, my, rfl⟩ := List.mem_map.mp mj
    show wIdxX c.ns (wVar 1) (wVar 0) [some (.int (mk5 y)), some (.loc (B.length + 1))] H4 R'
    simp only [e_idxX, e_setI, e_setTX, e_aTupXT, e_dict0, e_kGlob2, e_kGlob3, e_lenS, e_gSlotO0, e_gSlotO1, e_gSlot1, e_mkEI, e_kFalse, e_slot, e_comp0, e_mul, e_eqXI, e_eqXS, e_neXI, e_neXL, e_pow, e_is, e_eqD, e_sum, e_minL, e_inI, e_tTrue, true_and, and_true, ne_eq, not_false_eq_true, Int.reduceEq, Nat.reduceLeDiff, Nat.reduceLT, reduceIte, Option.isSome_some, reduceCtorEq, Int.reduceBEq, Int.reduceNeg, Int.reduceLT, Nat.reduceAdd, Bool.false_eq_true, Bool.not_true, Bool.not_false, if_true, if_false, e_skip, e_isN, isN, id, e_mkTI, e_addI, e_addS, e_min, e_max, e_drop, e_append, e_pop, e_seq, e_setR, e_setT, e_list, e_tup, e_cons, e_meth, e_var, e_nil, e_idx, e_neg, e_k, e_set, e_aug, e_bin, e_mod, e_div, e_if, e_ret, e_and, e_or, e_not, e_tv, e_onI, e_call, e_aTupR, e_aTup, e_aName, e_gName, e_gNs, e_clsO, e_onone, e_osome, e_slice, List.getElem?_cons_zero, List.getElem?_cons_succ, List.set_cons_zero, List.set_cons_succ, List.length_cons, List.length_nil, List.reverse_cons, List.reverse_nil, List.nil_append, List.cons_append, e_setAll, e_setAll0, asL_loc]
    have g := J'.get my
    refine idx_dct (e4.at D3) g ?_
    simpa [g] using h'
  intro k4 H4 e4 y4 hk4
  have ef : List.map (fun v => match v with | .int j => (dGet (dOf (dsAt nums (n + 1))) j).getD .none | v => v) (((treeAt nums (n + 1)).row.map mk5).map V.int) = (treeAt nums (n + 1)).row.map .int := by
    rw [List.map_map, List.map_map]
    apply List.map_congr_left
    intro y my
    simp [J'.get my]
  rw [ef] at y4
  have R4 := e4.lst R3
  rw [R4]
  have l4 := e4.len
  have k45 : KeepP (P10 B.length) H4 (H4.set (B.length + 3) (.list (rvs ++ [.loc k4]))) := .set fun h => h.2.2 rfl
  have K : KeepP (P10 B.length) H1 (H4.set (B.length + 3) (.list (rvs ++ [.loc k4]))) := ((k12.trans k23).trans e4.keepP).trans k45
  refine ⟨by omega, hr _ _ ⟨⟨_, _, _, rfl⟩, fun k xs e => ?_, ?_, ⟨tvs ++ [v1], ?_, by simp; omega, ?_, fun i v e => ?_⟩, ?_, ⟨rvs ++ [.loc k4], lstAt_set (by omega), by simp; omega, fun i v e => ?_⟩⟩⟩
  · have := lstAt_lt e
    exact K.lst ⟨by omega, by omega, by omega⟩ (s1.kp k xs e)
  · simp; omega
  · rw [lstAt_set_ne (by omega)]; exact e4.lst T3
  · rw [List.getElem?_append_left (by omega)]; exact t3
  · by_cases hi : i < tvs.length
    · rw [List.getElem?_append_left hi] at e
      exact (t4 i v e).keep (e1.keepP.trans K)
    · rw [List.getElem?_append_right (by omega)] at e
      have : i - tvs.length = 0 := by
        cases q : i - tvs.length with
        | zero => rfl
        | succ j => rw [q] at e; simp at e
      rw [this] at e
      simp at e
      subst e
      have : i = n + 1 := by omega
      subst this
      rw [es1]
      exact tr1.keep K
  · rw [List.getElem?_set_ne (by omega)]; exact e4.at D3
  · by_cases hi : i < rvs.length
    · rw [List.getElem?_append_left hi] at e
      obtain ⟨k, a1, a2, a3⟩ := r3 i v e
      exact ⟨k, a1, a2, K.lst a2 a3⟩
    · rw [List.getElem?_append_right (by omega)] at e
      have : i - rvs.length = 0 := by
        cases q : i - rvs.length with
        | zero => rfl
        | succ j => rw [q] at e; simp at e
      rw [this] at e
      simp at e
      subst e
      have : i = n + 1 := by omega
      subst this
      have P4 : P10 B.length k4 := ⟨by omega, by omega, by omega⟩
      exact ⟨k4, rfl, P4, k45.lst P4 y4⟩
theorem for_lst {ns : List Int} {sl : Sl} {a : WE} {k : Nat} {xs : List V} {ta : WA} {b : WS} {Q : Fl → Sl → HW → Prop} (ha : ∀ R : V → HW → Prop, R (.loc k) H → a sl H R) (hk : lstAt H k = some xs)
    (h : wForGo ns (.list (.loc k) xs) ta b xs sl H Q) : wFor ns (iList ns a) ta b sl H Q := by
  rw [e_for, e_iList]
  refine ha _ ?_
  rw [asL_loc, hk]
  exact h
theorem dvs_rows {ns : List Int} : ∀ {vs : List V} {L : List (List Int)}, vs.length = L.length → (∀ (i : Nat) v, vs[i]? = some v → ∃ k r, v = .loc k ∧ L[i]? = some r ∧ lstAt H k = some (r.map .int)) → DVs ns H vs (L.map fun r => .list (r.map .int))
  | [], [], _, _ => .nil
  | [], _ :: _, h, _ => by simp at h
  | _ :: _, [], h, _ => by simp at h
  | v :: vs, r :: L, h, g => by
    obtain ⟨k, r', rfl, e, hk⟩ := g 0 v rfl
    simp at e
    subst e
    refine .cons (.list (by rw [asL_loc]; exact hk) (dvs_ints r)) (dvs_rows (by simpa using h) fun i v e => ?_)
    obtain ⟨k, r', a1, a2, a3⟩ := g (i + 1) v (by simpa using e)
    exact ⟨k, r', a1, by simpa using a2, a3⟩
theorem ints_lay (r : List Int) : PyData.canLayAll0 (r.map .int) = true ∧ PyData.depthAll (r.map .int) ≤ 1 := by
  induction r with
  | nil => exact ⟨rfl, by simp [PyData.depthAll]⟩
  | cons x r ih =>
    rw [List.map_cons]
    exact ⟨by rw [PyData.canLayAll0, ih.1]; rfl, by rw [PyData.depthAll]; have := ih.2; simp [PyData.depth]; omega⟩
theorem rows_lay (L : List (List Int)) : PyData.canLayAll0 (L.map fun r => .list (r.map .int)) = true ∧ PyData.depthAll (L.map fun r => .list (r.map .int)) ≤ 2 := by
  induction L with
  | nil => exact ⟨rfl, by simp [PyData.depthAll]⟩
  | cons r L ih =>
    have h := ints_lay r
    rw [List.map_cons]
    exact ⟨by rw [PyData.canLayAll0, PyData.canLay0, h.1, ih.1]; rfl, by rw [PyData.depthAll, PyData.depth]; have := ih.2; have := h.2; omega⟩
theorem law10 (hg : c.gC 67 = some (0, 2)) (hn : c.ns.length ≤ 63) {Q : Fl → Sl → HW → Prop} (q : ∀ sl H', Q (.ret (.bool true)) sl H') : lawB c (laidW 7) (rowW10 7) [some .script, none, none, none, none, none, none, none, none, none, none, none] [] Q := by
  unfold lawB
  rw [e_seq, e_set]
  refine comp_gen_map (xs := [.none, .str (Str.ofString "p:x"), .int c.ns.length]) (f := fun v => .obj 1 [v]) (fun R r => ?_) (by simp) (fun v _ H' _ R r => ?_) ?_
  · simp only [e_idxX, e_setI, e_setTX, e_aTupXT, e_dict0, e_kGlob2, e_kGlob3, e_lenS, e_gSlotO0, e_gSlotO1, e_gSlot1, e_mkEI, e_kFalse, e_slot, e_comp0, e_mul, e_eqXI, e_eqXS, e_neXI, e_neXL, e_pow, e_is, e_eqD, e_sum, e_minL, e_inI, e_tTrue, true_and, and_true, ne_eq, not_false_eq_true, Int.reduceEq, Nat.reduceLeDiff, Nat.reduceLT, reduceIte, Option.isSome_some, reduceCtorEq, Int.reduceBEq, Int.reduceNeg, Int.reduceLT, Nat.reduceAdd, Bool.false_eq_true, Bool.not_true, Bool.not_false, if_true, if_false, e_skip, e_isN, isN, id, e_mkTI, e_addI, e_addS, e_min, e_max, e_drop, e_append, e_pop, e_seq, e_setR, e_setT, e_list, e_tup, e_cons, e_meth, e_var, e_nil, e_idx, e_neg, e_k, e_set, e_aug, e_bin, e_mod, e_div, e_if, e_ret, e_and, e_or, e_not, e_tv, e_onI, e_call, e_aTupR, e_aTup, e_aName, e_gName, e_gNs, e_clsO, e_onone, e_osome, e_slice, List.getElem?_cons_zero, List.getElem?_cons_succ, List.set_cons_zero, List.set_cons_succ, List.length_cons, List.length_nil, List.reverse_cons, List.reverse_nil, List.nil_append, List.cons_append, e_setAll, e_setAll0, asL_loc]
    exact ⟨by omega, r _ _ ⟨_, rfl⟩ rfl⟩
  · simp only [e_idxX, e_setI, e_setTX, e_aTupXT, e_dict0, e_kGlob2, e_kGlob3, e_lenS, e_gSlotO0, e_gSlotO1, e_gSlot1, e_mkEI, e_kFalse, e_slot, e_comp0, e_mul, e_eqXI, e_eqXS, e_neXI, e_neXL, e_pow, e_is, e_eqD, e_sum, e_minL, e_inI, e_tTrue, true_and, and_true, ne_eq, not_false_eq_true, Int.reduceEq, Nat.reduceLeDiff, Nat.reduceLT, reduceIte, Option.isSome_some, reduceCtorEq, Int.reduceBEq, Int.reduceNeg, Int.reduceLT, Nat.reduceAdd, Bool.false_eq_true, Bool.not_true, Bool.not_false, if_true, if_false, e_skip, e_isN, isN, id, e_mkTI, e_addI, e_addS, e_min, e_max, e_drop, e_append, e_pop, e_seq, e_setR, e_setT, e_list, e_tup, e_cons, e_meth, e_var, e_nil, e_idx, e_neg, e_k, e_set, e_aug, e_bin, e_mod, e_div, e_if, e_ret, e_and, e_or, e_not, e_tv, e_onI, e_call, e_aTupR, e_aTup, e_aName, e_gName, e_gNs, e_clsO, e_onone, e_osome, e_slice, List.getElem?_cons_zero, List.getElem?_cons_succ, List.set_cons_zero, List.set_cons_succ, List.length_cons, List.length_nil, List.reverse_cons, List.reverse_nil, List.nil_append, List.cons_append, e_setAll, e_setAll0, asL_loc]
    exact r
  intro iI H1 x1 y1 _
  simp only [e_idxX, e_setI, e_setTX, e_aTupXT, e_dict0, e_kGlob2, e_kGlob3, e_lenS, e_gSlotO0, e_gSlotO1, e_gSlot1, e_mkEI, e_kFalse, e_slot, e_comp0, e_mul, e_eqXI, e_eqXS, e_neXI, e_neXL, e_pow, e_is, e_eqD, e_sum, e_minL, e_inI, e_tTrue, true_and, and_true, ne_eq, not_false_eq_true, Int.reduceEq, Nat.reduceLeDiff, Nat.reduceLT, reduceIte, Option.isSome_some, reduceCtorEq, Int.reduceBEq, Int.reduceNeg, Int.reduceLT, Nat.reduceAdd, Bool.false_eq_true, Bool.not_true, Bool.not_false, if_true, if_false, e_skip, e_isN, isN, id, e_mkTI, e_addI, e_addS, e_min, e_max, e_drop, e_append, e_pop, e_seq, e_setR, e_setT, e_list, e_tup, e_cons, e_meth, e_var, e_nil, e_idx, e_neg, e_k, e_set, e_aug, e_bin, e_mod, e_div, e_if, e_ret, e_and, e_or, e_not, e_tv, e_onI, e_call, e_aTupR, e_aTup, e_aName, e_gName, e_gNs, e_clsO, e_onone, e_osome, e_slice, List.getElem?_cons_zero, List.getElem?_cons_succ, List.set_cons_zero, List.set_cons_succ, List.length_cons, List.length_nil, List.reverse_cons, List.reverse_nil, List.nil_append, List.cons_append, e_setAll, e_setAll0, asL_loc, e_addS1 lstAt_new]
  refine ⟨by omega, by simp; omega, ?_⟩
  have hI : lstAt (H1 ++ [LO.list [V.none, V.str (Str.ofString ""), V.str (Str.ofString "u"), V.int ↑c.ns.length]] ++ [LO.list [V.str (Str.ofString "x"), V.none, V.str (Str.ofString "p:x"), V.str (Str.ofString "")]] ++ [LO.list [V.int 22, V.int 11, V.int 34, V.int 7, V.int 13]] ++ [LO.list (V.int 22 :: V.int 11 :: V.int 34 :: V.int 7 :: V.int 13 :: List.map V.int c.ns)]) iI = some (infV c.ns.length) := lstAt_ext (lstAt_ext (lstAt_ext (lstAt_ext y1)))
  have hS : lstAt (H1 ++ [LO.list [V.none, V.str (Str.ofString ""), V.str (Str.ofString "u"), V.int ↑c.ns.length]] ++ [LO.list [V.str (Str.ofString "x"), V.none, V.str (Str.ofString "p:x"), V.str (Str.ofString "")]] ++ [LO.list [V.int 22, V.int 11, V.int 34, V.int 7, V.int 13]] ++ [LO.list (V.int 22 :: V.int 11 :: V.int 34 :: V.int 7 :: V.int 13 :: List.map V.int c.ns)]) H1.length = some (spV c.ns.length) := lstAt_ext (lstAt_ext (lstAt_ext lstAt_new))
  have hN : lstAt (H1 ++ [LO.list [V.none, V.str (Str.ofString ""), V.str (Str.ofString "u"), V.int ↑c.ns.length]] ++ [LO.list [V.str (Str.ofString "x"), V.none, V.str (Str.ofString "p:x"), V.str (Str.ofString "")]] ++ [LO.list [V.int 22, V.int 11, V.int 34, V.int 7, V.int 13]] ++ [LO.list (V.int 22 :: V.int 11 :: V.int 34 :: V.int 7 :: V.int 13 :: List.map V.int c.ns)]) (H1 ++ [LO.list [V.none, V.str (Str.ofString ""), V.str (Str.ofString "u"), V.int ↑c.ns.length]]).length = some nameV := lstAt_ext (lstAt_ext lstAt_new)
  have hM : lstAt (H1 ++ [LO.list [V.none, V.str (Str.ofString ""), V.str (Str.ofString "u"), V.int ↑c.ns.length]] ++ [LO.list [V.str (Str.ofString "x"), V.none, V.str (Str.ofString "p:x"), V.str (Str.ofString "")]] ++ [LO.list [V.int 22, V.int 11, V.int 34, V.int 7, V.int 13]] ++ [LO.list (V.int 22 :: V.int 11 :: V.int 34 :: V.int 7 :: V.int 13 :: List.map V.int c.ns)]) (H1 ++ [LO.list [V.none, V.str (Str.ofString ""), V.str (Str.ofString "u"), V.int ↑c.ns.length]] ++ [LO.list [V.str (Str.ofString "x"), V.none, V.str (Str.ofString "p:x"), V.str (Str.ofString "")]] ++ [LO.list [V.int 22, V.int 11, V.int 34, V.int 7, V.int 13]]).length = some ((22 :: 11 :: 34 :: 7 :: 13 :: c.ns).map .int) := lstAt_new
  generalize hB : (H1 ++ [LO.list [V.none, V.str (Str.ofString ""), V.str (Str.ofString "u"), V.int ↑c.ns.length]] ++ [LO.list [V.str (Str.ofString "x"), V.none, V.str (Str.ofString "p:x"), V.str (Str.ofString "")]] ++ [LO.list [V.int 22, V.int 11, V.int 34, V.int 7, V.int 13]] ++ [LO.list (V.int 22 :: V.int 11 :: V.int 34 :: V.int 7 :: V.int 13 :: List.map V.int c.ns)]) = B at *
  generalize hiM : (H1 ++ [LO.list [V.none, V.str (Str.ofString ""), V.str (Str.ofString "u"), V.int ↑c.ns.length]] ++ [LO.list [V.str (Str.ofString "x"), V.none, V.str (Str.ofString "p:x"), V.str (Str.ofString "")]] ++ [LO.list [V.int 22, V.int 11, V.int 34, V.int 7, V.int 13]]).length = iM at *
  generalize hiN : (H1 ++ [LO.list [V.none, V.str (Str.ofString ""), V.str (Str.ofString "u"), V.int ↑c.ns.length]]).length = iN at *
  generalize hiS : List.length H1 = iS at *
  obtain ⟨nums, en⟩ : ∃ nums, nums = 22 :: 11 :: 34 :: 7 :: 13 :: c.ns := ⟨_, rfl⟩
  have nl : nums.length = c.ns.length + 5 := by rw [en]; rfl
  rw [← en] at hM
  clear hB hiM hiN hiS y1 x1
  refine for_lst (k := iM) (fun R r => r) (lstAt_ext hM) (for_inv (L1 nums iI iS iN iM B) (fun n sl H i => ?_) (fun n v sl H hv i R hr => body10a hg hI hS hN (by omega) hv i R hr) ?_ ⟨_, _, rfl, rfl⟩)
  · obtain ⟨_, _, _, rfl⟩ := i
    show asL c.ns _ (.loc iM) = some _
    rw [asL_loc]; exact lstAt_ext hM
  rintro sl2 H2 ⟨x6, x7, rfl, rfl⟩
  rw [List.length_map]
  have hM2 := lstAt_ext (L := [.list (List.replicate nums.length (.glob 67))]) hM
  have hI2 := lstAt_ext (L := [.list (List.replicate nums.length (.glob 67))]) hI
  have hE2 : lstAt (B ++ [.list (List.replicate nums.length (.glob 67))]) B.length = some (List.replicate nums.length (.glob 67)) := lstAt_new
  generalize hB2 : B ++ [.list (List.replicate nums.length (.glob 67))] = B2 at *
  generalize hiE : B.length = iE at *
  simp only [e_idxX, e_setI, e_setTX, e_aTupXT, e_dict0, e_kGlob2, e_kGlob3, e_lenS, e_gSlotO0, e_gSlotO1, e_gSlot1, e_mkEI, e_kFalse, e_slot, e_comp0, e_mul, e_eqXI, e_eqXS, e_neXI, e_neXL, e_pow, e_is, e_eqD, e_sum, e_minL, e_inI, e_tTrue, true_and, and_true, ne_eq, not_false_eq_true, Int.reduceEq, Nat.reduceLeDiff, Nat.reduceLT, reduceIte, Option.isSome_some, reduceCtorEq, Int.reduceBEq, Int.reduceNeg, Int.reduceLT, Nat.reduceAdd, Bool.false_eq_true, Bool.not_true, Bool.not_false, if_true, if_false, e_skip, e_isN, isN, id, e_mkTI, e_addI, e_addS, e_min, e_max, e_drop, e_append, e_pop, e_seq, e_setR, e_setT, e_list, e_tup, e_cons, e_meth, e_var, e_nil, e_idx, e_neg, e_k, e_set, e_aug, e_bin, e_mod, e_div, e_if, e_ret, e_and, e_or, e_not, e_tv, e_onI, e_call, e_aTupR, e_aTup, e_aName, e_gName, e_gNs, e_clsO, e_onone, e_osome, e_slice, List.getElem?_cons_zero, List.getElem?_cons_succ, List.set_cons_zero, List.set_cons_succ, List.length_cons, List.length_nil, List.reverse_cons, List.reverse_nil, List.nil_append, List.cons_append, e_setAll, e_setAll0, asL_loc]
  refine idx_lst hE2 (by simp; omega) (u := .glob 67) ?_ ?_
  · have := getI_nat (xs := List.replicate nums.length (V.glob 67)) (k := 0)
    rw [List.getElem?_replicate, if_pos (by omega)] at this
    exact this
  simp only [List.length_append, List.length_cons, List.length_nil, List.append_assoc, List.cons_append, List.nil_append, Nat.zero_add, Nat.add_assoc, Nat.reduceAdd]
  refine for_range (m := nums.length) (fun R r => ?_) (by omega) (for_inv (L2 nums iI iS iN iM iE B2) (by intros; exact trivial) (fun n v sl H hv i R hr => body10b hg hM2 hE2 (by omega) hv i R hr) ?_ ?_)
  · simp only [e_idxX, e_setI, e_setTX, e_aTupXT, e_dict0, e_kGlob2, e_kGlob3, e_lenS, e_gSlotO0, e_gSlotO1, e_gSlot1, e_mkEI, e_kFalse, e_slot, e_comp0, e_mul, e_eqXI, e_eqXS, e_neXI, e_neXL, e_pow, e_is, e_eqD, e_sum, e_minL, e_inI, e_tTrue, true_and, and_true, ne_eq, not_false_eq_true, Int.reduceEq, Nat.reduceLeDiff, Nat.reduceLT, reduceIte, Option.isSome_some, reduceCtorEq, Int.reduceBEq, Int.reduceNeg, Int.reduceLT, Nat.reduceAdd, Bool.false_eq_true, Bool.not_true, Bool.not_false, if_true, if_false, e_skip, e_isN, isN, id, e_mkTI, e_addI, e_addS, e_min, e_max, e_drop, e_append, e_pop, e_seq, e_setR, e_setT, e_list, e_tup, e_cons, e_meth, e_var, e_nil, e_idx, e_neg, e_k, e_set, e_aug, e_bin, e_mod, e_div, e_if, e_ret, e_and, e_or, e_not, e_tv, e_onI, e_call, e_aTupR, e_aTup, e_aName, e_gName, e_gNs, e_clsO, e_onone, e_osome, e_slice, List.getElem?_cons_zero, List.getElem?_cons_succ, List.set_cons_zero, List.set_cons_succ, List.length_cons, List.length_nil, List.reverse_cons, List.reverse_nil, List.nil_append, List.cons_append, e_setAll, e_setAll0, asL_loc, e_len (lstAt_ext hM2)]
    refine ⟨by simp; omega, ?_⟩
    simpa using r
  rotate_left
  · refine ⟨⟨_, _, _, rfl⟩, fun k xs e => lstAt_ext e, by simp, ⟨[.glob 67], ?_, rfl, rfl, fun i v e => ?_⟩, ?_, ⟨[.loc (B2.length + 2)], ?_, rfl, fun i v e => ?_⟩⟩
    · unfold lstAt; simp
    · cases i with
      | zero => simp at e; subst e; exact .leaf
      | succ i => simp at e
    · simp [dsAt, dOf]
    · unfold lstAt; simp
    · cases i with
      | zero => simp at e; subst e; exact ⟨_, rfl, ⟨by omega, by omega, by omega⟩, by unfold lstAt; simp [treeAt, BN.row]⟩
      | succ i => simp at e
  rintro sl3 H3 ⟨⟨y6, y7, y11, rfl⟩, s3⟩
  rw [List.length_map, List.length_range] at s3
  simp only [e_idxX, e_setI, e_setTX, e_aTupXT, e_dict0, e_kGlob2, e_kGlob3, e_lenS, e_gSlotO0, e_gSlotO1, e_gSlot1, e_mkEI, e_kFalse, e_slot, e_comp0, e_mul, e_eqXI, e_eqXS, e_neXI, e_neXL, e_pow, e_is, e_eqD, e_sum, e_minL, e_inI, e_tTrue, true_and, and_true, ne_eq, not_false_eq_true, Int.reduceEq, Nat.reduceLeDiff, Nat.reduceLT, reduceIte, Option.isSome_some, reduceCtorEq, Int.reduceBEq, Int.reduceNeg, Int.reduceLT, Nat.reduceAdd, Bool.false_eq_true, Bool.not_true, Bool.not_false, if_true, if_false, e_skip, e_isN, isN, id, e_mkTI, e_addI, e_addS, e_min, e_max, e_drop, e_append, e_pop, e_seq, e_setR, e_setT, e_list, e_tup, e_cons, e_meth, e_var, e_nil, e_idx, e_neg, e_k, e_set, e_aug, e_bin, e_mod, e_div, e_if, e_ret, e_and, e_or, e_not, e_tv, e_onI, e_call, e_aTupR, e_aTup, e_aName, e_gName, e_gNs, e_clsO, e_onone, e_osome, e_slice, List.getElem?_cons_zero, List.getElem?_cons_succ, List.set_cons_zero, List.set_cons_succ, List.length_cons, List.length_nil, List.reverse_cons, List.reverse_nil, List.nil_append, List.cons_append, e_setAll, e_setAll0, asL_loc]
  obtain ⟨tvs, t1, t2, t3, t4⟩ := s3.tr
  obtain ⟨rvs, r1, r2, r3⟩ := s3.rw_
  have hE3 := s3.kp _ _ hE2
  have hI3 := s3.kp _ _ hI2
  refine comp_lst (k := B2.length) (xs := tvs) (fun R r => r) t1 (by omega) (comp_invT (all := tvs) (fun n ys H => Ext H3 H ∧ ys.length = n ∧ ∀ (i : Nat) v, ys[i]? = some v → ∃ k, v = .loc k ∧ lstAt H k = some ((treeAt nums i).row.map .int)) ?_ ?_ ⟨.refl _, rfl, fun i v e => by simp at e⟩ ?_)
  · intro n ys H i
    show asL c.ns _ (.loc _) = some _
    rw [asL_loc]; exact i.1.lst t1
  · rintro n v ys H hv ⟨ex, hy, hr⟩ R' hR
    show wCall _ _ [some v, some (.loc iE)] H R'
    simp only [e_idxX, e_setI, e_setTX, e_aTupXT, e_dict0, e_kGlob2, e_kGlob3, e_lenS, e_gSlotO0, e_gSlotO1, e_gSlot1, e_mkEI, e_kFalse, e_slot, e_comp0, e_mul, e_eqXI, e_eqXS, e_neXI, e_neXL, e_pow, e_is, e_eqD, e_sum, e_minL, e_inI, e_tTrue, true_and, and_true, ne_eq, not_false_eq_true, Int.reduceEq, Nat.reduceLeDiff, Nat.reduceLT, reduceIte, Option.isSome_some, reduceCtorEq, Int.reduceBEq, Int.reduceNeg, Int.reduceLT, Nat.reduceAdd, Bool.false_eq_true, Bool.not_true, Bool.not_false, if_true, if_false, e_skip, e_isN, isN, id, e_mkTI, e_addI, e_addS, e_min, e_max, e_drop, e_append, e_pop, e_seq, e_setR, e_setT, e_list, e_tup, e_cons, e_meth, e_var, e_nil, e_idx, e_neg, e_k, e_set, e_aug, e_bin, e_mod, e_div, e_if, e_ret, e_and, e_or, e_not, e_tv, e_onI, e_call, e_aTupR, e_aTup, e_aName, e_gName, e_gNs, e_clsO, e_onone, e_osome, e_slice, List.getElem?_cons_zero, List.getElem?_cons_succ, List.set_cons_zero, List.set_cons_succ, List.length_cons, List.length_nil, List.reverse_cons, List.reverse_nil, List.nil_append, List.cons_append, e_setAll, e_setAll0, asL_loc]
    refine idx_last (ex.lst hE3) (by simp; omega) (u := .glob 67) (by rw [List.getLast?_replicate, if_neg (by omega)]) ?_
    have J := J_at nums n
    refine ⟨P10 B2.length, v, treeAt nums n, rfl, (t4 n v hv).keep ex.keepP, by have := J.len; have := (treeAt nums n).depth_le; omega, by have := J.len; omega, fun k H' e' y' => hR _ _ ⟨ex.trans e', by simp; omega, fun i u e => ?_⟩⟩
    by_cases hi : i < ys.length
    · rw [List.getElem?_append_left hi] at e
      obtain ⟨k', a1, a2⟩ := hr i u e
      exact ⟨k', a1, e'.lst a2⟩
    · rw [List.getElem?_append_right (by omega)] at e
      have : i - ys.length = 0 := by
        cases q : i - ys.length with
        | zero => rfl
        | succ j => rw [q] at e; simp at e
      rw [this] at e
      simp at e
      subst e
      have : i = n := by omega
      subst this
      exact ⟨k, rfl, y'⟩
  rintro ys H4 ⟨ex4, hy, hr⟩
  obtain ⟨L, eL⟩ : ∃ L : List (List Int), L = (List.range (nums.length + 1)).map fun i => (treeAt nums i).row := ⟨_, rfl⟩
  have Ll : L.length = nums.length + 1 := by rw [eL]; simp
  have La : ∀ i : Nat, i < nums.length + 1 → L[i]? = some (treeAt nums i).row := fun i hi => by rw [eL, List.getElem?_map, List.getElem?_range hi]; rfl
  obtain ⟨o1, o2⟩ := rows_lay L
  have cl : (PyData.list (L.map fun r => .list (r.map .int))).canLay0 = true := by rw [PyData.canLay0]; exact o1
  have sh : SeqAt.shaped (.list (L.map fun r => .list (r.map .int))) = true := by
    unfold SeqAt.shaped
    rw [cl, Bool.true_and, decide_eq_true_iff, PyData.depth]
    omega
  have D1 : DVs c.ns (H4 ++ [LO.list ys]) ys (L.map fun r => .list (r.map .int)) := dvs_rows (by omega) fun i v e => by
    obtain ⟨k, a1, a2⟩ := hr i v e
    have := (List.getElem?_eq_some_iff.mp e).1
    exact ⟨k, _, a1, La i (by omega), lstAt_ext a2⟩
  have D2 : DVs c.ns (H4 ++ [LO.list ys]) rvs (L.map fun r => .list (r.map .int)) := dvs_rows (by omega) fun i v e => by
    obtain ⟨k, a1, _, a2⟩ := r3 i v e
    have := (List.getElem?_eq_some_iff.mp e).1
    exact ⟨k, _, a1, La i (by omega), lstAt_ext (ex4.lst a2)⟩
  have T4 : lstAt (H4 ++ [LO.list ys]) B2.length = some tvs := lstAt_ext (ex4.lst t1)
  have g0 : getI tvs 0 = some (.glob 67) := by
    have := getI_nat (xs := tvs) (k := 0)
    rw [t3] at this
    exact this
  have cg : ∀ H : HW, clsV c H (.glob 67) = some 0 := fun H => by simp [clsV, hg]
  have in_ : isV c .none .none = some true := rfl
  refine ⟨_, _, .list (by rw [asL_loc]; exact lstAt_new) D1, .list (by rw [asL_loc]; exact lstAt_ext (ex4.lst r1)) D2, ⟨sh, sh⟩, ?_⟩
  rw [eqv_self cl, if_neg (by decide)]
  refine idx_lst T4 (by omega) g0 ⟨cg _, ?_⟩
  rw [e_gSlotG hg (by decide)]
  simp only [e_idxX, e_setI, e_setTX, e_aTupXT, e_dict0, e_kGlob2, e_kGlob3, e_lenS, e_gSlotO0, e_gSlotO1, e_gSlot1, e_mkEI, e_kFalse, e_slot, e_comp0, e_mul, e_eqXI, e_eqXS, e_neXI, e_neXL, e_pow, e_is, e_eqD, e_sum, e_minL, e_inI, e_tTrue, true_and, and_true, ne_eq, not_false_eq_true, Int.reduceEq, Nat.reduceLeDiff, Nat.reduceLT, reduceIte, Option.isSome_some, reduceCtorEq, Int.reduceBEq, Int.reduceNeg, Int.reduceLT, Nat.reduceAdd, Bool.false_eq_true, Bool.not_true, Bool.not_false, if_true, if_false, e_skip, e_isN, isN, id, e_mkTI, e_addI, e_addS, e_min, e_max, e_drop, e_append, e_pop, e_seq, e_setR, e_setT, e_list, e_tup, e_cons, e_meth, e_var, e_nil, e_idx, e_neg, e_k, e_set, e_aug, e_bin, e_mod, e_div, e_if, e_ret, e_and, e_or, e_not, e_tv, e_onI, e_call, e_aTupR, e_aTup, e_aName, e_gName, e_gNs, e_clsO, e_onone, e_osome, e_slice, List.getElem?_cons_zero, List.getElem?_cons_succ, List.set_cons_zero, List.set_cons_succ, List.length_cons, List.length_nil, List.reverse_cons, List.reverse_nil, List.nil_append, List.cons_append, e_setAll, e_setAll0, asL_loc, in_]
  refine idx_lst T4 (by omega) g0 ⟨cg _, ?_⟩
  rw [e_gSlotG hg (by decide)]
  simp only [e_idxX, e_setI, e_setTX, e_aTupXT, e_dict0, e_kGlob2, e_kGlob3, e_lenS, e_gSlotO0, e_gSlotO1, e_gSlot1, e_mkEI, e_kFalse, e_slot, e_comp0, e_mul, e_eqXI, e_eqXS, e_neXI, e_neXL, e_pow, e_is, e_eqD, e_sum, e_minL, e_inI, e_tTrue, true_and, and_true, ne_eq, not_false_eq_true, Int.reduceEq, Nat.reduceLeDiff, Nat.reduceLT, reduceIte, Option.isSome_some, reduceCtorEq, Int.reduceBEq, Int.reduceNeg, Int.reduceLT, Nat.reduceAdd, Bool.false_eq_true, Bool.not_true, Bool.not_false, if_true, if_false, e_skip, e_isN, isN, id, e_mkTI, e_addI, e_addS, e_min, e_max, e_drop, e_append, e_pop, e_seq, e_setR, e_setT, e_list, e_tup, e_cons, e_meth, e_var, e_nil, e_idx, e_neg, e_k, e_set, e_aug, e_bin, e_mod, e_div, e_if, e_ret, e_and, e_or, e_not, e_tv, e_onI, e_call, e_aTupR, e_aTup, e_aName, e_gName, e_gNs, e_clsO, e_onone, e_osome, e_slice, List.getElem?_cons_zero, List.getElem?_cons_succ, List.set_cons_zero, List.set_cons_succ, List.length_cons, List.length_nil, List.reverse_cons, List.reverse_nil, List.nil_append, List.cons_append, e_setAll, e_setAll0, asL_loc, in_]
  refine comp_lst_map (k := iI) (xs := infV c.ns.length) (f := fun v => match v with | .obj 1 [a] => a | v => v) (fun R r => r) (lstAt_ext (ex4.lst hI3)) (by simp [infV]) (fun v mv R r => ?_) ?_
  · obtain ⟨a, rfl⟩ := inf_cls mv
    simp only [e_idxX, e_setI, e_setTX, e_aTupXT, e_dict0, e_kGlob2, e_kGlob3, e_lenS, e_gSlotO0, e_gSlotO1, e_gSlot1, e_mkEI, e_kFalse, e_slot, e_comp0, e_mul, e_eqXI, e_eqXS, e_neXI, e_neXL, e_pow, e_is, e_eqD, e_sum, e_minL, e_inI, e_tTrue, true_and, and_true, ne_eq, not_false_eq_true, Int.reduceEq, Nat.reduceLeDiff, Nat.reduceLT, reduceIte, Option.isSome_some, reduceCtorEq, Int.reduceBEq, Int.reduceNeg, Int.reduceLT, Nat.reduceAdd, Bool.false_eq_true, Bool.not_true, Bool.not_false, if_true, if_false, e_skip, e_isN, isN, id, e_mkTI, e_addI, e_addS, e_min, e_max, e_drop, e_append, e_pop, e_seq, e_setR, e_setT, e_list, e_tup, e_cons, e_meth, e_var, e_nil, e_idx, e_neg, e_k, e_set, e_aug, e_bin, e_mod, e_div, e_if, e_ret, e_and, e_or, e_not, e_tv, e_onI, e_call, e_aTupR, e_aTup, e_aName, e_gName, e_gNs, e_clsO, e_onone, e_osome, e_slice, List.getElem?_cons_zero, List.getElem?_cons_succ, List.set_cons_zero, List.set_cons_succ, List.length_cons, List.length_nil, List.reverse_cons, List.reverse_nil, List.nil_append, List.cons_append, e_setAll, e_setAll0, asL_loc, slotV]
    exact r
  intro k5 H5 e5 y5 _
  have cl2 : (PyData.list [.none, .str (Str.ofString "p:x"), .int c.ns.length]).canLay0 = true := by
    have : PyData.canLay0 (.str (Str.ofString "p:x")) = true := by decide +kernel
    rw [PyData.canLay0, PyData.canLayAll0, PyData.canLayAll0, this]; rfl
  have sh2 : SeqAt.shaped (.list [.none, .str (Str.ofString "p:x"), .int c.ns.length]) = true := by
    unfold SeqAt.shaped
    rw [cl2, Bool.true_and, decide_eq_true_iff]
    simp [PyData.depth, PyData.depthAll]
  refine ⟨by omega, _, _, .list (by rw [asL_loc]; exact lstAt_ext y5) (.cons .none (.cons .str (.cons .int .nil))), .list (by rw [asL_loc]; exact lstAt_new) (.cons .none (.cons .str (.cons .int .nil))), ⟨sh2, sh2⟩, ?_⟩
  rw [eqv_self cl2]
  exact q _ _
end
end Mine

namespace Mine
set_option maxHeartbeats 8000000 in
open_top hd10 for PySem.Challenge.rw_dn0274_10
end Mine

namespace Mine
noncomputable abbrev cx10 (w : World) (h₀ : Heap) (mg mb : Str → Option Value) (aS : Addr) (vs : List Value) (ns : List Int) : Cx :=
  { prog := Challenge.rw_dn0274_10.row.prog, w := w, h₀ := h₀, mg := mg, mb := mb, K := hd10.heap_39 w.params, aS := aS, vs := vs, ns := ns, cls := fun k => if k = 0 then 61 else 143, gC := fun a => if a = 67 then some (0, 2) else none }
section
variable {w : World} {h₀ : Heap} {mg mb : Str → Option Value} {aS : Addr} {vs : List Value} {ns : List Int} {d : Nat} {sc : Scope} {ρ : List Str}
theorem slot_name (G : Good (cx10 w h₀ mg mb aS vs ns)) {o pos a} (ho : Ev (cx10 w h₀ mg mb aS vs ns) d sc ρ o a)
    (he : ∀ env, eval (.Attribute o (Str.ofString "name") pos) env = (eval o env >>= fun ov => standAt pos.atName >>= fun _ => holding [ov] (getAttr ov (Str.ofString "name") true) >>= fun r => pure r)) :
    Ev (cx10 w h₀ mg mb aS vs ns) d sc ρ (.Attribute o (Str.ofString "name") pos) (wSlot (cx10 w h₀ mg mb aS vs ns) 0 0 a) :=
  ev_slot (k := 0) (i := 0) (p := 62) G ho (by kernel_rfl) (by kernel_rfl) (by kernel_rfl) (by kernel_rfl) (by kernel_rfl) (by kernel_rfl) he
theorem set_name (G : Good (cx10 w h₀ mg mb aS vs ns)) {o ap e pos a b} (ho : Ev (cx10 w h₀ mg mb aS vs ns) d sc ρ o a) (he : Ev (cx10 w h₀ mg mb aS vs ns) d sc ρ e b)
    (hw : ∀ env, swapsWith e (some (.Attribute o (Str.ofString "name") ap)) pos.line env = pure false) : Ex (cx10 w h₀ mg mb aS vs ns) d sc ρ (.Assign [.Attribute o (Str.ofString "name") ap] e pos) (wSetAttr 0 0 a b) :=
  ex_setattr (k := 0) (i := 0) (p := 62) G ho he (by kernel_rfl) (by kernel_rfl) (by kernel_rfl) (by kernel_rfl) (by kernel_rfl) (by decide) hw
theorem slot_ns (G : Good (cx10 w h₀ mg mb aS vs ns)) {o pos a} (ho : Ev (cx10 w h₀ mg mb aS vs ns) d sc ρ o a)
    (he : ∀ env, eval (.Attribute o (Str.ofString "namespace") pos) env = (eval o env >>= fun ov => standAt pos.atName >>= fun _ => holding [ov] (getAttr ov (Str.ofString "namespace") true) >>= fun r => pure r)) :
    Ev (cx10 w h₀ mg mb aS vs ns) d sc ρ (.Attribute o (Str.ofString "namespace") pos) (wSlot (cx10 w h₀ mg mb aS vs ns) 0 1 a) :=
  ev_slot (k := 0) (i := 1) (p := 63) G ho (by kernel_rfl) (by kernel_rfl) (by kernel_rfl) (by kernel_rfl) (by kernel_rfl) (by kernel_rfl) he
theorem set_ns (G : Good (cx10 w h₀ mg mb aS vs ns)) {o ap e pos a b} (ho : Ev (cx10 w h₀ mg mb aS vs ns) d sc ρ o a) (he : Ev (cx10 w h₀ mg mb aS vs ns) d sc ρ e b)
    (hw : ∀ env, swapsWith e (some (.Attribute o (Str.ofString "namespace") ap)) pos.line env = pure false) : Ex (cx10 w h₀ mg mb aS vs ns) d sc ρ (.Assign [.Attribute o (Str.ofString "namespace") ap] e pos) (wSetAttr 0 1 a b) :=
  ex_setattr (k := 0) (i := 1) (p := 63) G ho he (by kernel_rfl) (by kernel_rfl) (by kernel_rfl) (by kernel_rfl) (by kernel_rfl) (by decide) hw
theorem slot_tag (G : Good (cx10 w h₀ mg mb aS vs ns)) {o pos a} (ho : Ev (cx10 w h₀ mg mb aS vs ns) d sc ρ o a)
    (he : ∀ env, eval (.Attribute o (Str.ofString "tagName") pos) env = (eval o env >>= fun ov => standAt pos.atName >>= fun _ => holding [ov] (getAttr ov (Str.ofString "tagName") true) >>= fun r => pure r)) :
    Ev (cx10 w h₀ mg mb aS vs ns) d sc ρ (.Attribute o (Str.ofString "tagName") pos) (wSlot (cx10 w h₀ mg mb aS vs ns) 1 0 a) :=
  ev_slot (k := 1) (i := 0) (p := 144) G ho (by kernel_rfl) (by kernel_rfl) (by kernel_rfl) (by kernel_rfl) (by kernel_rfl) (by kernel_rfl) he
theorem set_tag (G : Good (cx10 w h₀ mg mb aS vs ns)) {o ap e pos a b} (ho : Ev (cx10 w h₀ mg mb aS vs ns) d sc ρ o a) (he : Ev (cx10 w h₀ mg mb aS vs ns) d sc ρ e b)
    (hw : ∀ env, swapsWith e (some (.Attribute o (Str.ofString "tagName") ap)) pos.line env = pure false) : Ex (cx10 w h₀ mg mb aS vs ns) d sc ρ (.Assign [.Attribute o (Str.ofString "tagName") ap] e pos) (wSetAttr 1 0 a b) :=
  ex_setattr (k := 1) (i := 0) (p := 144) G ho he (by kernel_rfl) (by kernel_rfl) (by kernel_rfl) (by kernel_rfl) (by kernel_rfl) (by decide) hw
theorem g_nt (G : Good (cx10 w h₀ mg mb aS vs ns)) {np} (hk : sc.kind = .function) (hx : sc.names.lookup (Str.ofString "_no_type") = some .globalImplicit) : Ev (cx10 w h₀ mg mb aS vs ns) d sc ρ (.Name (Str.ofString "_no_type") np) (wK (.glob 67)) :=
  ev_glob G hk hx (by kernel_rfl) (by rfl) (by decide)
local macro_rules | `(tactic| tb_rel) => `(tactic| repeat' (first
  | with_reducible exact at0
  | with_reducible exact exs_nil
  | with_reducible exact evs_nil
  | with_reducible exact ev_none
  | with_reducible exact ev_bool
  | with_reducible refine' atS ?_
  | with_reducible refine' exs_cons ?_ ?_
  | with_reducible refine' evs_cons ?_ ?_ (fun _ => rfl)
  | ((with_reducible refine' ev_local ?_ ?a rfl (by decide)); (case a => exact rfl))
  | with_reducible refine' ex_ret ?_
  | ((with_reducible refine' slot_name (by assumption) ?_ ?he); (case he => exact fun _ => rfl))
  | ((with_reducible refine' set_name (by assumption) ?_ ?_ ?he); (case he => exact fun _ => rfl))
  | ((with_reducible refine' slot_ns (by assumption) ?_ ?he); (case he => exact fun _ => rfl))
  | ((with_reducible refine' set_ns (by assumption) ?_ ?_ ?he); (case he => exact fun _ => rfl))
  | ((with_reducible refine' slot_tag (by assumption) ?_ ?he); (case he => exact fun _ => rfl))
  | ((with_reducible refine' set_tag (by assumption) ?_ ?_ ?he); (case he => exact fun _ => rfl))
  | ((with_reducible refine' g_nt (by assumption) rfl ?a); (case a => exact rfl))))
theorem get_name (G : Good (cx10 w h₀ mg mb aS vs ns)) {d} : FnC (cx10 w h₀ mg mb aS vs ns) (d + 1) (.ref 50) (gSlot (cx10 w h₀ mg mb aS vs ns) 0 0) := by
  refine' FnC.weaken (fn_ok (W := _) (ps := [Str.ofString "self"]) (rest := []) G (G.X 50 _ rfl) rfl (codeRec_of G.X (by kernel_rfl)) rfl rfl ?hb rfl rfl rfl rfl rfl ?nd ?kd ?ex) ?k
  case hb => intro vals hl; match vals, hl with | [a], _ => rfl
  case nd => decide
  case kd => decide
  case ex =>
    dsimp only [List.append_nil, List.cons_append, List.nil_append]
    tb_rel
  case k =>
    intro args H Q h
    obtain ⟨v, rfl, h1, h2⟩ := gSlot_of h
    exact ⟨rfl, h1, by rw [slotIs_def] at h2; revert h2; cases slotV (cx10 w h₀ mg mb aS vs ns) H 0 v <;> exact fun h => h⟩
theorem get_ns (G : Good (cx10 w h₀ mg mb aS vs ns)) {d} : FnC (cx10 w h₀ mg mb aS vs ns) (d + 1) (.ref 57) (gSlot (cx10 w h₀ mg mb aS vs ns) 0 1) := by
  refine' FnC.weaken (fn_ok (W := _) (ps := [Str.ofString "self"]) (rest := []) G (G.X 57 _ rfl) rfl (codeRec_of G.X (by kernel_rfl)) rfl rfl ?hb rfl rfl rfl rfl rfl ?nd ?kd ?ex) ?k
  case hb => intro vals hl; match vals, hl with | [a], _ => rfl
  case nd => decide
  case kd => decide
  case ex =>
    dsimp only [List.append_nil, List.cons_append, List.nil_append]
    tb_rel
  case k =>
    intro args H Q h
    obtain ⟨v, rfl, h1, h2⟩ := gSlot_of h
    exact ⟨rfl, h1, by rw [slotIs_def] at h2; revert h2; cases slotV (cx10 w h₀ mg mb aS vs ns) H 1 v <;> exact fun h => h⟩
theorem ti_init (G : Good (cx10 w h₀ mg mb aS vs ns)) {d} : FnC (cx10 w h₀ mg mb aS vs ns) (d + 1) (.ref 36) (fun args H Q => match args with | [.loc j, a, b] => H[j]? = some (.inst 0 []) ∧ Q .none (H.set j (.inst 0 [some b, some a])) | _ => False) := by
  refine' FnC.weaken (fn_ok (W := _) (ps := [Str.ofString "self", Str.ofString "namespace", Str.ofString "name"]) (rest := []) G (G.X 36 _ rfl) rfl (codeRec_of G.X (by kernel_rfl)) rfl rfl ?hb rfl rfl rfl rfl rfl ?nd ?kd ?ex) ?k
  case hb => intro vals hl; match vals, hl with | [a, b, c], _ => rfl
  case nd => decide
  case kd => decide
  case ex =>
    dsimp only [List.append_nil, List.cons_append, List.nil_append]
    tb_rel
  case k =>
    intro args H Q h
    split at h
    · rename_i j a b
      have hl : j < H.length := (List.getElem?_eq_some_iff.mp h.1).1
      obtain ⟨h1, h2⟩ := h
      simp only [fnW, wSeq, wSetAttr, wVar, wSkip]
      refine ⟨rfl, ?_⟩
      simp [h1, List.getElem?_set_self hl, setF, retV, h2]
    · exact h.elim
theorem ti_make (G : Good (cx10 w h₀ mg mb aS vs ns)) {d} : FnC (cx10 w h₀ mg mb aS vs ns) (d + 1 + 1) (.ref 61) mkTI := by
  refine (make_fr (k := 0) G (by kernel_rfl) (by kernel_rfl) (by kernel_rfl) (ti_init G)).weaken fun args H Q h => ?_
  simp only [mkTI] at h
  split at h
  · rename_i a b
    refine ⟨by simp, rfl, [b, a], by simp, by simp, h⟩
  · exact h.elim
theorem ei_init (G : Good (cx10 w h₀ mg mb aS vs ns)) {d} : FnC (cx10 w h₀ mg mb aS vs ns) (d + 1) (.ref 83) (fun args H Q => match args with | [.loc j, a] => H[j]? = some (.inst 1 []) ∧ Q .none (H.set j (.inst 1 [some a])) | _ => False) := by
  refine' FnC.weaken (fn_ok (W := _) (ps := [Str.ofString "self", Str.ofString "name"]) (rest := []) G (G.X 83 _ rfl) rfl (codeRec_of G.X (by kernel_rfl)) rfl rfl ?hb rfl rfl rfl rfl rfl ?nd ?kd ?ex) ?k
  case hb => intro vals hl; match vals, hl with | [a, b], _ => rfl
  case nd => decide
  case kd => decide
  case ex =>
    dsimp only [List.append_nil, List.cons_append, List.nil_append]
    tb_rel
  case k =>
    intro args H Q h
    split at h
    · rename_i j a
      have hl : j < H.length := (List.getElem?_eq_some_iff.mp h.1).1
      obtain ⟨h1, h2⟩ := h
      simp only [fnW, wSeq, wSetAttr, wVar, wSkip]
      refine ⟨rfl, ?_⟩
      simp [h1, List.getElem?_set_self hl, setF, retV, h2]
    · exact h.elim
theorem ei_make (G : Good (cx10 w h₀ mg mb aS vs ns)) {d} : FnC (cx10 w h₀ mg mb aS vs ns) (d + 1 + 1) (.ref 143) (mkEI 1) := by
  refine (make_fr (k := 1) G (by kernel_rfl) (by kernel_rfl) (by kernel_rfl) (ei_init G)).weaken fun args H Q h => ?_
  simp only [mkEI] at h
  split at h
  · rename_i a
    refine ⟨by simp, rfl, [a], by simp, by simp, h⟩
  · exact h.elim
theorem ei_type (G : Good (cx10 w h₀ mg mb aS vs ns)) {d} : FnC (cx10 w h₀ mg mb aS vs ns) (d + 1) (.ref 90) (kGlob 2 67) := by
  refine' FnC.weaken (fn_ok (W := _) (ps := [Str.ofString "self", Str.ofString "aname"]) (rest := []) G (G.X 90 _ rfl) rfl (codeRec_of G.X (by kernel_rfl)) rfl rfl ?hb rfl rfl rfl rfl rfl ?nd ?kd ?ex) ?k
  case hb => intro vals hl; match vals, hl with | [a, b], _ => rfl
  case nd => decide
  case kd => decide
  case ex =>
    dsimp only [List.append_nil, List.cons_append, List.nil_append]
    tb_rel
  case k =>
    exact fun args H Q h => ⟨h.1, h.2⟩
theorem ei_typens (G : Good (cx10 w h₀ mg mb aS vs ns)) {d} : FnC (cx10 w h₀ mg mb aS vs ns) (d + 1) (.ref 97) (kGlob 3 67) := by
  refine' FnC.weaken (fn_ok (W := _) (ps := [Str.ofString "self", Str.ofString "namespaceURI", Str.ofString "localName"]) (rest := []) G (G.X 97 _ rfl) rfl (codeRec_of G.X (by kernel_rfl)) rfl rfl ?hb rfl rfl rfl rfl rfl ?nd ?kd ?ex) ?k
  case hb => intro vals hl; match vals, hl with | [a, b, c], _ => rfl
  case nd => decide
  case kd => decide
  case ex =>
    dsimp only [List.append_nil, List.cons_append, List.nil_append]
    tb_rel
  case k =>
    exact fun args H Q h => ⟨h.1, h.2⟩
theorem m_name (G : Good (cx10 w h₀ mg mb aS vs ns)) {o apos pos a} {pl : Env → Sem Bool} (ho : Ev (cx10 w h₀ mg mb aS vs ns) (d + 1) sc ρ o a) 
    (he : ∀ env, eval (.Call (.Attribute o (Str.ofString "_get_name") apos) [] [] pos) env = (do
      let ov ← eval o env
      standAt apos.atName
      let (f, first) ← holding [ov] (getMethod ov (Str.ofString "_get_name") (pl env))
      callWith pos f first (backTo pos (starEach [] env)) (backToKw pos (keywordEach [] env)))) : Ev (cx10 w h₀ mg mb aS vs ns) (d + 1) sc ρ (.Call (.Attribute o (Str.ofString "_get_name") apos) [] [] pos) (wMeth (cx10 w h₀ mg mb aS vs ns) 0 (gSlot (cx10 w h₀ mg mb aS vs ns) 0 0) a wNil) :=
  ev_meth (k := 0) (f := 50) G ho evs_nil (get_name G).ok (by kernel_rfl) (by kernel_rfl) (by kernel_rfl) (by kernel_rfl) he
theorem m_ns (G : Good (cx10 w h₀ mg mb aS vs ns)) {o apos pos a} {pl : Env → Sem Bool} (ho : Ev (cx10 w h₀ mg mb aS vs ns) (d + 1) sc ρ o a) 
    (he : ∀ env, eval (.Call (.Attribute o (Str.ofString "_get_namespace") apos) [] [] pos) env = (do
      let ov ← eval o env
      standAt apos.atName
      let (f, first) ← holding [ov] (getMethod ov (Str.ofString "_get_namespace") (pl env))
      callWith pos f first (backTo pos (starEach [] env)) (backToKw pos (keywordEach [] env)))) : Ev (cx10 w h₀ mg mb aS vs ns) (d + 1) sc ρ (.Call (.Attribute o (Str.ofString "_get_namespace") apos) [] [] pos) (wMeth (cx10 w h₀ mg mb aS vs ns) 0 (gSlot (cx10 w h₀ mg mb aS vs ns) 0 1) a wNil) :=
  ev_meth (k := 0) (f := 57) G ho evs_nil (get_ns G).ok (by kernel_rfl) (by kernel_rfl) (by kernel_rfl) (by kernel_rfl) he
theorem m_type (G : Good (cx10 w h₀ mg mb aS vs ns)) {o apos pos a} {pl : Env → Sem Bool} (ho : Ev (cx10 w h₀ mg mb aS vs ns) (d + 1) sc ρ o a) {args as} (ha : Evs (cx10 w h₀ mg mb aS vs ns) (d + 1) sc ρ args as) 
    (he : ∀ env, eval (.Call (.Attribute o (Str.ofString "getAttributeType") apos) args [] pos) env = (do
      let ov ← eval o env
      standAt apos.atName
      let (f, first) ← holding [ov] (getMethod ov (Str.ofString "getAttributeType") (pl env))
      callWith pos f first (backTo pos (starEach args env)) (backToKw pos (keywordEach [] env)))) : Ev (cx10 w h₀ mg mb aS vs ns) (d + 1) sc ρ (.Call (.Attribute o (Str.ofString "getAttributeType") apos) args [] pos) (wMeth (cx10 w h₀ mg mb aS vs ns) 1 (kGlob 2 67) a as) :=
  ev_meth (k := 1) (f := 90) G ho ha (ei_type G).ok (by kernel_rfl) (by kernel_rfl) (by kernel_rfl) (by kernel_rfl) he
theorem m_typens (G : Good (cx10 w h₀ mg mb aS vs ns)) {o apos pos a} {pl : Env → Sem Bool} (ho : Ev (cx10 w h₀ mg mb aS vs ns) (d + 1) sc ρ o a) {args as} (ha : Evs (cx10 w h₀ mg mb aS vs ns) (d + 1) sc ρ args as) 
    (he : ∀ env, eval (.Call (.Attribute o (Str.ofString "getAttributeTypeNS") apos) args [] pos) env = (do
      let ov ← eval o env
      standAt apos.atName
      let (f, first) ← holding [ov] (getMethod ov (Str.ofString "getAttributeTypeNS") (pl env))
      callWith pos f first (backTo pos (starEach args env)) (backToKw pos (keywordEach [] env)))) : Ev (cx10 w h₀ mg mb aS vs ns) (d + 1) sc ρ (.Call (.Attribute o (Str.ofString "getAttributeTypeNS") apos) args [] pos) (wMeth (cx10 w h₀ mg mb aS vs ns) 1 (kGlob 3 67) a as) :=
  ev_meth (k := 1) (f := 97) G ho ha (ei_typens G).ok (by kernel_rfl) (by kernel_rfl) (by kernel_rfl) (by kernel_rfl) he
theorem c_ti (G : Good (cx10 w h₀ mg mb aS vs ns)) {np args pos as} (ha : Evs (cx10 w h₀ mg mb aS vs ns) (d + 1 + 1) sc ρ args as) (hk : sc.kind = .function) (hx : sc.names.lookup (Str.ofString "TypeInfo") = some .globalImplicit) : Ev (cx10 w h₀ mg mb aS vs ns) (d + 1 + 1) sc ρ (.Call (.Name (Str.ofString "TypeInfo") np) args [] pos) (wCall mkTI as) :=
  ev_fn G (ti_make G) ha hk hx (by kernel_rfl) (by kernel_rfl) (by decide)
theorem c_ei (G : Good (cx10 w h₀ mg mb aS vs ns)) {np args pos as} (ha : Evs (cx10 w h₀ mg mb aS vs ns) (d + 1 + 1) sc ρ args as) (hk : sc.kind = .function) (hx : sc.names.lookup (Str.ofString "ElementInfo") = some .globalImplicit) : Ev (cx10 w h₀ mg mb aS vs ns) (d + 1 + 1) sc ρ (.Call (.Name (Str.ofString "ElementInfo") np) args [] pos) (wCall (mkEI 1) as) :=
  ev_fn G (ei_make G) ha hk hx (by kernel_rfl) (by kernel_rfl) (by decide)
theorem c_laid (G : Good (cx10 w h₀ mg mb aS vs ns)) {np args pos as W} (hf : FnC (cx10 w h₀ mg mb aS vs ns) d (.ref 153) W) (ha : Evs (cx10 w h₀ mg mb aS vs ns) d sc ρ args as) (hk : sc.kind = .function) (hx : sc.names.lookup (Str.ofString "_law_laid") = some .globalImplicit) : Ev (cx10 w h₀ mg mb aS vs ns) d sc ρ (.Call (.Name (Str.ofString "_law_laid") np) args [] pos) (wCall W as) :=
  ev_fn G hf ha hk hx (by kernel_rfl) (by kernel_rfl) (by decide)
theorem c_row (G : Good (cx10 w h₀ mg mb aS vs ns)) {np args pos as W} (hf : FnC (cx10 w h₀ mg mb aS vs ns) d (.ref 160) W) (ha : Evs (cx10 w h₀ mg mb aS vs ns) d sc ρ args as) (hk : sc.kind = .function) (hx : sc.names.lookup (Str.ofString "_law_row") = some .globalImplicit) : Ev (cx10 w h₀ mg mb aS vs ns) d sc ρ (.Call (.Name (Str.ofString "_law_row") np) args [] pos) (wCall W as) :=
  ev_fn G hf ha hk hx (by kernel_rfl) (by kernel_rfl) (by decide)
theorem c_len (G : Good (cx10 w h₀ mg mb aS vs ns)) {np args pos as} (ha : Evs (cx10 w h₀ mg mb aS vs ns) d sc ρ args as) (hk : sc.kind = .function) (hx : sc.names.lookup (Str.ofString "len") = some .globalImplicit) : Ev (cx10 w h₀ mg mb aS vs ns) d sc ρ (.Call (.Name (Str.ofString "len") np) args [] pos) (wCall (bLen ns) as) :=
  ev_callB G hk hx (mgNo G (by kernel_rfl)) ((G.BB _ (by decide)).trans (by kernel_rfl)) (by decide) (len_ok G) ha
theorem c_sorted (G : Good (cx10 w h₀ mg mb aS vs ns)) {np args pos as} (ha : Evs (cx10 w h₀ mg mb aS vs ns) d sc ρ args as) (hk : sc.kind = .function) (hx : sc.names.lookup (Str.ofString "sorted") = some .globalImplicit) : Ev (cx10 w h₀ mg mb aS vs ns) d sc ρ (.Call (.Name (Str.ofString "sorted") np) args [] pos) (wCall bSortD as) :=
  ev_callB G hk hx (mgNo G (by kernel_rfl)) ((G.BB _ (by decide)).trans (by kernel_rfl)) (by decide) sortD_ok ha
theorem c_range1 (G : Good (cx10 w h₀ mg mb aS vs ns)) {np pos e a} (he : Ev (cx10 w h₀ mg mb aS vs ns) d sc ρ e a) (hs : ∀ env, starEach [e] env = [(false, eval e env)]) (hk : sc.kind = .function) (hx : sc.names.lookup (Str.ofString "range") = some .globalImplicit) : Ei (cx10 w h₀ mg mb aS vs ns) d sc ρ (.Call (.Name (Str.ofString "range") np) [e] [] pos) (iRange1 a) :=
  ei_range1 G hk hx (mgNo G (by kernel_rfl)) ((G.BB _ (by decide)).trans (by kernel_rfl)) (by decide) he hs
local macro_rules | `(tactic| tb_start) => `(tactic| repeat' (first
  | with_reducible exact at0
  | with_reducible refine' atS ?_
  | ((with_reducible show Ev _ _ _ _ _ _); first
    | with_reducible exact ev_none
    | with_reducible exact ev_int
    | with_reducible exact ev_bool
    | with_reducible exact ev_str
    | ((with_reducible refine' ev_local ?_ ?a rfl (by decide)); (case a => exact rfl))
    | ((with_reducible refine' ev_cell ?_ ?a rfl (by decide)); (case a => exact rfl))
    | with_reducible refine' ev_list ?_
    | with_reducible refine' ev_tup ?_
    | with_reducible refine' ev_neg ?_
    | with_reducible refine' ev_bin sub_ok ?_ ?_
    | with_reducible refine' ev_bin (addV_ok (by assumption)) ?_ ?_
    | with_reducible refine' ev_bin mod_ok ?_ ?_
    | with_reducible refine' ev_bin div_ok ?_ ?_
    | with_reducible refine' ev_bin mul_ok ?_ ?_
    | ((with_reducible refine' ev_append ?_ ?_ ?b ?he); (case b => exact fun _ => rfl); (case he => exact fun _ => rfl))
    | ((with_reducible refine' m_name (by assumption) ?_ ?he); (case he => exact fun _ => rfl))
    | ((with_reducible refine' m_ns (by assumption) ?_ ?he); (case he => exact fun _ => rfl))
    | ((with_reducible refine' m_type (by assumption) ?_ ?_ ?he); (case he => exact fun _ => rfl))
    | ((with_reducible refine' m_typens (by assumption) ?_ ?_ ?he); (case he => exact fun _ => rfl))
    | ((with_reducible refine' slot_tag (by assumption) ?_ ?he); (case he => exact fun _ => rfl))
    | ((with_reducible refine' c_ti (by assumption) ?_ rfl ?a); (case a => exact rfl))
    | ((with_reducible refine' c_ei (by assumption) ?_ rfl ?a); (case a => exact rfl))
    | ((with_reducible refine' c_laid (by assumption) (by assumption) ?_ rfl ?a); (case a => exact rfl))
    | ((with_reducible refine' c_row (by assumption) (by assumption) ?_ rfl ?a); (case a => exact rfl))
    | ((with_reducible refine' c_len (by assumption) ?_ rfl ?a); (case a => exact rfl))
    | ((with_reducible refine' c_sorted (by assumption) ?_ rfl ?a); (case a => exact rfl))
    | ((with_reducible refine' g_nt (by assumption) rfl ?a); (case a => exact rfl))
    | with_reducible exact ev_dict0
    | ((with_reducible refine' ev_idxX (by assumption) ?_ ?_ ?b); (case b => exact fun _ _ => rfl))
    | ((with_reducible refine' ev_cmp (eqD_ok (by assumption)) ?_ ?_ ?hm); (case hm => with_unfolding_all rfl))
    | ((with_reducible refine' ev_comp (by assumption) ⟨rfl, rfl, ?nc, ?lc, ?nm, ?fe, ?nd, ?fr⟩ ?_ ?_ ?_ ?hs); (case nc => decide); (case lc => rfl); (case nm => decide); (case fe => decide); (case hs => exact fun _ _ => rfl); (case fr => (repeat' (first | with_reducible exact frs_nil | ((with_reducible refine' frs_free ?_ ?_ ?a); (case a => rfl)) | with_reducible refine' frs_local ?_ | with_reducible refine' frs_glob ?_ | with_reducible refine' frs_cell ?_ | with_reducible exact at0 | with_reducible refine' atS ?_))); (case nd => decide)))
  | ((with_reducible show Evs _ _ _ _ _ _); first
    | with_reducible exact evs_nil
    | with_reducible refine' evs_cons ?_ ?_ (fun _ => rfl))
  | ((with_reducible show Et _ _ _ _ _ _); first
    | with_reducible refine' et_and ?_ ?_
    | with_reducible refine' et_or ?_ ?_
    | with_reducible refine' et_cmp (is_ok (by assumption)) ?_ ?_
    | with_reducible refine' et_cmp (isnot_ok (by assumption)) ?_ ?_
    | with_reducible refine' et_cmp lt_okI ?_ ?_
    | with_reducible refine' et_cmp gt_okI ?_ ?_
    | with_reducible refine' et_cmp (neD_ok (by assumption)) ?_ ?_
    | with_reducible refine' et_tv ?_ (fun _ _ => rfl))
  | ((with_reducible show Ets _ _ _ _ _ _); first
    | with_reducible exact ets_nil
    | with_reducible refine' ets_one ?_)
  | ((with_reducible show Ei _ _ _ _ _ _); first
    | ((with_reducible refine' c_range1 (by assumption) ?_ ?hs rfl ?a); (case hs => exact fun _ => rfl); (case a => exact rfl))
    | ((with_reducible refine' ei_list (by assumption) ?_)))
  | ((with_reducible show Ex _ _ _ _ _ _); first
    | ((with_reducible refine' ex_set ?_ ?_ (.inl ?a) rfl ?b); (case a => exact rfl); (case b => exact fun _ => rfl))
    | ((with_reducible refine' ex_set ?_ ?_ (.inr ?a) rfl ?b); (case a => exact rfl); (case b => exact fun _ => rfl))
    | ((with_reducible refine' ex_setC (by assumption) ⟨rfl, rfl, ?nc, ?lc, ?nm, ?fe, ?nd, ?fr⟩ ?_ ?_ ?_ ?_ ?hs ?hl ?sw); (case nc => decide); (case lc => rfl); (case nm => decide); (case fe => decide); (case hs => exact fun _ _ => rfl); (case hl => rfl); (case sw => (intro env he; unfold swapsWith Env.blockKind Env.kindOf; rw [he]; rfl)); (case fr => (repeat' (first | with_reducible exact frs_nil | ((with_reducible refine' frs_free ?_ ?_ ?a); (case a => rfl)) | with_reducible refine' frs_local ?_ | with_reducible refine' frs_glob ?_ | with_reducible refine' frs_cell ?_ | with_reducible exact at0 | with_reducible refine' atS ?_))); (case nd => decide))
    | ((with_reducible refine' ex_setI ?_ ?_ ?_ ?sw); (case sw => exact fun _ => rfl))
    | ((with_reducible refine' ex_setTX (by assumption) ?_ ?_ rfl rfl ?b ?sw); (case b => exact fun _ => rfl); (case sw => (intro env he; first | rfl | (unfold swappedStores Env.blockKind Env.kindOf; rw [he]; rfl))))
    | ((with_reducible refine' ex_for (by assumption) ?_ ?_ ?_ ?_ ?fs); (case fs => exact fun _ _ => rfl))
    | with_reducible refine' ex_ret ?_
    | with_reducible refine' ex_if ?_ ?_ ?_
    | ((with_reducible refine' ex_expr ?_ rfl ?b); (case b => exact fun _ => rfl)))
  | ((with_reducible show Exs _ _ _ _ _ _); first
    | with_reducible exact exs_nil
    | with_reducible refine' exs_cons ?_ ?_)
  | with_reducible exact lot_name
  | ((with_reducible show Slots _ _ _ _); first | exact slots_nil | (refine' slots_cons ?_ ?_ (.inl ?a); (case a => exact rfl)) | (refine' slots_cons ?_ ?_ (.inr ?a); (case a => exact rfl)))
  | ((with_reducible refine' at_name ?_ (.inl ?a) rfl); (case a => exact rfl))
  | ((with_reducible refine' at_name ?_ (.inr ?a) rfl); (case a => exact rfl))
  ))
set_option maxHeartbeats 4000000 in
theorem laid_step (G : Good (cx10 w h₀ mg mb aS vs ns)) {m : Nat} (hL : FnC (cx10 w h₀ mg mb aS vs ns) (d + 1 + 1) (.ref 153) (laidW m)) : FnC (cx10 w h₀ mg mb aS vs ns) (d + 1 + 1 + 1) (.ref 153) (laidW (m + 1)) := by
  refine' FnC.weaken (fn_ok (W := _) (ps := [Str.ofString "node", Str.ofString "end", Str.ofString "x"]) (rest := [Str.ofString "low", Str.ofString "high", Str.ofString "mark"]) G (G.X 153 _ rfl) rfl (codeRec_of G.X (by kernel_rfl)) rfl rfl ?hb rfl rfl rfl rfl rfl ?nd ?kd ?ex) ?k
  case hb => intro vals hl; match vals, hl with | [a, b, c], _ => rfl
  case nd => decide
  case kd => decide
  case ex =>
    dsimp only [List.append_nil, List.cons_append, List.nil_append]
    tb_start
  case k =>
    exact fun args H Q h => laid_plain (c := (cx10 w h₀ mg mb aS vs ns)) rfl h
set_option maxHeartbeats 4000000 in
theorem row_step (G : Good (cx10 w h₀ mg mb aS vs ns)) {m : Nat} (hR : FnC (cx10 w h₀ mg mb aS vs ns) (d + 1 + 1) (.ref 160) (rowW10 m)) : FnC (cx10 w h₀ mg mb aS vs ns) (d + 1 + 1 + 1) (.ref 160) (rowW10 (m + 1)) := by
  refine' FnC.weaken (fn_ok (W := _) (ps := [Str.ofString "node", Str.ofString "end"]) (rest := [Str.ofString "low", Str.ofString "high"]) G (G.X 160 _ rfl) rfl (codeRec_of G.X (by kernel_rfl)) rfl rfl ?hb rfl rfl rfl rfl rfl ?nd ?kd ?ex) ?k
  case hb => intro vals hl; match vals, hl with | [a, b], _ => rfl
  case nd => decide
  case kd => decide
  case ex =>
    dsimp only [List.append_nil, List.cons_append, List.nil_append]
    tb_start
  case k =>
    exact fun args H Q h => row_plain (c := (cx10 w h₀ mg mb aS vs ns)) rfl h
theorem laid_all (G : Good (cx10 w h₀ mg mb aS vs ns)) : ∀ (m : Nat), ∀ e, FnC (cx10 w h₀ mg mb aS vs ns) (m + e + 1 + 1) (.ref 153) (laidW m)
  | 0, e => fun A s φ H args vals Q R ao ok r w => by obtain ⟨_, _, _, _, _, _, _, h, _⟩ := w; exact absurd h (Nat.not_lt_zero _)
  | m + 1, e => by
    have := laid_step (d := m + e) G (laid_all G m e)
    rw [show m + 1 + e + 1 + 1 = m + e + 1 + 1 + 1 by omega]
    exact this
theorem row_all (G : Good (cx10 w h₀ mg mb aS vs ns)) : ∀ (m : Nat), ∀ e, FnC (cx10 w h₀ mg mb aS vs ns) (m + e + 1 + 1) (.ref 160) (rowW10 m)
  | 0, e => fun A s φ H args vals Q R ao ok r w => by obtain ⟨_, _, _, _, _, h, _⟩ := w; exact absurd h (Nat.not_lt_zero _)
  | m + 1, e => by
    have := row_step (d := m + e) G (row_all G m e)
    rw [show m + 1 + e + 1 + 1 = m + e + 1 + 1 + 1 by omega]
    exact this
set_option maxHeartbeats 4000000 in
theorem law_step (G : Good (cx10 w h₀ mg mb aS vs ns)) (hL : FnC (cx10 w h₀ mg mb aS vs ns) 9 (.ref 153) (laidW 7)) (hR : FnC (cx10 w h₀ mg mb aS vs ns) 9 (.ref 160) (rowW10 7)) : FnC (cx10 w h₀ mg mb aS vs ns) (10) (.ref 165) (fun args H Q => args = [.script] ∧ H = [] ∧ ns.length ≤ 63 ∧ ∀ H', Q (.bool true) H') := by
  refine' FnC.weaken (fn_ok (W := _) (ps := [Str.ofString "script"]) (rest := [Str.ofString "infos", Str.ofString "spaces", Str.ofString "names", Str.ofString "numbers", Str.ofString "ends", Str.ofString "x", Str.ofString "told", Str.ofString "trees", Str.ofString "last", Str.ofString "rows", Str.ofString "k"]) G (G.X 165 _ rfl) rfl (codeRec_of G.X (by kernel_rfl)) rfl rfl ?hb rfl rfl rfl rfl rfl ?nd ?kd ?ex) ?k
  case hb => intro vals hl; match vals, hl with | [a], _ => rfl
  case nd => decide
  case kd => decide
  case ex =>
    dsimp only [List.append_nil, List.cons_append, List.nil_append]
    tb_start
  case k =>
    rintro args H Q ⟨rfl, rfl, hn, q⟩
    exact ⟨rfl, law10 (c := (cx10 w h₀ mg mb aS vs ns)) rfl hn fun _ H' => q H'⟩
theorem law_ok (G : Good (cx10 w h₀ mg mb aS vs ns)) : FnC (cx10 w h₀ mg mb aS vs ns) 10 (.ref 165) (fun args H Q => args = [.script] ∧ H = [] ∧ ns.length ≤ 63 ∧ ∀ H', Q (.bool true) H') := law_step G (laid_all G 7 0) (row_all G 7 0)
end
end Mine

open Mine
set_option maxHeartbeats 8000000 in
theorem PySem.Challenge.cw_dn0274_10_holds : PySem.Challenge.rw_dn0274_10.Holds := by
  refine Mine.hd10 ?_
  intro w s₀ s₁ mg mb G Y fa o pm cd doc dV kV ho hd hcd hD hmg hg args vals as hpre hlay hrd hwl hlo
  have KX := kIn_of Y
  refine Ground.open G ?_
  intro T B D TE TW
  wrow_args hpre hlay hrd hwl hlo
  all_goals (
    first | refine callC_kw (enter_call ?_) | refine enter_call ?_ | refine callC_kw (enter_callW ?_) | refine enter_callW ?_ | w_how
    w_top on
    try refine codeAny_mono ?_ (fun _ _ g => GoodW.toG g))
  clear hd hcd hD
  rename_i ns _ _ _ _ _ _ _ aS vals _ hL _ _ _ hI _ hlen _
  have hG : Good (cx10 w s₁.heap mg mb aS vals ns) := ⟨T.g, T.b, T.nolimit, KX, T.builtins, hL, hI, fun a k n e => by
    have e' : (if a = 67 then some ((0 : Nat), (2 : Nat)) else none) = some (k, n) := e
    split at e'
    · rename_i q
      cases e'
      subst q
      exact ⟨66, KX 67 _ (by kernel_rfl), KX 66 _ (by kernel_rfl)⟩
    · cases e'⟩
  have h165 : mg (Str.ofString "law") = some (.ref 165) := mg_of KX T.g (by kernel_rfl)
  have efa : fa = 165 := by
    have := hmg.symm.trans h165
    cases this; rfl
  subst efa
  refine law_ok hG callerA s₁ ⟨[], []⟩ [] [.script] [.ref aS] (fun v _ => v = .bool true) _ ⟨rfl, by decide, by decide⟩ ⟨fun _ _ e => e, fun _ _ _ h => (nomatch h), rfl, List.nodup_nil, fun k a lo e => by simp at e, fun _ h => (nomatch h), fun _ h => (nomatch h), (let ⟨o, _, _, ho, _⟩ := T.g; ⟨o, ho⟩), fun _ h => (nomatch h)⟩ (.cons .script .nil) ⟨rfl, rfl, by omega, fun _ => rfl⟩ fun x s' p => ?_
  obtain ⟨v, H, φ', rfl, ok, rv, g, r⟩ := p
  cases rv
  obtain ⟨h', t', rfl⟩ := r
  exact ⟨.inl ⟨.bool true, .bool true, [], rfl, fun cls => rfl, .bool true, by first | kernel_rfl | (show (decide _) = true; simp) | trace_state, unshared_nil⟩, ok.base, rfl, hg⟩
