import PyProof.Rows.All
import Wide.All
import OpenK.AllK
import Wide.FinOn
import PySem.Challenge.RW_dn0274_01
open PySem PySem.W PyProof.Rows
set_option Elab.async false
set_option linter.all false
set_option maxRecDepth 100000
namespace Mine

/-- abstract values -/
inductive V where
  | none
  | bool (b : Bool)
  | int (i : Int)
  | str (s : Str)
  | loc (k : Nat)
  | tup (vs : List V)
  | obj (c : Nat) (fs : List V)
  | glob (a : Addr)
  | script

/-- abstract mutable objects -/
inductive LO where
  | list (xs : List V)
  | inst (c : Nat) (fs : List (Option V))
  | dict (kvs : List (Int × V))

abbrev HW := List LO
abbrev Sl := List (Option V)

/-- what stays as it is throughout the law's call -/
structure Cx where
  prog : Program
  w : World
  h₀ : Heap
  mg : Str → Option Value
  mb : Str → Option Value
  K : Frag
  aS : Addr
  vs : List Value
  ns : List Int
  cls : Nat → Addr
  gC : Addr → Option (Nat × Nat)

structure Good (c : Cx) : Prop where
  G : c.h₀.Ns mainGlobals c.mg
  B : c.h₀.Ns builtinsNs c.mb
  NL : c.h₀.NoLimit
  X : c.K.In c.h₀
  BB : ∀ x, x ≠ Str.ofString "__name__" → c.mb x = bootBuiltins x
  S : c.h₀.IsList c.aS c.vs.toArray
  I : IntsAre c.vs c.ns
  gl : ∀ a k n, c.gC a = some (k, n) → ∃ b, c.h₀.get? a = some ⟨.ref (c.cls k), some b, .plain, (List.replicate n (some Value.none)).toArray⟩ ∧ c.h₀.get? b = some (dictOf [] 0)

/-- which addresses bear the tracked objects, and which bear what values lean on and nothing turns -/
structure Mp where
  l : List Addr
  z : List Addr

mutual
inductive RepV (c : Cx) (φ : Mp) (h : Heap) : V → Value → Prop
  | none : RepV c φ h .none .none
  | bool {b} : RepV c φ h (.bool b) (.bool b)
  | int {i t} : RepV c φ h (.int i) (.int i t)
  | str {s t} : RepV c φ h (.str s) (.str s t)
  | loc {k a} : φ.l[k]? = some a → RepV c φ h (.loc k) (.ref a)
  | tup {vs xs a n} : a ∉ φ.l → a ∈ φ.z → c.h₀.get? a = none → h.get? a = some { cls := .type "tuple", data := .seq xs.toArray n } → RepVs c φ h vs xs → RepV c φ h (.tup vs) (.ref a)
  | obj {k fs xs a b} {sl : Array (Option Value)} : a ∉ φ.l → a ∈ φ.z → b ∉ φ.l → b ∈ φ.z → c.h₀.get? a = none → h.get? a = some ⟨.ref (c.cls k), some b, .plain, sl⟩ → (∀ i : Nat, (sl[i]?).join = xs[i]?) → h.get? b = some (dictOf [] 0) → RepVs c φ h fs xs → RepV c φ h (.obj k fs) (.ref a)
  | glob {a o} : c.h₀.get? a = some o → RepV c φ h (.glob a) (.ref a)
  | script : RepV c φ h .script (.ref c.aS)
inductive RepVs (c : Cx) (φ : Mp) (h : Heap) : List V → List Value → Prop
  | nil : RepVs c φ h [] []
  | cons {v x vs xs} : RepV c φ h v x → RepVs c φ h vs xs → RepVs c φ h (v :: vs) (x :: xs)
end

/-- the heap has grown; what is not tracked stands as it stood -/
structure Grow (φ : Mp) (h : Heap) (φ' : Mp) (h' : Heap) : Prop where
  ext : ∃ δ ζ, φ'.l = φ.l ++ δ ∧ φ'.z = φ.z ++ ζ ∧ (∀ a ∈ δ, h.get? a = none) ∧ ∀ a ∈ ζ, h.get? a = none
  keep : ∀ b o, h.get? b = some o → b ∉ φ.l → h'.get? b = some o
  live : ∀ b o, h.get? b = some o → ∃ o', h'.get? b = some o'

theorem Grow.nin {φ h φ' h'} (g : Grow φ h φ' h') {a o} (n : a ∉ φ.l) (e : h.get? a = some o) : a ∉ φ'.l := by
  obtain ⟨δ, ζ, e1, e2, hd, hz⟩ := g.ext
  rw [e1]
  intro m
  rcases List.mem_append.mp m with m | m
  · exact n m
  · rw [hd a m] at e; cases e
theorem Grow.ninz {φ h φ' h'} (g : Grow φ h φ' h') {a o} (n : a ∉ φ.z) (e : h.get? a = some o) : a ∉ φ'.z := by
  obtain ⟨δ, ζ, e1, e2, hd, hz⟩ := g.ext
  rw [e2]
  intro m
  rcases List.mem_append.mp m with m | m
  · exact n m
  · rw [hz a m] at e; cases e
theorem Grow.inz {φ h φ' h'} (g : Grow φ h φ' h') {a} (n : a ∈ φ.z) : a ∈ φ'.z := by
  obtain ⟨δ, ζ, e1, e2, hd, hz⟩ := g.ext
  rw [e2]; exact List.mem_append_left _ n
theorem Grow.at {φ h φ' h'} (g : Grow φ h φ' h') {k : Nat} {a} (e : φ.l[k]? = some a) : φ'.l[k]? = some a := by
  obtain ⟨δ, ζ, e1, _, _⟩ := g.ext
  rw [e1, List.getElem?_append_left]
  · exact e
  · exact (List.getElem?_eq_some_iff.mp e).1
theorem Grow.refl (φ h) : Grow φ h φ h := ⟨⟨[], [], by simp, by simp, by simp, by simp⟩, fun _ _ e _ => e, fun _ o e => ⟨o, e⟩⟩
theorem Grow.trans {φ h φ₁ h₁ φ₂ h₂} (g : Grow φ h φ₁ h₁) (g' : Grow φ₁ h₁ φ₂ h₂) : Grow φ h φ₂ h₂ := by
  refine ⟨?_, fun b o e n => g'.keep b o (g.keep b o e n) (g.nin n e), fun b o e => ?_⟩
  · obtain ⟨δ, ζ, e1, e2, hd, hz⟩ := g.ext
    obtain ⟨δ', ζ', e1', e2', hd', hz'⟩ := g'.ext
    refine ⟨δ ++ δ', ζ ++ ζ', by simp [e1, e1'], by simp [e2, e2'], fun a m => ?_, fun a m => ?_⟩
    · rcases List.mem_append.mp m with m | m
      · exact hd a m
      · cases q : h.get? a with
        | none => rfl
        | some o => obtain ⟨o', e'⟩ := g.live a o q; rw [hd' a m] at e'; cases e'
    · rcases List.mem_append.mp m with m | m
      · exact hz a m
      · cases q : h.get? a with
        | none => rfl
        | some o => obtain ⟨o', e'⟩ := g.live a o q; rw [hz' a m] at e'; cases e'
  · obtain ⟨o', e'⟩ := g.live b o e
    exact g'.live b o' e'
/-- nothing tracked is touched, nothing new is tracked -/
theorem Grow.of_keep {φ h h'} (k : ∀ b o, h.get? b = some o → h'.get? b = some o) : Grow φ h φ h' :=
  ⟨⟨[], [], by simp, by simp, by simp, by simp⟩, fun b o e _ => k b o e, fun b o e => ⟨o, k b o e⟩⟩

mutual
theorem RepV.grow {c : Cx} {φ h φ' h'} (g : Grow φ h φ' h') : ∀ {v x}, RepV c φ h v x → RepV c φ' h' v x
  | _, _, .none => .none
  | _, _, .bool => .bool
  | _, _, .int => .int
  | _, _, .str => .str
  | _, _, .loc e => .loc (g.at e)
  | _, _, .tup n z n0 e r => .tup (g.nin n e) (g.inz z) n0 (g.keep _ _ e n) (RepVs.grow g r)
  | _, _, .obj n z m y n0 e es e' r => .obj (g.nin n e) (g.inz z) (g.nin m e') (g.inz y) n0 (g.keep _ _ e n) es (g.keep _ _ e' m) (RepVs.grow g r)
  | _, _, .glob e => .glob e
  | _, _, .script => .script
theorem RepVs.grow {c : Cx} {φ h φ' h'} (g : Grow φ h φ' h') : ∀ {vs xs}, RepVs c φ h vs xs → RepVs c φ' h' vs xs
  | _, _, .nil => .nil
  | _, _, .cons r rs => .cons (RepV.grow g r) (RepVs.grow g rs)
end

mutual
theorem RepV.keep {c : Cx} {φ h h'} (g : ∀ b o, b ∈ φ.z → h.get? b = some o → h'.get? b = some o) : ∀ {v x}, RepV c φ h v x → RepV c φ h' v x
  | _, _, .none => .none
  | _, _, .bool => .bool
  | _, _, .int => .int
  | _, _, .str => .str
  | _, _, .loc e => .loc e
  | _, _, .tup n z n0 e r => .tup n z n0 (g _ _ z e) (RepVs.keep g r)
  | _, _, .obj n z m y n0 e es e' r => .obj n z m y n0 (g _ _ z e) es (g _ _ y e') (RepVs.keep g r)
  | _, _, .glob e => .glob e
  | _, _, .script => .script
theorem RepVs.keep {c : Cx} {φ h h'} (g : ∀ b o, b ∈ φ.z → h.get? b = some o → h'.get? b = some o) : ∀ {vs xs}, RepVs c φ h vs xs → RepVs c φ h' vs xs
  | _, _, .nil => .nil
  | _, _, .cons r rs => .cons (RepV.keep g r) (RepVs.keep g rs)
end

theorem RepVs.length {c : Cx} {φ h} : ∀ {vs xs}, RepVs c φ h vs xs → vs.length = xs.length
  | _, _, .nil => rfl
  | _, _, .cons _ r => by simp [r.length]
theorem RepVs.get {c : Cx} {φ h} : ∀ {vs xs}, RepVs c φ h vs xs → ∀ {i : Nat} {v}, vs[i]? = some v → ∃ x, xs[i]? = some x ∧ RepV c φ h v x
  | _, _, .nil, i, v, e => by simp at e
  | _, _, .cons r rs, 0, v, e => by
    simp at e; subst e; exact ⟨_, rfl, r⟩
  | _, _, .cons r rs, i + 1, v, e => by
    simp at e; obtain ⟨x, h1, h2⟩ := rs.get e; exact ⟨x, by simpa using h1, h2⟩
theorem RepVs.append {c : Cx} {φ h} : ∀ {vs xs ws ys}, RepVs c φ h vs xs → RepVs c φ h ws ys → RepVs c φ h (vs ++ ws) (xs ++ ys)
  | _, _, _, _, .nil, s => s
  | _, _, _, _, .cons r rs, s => .cons r (rs.append s)
theorem RepVs.take {c : Cx} {φ h} : ∀ {vs xs}, RepVs c φ h vs xs → ∀ n : Nat, RepVs c φ h (vs.take n) (xs.take n)
  | _, _, .nil, n => by simp; exact .nil
  | _, _, .cons r rs, 0 => by simp; exact .nil
  | _, _, .cons r rs, n + 1 => by simp; exact .cons r (rs.take n)
theorem RepVs.drop {c : Cx} {φ h} : ∀ {vs xs}, RepVs c φ h vs xs → ∀ n : Nat, RepVs c φ h (vs.drop n) (xs.drop n)
  | _, _, .nil, n => by simp; exact .nil
  | _, _, .cons r rs, 0 => by simp; exact .cons r rs
  | _, _, .cons r rs, n + 1 => by simp; exact rs.drop n
theorem RepVs.reverse {c : Cx} {φ h} : ∀ {vs xs}, RepVs c φ h vs xs → RepVs c φ h vs.reverse xs.reverse
  | _, _, .nil => .nil
  | _, _, .cons r rs => by simp only [List.reverse_cons]; exact rs.reverse.append (.cons r .nil)

/-- the object of the heap that bears an abstract one -/
inductive RepO (c : Cx) (φ : Mp) (h : Heap) : LO → Obj → Prop
  | list {vs xs n} : RepVs c φ h vs xs → RepO c φ h (.list vs) { cls := .type "list", data := .seq xs.toArray n }
  | inst {k : Nat} {fs : List (Option V)} {xs : Array (Option Value)} {b : Addr} : (∀ (i : Nat) v, (fs[i]?).join = some v → ∃ x, (xs[i]?).join = some x ∧ RepV c φ h v x) → (∀ i : Nat, (fs[i]?).join = none → (xs[i]?).join = none) →
      b ∉ φ.l → b ∈ φ.z → h.get? b = some (dictOf [] 0) → RepO c φ h (.inst k fs) ⟨.ref (c.cls k), some b, .plain, xs⟩
  | dict {kvs : List (Int × V)} {xs : List (Int × Value)} {o : Obj} : o.IsDictOf (intKind c.prog c.w) xs → xs.map (·.1) = kvs.map (·.1) → RepVs c φ h (kvs.map (·.2)) (xs.map (·.2)) → RepO c φ h (.dict kvs) o

theorem RepO.grow {c : Cx} {φ h φ' h'} (g : Grow φ h φ' h') {lo o} (r : RepO c φ h lo o) : RepO c φ' h' lo o := by
  cases r with
  | list r => exact .list (r.grow g)
  | dict d k r => exact .dict d k (r.grow g)
  | inst r z n y e => exact .inst (fun i v e => by obtain ⟨x, h1, h2⟩ := r i v e; exact ⟨x, h1, h2.grow g⟩) z (g.nin n e) (g.inz y) (g.keep _ _ e n)
theorem RepO.keep {c : Cx} {φ h h'} (g : ∀ b o, b ∈ φ.z → h.get? b = some o → h'.get? b = some o) {lo o} (r : RepO c φ h lo o) : RepO c φ h' lo o := by
  cases r with
  | list r => exact .list (r.keep g)
  | dict d k r => exact .dict d k (r.keep g)
  | inst r z n y e => exact .inst (fun i v e => by obtain ⟨x, h1, h2⟩ := r i v e; exact ⟨x, h1, h2.keep g⟩) z n y (g _ _ y e)

structure Ok (c : Cx) (φ : Mp) (H : HW) (h : Heap) : Prop where
  base : ∀ b o, c.h₀.get? b = some o → h.get? b = some o
  off : ∀ b o, c.h₀.get? b = some o → b ∉ φ.l
  len : φ.l.length = H.length
  nodup : φ.l.Nodup
  objs : ∀ (k : Nat) a lo, φ.l[k]? = some a → H[k]? = some lo → ∃ o, h.get? a = some o ∧ RepO c φ h lo o
  dj : ∀ a, a ∈ φ.z → a ∉ φ.l
  zl : ∀ a, a ∈ φ.z → ∃ o, h.get? a = some o
  g0 : ∃ o, c.h₀.get? mainGlobals = some o
  sm : ∀ a, a ∈ φ.l → a ≠ sysModules
theorem Ok.newS {c φ H h} (ok : Ok c φ H h) : h.objs.size ≠ sysModules := by
  obtain ⟨o, e⟩ := ok.g0
  have := Heap.lt_size (ok.base _ _ e)
  intro q
  rw [q] at this
  exact absurd this (by decide)
theorem Ok.newS1 {c φ H h} (ok : Ok c φ H h) : h.objs.size + 1 ≠ sysModules := by
  obtain ⟨o, e⟩ := ok.g0
  have := Heap.lt_size (ok.base _ _ e)
  intro q
  have h2 : mainGlobals < h.objs.size + 1 := Nat.lt_succ_of_lt this
  rw [q] at h2
  exact absurd h2 (by decide)

theorem Ok.live {c φ H h} (ok : Ok c φ H h) {a} (m : a ∈ φ.l) : ∃ o, h.get? a = some o := by
  obtain ⟨k, hk, e⟩ := List.getElem_of_mem m
  have hk' : k < H.length := by rw [← ok.len]; exact hk
  obtain ⟨o, e', _⟩ := ok.objs k a H[k] (by rw [List.getElem?_eq_getElem hk, e]) (List.getElem?_eq_getElem hk')
  exact ⟨o, e'⟩
/-- untracked objects alone are new -/
theorem Ok.keep {c φ H h h'} (ok : Ok c φ H h) (k : ∀ b o, h.get? b = some o → h'.get? b = some o) : Ok c φ H h' :=
  ⟨fun b o e => k b o (ok.base b o e), ok.off, ok.len, ok.nodup, fun i a lo e1 e2 => by
    obtain ⟨o, h1, h2⟩ := ok.objs i a lo e1 e2
    exact ⟨o, k _ _ h1, h2.keep fun b o _ e => k b o e⟩, ok.dj, fun a m => by obtain ⟨o, e⟩ := ok.zl a m; exact ⟨o, k _ _ e⟩, ok.g0, ok.sm⟩
/-- an object that is neither tracked nor leant on is turned -/
theorem Ok.same {c φ H h h'} (ok : Ok c φ H h) {L : Addr} (n : L ∉ φ.l) (z : L ∉ φ.z) (n0 : c.h₀.get? L = none) (k : ∀ b o, b ≠ L → h.get? b = some o → h'.get? b = some o) : Ok c φ H h' :=
  ⟨fun b o e => k b o (fun q => by rw [q, n0] at e; cases e) (ok.base b o e), ok.off, ok.len, ok.nodup, fun i a lo e1 e2 => by
    obtain ⟨o, h1, h2⟩ := ok.objs i a lo e1 e2
    exact ⟨o, k _ _ (fun q => n (q ▸ List.mem_of_getElem? e1)) h1, h2.keep fun b o y e => k b o (fun q => z (q ▸ y)) e⟩, ok.dj, fun a m => by obtain ⟨o, e⟩ := ok.zl a m; exact ⟨o, k _ _ (fun q => z (q ▸ m)) e⟩, ok.g0, ok.sm⟩
/-- a new object that values lean on -/
theorem Ok.freeze {c φ H h h'} (ok : Ok c φ H h) {a : Addr} {o : Obj} (n : h.get? a = none) (k : ∀ b o, h.get? b = some o → h'.get? b = some o) (e : h'.get? a = some o) :
    Ok c ⟨φ.l, φ.z ++ [a]⟩ H h' ∧ Grow φ h ⟨φ.l, φ.z ++ [a]⟩ h' := by
  have g : Grow φ h ⟨φ.l, φ.z ++ [a]⟩ h' := ⟨⟨[], [a], by simp, rfl, by simp, fun b m => by rw [List.mem_singleton.mp m]; exact n⟩, fun b o e _ => k b o e, fun b o e => ⟨o, k b o e⟩⟩
  refine ⟨⟨fun b o e => k b o (ok.base b o e), ok.off, ok.len, ok.nodup, fun i x lo' e1 e2 => ?_, fun b m => ?_, fun b m => ?_, ok.g0, ok.sm⟩, g⟩
  · obtain ⟨o', h1, h2⟩ := ok.objs i x lo' e1 e2
    exact ⟨o', k _ _ h1, h2.grow g⟩
  · rcases List.mem_append.mp m with m | m
    · exact ok.dj b m
    · rw [List.mem_singleton.mp m]
      intro q
      obtain ⟨o', e'⟩ := ok.live q
      rw [n] at e'; cases e'
  · rcases List.mem_append.mp m with m | m
    · obtain ⟨o, e⟩ := ok.zl b m; exact ⟨o, k _ _ e⟩
    · rw [List.mem_singleton.mp m]; exact ⟨o, e⟩
/-- a new tracked object -/
theorem Ok.alloc {c φ H h h'} (ok : Ok c φ H h) {a : Addr} {o : Obj} {lo : LO} (n : h.get? a = none) (k : ∀ b o, h.get? b = some o → h'.get? b = some o) (e : h'.get? a = some o) (r : RepO c φ h lo o) (hm : a ≠ sysModules) :
    Ok c ⟨φ.l ++ [a], φ.z⟩ (H ++ [lo]) h' ∧ Grow φ h ⟨φ.l ++ [a], φ.z⟩ h' := by
  have g : Grow φ h ⟨φ.l ++ [a], φ.z⟩ h' := ⟨⟨[a], [], rfl, by simp, fun b m => by rw [List.mem_singleton.mp m]; exact n, by simp⟩, fun b o e _ => k b o e, fun b o e => ⟨o, k b o e⟩⟩
  refine ⟨⟨fun b o e => k b o (ok.base b o e), fun b o e m => ?_, by simp [ok.len], ?_, fun i x lo' e1 e2 => ?_, fun b m q => ?_, fun b m => by obtain ⟨o, e⟩ := ok.zl b m; exact ⟨o, k _ _ e⟩, ok.g0, fun b m => (List.mem_append.mp m).elim (ok.sm b) fun q => by rw [List.mem_singleton.mp q]; exact hm⟩, g⟩
  · rcases List.mem_append.mp m with m | m
    · exact ok.off b o e m
    · rw [List.mem_singleton.mp m] at e; have := ok.base a o e; rw [n] at this; cases this
  · refine List.nodup_append.mpr ⟨ok.nodup, by simp, fun x m y m' q => ?_⟩
    rw [List.mem_singleton.mp m'] at q
    obtain ⟨o', e'⟩ := ok.live m
    rw [q, n] at e'; cases e'
  · by_cases hi : i < φ.l.length
    · rw [List.getElem?_append_left hi] at e1
      rw [List.getElem?_append_left (by rw [← ok.len]; exact hi)] at e2
      obtain ⟨o', h1, h2⟩ := ok.objs i x lo' e1 e2
      exact ⟨o', k _ _ h1, h2.grow g⟩
    · have hi' : φ.l.length ≤ i := Nat.not_lt.mp hi
      rw [List.getElem?_append_right hi'] at e1
      rw [List.getElem?_append_right (by rw [← ok.len]; exact hi'), ← ok.len] at e2
      cases q : i - φ.l.length with
      | zero =>
        rw [q] at e1 e2
        simp at e1 e2
        subst e1 e2
        exact ⟨o, e, r.grow g⟩
      | succ j => rw [q] at e1; simp at e1
  · rcases List.mem_append.mp q with q | q
    · exact ok.dj b m q
    · obtain ⟨o', e'⟩ := ok.zl b m
      rw [List.mem_singleton.mp q, n] at e'; cases e'
/-- a tracked object is turned -/
theorem Ok.put {c φ H h h'} (ok : Ok c φ H h) {k : Nat} {a : Addr} {o : Obj} {lo : LO} (ek : φ.l[k]? = some a) (sb : ∀ b o, b ≠ a → h.get? b = some o → h'.get? b = some o) (e : h'.get? a = some o) (r : RepO c φ h lo o) :
    Ok c φ (H.set k lo) h' ∧ Grow φ h φ h' := by
  have ma : a ∈ φ.l := List.mem_of_getElem? ek
  have g : Grow φ h φ h' := ⟨⟨[], [], by simp, by simp, by simp, by simp⟩, fun b o e n => sb b o (fun q => n (q ▸ ma)) e, fun b o' e' => by
    by_cases q : b = a
    · exact ⟨o, q ▸ e⟩
    · exact ⟨o', sb b o' q e'⟩⟩
  refine ⟨⟨fun b o e => sb b o (fun q => ok.off b o e (q ▸ ma)) (ok.base b o e), ok.off, by simp [ok.len], ok.nodup, fun i x lo' e1 e2 => ?_, ok.dj, fun b m => by obtain ⟨o, e⟩ := ok.zl b m; exact ⟨o, sb _ _ (fun q => ok.dj b m (q ▸ ma)) e⟩, ok.g0, ok.sm⟩, g⟩
  by_cases q : i = k
  · subst q
    rw [e1] at ek
    cases ek
    rw [List.getElem?_set_self (by rw [← ok.len]; exact (List.getElem?_eq_some_iff.mp e1).1)] at e2
    cases e2
    exact ⟨o, e, r.grow g⟩
  · rw [List.getElem?_set_ne (Ne.symm q)] at e2
    obtain ⟨o', h1, h2⟩ := ok.objs i x lo' e1 e2
    refine ⟨o', sb _ _ (fun z => q ?_) h1, h2.grow g⟩
    subst z
    obtain ⟨l1, e1'⟩ := List.getElem?_eq_some_iff.mp e1
    obtain ⟨l2, ek'⟩ := List.getElem?_eq_some_iff.mp ek
    exact (List.getElem_inj (h₀ := l1) (h₁ := l2) ok.nodup).mp (e1'.trans ek'.symm)
end Mine

namespace Mine

inductive Fl where
  | next
  | ret (v : V)

def RepF (c : Cx) (φ : Mp) (h : Heap) : Fl → Flow → Prop
  | .next, .next => True
  | .ret v, .ret x => RepV c φ h v x
  | _, _ => False

structure EnvOK (sc : Scope) (env : Env) : Prop where
  scope : env.scope = sc
  glob : env.globals = mainGlobals
  bi : env.builtins = builtinsNs
theorem EnvOK.kind {sc env} (e : EnvOK sc env) (x : Str) : env.kindOf x = sc.names.lookup x := by
  unfold Env.kindOf; rw [e.scope]

structure AOK (d : Nat) (A : Around) : Prop where
  handled : A.handled = none
  depth : A.depth + d < 900
  units : A.units + 20 * d < 9000

def Rest (s s' : Shared) : Prop := ∃ h t, s' = { s with heap := h, toks := t }
theorem Rest.refl (s : Shared) : Rest s s := ⟨s.heap, s.toks, rfl⟩
theorem Rest.trans {a b c : Shared} (x : Rest a b) (y : Rest b c) : Rest a c := by
  obtain ⟨_, _, rfl⟩ := x
  obtain ⟨_, _, rfl⟩ := y
  exact ⟨_, _, rfl⟩
theorem Rest.mk (s : Shared) (h t) : Rest s { s with heap := h, toks := t } := ⟨h, t, rfl⟩

structure Vars (c : Cx) (ρ : List Str) (φ : Mp) (h : Heap) (env : Env) (sl : Sl) : Prop where
  nd : ρ.Nodup
  len : sl.length = ρ.length
  offL : env.locals ∉ φ.l
  offZ : env.locals ∉ φ.z
  newL : c.h₀.get? env.locals = none
  loc : ∃ m, h.Ns env.locals m ∧ ∀ (i : Nat) x v, ρ[i]? = some x → env.kindOf x = some .local → sl[i]? = some (some v) → ∃ y, m x = some y ∧ RepV c φ h v y
  offC : ∀ x a, env.cells.lookup x = some a → a ∉ φ.l ∧ a ∉ φ.z ∧ c.h₀.get? a = none ∧ ∃ y, h.IsCell a y
  inj : ∀ x y a, env.cells.lookup x = some a → env.cells.lookup y = some a → x = y
  cel : ∀ (i : Nat) x v, ρ[i]? = some x → (env.kindOf x = some .cell ∨ env.kindOf x = some .free) → sl[i]? = some (some v) → ∃ a y, env.cells.lookup x = some a ∧ h.IsCell a (some y) ∧ RepV c φ h v y
  has : ∀ (i : Nat) x, ρ[i]? = some x → env.kindOf x = some .cell → ∃ a, env.cells.lookup x = some a

theorem Vars.grow {c ρ φ h env sl φ' h'} (v : Vars c ρ φ h env sl) (g : Grow φ h φ' h') : Vars c ρ φ' h' env sl := by
  obtain ⟨m, hn, hm⟩ := v.loc
  obtain ⟨o, es, ep, ho, r⟩ := id hn
  refine ⟨v.nd, v.len, g.nin v.offL ho, g.ninz v.offZ ho, v.newL, ⟨m, ⟨o, es, ep, g.keep _ _ ho v.offL, r⟩, fun i x w h1 h2 h3 => ?_⟩, fun x a e => ?_, v.inj, fun i x w h1 h2 h3 => ?_, v.has⟩
  · obtain ⟨y, h4, h5⟩ := hm i x w h1 h2 h3
    exact ⟨y, h4, h5.grow g⟩
  · obtain ⟨n, z, n0, y, o', ho', hd⟩ := v.offC x a e
    exact ⟨g.nin n ho', g.ninz z ho', n0, y, o', g.keep _ _ ho' n, hd⟩
  · obtain ⟨a, y, h4, ⟨o', ho', hd⟩, h6⟩ := v.cel i x w h1 h2 h3
    exact ⟨a, y, h4, ⟨o', g.keep _ _ ho' (v.offC x a h4).1, hd⟩, h6.grow g⟩

/-- what statements leave as it was -/
structure GrowS (env : Env) (φ : Mp) (h : Heap) (φ' : Mp) (h' : Heap) : Prop where
  ext : ∃ δ ζ, φ'.l = φ.l ++ δ ∧ φ'.z = φ.z ++ ζ ∧ (∀ a ∈ δ, h.get? a = none) ∧ ∀ a ∈ ζ, h.get? a = none
  keep : ∀ b o, h.get? b = some o → b ∉ φ.l → b ≠ env.locals → (∀ x, env.cells.lookup x ≠ some b) → h'.get? b = some o
  live : ∀ b o, h.get? b = some o → ∃ o', h'.get? b = some o'
theorem GrowS.nin {env φ h φ' h'} (g : GrowS env φ h φ' h') {a o} (n : a ∉ φ.l) (e : h.get? a = some o) : a ∉ φ'.l := by
  obtain ⟨δ, ζ, e1, e2, hd, hz⟩ := g.ext
  rw [e1]
  intro m
  rcases List.mem_append.mp m with m | m
  · exact n m
  · rw [hd a m] at e; cases e
theorem GrowS.ninz {env φ h φ' h'} (g : GrowS env φ h φ' h') {a o} (n : a ∉ φ.z) (e : h.get? a = some o) : a ∉ φ'.z := by
  obtain ⟨δ, ζ, e1, e2, hd, hz⟩ := g.ext
  rw [e2]
  intro m
  rcases List.mem_append.mp m with m | m
  · exact n m
  · rw [hz a m] at e; cases e
theorem GrowS.at {env φ h φ' h'} (g : GrowS env φ h φ' h') {k : Nat} {a} (e : φ.l[k]? = some a) : φ'.l[k]? = some a := by
  obtain ⟨δ, ζ, e1, _, _⟩ := g.ext
  rw [e1, List.getElem?_append_left]
  · exact e
  · exact (List.getElem?_eq_some_iff.mp e).1
theorem GrowS.trans {env φ h φ₁ h₁ φ₂ h₂} (g : GrowS env φ h φ₁ h₁) (g' : GrowS env φ₁ h₁ φ₂ h₂) : GrowS env φ h φ₂ h₂ := by
  refine ⟨?_, fun b o e n n1 n2 => g'.keep b o (g.keep b o e n n1 n2) (g.nin n e) n1 n2, fun b o e => ?_⟩
  · obtain ⟨δ, ζ, e1, e2, hd, hz⟩ := g.ext
    obtain ⟨δ', ζ', e1', e2', hd', hz'⟩ := g'.ext
    refine ⟨δ ++ δ', ζ ++ ζ', by simp [e1, e1'], by simp [e2, e2'], fun a m => ?_, fun a m => ?_⟩
    · rcases List.mem_append.mp m with m | m
      · exact hd a m
      · cases q : h.get? a with
        | none => rfl
        | some o => obtain ⟨o', e'⟩ := g.live a o q; rw [hd' a m] at e'; cases e'
    · rcases List.mem_append.mp m with m | m
      · exact hz a m
      · cases q : h.get? a with
        | none => rfl
        | some o => obtain ⟨o', e'⟩ := g.live a o q; rw [hz' a m] at e'; cases e'
  · obtain ⟨o', e'⟩ := g.live b o e
    exact g'.live b o' e'
theorem GrowS.refl (env φ h) : GrowS env φ h φ h := ⟨⟨[], [], by simp, by simp, by simp, by simp⟩, fun _ _ e _ _ _ => e, fun _ o e => ⟨o, e⟩⟩
theorem Grow.toS {env φ h φ' h'} (g : Grow φ h φ' h') : GrowS env φ h φ' h' := ⟨g.ext, fun b o e n _ _ => g.keep b o e n, g.live⟩

def PostE (c : Cx) (φ : Mp) (s : Shared) (Q : V → HW → Prop) (x : Value) (s' : Shared) : Prop :=
  ∃ v H φ', Q v H ∧ Ok c φ' H s'.heap ∧ RepV c φ' s'.heap v x ∧ Grow φ s.heap φ' s'.heap ∧ Rest s s'
def PostEs (c : Cx) (φ : Mp) (s : Shared) (Q : List V → HW → Prop) (x : List Value) (s' : Shared) : Prop :=
  ∃ v H φ', Q v H ∧ Ok c φ' H s'.heap ∧ RepVs c φ' s'.heap v x ∧ Grow φ s.heap φ' s'.heap ∧ Rest s s'
def PostT (c : Cx) (φ : Mp) (s : Shared) (Q : Bool → HW → Prop) (b : Bool) (s' : Shared) : Prop :=
  ∃ H φ', Q b H ∧ Ok c φ' H s'.heap ∧ Grow φ s.heap φ' s'.heap ∧ Rest s s'
def PostS (c : Cx) (ρ : List Str) (env : Env) (φ : Mp) (s : Shared) (Q : Fl → Sl → HW → Prop) (f : Flow) (s' : Shared) : Prop :=
  ∃ F sl H φ', Q F sl H ∧ Ok c φ' H s'.heap ∧ Vars c ρ φ' s'.heap env sl ∧ RepF c φ' s'.heap F f ∧ GrowS env φ s.heap φ' s'.heap ∧ Rest s s'

abbrev WE := Sl → HW → (V → HW → Prop) → Prop
abbrev WEs := Sl → HW → (List V → HW → Prop) → Prop
abbrev WT := Sl → HW → (Bool → HW → Prop) → Prop
abbrev WS := Sl → HW → (Fl → Sl → HW → Prop) → Prop
abbrev WF := List V → HW → (V → HW → Prop) → Prop

def Ev (c : Cx) (d : Nat) (sc : Scope) (ρ : List Str) (e : Expr) (W : WE) : Prop :=
  ∀ env A E s φ sl H Q, EnvOK sc env → AOK d A → Ok c φ H s.heap → Vars c ρ φ s.heap env sl → W sl H Q → wpAny (model c.prog c.w) A (eval e env) (PostE c φ s Q) E s
def Evs (c : Cx) (d : Nat) (sc : Scope) (ρ : List Str) (es : List Expr) (W : WEs) : Prop :=
  (∀ env, starEach es env = es.map fun e => (false, eval e env)) ∧ ∀ env A E s φ sl H Q, EnvOK sc env → AOK d A → Ok c φ H s.heap → Vars c ρ φ s.heap env sl → W sl H Q → ∀ pos, wpAny (model c.prog c.w) A (spliced (backTo pos (starEach es env))) (PostEs c φ s Q) E s
def Et (c : Cx) (d : Nat) (sc : Scope) (ρ : List Str) (e : Expr) (W : WT) : Prop :=
  ∀ env A E s φ sl H Q, EnvOK sc env → AOK d A → Ok c φ H s.heap → Vars c ρ φ s.heap env sl → W sl H Q → wpAny (model c.prog c.w) A (isTrue e env (eval e env)) (PostT c φ s Q) E s
def Ex (c : Cx) (d : Nat) (sc : Scope) (ρ : List Str) (e : Stmt) (W : WS) : Prop :=
  ∀ env A E s φ sl H Q, EnvOK sc env → AOK d A → Ok c φ H s.heap → Vars c ρ φ s.heap env sl → W sl H Q → wpAny (model c.prog c.w) A (exec e env) (PostS c ρ env φ s Q) E s
def Exs (c : Cx) (d : Nat) (sc : Scope) (ρ : List Str) (e : List Stmt) (W : WS) : Prop :=
  ∀ env A E s φ sl H Q, EnvOK sc env → AOK d A → Ok c φ H s.heap → Vars c ρ φ s.heap env sl → W sl H Q → wpAny (model c.prog c.w) A (execs e env) (PostS c ρ env φ s Q) E s
/-- a callable of the text keeps to a contract -/
def FnOK (c : Cx) (d : Nat) (f : Value) (W : WF) : Prop :=
  ∀ A E s φ H args vals Q, AOK d A → Ok c φ H s.heap → RepVs c φ s.heap args vals → W args H Q → wpAny (model c.prog c.w) A (call f vals) (PostE c φ s Q) E s

section
variable {c : Cx} {d : Nat} {sc : Scope} {ρ : List Str}

/-- a value that is at hand -/
theorem PostE.here {φ : Mp} {s s' : Shared} {Q : V → HW → Prop} {x : Value} {v : V} {H : HW} (q : Q v H) (ok : Ok c φ H s'.heap) (r : RepV c φ s'.heap v x) (k : ∀ b o, s.heap.get? b = some o → s'.heap.get? b = some o) (rs : Rest s s') : PostE c φ s Q x s' :=
  ⟨v, H, φ, q, ok, r, .of_keep k, rs⟩
theorem PostE.shift {φ φ₁ : Mp} {s s₁ s' : Shared} {Q : V → HW → Prop} {x : Value} (g : Grow φ s.heap φ₁ s₁.heap) (r : Rest s s₁) (p : PostE c φ₁ s₁ Q x s') : PostE c φ s Q x s' := by
  obtain ⟨v, H, φ', q, ok, rv, g', r'⟩ := p
  exact ⟨v, H, φ', q, ok, rv, g.trans g', r.trans r'⟩
theorem PostEs.shift {φ φ₁ : Mp} {s s₁ s' : Shared} {Q : List V → HW → Prop} {x : List Value} (g : Grow φ s.heap φ₁ s₁.heap) (r : Rest s s₁) (p : PostEs c φ₁ s₁ Q x s') : PostEs c φ s Q x s' := by
  obtain ⟨v, H, φ', q, ok, rv, g', r'⟩ := p
  exact ⟨v, H, φ', q, ok, rv, g.trans g', r.trans r'⟩
theorem PostT.shift {φ φ₁ : Mp} {s s₁ s' : Shared} {Q : Bool → HW → Prop} {x : Bool} (g : Grow φ s.heap φ₁ s₁.heap) (r : Rest s s₁) (p : PostT c φ₁ s₁ Q x s') : PostT c φ s Q x s' := by
  obtain ⟨H, φ', q, ok, g', r'⟩ := p
  exact ⟨H, φ', q, ok, g.trans g', r.trans r'⟩
theorem PostS.shift {env : Env} {φ φ₁ : Mp} {s s₁ s' : Shared} {Q : Fl → Sl → HW → Prop} {x : Flow} (g : GrowS env φ s.heap φ₁ s₁.heap) (r : Rest s s₁) (p : PostS c ρ env φ₁ s₁ Q x s') : PostS c ρ env φ s Q x s' := by
  obtain ⟨F, sl, H, φ', q, ok, vs, rf, g', r'⟩ := p
  exact ⟨F, sl, H, φ', q, ok, vs, rf, g.trans g', r.trans r'⟩

/-! ### names -/
def wVar (i : Nat) : WE := fun sl H Q => match sl[i]? with | some (some v) => Q v H | _ => False

theorem wVar_of {i : Nat} {sl : Sl} {H : HW} {Q : V → HW → Prop} (h : wVar i sl H Q) : ∃ v, sl[i]? = some (some v) ∧ Q v H := by
  unfold wVar at h
  split at h
  · rename_i v e; exact ⟨v, e, h⟩
  · exact h.elim

theorem ev_local {i : Nat} {x : Str} {pos : Pos} (hi : ρ[i]? = some x) (hx : sc.names.lookup x = some .local) (hk : sc.kind = .function) (hd : (x == ("__debug__" : Str)) = false) : Ev c d sc ρ (.Name x pos) (wVar i) := by
  intro env A E s φ sl H Q eo ao ok vs w
  obtain ⟨v, e, q⟩ := wVar_of w
  have kx := (eo.kind x).trans hx
  obtain ⟨m, hn, hm⟩ := vs.loc
  obtain ⟨y, h1, h2⟩ := hm i x v hi kx e
  exact wpAny_Name (wpAny_loadName_local (by rw [eo.scope]; exact hk) kx hn h1 (.here q ok h2 (fun _ _ e => e) (Rest.refl s))) hd
theorem ev_cell {i : Nat} {x : Str} {pos : Pos} (hi : ρ[i]? = some x) (hx : sc.names.lookup x = some .cell) (hk : sc.kind = .function) (hd : (x == ("__debug__" : Str)) = false) : Ev c d sc ρ (.Name x pos) (wVar i) := by
  intro env A E s φ sl H Q eo ao ok vs w
  obtain ⟨v, e, q⟩ := wVar_of w
  have kx := (eo.kind x).trans hx
  obtain ⟨a, y, h1, h2, h3⟩ := vs.cel i x v hi (.inl kx) e
  exact wpAny_Name (wpAny_loadName_cell (by rw [eo.scope]; exact hk) kx h1 h2 (.here q ok h3 (fun _ _ e => e) (Rest.refl s))) hd
/-- storing a name -/
theorem store_okK {i : Nat} {x : Str} {env : Env} {A : Around} {E : Value → Shared → Prop} {s : Shared} {φ : Mp} {sl : Sl} {H : HW} {v : V} {y : Value} {R : Unit → Shared → Prop}
    (hi : ρ[i]? = some x) (hx : sc.names.lookup x = some .local ∨ sc.names.lookup x = some .cell) (hk : sc.kind = .function) (eo : EnvOK sc env) (ok : Ok c φ H s.heap) (vs : Vars c ρ φ s.heap env sl) (rv : RepV c φ s.heap v y)
    (k : ∀ s', Ok c φ H s'.heap → Vars c ρ φ s'.heap env (sl.set i (some v)) → GrowS env φ s.heap φ s'.heap → Rest s s' → (∀ b o, b ≠ env.locals → env.cells.lookup x ≠ some b → s.heap.get? b = some o → s'.heap.get? b = some o) → R () s') : wpAny (model c.prog c.w) A (storeName env x y) R E s := by
  obtain ⟨m, hn, hm⟩ := id vs.loc
  have LC : ∀ a z, s.heap.IsCell a z → a ≠ env.locals := fun a z hz q => by
    obtain ⟨o', ho', hd⟩ := hz
    obtain ⟨o2, es, ep, ho2, hd2, _⟩ := hn
    rw [q, ho2] at ho'; cases ho'; rw [hd] at hd2; cases hd2
  have jx : ∀ j z, ρ[j]? = some z → z = x → j = i := fun j z e q => by
    subst q
    obtain ⟨l1, e1⟩ := List.getElem?_eq_some_iff.mp e
    obtain ⟨l2, e2⟩ := List.getElem?_eq_some_iff.mp hi
    exact (List.getElem_inj (h₀ := l1) (h₁ := l2) vs.nd).mp (e1.trans e2.symm)
  have il : i < sl.length := by rw [vs.len]; exact (List.getElem?_eq_some_iff.mp hi).1
  rcases hx with hx | hx
  · have kx := (eo.kind x).trans hx
    refine wpAny_storeName_local kx hn (fun h' hn' sb => ?_) (by rw [eo.scope, hk]; rfl)
    have kp : ∀ b o, b ≠ env.locals → s.heap.get? b = some o → h'.get? b = some o := fun b o n e => (sb.2 b n).trans e
    have kv : ∀ b o, b ∈ φ.z → s.heap.get? b = some o → h'.get? b = some o := fun b o z e => kp b o (fun q => vs.offZ (q ▸ z)) e
    have ok' := ok.same vs.offL vs.offZ vs.newL kp
    refine k _ ok' ⟨vs.nd, by simp [vs.len], vs.offL, vs.offZ, vs.newL, ⟨_, hn', fun j z w h1 h2 h3 => ?_⟩, fun z a e => ?_, vs.inj, fun j z w h1 h2 h3 => ?_, vs.has⟩ ⟨⟨[], [], by simp, by simp, by simp, by simp⟩, fun b o e _ n _ => kp b o n e, fun b o e => ?_⟩ (Rest.mk ..) (fun b o n _ e => kp b o n e)
    · by_cases q : z = x
      · have := jx j z h1 q
        subst this
        rw [List.getElem?_set_self il] at h3
        cases h3
        exact ⟨y, by simp [q], rv.keep kv⟩
      · rw [List.getElem?_set_ne (fun z2 => q (by subst z2; rw [hi] at h1; cases h1; rfl))] at h3
        obtain ⟨y', h4, h5⟩ := hm j z w h1 h2 h3
        exact ⟨y', by simp [q, h4], h5.keep kv⟩
    · obtain ⟨a1, az, a2, z', ha⟩ := vs.offC z a e
      obtain ⟨oc, ho, hdc⟩ := id ha
      exact ⟨a1, az, a2, z', oc, kp a oc (LC a z' ha) ho, hdc⟩
    · have q : z ≠ x := fun q => by subst q; rw [kx] at h2; rcases h2 with h2 | h2 <;> cases h2
      rw [List.getElem?_set_ne (fun z2 => q (by subst z2; rw [hi] at h1; cases h1; rfl))] at h3
      obtain ⟨a, y', h4, h5, h6⟩ := vs.cel j z w h1 h2 h3
      obtain ⟨oc, ho, hdc⟩ := id h5
      exact ⟨a, y', h4, ⟨oc, kp a oc (LC a _ h5) ho, hdc⟩, h6.keep kv⟩
    · by_cases q : b = env.locals
      · obtain ⟨o2, _, _, ho2, _⟩ := hn'
        exact ⟨o2, q ▸ ho2⟩
      · exact ⟨o, kp b o q e⟩
  · have kx := (eo.kind x).trans hx
    obtain ⟨a, ea⟩ := vs.has i x hi kx
    obtain ⟨a1, az, a2, z0, ha⟩ := vs.offC x a ea
    refine wpAny_storeName_cell (by rw [eo.scope]; exact hk) kx ea ha fun h' hv' sb => ?_
    have kp : ∀ b o, b ≠ a → s.heap.get? b = some o → h'.get? b = some o := fun b o n e => (sb.2 b n).trans e
    have kv : ∀ b o, b ∈ φ.z → s.heap.get? b = some o → h'.get? b = some o := fun b o z e => kp b o (fun q => az (q ▸ z)) e
    have ok' := ok.same a1 az a2 kp
    obtain ⟨o2, es, ep, ho2, r2⟩ := id hn
    refine k _ ok' ⟨vs.nd, by simp [vs.len], vs.offL, vs.offZ, vs.newL, ⟨m, ⟨o2, es, ep, kp _ o2 (fun q => LC a z0 ha q.symm) ho2, r2⟩, fun j z w h1 h2 h3 => ?_⟩, fun z b e => ?_, vs.inj, fun j z w h1 h2 h3 => ?_, vs.has⟩ ⟨⟨[], [], by simp, by simp, by simp, by simp⟩, fun b o e _ _ n => kp b o (fun q => n x (q ▸ ea)) e, fun b o e => ?_⟩ ⟨h', s.toks, rfl⟩ (fun b o _ n e => kp b o (fun q => n (q ▸ ea)) e)
    · have q : z ≠ x := fun q => by subst q; rw [kx] at h2; cases h2
      rw [List.getElem?_set_ne (fun z2 => q (by subst z2; rw [hi] at h1; cases h1; rfl))] at h3
      obtain ⟨y', h4, h5⟩ := hm j z w h1 h2 h3
      exact ⟨y', h4, h5.keep kv⟩
    · by_cases q : b = a
      · subst q
        exact ⟨a1, az, a2, _, hv'⟩
      · obtain ⟨b1, bz, b2, z', oc, ho, hdc⟩ := vs.offC z b e
        exact ⟨b1, bz, b2, z', oc, kp b oc q ho, hdc⟩
    · by_cases q : z = x
      · have := jx j z h1 q
        subst this
        rw [List.getElem?_set_self il] at h3
        cases h3
        exact ⟨a, y, q ▸ ea, hv', rv.keep kv⟩
      · rw [List.getElem?_set_ne (fun z2 => q (by subst z2; rw [hi] at h1; cases h1; rfl))] at h3
        obtain ⟨b, y', h4, h5, h6⟩ := vs.cel j z w h1 h2 h3
        obtain ⟨oc, ho, hdc⟩ := id h5
        exact ⟨b, y', h4, ⟨oc, kp b oc (fun z2 => q (vs.inj z x a (z2 ▸ h4) ea)) ho, hdc⟩, h6.keep kv⟩
    · by_cases q : b = a
      · obtain ⟨o3, ho3, _⟩ := hv'
        exact ⟨o3, q ▸ ho3⟩
      · exact ⟨o, kp b o q e⟩
theorem store_ok {i : Nat} {x : Str} {env : Env} {A : Around} {E : Value → Shared → Prop} {s : Shared} {φ : Mp} {sl : Sl} {H : HW} {v : V} {y : Value} {R : Unit → Shared → Prop}
    (hi : ρ[i]? = some x) (hx : sc.names.lookup x = some .local ∨ sc.names.lookup x = some .cell) (hk : sc.kind = .function) (eo : EnvOK sc env) (ok : Ok c φ H s.heap) (vs : Vars c ρ φ s.heap env sl) (rv : RepV c φ s.heap v y)
    (k : ∀ s', Ok c φ H s'.heap → Vars c ρ φ s'.heap env (sl.set i (some v)) → GrowS env φ s.heap φ s'.heap → Rest s s' → R () s') : wpAny (model c.prog c.w) A (storeName env x y) R E s :=
  store_okK hi hx hk eo ok vs rv fun s' h1 h2 h3 h4 _ => k s' h1 h2 h3 h4
end
end Mine

namespace Mine
section
variable {c : Cx} {d : Nat} {sc : Scope} {ρ : List Str}

theorem Ok.X {φ H h} (G : Good c) (ok : Ok c φ H h) : c.K.In h := G.X.keeps ok.base
theorem Ok.G {φ H h} (G : Good c) (ok : Ok c φ H h) : h.Ns mainGlobals c.mg := G.G.keeps ok.base
theorem Ok.B {φ H h} (G : Good c) (ok : Ok c φ H h) : h.Ns builtinsNs c.mb := G.B.keeps ok.base

/-! ### constants -/
def wK (v : V) : WE := fun _ H Q => Q v H
theorem ev_none {k pos} : Ev c d sc ρ (.Constant .none k pos) (wK .none) := fun _ _ _ _ _ _ _ _ _ _ ok _ w =>
  wpAny_pure (.here w ok .none (fun _ _ e => e) (Rest.refl _))
theorem ev_bool {b k pos} : Ev c d sc ρ (.Constant (.bool b) k pos) (wK (.bool b)) := fun _ _ _ _ _ _ _ _ _ _ ok _ w =>
  wpAny_pure (.here w ok .bool (fun _ _ e => e) (Rest.refl _))
theorem ev_int {i k pos} : Ev c d sc ρ (.Constant (.int i) k pos) (wK (.int i)) := fun _ _ _ s _ _ _ _ _ _ ok _ w =>
  wpAny_Constant_int (.here w ok .int (fun _ _ e => e) (Rest.mk s s.heap _))
/-! ### two operands -/
abbrev WB := V → V → HW → (V → HW → Prop) → Prop
def wBin (f : WB) (a b : WE) : WE := fun sl H Q => a sl H fun v H₁ => b sl H₁ fun w H₂ => f v w H₂ Q
def BinOK (c : Cx) (d : Nat) (op : Operator) (f : WB) : Prop :=
  ∀ A E s φ H v w x y Q, AOK d A → Ok c φ H s.heap → RepV c φ s.heap v x → RepV c φ s.heap w y → f v w H Q → wpAny (model c.prog c.w) A (binaryOp op x y) (PostE c φ s Q) E s
def CmpOK (c : Cx) (d : Nat) (op : CmpOp) (f : WB) : Prop :=
  ∀ A E s φ H v w x y Q, AOK d A → Ok c φ H s.heap → RepV c φ s.heap v x → RepV c φ s.heap w y → f v w H Q → wpAny (model c.prog c.w) A (compareOp op x y) (PostE c φ s Q) E s

theorem ev_bin {op f l r pos a b} (B : BinOK c d op f) (hl : Ev c d sc ρ l a) (hr : Ev c d sc ρ r b) : Ev c d sc ρ (.BinOp l op r pos) (wBin f a b) := by
  intro env A E s φ sl H Q eo ao ok vs w
  refine wpAny_BinOp (wpAny_mono (hl env A E s φ sl H _ eo ao ok vs w) (fun x s₁ p₁ => ?_) fun _ _ e => e)
  obtain ⟨v, H₁, φ₁, w₁, ok₁, rv, g₁, r₁⟩ := p₁
  refine wpAny_mono (hr env A E s₁ φ₁ sl H₁ _ eo ao ok₁ (vs.grow g₁) w₁) (fun y s₂ p₂ => ?_) fun _ _ e => e
  obtain ⟨u, H₂, φ₂, w₂, ok₂, ru, g₂, r₂⟩ := p₂
  exact wpAny_mono (B A E s₂ φ₂ H₂ v u x y Q ao ok₂ (rv.grow g₂) ru w₂) (fun z s₃ p₃ => p₃.shift (g₁.trans g₂) (r₁.trans r₂)) fun _ _ e => e
def onI (f : Int → Int → V) : WB := fun v w H Q => match v, w with | .int i, .int j => Q (f i j) H | _, _ => False
theorem onI_of {f v w H Q} (h : onI f v w H Q) : ∃ i j, v = .int i ∧ w = .int j ∧ Q (f i j) H := by
  unfold onI at h
  split at h
  · exact ⟨_, _, rfl, rfl, h⟩
  · exact h.elim
theorem add_ok : BinOK c d .Add (onI fun i j => .int (i + j)) := by
  intro A E s φ H v w x y Q ao ok rv rw' q
  obtain ⟨i, j, rfl, rfl, q⟩ := onI_of q
  cases rv; cases rw'
  exact add_int (.here q ok .int (fun _ _ e => e) (Rest.mk s s.heap _))
theorem sub_ok : BinOK c d .Sub (onI fun i j => .int (i - j)) := by
  intro A E s φ H v w x y Q ao ok rv rw' q
  obtain ⟨i, j, rfl, rfl, q⟩ := onI_of q
  cases rv; cases rw'
  exact sub_int (.here q ok .int (fun _ _ e => e) (Rest.mk s s.heap _))
/-- % and // by a number that is not nought and small -/
def wMod : WB := fun v w H Q => match v, w with | .int i, .int j => j ≠ 0 ∧ Q (.int (i.fmod j)) H | _, _ => False
theorem mod_ok : BinOK c d .Mod wMod := by
  intro A E s φ H v w x y Q ao ok rv rw' q
  unfold wMod at q
  split at q
  · cases rv; cases rw'
    exact mod_int' q.1 (.here q.2 ok .int (fun _ _ e => e) (Rest.mk s s.heap _))
  · exact q.elim
def wDiv : WB := fun v w H Q => match v, w with | .int i, .int j => (j ≠ 0 ∧ j.natAbs < 1073741824) ∧ Q (.int (i.fdiv j)) H | _, _ => False
theorem div_ok : BinOK c d .FloorDiv wDiv := by
  intro A E s φ H v w x y Q ao ok rv rw' q
  unfold wDiv at q
  split at q
  · cases rv; cases rw'
    exact floordiv_int q.1.1 (.here q.2 ok .int (fun _ _ e => e) (Rest.mk s s.heap _)) (.inl (PyProof.noPylong_small q.1.2))
  · exact q.elim
theorem eq_okI : CmpOK c d .Eq (onI fun i j => .bool (i == j)) := by
  intro A E s φ H v w x y Q ao ok rv rw' q
  obtain ⟨i, j, rfl, rfl, q⟩ := onI_of q
  cases rv; cases rw'
  exact eq_int (.here q ok .bool (fun _ _ e => e) (Rest.refl s))
theorem gt_okI : CmpOK c d .Gt (onI fun i j => .bool (decide (j < i))) := by
  intro A E s φ H v w x y Q ao ok rv rw' q
  obtain ⟨i, j, rfl, rfl, q⟩ := onI_of q
  cases rv; cases rw'
  exact gt_int (.here q ok .bool (fun _ _ e => e) (Rest.refl s))
theorem ge_okI : CmpOK c d .GtE (onI fun i j => .bool (decide (j ≤ i))) := by
  intro A E s φ H v w x y Q ao ok rv rw' q
  obtain ⟨i, j, rfl, rfl, q⟩ := onI_of q
  cases rv; cases rw'
  exact ge_int (.here q ok .bool (fun _ _ e => e) (Rest.refl s))

/-- «is None» -/
def isN : V → Bool | .none => true | _ => false
theorem isN_of {φ h v x} (r : RepV c φ h v x) : (x == Value.none) = isN v := by cases r <;> rfl
def wIsN (f : Bool → Bool) : WB := fun v w H Q => match w with | .none => Q (.bool (f (isN v))) H | _ => False
/-! ### tests -/
def tv (w : WE) : WT := fun sl H Q => w sl H fun v H' => match v with | .bool b => Q b H' | _ => False
/-- a comparison as a test -/
theorem et_cmp {op f l r pos a b} (B : CmpOK c d op f) (hl : Ev c d sc ρ l a) (hr : Ev c d sc ρ r b) (hm : behindInMarks op r = false := by with_unfolding_all rfl) : Et c d sc ρ (.Compare l [op] [r] pos) (tv (wBin f a b)) := by
  intro env A E s φ sl H Q eo ao ok vs w
  refine wpAny_isTrue_Compare1 (wpAny_mono (hl env A E s φ sl H _ eo ao ok vs w) (fun x s₁ p₁ => ?_) fun _ _ e => e) hm
  obtain ⟨v, H₁, φ₁, w₁, ok₁, rv, g₁, r₁⟩ := p₁
  refine wpAny_mono (hr env A E s₁ φ₁ sl H₁ _ eo ao ok₁ (vs.grow g₁) w₁) (fun y s₂ p₂ => ?_) fun _ _ e => e
  obtain ⟨u, H₂, φ₂, w₂, ok₂, ru, g₂, r₂⟩ := p₂
  refine wpAny_mono (B A E s₂ φ₂ H₂ v u x y _ ao ok₂ (rv.grow g₂) ru w₂) (fun z s₃ p₃ => ?_) fun _ _ e => e
  obtain ⟨t, H₃, φ₃, w₃, ok₃, rt, g₃, r₃⟩ := p₃
  split at w₃
  · cases rt
    exact wpAny_truthy_bool ⟨H₃, φ₃, w₃, ok₃, (g₁.trans g₂).trans g₃, (r₁.trans r₂).trans r₃⟩
  · exact w₃.elim
def tNot (w : WT) : WT := fun sl H Q => w sl H fun b H' => Q (!b) H'
def tAnd (a b : WT) : WT := fun sl H Q => a sl H fun t H' => if t then b sl H' Q else Q false H'
def tOr (a b : WT) : WT := fun sl H Q => a sl H fun t H' => if t then Q true H' else b sl H' Q
theorem et_and {x y pos a b} (hx : Et c d sc ρ x a) (hy : Et c d sc ρ y b) : Et c d sc ρ (.BoolOp .And [x, y] pos) (tAnd a b) := by
  intro env A E s φ sl H Q eo ao ok vs q
  show wpAny _ _ (isTrue x env (eval x env) >>= fun b => match BoolOp.And, b with | .And, false => pure false | .Or, true => pure true | _, _ => isTrue y env (eval y env) >>= fun b' => match BoolOp.And, b' with | .And, false => pure false | .Or, true => pure true | _, _ => pure true) _ _ _
  refine wpAny_bind (wpAny_mono (hx env A E s φ sl H _ eo ao ok vs q) (fun t s₁ p => ?_) fun _ _ e => e)
  obtain ⟨H₁, φ₁, w₁, ok₁, g₁, r₁⟩ := p
  cases t with
  | false => exact wpAny_pure ⟨H₁, φ₁, by simpa using w₁, ok₁, g₁, r₁⟩
  | true =>
    simp only [if_true] at w₁
    refine wpAny_bind (wpAny_mono (hy env A E s₁ φ₁ sl H₁ _ eo ao ok₁ (vs.grow g₁) w₁) (fun t s₂ p => ?_) fun _ _ e => e)
    have p' := p.shift g₁ r₁
    cases t <;> exact wpAny_pure p'
theorem et_or {x y pos a b} (hx : Et c d sc ρ x a) (hy : Et c d sc ρ y b) : Et c d sc ρ (.BoolOp .Or [x, y] pos) (tOr a b) := by
  intro env A E s φ sl H Q eo ao ok vs q
  show wpAny _ _ (isTrue x env (eval x env) >>= fun b => match BoolOp.Or, b with | .And, false => pure false | .Or, true => pure true | _, _ => isTrue y env (eval y env) >>= fun b' => match BoolOp.Or, b' with | .And, false => pure false | .Or, true => pure true | _, _ => pure false) _ _ _
  refine wpAny_bind (wpAny_mono (hx env A E s φ sl H _ eo ao ok vs q) (fun t s₁ p => ?_) fun _ _ e => e)
  obtain ⟨H₁, φ₁, w₁, ok₁, g₁, r₁⟩ := p
  cases t with
  | true => exact wpAny_pure ⟨H₁, φ₁, by simpa using w₁, ok₁, g₁, r₁⟩
  | false =>
    simp only [Bool.false_eq_true, if_false] at w₁
    refine wpAny_bind (wpAny_mono (hy env A E s₁ φ₁ sl H₁ _ eo ao ok₁ (vs.grow g₁) w₁) (fun t s₂ p => ?_) fun _ _ e => e)
    have p' := p.shift g₁ r₁
    cases t <;> exact wpAny_pure p'

/-! ### lists of expressions, displays -/
def wNil : WEs := fun _ H Q => Q [] H
def wCons (a : WE) (b : WEs) : WEs := fun sl H Q => a sl H fun v H₁ => b sl H₁ fun vs H₂ => Q (v :: vs) H₂
theorem evs_nil : Evs c d sc ρ [] wNil := ⟨fun _ => rfl, fun _ _ _ _ _ _ _ _ _ _ ok _ w _ => Calls.spliced_nil ⟨[], _, _, w, ok, .nil, .refl _ _, Rest.refl _⟩⟩
theorem evs_cons {e es a b} (he : Ev c d sc ρ e a) (hes : Evs c d sc ρ es b) (hs : ∀ env, starEach (e :: es) env = (false, eval e env) :: starEach es env) : Evs c d sc ρ (e :: es) (wCons a b) := by
  refine ⟨fun env => by rw [hs, hes.1]; rfl, ?_⟩
  intro env A E s φ sl H Q eo ao ok vs w pos
  rw [hs]
  show wpAny _ _ (spliced ((false, eval e env) :: backTo pos (starEach es env))) _ _ _
  refine Calls.spliced_cons (wpAny_mono (he env A E s φ sl H _ eo ao ok vs w) (fun x s₁ p₁ => ?_) fun _ _ e => e)
  obtain ⟨v, H₁, φ₁, w₁, ok₁, rv, g₁, r₁⟩ := p₁
  refine wpAny_mono (hes.2 env A E s₁ φ₁ sl H₁ _ eo ao ok₁ (vs.grow g₁) w₁ pos) (fun y s₂ p₂ => ?_) fun _ _ e => e
  obtain ⟨u, H₂, φ₂, w₂, ok₂, ru, g₂, r₂⟩ := p₂
  exact ⟨v :: u, H₂, φ₂, w₂, ok₂, .cons (rv.grow g₂) ru, g₁.trans g₂, r₁.trans r₂⟩

theorem new_none (h : Heap) : h.get? h.objs.size = none := Heap.get?_none_of_le (Nat.le_refl _)
/-- a new list -/
theorem new_list {φ H} {s : Shared} {xs ys} {Q : V → HW → Prop} (ok : Ok c φ H s.heap) (r : RepVs c φ s.heap xs ys) (q : Q (.loc H.length) (H ++ [.list xs])) {n} (s' : Shared) (hs : s' = { s with heap := s.heap.push { cls := .type "list", data := .seq ys.toArray n }, toks := s'.toks }) :
    PostE c φ s Q (.ref s.heap.objs.size) s' := by
  obtain ⟨ok', g⟩ := ok.alloc (lo := .list xs) (new_none s.heap) (h' := s.heap.push { cls := .type "list", data := .seq ys.toArray n }) (fun b o e => Heap.get?_push_of_some _ e) (Heap.get?_push_size _ rfl) (.list r) ok.newS
  rw [hs]
  exact ⟨_, _, _, q, ok', .loc (by rw [← ok.len]; simp), g, _, _, rfl⟩
/-- a new tuple -/
theorem new_tup {φ H} {s : Shared} {xs ys} {Q : V → HW → Prop} (ok : Ok c φ H s.heap) (r : RepVs c φ s.heap xs ys) (q : Q (.tup xs) H) {n} (s' : Shared) (hs : s' = { s with heap := s.heap.push { cls := .type "tuple", data := .seq ys.toArray n }, toks := s'.toks }) :
    PostE c φ s Q (.ref s.heap.objs.size) s' := by
  obtain ⟨ok', g⟩ := ok.freeze (new_none s.heap) (h' := s.heap.push { cls := .type "tuple", data := .seq ys.toArray n }) (fun b o e => Heap.get?_push_of_some _ e) (Heap.get?_push_size _ rfl)
  rw [hs]
  refine ⟨_, _, _, q, ok', .tup (n := n) ?_ ?_ ?_ (Heap.get?_push_size _ rfl) (r.grow g), g, _, _, rfl⟩
  · intro m; obtain ⟨o, e⟩ := ok.live m; rw [new_none] at e; cases e
  · exact List.mem_append_right _ (.head _)
  · cases q : c.h₀.get? s.heap.objs.size with
    | none => rfl
    | some o => have := ok.base _ _ q; rw [new_none] at this; cases this
def wList (a : WEs) : WE := fun sl H Q => a sl H fun vs H₁ => vs.length ≤ 1000000 ∧ Q (.loc H₁.length) (H₁ ++ [.list vs])
def wTup (a : WEs) : WE := fun sl H Q => a sl H fun vs H₁ => vs.length ≤ 1000000 ∧ Q (.tup vs) H₁
theorem ev_list {es pos a} (he : Evs c d sc ρ es a) : Ev c d sc ρ (.List es pos) (wList a) := by
  intro env A E s φ sl H Q eo ao ok vs w
  refine List_ (wpAny_mono (he.2 env A E s φ sl H _ eo ao ok vs w pos) (fun x s₁ p₁ => ?_) fun _ _ e => e)
  obtain ⟨v, H₁, φ₁, w₁, ok₁, rv, g₁, r₁⟩ := p₁
  exact wpAny_newObj_type ((new_list ok₁ rv w₁.2 _ rfl).shift g₁ r₁) (by show x.toArray.size ≤ sizeLine; rw [List.size_toArray, ← rv.length, sizeLine_eq]; exact Nat.le_trans w₁.1 (by decide))
theorem ev_tup {es k pos a} (he : Evs c d sc ρ es a) : Ev c d sc ρ (.Tuple es k pos) (wTup a) := by
  intro env A E s φ sl H Q eo ao ok vs w
  refine Tuple_ (wpAny_mono (he.2 env A E s φ sl H _ eo ao ok vs w pos) (fun x s₁ p₁ => ?_) fun _ _ e => e)
  obtain ⟨v, H₁, φ₁, w₁, ok₁, rv, g₁, r₁⟩ := p₁
  exact wpAny_newObj_type ((new_tup ok₁ rv w₁.2 _ rfl).shift g₁ r₁) (by show x.toArray.size ≤ sizeLine; rw [List.size_toArray, ← rv.length, sizeLine_eq]; exact Nat.le_trans w₁.1 (by decide))
end
end Mine

namespace Mine
section
variable {c : Cx} {d : Nat} {sc : Scope} {ρ : List Str}

/-! ### lists that are read -/
def asL (ns : List Int) (H : HW) : V → Option (List V)
  | .loc k => match H[k]? with | some (.list xs) => some xs | _ => none
  | .script => some (ns.map .int)
  | _ => none
theorem repInts {φ h} : ∀ {vs : List Value} {ns : List Int}, IntsAre vs ns → RepVs c φ h (ns.map .int) vs
  | _, _, .nil => .nil
  | _, _, .cons _ _ r => .cons .int (repInts r)
theorem asL_of (G : Good c) {φ H h v x xs} (ok : Ok c φ H h) (r : RepV c φ h v x) (e : asL c.ns H v = some xs) : ∃ a ys, x = .ref a ∧ h.IsList a ys.toArray ∧ RepVs c φ h xs ys := by
  cases r <;> simp only [asL] at e <;> try (cases e; done)
  · rename_i k a hk
    split at e
    · rename_i xs' e'
      cases e
      obtain ⟨o, h1, h2⟩ := ok.objs k a _ hk e'
      cases h2 with
      | list r => exact ⟨a, _, rfl, ⟨_, h1, rfl, _, rfl⟩, r⟩
    · cases e
  · cases e
    obtain ⟨o, ho, r⟩ := G.S
    exact ⟨_, _, rfl, ⟨o, ok.base _ _ ho, r⟩, repInts G.I⟩
/-- an own list -/
theorem loc_list {φ H h} {k : Nat} {x xs} (ok : Ok c φ H h) (r : RepV c φ h (.loc k) x) (e : H[k]? = some (.list xs)) : ∃ a ys n, x = .ref a ∧ φ.l[k]? = some a ∧ IsL h a ys.toArray n ∧ RepVs c φ h xs ys := by
  cases r with
  | loc hk =>
    obtain ⟨o, h1, h2⟩ := ok.objs k _ _ hk e
    cases h2 with
    | list r => exact ⟨_, _, _, rfl, hk, h1, r⟩

/-! ### calls -/
theorem plain_any {es : List Expr} {env : Env} {pos : Pos} (h : starEach es env = es.map fun e => (false, eval e env)) : (backTo pos (starEach es env)).any (·.1) = false := by
  rw [h]
  unfold backTo
  rw [List.map_map]
  induction es with
  | nil => rfl
  | cons e es ih => simp at ih ⊢
theorem evalArgs_of {M : Model} {A : Around} {E : Value → Shared → Prop} {s : Shared} {env : Env} {f : Value} {es : List Expr} {pos : Pos} {Q : Args → Shared → Prop} (hp : starEach es env = es.map fun e => (false, eval e env))
    (h : wpAny M A (spliced (backTo pos (starEach es env))) (fun vs s' => Q ⟨vs, []⟩ s') E s) : wpAny M A (evalArgs f true (backTo pos (starEach es env)) []) Q E s := by
  cases es with
  | nil =>
    unfold evalArgs
    show wpAny M A (spliced (backTo pos (starEach [] env)) >>= _) Q E s
    refine wpAny_bind (wpAny_mono h (fun vs s' h' => ?_) fun _ _ x => x)
    exact wpAny_bind (wpAny_pure (wpAny_holding (wpAny_bind (wpAny_pure (wpAny_bind (wpAny_pure (wpAny_pure h')))))))
  | cons e es =>
    rw [hp] at h ⊢
    exact Calls.evalArgs_plain h

/-- a name of the top -/
theorem name_glob {env : Env} {A E s φ H x pos v} {R : Value → Shared → Prop} (G : Good c) (eo : EnvOK sc env) (ok : Ok c φ H s.heap) (hk : sc.kind = .function) (hx : sc.names.lookup x = some .globalImplicit) (hv : c.mg x = some v) (hd : (x == ("__debug__" : Str)) = false)
    (k : R v s) : wpAny (model c.prog c.w) A (eval (.Name x pos) env) R E s :=
  Calls.Name_function_global (by rw [eo.scope]; exact hk) ((eo.kind x).trans hx) (Calls.loadGlobal_global (by rw [eo.glob]; exact ok.G G) hv k) hd
theorem name_built {env : Env} {A E s φ H x pos v} {R : Value → Shared → Prop} (G : Good c) (eo : EnvOK sc env) (ok : Ok c φ H s.heap) (hk : sc.kind = .function) (hx : sc.names.lookup x = some .globalImplicit) (hg : c.mg x = none) (hv : c.mb x = some v) (hd : (x == ("__debug__" : Str)) = false)
    (k : R v s) : wpAny (model c.prog c.w) A (eval (.Name x pos) env) R E s :=
  Calls.Name_function_global (by rw [eo.scope]; exact hk) ((eo.kind x).trans hx) (Calls.loadGlobal_builtin (by rw [eo.glob]; exact ok.G G) hg (by rw [eo.bi]; exact ok.B G) hv k) hd

def wCall (W : WF) (as : WEs) : WE := fun sl H Q => as sl H fun vs H₁ => W vs H₁ Q
/-- a def or a class of the top, called by its name -/
theorem ev_call {x np args pos f W as} (G : Good c) (hk : sc.kind = .function) (hx : sc.names.lookup x = some .globalImplicit) (hv : c.mg x = some f) (hd : (x == ("__debug__" : Str)) = false) (hkeep : keepIn c.K f = true)
    (hf : FnOK c d f W) (ha : Evs c d sc ρ args as) : Ev c d sc ρ (.Call (.Name x np) args [] pos) (wCall W as) := by
  intro env A E s φ sl H Q eo ao ok vs w
  refine Call_Name rfl (name_glob G eo ok hk hx hv hd ?_)
  refine callWith_of (P := fun h => c.K.In h) (by rw [plain_any (ha.1 env)]; rfl) (keeps_K hkeep) (evalArgs_of (ha.1 env) ?_)
  refine wpAny_mono (ha.2 env A E s φ sl H _ eo ao ok vs w pos) (fun ys s₁ p₁ => ?_) fun _ _ e => e
  obtain ⟨v, H₁, φ₁, w₁, ok₁, rv, g₁, r₁⟩ := p₁
  exact ⟨ok₁.X G, wpAny_mono (hf A E s₁ φ₁ H₁ v ys Q ao ok₁ rv w₁) (fun z s₂ p₂ => p₂.shift g₁ r₁) fun _ _ e => e⟩
/-- a built-in function -/
theorem ev_callB {x np args pos id W as} (G : Good c) (hk : sc.kind = .function) (hx : sc.names.lookup x = some .globalImplicit) (hg : c.mg x = none) (hv : c.mb x = some (.builtin id)) (hd : (x == ("__debug__" : Str)) = false)
    (hf : FnOK c d (.builtin id) W) (ha : Evs c d sc ρ args as) : Ev c d sc ρ (.Call (.Name x np) args [] pos) (wCall W as) := by
  intro env A E s φ sl H Q eo ao ok vs w
  refine Call_Name rfl (name_built G eo ok hk hx hg hv hd ?_)
  refine Calls.callWith_builtin (plain_any (ha.1 env)) (evalArgs_of (ha.1 env) ?_)
  refine wpAny_mono (ha.2 env A E s φ sl H _ eo ao ok vs w pos) (fun ys s₁ p₁ => ?_) fun _ _ e => e
  obtain ⟨v, H₁, φ₁, w₁, ok₁, rv, g₁, r₁⟩ := p₁
  exact wpAny_mono (hf A E s₁ φ₁ H₁ v ys Q ao ok₁ rv w₁) (fun z s₂ p₂ => p₂.shift g₁ r₁) fun _ _ e => e

/-! ### instances of the text's classes -/
def clsV (c : Cx) (H : HW) : V → Option Nat
  | .obj k _ => some k
  | .loc j => match H[j]? with | some (.inst k _) => some k | _ => none
  | .glob a => (c.gC a).map (·.1)
  | _ => none
def slotV (c : Cx) (H : HW) (i : Nat) : V → Option V
  | .obj _ fs => fs[i]?
  | .loc j => match H[j]? with | some (.inst _ fs) => (fs[i]?).join | _ => none
  | .glob a => match c.gC a with | some (_, n) => if i < n then some .none else none | none => none
  | _ => none
theorem inst_of (G : Good c) {φ H h v x k} (ok : Ok c φ H h) (r : RepV c φ h v x) (e : clsV c H v = some k) :
    ∃ a ox, x = .ref a ∧ InstAt h a ox (c.cls k) (some (dictOf [] 0)) ∧ ∀ i u, slotV c H i v = some u → ∃ y, (ox.slots[i]?).join = some y ∧ RepV c φ h u y := by
  cases r <;> simp only [clsV] at e <;> try (cases e; done)
  · rename_i j a hj
    split at e
    · rename_i k' fs e'
      cases e
      obtain ⟨o, h1, h2⟩ := ok.objs j a _ hj e'
      cases h2 with
      | inst r z n y eb =>
        refine ⟨a, _, rfl, ⟨h1, rfl, rfl, eb⟩, fun i u hu => ?_⟩
        simp only [slotV, e'] at hu
        exact r i u hu
    · cases e
  · rename_i fs xs a b sl n z m y n0 e1 es e2 r
    cases e
    refine ⟨a, _, rfl, ⟨e1, rfl, rfl, e2⟩, fun i u hu => ?_⟩
    simp only [slotV] at hu
    obtain ⟨y, h1, h2⟩ := r.get hu
    exact ⟨y, by show (sl[i]?).join = some y; rw [es, h1], h2⟩
  · rename_i a o ho
    obtain ⟨⟨k', n⟩, h1, rfl⟩ := Option.map_eq_some_iff.mp e
    obtain ⟨b, h2, h3⟩ := G.gl a k' n h1
    refine ⟨a, _, rfl, ⟨ok.base _ _ h2, rfl, rfl, ok.base _ _ h3⟩, fun i u hu => ?_⟩
    simp only [slotV, h1] at hu
    split at hu
    · rename_i hi
      cases hu
      exact ⟨.none, by simp [hi], .none⟩
    · cases hu

def wMeth (c : Cx) (k : Nat) (W : WF) (a : WE) (as : WEs) : WE := fun sl H Q => a sl H fun v H₁ => clsV c H₁ v = some k ∧ as sl H₁ fun vs H₂ => W (v :: vs) H₂ Q
theorem ev_meth {o name apos args pos f k W a as} {pl : Env → Sem Bool} (G : Good c) (ho : Ev c d sc ρ o a) (ha : Evs c d sc ρ args as) (hf : FnOK c d (.ref f) W)
    (hg : plainGet c.K (c.cls k) name = true) (hm : findIn c.K (.ref (c.cls k)) name = some (some (.ref f))) (ht : isFn c.K (.ref f) = true) (hkeep : keepIn c.K (.ref f) = true)
    (he : ∀ env, eval (.Call (.Attribute o name apos) args [] pos) env = (do
      let ov ← eval o env
      standAt apos.atName
      let (f, first) ← holding [ov] (getMethod ov name (pl env))
      callWith pos f first (backTo pos (starEach args env)) (backToKw pos (keywordEach [] env)))) : Ev c d sc ρ (.Call (.Attribute o name apos) args [] pos) (wMeth c k W a as) := by
  intro env A E s φ sl H Q eo ao ok vs w
  refine methodCall_KW (pl := pl env) (wpAny_mono (ho env A E s φ sl H _ eo ao ok vs w) (fun x s₁ p₁ => ?_) fun _ _ e => e) (he env)
  obtain ⟨v, H₁, φ₁, ⟨wc, w₁⟩, ok₁, rv, g₁, r₁⟩ := p₁
  obtain ⟨xa, ox, rfl, I, _⟩ := inst_of G ok₁ rv wc
  refine method_fn (ok₁.X G) I (plainGet_of hg).1 (plainGet_of hg).2 hm (beq_iff_eq.mp ht) rfl ?_
  refine callWith_of (P := fun h => c.K.In h) (by rw [plain_any (ha.1 env)]; rfl) (keeps_K hkeep) (evalArgs_of (ha.1 env) ?_)
  refine wpAny_mono (ha.2 env A E s₁ φ₁ sl H₁ _ eo ao ok₁ (vs.grow g₁) w₁ pos) (fun ys s₂ p₂ => ?_) fun _ _ e => e
  obtain ⟨u, H₂, φ₂, w₂, ok₂, ru, g₂, r₂⟩ := p₂
  exact ⟨ok₂.X G, wpAny_mono (hf A E s₂ φ₂ H₂ (v :: u) _ Q ao ok₂ (.cons (rv.grow g₂) ru) w₂) (fun z s₃ p₃ => p₃.shift (g₁.trans g₂) (r₁.trans r₂)) fun _ _ e => e⟩

/-- a slot that is read -/
def wSlot (c : Cx) (k i : Nat) (a : WE) : WE := fun sl H Q => a sl H fun v H₁ => clsV c H₁ v = some k ∧ match slotV c H₁ i v with | some u => Q u H₁ | none => False
theorem ev_slot {o name pos a k p i} (G : Good c) (ho : Ev c d sc ρ o a) (hg : plainGet c.K (c.cls k) name = true) (hc : isClsIn c.K (c.cls k) = true)
    (ha : findIn c.K (.ref (c.cls k)) name = some (some (.ref p))) (hn : specialIn c.K (.ref p) "__get__" = some (some (.builtin "member_descriptor.__get__"))) (ht : takesIn c.K (.ref p) = some true) (hp : slotIn c.K p (c.cls k) = some i)
    (he : ∀ env, eval (.Attribute o name pos) env = (eval o env >>= fun ov => standAt pos.atName >>= fun _ => holding [ov] (getAttr ov name true) >>= fun r => pure r)) : Ev c d sc ρ (.Attribute o name pos) (wSlot c k i a) := by
  intro env A E s φ sl H Q eo ao ok vs w
  rw [he]
  refine wpAny_bind (wpAny_mono (ho env A E s φ sl H _ eo ao ok vs w) (fun x s₁ p₁ => ?_) fun _ _ e => e)
  obtain ⟨v, H₁, φ₁, ⟨wc, w₁⟩, ok₁, rv, g₁, r₁⟩ := p₁
  obtain ⟨xa, ox, rfl, I, hs⟩ := inst_of G ok₁ rv wc
  split at w₁
  · rename_i u eu
    obtain ⟨y, hy, ry⟩ := hs i u eu
    have hh : handedIn y = true := by cases ry <;> rfl
    refine wpAny_bind (wpAny_standAt (wpAny_bind (wpAny_holding ?_)))
    refine get_bind (ok₁.X G) I (plainGet_of hg).1 (findObj_data hc ha hn ht) (plainGet_of hg).2 (wpAny_call (slot_get (s := { s₁ with toks := s₁.toks + 1 }) (ok₁.X G) I hp hy (handed_on hh ?_)))
    exact wpAny_pure ((PostE.here (s' := { s₁ with toks := s₁.toks + 1 }) w₁ ok₁ ry (fun _ _ e => e) (Rest.mk s₁ s₁.heap _)).shift g₁ r₁)
  · exact w₁.elim
end
end Mine

namespace Mine
section
variable {c : Cx} {d : Nat} {sc : Scope} {ρ : List Str}

/-! ### items of a list -/
def getI (xs : List V) (k : Int) : Option V := if 0 ≤ k then xs[k.toNat]? else if -(xs.length : Int) ≤ k then xs[(k + xs.length).toNat]? else none
def wIdx (ns : List Int) (a b : WE) : WE := fun sl H Q => a sl H fun v H₁ => b sl H₁ fun w H₂ => match asL ns H₂ v, w with
  | some xs, .int k => xs.length ≤ 1000000 ∧ (match getI xs k with | some u => Q u H₂ | none => False)
  | _, _ => False
theorem item_ok (G : Good c) {A E s φ H v x xs k t u} {R : Value → Shared → Prop} (ok : Ok c φ H s.heap) (rv : RepV c φ s.heap v x) (e : asL c.ns H v = some xs) (hl : xs.length ≤ 1000000) (hg : getI xs k = some u)
    (h : ∀ y, RepV c φ s.heap u y → R y s) : wpAny (model c.prog c.w) A (getItem x (.int k t)) R E s := by
  obtain ⟨a, ys, rfl, il, r⟩ := asL_of G ok rv e
  have len := r.length
  unfold getI at hg
  split at hg
  · rename_i h0
    obtain ⟨y, h1, h2⟩ := r.get hg
    have hb := (List.getElem?_eq_some_iff.mp hg).1
    exact wpAny_getItem_list il h0 (by omega) (by simpa using h1) (h y h2)
  · rename_i h0
    split at hg
    · rename_i h1
      obtain ⟨y, h2, h3⟩ := r.get hg
      refine wpAny_getItem_list_neg il (by omega) (by simp only [List.size_toArray]; omega) (by omega) ?_ (h y h3)
      simp only [List.size_toArray, List.getElem?_toArray]
      rw [← len]; exact h2
    · cases hg
/-! ### slices -/
def sliceV {α : Type} (xs : List α) (lo hi st : Option Int) : List α := (sliceRange (sliceBounds lo hi st xs.length).1 (sliceBounds lo hi st xs.length).2.1 (sliceBounds lo hi st xs.length).2.2).filterMap (xs[·]?)
theorem RepVs.pick {φ h} {xs ys} (r : RepVs c φ h xs ys) : ∀ is : List Nat, RepVs c φ h (is.filterMap (xs[·]?)) (is.filterMap (ys[·]?))
  | [] => .nil
  | i :: is => by
    have ih := r.pick is
    by_cases hi : i < xs.length
    · obtain ⟨y, h1, h2⟩ := r.get (List.getElem?_eq_getElem hi)
      rw [List.filterMap_cons_some (List.getElem?_eq_getElem hi), List.filterMap_cons_some h1]
      exact .cons h2 ih
    · rw [List.filterMap_cons_none (List.getElem?_eq_none (Nat.not_lt.mp hi)), List.filterMap_cons_none (List.getElem?_eq_none (by rw [← r.length]; exact Nat.not_lt.mp hi))]
      exact ih
abbrev WO := Sl → HW → (Option Int → HW → Prop) → Prop
def EvO (c : Cx) (d : Nat) (sc : Scope) (ρ : List Str) (e : Option Expr) (W : WO) : Prop :=
  ∀ env A E s φ sl H Q, EnvOK sc env → AOK d A → Ok c φ H s.heap → Vars c ρ φ s.heap env sl → W sl H Q → wpAny (model c.prog c.w) A (valueOrNone (evalOpt e env)) (fun x s' => ∃ v H' φ', Q v H' ∧ Ok c φ' H' s'.heap ∧ IsPart x v ∧ Grow φ s.heap φ' s'.heap ∧ Rest s s') E s
def oNone : WO := fun _ H Q => Q none H
def oSome (a : WE) : WO := fun sl H Q => a sl H fun v H' => match v with | .int i => Q (some i) H' | _ => False
theorem evo_none : EvO c d sc ρ none oNone := fun _ _ _ s φ _ H _ _ _ ok _ w => wpAny_pure ⟨none, H, φ, w, ok, .none, .refl _ _, Rest.refl s⟩
theorem evo_some {e a} (h : Ev c d sc ρ e a) : EvO c d sc ρ (some e) (oSome a) := by
  intro env A E s φ sl H Q eo ao ok vs w
  show wpAny _ _ (eval e env) _ _ _
  refine wpAny_mono (h env A E s φ sl H _ eo ao ok vs w) (fun x s₁ p₁ => ?_) fun _ _ e => e
  obtain ⟨v, H₁, φ₁, w₁, ok₁, rv, g₁, r₁⟩ := p₁
  split at w₁
  · cases rv
    exact ⟨_, H₁, φ₁, w₁, ok₁, .int _ _, g₁, r₁⟩
  · exact w₁.elim
def wSlice (ns : List Int) (a : WE) (lo hi st : WO) : WE := fun sl H Q => a sl H fun v H₁ => lo sl H₁ fun l H₂ => hi sl H₂ fun u H₃ => st sl H₃ fun k H₄ => match asL ns H₄ v with
  | some xs => (xs.length ≤ 1000000 ∧ k ≠ some 0) ∧ Q (.loc H₄.length) (H₄ ++ [.list (sliceV xs l u k)])
  | none => False
theorem ev_slice {o lo hi st spos pos a wl wu wk} (G : Good c) (ho : Ev c d sc ρ o a) (hlo : EvO c d sc ρ lo wl) (hhi : EvO c d sc ρ hi wu) (hst : EvO c d sc ρ st wk) : Ev c d sc ρ (.Subscript o (.Slice lo hi st spos) pos) (wSlice c.ns a wl wu wk) := by
  intro env A E s φ sl H Q eo ao ok vs w
  refine Subscript_ (wpAny_mono (ho env A E s φ sl H _ eo ao ok vs w) (fun x s₁ p₁ => ?_) fun _ _ e => e)
  obtain ⟨v, H₁, φ₁, w₁, ok₁, rv, g₁, r₁⟩ := p₁
  show wpAny _ _ (valueOrNone (evalOpt lo env) >>= fun l => holding [l] (valueOrNone (evalOpt hi env)) >>= fun u => holding [l, u] (valueOrNone (evalOpt st env)) >>= fun k => newFields "slice" [l, u, k]) _ _ _
  refine wpAny_bind (wpAny_mono (hlo env A E s₁ φ₁ sl H₁ _ eo ao ok₁ (vs.grow g₁) w₁) (fun xl s₂ p₂ => ?_) fun _ _ e => e)
  obtain ⟨l, H₂, φ₂, w₂, ok₂, pl, g₂, r₂⟩ := p₂
  refine wpAny_bind (wpAny_holding (wpAny_mono (hhi env A E s₂ φ₂ sl H₂ _ eo ao ok₂ (vs.grow (g₁.trans g₂)) w₂) (fun xu s₃ p₃ => ?_) fun _ _ e => e))
  obtain ⟨u, H₃, φ₃, w₃, ok₃, pu, g₃, r₃⟩ := p₃
  refine wpAny_bind (wpAny_holding (wpAny_mono (hst env A E s₃ φ₃ sl H₃ _ eo ao ok₃ (vs.grow ((g₁.trans g₂).trans g₃)) w₃) (fun xk s₄ p₄ => ?_) fun _ _ e => e))
  obtain ⟨k, H₄, φ₄, w₄, ok₄, pk, g₄, r₄⟩ := p₄
  have rv₄ := rv.grow ((g₂.trans g₃).trans g₄)
  split at w₄
  · rename_i xs ex
    obtain ⟨⟨hz, hk⟩, w₄⟩ := w₄
    obtain ⟨al, ys, rfl, il, rr⟩ := asL_of G ok₄ rv₄ ex
    refine wpAny_newObj_type ?_
    have kp : ∀ b o, s₄.heap.get? b = some o → (s₄.heap.push { cls := .type "slice", data := .fields #[xl, xu, xk] }).get? b = some o := fun b o e => Heap.get?_push_of_some _ e
    have ok₅ := ok₄.keep kp
    have il₅ : (s₄.heap.push { cls := .type "slice", data := .fields #[xl, xu, xk] }).IsList al ys.toArray := il.push _
    refine tail_any (ops := match st with | none => [_, _] | some _ => [_, _]) (s := { s₄ with heap := s₄.heap.push { cls := .type "slice", data := .fields #[xl, xu, xk] } }) il₅.typeIs slot_list_getitem.lookup
      (wpAny_getItem_list_slice il₅ (Heap.IsSliceOf.new _ _ _ _) pl pu pk hk ?_ (by rw [List.size_toArray, ← rr.length, sizeLine_eq]; omega)) (by cases st <;> rfl)
    have rp : RepVs c φ₄ (s₄.heap.push { cls := .type "slice", data := .fields #[xl, xu, xk] }) (sliceV xs l u k) ((sliceRange (sliceBounds l u k ys.toArray.size).1 (sliceBounds l u k ys.toArray.size).2.1 (sliceBounds l u k ys.toArray.size).2.2).filterMap (ys.toArray[·]?)) := by
      have := (rr.keep (h' := s₄.heap.push { cls := .type "slice", data := .fields #[xl, xu, xk] }) fun b o _ e => kp b o e).pick (sliceRange (sliceBounds l u k xs.length).1 (sliceBounds l u k xs.length).2.1 (sliceBounds l u k xs.length).2.2)
      unfold sliceV
      simp only [List.size_toArray, List.getElem?_toArray]
      rw [← rr.length]
      exact this
    exact (new_list (s := { s₄ with heap := s₄.heap.push { cls := .type "slice", data := .fields #[xl, xu, xk] } }) ok₅ rp w₄ _ rfl).shift (((g₁.trans g₂).trans g₃).trans (g₄.trans (.of_keep kp))) (((r₁.trans r₂).trans r₃).trans (r₄.trans (Rest.mk s₄ _ _)))
  · exact w₄.elim

/-! ### lists joined and compared -/
def wAddL (ns : List Int) : WB := fun v w H Q => match asL ns H v, asL ns H w with
  | some xs, some ys => xs.length + ys.length ≤ 1000000 ∧ Q (.loc H.length) (H ++ [.list (xs ++ ys)])
  | _, _ => False
theorem addL_ok (G : Good c) : BinOK c d .Add (wAddL c.ns) := by
  intro A E s φ H v w x y Q ao ok rv rw' q
  unfold wAddL at q
  split at q
  · rename_i xs ys e1 e2
    obtain ⟨a, us, rfl, il, r1⟩ := asL_of G ok rv e1
    obtain ⟨b, ws, rfl, il', r2⟩ := asL_of G ok rw' e2
    obtain ⟨⟨cls, dd, data, sl⟩, ho, hc, n, hd⟩ := id il
    obtain ⟨⟨cls2, dd2, data2, sl2⟩, ho2, hc2, n2, hd2⟩ := id il'
    simp only at hc hd hc2 hd2
    subst hc hd hc2 hd2
    have e : us.toArray ++ ws.toArray = (us ++ ws).toArray := by simp
    refine concat_meets ⟨_, ho, rfl⟩ ⟨_, ho2, rfl⟩ noFill_list_add seq_list_add PySem.F.slot_list_add PySem.F.entry_list_add (PySem.F.args_list_add_2 _ _) (list_addW a b us.toArray ws.toArray n n2 dd dd2 sl sl2 (by simp only [List.size_toArray]; rw [← r1.length, ← r2.length, sizeLine_eq]; omega)) ⟨ho, ho2, ?_⟩
    rw [e]
    exact new_list ok (r1.append r2) q.2 _ rfl
  · exact q.elim
def intsV : List V → Option (List Int)
  | [] => some []
  | .int i :: r => (intsV r).map (i :: ·)
  | _ => none
theorem intsV_map (ns : List Int) : intsV (ns.map .int) = some ns := by
  induction ns with
  | nil => rfl
  | cons n r ih => simp [intsV, ih]
theorem intsV_of : ∀ {xs : List V} {ns : List Int}, intsV xs = some ns → xs = ns.map .int
  | [], _, e => by simp only [intsV] at e; cases e; rfl
  | .int i :: r, ns, e => by
    simp only [intsV] at e
    obtain ⟨ns', h1, rfl⟩ := Option.map_eq_some_iff.mp e
    simp [intsV_of h1]
theorem ints_of {φ h} : ∀ {ns : List Int} {ys : List Value}, RepVs c φ h (ns.map .int) ys → IntsAre ys ns
  | [], _, .nil => .nil
  | _ :: _, _, .cons r rs => by cases r; exact .cons _ _ (ints_of rs)
def wCmpI (ns : List Int) (f : Bool → Bool) : WB := fun v w H Q => match (asL ns H v).bind intsV, (asL ns H w).bind intsV with
  | some is, some js => Q (.bool (f (decide (is = js)))) H
  | _, _ => False
theorem cmpI_of (G : Good c) {f v w H Q φ h x y} (q : wCmpI c.ns f v w H Q) (ok : Ok c φ H h) (rv : RepV c φ h v x) (rw' : RepV c φ h w y) :
    ∃ a b us ws is js, x = .ref a ∧ y = .ref b ∧ h.IsList a us.toArray ∧ IntsAre us is ∧ h.IsList b ws.toArray ∧ IntsAre ws js ∧ Q (.bool (f (decide (is = js)))) H := by
  unfold wCmpI at q
  split at q
  · rename_i is js e1 e2
    obtain ⟨xs, h1, h2⟩ := Option.bind_eq_some_iff.mp e1
    obtain ⟨ys, h3, h4⟩ := Option.bind_eq_some_iff.mp e2
    obtain ⟨a, us, rfl, il, r1⟩ := asL_of G ok rv h1
    obtain ⟨b, ws, rfl, il', r2⟩ := asL_of G ok rw' h3
    rw [intsV_of h2] at r1
    rw [intsV_of h4] at r2
    exact ⟨a, b, us, ws, is, js, rfl, rfl, il, ints_of r1, il', ints_of r2, q⟩
  · exact q.elim
theorem neL_ok (G : Good c) : CmpOK c d .NotEq (wCmpI c.ns not) := by
  intro A E s φ H v w x y Q ao ok rv rw' q
  obtain ⟨a, b, us, ws, is, js, rfl, rfl, l1, i1, l2, i2, q⟩ := cmpI_of G q ok rv rw'
  exact ne_intsK l1 i1 l2 i2 (by have := ao.units; rw [cLine_is]; omega) (.here q ok .bool (fun _ _ e => e) (Rest.refl s))
/-! ### built-in functions -/
def bLen (ns : List Int) : WF := fun args H Q => match args with
  | [v] => (match asL ns H v with | some xs => xs.length ≤ 1000000 ∧ Q (.int xs.length) H | none => False)
  | _ => False
theorem len_ok (G : Good c) : FnOK c d (.builtin "len") (bLen c.ns) := by
  intro A E s φ H args vals Q ao ok r q
  unfold bLen at q
  split at q
  · split at q
    · rename_i xs ex
      cases r with
      | cons rv rs =>
        cases rs
        obtain ⟨a, ys, rfl, il, rr⟩ := asL_of G ok rv ex
        refine len_list il (by simp only [List.size_toArray]; rw [← rr.length]; omega) ?_
        simp only [List.size_toArray]
        rw [← rr.length]
        exact .here q.2 ok .int (fun _ _ e => e) (Rest.mk s s.heap _)
    · exact q.elim
  · exact q.elim
def bMin : WF := fun args H Q => match args with | [.int a, .int b] => Q (.int (if b < a then b else a)) H | _ => False
def bMax : WF := fun args H Q => match args with | [.int a, .int b] => Q (.int (if b > a then b else a)) H | _ => False
/-! ### methods of a list -/
theorem upd_list {φ H} {k : Nat} {a : Addr} {xs : List V} {ys us : List Value} {n : Nat} {s : Shared} {Q : V → HW → Prop} {v x} {f : Array Value → Array Value} (ok : Ok c φ H s.heap) (hk : φ.l[k]? = some a) (il : IsL s.heap a ys.toArray n) (e : f ys.toArray = us.toArray) (r : RepVs c φ s.heap xs us)
    (rv : RepV c φ s.heap v x) (q : Q v (H.set k (.list xs))) : PostE c φ s Q x { s with heap := s.heap.update a (Obj.mapSeq f) } := by
  have il' := IsL.update il f
  rw [e] at il'
  obtain ⟨ok', g⟩ := ok.put (lo := .list xs) hk (fun b o n e => (Heap.get?_update_ne _ _ _ _ n).trans e) il' (.list r)
  exact ⟨v, _, φ, q, ok', rv.grow g, g, _, _, rfl⟩
def lstAt (H : HW) (k : Nat) : Option (List V) := match H[k]? with | some (.list xs) => some xs | _ => none
theorem lstAt_of {H : HW} {k : Nat} {xs} (e : lstAt H k = some xs) : H[k]? = some (.list xs) := by
  unfold lstAt at e
  split at e
  · rename_i h; cases e; exact h
  · cases e
def wAppend (a b : WE) : WE := fun sl H Q => a sl H fun v H₁ => match v with
  | .loc k => (lstAt H₁ k).isSome = true ∧ b sl H₁ fun w H₂ => (match lstAt H₂ k with | some xs => xs.length ≤ 1000000 ∧ Q .none (H₂.set k (.list (xs ++ [w]))) | none => False)
  | _ => False
theorem meth_list {M : Model} {A : Around} {E : Value → Shared → Prop} {s : Shared} {φ H} {k : Nat} {x : Value} {name : Str} {id : String} {pl : Sem Bool} {Q : Value × List Value → Shared → Prop} (ok : Ok c φ H s.heap) (rv : RepV c φ s.heap (.loc k) x) (hl : (lstAt H k).isSome = true)
    (slot : Slot "list" name id) (hty : typeOf (.builtin id) = pure (.type "method_descriptor")) (h : Q (.builtin id, [x]) s) : wpAny M A (getMethod x name pl) Q E s := by
  obtain ⟨xs, e⟩ := Option.isSome_iff_exists.mp hl
  obtain ⟨a, ys, n, rfl, hk, il, r⟩ := loc_list ok rv (lstAt_of e)
  exact getMethod_builtin ⟨_, il, rfl⟩ PySem.F.plainAttrs_list slot hty (fun b hb => by cases hb; exact ⟨_, il, rfl⟩) h
theorem ev_append {o e apos pos a b} {pl : Env → Sem Bool} (ho : Ev c d sc ρ o a) (hb : Ev c d sc ρ e b) (hs : ∀ env, backTo pos (starEach [e] env) = [(false, eval e env)])
    (he : ∀ env, eval (.Call (.Attribute o (Str.ofString "append") apos) [e] [] pos) env = (do
      let ov ← eval o env
      standAt apos.atName
      let (f, first) ← holding [ov] (getMethod ov (Str.ofString "append") (pl env))
      callWith pos f first (backTo pos (starEach [e] env)) (backToKw pos (keywordEach [] env)))) : Ev c d sc ρ (.Call (.Attribute o (Str.ofString "append") apos) [e] [] pos) (wAppend a b) := by
  intro env A E s φ sl H Q eo ao ok vs w
  refine methodCall_KW (pl := pl env) (wpAny_mono (ho env A E s φ sl H _ eo ao ok vs w) (fun x s₁ p₁ => ?_) fun _ _ e => e) (he env)
  obtain ⟨v, H₁, φ₁, w₁, ok₁, rv, g₁, r₁⟩ := p₁
  split at w₁
  · rename_i k
    refine meth_list ok₁ rv w₁.1 PySem.F.slot_list_append PySem.F.type_list_append ?_
    have ex : ∃ al, x = .ref al := by cases rv; exact ⟨_, rfl⟩
    obtain ⟨al, rfl⟩ := ex
    show wpAny _ _ (callWith pos (.builtin "list.append") [.ref al] (backTo pos (starEach [e] env)) []) _ _ _
    rw [hs]
    refine PySem.P.append_list (wpAny_mono (hb env A E s₁ φ₁ sl H₁ _ eo ao ok₁ (vs.grow g₁) w₁.2) (fun y s₂ p₂ => ?_) fun _ _ e => e)
    obtain ⟨u, H₂, φ₂, w₂, ok₂, ru, g₂, r₂⟩ := p₂
    split at w₂
    · rename_i xs ex
      obtain ⟨a', ys, n, ea, hk, il, r⟩ := loc_list ok₂ (rv.grow g₂) (lstAt_of ex)
      cases ea
      refine ⟨ys.toArray, n, by rw [List.size_toArray, ← r.length, sizeLine_eq]; omega, il, ?_⟩
      exact (upd_list (us := ys ++ [y]) ok₂ hk il (by simp) (r.append (.cons ru .nil)) .none w₂.2).shift (g₁.trans g₂) (r₁.trans r₂)
    · exact w₂.elim
  · exact w₁.elim
theorem popped (ys : List Value) : ys.toArray.eraseIdxIfInBounds (ys.toArray.size - 1) = (ys.take (ys.length - 1)).toArray := by
  rw [List.eraseIdxIfInBounds_toArray, List.size_toArray, List.eraseIdx_eq_take_drop_succ]
  have : ys.drop (ys.length - 1 + 1) = [] := List.drop_eq_nil_of_le (by omega)
  rw [this, List.append_nil]
def wPop (a : WE) : WE := fun sl H Q => a sl H fun v H₁ => match v with
  | .loc k => (match lstAt H₁ k with | some xs => xs.length ≤ 1000000 ∧ (match xs.getLast? with | some u => Q u (H₁.set k (.list xs.dropLast)) | none => False) | none => False)
  | _ => False
theorem ev_pop {o apos pos a} {pl : Env → Sem Bool} (ho : Ev c d sc ρ o a)
    (he : ∀ env, eval (.Call (.Attribute o (Str.ofString "pop") apos) [] [] pos) env = (do
      let ov ← eval o env
      standAt apos.atName
      let (f, first) ← holding [ov] (getMethod ov (Str.ofString "pop") (pl env))
      callWith pos f first (backTo pos (starEach [] env)) (backToKw pos (keywordEach [] env)))) : Ev c d sc ρ (.Call (.Attribute o (Str.ofString "pop") apos) [] [] pos) (wPop a) := by
  intro env A E s φ sl H Q eo ao ok vs w
  refine methodCall_KW (pl := pl env) (wpAny_mono (ho env A E s φ sl H _ eo ao ok vs w) (fun x s₁ p₁ => ?_) fun _ _ e => e) (he env)
  obtain ⟨v, H₁, φ₁, w₁, ok₁, rv, g₁, r₁⟩ := p₁
  split at w₁
  · rename_i k
    split at w₁
    · rename_i xs ex
      obtain ⟨hz, w₁⟩ := w₁
      split at w₁
      · rename_i u eu
        refine meth_list ok₁ rv (by rw [ex]; rfl) PySem.F.slot_list_pop PySem.F.type_list_pop ?_
        obtain ⟨al, ys, n, rfl, hk, il, r⟩ := loc_list ok₁ rv (lstAt_of ex)
        show wpAny _ _ (callWith pos (.builtin "list.pop") [.ref al] [] []) _ _ _
        have eu' : xs[xs.length - 1]? = some u := by rw [← List.getLast?_eq_getElem?]; exact eu
        obtain ⟨y, h1, h2⟩ := r.get eu'
        refine PySem.P.pop_list (y := y) il (by simp only [List.size_toArray, List.getElem?_toArray]; rw [← r.length]; exact h1) ?_ (by rw [List.size_toArray, ← r.length, sizeLine_eq]; omega)
        have hd : xs.dropLast = xs.take (xs.length - 1) := List.dropLast_eq_take
        refine (upd_list (xs := xs.dropLast) (us := ys.take (ys.length - 1)) ok₁ hk il ?_ (by rw [hd, r.length]; exact r.take _) h2 w₁).shift g₁ r₁
        exact popped ys
      · exact w₁.elim
    · exact w₁.elim
  · exact w₁.elim
end
end Mine

namespace Mine
section
variable {c : Cx} {d : Nat} {sc : Scope} {ρ : List Str}

/-! ### statements -/
def wSkip : WS := fun sl H Q => Q .next sl H
def wSeq (a b : WS) : WS := fun sl H Q => a sl H fun F sl' H' => match F with | .next => b sl' H' Q | .ret v => Q (.ret v) sl' H'
theorem exs_nil : Exs c d sc ρ [] wSkip := fun _ _ _ s φ sl H _ _ _ ok vs w => wpAny_execs_nil ⟨.next, sl, H, φ, w, ok, vs, trivial, .refl _ _ _, Rest.refl s⟩
theorem exs_cons {e es a b} (he : Ex c d sc ρ e a) (hes : Exs c d sc ρ es b) : Exs c d sc ρ (e :: es) (wSeq a b) := by
  intro env A E s φ sl H Q eo ao ok vs w
  refine wpAny_execs_cons (wpAny_mono (he env A E s φ sl H _ eo ao ok vs w) (fun f s₁ p₁ => ?_) fun _ _ e => e)
  obtain ⟨F, sl₁, H₁, φ₁, w₁, ok₁, vs₁, rf, g₁, r₁⟩ := p₁
  cases F with
  | next =>
    cases f with
    | next => exact wpAny_mono (hes env A E s₁ φ₁ sl₁ H₁ Q eo ao ok₁ vs₁ w₁) (fun f s₂ p₂ => p₂.shift g₁ r₁) fun _ _ e => e
    | _ => exact rf.elim
  | ret v =>
    cases f with
    | ret x => exact ⟨.ret v, sl₁, H₁, φ₁, w₁, ok₁, vs₁, rf, g₁, r₁⟩
    | _ => exact rf.elim
def wSet (i : Nat) (a : WE) : WS := fun sl H Q => a sl H fun v H' => Q .next (sl.set i (some v)) H'
theorem ex_set {i x xp e pos a} (he : Ev c d sc ρ e a) (hi : ρ[i]? = some x) (hx : sc.names.lookup x = some .local ∨ sc.names.lookup x = some .cell) (hk : sc.kind = .function)
    (hs : ∀ env, swapsWith e (some (.Name x xp)) pos.line env = pure false) : Ex c d sc ρ (.Assign [.Name x xp] e pos) (wSet i a) := by
  intro env A E s φ sl H Q eo ao ok vs w
  refine wpAny_Assign_Name (wpAny_mono (he env A E s φ sl H _ eo ao ok vs w) (fun y s₁ p₁ => ?_) fun _ _ e => e) (hs env)
  obtain ⟨v, H₁, φ₁, w₁, ok₁, rv, g₁, r₁⟩ := p₁
  exact store_ok hi hx hk eo ok₁ (vs.grow g₁) rv fun s₂ ok₂ vs₂ g₂ r₂ => ⟨.next, _, H₁, φ₁, w₁, ok₂, vs₂, trivial, g₁.toS.trans g₂, r₁.trans r₂⟩
def wAug (i : Nat) (f : WB) (a : WE) : WS := fun sl H Q => wBin f (wVar i) a sl H fun v H' => Q .next (sl.set i (some v)) H'
def wDrop (a : WE) : WS := fun sl H Q => a sl H fun v H' => match v with | .none => Q .next sl H' | _ => False
theorem ex_expr {e pos a} (he : Ev c d sc ρ e a) (hk : sc.kind = .function) (hs : ∀ env, swapsWith e none pos.line env = pure false) : Ex c d sc ρ (.Expr e pos) (wDrop a) := by
  intro env A E s φ sl H Q eo ao ok vs w
  refine wpAny_Expr (wpAny_mono (he env A E s φ sl H _ eo ao ok vs w) (fun y s₁ p₁ => ?_) fun _ _ e => e) (by unfold interactive; rw [eo.scope, hk]; rfl) (hs env)
  obtain ⟨v, H₁, φ₁, w₁, ok₁, rv, g₁, r₁⟩ := p₁
  split at w₁
  · cases rv
    exact ⟨.next, sl, H₁, φ₁, w₁, ok₁, vs.grow g₁, trivial, g₁.toS, r₁⟩
  · exact w₁.elim
def wIf (t : WT) (a b : WS) : WS := fun sl H Q => t sl H fun r H' => if r then a sl H' Q else b sl H' Q
theorem ex_if {t body orelse pos w a b} (ht : Et c d sc ρ t w) (ha : Exs c d sc ρ body a) (hb : Exs c d sc ρ orelse b) : Ex c d sc ρ (.If t body orelse pos) (wIf w a b) := by
  intro env A E s φ sl H Q eo ao ok vs q
  refine wpAny_If (wpAny_mono (ht env A E s φ sl H _ eo ao ok vs q) (fun y s₁ p₁ => ?_) fun _ _ e => e)
  obtain ⟨H₁, φ₁, w₁, ok₁, g₁, r₁⟩ := p₁
  cases y with
  | true => simp only [if_true] at w₁ ⊢; exact wpAny_mono (ha env A E s₁ φ₁ sl H₁ Q eo ao ok₁ (vs.grow g₁) w₁) (fun f s₂ p₂ => p₂.shift g₁.toS r₁) fun _ _ e => e
  | false => simp only [Bool.false_eq_true, if_false] at w₁ ⊢; exact wpAny_mono (hb env A E s₁ φ₁ sl H₁ Q eo ao ok₁ (vs.grow g₁) w₁) (fun f s₂ p₂ => p₂.shift g₁.toS r₁) fun _ _ e => e
def wRet (a : WE) : WS := fun sl H Q => a sl H fun v H' => Q (.ret v) sl H'
theorem ex_ret {e pos a} (he : Ev c d sc ρ e a) : Ex c d sc ρ (.Return (some e) pos) (wRet a) := by
  intro env A E s φ sl H Q eo ao ok vs w
  refine wpAny_Return_some (wpAny_mono (he env A E s φ sl H _ eo ao ok vs w) (fun y s₁ p₁ => ?_) fun _ _ e => e)
  obtain ⟨v, H₁, φ₁, w₁, ok₁, rv, g₁, r₁⟩ := p₁
  exact ⟨.ret v, sl, H₁, φ₁, w₁, ok₁, vs.grow g₁, rv, g₁.toS, r₁⟩

/-! ### while -/
def wWhileN (t : WT) (b : WS) : Nat → WS
  | 0 => fun _ _ _ => False
  | n + 1 => fun sl H Q => t sl H fun r H₁ => if r then b sl H₁ (fun F sl' H' => match F with | .next => wWhileN t b n sl' H' Q | .ret v => Q (.ret v) sl' H') else Q .next sl H₁
def wWhile (t : WT) (b : WS) : WS := fun sl H Q => ∃ n, wWhileN t b n sl H Q
theorem ex_while {t body pos w b} (ht : Et c d sc ρ t w) (hb : Exs c d sc ρ body b) : Ex c d sc ρ (.While t body [] pos) (wWhile w b) := by
  rintro env A E s φ sl H Q eo ao ok vs ⟨n, q⟩
  refine wpAny_While (codeAny_whileLoop (fun n s' => ∃ φ' sl' H', wWhileN w b n sl' H' Q ∧ Ok c φ' H' s'.heap ∧ Vars c ρ φ' s'.heap env sl' ∧ GrowS env φ s.heap φ' s'.heap ∧ Rest s s') ?_ n ⟨φ, sl, H, q, ok, vs, .refl _ _ _, Rest.refl s⟩)
  rintro n s' ⟨φ', sl', H', q, ok, vs, g, r⟩
  cases n with
  | zero => exact q.elim
  | succ n =>
    refine wpAny_mono (ht env A _ s' φ' sl' H' _ eo ao ok vs q) (fun y s₁ p₁ => ?_) fun _ _ e => e
    obtain ⟨H₁, φ₁, w₁, ok₁, g₁, r₁⟩ := p₁
    cases y with
    | false =>
      simp only [Bool.false_eq_true, if_false] at w₁ ⊢
      exact wpAny_execs_nil ⟨.next, sl', H₁, φ₁, w₁, ok₁, vs.grow g₁, trivial, g.trans g₁.toS, r.trans r₁⟩
    | true =>
      simp only [if_true] at w₁ ⊢
      refine wpAny_mono (hb env A _ s₁ φ₁ sl' H₁ _ eo ao ok₁ (vs.grow g₁) w₁) (fun f s₂ p₂ => ?_) fun _ _ e => e
      obtain ⟨F, sl₂, H₂, φ₂, w₂, ok₂, vs₂, rf, g₂, r₂⟩ := p₂
      cases F with
      | next =>
        cases f with
        | next => exact ⟨n, Nat.lt_succ_self n, φ₂, sl₂, H₂, w₂, ok₂, vs₂, (g.trans g₁.toS).trans g₂, (r.trans r₁).trans r₂⟩
        | _ => exact rf.elim
      | ret v =>
        cases f with
        | ret x => exact ⟨.ret v, sl₂, H₂, φ₂, w₂, ok₂, vs₂, rf, (g.trans g₁.toS).trans g₂, (r.trans r₁).trans r₂⟩
        | _ => exact rf.elim

/-! ### targets -/
abbrev WA := V → Sl → HW → (Sl → HW → Prop) → Prop
def At (c : Cx) (d : Nat) (sc : Scope) (ρ : List Str) (t : Expr) (W : WA) : Prop :=
  ∀ env A E s φ sl H v x K, EnvOK sc env → AOK d A → Ok c φ H s.heap → Vars c ρ φ s.heap env sl → RepV c φ s.heap v x → W v sl H K →
    wpAny (model c.prog c.w) A (assign t env x) (fun _ s' => ∃ sl' H' φ', K sl' H' ∧ Ok c φ' H' s'.heap ∧ Vars c ρ φ' s'.heap env sl' ∧ GrowS env φ s.heap φ' s'.heap ∧ Rest s s') E s
def aName (i : Nat) : WA := fun v sl H K => K (sl.set i (some v)) H
theorem at_name {i x xp} (hi : ρ[i]? = some x) (hx : sc.names.lookup x = some .local ∨ sc.names.lookup x = some .cell) (hk : sc.kind = .function) : At c d sc ρ (.Name x xp) (aName i) := by
  intro env A E s φ sl H v y K eo ao ok vs rv q
  exact wpAny_assign_Name (store_ok hi hx hk eo ok vs rv fun s₂ ok₂ vs₂ g₂ r₂ => ⟨_, H, φ, q, ok₂, vs₂, g₂, r₂⟩)
def setAll : List Nat → List V → Sl → Sl
  | i :: is, v :: vs, sl => setAll is vs (sl.set i (some v))
  | _, _, sl => sl
theorem ExtBut.keep {h h' : Heap} (x : Heap.ExtBut h.objs.size h h') : ∀ b o, h.get? b = some o → h'.get? b = some o := fun b o e => x b o (Nat.ne_of_lt (Heap.lt_size e)) e
/-- each function of the row stores the name at its place -/
def Stores (M : Model) (env : Env) : List Str → List (Value → Sem Unit) → Prop
  | [], [] => True
  | x :: xs, f :: fs => (∀ A E v s (R : Unit → Shared → Prop), wpAny M A (storeName env x v) R E s → wpAny M A (f v) R E s) ∧ Stores M env xs fs
  | _, _ => False
def Slots (sc : Scope) (ρ : List Str) : List Nat → List Str → Prop
  | [], [] => True
  | i :: is, x :: xs => (ρ[i]? = some x ∧ (sc.names.lookup x = some .local ∨ sc.names.lookup x = some .cell)) ∧ Slots sc ρ is xs
  | _, _ => False
theorem inOrder_ok {env : Env} {A E φ H} (hk : sc.kind = .function) (eo : EnvOK sc env) (is : List Nat) : ∀ (xs : List Str) (fs : List (Value → Sem Unit)) (vs : List V) (ys : List Value) (s : Shared) (sl : Sl) (R : Unit → Shared → Prop),
    Stores (model c.prog c.w) env xs fs → Slots sc ρ is xs → vs.length = is.length → Ok c φ H s.heap → Vars c ρ φ s.heap env sl → RepVs c φ s.heap vs ys →
    (∀ s', Ok c φ H s'.heap → Vars c ρ φ s'.heap env (setAll is vs sl) → GrowS env φ s.heap φ s'.heap → Rest s s' → R () s') →
    wpAny (model c.prog c.w) A (assignInOrder fs ys) R E s := by
  induction is with
  | nil =>
    intro xs fs vs ys s sl R hf h1 h2 ok va r k
    cases vs with
    | cons _ _ => simp at h2
    | nil =>
      cases r
      have : assignInOrder fs [] = pure () := by cases fs <;> rfl
      rw [this]
      exact wpAny_pure (k s ok va (.refl _ _ _) (Rest.refl s))
  | cons i is ih =>
    intro xs fs vs ys s sl R hf h1 h2 ok va r k
    cases r with
    | nil => simp at h2
    | cons r rs =>
      cases xs with
      | nil => exact h1.elim
      | cons x xs =>
        cases fs with
        | nil => exact hf.elim
        | cons f fs =>
          rename_i v y vs ys
          show wpAny _ _ (holding ys (f y) >>= fun _ => assignInOrder fs ys) _ _ _
          refine wpAny_bind (wpAny_holding (hf.1 _ _ _ _ _ (store_ok h1.1.1 h1.1.2 hk eo ok va r fun s₂ ok₂ vs₂ g₂ r₂ => ?_)))
          refine ih xs fs vs ys s₂ _ R hf.2 h1.2 (by simpa using h2) ok₂ vs₂ ?_ fun s₃ ok₃ vs₃ g₃ r₃ => k s₃ ok₃ vs₃ (g₂.trans g₃) (r₂.trans r₃)
          exact rs.keep fun b o z e => g₂.keep b o e (ok.dj b z) (fun q => va.offZ (q ▸ z)) fun x q => (va.offC x b q).2.1 z
/-- a tuple's places to names, in their order -/
def aTup (is : List Nat) : WA := fun v sl H K => match v with | .tup vs => vs.length = is.length ∧ K (setAll is vs sl) H | _ => False
theorem Stores.len {M env} : ∀ {xs : List Str} {fs : List (Value → Sem Unit)}, Stores M env xs fs → fs.length = xs.length
  | [], [], _ => rfl
  | _ :: _, _ :: _, h => by simp [h.2.len]
  | [], _ :: _, h => h.elim
  | _ :: _, [], h => h.elim
theorem Slots.len : ∀ {is : List Nat} {xs : List Str}, Slots sc ρ is xs → xs.length = is.length
  | [], [], _ => rfl
  | _ :: _, _ :: _, h => by simp [h.2.len]
  | [], _ :: _, h => h.elim
  | _ :: _, [], h => h.elim
theorem at_tup {elts k pos is} {xs : List Str} (hk : sc.kind = .function) (hx : Slots sc ρ is xs) (hst : ∀ env, (assignEach elts env).findIdx? (·.1) = none)
    (hm : ∀ env, Stores (model c.prog c.w) env xs ((assignEach elts env).map (·.2))) : At c d sc ρ (.Tuple elts k pos) (aTup is) := by
  intro env A E s φ sl H v y K eo ao ok vs rv q
  unfold aTup at q
  split at q
  · cases rv with
    | tup n z n0 e r =>
      obtain ⟨hlen, q⟩ := q
      have hl := (hm env).len
      rw [List.length_map] at hl
      refine wpAny_assign_Tuple ao.handled ⟨_, e, rfl, _, rfl⟩ (by rw [hl, List.size_toArray, ← r.length, hlen, hx.len]) (hst env) fun h' x => ?_
      have kp := ExtBut.keep x
      have g : Grow φ s.heap φ h' := .of_keep kp
      refine inOrder_ok (s := { s with heap := h' }) hk eo is xs _ _ _ sl _ (hm env) hx hlen (ok.keep kp) (vs.grow g) (by simpa using r.grow g) fun s₃ ok₃ vs₃ g₃ r₃ => ⟨_, _, φ, q, ok₃, vs₃, g.toS.trans g₃, (Rest.mk s h' s.toks).trans r₃⟩
  · exact q.elim
/-- «a, b = e» without an exchange -/
def wSetT (is : List Nat) (a : WE) : WS := fun sl H Q => a sl H fun v H' => aTup is v sl H' fun sl' H'' => Q .next sl' H''
theorem ex_setT {elts k tpos e pos a is} {xs : List Str} (he : Ev c d sc ρ e a) (hk : sc.kind = .function) (hx : Slots sc ρ is xs) (hst : ∀ env, (assignEach elts env).findIdx? (·.1) = none)
    (hm : ∀ env, Stores (model c.prog c.w) env xs ((assignEach elts env).map (·.2)))
    (hs : ∀ env, swapsWithSole [.Tuple elts k tpos] e pos.line env = pure false) (hw : ∀ env, env.scope = sc → swappedStores [.Tuple elts k tpos] e env = pure none) : Ex c d sc ρ (.Assign [.Tuple elts k tpos] e pos) (wSetT is a) := by
  intro env A E s φ sl H Q eo ao ok vs w
  refine Assign_Tuple (wpAny_mono (he env A E s φ sl H _ eo ao ok vs w) (fun y s₁ p₁ => ?_) fun _ _ e => e) (hs env) (hw env eo.scope)
  obtain ⟨v, H₁, φ₁, w₁, ok₁, rv, g₁, r₁⟩ := p₁
  refine wpAny_mono (at_tup hk hx hst hm env A E s₁ φ₁ sl H₁ v y _ eo ao ok₁ (vs.grow g₁) rv w₁) (fun _ s₂ p₂ => ?_) fun _ _ e => e
  obtain ⟨sl', H', φ', q, ok', vs', g', r'⟩ := p₂
  exact ⟨.next, sl', H', φ', q, ok', vs', trivial, g₁.toS.trans g', r₁.trans r'⟩
/-- «a, b = x, y»: the stores go from the last to the first -/
def aTupR (is : List Nat) : WA := fun v sl H K => match v with | .tup vs => vs.length = is.length ∧ K (setAll is.reverse vs.reverse sl) H | _ => False
def wSetR (is : List Nat) (a : WE) : WS := fun sl H Q => a sl H fun v H' => aTupR is v sl H' fun sl' H'' => Q .next sl' H''
theorem Slots.snoc {i x} (h : ρ[i]? = some x ∧ (sc.names.lookup x = some .local ∨ sc.names.lookup x = some .cell)) : ∀ {is : List Nat} {xs : List Str}, Slots sc ρ is xs → Slots sc ρ (is ++ [i]) (xs ++ [x])
  | [], [], _ => ⟨h, trivial⟩
  | _ :: _, _ :: _, g => ⟨g.1, Slots.snoc h g.2⟩
  | [], _ :: _, g => g.elim
  | _ :: _, [], g => g.elim
theorem Slots.reverse : ∀ {is : List Nat} {xs : List Str}, Slots sc ρ is xs → Slots sc ρ is.reverse xs.reverse
  | [], [], _ => trivial
  | _ :: _, _ :: _, g => by simp only [List.reverse_cons]; exact g.2.reverse.snoc g.1
  | [], _ :: _, g => g.elim
  | _ :: _, [], g => g.elim
theorem stores_bind {M : Model} {env : Env} : ∀ xs : List Str, Stores M env xs (xs.map fun n => bindName env n)
  | [] => trivial
  | _ :: xs => ⟨fun _ _ _ _ _ h => wpAny_bindName h, stores_bind xs⟩
theorem ex_setR {elts k tpos e pos a is} {xs : List Str} (he : Ev c d sc ρ e a) (hk : sc.kind = .function) (hx : Slots sc ρ is xs)
    (hs : ∀ env, swapsWithSole [.Tuple elts k tpos] e pos.line env = pure false) (hw : ∀ env, env.scope = sc → swappedStores [.Tuple elts k tpos] e env = pure (some xs)) : Ex c d sc ρ (.Assign [.Tuple elts k tpos] e pos) (wSetR is a) := by
  intro env A E s φ sl H Q eo ao ok vs w
  refine Assign_Tuple_swapped (wpAny_mono (he env A E s φ sl H _ eo ao ok vs w) (fun y s₁ p₁ => ?_) fun _ _ e => e) (hs env) (hw env eo.scope)
  obtain ⟨v, H₁, φ₁, w₁, ok₁, rv, g₁, r₁⟩ := p₁
  unfold aTupR at w₁
  split at w₁
  · cases rv with
    | tup n z n0 e r =>
      obtain ⟨hlen, q⟩ := w₁
      rename_i ys _ _
      have hsz : xs.length = ys.toArray.size := by rw [hx.len, List.size_toArray, ← r.length, hlen]
      rw [hsz]
      refine wpAny_unpackItems_tuple ao.handled ⟨_, e, rfl, _, rfl⟩ fun h' x => ?_
      have kp := ExtBut.keep x
      have g : Grow φ₁ s₁.heap φ₁ h' := .of_keep kp
      refine inOrder_ok (s := { s₁ with heap := h' }) hk eo is.reverse xs.reverse _ _ _ sl _ (stores_bind _) hx.reverse (by simp [hlen]) (ok₁.keep kp) ((vs.grow g₁).grow g) (by simpa using (r.grow g).reverse) fun s₃ ok₃ vs₃ g₃ r₃ => ⟨.next, _, _, φ₁, q, ok₃, vs₃, trivial, (g₁.toS.trans g.toS).trans g₃, (r₁.trans (Rest.mk s₁ h' s₁.toks)).trans r₃⟩
  · exact w₁.elim
end
end Mine

namespace Mine
section
variable {c : Cx} {d : Nat} {sc : Scope} {ρ : List Str}

/-! ### what a loop goes over -/
inductive ItK where
  | list (kv : V) (xs : List V)
  | walk (xs : List V)
def ItK.items : ItK → List V
  | .list _ xs => xs
  | .walk xs => xs
def ItK.inv (ns : List Int) (H : HW) : ItK → Prop
  | .list kv xs => asL ns H kv = some xs
  | .walk _ => True
def RepL (c : Cx) (φ : Mp) (v : V) (a : Addr) : Prop := (∃ k, v = .loc k ∧ φ.l[k]? = some a) ∨ (v = .script ∧ a = c.aS)
theorem RepL.rep {φ h v a} (r : RepL c φ v a) : RepV c φ h v (.ref a) := by
  rcases r with ⟨k, rfl, e⟩ | ⟨rfl, rfl⟩
  · exact .loc e
  · exact .script
def ItAt (c : Cx) (A : Around) (φ : Mp) (h : Heap) (I : Addr) (i : Nat) : ItK → Prop
  | .list kv _ => ∃ a, RepL c φ kv a ∧ h.IsListIter I a i
  | .walk xs => ∃ P St, Walks c.prog c.w A I [I] [I] xs.length P St ∧ (∀ i v, P i v → ∃ u, xs[i]? = some u ∧ (∀ T, v ≠ .ref T) ∧ ∀ φ h, RepV c φ h u v) ∧ (∀ i h, St i h → ∃ o, h.get? I = some o) ∧ St i h
theorem ItAt.keep {A φ φ' h h' I i k} (x : ItAt c A φ h I i k) (e : ∀ o, h.get? I = some o → h'.get? I = some o) (g : ∀ (k : Nat) a, φ.l[k]? = some a → φ'.l[k]? = some a) : ItAt c A φ' h' I i k := by
  cases k with
  | list kv xs =>
    obtain ⟨a, r, o, ho, q⟩ := x
    refine ⟨a, ?_, o, e _ ho, q⟩
    rcases r with ⟨k, rfl, e⟩ | ⟨rfl, rfl⟩
    · exact .inl ⟨k, rfl, g _ _ e⟩
    · exact .inr ⟨rfl, rfl⟩
  | walk xs =>
    obtain ⟨P, St, W, hp, hl, st⟩ := x
    exact ⟨P, St, W, hp, hl, W.frame _ _ _ st fun b hb o eo => by rw [List.mem_singleton.mp hb] at eo ⊢; exact e o eo⟩
/-- one item more -/
theorem ItAt.item {A E φ H I i k} {v : V} {s : Shared} {R : Option Value → Shared → Prop} (G : Good c) (ok : Ok c φ H s.heap) (iv : k.inv c.ns H) (x : ItAt c A φ s.heap I i k) (hv : k.items[i]? = some v)
    (h : ∀ y h' t, RepV c φ s.heap v y → ItAt c A φ h' I (i + 1) k → (∀ b o, b ≠ I → s.heap.get? b = some o → h'.get? b = some o) → (∃ o, h'.get? I = some o) → ((∃ l, h'.IsListIter I l (i + 1)) ∨ ∀ T, y ≠ .ref T) → R (some y) { s with heap := h', toks := t }) :
    wpAny (model c.prog c.w) A (pyNext (.ref I)) R E s := by
  cases k with
  | list kv xs =>
    obtain ⟨a, r, it⟩ := x
    obtain ⟨a', ys, ea, il, rr⟩ := asL_of G ok r.rep iv
    cases ea
    obtain ⟨y, h1, h2⟩ := rr.get hv
    refine wpAny_pyNext_list_item it il (by simpa using h1) fun h' it' sb => h y h' s.toks h2 ⟨a, r, it'⟩ (fun b o n e => (sb.2 b n).trans e) (by obtain ⟨o, ho, _⟩ := it'; exact ⟨o, ho⟩) (.inl ⟨a, it'⟩)
  | walk xs =>
    obtain ⟨P, St, W, hp, hl, st⟩ := x
    have hi : i < xs.length := (List.getElem?_eq_some_iff.mp hv).1
    refine W.item i s _ _ hi st fun y h' tk py st' kp => ?_
    obtain ⟨u, hu, nr, ru⟩ := hp i y py
    have : u = v := by have := hu.symm.trans hv; cases this; rfl
    subst this
    exact h y h' tk (ru _ _) ⟨P, St, W, hp, hl, st'⟩ (fun b o n e => kp b o (fun m => n (List.mem_singleton.mp m)) e) (hl _ _ st') (.inr nr)
theorem ItAt.done {A E φ H I i k} {s : Shared} {R : Option Value → Shared → Prop} (G : Good c) (hh : A.handled = none) (ok : Ok c φ H s.heap) (iv : k.inv c.ns H) (x : ItAt c A φ s.heap I i k) (hv : i = k.items.length)
    (h : ∀ h' t, (∀ b o, b ≠ I → s.heap.get? b = some o → h'.get? b = some o) → R none { s with heap := h', toks := t }) :
    wpAny (model c.prog c.w) A (pyNext (.ref I)) R E s := by
  cases k with
  | list kv xs =>
    obtain ⟨a, r, it⟩ := x
    obtain ⟨a', ys, ea, il, rr⟩ := asL_of G ok r.rep iv
    cases ea
    refine wpAny_pyNext_list_end hh it il (by rw [hv]; simp [ItK.items, rr.length]) fun h' xb => h h' s.toks fun b o n e => xb b o n e
  | walk xs =>
    obtain ⟨P, St, W, hp, hl, st⟩ := x
    rw [hv] at st
    exact W.done s _ _ st fun h' tk kp => h h' tk fun b o n e => kp b o (fun m => n (List.mem_singleton.mp m)) e
theorem ItAt.live {A φ h I i k} (x : ItAt c A φ h I i k) : ∃ o, h.get? I = some o := by
  cases k with
  | list kv xs => obtain ⟨a, r, o, ho, _⟩ := x; exact ⟨o, ho⟩
  | walk xs => obtain ⟨P, St, W, hp, hl, st⟩ := x; exact hl _ _ st

theorem Vars.same {φ h env sl h'} (v : Vars c ρ φ h env sl) {I : Addr} (nL : I ≠ env.locals) (nC : ∀ x, env.cells.lookup x ≠ some I) (nZ : I ∉ φ.z) (k : ∀ b o, b ≠ I → h.get? b = some o → h'.get? b = some o) : Vars c ρ φ h' env sl := by
  obtain ⟨m, hn, hm⟩ := v.loc
  obtain ⟨o, es, ep, ho, r⟩ := id hn
  have kz : ∀ b o, b ∈ φ.z → h.get? b = some o → h'.get? b = some o := fun b o z e => k b o (fun q => nZ (q ▸ z)) e
  refine ⟨v.nd, v.len, v.offL, v.offZ, v.newL, ⟨m, ⟨o, es, ep, k _ _ (Ne.symm nL) ho, r⟩, fun i x w h1 h2 h3 => ?_⟩, fun x a e => ?_, v.inj, fun i x w h1 h2 h3 => ?_, v.has⟩
  · obtain ⟨y, h4, h5⟩ := hm i x w h1 h2 h3
    exact ⟨y, h4, h5.keep kz⟩
  · obtain ⟨n, z, n0, y, o', ho', hd⟩ := v.offC x a e
    exact ⟨n, z, n0, y, o', k _ _ (fun q => nC x (q ▸ e)) ho', hd⟩
  · obtain ⟨a, y, h4, ⟨o', ho', hd⟩, h6⟩ := v.cel i x w h1 h2 h3
    exact ⟨a, y, h4, ⟨o', k _ _ (fun q => nC x (q ▸ h4)) ho', hd⟩, h6.keep kz⟩

/-- what a loop goes over, made -/
abbrev WI := Sl → HW → (ItK → HW → Prop) → Prop
def PostI (c : Cx) (A : Around) (φ : Mp) (s : Shared) (Q : ItK → HW → Prop) (it : Value) (s' : Shared) : Prop :=
  ∃ I k H φ', it = .ref I ∧ Q k H ∧ k.inv c.ns H ∧ ItAt c A φ' s'.heap I 0 k ∧ s.heap.get? I = none ∧ I ∉ φ'.l ∧ I ∉ φ'.z ∧ Ok c φ' H s'.heap ∧ Grow φ s.heap φ' s'.heap ∧ Rest s s'
def Ei (c : Cx) (d : Nat) (sc : Scope) (ρ : List Str) (e : Expr) (W : WI) : Prop :=
  ∀ env A E s φ sl H Q, EnvOK sc env → AOK d A → Ok c φ H s.heap → Vars c ρ φ s.heap env sl → W sl H Q →
    wpAny (model c.prog c.w) A (eval e env) (fun x s₁ => wpAny (model c.prog c.w) A (pyIter x) (PostI c A φ s Q) E s₁) E s
def iList (ns : List Int) (a : WE) : WI := fun sl H Q => a sl H fun v H' => match asL ns H' v with | some xs => Q (.list v xs) H' | none => False
theorem new_unz {φ H} {h : Heap} (ok : Ok c φ H h) : h.objs.size ∉ φ.l ∧ h.objs.size ∉ φ.z := by
  constructor
  · intro m; obtain ⟨o, e⟩ := ok.live m; rw [new_none] at e; cases e
  · intro m; obtain ⟨o, e⟩ := ok.zl _ m; rw [new_none] at e; cases e
theorem Grow.none {φ h φ' h'} (g : Grow φ h φ' h') {a} (e : h'.get? a = none) : h.get? a = none := by
  cases q : h.get? a with
  | none => rfl
  | some o => obtain ⟨o', e'⟩ := g.live a o q; rw [e] at e'; cases e'
theorem ei_list {e a} (G : Good c) (he : Ev c d sc ρ e a) : Ei c d sc ρ e (iList c.ns a) := by
  intro env A E s φ sl H Q eo ao ok vs w
  refine wpAny_mono (he env A E s φ sl H _ eo ao ok vs w) (fun x s₁ p₁ => ?_) fun _ _ e => e
  obtain ⟨v, H₁, φ₁, w₁, ok₁, rv, g₁, r₁⟩ := p₁
  split at w₁
  · rename_i xs ex
    obtain ⟨al, ys, rfl, il, rr⟩ := asL_of G ok₁ rv ex
    refine wpAny_pyIter_list il ?_
    have kp : ∀ b o, s₁.heap.get? b = some o → (s₁.heap.push { cls := .type "list_iterator", data := .fields #[.ref al, .int 0 0] }).get? b = some o := fun b o e => Heap.get?_push_of_some _ e
    refine ⟨_, .list v xs, H₁, φ₁, rfl, w₁, ex, ⟨al, ?_, _, Heap.get?_push_size _ rfl, rfl, rfl⟩, g₁.none (new_none _), (new_unz ok₁).1, (new_unz ok₁).2, ok₁.keep kp, g₁.trans (.of_keep kp), r₁.trans (Rest.mk s₁ _ s₁.toks)⟩
    cases rv <;> simp only [asL] at ex <;> try (cases ex; done)
    · rename_i k hk; exact .inl ⟨k, rfl, hk⟩
    · exact .inr ⟨rfl, rfl⟩
  · exact w₁.elim
/-- the numbers of a range -/
def rangeL (a b st : Int) : List V := (List.range (Builtin.Range.rangeSize a b st).toNat).map fun i => .int (a + (i : Nat) * st)
def iRange1 (x : WE) : WI := fun sl H Q => x sl H fun v H' => match v with | .int n => (-1000000 < n ∧ n < 1000000) ∧ Q (.walk (rangeL 0 n 1)) H' | _ => False
theorem range_walk {A I a b st h} (hh : A.handled = none) (e : h.get? I = some { cls := .type "range_iterator", data := .fields #[rawInt a, rawInt (Builtin.Range.rangeSize a b st), rawInt st] }) (hn : 0 ≤ Builtin.Range.rangeSize a b st) (φ : Mp) :
    ItAt c A φ h I 0 (.walk (rangeL a b st)) := by
  refine ⟨fun i v => ∃ t, v = .int (a + (i : Nat) * st) t ∧ i < (Builtin.Range.rangeSize a b st).toNat, fun i h => IsRangeIter h I (a + (i : Nat) * st) (((Builtin.Range.rangeSize a b st).toNat : Int) - (i : Nat)) st, ?_, ?_, ?_, ?_⟩
  · have W := Walks.range (prog := c.prog) (w := c.w) hh I a st (Builtin.Range.rangeSize a b st).toNat
    have el : (rangeL a b st).length = (Builtin.Range.rangeSize a b st).toNat := by simp [rangeL]
    rw [el]
    exact ⟨W.sub, W.frame, fun i s Q E hi st hQ => W.item i s Q E hi st fun v h' tk pv => by obtain ⟨t, rfl⟩ := pv; exact hQ _ h' tk ⟨t, rfl, hi⟩, W.done, W.self⟩
  · rintro i v ⟨t, rfl, hi⟩
    exact ⟨.int (a + i * st), by simp [rangeL, hi], fun T e => (nomatch e), fun _ _ => .int⟩
  · exact fun i h st => ⟨_, st⟩
  · show h.get? I = _
    rw [e]
    simp [Int.toNat_of_nonneg hn]
theorem rangeSize_nonneg (a b st : Int) : 0 ≤ Builtin.Range.rangeSize a b st := by rw [rangeSize_toNat]; omega
theorem range_small {n : Int} (h : -1000000 < n ∧ n < 1000000) : Builtin.Range.small 0 n 1 = true := small_one (by decide) (by decide) (by omega) (by omega)
theorem ei_range1 {x np pos e a} (G : Good c) (hk : sc.kind = .function) (hx : sc.names.lookup x = some .globalImplicit) (hg : c.mg x = none) (hv : c.mb x = some (.type "range")) (hd : (x == ("__debug__" : Str)) = false)
    (he : Ev c d sc ρ e a) (hs : ∀ env, starEach [e] env = [(false, eval e env)]) : Ei c d sc ρ (.Call (.Name x np) [e] [] pos) (iRange1 a) := by
  intro env A E s φ sl H Q eo ao ok vs w
  refine Call_Name1 (name_built G eo ok hk hx hg hv hd ?_) (hs env)
  refine PyProof.Rows.callWith_type rfl (Calls.evalArgs_plain (Calls.spliced_cons ?_))
  refine wpAny_mono (he env A E s φ sl H _ eo ao ok vs w) (fun y s₁ p₁ => ?_) fun _ _ e => e
  obtain ⟨v, H₁, φ₁, w₁, ok₁, rv, g₁, r₁⟩ := p₁
  refine Calls.spliced_nil ?_
  split at w₁
  · rename_i n
    cases rv with
    | @int _ t =>
      refine call_range_1 ?_
      have kp : ∀ b o, s₁.heap.get? b = some o → (s₁.heap.push { cls := .type "range", data := .fields #[.int 0 s₁.toks, .int n t, .int 1 (s₁.toks + 1)] }).get? b = some o := fun b o e => Heap.get?_push_of_some _ e
      refine wpAny_pyIter_range (s := { s₁ with heap := s₁.heap.push { cls := .type "range", data := .fields #[.int 0 s₁.toks, .int n t, .int 1 (s₁.toks + 1)] }, toks := s₁.toks + 1 + 1 }) (IsRange.new ..) (range_small w₁.1) ?_
      have ok₂ := ok₁.keep kp
      have kp' : ∀ b o, (s₁.heap.push { cls := .type "range", data := .fields #[.int 0 s₁.toks, .int n t, .int 1 (s₁.toks + 1)] }).get? b = some o → ((s₁.heap.push { cls := .type "range", data := .fields #[.int 0 s₁.toks, .int n t, .int 1 (s₁.toks + 1)] }).push { cls := .type "range_iterator", data := .fields #[rawInt 0, rawInt (Builtin.Range.rangeSize 0 n 1), rawInt 1] }).get? b = some o := fun b o e => Heap.get?_push_of_some _ e
      exact ⟨_, _, H₁, φ₁, rfl, w₁.2, trivial, range_walk ao.handled (Heap.get?_push_size _ rfl) (rangeSize_nonneg ..) φ₁, (g₁.trans (.of_keep kp)).none (new_none _), (new_unz ok₂).1, (new_unz ok₂).2, ok₂.keep kp', (g₁.trans (.of_keep kp)).trans (.of_keep kp'), (r₁.trans (Rest.mk s₁ _ _)).trans (Rest.mk _ _ _)⟩
  · exact w₁.elim

/-! ### for -/
def wForGo (ns : List Int) (k : ItK) (ta : WA) (b : WS) : List V → WS
  | [] => fun sl H Q => Q .next sl H
  | v :: r => fun sl H Q => ta v sl H fun sl₁ H₁ => b sl₁ H₁ fun F sl₂ H₂ => match F with | .next => k.inv ns H₂ ∧ wForGo ns k ta b r sl₂ H₂ Q | .ret u => Q (.ret u) sl₂ H₂
def wFor (ns : List Int) (it : WI) (ta : WA) (b : WS) : WS := fun sl H Q => it sl H fun k H₁ => wForGo ns k ta b k.items sl H₁ Q
/-- the target does not look at the iterator -/
def Lot (M : Model) (t : Expr) : Prop := ∀ A E s I l i (y : Value) (R : Unit → Shared → Prop), (s.heap.IsListIter I l i ∨ ∀ T, y ≠ .ref T) → R () s → wpAny M A (letOwnedTupleGo t (.ref I) y) R E s
theorem lot_name {M x p} : Lot M (.Name x p) := fun _ _ _ _ _ _ _ _ _ h => wpAny_pure h
theorem ex_for {t iter body pos wi wa wb} (G : Good c) (hi : Ei c d sc ρ iter wi) (ht : At c d sc ρ t wa) (hb : Exs c d sc ρ body wb) (hl : Lot (model c.prog c.w) t) (hs : ∀ env x, foldedSetIterable iter env x = pure x) : Ex c d sc ρ (.For t iter body [] pos) (wFor c.ns wi wa wb) := by
  intro env A E s φ sl H Q eo ao ok vs w
  refine wpAny_For (wpAny_mono (hi env A E s φ sl H _ eo ao ok vs w) (fun x s₁ p₁ => wpAny_mono p₁ (fun it s₂ p₂ => ?_) fun _ _ e => e) fun _ _ e => e) (hs env)
  obtain ⟨I, k, H₂, φ₂, rfl, q, iv, ia, fI, nl, nz, ok₂, g₂, r₂⟩ := p₂
  have vs₂ := vs.grow g₂
  have fr : I ≠ env.locals ∧ (∀ x, env.cells.lookup x ≠ some I) ∧ c.h₀.get? I = none := by
    refine ⟨fun e => ?_, fun x e => ?_, ?_⟩
    · obtain ⟨m, ⟨o, _, _, ho, _⟩, _⟩ := vs.loc
      rw [← e, fI] at ho; cases ho
    · obtain ⟨_, _, _, y, o, ho, _⟩ := vs.offC x I e
      rw [fI] at ho; cases ho
    · cases e : c.h₀.get? I with
      | none => rfl
      | some o => have := ok.base _ _ e; rw [fI] at this; cases this
  obtain ⟨fL, fC, f0⟩ := fr
  refine codeAny_forLoop_any (fun n s' => ∃ i φ' sl' H', i + n = k.items.length ∧ wForGo c.ns k wa wb (k.items.drop i) sl' H' Q ∧ k.inv c.ns H' ∧ ItAt c A φ' s'.heap I i k ∧ I ∉ φ'.l ∧ I ∉ φ'.z ∧ Ok c φ' H' s'.heap ∧ Vars c ρ φ' s'.heap env sl' ∧ GrowS env φ s.heap φ' s'.heap ∧ Rest s s')
    ?_ k.items.length ⟨0, φ₂, sl, H₂, by simp, q, iv, ia, nl, nz, ok₂, vs₂, g₂.toS, r₂⟩
  rintro n s' ⟨i, φ', sl', H', hn, q, iv, ia, nl, nz, ok', vs', g', r'⟩
  cases n with
  | zero =>
    have hi : i = k.items.length := by omega
    refine ItAt.done G ao.handled ok' iv ia hi fun h' t kp => wpAny_execs_nil ?_
    rw [List.drop_eq_nil_of_le (by omega)] at q
    refine ⟨.next, sl', H', φ', q, ok'.same nl nz f0 kp, vs'.same fL fC nz kp, trivial, ?_, r'.trans (Rest.mk s' _ _)⟩
    refine ⟨g'.ext, fun b o e n1 n2 n3 => kp b o (fun z => ?_) (g'.keep b o e n1 n2 n3), fun b o e => ?_⟩
    · rw [z, fI] at e; cases e
    · obtain ⟨o', e'⟩ := g'.live b o e
      exact ⟨o', kp b o' (fun z => by rw [z, fI] at e; cases e) e'⟩
  | succ n =>
    have hlt : i < k.items.length := by omega
    obtain ⟨v, ev⟩ : ∃ v, k.items[i]? = some v := ⟨_, List.getElem?_eq_getElem hlt⟩
    rw [List.drop_eq_getElem_cons hlt] at q
    have ev' : k.items[i] = v := by rw [List.getElem?_eq_getElem hlt] at ev; cases ev; rfl
    rw [ev'] at q
    refine ItAt.item G ok' iv ia ev fun y h' tk ry ia' kp lv lt => ?_
    have ok₃ := ok'.same nl nz f0 kp
    have vs₃ := vs'.same fL fC nz kp
    have g₃ : GrowS env φ s.heap φ' h' := ⟨g'.ext, fun b o e n1 n2 n3 => kp b o (fun z => by rw [z, fI] at e; cases e) (g'.keep b o e n1 n2 n3), fun b o e => by
      obtain ⟨o', e'⟩ := g'.live b o e
      exact ⟨o', kp b o' (fun z => by rw [z, fI] at e; cases e) e'⟩⟩
    have ry₃ : RepV c φ' h' v y := ry.keep fun b o z e => kp b o (fun w => nz (w ▸ z)) e
    have go : wpAny (model c.prog c.w) A (letOwnedTupleGo t (.ref I) y) (fun _ s₁' => s₁' = { s' with heap := h', toks := tk }) (notedBy (model c.prog c.w) A env fun e s' => (match (Except.error e : Result) with | .ok f => PostS c ρ env φ s Q f s' | .error e => cameBackBy (model c.prog c.w) A env E e s')) { s' with heap := h', toks := tk } := by
      rcases lt with ⟨l, it⟩ | nr
      · exact hl _ _ _ _ l _ _ _ (.inl it) rfl
      · exact hl _ _ _ _ 0 0 _ _ (.inr nr) rfl
    refine wpAny_mono go (fun _ s₁' es => ?_) fun _ _ e => e
    subst es
    refine wpAny_mono (ht env A _ _ φ' sl' H' v y _ eo ao ok₃ vs₃ ry₃ q) (fun _ s₄ p₄ => ?_) fun _ _ e => e
    obtain ⟨sl₄, H₄, φ₄, q₄, ok₄, vs₄, g₄, r₄⟩ := p₄
    refine wpAny_mono (hb env A _ s₄ φ₄ sl₄ H₄ _ eo ao ok₄ vs₄ q₄) (fun f s₅ p₅ => ?_) fun _ _ e => e
    obtain ⟨F, sl₅, H₅, φ₅, q₅, ok₅, vs₅, rf, g₅, r₅⟩ := p₅
    have rr : Rest s s₅ := ((r'.trans (Rest.mk s' h' tk)).trans r₄).trans r₅
    cases F with
    | ret u =>
      cases f with
      | ret x => exact ⟨.ret u, sl₅, H₅, φ₅, q₅, ok₅, vs₅, rf, (g₃.trans g₄).trans g₅, rr⟩
      | _ => exact rf.elim
    | next =>
      cases f with
      | next =>
        obtain ⟨o, lo⟩ := lv
        have n4 := g₄.nin nl lo
        have z4 := g₄.ninz nz lo
        have l4 := g₄.keep I o lo nl fL fC
        have n5 := g₅.nin n4 l4
        have z5 := g₅.ninz z4 l4
        have l5 := g₅.keep I o l4 n4 fL fC
        refine ⟨n, Nat.lt_succ_self n, i + 1, φ₅, sl₅, H₅, by omega, q₅.2, q₅.1, ia'.keep (fun o' e' => ?_) (fun k a e => g₅.at (g₄.at e)), n5, z5, ok₅, vs₅, (g₃.trans g₄).trans g₅, rr⟩
        rw [lo] at e'; cases e'; exact l5
      | _ => exact rf.elim
end
end Mine

namespace Mine
section
variable {c : Cx} {d : Nat} {sc : Scope} {ρ : List Str}

/-! ### a slot is stored -/
def othersOf (h : Heap) (L x : Addr) : List (Addr × Obj) := (List.range h.objs.size).filterMap fun b => if b = L ∨ b = x then none else (h.get? b).map fun o => (b, o)
theorem mem_others {h : Heap} {L x b : Addr} {o : Obj} : (b, o) ∈ othersOf h L x ↔ h.get? b = some o ∧ b ≠ L ∧ b ≠ x := by
  unfold othersOf
  rw [List.mem_filterMap]
  constructor
  · rintro ⟨b', _, e⟩
    split at e
    · cases e
    · rename_i n
      obtain ⟨o', h1, h2⟩ := Option.map_eq_some_iff.mp e
      cases h2
      exact ⟨h1, fun q => n (.inl q), fun q => n (.inr q)⟩
  · rintro ⟨e, n1, n2⟩
    exact ⟨b, List.mem_range.mpr (Heap.lt_size e), by rw [if_neg (by rintro (q | q); exact n1 q; exact n2 q), e]; rfl⟩
theorem set_slot_ok {A E} {s : Shared} {K : Frag} {C p x L : Addr} {i : Nat} {name : Str} {v : Value} {ox od : Obj} {m : Str → Option Value} {R : Unit → Shared → Prop} (X : K.In s.heap) (I : InstAt s.heap x ox C (some od))
    (hs : findIn K (.ref C) "__setattr__" = some (some (.builtin "object.__setattr__"))) (hp : plainOver K C = true) (ht : takerIn K C name = some (some (.ref p))) (hT : typeIn K (.ref p) = some (.type "member_descriptor")) (hi : slotIn K p C = some i) (hz : i < 1000)
    (hn : s.heap.Ns L m) (hx : x ≠ L) (hf : ox.isFreed = false)
    (h : ∀ h', h'.Ns L m → (∀ b o, b ≠ x → b ≠ L → s.heap.get? b = some o → h'.get? b = some o) → h'.get? x = some { ox with slots := (ox.slots ++ Array.replicate (i + 1 - ox.slots.size) none).setIfInBounds i (some v) } → R () { s with heap := h', toks := s.toks + 1 }) :
    wpAny (model c.prog c.w) A (setAttr (.ref x) name v) R E s := by
  have F : Fr { objs := #[] } L s.heap m := ⟨hn, fun b o e => by simp [Heap.get?] at e, Nat.zero_le _⟩
  have N : News { objs := #[] } L s.heap ([] ++ (x, ox) :: othersOf s.heap L x) := by
    intro q hq
    rcases List.mem_cons.mp hq with rfl | hq
    · exact ⟨I.at_, hx, by simp [Heap.get?]⟩
    · obtain ⟨h1, h2, h3⟩ := mem_others.mp hq
      exact ⟨h1, h2, by simp [Heap.get?]⟩
  refine set_plain X I hs (osa_descr (s := { s with toks := s.toks + 1 }) KF.slot_mset X I hp ht hT (slot_set (s := { s with toks := s.toks + 1 }) F N X I hi hz (fun _ h => nomatch h) (fun q hq => (mem_others.mp hq).2.2) rfl ?_ fun h' F' N' => ?_))
  · obtain ⟨a, b, dt, sl⟩ := ox
    cases dt <;> first | rfl | exact hf
  · exact h h' F'.ns (fun b o n1 n2 e => (N' (b, o) (.tail _ (mem_others.mpr ⟨e, n2, n1⟩))).1) (N' (x, _) (.head _)).1
/-- a tracked object is turned, and the frame's own object may be another one that says the same -/
theorem put_in {φ H h h' env sl lo o m} {j : Nat} {a : Addr} (ok : Ok c φ H h) (vs : Vars c ρ φ h env sl) (hj : φ.l[j]? = some a) (r : RepO c φ h lo o) (hn' : h'.Ns env.locals m) (kp : ∀ b o, b ≠ a → b ≠ env.locals → h.get? b = some o → h'.get? b = some o) (e : h'.get? a = some o)
    (hm : h.Ns env.locals m := by assumption) : Ok c φ (H.set j lo) h' ∧ Vars c ρ φ h' env sl ∧ GrowS env φ h φ h' := by
  have ma : a ∈ φ.l := List.mem_of_getElem? hj
  have kz : ∀ b o, b ∈ φ.z → h.get? b = some o → h'.get? b = some o := fun b o z e => kp b o (fun q => ok.dj b z (q ▸ ma)) (fun q => vs.offZ (q ▸ z)) e
  refine ⟨⟨fun b o e => kp b o (fun q => ok.off b o e (q ▸ ma)) (fun q => by rw [q, vs.newL] at e; cases e) (ok.base b o e), ok.off, by simp [ok.len], ok.nodup, fun i x lo' e1 e2 => ?_, ok.dj, fun b m => by obtain ⟨o, e⟩ := ok.zl b m; exact ⟨o, kz b o m e⟩, ok.g0, ok.sm⟩, ?_, ?_⟩
  · by_cases q : i = j
    · subst q
      rw [e1] at hj
      cases hj
      rw [List.getElem?_set_self (by rw [← ok.len]; exact (List.getElem?_eq_some_iff.mp e1).1)] at e2
      cases e2
      exact ⟨o, e, r.keep kz⟩
    · rw [List.getElem?_set_ne (Ne.symm q)] at e2
      obtain ⟨o', h1, h2⟩ := ok.objs i x lo' e1 e2
      refine ⟨o', kp _ _ (fun z => q ?_) (fun z => vs.offL (z ▸ List.mem_of_getElem? e1)) h1, h2.keep kz⟩
      subst z
      obtain ⟨l1, e1'⟩ := List.getElem?_eq_some_iff.mp e1
      obtain ⟨l2, ek'⟩ := List.getElem?_eq_some_iff.mp hj
      exact (List.getElem_inj (h₀ := l1) (h₁ := l2) ok.nodup).mp (e1'.trans ek'.symm)
  · obtain ⟨m₀, hn₀, hm₀⟩ := vs.loc
    have em : m₀ = m := by
      obtain ⟨o1, es1, ep1, h1, d1, _, f1⟩ := hn₀
      obtain ⟨o2, es2, ep2, h2, d2, _, f2⟩ := hm
      rw [h1] at h2; cases h2
      rw [d1] at d2; cases d2
      funext x; rw [← f1 x, ← f2 x]
    subst em
    have kc : ∀ x b, env.cells.lookup x = some b → ∀ o, h.get? b = some o → h'.get? b = some o := fun x b ex o eb => by
      obtain ⟨n, z, n0, y, o', ho', hd⟩ := vs.offC x b ex
      refine kp b o (fun q => n (q ▸ ma)) (fun q => ?_) eb
      obtain ⟨o2, es, ep, ho2, hd2, _⟩ := hn₀
      rw [q, ho2] at ho'; cases ho'; rw [hd] at hd2; cases hd2
    refine ⟨vs.nd, vs.len, vs.offL, vs.offZ, vs.newL, ⟨m₀, hn', fun i x w h1 h2 h3 => ?_⟩, fun x b ex => ?_, vs.inj, fun i x w h1 h2 h3 => ?_, vs.has⟩
    · obtain ⟨y, h4, h5⟩ := hm₀ i x w h1 h2 h3
      exact ⟨y, h4, h5.keep kz⟩
    · obtain ⟨n, z, n0, y, o', ho', hd⟩ := vs.offC x b ex
      exact ⟨n, z, n0, y, o', kc x b ex o' ho', hd⟩
    · obtain ⟨b, y, h4, ⟨o', ho', hd⟩, h6⟩ := vs.cel i x w h1 h2 h3
      exact ⟨b, y, h4, ⟨o', kc x b h4 o' ho', hd⟩, h6.keep kz⟩
  · refine ⟨⟨[], [], by simp, by simp, by simp, by simp⟩, fun b o e n1 n2 _ => kp b o (fun q => n1 (q ▸ ma)) n2 e, fun b o' e' => ?_⟩
    by_cases q : b = a
    · exact ⟨o, q ▸ e⟩
    · by_cases q2 : b = env.locals
      · obtain ⟨o2, _, _, ho2, _⟩ := hn'
        exact ⟨o2, q2 ▸ ho2⟩
      · exact ⟨o', kp b o' q q2 e'⟩
def setF (fs : List (Option V)) (i : Nat) (v : V) : List (Option V) := (fs ++ List.replicate (i + 1 - fs.length) none).set i (some v)
theorem setF_join {fs : List (Option V)} {i : Nat} {v : V} (j : Nat) : ((setF fs i v)[j]?).join = if j = i then some v else (fs[j]?).join := by
  unfold setF
  by_cases q : j = i
  · subst q
    rw [List.getElem?_set_self (by simp; omega)]
    simp
  · rw [List.getElem?_set_ne (Ne.symm q), if_neg q]
    by_cases l : j < fs.length
    · rw [List.getElem?_append_left l]
    · rw [List.getElem?_append_right (Nat.not_lt.mp l), List.getElem?_replicate, List.getElem?_eq_none (Nat.not_lt.mp l)]
      split <;> rfl
theorem setA_join {xs : Array (Option Value)} {i : Nat} {v : Value} (j : Nat) : (((xs ++ Array.replicate (i + 1 - xs.size) none).setIfInBounds i (some v))[j]?).join = if j = i then some v else (xs[j]?).join := by
  by_cases q : j = i
  · subst q
    rw [Array.getElem?_setIfInBounds_self_of_lt (by simp; omega)]
    simp
  · rw [Array.getElem?_setIfInBounds_ne (Ne.symm q), if_neg q]
    by_cases l : j < xs.size
    · rw [Array.getElem?_append_left l]
    · rw [Array.getElem?_append_right (Nat.not_lt.mp l), Array.getElem?_replicate, Array.getElem?_eq_none (Nat.not_lt.mp l)]
      split <;> rfl
def wSetAttr (k i : Nat) (a b : WE) : WS := fun sl H Q => b sl H fun v H₁ => a sl H₁ fun o H₂ => match o with
  | .loc j => (match H₂[j]? with | some (.inst k' fs) => k' = k ∧ Q .next sl (H₂.set j (.inst k (setF fs i v))) | _ => False)
  | _ => False
theorem ex_setattr {o name ap e pos k i p a b} (G : Good c) (ho : Ev c d sc ρ o a) (he : Ev c d sc ρ e b)
    (hs : findIn c.K (.ref (c.cls k)) "__setattr__" = some (some (.builtin "object.__setattr__"))) (hp : plainOver c.K (c.cls k) = true) (ht : takerIn c.K (c.cls k) name = some (some (.ref p))) (hT : typeIn c.K (.ref p) = some (.type "member_descriptor")) (hi : slotIn c.K p (c.cls k) = some i) (hz : i < 1000)
    (hw : ∀ env, swapsWith e (some (.Attribute o name ap)) pos.line env = pure false) : Ex c d sc ρ (.Assign [.Attribute o name ap] e pos) (wSetAttr k i a b) := by
  intro env A E s φ sl H Q eo ao ok vs w
  refine plainObj_wpAny_Assign_Attribute (wpAny_mono (he env A E s φ sl H _ eo ao ok vs w) (fun y s₁ p₁ => ?_) fun _ _ e => e) (hw env)
  obtain ⟨v, H₁, φ₁, w₁, ok₁, rv, g₁, r₁⟩ := p₁
  refine wpAny_mono (ho env A E s₁ φ₁ sl H₁ _ eo ao ok₁ (vs.grow g₁) w₁) (fun x s₂ p₂ => ?_) fun _ _ e => e
  obtain ⟨u, H₂, φ₂, w₂, ok₂, ru, g₂, r₂⟩ := p₂
  have vs₂ := vs.grow (g₁.trans g₂)
  split at w₂
  · rename_i j
    split at w₂
    · rename_i k' fs ej
      obtain ⟨rfl, w₂⟩ := w₂
      cases ru with
      | loc hj =>
        rename_i xa
        obtain ⟨oo, h1, h2⟩ := ok₂.objs j xa _ hj ej
        cases h2 with
        | inst r z n yz eb =>
          rename_i xs b
          have mj : xa ∈ φ₂.l := List.mem_of_getElem? hj
          have nL : xa ≠ env.locals := fun q => vs₂.offL (q ▸ mj)
          obtain ⟨m, hn, hm⟩ := id vs₂.loc
          refine set_slot_ok (ok₂.X G) ⟨h1, rfl, rfl, eb⟩ hs hp ht hT hi hz hn nL rfl fun h' hn' kp hx' => ?_
          have rv₂ := rv.grow g₂
          have ro : RepO c φ₂ s₂.heap (.inst k' (setF fs i v)) { cls := .ref (c.cls k'), dict := some b, data := .plain, slots := (xs ++ Array.replicate (i + 1 - xs.size) none).setIfInBounds i (some y) } := by
            refine .inst (fun t u e => ?_) (fun t e => ?_) n ‹_› eb
            · rw [setF_join] at e
              rw [setA_join]
              split at e
              · rename_i q; cases e; exact ⟨_, if_pos q, rv₂⟩
              · rename_i q; obtain ⟨x', h3, h4⟩ := r t u e
                exact ⟨x', by rw [if_neg q]; exact h3, h4⟩
            · rw [setF_join] at e
              rw [setA_join]
              split at e
              · cases e
              · rename_i q; rw [if_neg q]; exact z t e
          obtain ⟨ok', vs', g'⟩ := put_in ok₂ vs₂ hj ro hn' kp hx'
          exact ⟨.next, sl, _, φ₂, w₂, ok', vs', trivial, (g₁.trans g₂).toS.trans g', (r₁.trans r₂).trans (Rest.mk s₂ h' _)⟩
    · exact w₂.elim
  · exact w₂.elim
end
end Mine

namespace Mine
section
variable {c : Cx} {d : Nat} {sc : Scope} {ρ : List Str}

/-! ### a def of the text -/
def FnC (c : Cx) (d : Nat) (f : Value) (W : WF) : Prop :=
  ∀ A s φ H args vals Q (R : Result → Shared → Prop), AOK d A → Ok c φ H s.heap → RepVs c φ s.heap args vals → W args H Q → (∀ x s', PostE c φ s Q x s' → R (.ok (.ret x)) s') → codeAny (model c.prog c.w) A (.call f ⟨vals, []⟩) R s
theorem FnC.ok {f W} (h : FnC c d f W) : FnOK c d f W := fun A _ s φ H args vals Q ao ok r w => wpAny_call (h A s φ H args vals Q _ ao ok r w fun _ _ p => p)
theorem FnC.weaken {f W W'} (h : FnC c d f W) (k : ∀ args H Q, W' args H Q → W args H Q) : FnC c d f W' := fun A s φ H args vals Q R ao ok r w => h A s φ H args vals Q R ao ok r (k _ _ _ w)
def retV : Fl → V
  | .ret v => v
  | .next => .none
def fnW (n k : Nat) (W : WS) : WF := fun args H Q => args.length = n ∧ W (args.map some ++ List.replicate k none) H fun F _ H' => Q (retV F) H'
theorem bindL_not {kd : Str → Option NameKind} {x : Str} : ∀ (bs : List (Str × Value)) (m : Str → Option Value), x ∉ bs.map (·.1) → bindL kd bs m x = m x
  | [], _, _ => rfl
  | (n, v) :: r, m, h => by
    rw [List.map_cons, List.mem_cons] at h
    unfold bindL
    rw [bindL_not r _ fun q => h (.inr q)]
    split
    · exact if_neg fun q => h (.inl q)
    · rfl
theorem bindC_not {kd : Str → Option NameKind} {x : Str} : ∀ (bs : List (Str × Value)) (m : Str → Option Value), x ∉ bs.map (·.1) → bindC kd bs m x = m x
  | [], _, _ => rfl
  | (n, v) :: r, m, h => by
    rw [List.map_cons, List.mem_cons] at h
    unfold bindC
    rw [bindC_not r _ fun q => h (.inr q)]
    split
    · rfl
    · exact if_neg fun q => h (.inl q)
theorem bindL_get {kd : Str → Option NameKind} {x : Str} {v : Value} : ∀ (bs : List (Str × Value)) (m : Str → Option Value), (bs.map (·.1)).Nodup → (x, v) ∈ bs → kd x = some .local → bindL kd bs m x = some v
  | (n, w) :: r, m, nd, h, hk => by
    rw [List.map_cons, List.nodup_cons] at nd
    unfold bindL
    rcases List.mem_cons.mp h with e | h
    · cases e
      rw [bindL_not r _ nd.1, if_pos hk, if_pos rfl]
    · exact bindL_get r _ nd.2 h hk
theorem bindC_get {kd : Str → Option NameKind} {x : Str} {v : Value} : ∀ (bs : List (Str × Value)) (m : Str → Option Value), (bs.map (·.1)).Nodup → (x, v) ∈ bs → kd x = some .cell → bindC kd bs m x = some v
  | (n, w) :: r, m, nd, h, hk => by
    rw [List.map_cons, List.nodup_cons] at nd
    unfold bindC
    rcases List.mem_cons.mp h with e | h
    · cases e
      rw [bindC_not r _ nd.1, if_neg (by rw [hk]; decide), if_pos rfl]
    · exact bindC_get r _ nd.2 h hk
theorem Ok.fresh {φ H h a} (ok : Ok c φ H h) (e : h.get? a = none) : a ∉ φ.l ∧ a ∉ φ.z ∧ c.h₀.get? a = none := by
  refine ⟨fun m => ?_, fun m => ?_, ?_⟩
  · obtain ⟨o, e'⟩ := ok.live m; rw [e] at e'; cases e'
  · obtain ⟨o, e'⟩ := ok.zl _ m; rw [e] at e'; cases e'
  · cases q : c.h₀.get? a with
    | none => rfl
    | some o => have := ok.base _ _ q; rw [e] at this; cases this
theorem fn_okG {PA0 : Around → Prop} {PA : Env → Around → Prop} {f : Addr} {fo : Obj} {fd : FuncData} {body : List Stmt} {ps rest : List Str} {W : WS} (G : Good c) (ho : c.h₀.get? f = some fo) (hd : fo.data = .func fd) (hcd : c.h₀.CodeRec fd.code fd.qualname) (hbody : fd.body = .stmts body) (hclo : fd.closure = [])
    (hbind : ∀ vals : List Value, vals.length = ps.length → bindArgs fd ⟨vals, []⟩ = pure (ps.zip vals)) (hg : fd.globals = mainGlobals) (hbi : fd.builtins = builtinsNs) (hco : fd.scope.isCoroutine = false) (hgen : fd.scope.isGenerator = false) (hk : fd.scope.kind = .function)
    (hnd : (ps ++ rest).Nodup) (hkd : ∀ x ∈ ps ++ rest, fd.scope.names.lookup x = some .local ∨ fd.scope.names.lookup x = some .cell) (hP : ∀ A L, PA0 A → PA (callEnvC fd L f) (A.deeper (callEnvC fd L f)))
    (hb : ∀ env A E s φ sl H Q, PA env A → EnvOK fd.scope env → AOK d A → Ok c φ H s.heap → Vars c (ps ++ rest) φ s.heap env sl → W sl H Q → wpAny (model c.prog c.w) A (execs body env) (PostS c (ps ++ rest) env φ s Q) E s)
    (A : Around) (s : Shared) (φ : Mp) (H : HW) (args : List V) (vals : List Value) (Q : V → HW → Prop) (R : Result → Shared → Prop) (pa : PA0 A) (ao : AOK (d + 1) A) (ok : Ok c φ H s.heap) (r : RepVs c φ s.heap args vals) (w : fnW ps.length rest.length W args H Q) (k : ∀ x s', PostE c φ s Q x s' → R (.ok (.ret x)) s') : codeAny (model c.prog c.w) A (.call (.ref f) ⟨vals, []⟩) R s := by
  obtain ⟨hn, w⟩ := w
  have hv : vals.length = ps.length := by rw [← r.length, hn]
  have kz : (ps.zip vals).map (·.1) = ps := List.map_fst_zip (by omega)
  have pn : ps.Nodup := (List.nodup_append.mp hnd).1
  refine codeAny_call_cells (by have := ao.depth; show A.depth < 1000; omega) (ok.base _ _ ho) hd (G.NL.keeps ok.base) (hcd.keeps ok.base) hbody (hbind vals hv) hclo (fun x hx => ?_) (fun s₁ x => ?_) hco hgen hk
  · have hm : x.1 ∈ ps := by rw [← kz]; exact List.mem_map_of_mem hx
    rcases hkd x.1 (List.mem_append_left _ hm) with h | h
    · exact .inl h
    · exact .inr ⟨h, cellsFrom_some _ _ _ (.inl h)⟩
  · have kp := x.toInCall.keep
    have eL : (callEnvC fd s.heap.objs.size f).locals = s.heap.objs.size := rfl
    have eK : ∀ y, (callEnvC fd s.heap.objs.size f).kindOf y = fd.scope.names.lookup y := fun _ => rfl
    have eC : (callEnvC fd s.heap.objs.size f).cells = cellsFrom (s.heap.objs.size + 1) fd.scope.names [] := rfl
    have nb : ∀ a, s.heap.get? a = none → a ∉ φ.l ∧ a ∉ φ.z ∧ c.h₀.get? a = none := fun a e => ok.fresh e
    have fc : ∀ y a, (callEnvC fd s.heap.objs.size f).cells.lookup y = some a → s.heap.get? a = none := fun y a e => by
      have := x.above y a (PySem.mem_of_lookup e)
      exact Heap.get?_none_of_le (Nat.le_of_lt this)
    have ok₁ : Ok c φ H s₁.heap := ok.keep kp
    have g₁ : Grow φ s.heap φ s₁.heap := .of_keep kp
    have r₁ := r.grow g₁
    have at_ : ∀ (i : Nat) y v, (ps ++ rest)[i]? = some y → (args.map some ++ List.replicate rest.length none)[i]? = some (some v) → ∃ z, (y, z) ∈ ps.zip vals ∧ RepV c φ s₁.heap v z := fun i y v e1 e2 => by
      by_cases hi : i < ps.length
      · rw [List.getElem?_append_left hi] at e1
        rw [List.getElem?_append_left (by simp [hn]; exact hi), List.getElem?_map] at e2
        obtain ⟨u, h1, h2⟩ := Option.map_eq_some_iff.mp e2
        cases h2
        obtain ⟨z, h3, h4⟩ := r₁.get h1
        refine ⟨z, ?_, h4⟩
        apply List.mem_of_getElem? (i := i)
        rw [List.getElem?_zip_eq_some]
        exact ⟨e1, h3⟩
      · rw [List.getElem?_append_right (by simp [hn]; omega), List.getElem?_replicate] at e2
        split at e2 <;> cases e2
    have vs : Vars c (ps ++ rest) φ s₁.heap (callEnvC fd s.heap.objs.size f) (args.map some ++ List.replicate rest.length none) := by
      refine ⟨hnd, by simp [hn], (nb _ (new_none _)).1, (nb _ (new_none _)).2.1, (nb _ (new_none _)).2.2, ⟨_, x.toInCall.ns, fun i y v e1 e2 e3 => ?_⟩, fun y a e => ?_, fun y z a e1 e2 => PySem.name_of_addr x.apart (PySem.mem_of_lookup e1) (PySem.mem_of_lookup e2), fun i y v e1 e2 e3 => ?_, fun i y e1 e2 => ?_⟩
      · obtain ⟨z, h1, h2⟩ := at_ i y v e1 e3
        exact ⟨z, bindL_get _ _ (by rw [kz]; exact pn) h1 e2, h2⟩
      · have e0 := fc y a e
        exact ⟨(nb a e0).1, (nb a e0).2.1, (nb a e0).2.2, _, x.cell y a e⟩
      · obtain ⟨z, h1, h2⟩ := at_ i y v e1 e3
        have ey : (callEnvC fd s.heap.objs.size f).kindOf y = some .cell := by
          rcases e2 with e2 | e2
          · exact e2
          · rcases hkd y (List.mem_of_getElem? e1) with q | q <;> (rw [eK, q] at e2; cases e2)
        obtain ⟨a, ea⟩ := Option.isSome_iff_exists.mp (cellsFrom_some (x := y) fd.scope.names (s.heap.objs.size + 1) [] (.inl ey))
        refine ⟨a, z, ea, ?_, h2⟩
        have := x.cell y a ea
        rw [bindC_get _ _ (by rw [kz]; exact pn) h1 ey] at this
        exact this
      · exact Option.isSome_iff_exists.mp (cellsFrom_some (x := y) fd.scope.names (s.heap.objs.size + 1) [] (.inl e2))
    refine wpAny_mono (hb _ (A.deeper (callEnvC fd s.heap.objs.size f)) _ s₁ φ _ H _ (hP A s.heap.objs.size pa) ⟨rfl, hg, hbi⟩ ⟨ao.handled, by have := ao.depth; show A.depth + 1 + d < 900; omega, by have := ao.units; show A.units + 3 + 20 * d < 9000; omega⟩ ok₁ vs w) (fun fl s' p => ?_) fun _ _ e => e
    obtain ⟨F, sl', H', φ', q, ok', vs', rf, g', rs'⟩ := p
    have g : Grow φ s.heap φ' s'.heap := by
      refine ⟨?_, fun b o e n => g'.keep b o (kp b o e) n (fun z => ?_) (fun y z => ?_), fun b o e => g'.live b o (kp b o e)⟩
      · obtain ⟨δ, ζ, e1, e2, h1, h2⟩ := g'.ext
        exact ⟨δ, ζ, e1, e2, fun a m => g₁.none (h1 a m), fun a m => g₁.none (h2 a m)⟩
      · rw [z, eL, new_none] at e; cases e
      · rw [fc y b z] at e; cases e
    have rs : Rest s s' := by
      obtain ⟨h1, t1, e1, _⟩ := x.done
      exact Rest.trans (b := s₁) ⟨h1, t1, e1⟩ rs'
    cases F with
    | next =>
      cases fl with
      | next => exact k _ _ ⟨.none, H', φ', q, ok', .none, g, rs⟩
      | _ => exact rf.elim
    | ret v =>
      cases fl with
      | ret y => exact k _ _ ⟨v, H', φ', q, ok', rf, g, rs⟩
      | _ => exact rf.elim

theorem fn_ok {f : Addr} {fo : Obj} {fd : FuncData} {body : List Stmt} {ps rest : List Str} {W : WS} (G : Good c) (ho : c.h₀.get? f = some fo) (hd : fo.data = .func fd) (hcd : c.h₀.CodeRec fd.code fd.qualname) (hbody : fd.body = .stmts body) (hclo : fd.closure = [])
    (hbind : ∀ vals : List Value, vals.length = ps.length → bindArgs fd ⟨vals, []⟩ = pure (ps.zip vals)) (hg : fd.globals = mainGlobals) (hbi : fd.builtins = builtinsNs) (hco : fd.scope.isCoroutine = false) (hgen : fd.scope.isGenerator = false) (hk : fd.scope.kind = .function)
    (hnd : (ps ++ rest).Nodup) (hkd : ∀ x ∈ ps ++ rest, fd.scope.names.lookup x = some .local ∨ fd.scope.names.lookup x = some .cell) (hb : Exs c d fd.scope (ps ++ rest) body W) : FnC c (d + 1) (.ref f) (fnW ps.length rest.length W) := fun A s φ H args vals Q R ao ok r w k =>
  fn_okG (PA0 := fun _ => True) (PA := fun _ _ => True) G ho hd hcd hbody hclo hbind hg hbi hco hgen hk hnd hkd (fun _ _ _ => trivial) (fun env A E s φ sl H Q _ eo ao ok vs w => hb env A E s φ sl H Q eo ao ok vs w) A s φ H args vals Q R trivial ao ok r w k

/-! ### classes -/
theorem Ok.inst0 {φ H h k} (ok : Ok c φ H h) : Ok c ⟨φ.l ++ [h.objs.size + 1], φ.z ++ [h.objs.size]⟩ (H ++ [.inst k []]) ((h.push emptyDict).push (instObj (c.cls k) h.objs.size)) ∧
    Grow φ h ⟨φ.l ++ [h.objs.size + 1], φ.z ++ [h.objs.size]⟩ ((h.push emptyDict).push (instObj (c.cls k) h.objs.size)) := by
  obtain ⟨ok₁, g₁⟩ := ok.freeze (new_none h) (h' := h.push emptyDict) (fun b o e => Heap.get?_push_of_some _ e) (Heap.get?_push_size _ rfl)
  have sz : (h.push emptyDict).objs.size = h.objs.size + 1 := Heap.size_push ..
  have n1 : (h.push emptyDict).get? (h.objs.size + 1) = none := by rw [← sz]; exact new_none _
  obtain ⟨ok₂, g₂⟩ := ok₁.alloc (a := h.objs.size + 1) (lo := .inst k []) (o := instObj (c.cls k) h.objs.size) n1 (h' := (h.push emptyDict).push (instObj (c.cls k) h.objs.size)) (fun b o e => Heap.get?_push_of_some _ e) (by rw [← sz]; exact Heap.get?_push_size _ rfl)
    (.inst (fun i v e => by simp at e) (fun i _ => by simp) (new_unz ok).1 (List.mem_append_right _ (.head _)) (Heap.get?_push_size _ rfl)) ok.newS1
  exact ⟨ok₂, g₁.trans g₂⟩
/-- an instance of a class that has no __init__ of its own -/
theorem make_ok0 {k} (G : Good c) (hm : makesIn c.K (c.cls k) = true) (hi : findIn c.K (.ref (c.cls k)) "__init__" = some (some (.builtin "object.__init__"))) : FnC c d (.ref (c.cls k)) (fun args H Q => args = [] ∧ Q (.loc H.length) (H ++ [.inst k []])) := by
  intro A s φ H args vals Q R ao ok r w K
  obtain ⟨rfl, q⟩ := w
  cases r
  obtain ⟨hh, gg, dd, t, os⟩ := s
  obtain ⟨ok₂, g₂⟩ := ok.inst0 (k := k)
  have X := ok.X G
  have Y := makes_of (M := model c.prog c.w) X hm
  refine make_core Y (looks_findIn X hi) (fun self => Looks.of_pure (oi_bind self)) (.inr ⟨rfl, rfl⟩) ?_
  have sz : (hh.push emptyDict).objs.size = hh.objs.size + 1 := Heap.size_push ..
  have hx : ((hh.push emptyDict).push (instObj (c.cls k) hh.objs.size)).get? (hh.objs.size + 1) = some (instObj (c.cls k) hh.objs.size) := by rw [← sz]; exact Heap.get?_push_size _ rfl
  have t1 : Looks (model c.prog c.w) ((hh.push emptyDict).push (instObj (c.cls k) hh.objs.size)) (typeOf (.ref (hh.objs.size + 1))) (.ref (c.cls k)) := (Looks.ld hx).andThen .now
  have t2 : Looks (model c.prog c.w) ((hh.push emptyDict).push (instObj (c.cls k) hh.objs.size)) (isInstance (.ref (hh.objs.size + 1)) (.type "object")) true := t1.andThen (Y.top.keeps fun b o e => Heap.get?_push_of_some _ (Heap.get?_push_of_some _ e))
  refine codeAny_call_builtin oi_plain entry_oi (@check_slot (model c.prog c.w) _ _ _ "object.__init__" "object" "__init__" (.ref (hh.objs.size + 1)) [] [] _ oi_kind oi_split t2 (oi_args (.ref (hh.objs.size + 1))) ?_)
  rw [oi_run]
  exact wpAny_pure (And.intro rfl (K _ _ ⟨.loc H.length, _, _, q, ok₂, .loc (by rw [← ok.len]; simp), g₂, _, _, rfl⟩))

/-! ### an instance that nothing turns any more -/
mutual
inductive Bel (n : Nat) : V → Prop
  | none : Bel n .none
  | bool {b} : Bel n (.bool b)
  | int {i} : Bel n (.int i)
  | str {s} : Bel n (.str s)
  | loc {k} : k < n → Bel n (.loc k)
  | tup {vs} : Bels n vs → Bel n (.tup vs)
  | obj {k fs} : Bels n fs → Bel n (.obj k fs)
  | glob {a} : Bel n (.glob a)
  | script : Bel n .script
inductive Bels (n : Nat) : List V → Prop
  | nil : Bels n []
  | cons {v vs} : Bel n v → Bels n vs → Bels n (v :: vs)
end
theorem Bels.mem {n} : ∀ {vs}, Bels n vs → ∀ v ∈ vs, Bel n v
  | _, .cons h _, _, .head _ => h
  | _, .cons _ t, _, .tail _ m => Bels.mem t _ m
end
end Mine

namespace Mine
section
variable {c : Cx} {d : Nat} {sc : Scope} {ρ : List Str}
theorem at0 {x : Str} {l : List Str} : (x :: l)[0]? = some x := rfl
theorem atS {x y : Str} {l : List Str} {i : Nat} (h : l[i]? = some y) : (x :: l)[i + 1]? = some y := by simpa using h
theorem lstAt_set {H : HW} {k : Nat} {xs} (h : k < H.length) : lstAt (H.set k (.list xs)) k = some xs := by
  unfold lstAt; rw [List.getElem?_set_self h]
theorem lstAt_lt {H : HW} {k : Nat} {xs} (h : lstAt H k = some xs) : k < H.length := (List.getElem?_eq_some_iff.mp (lstAt_of h)).1
/-! ### names by the written part -/
theorem mgIn (G : Good c) {x v} (e : nsIn c.K mainGlobals x = some (some v)) : c.mg x = some v := mg_of G.X G.G e
theorem mgNo (G : Good c) {x} (e : nsIn c.K mainGlobals x = some none) : c.mg x = none := mg_none_of G.X G.G e
theorem ev_fn {x np args pos f W as} (G : Good c) (hf : FnC c d f W) (ha : Evs c d sc ρ args as) (hk : sc.kind = .function) (hx : sc.names.lookup x = some .globalImplicit) (hv : nsIn c.K mainGlobals x = some (some f)) (hkeep : keepIn c.K f = true) (hd : (x == ("__debug__" : Str)) = false) : Ev c d sc ρ (.Call (.Name x np) args [] pos) (wCall W as) :=
  ev_call G hk hx (mgIn G hv) hd hkeep hf.ok ha
/-! ### minus -/
def wNeg (a : WE) : WE := fun sl H Q => a sl H fun v H' => match v with | .int i => Q (.int (-i)) H' | _ => False
theorem ev_neg {x pos a} (h : Ev c d sc ρ x a) : Ev c d sc ρ (.UnaryOp .USub x pos) (wNeg a) := by
  intro env A E s φ sl H Q eo ao ok vs w
  show wpAny _ _ (eval x env >>= fun v => standAt pos >>= fun _ => holding [v] (unaryOp .USub v)) _ _ _
  refine wpAny_bind (wpAny_mono (h env A E s φ sl H _ eo ao ok vs w) (fun y s₁ p₁ => ?_) fun _ _ e => e)
  obtain ⟨v, H₁, φ₁, w₁, ok₁, rv, g₁, r₁⟩ := p₁
  split at w₁
  · cases rv
    exact wpAny_bind (wpAny_standAt (wpAny_holding (neg_int ((PostE.here (s' := { s₁ with toks := s₁.toks + 1 }) w₁ ok₁ .int (fun _ _ e => e) (Rest.mk s₁ s₁.heap _)).shift g₁ r₁))))
  · exact w₁.elim
/-! ### tuple targets -/
def allN : List Expr → Bool
  | [] => true
  | .Name _ _ :: r => allN r
  | _ => false
def tnames : List Expr → List Str
  | .Name x _ :: r => x :: tnames r
  | _ => []
theorem stores_N {M : Model} {env : Env} : ∀ elts : List Expr, allN elts = true → (assignEach elts env).findIdx? (·.1) = none ∧ Stores M env (tnames elts) ((assignEach elts env).map (·.2))
  | [], _ => ⟨rfl, trivial⟩
  | .Name x p :: r, h => by
    have ih := stores_N (M := M) (env := env) r h
    refine ⟨?_, fun _ _ _ _ _ h => PySem.wpAny_assign_Name h, ih.2⟩
    show List.findIdx? (·.1) ((false, assign (.Name x p) env) :: assignEach r env) = none
    rw [List.findIdx?_cons, ih.1]
    rfl
theorem slots_nil : Slots sc ρ [] [] := trivial
theorem slots_cons {i is x xs} (h : ρ[i]? = some x) (hs : Slots sc ρ is xs) (hx : sc.names.lookup x = some .local ∨ sc.names.lookup x = some .cell) : Slots sc ρ (i :: is) (x :: xs) := ⟨⟨h, hx⟩, hs⟩
theorem ex_setTN {elts k tpos e pos a is} (he : Ev c d sc ρ e a) (hx : Slots sc ρ is (tnames elts)) (hk : sc.kind = .function) (hn : allN elts = true)
    (hs : ∀ env, swapsWithSole [.Tuple elts k tpos] e pos.line env = pure false) (hw : ∀ env, env.scope = sc → swappedStores [.Tuple elts k tpos] e env = pure none) : Ex c d sc ρ (.Assign [.Tuple elts k tpos] e pos) (wSetT is a) :=
  ex_setT he hk hx (fun env => (stores_N (M := model c.prog c.w) (env := env) elts hn).1) (fun env => (stores_N elts hn).2) hs hw
theorem ex_setRN {elts k tpos e pos a is} (he : Ev c d sc ρ e a) (hx : Slots sc ρ is (tnames elts)) (hk : sc.kind = .function)
    (hs : ∀ env, swapsWithSole [.Tuple elts k tpos] e pos.line env = pure false) (hw : ∀ env, env.scope = sc → swappedStores [.Tuple elts k tpos] e env = pure (some (tnames elts))) : Ex c d sc ρ (.Assign [.Tuple elts k tpos] e pos) (wSetR is a) :=
  ex_setR he hk hx hs hw
/-! ### + of any kind -/
def wAdd (ns : List Int) : WB := fun v w H Q => match v, w with
  | .int i, .int j => Q (.int (i + j)) H
  | .str a, .str b => a.length + b.length ≤ 1000000 ∧ Q (.str (a ++ b)) H
  | v, w => wAddL ns v w H Q
theorem addV_ok (G : Good c) : BinOK c d .Add (wAdd c.ns) := by
  intro A E s φ H v w x y Q ao ok rv rw' q
  unfold wAdd at q
  split at q
  · exact add_ok A E s φ H _ _ x y Q ao ok rv rw' q
  · rename_i a b
    cases rv; cases rw'
    exact PyProof.Rows.add_str (fun t' tk => PostE.here (s := s) (s' := { s with toks := tk }) q.2 ok .str (fun _ _ e => e) (Rest.mk s s.heap tk)) (by rw [sizeLine_eq]; omega)
  · exact addL_ok G A E s φ H _ _ x y Q ao ok rv rw' q
end
end Mine

namespace Mine
/-! ### slices, plainly -/
theorem pick_range {α : Type} (xs : List α) : ∀ (n s : Nat), s + n ≤ xs.length → ((List.range n).map fun k => s + k).filterMap (xs[·]?) = (xs.drop s).take n
  | 0, s, _ => by simp
  | n + 1, s, h => by
    have ih := pick_range xs n s (by omega)
    rw [List.range_succ, List.map_append, List.filterMap_append, ih]
    have hs : s + n < xs.length := by omega
    rw [List.take_add_one]
    simp [List.getElem?_drop, hs]
theorem sliceV_take {α : Type} (xs : List α) (n : Nat) : sliceV xs none (some (n : Int)) none = xs.take n := by
  have h : sliceRange (sliceBounds none (some (n : Int)) none xs.length).1 (sliceBounds none (some (n : Int)) none xs.length).2.1 (sliceBounds none (some (n : Int)) none xs.length).2.2 = (List.range (min n xs.length)).map fun k => 0 + k := by
    simp only [sliceBounds, sliceRange, Option.getD_none]
    have e : max 0 (min (if (n : Int) < 0 then (n : Int) + xs.length else n) xs.length) = ((min n xs.length : Nat) : Int) := by omega
    simp only [show ((1 : Int) > 0) = True by simp, if_true, e]
    congr 1
    · funext k; omega
    · congr 1
      split <;> omega
  unfold sliceV
  rw [h, pick_range xs _ 0 (by omega)]
  simp [List.take_eq_take_iff]
/-! ### the abstract heap grown -/
theorem ext_lt {α : Type} {H L : List α} {k : Nat} (h : k < H.length) : (H ++ L)[k]? = H[k]? := List.getElem?_append_left h
theorem lstAt_ext {H L : HW} {k : Nat} {xs} (h : lstAt H k = some xs) : lstAt (H ++ L) k = some xs := by
  have := lstAt_of h
  unfold lstAt
  rw [ext_lt (lstAt_lt h), this]
theorem lstAt_set_ne {H : HW} {k j : Nat} {lo : LO} (h : k ≠ j) : lstAt (H.set j lo) k = lstAt H k := by
  unfold lstAt
  rw [List.getElem?_set_ne (Ne.symm h)]
theorem asL_loc {ns : List Int} {H : HW} {k : Nat} : asL ns H (.loc k) = lstAt H k := rfl
end Mine

namespace Mine
/-! ### the words, opened one at a time (as rewritings that are not by computation) -/
section
variable {sl : Sl} {H : HW} {c : Cx} {ns : List Int}
theorem e_skip {Q} : wSkip sl H Q = Q .next sl H := propext Iff.rfl
theorem e_seq {a b Q} : wSeq a b sl H Q = a sl H (fun F sl' H' => match F with | .next => b sl' H' Q | .ret v => Q (.ret v) sl' H') := propext Iff.rfl
theorem e_set {i a Q} : wSet i a sl H Q = a sl H (fun v H' => Q .next (sl.set i (some v)) H') := propext Iff.rfl
theorem e_aug {i f a Q} : wAug i f a sl H Q = wBin f (wVar i) a sl H (fun v H' => Q .next (sl.set i (some v)) H') := propext Iff.rfl
theorem e_drop {a Q} : wDrop a sl H Q = a sl H (fun v H' => match v with | .none => Q .next sl H' | _ => False) := propext Iff.rfl
theorem e_if {t a b Q} : wIf t a b sl H Q = t sl H (fun r H' => if r then a sl H' Q else b sl H' Q) := propext Iff.rfl
theorem e_ret {a Q} : wRet a sl H Q = a sl H (fun v H' => Q (.ret v) sl H') := propext Iff.rfl
theorem e_setT {is a Q} : wSetT is a sl H Q = a sl H (fun v H' => aTup is v sl H' fun sl' H'' => Q .next sl' H'') := propext Iff.rfl
theorem e_setR {is a Q} : wSetR is a sl H Q = a sl H (fun v H' => aTupR is v sl H' fun sl' H'' => Q .next sl' H'') := propext Iff.rfl
theorem e_aTup {is vs K} : aTup is (.tup vs) sl H K = (vs.length = is.length ∧ K (setAll is vs sl) H) := propext Iff.rfl
theorem e_aTupR {is vs K} : aTupR is (.tup vs) sl H K = (vs.length = is.length ∧ K (setAll is.reverse vs.reverse sl) H) := propext Iff.rfl
theorem e_aName {i v K} : aName i v sl H K = K (sl.set i (some v)) H := propext Iff.rfl
theorem e_setAll {i is v vs} : setAll (i :: is) (v :: vs) sl = setAll is vs (sl.set i (some v)) := rfl
theorem e_setAll0 {vs} : setAll [] vs sl = sl := by cases vs <;> rfl
theorem e_k {v Q} : wK v sl H Q = Q v H := propext Iff.rfl
theorem e_var {i Q} : wVar i sl H Q = (match sl[i]? with | some (some v) => Q v H | _ => False) := propext Iff.rfl
theorem e_bin {f a b Q} : wBin f a b sl H Q = a sl H (fun v H₁ => b sl H₁ fun w H₂ => f v w H₂ Q) := propext Iff.rfl
theorem e_onI {f i j Q} : onI f (.int i) (.int j) H Q = Q (f i j) H := propext Iff.rfl
theorem e_mod {i j Q} : wMod (.int i) (.int j) H Q = (j ≠ 0 ∧ Q (.int (i.fmod j)) H) := propext Iff.rfl
theorem e_div {i j Q} : wDiv (.int i) (.int j) H Q = ((j ≠ 0 ∧ j.natAbs < 1073741824) ∧ Q (.int (i.fdiv j)) H) := propext Iff.rfl
theorem e_addI {i j Q} : wAdd ns (.int i) (.int j) H Q = Q (.int (i + j)) H := propext Iff.rfl
theorem e_addS {i j Q} : wAdd ns (.str i) (.str j) H Q = (i.length + j.length ≤ 1000000 ∧ Q (.str (i ++ j)) H) := propext Iff.rfl
theorem e_addL {k j xs ys Q} (h1 : lstAt H k = some xs) (h2 : lstAt H j = some ys) : wAdd ns (.loc k) (.loc j) H Q = (xs.length + ys.length ≤ 1000000 ∧ Q (.loc H.length) (H ++ [.list (xs ++ ys)])) := by
  show wAddL ns (.loc k) (.loc j) H Q = _
  unfold wAddL
  rw [asL_loc, asL_loc, h1, h2]
theorem e_isN {f v Q} : wIsN f v .none H Q = Q (.bool (f (isN v))) H := propext Iff.rfl
theorem e_tv {w Q} : tv w sl H Q = w sl H (fun v H' => match v with | .bool b => Q b H' | _ => False) := propext Iff.rfl
theorem e_not {w Q} : tNot w sl H Q = w sl H (fun b H' => Q (!b) H') := propext Iff.rfl
theorem e_and {a b Q} : tAnd a b sl H Q = a sl H (fun t H' => if t then b sl H' Q else Q false H') := propext Iff.rfl
theorem e_or {a b Q} : tOr a b sl H Q = a sl H (fun t H' => if t then Q true H' else b sl H' Q) := propext Iff.rfl
theorem e_nil {Q} : wNil sl H Q = Q [] H := propext Iff.rfl
theorem e_cons {a b Q} : wCons a b sl H Q = a sl H (fun v H₁ => b sl H₁ fun vs H₂ => Q (v :: vs) H₂) := propext Iff.rfl
theorem e_list {a Q} : wList a sl H Q = a sl H (fun vs H₁ => vs.length ≤ 1000000 ∧ Q (.loc H₁.length) (H₁ ++ [.list vs])) := propext Iff.rfl
theorem e_tup {a Q} : wTup a sl H Q = a sl H (fun vs H₁ => vs.length ≤ 1000000 ∧ Q (.tup vs) H₁) := propext Iff.rfl
theorem e_call {W as Q} : wCall W as sl H Q = as sl H (fun vs H₁ => W vs H₁ Q) := propext Iff.rfl
theorem e_meth {k W a as Q} : wMeth c k W a as sl H Q = a sl H (fun v H₁ => clsV c H₁ v = some k ∧ as sl H₁ fun vs H₂ => W (v :: vs) H₂ Q) := propext Iff.rfl
theorem e_clsO {k fs} : clsV c H (.obj k fs) = some k := rfl
theorem e_neg {a Q} : wNeg a sl H Q = a sl H (fun v H' => match v with | .int i => Q (.int (-i)) H' | _ => False) := propext Iff.rfl
theorem e_idx {a b Q} : wIdx ns a b sl H Q = a sl H (fun v H₁ => b sl H₁ fun w H₂ => match asL ns H₂ v, w with
  | some xs, .int k => xs.length ≤ 1000000 ∧ (match getI xs k with | some u => Q u H₂ | none => False)
  | _, _ => False) := propext Iff.rfl
theorem e_onone {Q} : oNone sl H Q = Q none H := propext Iff.rfl
theorem e_osome {a Q} : oSome a sl H Q = a sl H (fun v H' => match v with | .int i => Q (some i) H' | _ => False) := propext Iff.rfl
theorem e_slice {a lo hi st Q} : wSlice ns a lo hi st sl H Q = a sl H (fun v H₁ => lo sl H₁ fun l H₂ => hi sl H₂ fun u H₃ => st sl H₃ fun k H₄ => match asL ns H₄ v with
  | some xs => (xs.length ≤ 1000000 ∧ k ≠ some 0) ∧ Q (.loc H₄.length) (H₄ ++ [.list (sliceV xs l u k)])
  | none => False) := propext Iff.rfl
theorem e_append {a b Q} : wAppend a b sl H Q = a sl H (fun v H₁ => match v with
  | .loc k => (lstAt H₁ k).isSome = true ∧ b sl H₁ fun w H₂ => (match lstAt H₂ k with | some xs => xs.length ≤ 1000000 ∧ Q .none (H₂.set k (.list (xs ++ [w]))) | none => False)
  | _ => False) := propext Iff.rfl
theorem e_pop {a Q} : wPop a sl H Q = a sl H (fun v H₁ => match v with
  | .loc k => (match lstAt H₁ k with | some xs => xs.length ≤ 1000000 ∧ (match xs.getLast? with | some u => Q u (H₁.set k (.list xs.dropLast)) | none => False) | none => False)
  | _ => False) := propext Iff.rfl
theorem e_len {k xs Q} (h : lstAt H k = some xs) : bLen ns [.loc k] H Q = (xs.length ≤ 1000000 ∧ Q (.int xs.length) H) := by
  show (match asL ns H (.loc k) with | some xs => xs.length ≤ 1000000 ∧ Q (.int xs.length) H | none => False) = _
  rw [asL_loc, h]
theorem e_min {a b Q} : bMin [.int a, .int b] H Q = Q (.int (if b < a then b else a)) H := propext Iff.rfl
theorem e_max {a b Q} : bMax [.int a, .int b] H Q = Q (.int (if b > a then b else a)) H := propext Iff.rfl
theorem e_cmpI {f : Bool → Bool} {k j : Nat} {is js : List Int} {Q} (h1 : lstAt H k = some (is.map V.int)) (h2 : lstAt H j = some (js.map V.int)) : wCmpI ns f (.loc k) (.loc j) H Q = Q (.bool (f (decide (is = js)))) H := by
  unfold wCmpI
  rw [asL_loc, asL_loc, h1, h2]
  simp only [Option.bind_some, intsV_map]
theorem e_for {it ta b Q} : wFor ns it ta b sl H Q = it sl H (fun k H₁ => wForGo ns k ta b k.items sl H₁ Q) := propext Iff.rfl
theorem e_iList {a Q} : iList ns a sl H Q = a sl H (fun v H' => match asL ns H' v with | some xs => Q (.list v xs) H' | none => False) := propext Iff.rfl
theorem e_iRange1 {a Q} : iRange1 a sl H Q = a sl H (fun v H' => match v with | .int n => (-1000000 < n ∧ n < 1000000) ∧ Q (.walk (rangeL 0 n 1)) H' | _ => False) := propext Iff.rfl
theorem e_for0 {k ta b Q} : wForGo ns k ta b [] sl H Q = Q .next sl H := propext Iff.rfl
theorem e_for1 {k ta b v r Q} : wForGo ns k ta b (v :: r) sl H Q = ta v sl H (fun sl₁ H₁ => b sl₁ H₁ fun F sl₂ H₂ => match F with | .next => k.inv ns H₂ ∧ wForGo ns k ta b r sl₂ H₂ Q | .ret u => Q (.ret u) sl₂ H₂) := propext Iff.rfl
end
end Mine

namespace Mine
section
variable {c : Cx} {d : Nat} {sc : Scope} {ρ : List Str}

/-! ### a list that nobody tracked is tracked from here on -/
mutual
theorem RepV.adopt {φ : Mp} {h D} (n : D ∉ φ.z) : ∀ {v x}, RepV c φ h v x → RepV c ⟨φ.l ++ [D], φ.z⟩ h v x
  | _, _, .none => .none
  | _, _, .bool => .bool
  | _, _, .int => .int
  | _, _, .str => .str
  | _, _, .loc e => .loc (by
      show (φ.l ++ [D])[_]? = _
      rw [List.getElem?_append_left (List.getElem?_eq_some_iff.mp e).1]; exact e)
  | _, _, .tup n1 z n0 e r => .tup (fun m => (List.mem_append.mp m).elim n1 fun q => n (by rw [← List.mem_singleton.mp q]; exact z)) z n0 e (RepVs.adopt n r)
  | _, _, .obj n1 z m1 y n0 e es e' r => .obj (fun m => (List.mem_append.mp m).elim n1 fun q => n (by rw [← List.mem_singleton.mp q]; exact z)) z (fun m => (List.mem_append.mp m).elim m1 fun q => n (by rw [← List.mem_singleton.mp q]; exact y)) y n0 e es e' (RepVs.adopt n r)
  | _, _, .glob e => .glob e
  | _, _, .script => .script
theorem RepVs.adopt {φ : Mp} {h D} (n : D ∉ φ.z) : ∀ {vs xs}, RepVs c φ h vs xs → RepVs c ⟨φ.l ++ [D], φ.z⟩ h vs xs
  | _, _, .nil => .nil
  | _, _, .cons r rs => .cons (RepV.adopt n r) (RepVs.adopt n rs)
end
theorem RepO.adopt {φ : Mp} {h D} (n : D ∉ φ.z) {lo o} (r : RepO c φ h lo o) : RepO c ⟨φ.l ++ [D], φ.z⟩ h lo o := by
  cases r with
  | list r => exact .list (r.adopt n)
  | dict d k r => exact .dict d k (r.adopt n)
  | inst r z m y e => exact .inst (fun i v e => by obtain ⟨x, h1, h2⟩ := r i v e; exact ⟨x, h1, h2.adopt n⟩) z (fun q => (List.mem_append.mp q).elim m fun q => n (by rw [← List.mem_singleton.mp q]; exact y)) y e
theorem Ok.adopt {φ H h D o lo} (ok : Ok c φ H h) (nl : D ∉ φ.l) (nz : D ∉ φ.z) (n0 : c.h₀.get? D = none) (e : h.get? D = some o) (r : RepO c φ h lo o) (hm : D ≠ sysModules) : Ok c ⟨φ.l ++ [D], φ.z⟩ (H ++ [lo]) h := by
  refine ⟨ok.base, fun b o e m => ?_, by simp [ok.len], ?_, fun i x lo' e1 e2 => ?_, fun b m q => ?_, ok.zl, ok.g0, fun b m => (List.mem_append.mp m).elim (ok.sm b) fun q => by rw [List.mem_singleton.mp q]; exact hm⟩
  · rcases List.mem_append.mp m with m | m
    · exact ok.off b o e m
    · rw [List.mem_singleton.mp m, n0] at e; cases e
  · refine List.nodup_append.mpr ⟨ok.nodup, by simp, fun x m y m' q => ?_⟩
    rw [List.mem_singleton.mp m'] at q
    exact nl (q ▸ m)
  · by_cases hi : i < φ.l.length
    · rw [List.getElem?_append_left hi] at e1
      rw [List.getElem?_append_left (by rw [← ok.len]; exact hi)] at e2
      obtain ⟨o', h1, h2⟩ := ok.objs i x lo' e1 e2
      exact ⟨o', h1, h2.adopt nz⟩
    · have hi' : φ.l.length ≤ i := Nat.not_lt.mp hi
      rw [List.getElem?_append_right hi'] at e1
      rw [List.getElem?_append_right (by rw [← ok.len]; exact hi'), ← ok.len] at e2
      cases q : i - φ.l.length with
      | zero =>
        rw [q] at e1 e2
        simp at e1 e2
        subst e1 e2
        exact ⟨o, e, r.adopt nz⟩
      | succ j => rw [q] at e1; simp at e1
  · rcases List.mem_append.mp q with q | q
    · exact ok.dj b m q
    · rw [List.mem_singleton.mp q] at m; exact nz m

/-! ### comprehensions -/
def relS (scope sc : Scope) : Scope :=
  { scope with names := scope.names.map fun (n, k) => if (k == .free && sc.kind == .function && sc.names.lookup n == some .cell) then (n, .cell) else (n, k) }
theorem relabel_eq {scope : Scope} {env : Env} (e : EnvOK sc env) : relabel scope env = relS scope sc := by
  obtain ⟨rfl, _, _⟩ := e
  rfl
/-- where the free names of the comprehension stand in the frame -/
def Frs (sc : Scope) (ρ : List Str) : List (Str × NameKind) → List Nat → List Str → Prop
  | [], is, xs => is = [] ∧ xs = []
  | (n, k) :: r, is, xs => if k = .free then ∃ i is' xs', is = i :: is' ∧ xs = n :: xs' ∧ ρ[i]? = some n ∧ sc.names.lookup n = some .cell ∧ Frs sc ρ r is' xs' else Frs sc ρ r is xs
theorem frs_nil : Frs sc ρ [] [] [] := ⟨rfl, rfl⟩
theorem frs_free {n r i is xs} (h : ρ[i]? = some n) (hs : Frs sc ρ r is xs) (hc : sc.names.lookup n = some .cell) : Frs sc ρ ((n, .free) :: r) (i :: is) (n :: xs) := by
  unfold Frs; rw [if_pos rfl]; exact ⟨i, is, xs, rfl, rfl, h, hc, hs⟩
theorem frs_local {n r is xs} (hs : Frs sc ρ r is xs) : Frs sc ρ ((n, .local) :: r) is xs := by
  unfold Frs; rw [if_neg (by decide)]; exact hs
theorem frs_cell {n r is xs} (hs : Frs sc ρ r is xs) : Frs sc ρ ((n, .cell) :: r) is xs := by
  unfold Frs; rw [if_neg (by decide)]; exact hs
theorem frs_glob {n r is xs} (hs : Frs sc ρ r is xs) : Frs sc ρ ((n, .globalImplicit) :: r) is xs := by
  unfold Frs; rw [if_neg (by decide)]; exact hs
def clOf (env : Env) : List (Str × NameKind) → List (Str × Addr) → List (Str × Addr)
  | [], cs => cs
  | (n, k) :: r, cs => clOf env r (if k = .free then (match env.cells.lookup n with | some a => (n, a) :: cs | none => cs) else cs)
theorem closureFor_eq {scope : Scope} {env : Env} (h : ∀ x ∈ scope.names, x.2 = .free → (env.cells.lookup x.1).isSome = true) : closureFor scope env = pure (clOf env scope.names []) := by
  have go : ∀ (l : List (Str × NameKind)) (cs : List (Str × Addr)), (∀ x ∈ l, x.2 = .free → (env.cells.lookup x.1).isSome = true) →
      (forIn l cs fun x r => (match x with | (name, kind) => if (kind == NameKind.free) = true then do let a ← cellOf env name; pure (ForInStep.yield ((name, a) :: r)) else pure (ForInStep.yield r) : Sem (ForInStep (List (Str × Addr))))) = pure (clOf env l cs) := by
    intro l
    induction l with
    | nil => intro cs _; rfl
    | cons x r ih =>
      intro cs hl
      obtain ⟨n, k⟩ := x
      rw [List.forIn_cons]
      by_cases hk : k = .free
      · subst hk
        obtain ⟨a, ea⟩ := Option.isSome_iff_exists.mp (hl (n, .free) List.mem_cons_self rfl)
        have : cellOf env n = pure a := by unfold cellOf; rw [show env.cells.lookup n = some a from ea]
        simp only [beq_self_eq_true, if_true, this, clOf, show env.cells.lookup n = some a from ea]
        exact ih _ fun y hy => hl y (List.mem_cons_of_mem _ hy)
      · have hb : (k == NameKind.free) = false := by simpa using hk
        simp only [hb, Bool.false_eq_true, if_false, clOf, hk]
        exact ih _ fun y hy => hl y (List.mem_cons_of_mem _ hy)
  have e : closureFor scope env = (forIn scope.names ([] : List (Str × Addr)) fun x r => (match x with | (name, kind) => if (kind == NameKind.free) = true then do let a ← cellOf env name; pure (ForInStep.yield ((name, a) :: r)) else pure (ForInStep.yield r) : Sem (ForInStep (List (Str × Addr))))) >>= fun r => pure r := rfl
  rw [e, go _ _ h]
  rfl
theorem clOf_sub {env : Env} : ∀ (l : List (Str × NameKind)) (cs : List (Str × Addr)), (∀ x a, cs.lookup x = some a → env.cells.lookup x = some a) → ∀ x a, (clOf env l cs).lookup x = some a → env.cells.lookup x = some a
  | [], cs, h => h
  | (n, k) :: r, cs, h => by
    refine clOf_sub r _ fun x a e => ?_
    split at e
    · split at e
      · rename_i b eb
        rw [List.lookup_cons] at e
        split at e
        · rename_i q
          cases e
          rw [eq_of_beq q]; exact eb
        · exact h x a e
      · exact h x a e
    · exact h x a e
theorem clOf_has {env : Env} : ∀ (l : List (Str × NameKind)) (cs : List (Str × Addr)) (x : Str) (a : Addr), (env.cells.lookup x = some a) → (cs.lookup x = some a ∨ (x, NameKind.free) ∈ l) → (∀ y b, cs.lookup y = some b → env.cells.lookup y = some b) → (clOf env l cs).lookup x = some a
  | [], cs, x, a, e, h, hs => by
    rcases h with h | h
    · exact h
    · cases h
  | (n, k) :: r, cs, x, a, e, h, hs => by
    have hs' : ∀ y b, (if k = .free then (match env.cells.lookup n with | some a => (n, a) :: cs | none => cs) else cs).lookup y = some b → env.cells.lookup y = some b := by
      intro y b eb
      split at eb
      · split at eb
        · rename_i b' eb'
          rw [List.lookup_cons] at eb
          split at eb
          · rename_i q
            cases eb
            rw [eq_of_beq q]; exact eb'
          · exact hs y b eb
        · exact hs y b eb
      · exact hs y b eb
    refine clOf_has r _ x a e ?_ hs'
    by_cases q : x = n ∧ k = .free
    · obtain ⟨rfl, rfl⟩ := q
      left
      rw [if_pos rfl, e]
      simp
    · rcases h with h | h
      · left
        split
        · rename_i hk
          split
          · rename_i b' eb'
            rw [List.lookup_cons]
            have : (x == n) = false := by
              cases z : x == n with
              | false => rfl
              | true => exact absurd ⟨eq_of_beq z, hk⟩ q
            rw [this]; exact h
          · exact h
        · exact h
      · right
        rcases List.mem_cons.mp h with h | h
        · cases h; exact absurd ⟨rfl, rfl⟩ q
        · exact h
end
end Mine

namespace Mine
section
variable {c : Cx} {d : Nat} {sc : Scope} {ρ : List Str}
theorem lookup_relS_free {n : Str} (hs : sc.kind = .function) (hc : sc.names.lookup n = some .cell) : ∀ {names : List (Str × NameKind)}, names.lookup n = some .free →
    (names.map fun (n, k) => if (k == NameKind.free && sc.kind == .function && sc.names.lookup n == some .cell) then (n, NameKind.cell) else (n, k)).lookup n = some .cell
  | [], h => by simp at h
  | (m, k) :: r, h => by
    have ih := @lookup_relS_free n hs hc r
    rw [List.map_cons]
    cases hx : n == m with
    | true =>
      have := eq_of_beq hx
      subst this
      simp only [List.lookup_cons, hx] at h
      cases h
      simp [List.lookup_cons, hs, hc]
    | false =>
      simp only [List.lookup_cons, hx] at h
      have := ih h
      by_cases hc' : (k == NameKind.free && sc.kind == .function && sc.names.lookup m == some .cell) = true
      · show List.lookup n ((if (k == NameKind.free && sc.kind == .function && sc.names.lookup m == some .cell) = true then (m, NameKind.cell) else (m, k)) :: _) = _
        rw [if_pos hc', List.lookup_cons, hx]; exact this
      · show List.lookup n ((if (k == NameKind.free && sc.kind == .function && sc.names.lookup m == some .cell) = true then (m, NameKind.cell) else (m, k)) :: _) = _
        rw [if_neg hc', List.lookup_cons, hx]; exact this
theorem Frs.get {sc ρ} : ∀ {l : List (Str × NameKind)} {is : List Nat} {xs : List Str}, Frs sc ρ l is xs → is.length = xs.length ∧ ∀ (j : Nat) y, xs[j]? = some y → ∃ i, is[j]? = some i ∧ ρ[i]? = some y ∧ sc.names.lookup y = some .cell ∧ (y, NameKind.free) ∈ l
  | [], _, _, h => by obtain ⟨rfl, rfl⟩ := h; simp
  | (n, k) :: r, is, xs, h => by
    unfold Frs at h
    split at h
    · rename_i hk
      obtain ⟨i, is', xs', rfl, rfl, h1, h2, h3⟩ := h
      have ih := Frs.get h3
      refine ⟨by simp [ih.1], fun j y e => ?_⟩
      cases j with
      | zero => simp at e; subst e; exact ⟨i, rfl, h1, h2, by rw [← hk]; exact List.mem_cons_self⟩
      | succ j =>
        simp at e
        obtain ⟨i', a1, a2, a3, a4⟩ := ih.2 j y e
        exact ⟨i', by simpa using a1, a2, a3, List.mem_cons_of_mem _ a4⟩
    · have ih := Frs.get h
      exact ⟨ih.1, fun j y e => by obtain ⟨i', a1, a2, a3, a4⟩ := ih.2 j y e; exact ⟨i', a1, a2, a3, List.mem_cons_of_mem _ a4⟩⟩
/-- what a comprehension's own scope must be like -/
structure CSc (sc scope : Scope) (x : Str) (is : List Nat) (xs : List Str) (ρ : List Str) : Prop where
  kind : scope.kind = .function
  skind : sc.kind = .function
  nocell : ∀ y ∈ scope.names, y.2 ≠ .cell
  loc : scope.names.lookup x = some .local
  names : ∀ y ∈ scope.names, y.2 = .local → scope.names.lookup y.1 = some .local
  free : ∀ y ∈ scope.names, y.2 = .free → scope.names.lookup y.1 = some .free
  nd : (x :: xs).Nodup
  fr : Frs sc ρ scope.names is xs
def fvOf (sl : Sl) (is : List Nat) : Sl := is.map fun i => (sl[i]?).join
theorem CSc.closed {scope x is xs} (S : CSc sc scope x is xs ρ) {env φ h sl} (eo : EnvOK sc env) (vs : Vars c ρ φ h env sl) : ∀ y ∈ scope.names, y.2 = .free → (env.cells.lookup y.1).isSome = true := by
  have go : ∀ (l : List (Str × NameKind)) is xs, Frs sc ρ l is xs → ∀ y ∈ l, y.2 = .free → (env.cells.lookup y.1).isSome = true := by
    intro l
    induction l with
    | nil => intro _ _ _ y hy; cases hy
    | cons z r ih =>
      intro is xs h y hy hf
      obtain ⟨n, k⟩ := z
      unfold Frs at h
      split at h
      · obtain ⟨i, is', xs', rfl, rfl, h1, h2, h3⟩ := h
        rcases List.mem_cons.mp hy with e | e
        · subst e
          obtain ⟨a, ea⟩ := vs.has i n h1 ((eo.kind n).trans h2)
          rw [ea]; rfl
        · exact ih _ _ h3 y e hf
      · rename_i nk
        rcases List.mem_cons.mp hy with e | e
        · subst e; exact absurd hf nk
        · exact ih _ _ h y e hf
  exact go _ _ _ S.fr
theorem comp_env {scope : Scope} {env : Env} {A : Around} {E : Value → Shared → Prop} {s : Shared} {φ : Mp} {sl : Sl} {H : HW} {is xs x} {R : Env → Shared → Prop} (S : CSc sc scope x is xs ρ)
    (eo : EnvOK sc env) (ok : Ok c φ H s.heap) (vs : Vars c ρ φ s.heap env sl)
    (k : ∀ cenv s', cenv.locals = s.heap.objs.size → EnvOK (relS scope sc) cenv → (∀ b, cenv.cells.lookup x = some b → s.heap.get? b = none) → (∀ y b, cenv.cells.lookup y = some b → env.cells.lookup y = some b ∨ s.heap.get? b = none) → Vars c (x :: xs) φ s'.heap cenv (none :: fvOf sl is) →
      (∀ b o, s.heap.get? b = some o → s'.heap.get? b = some o) → Rest s s' → R cenv s') :
    wpAny (model c.prog c.w) A (newFunctionEnv scope env.globals (clOf env scope.names []) [] env.qual none .none (some env)) (fun cenv s' => R { cenv with scope := relabel scope env } s') E s := by
  refine wpAny_newFunctionEnv S.nocell (by intro y hy; simp at hy) (fun h₁ hns₁ hsb₁ => ?_) S.kind
  have kp : ∀ b o, s.heap.get? b = some o → h₁.get? b = some o := fun b o e => hsb₁.extBut b o (Nat.ne_of_lt (Heap.lt_size e)) (Heap.get?_push_of_some _ e)
  have sub := clOf_sub (env := env) scope.names [] (by intro x a e; simp at e)
  have hC : c.h₀.get? s.heap.objs.size = none := by
    cases e : c.h₀.get? s.heap.objs.size with
    | none => rfl
    | some o => have := ok.base _ _ e; rw [new_none] at this; cases this
  have kindC : ∀ y, y ∈ xs → (relS scope sc).names.lookup y = some .cell := fun y hy => by
    obtain ⟨j, hj, ej⟩ := List.getElem_of_mem hy
    obtain ⟨i, a1, a2, a3, a4⟩ := (S.fr.get).2 j y (by rw [List.getElem?_eq_getElem hj, ej])
    exact lookup_relS_free S.skind a3 (S.free _ a4 rfl)
  have kindX : (relS scope sc).names.lookup x = some .local := by
    have := lookup_relabel_local (env := env) S.loc
    rw [show (relS scope sc) = relabel scope env from (relabel_eq eo).symm]
    exact this
  have eoC : EnvOK (relS scope sc) { (newEnv scope s.heap.objs.size env.globals (clOf env scope.names []) env.qual none .none (some env) builtinsNs) with scope := relabel scope env } :=
    ⟨relabel_eq eo, eo.glob, eo.bi⟩
  refine k _ { s with heap := h₁, toks := s.toks + ([] : List (Str × Value)).length } rfl eoC ?_ (fun y b e => .inl (sub y b e)) ⟨S.nd, ?_, (new_unz ok).1, (new_unz ok).2, hC, ⟨_, hns₁, ?_⟩, ?_, ?_, ?_, ?_⟩ kp (Rest.mk s _ _)
  · intro b e
    have e' : (clOf env scope.names []).lookup x = some b := e
    have : ∀ (l : List (Str × NameKind)) (cs : List (Str × Addr)) (y : Str) b, (clOf env l cs).lookup y = some b → cs.lookup y = some b ∨ (y, NameKind.free) ∈ l := by
      intro l
      induction l with
      | nil => intro cs y b e; exact .inl e
      | cons z r ih =>
        intro cs y b e
        obtain ⟨n, kk⟩ := z
        rcases ih _ y b e with h | h
        · split at h
          · rename_i hk
            split at h
            · rw [List.lookup_cons] at h
              split at h
              · rename_i q; right; rw [eq_of_beq q, hk]; exact List.mem_cons_self
              · exact .inl h
            · exact .inl h
          · exact .inl h
        · exact .inr (List.mem_cons_of_mem _ h)
    rcases this _ _ _ _ e' with h | h
    · simp at h
    · have := S.free _ h rfl
      rw [S.loc] at this; cases this
  · simp [fvOf, S.fr.get.1]
  · intro i y v h1 h2 h3
    cases i with
    | zero => simp at h3
    | succ i =>
      simp at h1
      have := (eoC.kind y).symm.trans h2
      rw [kindC y (List.mem_of_getElem? h1)] at this; cases this
  · intro y a e
    obtain ⟨n, z, n0, u, o', ho', hd⟩ := vs.offC y a (sub y a e)
    exact ⟨n, z, n0, u, o', kp _ _ ho', hd⟩
  · intro y z a e1 e2
    exact vs.inj y z a (sub y a e1) (sub z a e2)
  · intro i y v h1 h2 h3
    cases i with
    | zero => simp at h3
    | succ i =>
      simp at h1 h3
      obtain ⟨j, a1, a2, a3, a4⟩ := S.fr.get.2 i y h1
      simp only [fvOf, List.getElem?_map, a1, Option.map_some] at h3
      have h4 : sl[j]? = some (some v) := by
        cases q : sl[j]? with
        | none => rw [q] at h3; simp at h3
        | some u => rw [q] at h3; simp at h3; rw [h3]
      obtain ⟨a, u, e1, ⟨o', ho', hd⟩, e3⟩ := vs.cel j y v a2 (.inl ((eo.kind y).trans a3)) h4
      exact ⟨a, u, clOf_has _ _ _ _ e1 (.inr a4) (by intro x a e; simp at e), ⟨o', kp _ _ ho', hd⟩, e3.grow (.of_keep kp)⟩
  · intro i y h1 h2
    cases i with
    | zero =>
      simp at h1
      subst h1
      have := (eoC.kind x).symm.trans h2
      rw [kindX] at this; cases this
    | succ i =>
      simp at h1
      obtain ⟨j, a1, a2, a3, a4⟩ := S.fr.get.2 i y h1
      obtain ⟨a, ea⟩ := vs.has j y a2 ((eo.kind y).trans a3)
      exact ⟨a, clOf_has _ _ _ _ ea (.inr a4) (by intro x a e; simp at e)⟩
end
end Mine

namespace Mine
section
variable {c : Cx} {d : Nat} {sc : Scope} {ρ : List Str}
/-- the tests of a comprehension -/
def Ets (c : Cx) (d : Nat) (sc : Scope) (ρ : List Str) (ifs : List Expr) (W : WT) : Prop :=
  ∀ env A E s φ sl H Q, EnvOK sc env → AOK d A → Ok c φ H s.heap → Vars c ρ φ s.heap env sl → W sl H Q →
    wpAny (model c.prog c.w) A (forIn ifs true fun c r => if r = true then do let ok ← isTrue c env (eval c env); pure (ForInStep.yield ok) else pure (ForInStep.yield r)) (PostT c φ s Q) E s
def tTrue : WT := fun _ H Q => Q true H
theorem ets_nil : Ets c d sc ρ [] tTrue := fun env A E s φ sl H Q eo ao ok vs w => wpAny_tests_nil ⟨H, φ, w, ok, .refl _ _, Rest.refl s⟩
theorem ets_one {t w} (h : Et c d sc ρ t w) : Ets c d sc ρ [t] w := fun env A E s φ sl H Q eo ao ok vs q => wpAny_tests_one (h env A E s φ sl H Q eo ao ok vs q)

def wCompGo (ns : List Int) (k : ItK) (t : WT) (e : WE) (fv : Sl) : List V → List V → HW → (List V → HW → Prop) → Prop
  | [], ys => fun H Q => Q ys H
  | v :: r, ys => fun H Q => t (some v :: fv) H fun b H₁ => if b then e (some v :: fv) H₁ fun y H₂ => k.inv ns H₂ ∧ wCompGo ns k t e fv r (ys ++ [y]) H₂ Q else k.inv ns H₁ ∧ wCompGo ns k t e fv r ys H₁ Q
def wComp (ns : List Int) (it : WI) (is : List Nat) (t : WT) (e : WE) : WE := fun sl H Q => it sl H fun k H₁ => k.items.length ≤ 100000 ∧ wCompGo ns k t e (fvOf sl is) k.items [] H₁ fun ys H₂ => Q (.loc H₂.length) (H₂ ++ [.list ys])

structure CompEnd (c : Cx) (φ : Mp) (s : Shared) (Q : List V → HW → Prop) (D C : Addr) (s' : Shared) (ys : List V) (H' : HW) (φ' : Mp) (xs : List Value) : Prop where
  q : Q ys H'
  ok : Ok c φ' H' s'.heap
  rep : RepVs c φ' s'.heap ys xs
  lst : s'.heap.PlainList D xs.toArray
  g : Grow φ s.heap φ' s'.heap
  r : Rest s s'
  dl : D ∉ φ'.l
  dz : D ∉ φ'.z
  cl : C ∉ φ'.l
  cz : C ∉ φ'.z
  dc : D ≠ C
  fd : s.heap.get? D = none
  dm : D ≠ sysModules
  fc : s.heap.get? C = none
  ns : ∃ m, s'.heap.Ns C m
theorem fresh0 {φ H} {h : Heap} (ok : Ok c φ H h) {a} (e : h.get? a = none) : c.h₀.get? a = none := by
  cases q : c.h₀.get? a with
  | none => rfl
  | some o => have := ok.base _ _ q; rw [e] at this; cases this
/-- the names are let go -/
theorem CompEnd.post {φ H s Q D C s' ys H' φ' xs} (x : CompEnd c φ s Q D C s' ys H' φ' xs) (ok0 : Ok c φ H s.heap) {h'} (sb : Heap.SameBut C s'.heap h') {Q' : V → HW → Prop} (hq : ∀ ys H', Q ys H' → Q' (.loc H'.length) (H' ++ [.list ys])) :
    PostE c φ s Q' (.ref D) { s' with heap := h' } := by
  obtain ⟨n, hD⟩ := x.lst
  have kp : ∀ b o, b ≠ C → s'.heap.get? b = some o → h'.get? b = some o := fun b o n e => (sb.2 b n).trans e
  have ok₁ : Ok c φ' H' h' := x.ok.same x.cl x.cz (fresh0 ok0 x.fc) kp
  have rp : RepVs c φ' h' ys xs := x.rep.keep fun b o z e => kp b o (fun q => x.cz (q ▸ z)) e
  have hD' := kp D _ x.dc hD
  refine ⟨_, _, ⟨φ'.l ++ [D], φ'.z⟩, hq _ _ x.q, ok₁.adopt x.dl x.dz (fresh0 ok0 x.fd) hD' (.list rp) x.dm, .loc ?_, ?_, x.r.trans ⟨h', s'.toks, rfl⟩⟩
  · show (φ'.l ++ [D])[H'.length]? = some D
    rw [← x.ok.len]; simp
  · obtain ⟨δ, ζ, e1, e2, hd, hz⟩ := x.g.ext
    refine ⟨⟨δ ++ [D], ζ, by simp [e1], e2, fun a m => ?_, hz⟩, fun b o e n => kp b o (fun q => ?_) (x.g.keep b o e n), fun b o e => ?_⟩
    · rcases List.mem_append.mp m with m | m
      · exact hd a m
      · rw [List.mem_singleton.mp m]; exact x.fd
    · rw [q, x.fc] at e; cases e
    · obtain ⟨o', e'⟩ := x.g.live b o e
      exact ⟨o', kp b o' (fun q => by rw [q, x.fc] at e; cases e) e'⟩

theorem comp_loop {elt iter : Expr} {x : Str} {xp : Pos} {ifs : List Expr} {scope sc' : Scope} {pos : Pos} {I D : Addr} {cenv : Env} {A : Around} {R : Result → Shared → Prop} {xs : List Str} {t : WT} {e : WE} {fv : Sl} {k : ItK} {φ : Mp} {s s₁ : Shared} {φ₁ : Mp} {H₁ : HW} {Q : List V → HW → Prop}
    (G : Good c) (ht : Ets c d sc' (x :: xs) ifs t) (he : Ev c d sc' (x :: xs) elt e) (eo : EnvOK sc' cenv) (ao : AOK d A) (hk : sc'.kind = .function) (hx : sc'.names.lookup x = some .local ∨ sc'.names.lookup x = some .cell)
    (fI : s.heap.get? I = none) (fD : s.heap.get? D = none) (fC : s.heap.get? cenv.locals = none) (fX : ∀ b, cenv.cells.lookup x = some b → s.heap.get? b = none) (ok0 : ∃ H, Ok c φ H s.heap)
    (dm : D ≠ sysModules) (nID : I ≠ D) (nIC : I ≠ cenv.locals) (nDC : D ≠ cenv.locals) (nIx : ∀ y, cenv.cells.lookup y ≠ some I) (nDx : ∀ y, cenv.cells.lookup y ≠ some D)
    (q : wCompGo c.ns k t e fv k.items [] H₁ Q) (hlen : k.items.length ≤ 100000) (iv : k.inv c.ns H₁) (ia : ItAt c A φ₁ s₁.heap I 0 k) (Il : I ∉ φ₁.l) (Iz : I ∉ φ₁.z) (Dl : D ∉ φ₁.l) (Dz : D ∉ φ₁.z)
    (ok₁ : Ok c φ₁ H₁ s₁.heap) (vs₁ : Vars c (x :: xs) φ₁ s₁.heap cenv (none :: fv)) (lst : s₁.heap.PlainList D #[]) (g₁ : Grow φ s.heap φ₁ s₁.heap) (r₁ : Rest s s₁)
    (hR : ∀ s' ys H' φ' xs', CompEnd c φ s Q D cenv.locals s' ys H' φ' xs' → R (.ok .next) s') :
    codeAny (model c.prog c.w) A (.compLoop (.ListComp elt [⟨.Name x xp, iter, ifs, 0⟩] scope pos) 0 (.ref I) (.ref D) cenv) R s₁ := by
  obtain ⟨H0, ok0⟩ := ok0
  refine codeAny_compLoop_tests (fun n s' => ∃ (i : Nat) (φ' : Mp) (H' : HW) (ys : List V) (xs' : List Value) (u : Option V), i + n = k.items.length ∧ wCompGo c.ns k t e fv (k.items.drop i) ys H' Q ∧ k.inv c.ns H' ∧ ItAt c A φ' s'.heap I i k ∧ I ∉ φ'.l ∧ I ∉ φ'.z ∧ D ∉ φ'.l ∧ D ∉ φ'.z ∧
      Ok c φ' H' s'.heap ∧ Vars c (x :: xs) φ' s'.heap cenv (u :: fv) ∧ s'.heap.PlainList D xs'.toArray ∧ RepVs c φ' s'.heap ys xs' ∧ ys.length ≤ i ∧ Grow φ s.heap φ' s'.heap ∧ Rest s s')
    ?_ k.items.length ⟨0, φ₁, H₁, [], [], none, by simp, q, iv, ia, Il, Iz, Dl, Dz, ok₁, vs₁, lst, .nil, Nat.le_refl _, g₁, r₁⟩
  rintro n s' ⟨i, φ', H', ys, xs', u, hn, q, iv, ia, Il, Iz, Dl, Dz, ok', vs', lst', rep', hys, g', r'⟩
  cases n with
  | zero =>
    have hi : i = k.items.length := by omega
    refine ItAt.done G ao.handled ok' iv ia hi fun h' tk kp => ?_
    rw [List.drop_eq_nil_of_le (by omega)] at q
    obtain ⟨m, hn, _⟩ := vs'.loc
    refine hR _ ys H' φ' xs' ⟨q, ok'.same Il Iz (fresh0 ok0 fI) kp, rep'.keep fun b o z e => kp b o (fun w => Iz (w ▸ z)) e, lst'.at fun o e => kp D o (Ne.symm nID) e, ?_, r'.trans (Rest.mk s' _ _), Dl, Dz, vs'.offL, vs'.offZ, nDC, fD, dm, fC, ⟨m, hn.at' fun o e => kp _ o (Ne.symm nIC) e⟩⟩
    exact ⟨g'.ext, fun b o e n => kp b o (fun q => by rw [q, fI] at e; cases e) (g'.keep b o e n), fun b o e => by
      obtain ⟨o', e'⟩ := g'.live b o e
      exact ⟨o', kp b o' (fun q => by rw [q, fI] at e; cases e) e'⟩⟩
  | succ n =>
    have hlt : i < k.items.length := by omega
    obtain ⟨v, ev⟩ : ∃ v, k.items[i]? = some v := ⟨_, List.getElem?_eq_getElem hlt⟩
    rw [List.drop_eq_getElem_cons hlt] at q
    have ev' : k.items[i] = v := by rw [List.getElem?_eq_getElem hlt] at ev; cases ev; rfl
    rw [ev'] at q
    refine ItAt.item G ok' iv ia ev fun y h₂ tk ry ia₂ kp₂ lv lt => ?_
    have ok₂ := ok'.same Il Iz (fresh0 ok0 fI) kp₂
    have vs₂ := vs'.same nIC nIx Iz kp₂
    have ry₂ : RepV c φ' h₂ v y := ry.keep fun b o z e => kp₂ b o (fun w => Iz (w ▸ z)) e
    refine wpAny_assign_Name (store_okK (s := { s' with heap := h₂, toks := tk }) (i := 0) rfl hx hk eo ok₂ vs₂ ry₂ fun s₃ ok₃ vs₃ gs₃ r₃ kp₃ => ?_)
    have kp3 : ∀ b o, b ≠ I → b ≠ cenv.locals → cenv.cells.lookup x ≠ some b → s'.heap.get? b = some o → s₃.heap.get? b = some o := fun b o n1 n2 n3 e => kp₃ b o n2 n3 (kp₂ b o n1 e)
    obtain ⟨oI, lo⟩ := lv
    have lI : s₃.heap.get? I = some oI := kp₃ I oI nIC (nIx x) lo
    have ia₃ : ItAt c A φ' s₃.heap I (i + 1) k := ia₂.keep (fun o e => kp₃ I o nIC (nIx x) e) fun _ _ e => e
    have lst₃ : s₃.heap.PlainList D xs'.toArray := lst'.at fun o e => kp3 D o (Ne.symm nID) nDC (nDx x) e
    have rep₃ : RepVs c φ' s₃.heap ys xs' := rep'.keep fun b o z e => kp3 b o (fun w => Iz (w ▸ z)) (fun w => vs'.offZ (w ▸ z)) (fun w => (vs'.offC x b w).2.1 z) e
    have g₃ : Grow φ s.heap φ' s₃.heap := by
      have nn : ∀ b o, s.heap.get? b = some o → b ≠ I ∧ b ≠ cenv.locals ∧ cenv.cells.lookup x ≠ some b := fun b o e => ⟨fun q => by (rw [q, fI] at e; cases e), fun q => by (rw [q, fC] at e; cases e), fun q => by (rw [fX b q] at e; cases e)⟩
      refine ⟨g'.ext, fun b o e n => kp3 b o (nn b o e).1 (nn b o e).2.1 (nn b o e).2.2 (g'.keep b o e n), fun b o e => ?_⟩
      obtain ⟨o', e'⟩ := g'.live b o e
      exact ⟨o', kp3 b o' (nn b o e).1 (nn b o e).2.1 (nn b o e).2.2 e'⟩
    have rr₃ : Rest s s₃ := (r'.trans (Rest.mk s' h₂ tk)).trans r₃
    have vs₃' : Vars c (x :: xs) φ' s₃.heap cenv (some v :: fv) := vs₃
    refine wpAny_mono (ht cenv A _ s₃ φ' (some v :: fv) H' _ eo ao ok₃ vs₃' q) (fun b s₄ p₄ => ?_) fun _ _ e => e
    obtain ⟨H₄, φ₄, q₄, ok₄, g₄, r₄⟩ := p₄
    have lI₄ := g₄.keep I oI lI Il
    have Il₄ := g₄.nin Il lI
    have Iz₄ := g₄.ninz Iz lI
    obtain ⟨nD, lD⟩ := id lst₃
    have Dl₄ := g₄.nin Dl lD
    have Dz₄ := g₄.ninz Dz lD
    have lst₄ : s₄.heap.PlainList D xs'.toArray := ⟨nD, g₄.keep _ _ lD Dl⟩
    have vs₄ := vs₃'.grow g₄
    have ia₄ : ItAt c A φ₄ s₄.heap I (i + 1) k := ia₃.keep (fun o e => g₄.keep I o e Il) fun _ _ e => g₄.at e
    cases b with
    | false =>
      simp only [Bool.false_eq_true, if_false] at q₄ ⊢
      exact ⟨n, Nat.lt_succ_self n, i + 1, φ₄, H₄, ys, xs', some v, by omega, q₄.2, q₄.1, ia₄, Il₄, Iz₄, Dl₄, Dz₄, ok₄, vs₄, lst₄, rep₃.grow g₄, by omega, g₃.trans g₄, rr₃.trans r₄⟩
    | true =>
      simp only [if_true] at q₄ ⊢
      refine wpAny_mono (he cenv A _ s₄ φ₄ (some v :: fv) H₄ _ eo ao ok₄ vs₄ q₄) (fun z s₅ p₅ => ?_) fun _ _ e => e
      obtain ⟨y', H₅, φ₅, q₅, ok₅, ry₅, g₅, r₅⟩ := p₅
      have lI₅ := g₅.keep I oI lI₄ Il₄
      have Il₅ := g₅.nin Il₄ lI₄
      have Iz₅ := g₅.ninz Iz₄ lI₄
      obtain ⟨nD₄, lD₄⟩ := id lst₄
      have Dl₅ := g₅.nin Dl₄ lD₄
      have Dz₅ := g₅.ninz Dz₄ lD₄
      have lst₅ : s₅.heap.PlainList D xs'.toArray := ⟨nD₄, g₅.keep _ _ lD₄ Dl₄⟩
      have vs₅ := vs₄.grow g₅
      have ia₅ : ItAt c A φ₅ s₅.heap I (i + 1) k := ia₄.keep (fun o e => g₅.keep I o e Il₄) fun _ _ e => g₅.at e
      have rep₅ : RepVs c φ₅ s₅.heap (ys ++ [y']) (xs' ++ [z]) := ((rep₃.grow g₄).grow g₅).append (.cons ry₅ .nil)
      refine wpAny_list_append_plain lst₅ (fun h₆ l₆ sb => ?_) (by rw [List.size_toArray, ← rep'.length, sizeLine_eq]; omega)
      have kp : ∀ b o, b ≠ D → s₅.heap.get? b = some o → h₆.get? b = some o := fun b o n e => (sb.2 b n).trans e
      refine ⟨n, Nat.lt_succ_self n, i + 1, φ₅, H₅, ys ++ [y'], xs' ++ [z], some v, by omega, q₅.2, q₅.1, ia₅.keep (fun o e => kp I o nID e) fun _ _ e => e, Il₅, Iz₅, Dl₅, Dz₅,
        ok₅.same Dl₅ Dz₅ (fresh0 ok0 fD) kp, vs₅.same nDC nDx Dz₅ kp, by simpa using l₆, rep₅.keep fun b o z e => kp b o (fun w => Dz₅ (w ▸ z)) e, by simp; omega, ?_, ((rr₃.trans r₄).trans r₅).trans ⟨h₆, s₅.toks, rfl⟩⟩
      have g₅' := (g₃.trans g₄).trans g₅
      exact ⟨g₅'.ext, fun b o e n => kp b o (fun q => by rw [q, fD] at e; cases e) (g₅'.keep b o e n), fun b o e => by
        obtain ⟨o', e'⟩ := g₅'.live b o e
        exact ⟨o', kp b o' (fun q => by rw [q, fD] at e; cases e) e'⟩⟩
end
end Mine

namespace Mine
section
variable {c : Cx} {d : Nat} {sc : Scope} {ρ : List Str}
theorem ItAt.self {A E φ I i k} {s : Shared} {R : Value → Shared → Prop} (x : ItAt c A φ s.heap I i k) (h : R (.ref I) s) : wpAny (model c.prog c.w) A (pyIter (.ref I)) R E s := by
  cases k with
  | list kv xs => obtain ⟨a, r, it⟩ := x; exact wpAny_pyIter_listiter it h
  | walk xs => obtain ⟨P, St, W, hp, hl, st⟩ := x; exact W.self _ _ _ _ st h
theorem comp_block {elt iter : Expr} {x : Str} {xp : Pos} {ifs : List Expr} {scope : Scope} {pos : Pos} {env : Env} {A : Around} {E : Value → Shared → Prop} {s : Shared} {φ : Mp} {sl : Sl} {H : HW} {is xs} {wi : WI} {t : WT} {e : WE} {RR : Value → Addr → Result → Shared → Prop} {Q : List V → HW → Prop}
    (G : Good c) (S : CSc sc scope x is xs ρ) (hi : Ei c d sc ρ iter wi) (ht : Ets c d (relS scope sc) (x :: xs) ifs t) (he : Ev c d (relS scope sc) (x :: xs) elt e)
    (eo : EnvOK sc env) (ao : AOK d A) (ok : Ok c φ H s.heap) (vs : Vars c ρ φ s.heap env sl)
    (w : wi sl H fun k H₁ => k.items.length ≤ 100000 ∧ wCompGo c.ns k t e (fvOf sl is) k.items [] H₁ Q)
    (hRR : ∀ D C s' ys H' φ' xs', CompEnd c φ s Q D C s' ys H' φ' xs' → RR (.ref D) C (.ok .next) s') :
    wpAny (model c.prog c.w) A (eval iter env) (fun xv s₁ => wpAny (model c.prog c.w) A (pyIter xv) (fun it s₂ => wpAny (model c.prog c.w) A (newList []) (fun acc s₃ =>
      wpAny (model c.prog c.w) A (newFunctionEnv scope env.globals (clOf env scope.names []) [] env.qual none .none (some env)) (fun cenv s₄ =>
        codeAny (model c.prog c.w) A (.compStart (.ListComp elt [⟨.Name x xp, iter, ifs, 0⟩] scope pos) 0 it acc { cenv with scope := relabel scope env }) (RR acc cenv.locals) s₄) E s₃) E s₂) E s₁) E s := by
  refine wpAny_mono (hi env A E s φ sl H _ eo ao ok vs w) (fun xv s₁ p₁ => wpAny_mono p₁ (fun it s₂ p₂ => ?_) fun _ _ e => e) fun _ _ e => e
  obtain ⟨I, k, H₂, φ₂, rfl, ⟨hlen, q⟩, iv, ia, fI, Il, Iz, ok₂, g₂, r₂⟩ := p₂
  have vs₂ := vs.grow g₂
  refine wpAny_newObj_type (hd := by size_fits) ?_
  have kp₃ : ∀ b o, s₂.heap.get? b = some o → (s₂.heap.push { cls := .type "list", dict := none, data := .seq ([] : List Value).toArray }).get? b = some o := fun b o e => Heap.get?_push_of_some _ e
  have ok₃ := ok₂.keep kp₃
  have g₃ : Grow φ₂ s₂.heap φ₂ (s₂.heap.push { cls := .type "list", dict := none, data := .seq ([] : List Value).toArray }) := .of_keep kp₃
  have fD : s.heap.get? s₂.heap.objs.size = none := g₂.none (new_none _)
  obtain ⟨oI, lI⟩ := ia.live
  refine comp_env (s := { s₂ with heap := s₂.heap.push { cls := .type "list", dict := none, data := .seq ([] : List Value).toArray } }) (R := fun cenv' s₄ => codeAny (model c.prog c.w) A (.compStart (.ListComp elt [⟨.Name x xp, iter, ifs, 0⟩] scope pos) 0 (.ref I) (.ref s₂.heap.objs.size) cenv') (RR (.ref s₂.heap.objs.size) cenv'.locals) s₄) S eo ok₃ (vs₂.grow g₃) fun cenv s₄ hC eoC fX fY vsC kp₄ r₄ => ?_
  have ok₄ := ok₃.keep kp₄
  have lD : s₄.heap.get? s₂.heap.objs.size = some { cls := .type "list", dict := none, data := .seq ([] : List Value).toArray } := kp₄ _ _ (Heap.get?_push_size _ rfl)
  have sz : cenv.locals = s₂.heap.objs.size + 1 := by rw [hC]; exact Heap.size_push ..
  have nf : ∀ b, (s₂.heap.push { cls := .type "list", dict := none, data := .seq ([] : List Value).toArray }).get? b = none → s.heap.get? b = none := fun b e => (g₂.trans g₃).none e
  have ia₄ : ItAt c A φ₂ s₄.heap I 0 k := ia.keep (fun o e => kp₄ _ _ (kp₃ _ _ e)) fun _ _ e => e
  have notcell : ∀ a o, s₂.heap.get? a = some o → a ≠ cenv.locals := fun a o e q => by
    have h1 := Heap.lt_size e
    rw [q, sz] at h1
    exact absurd h1 (Nat.not_lt.mpr (Nat.le_succ _))
  have cellObj : ∀ y a, cenv.cells.lookup y = some a → ∀ o, s₄.heap.get? a = some o → ∃ z, o.data = .cell z := fun y a e o eo' => by
    obtain ⟨_, _, _, z, o', ho', hd⟩ := vsC.offC y a e
    rw [ho'] at eo'; cases eo'; exact ⟨z, hd⟩
  have loop : codeAny (model c.prog c.w) A (.compLoop (.ListComp elt [⟨.Name x xp, iter, ifs, 0⟩] scope pos) 0 (.ref I) (.ref s₂.heap.objs.size) cenv) (RR (.ref s₂.heap.objs.size) cenv.locals) s₄ := by
    refine comp_loop G ht he eoC ao S.kind (.inl ?_) fI fD (nf _ (by rw [hC]; exact new_none _)) (fun b e => nf b (fX b e)) ⟨H, ok⟩ ok₂.newS (fun q => ?_) (fun q => notcell I oI lI q) (fun q => by rw [sz] at q; exact absurd q (Nat.ne_of_lt (Nat.lt_succ_self _)))
      (fun y e => ?_) (fun y e => ?_) q hlen iv ia₄ Il Iz (new_unz ok₂).1 (new_unz ok₂).2 ok₄ vsC ⟨_, lD⟩ ((g₂.trans g₃).trans (.of_keep kp₄)) ((r₂.trans ⟨_, s₂.toks, rfl⟩).trans r₄) fun s' ys H' φ' xs' ce => hRR _ _ s' ys H' φ' xs' ce
    · have := lookup_relabel_local (env := env) S.loc
      rw [show (relS scope sc) = relabel scope env from (relabel_eq eo).symm]
      exact this
    · have := Heap.lt_size lI
      rw [q] at this; exact Nat.lt_irrefl _ this
    · rcases fY y I e with h | h
      · obtain ⟨_, _, _, u', o3, ho3, _⟩ := vs.offC y I h
        rw [fI] at ho3; cases ho3
      · have := kp₃ _ _ lI
        rw [show (s₂.heap.push { cls := .type "list", dict := none, data := .seq ([] : List Value).toArray }).get? I = none from h] at this; cases this
    · obtain ⟨z, hd⟩ := cellObj y _ e _ lD
      cases hd
  exact codeAny_compStart_list loop (ia₄.self loop)
theorem CompPost.mk {φ s} {A : Around} {E : Value → Shared → Prop} {H} {Q : List V → HW → Prop} {Q' : V → HW → Prop} {D C s' ys H' φ' xs} (ok : Ok c φ H s.heap) (x : CompEnd c φ s Q D C s' ys H' φ' xs) (hq : ∀ ys H', Q ys H' → Q' (.loc H'.length) (H' ++ [.list ys])) :
    compPost (model c.prog c.w) A E none (PostE c φ s Q') (.ref D) C (.ok .next) s' := by
  obtain ⟨m, hn⟩ := x.ns
  exact ⟨m, hn, fun h' sb => x.post ok sb hq⟩
theorem ev_comp {elt iter : Expr} {x : Str} {xp : Pos} {ifs : List Expr} {scope : Scope} {pos : Pos} {is xs} {wi : WI} {t : WT} {e : WE} (G : Good c) (S : CSc sc scope x is xs ρ)
    (hi : Ei c d sc ρ iter wi) (ht : Ets c d (relS scope sc) (x :: xs) ifs t) (he : Ev c d (relS scope sc) (x :: xs) elt e) (hs : ∀ env x, foldedSetIterable iter env x = pure x) :
    Ev c d sc ρ (.ListComp elt [⟨.Name x xp, iter, ifs, 0⟩] scope pos) (wComp c.ns wi is t e) := by
  intro env A E s φ sl H Q eo ao ok vs w
  rw [eval_ListComp]
  show wpAny _ _ (comprehension _ scope env _ (newList []) false (eval iter env)) _ _ _
  refine wpAny_comprehension_free rfl (hs env) (closureFor_eq (S.closed eo vs)) S.kind S.names ?_
  exact comp_block G S hi ht he eo ao ok vs w fun D C s' ys H' φ' xs' ce => CompPost.mk ok ce fun _ _ q => q
end
end Mine

namespace Mine
section
variable {c : Cx} {d : Nat} {sc : Scope} {ρ : List Str}
/-! ### identity -/
def isV (c : Cx) : V → V → Option Bool
  | v, .none => some (isN v)
  | .none, v => some (isN v)
  | .bool a, .bool b => some (a == b)
  | .loc i, .loc j => some (i == j)
  | .loc _, .obj _ _ => some false
  | .obj _ _, .loc _ => some false
  | .loc _, .glob _ => some false
  | .obj _ _, .glob _ => some false
  | .glob a, .loc _ => if (c.gC a).isSome then some false else none
  | .glob a, .obj _ _ => if (c.gC a).isSome then some false else none
  | .glob a, .glob b => if a = b then some true else if (c.gC a).isSome then some false else none
  | _, _ => none
theorem ok_obj {φ : Mp} {H h} {k : Nat} {a} (ok : Ok c φ H h) (e : φ.l[k]? = some a) : ∃ o, h.get? a = some o ∧ o.cls ≠ .type "tuple" := by
  have hk : k < H.length := by rw [← ok.len]; exact (List.getElem?_eq_some_iff.mp e).1
  obtain ⟨o, h1, h2⟩ := ok.objs k a H[k] e (List.getElem?_eq_getElem hk)
  refine ⟨o, h1, ?_⟩
  generalize H[k] = lo at h2
  cases h2 with
  | list r => intro q; simp at q
  | inst _ _ _ _ _ => intro q; simp at q
  | dict d k r => obtain ⟨es, ep, hx, _⟩ := d; rw [hx.1]; intro q; simp at q
theorem isSame_ok {A : Around} {E : Value → Shared → Prop} {s : Shared} {φ H v w x y b} {R : Bool → Shared → Prop} (G : Good c) (ok : Ok c φ H s.heap) (rv : RepV c φ s.heap v x) (rw' : RepV c φ s.heap w y) (e : isV c v w = some b) (h : R b s) : wpAny (model c.prog c.w) A (isSame x y) R E s := by
  have N : ∀ {a a' : Addr} {o o'}, a ≠ a' → s.heap.get? a = some o → s.heap.get? a' = some o' → o.cls ≠ .type "tuple" → some false = some b → wpAny (model c.prog c.w) A (isSame (.ref a) (.ref a')) R E s := fun n h1 h2 h3 h4 => by
    cases h4; exact wpAny_isSame_ref_other n h1 h2 h3 h
  have P : ∀ {a b' : Value}, plainIs a b' = true → some (a == b') = some b → wpAny (model c.prog c.w) A (isSame a b') R E s := fun h1 h2 => by
    cases h2; exact wpAny_isSame_plain h1 h
  have gN : ∀ {a : Addr} {o}, c.h₀.get? a = some o → (if (c.gC a).isSome = true then some false else none) = some b → some false = some b ∧ ∃ o', s.heap.get? a = some o' ∧ o'.cls ≠ .type "tuple" := fun h1 h2 => by
    split at h2
    · rename_i q
      obtain ⟨⟨k, n⟩, ek⟩ := Option.isSome_iff_exists.mp q
      obtain ⟨b', e1, e2⟩ := G.gl _ k n ek
      exact ⟨h2, _, ok.base _ _ e1, by intro q; cases q⟩
    · cases h2
  cases rw' with
  | none =>
    have : isV c v .none = some (isN v) := by cases v <;> rfl
    rw [this] at e
    refine P (by cases rv <;> rfl) (by rw [isN_of rv]; exact e)
  | bool =>
    cases rv with
    | none => exact P rfl e
    | bool => rename_i b1 b2; refine P rfl ?_; rw [← e]; cases b1 <;> cases b2 <;> rfl
    | _ => cases e
  | int => cases rv with
    | none => exact P rfl e
    | _ => cases e
  | str => cases rv with
    | none => exact P rfl e
    | _ => cases e
  | script => cases rv with
    | none => exact P rfl e
    | _ => cases e
  | tup => cases rv with
    | none => exact P rfl e
    | _ => cases e
  | loc e2 => cases rv with
    | none => exact P rfl e
    | loc e1 =>
      rename_i k2 a2 k1 a1
      obtain ⟨o1, h1, c1⟩ := ok_obj ok e1
      obtain ⟨o2, h2, c2⟩ := ok_obj ok e2
      simp only [isV] at e
      by_cases q : k1 = k2
      · subst q
        rw [e1] at e2; cases e2
        rw [beq_self_eq_true] at e
        cases e
        exact wpAny_isSame_ref_self h
      · refine N (fun z => q ?_) h1 h2 c1 (by rw [← e]; simp [q])
        subst z
        obtain ⟨l1, e1⟩ := List.getElem?_eq_some_iff.mp e1
        obtain ⟨l2, e2⟩ := List.getElem?_eq_some_iff.mp e2
        exact (List.getElem_inj (h₀ := l1) (h₁ := l2) ok.nodup).mp (e1.trans e2.symm)
    | obj n z m y n0 o1 es o2 r =>
      obtain ⟨o3, h2, c2⟩ := ok_obj ok e2
      exact N (fun q => n (q ▸ List.mem_of_getElem? e2)) o1 h2 (by intro q; cases q) e
    | glob e1 =>
      obtain ⟨e, o', h1, c1⟩ := gN e1 e
      obtain ⟨o3, h2, c2⟩ := ok_obj ok e2
      exact N (fun q => ok.off _ _ e1 (q ▸ List.mem_of_getElem? e2)) h1 h2 c1 e
    | _ => cases e
  | obj n z m y n0 o1 es o2 r => cases rv with
    | none => exact P rfl e
    | loc e1 =>
      obtain ⟨o3, h2, c2⟩ := ok_obj ok e1
      exact N (fun q => n (q ▸ List.mem_of_getElem? e1)) h2 o1 c2 e
    | glob e1 =>
      obtain ⟨e, o', h1, c1⟩ := gN e1 e
      exact N (fun q => by rw [← q, e1] at n0; cases n0) h1 o1 c1 e
    | _ => cases e
  | glob e2 => cases rv with
    | none => exact P rfl e
    | loc e1 =>
      obtain ⟨o3, h2, c2⟩ := ok_obj ok e1
      exact N (fun q => ok.off _ _ e2 (q ▸ List.mem_of_getElem? e1)) h2 (ok.base _ _ e2) c2 e
    | obj n z m y n0 o1 es o2 r => exact N (fun q => by rw [q, e2] at n0; cases n0) o1 (ok.base _ _ e2) (by intro q; cases q) e
    | glob e1 =>
      simp only [isV] at e
      split at e
      · rename_i q; subst q; cases e; exact wpAny_isSame_ref_self h
      · rename_i q
        obtain ⟨e, o', h1, c1⟩ := gN e1 e
        exact N q h1 (ok.base _ _ e2) c1 e
    | _ => cases e
def wIs (c : Cx) (f : Bool → Bool) : WB := fun v w H Q => match isV c v w with | some b => Q (.bool (f b)) H | none => False
theorem is_ok (G : Good c) : CmpOK c d .Is (wIs c id) := by
  intro A E s φ H v w x y Q ao ok rv rw' q
  unfold wIs at q
  split at q
  · rename_i b e
    show wpAny _ A (do return Value.bool (← isSame x y) : Sem Value) _ E s
    exact wpAny_bind (isSame_ok G ok rv rw' e (wpAny_pure (.here q ok .bool (fun _ _ e => e) (Rest.refl s))))
  · exact q.elim
theorem isnot_ok (G : Good c) : CmpOK c d .IsNot (wIs c not) := by
  intro A E s φ H v w x y Q ao ok rv rw' q
  unfold wIs at q
  split at q
  · rename_i b e
    show wpAny _ A (do return Value.bool (!(← isSame x y)) : Sem Value) _ E s
    exact wpAny_bind (isSame_ok G ok rv rw' e (wpAny_pure (.here q ok .bool (fun _ _ e => e) (Rest.refl s))))
  · exact q.elim
end
end Mine

namespace Mine
section
variable {c : Cx} {d : Nat} {sc : Scope} {ρ : List Str}
/-! ### the conditional expression -/
/-! ### a global object -/
/-! ### isinstance -/
/-! ### texts -/
/-! ### range with a step of two -/
end
end Mine

namespace Mine
section
variable {c : Cx} {d : Nat} {sc : Scope} {ρ : List Str}
/-! ### comparisons of several kinds -/
def wEqX (f : Bool → Bool) : WB := fun v w H Q => match v, w with
  | .int i, .int j => Q (.bool (f (i == j))) H
  | .str a, .str b => Q (.bool (f (a == b))) H
  | _, _ => False
def wNeX (ns : List Int) : WB := fun v w H Q => match v, w with
  | .int i, .int j => Q (.bool (i != j)) H
  | v, w => wCmpI ns not v w H Q
/-! ### times -/
def wMul : WB := fun v w H Q => match v, w with | .int i, .int j => IntMulOk i j ∧ Q (.int (i * j)) H | _, _ => False
theorem mul_ok : BinOK c d .Mult wMul := by
  intro A E s φ H v w x y Q ao ok rv rw' q
  unfold wMul at q
  split at q
  · cases rv; cases rw'
    exact PyProof.Rows.mul_int (.here q.2 ok .int (fun _ _ e => e) (Rest.mk s s.heap _)) q.1
  · exact q.elim
/-! ### a value as a test -/
theorem et_tv {e a} (he : Ev c d sc ρ e a) (ht : ∀ env whole, isTrue e env whole = (do let v ← whole; standAt e.pos; holding [v] (truthy v))) : Et c d sc ρ e (tv a) := by
  intro env A E s φ sl H Q eo ao ok vs w
  rw [ht]
  refine wpAny_bind (wpAny_mono (he env A E s φ sl H _ eo ao ok vs w) (fun x s₁ p₁ => wpAny_bind (wpAny_standAt (wpAny_holding ?_))) fun _ _ e => e)
  obtain ⟨v, H₁, φ₁, w₁, ok₁, rv, g₁, r₁⟩ := p₁
  split at w₁
  · cases rv
    exact wpAny_pure ⟨H₁, φ₁, w₁, ok₁, g₁, r₁⟩
  · exact w₁.elim
/-! ### over a list or a text -/
end
section
variable {sl : Sl} {H : HW} {c : Cx} {ns : List Int}
theorem e_wComp {it is t e Q} : wComp ns it is t e sl H Q = it sl H (fun k H₁ => k.items.length ≤ 100000 ∧ wCompGo ns k t e (fvOf sl is) k.items [] H₁ fun ys H₂ => Q (.loc H₂.length) (H₂ ++ [.list ys])) := propext Iff.rfl
theorem e_comp0 {k t e fv ys Q} : wCompGo ns k t e fv [] ys H Q = Q ys H := propext Iff.rfl
theorem e_compS {k t e fv v r ys Q} : wCompGo ns k t e fv (v :: r) ys H Q = t (some v :: fv) H (fun b H₁ => if b then e (some v :: fv) H₁ fun y H₂ => k.inv ns H₂ ∧ wCompGo ns k t e fv r (ys ++ [y]) H₂ Q else k.inv ns H₁ ∧ wCompGo ns k t e fv r ys H₁ Q) := propext Iff.rfl
theorem e_tTrue {Q} : tTrue sl H Q = Q true H := propext Iff.rfl
theorem e_mul {i j Q} : wMul (.int i) (.int j) H Q = (IntMulOk i j ∧ Q (.int (i * j)) H) := propext Iff.rfl
theorem e_eqXI {f i j Q} : wEqX f (.int i) (.int j) H Q = Q (.bool (f (i == j))) H := propext Iff.rfl
theorem e_eqXS {f i j Q} : wEqX f (.str i) (.str j) H Q = Q (.bool (f (i == j))) H := propext Iff.rfl
theorem e_neXI {i j Q} : wNeX ns (.int i) (.int j) H Q = Q (.bool (i != j)) H := propext Iff.rfl
theorem e_neXL {k j Q} : wNeX ns (.loc k) (.loc j) H Q = wCmpI ns not (.loc k) (.loc j) H Q := propext Iff.rfl
/-- a comprehension whose parts leave the heap alone -/
theorem comp_pure {k t e fv} {p : V → Bool} {f : V → V} {Q : List V → HW → Prop} (hi : k.inv ns H) : ∀ (xs ys : List V), (∀ v ∈ xs, ∀ R : Bool → HW → Prop, R (p v) H → t (some v :: fv) H R) → (∀ v ∈ xs, p v = true → ∀ R : V → HW → Prop, R (f v) H → e (some v :: fv) H R) →
    Q (ys ++ (xs.filter p).map f) H → wCompGo ns k t e fv xs ys H Q
  | [], ys, _, _, q => by rw [e_comp0]; simpa using q
  | x :: xs, ys, ht, he, q => by
    rw [e_compS]
    refine ht x List.mem_cons_self _ ?_
    cases hp : p x with
    | true =>
      rw [if_pos rfl]
      refine he x List.mem_cons_self hp _ ⟨hi, comp_pure hi xs _ (fun v m => ht v (List.mem_cons_of_mem _ m)) (fun v m => he v (List.mem_cons_of_mem _ m)) ?_⟩
      simpa [List.filter_cons, hp] using q
    | false =>
      rw [if_neg (by decide)]
      refine ⟨hi, comp_pure hi xs _ (fun v m => ht v (List.mem_cons_of_mem _ m)) (fun v m => he v (List.mem_cons_of_mem _ m)) ?_⟩
      simpa [List.filter_cons, hp] using q
end
end Mine

namespace Mine
section
variable {c : Cx} {d : Nat} {sc : Scope} {ρ : List Str}
/-! ### lists of plain data, compared -/
mutual
inductive DV (ns : List Int) (H : HW) : V → PyData → Prop
  | none : DV ns H .none .none
  | bool {b} : DV ns H (.bool b) (.bool b)
  | int {i} : DV ns H (.int i) (.int i)
  | str {s} : DV ns H (.str s) (.str s)
  | list {v xs ds} : asL ns H v = some xs → DVs ns H xs ds → DV ns H v (.list ds)
  | tup {vs ds} : DVs ns H vs ds → DV ns H (.tup vs) (.tuple ds)
inductive DVs (ns : List Int) (H : HW) : List V → List PyData → Prop
  | nil : DVs ns H [] []
  | cons {v d vs ds} : DV ns H v d → DVs ns H vs ds → DVs ns H (v :: vs) (d :: ds)
end
mutual
theorem DV.reads (G : Good c) {φ H h} (ok : Ok c φ H h) : ∀ {v dd x}, DV c.ns H v dd → RepV c φ h v x → ∃ as, Reads h x dd as
  | _, _, _, .none, r => by cases r; exact ⟨_, .none⟩
  | _, _, _, .bool, r => by cases r; exact ⟨_, .bool _⟩
  | _, _, _, .int, r => by cases r; exact ⟨_, .int _ _⟩
  | _, _, _, .str, r => by cases r; exact ⟨_, .str _ _⟩
  | _, _, _, .list e ds, r => by
    obtain ⟨a, ys, rfl, ⟨o, ho, hc, n, hd⟩, rr⟩ := asL_of G ok r e
    obtain ⟨as, h1⟩ := DVs.reads G ok ds rr
    exact ⟨_, .list ho hc hd h1⟩
  | _, _, _, .tup ds, r => by
    cases r with
    | tup n z n0 e rr =>
      obtain ⟨as, h1⟩ := DVs.reads G ok ds rr
      exact ⟨_, .tuple e rfl rfl h1⟩
theorem DVs.reads (G : Good c) {φ H h} (ok : Ok c φ H h) : ∀ {vs ds xs}, DVs c.ns H vs ds → RepVs c φ h vs xs → ∃ as, ReadsAll h xs ds as
  | _, _, _, .nil, r => by cases r; exact ⟨_, .nil⟩
  | _, _, _, .cons x xs, r => by
    cases r with
    | cons r rs =>
      obtain ⟨as, h1⟩ := DV.reads G ok x r
      obtain ⟨bs, h2⟩ := DVs.reads G ok xs rs
      exact ⟨_, .cons h1 h2⟩
end
def wEqD (ns : List Int) (f : Bool → Bool) : WB := fun v w H Q => ∃ da db, DV ns H v da ∧ DV ns H w db ∧ (SeqAt.shaped da = true ∧ SeqAt.shaped db = true) ∧ Q (.bool (f (PyData.eqv da db))) H
theorem neD_ok (G : Good c) : CmpOK c d .NotEq (wEqD c.ns not) := by
  rintro A E s φ H v w x y Q ao ok rv rw' ⟨da, db, d1, d2, ⟨s1, s2⟩, q⟩
  obtain ⟨as, r1⟩ := d1.reads G ok rv
  obtain ⟨bs, r2⟩ := d2.reads G ok rw'
  exact ne_dataH r1 r2 s1 s2 (by have := ao.units; rw [cLine_is]; omega) (.here q ok .bool (fun _ _ e => e) (Rest.refl s))
theorem dvs_ints {ns H} : ∀ is : List Int, DVs ns H (is.map .int) (is.map .int)
  | [] => .nil
  | _ :: is => .cons .int (dvs_ints is)
end
end Mine

namespace Mine
section
variable {c : Cx} {d : Nat} {sc : Scope} {ρ : List Str}
/-- the numbers of a list -/
theorem asInts_of (G : Good c) {φ H h v x} {is : List Int} (ok : Ok c φ H h) (rv : RepV c φ h v x) (e : asL c.ns H v = some (is.map .int)) : ∃ a us, x = .ref a ∧ h.IsList a us.toArray ∧ IntsAre us is := by
  obtain ⟨a, ys, rfl, il, rr⟩ := asL_of G ok rv e
  exact ⟨a, ys, rfl, il, ints_of rr⟩
def bSum (ns : List Int) : WF := fun args H Q => match args with | [v] => ∃ is : List Int, asL ns H v = some (is.map .int) ∧ Q (.int is.sum) H | _ => False
def bMinL (ns : List Int) : WF := fun args H Q => match args with | [v] => ∃ is : List Int, asL ns H v = some (is.map .int) ∧ is ≠ [] ∧ ∀ M, M ∈ is → (∀ a ∈ is, M ≤ a) → Q (.int M) H | _ => False
theorem minL_ok (G : Good c) : FnOK c d (.builtin "min") (bMinL c.ns) := by
  intro A E s φ H args vals Q ao ok r q
  unfold bMinL at q
  split at q
  · obtain ⟨is, e, ne, q⟩ := q
    cases r with
    | cons rv rs =>
      cases rs
      obtain ⟨a, us, rfl, il, hi⟩ := asInts_of G ok rv e
      obtain ⟨xs, hx⟩ := hi.allInts.items
      have hns : is = xs.toList.map (·.1) := by
        rw [← hi.numsOf, ← nums_intItems, ← hx]
      have hpos : 0 < is.length := List.length_pos_iff.mpr ne
      have hsz : 0 < xs.size := by
        have h3 := hpos; rw [hns, List.length_map, Array.length_toList] at h3; exact h3
      rw [hx] at il
      refine min_intList ao.handled il hsz fun v h' tk hv hk => ?_
      obtain ⟨t, rfl⟩ := intItems_at hv
      obtain ⟨h1, h2⟩ := argBest_lt (numAt xs) (xs.size - 1)
      refine .here (q _ ?_ fun a ha => ?_) (ok.keep hk) .int hk (Rest.mk s h' tk)
      · rw [hns, numAt_eq]; exact getD_mem (by rw [List.length_map, Array.length_toList]; omega)
      · rw [hns] at ha
        obtain ⟨j, hj, rfl⟩ := mem_getD ha
        rw [List.length_map, Array.length_toList] at hj
        rw [← numAt_eq]; exact h2 j (by omega)
  · exact q.elim
/-! ### «in» among numbers -/
def wInI (ns : List Int) (f : Bool → Bool) : WB := fun v w H Q => match v with | .int k => (∃ is : List Int, asL ns H w = some (is.map .int) ∧ Q (.bool (f (is.any (· == k)))) H) | _ => False
/-! ### ^ and ** -/
def wPow : WB := fun v w H Q => match v, w with | .int i, .int j => (0 ≤ j ∧ j ≤ 1000 ∧ i.natAbs < 2 ^ 64) ∧ Q (.int (i ^ j.toNat)) H | _, _ => False
end
section
variable {sl : Sl} {H : HW} {c : Cx} {ns : List Int}
theorem e_sum {v Q} : bSum ns [v] H Q = (∃ is : List Int, asL ns H v = some (is.map .int) ∧ Q (.int is.sum) H) := propext Iff.rfl
theorem e_minL {v Q} : bMinL ns [v] H Q = (∃ is : List Int, asL ns H v = some (is.map .int) ∧ is ≠ [] ∧ ∀ M, M ∈ is → (∀ a ∈ is, M ≤ a) → Q (.int M) H) := propext Iff.rfl
theorem e_inI {f k w Q} : wInI ns f (.int k) w H Q = (∃ is : List Int, asL ns H w = some (is.map .int) ∧ Q (.bool (f (is.any (· == k)))) H) := propext Iff.rfl
theorem e_pow {i j Q} : wPow (.int i) (.int j) H Q = ((0 ≤ j ∧ j ≤ 1000 ∧ i.natAbs < 2 ^ 64) ∧ Q (.int (i ^ j.toNat)) H) := propext Iff.rfl
theorem e_is {f v w Q} : wIs c f v w H Q = (match isV c v w with | some b => Q (.bool (f b)) H | none => False) := propext Iff.rfl
end
end Mine

namespace Mine
section
variable {c : Cx} {d : Nat} {sc : Scope} {ρ : List Str}
/-! ### a comprehension whose own variable is a cell -/
end
end Mine

namespace Mine
section
variable {c : Cx} {d : Nat} {sc : Scope} {ρ : List Str}
theorem ex_setX {i x xp e pos a} (he : Ev c d sc ρ e a) (hi : ρ[i]? = some x) (hx : sc.names.lookup x = some .local ∨ sc.names.lookup x = some .cell) (hk : sc.kind = .function)
    (hs : ∀ env, env.scope = sc → swapsWith e (some (.Name x xp)) pos.line env = pure false) : Ex c d sc ρ (.Assign [.Name x xp] e pos) (wSet i a) := by
  intro env A E s φ sl H Q eo ao ok vs w
  refine wpAny_Assign_Name (wpAny_mono (he env A E s φ sl H _ eo ao ok vs w) (fun y s₁ p₁ => ?_) fun _ _ e => e) (hs env eo.scope)
  obtain ⟨v, H₁, φ₁, w₁, ok₁, rv, g₁, r₁⟩ := p₁
  exact store_ok hi hx hk eo ok₁ (vs.grow g₁) rv fun s₂ ok₂ vs₂ g₂ r₂ => ⟨.next, _, H₁, φ₁, w₁, ok₂, vs₂, trivial, g₁.toS.trans g₂, r₁.trans r₂⟩
end
/-! ElementInfo: an instance is .obj k [tagName] -/
def mkEI (k : Nat) : WF := fun args H Q => match args with | [a] => Q (.obj k [a]) H | _ => False
theorem e_mkEI {k a H Q} : mkEI k [a] H Q = Q (.obj k [a]) H := propext Iff.rfl
def kFalse : WF := fun args H Q => args.length = 1 ∧ Q (.bool false) H
theorem e_kFalse {a H Q} : kFalse [a] H Q = (1 = 1 ∧ Q (.bool false) H) := propext Iff.rfl
end Mine

namespace Mine
/-! ### the abstract heap has grown -/
def Ext (H H' : HW) : Prop := ∃ L, H' = H ++ L
theorem Ext.refl (H : HW) : Ext H H := ⟨[], by simp⟩
theorem Ext.app {H L : HW} : Ext H (H ++ L) := ⟨L, rfl⟩
theorem Ext.trans {a b d : HW} (x : Ext a b) (y : Ext b d) : Ext a d := by
  obtain ⟨L, rfl⟩ := x
  obtain ⟨M, rfl⟩ := y
  exact ⟨L ++ M, by simp⟩
theorem Ext.at {H H' : HW} (x : Ext H H') {k : Nat} {o} (h : H[k]? = some o) : H'[k]? = some o := by
  obtain ⟨L, rfl⟩ := x
  rw [List.getElem?_append_left (List.getElem?_eq_some_iff.mp h).1]; exact h
theorem Ext.lst {H H' : HW} (x : Ext H H') {k xs} (h : lstAt H k = some xs) : lstAt H' k = some xs := by
  obtain ⟨L, rfl⟩ := x
  exact lstAt_ext h
theorem lstAt_new {H : HW} {xs} : lstAt (H ++ [.list xs]) H.length = some xs := by unfold lstAt; simp
section
variable {ns : List Int} {k : ItK}
theorem comp_inv {t : WT} {e : WE} {fv : Sl} {Q : List V → HW → Prop} (I : Nat → List V → HW → Prop) (hi : ∀ n ys H, I n ys H → k.inv ns H) (all : List V)
    (step : ∀ (n : Nat) v ys H, all[n]? = some v → I n ys H → ∀ (R : Bool → HW → Prop), (∀ H', I (n + 1) ys H' → R false H') → (∀ H', (∀ R' : V → HW → Prop, (∀ y H'', I (n + 1) (ys ++ [y]) H'' → R' y H'') → e (some v :: fv) H' R') → R true H') → t (some v :: fv) H R)
    (fin : ∀ ys H, I all.length ys H → Q ys H) : ∀ (m n : Nat), n + m = all.length → ∀ ys H, I n ys H → wCompGo ns k t e fv (all.drop n) ys H Q
  | 0, n, hn, ys, H, i => by
    rw [List.drop_eq_nil_of_le (by omega), e_comp0]
    exact fin _ _ (by rw [← hn]; exact i)
  | m + 1, n, hn, ys, H, i => by
    have hlt : n < all.length := by omega
    rw [List.drop_eq_getElem_cons hlt, e_compS]
    refine step n all[n] ys H (List.getElem?_eq_getElem hlt) i _ (fun H' i' => ?_) (fun H' h => ?_)
    · rw [if_neg (by decide)]
      exact ⟨hi _ _ _ i', comp_inv I hi all step fin m (n + 1) (by omega) _ _ i'⟩
    · rw [if_pos rfl]
      exact h _ fun y H'' i' => ⟨hi _ _ _ i', comp_inv I hi all step fin m (n + 1) (by omega) _ _ i'⟩
theorem comp_invT {e : WE} {fv : Sl} {Q : List V → HW → Prop} {all : List V} {H : HW} (I : Nat → List V → HW → Prop) (hi : ∀ n ys H, I n ys H → k.inv ns H)
    (step : ∀ (n : Nat) v ys H, all[n]? = some v → I n ys H → ∀ (R' : V → HW → Prop), (∀ y H'', I (n + 1) (ys ++ [y]) H'' → R' y H'') → e (some v :: fv) H R')
    (h0 : I 0 [] H) (fin : ∀ ys H, I all.length ys H → Q ys H) : wCompGo ns k tTrue e fv all [] H Q := by
  have := comp_inv (ns := ns) (k := k) (t := tTrue) (e := e) (fv := fv) (Q := Q) I hi all (fun n v ys H hv i R _ h2 => h2 H fun R' hr => step n v ys H hv i R' hr) fin all.length 0 (by simp) [] H h0
  simpa using this
theorem for_inv {ta : WA} {b : WS} {Q : Fl → Sl → HW → Prop} (I : Nat → Sl → HW → Prop) (hi : ∀ n sl H, I n sl H → k.inv ns H) {all : List V}
    (step : ∀ (n : Nat) v sl H, all[n]? = some v → I n sl H → ∀ R : Fl → Sl → HW → Prop, (∀ sl' H', I (n + 1) sl' H' → R .next sl' H') → ta v sl H fun sl₁ H₁ => b sl₁ H₁ R)
    (fin : ∀ sl H, I all.length sl H → Q .next sl H) {sl H} (h0 : I 0 sl H) : wForGo ns k ta b all sl H Q := by
  have go : ∀ (m n : Nat), n + m = all.length → ∀ sl H, I n sl H → wForGo ns k ta b (all.drop n) sl H Q := by
    intro m
    induction m with
    | zero =>
      intro n hn sl H i
      rw [List.drop_eq_nil_of_le (by omega), e_for0]
      exact fin _ _ (by rw [← hn]; exact i)
    | succ m ih =>
      intro n hn sl H i
      have hlt : n < all.length := by omega
      rw [List.drop_eq_getElem_cons hlt, e_for1]
      exact step n all[n] sl H (List.getElem?_eq_getElem hlt) i _ fun sl' H' i' => ⟨hi _ _ _ i', ih (n + 1) (by omega) _ _ i'⟩
  simpa using go all.length 0 (by simp) sl H h0
end
theorem rangeL_nat (n : Nat) : rangeL 0 (n : Int) 1 = (List.range n).map fun i => V.int (i : Nat) := by
  unfold rangeL
  have : (Builtin.Range.rangeSize 0 (n : Int) 1).toNat = n := by
    unfold Builtin.Range.rangeSize
    simp only [show ((1 : Int) > 0) = True by simp, if_true]
    split <;> omega
  rw [this]
  apply List.map_congr_left
  intro i _
  congr 1; omega
theorem getI_nat {xs : List V} {k : Nat} : getI xs (k : Int) = xs[k]? := by
  unfold getI; rw [if_pos (by omega)]; simp
theorem asL_scr {ns : List Int} {H : HW} : asL ns H .script = some (ns.map .int) := rfl
abbrev natV (n : Nat) : V := .int (n : Int)
theorem range_get {N n : Nat} {v : V} (h : ((List.range N).map natV)[n]? = some v) : n < N ∧ v = natV n := by
  rw [List.getElem?_map] at h
  obtain ⟨i, h1, rfl⟩ := Option.map_eq_some_iff.mp h
  obtain ⟨h2, h3⟩ := List.getElem?_eq_some_iff.mp h1
  simp at h2 h3
  subst h3
  exact ⟨h2, rfl⟩
section
variable {ns : List Int} {sl : Sl} {H : HW}
theorem comp_range {a : WE} {m : Nat} {t : WT} {e : WE} {is : List Nat} {Q : V → HW → Prop} (ha : ∀ R : V → HW → Prop, R (natV m) H → a sl H R) (hm : m ≤ 1000)
    (h : wCompGo ns (.walk ((List.range m).map natV)) t e (fvOf sl is) ((List.range m).map natV) [] H fun ys H₂ => Q (.loc H₂.length) (H₂ ++ [.list ys])) : wComp ns (iRange1 a) is t e sl H Q := by
  rw [e_wComp, e_iRange1]
  refine ha _ ⟨⟨by omega, by omega⟩, ?_⟩
  show (rangeL 0 (m : Int) 1).length ≤ 100000 ∧ wCompGo ns (.walk (rangeL 0 (m : Int) 1)) t e _ (rangeL 0 (m : Int) 1) [] H _
  rw [rangeL_nat]
  exact ⟨by simp; omega, h⟩
theorem comp_lst {a : WE} {k : Nat} {xs : List V} {t : WT} {e : WE} {is : List Nat} {Q : V → HW → Prop} (ha : ∀ R : V → HW → Prop, R (.loc k) H → a sl H R) (hk : lstAt H k = some xs) (hm : xs.length ≤ 1000)
    (h : wCompGo ns (.list (.loc k) xs) t e (fvOf sl is) xs [] H fun ys H₂ => Q (.loc H₂.length) (H₂ ++ [.list ys])) : wComp ns (iList ns a) is t e sl H Q := by
  rw [e_wComp, e_iList]
  refine ha _ ?_
  rw [asL_loc, hk]
  exact ⟨by show xs.length ≤ 100000; omega, h⟩
theorem comp_range_filter {a : WE} {m : Nat} {t : WT} {is : List Nat} {p : Nat → Bool} {Q : V → HW → Prop} (ha : ∀ R : V → HW → Prop, R (natV m) H → a sl H R) (hm : m ≤ 1000)
    (ht : ∀ v, v < m → ∀ R : Bool → HW → Prop, R (p v) H → t (some (natV v) :: fvOf sl is) H R) (q : ∀ k' H', Ext H H' → lstAt H' k' = some (((List.range m).filter p).map natV) → k' = H.length → Q (.loc k') H') : wComp ns (iRange1 a) is t (wVar 0) sl H Q := by
  refine comp_range ha hm (comp_pure (p := fun v => match v with | .int j => p j.toNat | _ => false) (f := fun v => v) (by exact trivial) _ _ (fun v mv R r => ?_) (fun v _ _ R r => r) ?_)
  · obtain ⟨j, hj, rfl⟩ := List.mem_map.mp mv
    exact ht j (List.mem_range.mp hj) R r
  · rw [List.nil_append, List.map_id', List.filter_map]
    exact q _ _ .app lstAt_new rfl
theorem for_range {a : WE} {m : Nat} {ta : WA} {b : WS} {Q : Fl → Sl → HW → Prop} (ha : ∀ R : V → HW → Prop, R (natV m) H → a sl H R) (hm : m ≤ 1000)
    (h : wForGo ns (.walk ((List.range m).map natV)) ta b ((List.range m).map natV) sl H Q) : wFor ns (iRange1 a) ta b sl H Q := by
  rw [e_for, e_iRange1]
  refine ha _ ⟨⟨by omega, by omega⟩, ?_⟩
  show wForGo ns (.walk (rangeL 0 (m : Int) 1)) ta b (rangeL 0 (m : Int) 1) sl H Q
  rw [rangeL_nat]
  exact h
end
theorem addL_k {ns : List Int} {H : HW} {k j xs ys} {Q : V → HW → Prop} (h1 : lstAt H k = some xs) (h2 : lstAt H j = some ys) (hl : xs.length + ys.length ≤ 1000000) (q : ∀ m H', Ext H H' → lstAt H' m = some (xs ++ ys) → m = H.length → Q (.loc m) H') : wAdd ns (.loc k) (.loc j) H Q := by
  rw [e_addL h1 h2]
  exact ⟨hl, q _ _ .app lstAt_new rfl⟩
theorem e_slot {c : Cx} {sl H k i a Q} : wSlot c k i a sl H Q = a sl H (fun v H₁ => clsV c H₁ v = some k ∧ match slotV c H₁ i v with | some u => Q u H₁ | none => False) := propext Iff.rfl
end Mine

namespace Mine
/-! ### dicts with whole numbers as keys -/
def dGet (kvs : List (Int × V)) (k : Int) : Option V := (kvs.find? fun kv => decide (kv.1 = k)).map (·.2)
def dHas (kvs : List (Int × V)) (k : Int) : Bool := kvs.any fun kv => decide (kv.1 = k)
def dSet (kvs : List (Int × V)) (k : Int) (v : V) : List (Int × V) := if dHas kvs k then kvs.map (fun kv => if kv.1 = k then (kv.1, v) else kv) else kvs ++ [(k, v)]
def asD (H : HW) : V → Option (List (Int × V))
  | .loc k => match H[k]? with | some (.dict kvs) => some kvs | _ => none
  | _ => none
section
variable {c : Cx} {d : Nat} {sc : Scope} {ρ : List Str}
theorem kv_get {φ h} {k : Int} : ∀ {kvs : List (Int × V)} {xs : List (Int × Value)}, xs.map (·.1) = kvs.map (·.1) → RepVs c φ h (kvs.map (·.2)) (xs.map (·.2)) →
    (∀ u, dGet kvs k = some u → ∃ y, valueAt xs k = some y ∧ RepV c φ h u y) ∧ (valueAt xs k).isSome = dHas kvs k
  | [], [], _, _ => by simp [dGet, valueAt, dHas]
  | [], _ :: _, e, _ => by simp at e
  | _ :: _, [], e, _ => by simp at e
  | (a, v) :: kvs, (b, x) :: xs, e, r => by
    simp only [List.map_cons, List.cons.injEq] at e
    obtain ⟨rfl, e⟩ := e
    cases r with
    | cons r rs =>
      have ih := kv_get (k := k) e rs
      by_cases q : b = k
      · subst q
        simp [dGet, valueAt, dHas]
        exact r
      · simp only [dGet, valueAt, dHas, List.find?_cons, List.any_cons, decide_eq_false q, Bool.false_or] at ih ⊢
        exact ih
theorem asD_of {φ H h v x kvs} (ok : Ok c φ H h) (r : RepV c φ h v x) (e : asD H v = some kvs) : ∃ (j : Nat) (a : Addr) (xs : List (Int × Value)), v = .loc j ∧ x = .ref a ∧ φ.l[j]? = some a ∧ H[j]? = some (.dict kvs) ∧ (a == sysModules) = false ∧ h.DictOf (intKind c.prog c.w) a xs ∧ xs.map (·.1) = kvs.map (·.1) ∧ RepVs c φ h (kvs.map (·.2)) (xs.map (·.2)) := by
  cases r <;> simp only [asD] at e <;> try (cases e; done)
  rename_i j a hj
  split at e
  · rename_i kvs' e'
    cases e
    obtain ⟨o, h1, h2⟩ := ok.objs j a _ hj e'
    cases h2 with
    | dict dd k r =>
      refine ⟨j, a, _, rfl, rfl, hj, e', ?_, Heap.dictOf_iff.mpr ⟨o, h1, dd⟩, k, r⟩
      have := ok.sm a (List.mem_of_getElem? hj)
      simpa using this
  · cases e
def wDict0 : WE := fun _ H Q => Q (.loc H.length) (H ++ [.dict []])
/-- an item of a dict or of a list -/
def wIdxX (ns : List Int) (a b : WE) : WE := fun sl H Q => a sl H fun v H₁ => b sl H₁ fun w H₂ => match asD H₂ v with
  | some kvs => (match w with | .int k => (match dGet kvs k with | some u => Q u H₂ | none => False) | _ => False)
  | none => match asL ns H₂ v, w with
    | some xs, .int k => xs.length ≤ 1000000 ∧ (match getI xs k with | some u => Q u H₂ | none => False)
    | _, _ => False
theorem ev_idxX {o i pos a b} (G : Good c) (ho : Ev c d sc ρ o a) (hi : Ev c d sc ρ i b) (hs : ∀ x y, subscripted i false x y = operate [x, y] (getItem x y)) : Ev c d sc ρ (.Subscript o i pos) (wIdxX c.ns a b) := by
  intro env A E s φ sl H Q eo ao ok vs w
  refine Subscript_ (wpAny_mono (ho env A E s φ sl H _ eo ao ok vs w) (fun x s₁ p₁ => ?_) fun _ _ e => e)
  obtain ⟨v, H₁, φ₁, w₁, ok₁, rv, g₁, r₁⟩ := p₁
  refine wpAny_mono (hi env A E s₁ φ₁ sl H₁ _ eo ao ok₁ (vs.grow g₁) w₁) (fun y s₂ p₂ => ?_) fun _ _ e => e
  obtain ⟨u, H₂, φ₂, w₂, ok₂, ru, g₂, r₂⟩ := p₂
  have rv₂ := rv.grow g₂
  split at w₂
  · rename_i kvs ek
    split at w₂
    · rename_i k
      split at w₂
      · rename_i z ez
        cases ru
        obtain ⟨j, al, xs, rfl, rfl, hj, hH, hm, hd, hk, hr⟩ := asD_of ok₂ rv₂ ek
        obtain ⟨y', h1, h2⟩ := (kv_get hk hr).1 z ez
        refine tail_any hd.typeIs slot_dict_getitem.lookup (wpAny_getItem_of (intKind_is _ _ _ _) hd.mapOf h1 ?_) (hs _ _)
        exact (PostE.here (s' := { s₂ with toks := s₂.toks + 1 }) w₂ ok₂ h2 (fun _ _ e => e) (Rest.mk s₂ s₂.heap _)).shift (g₁.trans g₂) (r₁.trans r₂)
      · exact w₂.elim
    · exact w₂.elim
  · split at w₂
    · rename_i xs k ex
      obtain ⟨hl, w₂⟩ := w₂
      split at w₂
      · rename_i z ez
        cases ru
        obtain ⟨a', ys, rfl, il, rr⟩ := asL_of G ok₂ rv₂ ex
        refine tail_any il.typeIs slot_list_getitem.lookup (item_ok G ok₂ rv₂ ex hl ez fun y' ry => ?_) (hs _ _)
        exact (PostE.here w₂ ok₂ ry (fun _ _ e => e) (Rest.refl s₂)).shift (g₁.trans g₂) (r₁.trans r₂)
      · exact w₂.elim
    · exact w₂.elim
/-- an item is stored -/
def stV (v w u : V) (H : HW) (Q : HW → Prop) : Prop := match v, w with
  | .loc j, .int k => (match H[j]? with
    | some (.dict kvs) => kvs.length ≤ 1000000 ∧ Q (H.set j (.dict (dSet kvs k u)))
    | some (.list xs) => xs.length ≤ 1000000 ∧ (0 ≤ k ∧ k < xs.length) ∧ Q (H.set j (.list (xs.set k.toNat u)))
    | _ => False)
  | _, _ => False
def wSetI (a b e : WE) : WS := fun sl H Q => e sl H fun u H₁ => a sl H₁ fun v H₂ => b sl H₂ fun w H₃ => stV v w u H₃ fun H' => Q .next sl H'
end
end Mine

namespace Mine
section
variable {c : Cx} {d : Nat} {sc : Scope} {ρ : List Str}
/-! ### a tuple's or a list's places to names -/
def aTupX (ns : List Int) (is : List Nat) : WA := fun v sl H K => match v with
  | .tup vs => vs.length = is.length ∧ K (setAll is vs sl) H
  | v => match asL ns H v with | some vs => vs.length = is.length ∧ K (setAll is vs sl) H | none => False
def wSetTX (ns : List Int) (is : List Nat) (a : WE) : WS := fun sl H Q => a sl H fun v H' => aTupX ns is v sl H' fun sl' H'' => Q .next sl' H''
/-! ### sorted of a dict's keys -/
end
end Mine

namespace Mine
/-! TypeInfo: an instance is .obj 0 [name, namespace] -/
def gName : WF := fun args H Q => match args with | [.obj 0 [a, _]] => Q a H | _ => False
def gNs : WF := fun args H Q => match args with | [.obj 0 [_, a]] => Q a H | _ => False
def mkTI : WF := fun args H Q => match args with | [a, b] => Q (.obj 0 [b, a]) H | _ => False
theorem e_gName {a b H Q} : gName [.obj 0 [a, b]] H Q = Q a H := propext Iff.rfl
theorem e_gNs {a b H Q} : gNs [.obj 0 [a, b]] H Q = Q b H := propext Iff.rfl
theorem e_mkTI {a b H Q} : mkTI [a, b] H Q = Q (.obj 0 [b, a]) H := propext Iff.rfl
end Mine

namespace Mine
/-! ### a getter of a slot -/
def slotIs (c : Cx) (H : HW) (i : Nat) (v : V) (Q : V → HW → Prop) : Prop := match slotV c H i v with | some u => Q u H | none => False
theorem slotIs_def {c H i v Q} : slotIs c H i v Q = (match slotV c H i v with | some u => Q u H | none => False) := rfl
def gSlot (c : Cx) (k i : Nat) : WF := fun args H Q => match args with | [v] => clsV c H v = some k ∧ slotIs c H i v Q | _ => False
theorem gSlot_of {c k i args H Q} (h : gSlot c k i args H Q) : ∃ v, args = [v] ∧ clsV c H v = some k ∧ slotIs c H i v Q := by
  unfold gSlot at h
  split at h
  · exact ⟨_, rfl, h⟩
  · exact h.elim
theorem e_gSlotO {c k i fs u H Q} (h : fs[i]? = some u) : gSlot c k i [.obj k fs] H Q = Q u H := by
  refine propext ⟨fun x => ?_, fun x => ⟨rfl, ?_⟩⟩
  · have := x.2
    unfold slotIs at this
    simpa [slotV, h] using this
  · unfold slotIs
    simpa [slotV, h] using x
theorem e_gSlotO0 {c k a b H Q} : gSlot c k 0 [.obj k [a, b]] H Q = Q a H := e_gSlotO rfl
theorem e_gSlotO1 {c k a b H Q} : gSlot c k 1 [.obj k [a, b]] H Q = Q b H := e_gSlotO rfl
theorem e_gSlot1 {c k a H Q} : gSlot c k 0 [.obj k [a]] H Q = Q a H := e_gSlotO rfl
theorem e_gSlotL {c k i j fs u H Q} (h : H[j]? = some (.inst k fs)) (hu : (fs[i]?).join = some u) : gSlot c k i [.loc j] H Q = Q u H := by
  refine propext ⟨fun x => ?_, fun x => ⟨?_, ?_⟩⟩
  · have := x.2
    unfold slotIs at this
    simpa [slotV, h, hu] using this
  · simp [clsV, h]
  · unfold slotIs
    simpa [slotV, h, hu] using x
/-- a method that gives back a global object, whatever its arguments -/
def kGlob (n : Nat) (a : Addr) : WF := fun args H Q => args.length = n ∧ Q (.glob a) H
/-! ### what is kept from a place on -/
structure KeepB (B : Nat) (H H' : HW) : Prop where
  len : H.length ≤ H'.length
  at_ : ∀ (k : Nat) o, B ≤ k → H[k]? = some o → H'[k]? = some o
theorem KeepB.refl (B H) : KeepB B H H := ⟨Nat.le_refl _, fun _ _ _ e => e⟩
theorem KeepB.trans {B H H' H''} (x : KeepB B H H') (y : KeepB B H' H'') : KeepB B H H'' := ⟨Nat.le_trans x.len y.len, fun k o h e => y.at_ k o h (x.at_ k o h e)⟩
theorem KeepB.app {B H L} : KeepB B H (H ++ L) := ⟨by simp, fun k o _ e => by rw [List.getElem?_append_left (List.getElem?_eq_some_iff.mp e).1]; exact e⟩
theorem KeepB.set {B H j o} (h : j < B) : KeepB B H (H.set j o) := ⟨by simp, fun k o' hk e => by rw [List.getElem?_set_ne (by omega)]; exact e⟩
theorem KeepB.lst {B H H'} (x : KeepB B H H') {k xs} (h : B ≤ k) (e : lstAt H k = some xs) : lstAt H' k = some xs := by
  unfold lstAt; rw [x.at_ k _ h (lstAt_of e)]
end Mine

namespace Mine
section
variable {sl : Sl} {H : HW} {c : Cx} {ns : List Int}
def idxV (ns : List Int) (v w : V) (H : HW) (Q : V → HW → Prop) : Prop := match asD H v with
  | some kvs => (match w with | .int k => (match dGet kvs k with | some u => Q u H | none => False) | _ => False)
  | none => match asL ns H v, w with
    | some xs, .int k => xs.length ≤ 1000000 ∧ (match getI xs k with | some u => Q u H | none => False)
    | _, _ => False
theorem e_idxX {a b Q} : wIdxX ns a b sl H Q = a sl H (fun v H₁ => b sl H₁ fun w H₂ => idxV ns v w H₂ Q) := propext Iff.rfl
theorem asD_lst {k xs} (h : lstAt H k = some xs) : asD H (.loc k) = none := by simp only [asD, lstAt_of h]
theorem e_idxL {k xs i Q} (h : lstAt H k = some xs) : idxV ns (.loc k) (.int i) H Q = (xs.length ≤ 1000000 ∧ (match getI xs i with | some u => Q u H | none => False)) := by
  unfold idxV; rw [asD_lst h, asL_loc, h]
theorem idx_lst {k xs i u} {Q : V → HW → Prop} (h : lstAt H k = some xs) (hl : xs.length ≤ 1000000) (hg : getI xs i = some u) (q : Q u H) : idxV ns (.loc k) (.int i) H Q := by
  rw [e_idxL h, hg]; exact ⟨hl, q⟩
theorem idx_nat {k xs u} {i : Nat} {Q : V → HW → Prop} (h : lstAt H k = some xs) (hl : xs.length ≤ 1000000) (hg : xs[i]? = some u) (q : Q u H) : idxV ns (.loc k) (.int (i : Int)) H Q := idx_lst h hl (by rw [getI_nat]; exact hg) q
theorem idx_last {k xs u} {Q : V → HW → Prop} (h : lstAt H k = some xs) (hl : xs.length ≤ 1000000) (hg : xs.getLast? = some u) (q : Q u H) : idxV ns (.loc k) (.int (-1)) H Q := by
  refine idx_lst h hl ?_ q
  have hn : xs.length ≠ 0 := fun e => by rw [List.length_eq_zero_iff] at e; subst e; simp at hg
  unfold getI
  rw [if_neg (by decide), if_pos (by omega), ← hg, List.getLast?_eq_getElem?]
  congr 1
  omega
theorem e_setI {a b e Q} : wSetI a b e sl H Q = e sl H (fun u H₁ => a sl H₁ fun v H₂ => b sl H₂ fun w H₃ => stV v w u H₃ fun H' => Q .next sl H') := propext Iff.rfl
theorem e_setTX {is a Q} : wSetTX ns is a sl H Q = a sl H (fun v H' => aTupX ns is v sl H' fun sl' H'' => Q .next sl' H'') := propext Iff.rfl
theorem e_aTupXT {is vs K} : aTupX ns is (.tup vs) sl H K = (vs.length = is.length ∧ K (setAll is vs sl) H) := propext Iff.rfl
theorem e_dict0 {Q} : wDict0 sl H Q = Q (.loc H.length) (H ++ [.dict []]) := propext Iff.rfl
theorem e_kGlob2 {n a x y Q} : kGlob n a [x, y] H Q = (2 = n ∧ Q (.glob a) H) := propext Iff.rfl
theorem e_kGlob3 {n a x y z Q} : kGlob n a [x, y, z] H Q = (3 = n ∧ Q (.glob a) H) := propext Iff.rfl
theorem e_lenS {Q} : bLen ns [.script] H Q = (ns.length ≤ 1000000 ∧ Q (.int ns.length) H) := by
  show (match asL ns H .script with | some xs => xs.length ≤ 1000000 ∧ Q (.int xs.length) H | none => False) = _
  rw [asL_scr]; simp
end
/-! ### what is kept at the places that a law protects -/
structure KeepP (P : Nat → Prop) (H H' : HW) : Prop where
  len : H.length ≤ H'.length
  at_ : ∀ (k : Nat) o, P k → H[k]? = some o → H'[k]? = some o
theorem KeepP.refl (P H) : KeepP P H H := ⟨Nat.le_refl _, fun _ _ _ e => e⟩
theorem KeepP.trans {P H H' H''} (x : KeepP P H H') (y : KeepP P H' H'') : KeepP P H H'' := ⟨Nat.le_trans x.len y.len, fun k o h e => y.at_ k o h (x.at_ k o h e)⟩
theorem Ext.keepP {P H H'} (x : Ext H H') : KeepP P H H' := by
  obtain ⟨L, rfl⟩ := x
  exact ⟨by simp, fun k o _ e => by rw [List.getElem?_append_left (List.getElem?_eq_some_iff.mp e).1]; exact e⟩
theorem KeepP.set {P H j o} (h : ¬ P j) : KeepP P H (H.set j o) := ⟨by simp, fun k o' hk e => by rw [List.getElem?_set_ne (fun q => h (by rw [q]; exact hk))]; exact e⟩
theorem KeepP.lst {P H H'} (x : KeepP P H H') {k xs} (h : P k) (e : lstAt H k = some xs) : lstAt H' k = some xs := by
  unfold lstAt; rw [x.at_ k _ h (lstAt_of e)]
theorem Ext.len {H H'} (x : Ext H H') : H.length ≤ H'.length := by obtain ⟨L, rfl⟩ := x; simp
end Mine

namespace Mine
open PySem.Calls PySem.Builtin PySem.Builtin.ObjectAttr PySem.Builtin.Getset_descriptor
/-! ### a slot that was never filled -/
theorem entry_tq : entryFor table "type.__qualname__" = some Builtin.«type.__qualname__» := entryFor_of_fast (by kernel_rfl)
theorem entry_tm : entryFor table "type.__module__" = some Builtin.«type.__module__» := entryFor_of_fast (by kernel_rfl)
structure NewAE (h h' : Heap) (e : Addr) : Prop where
  keeps : ∀ b ob, h.get? b = some ob → h'.get? b = some ob
  new : h.get? e = none
  there : ∃ t, h'.get? e = some { cls := .type "AttributeError", data := .fields #[t, .none, .none, .none, .bool false, .none, unsetMember, unsetMember] }
section
variable {prog : Program} {w : World} {A : Around} {E : Value → Shared → Prop} {s : Shared} {α : Type}
theorem raise_ae {msg : String} {Q : α → Shared → Prop} (hh : A.handled = none) (hm : (msg : Str).length ≤ sizeLine)
    (h : ∀ h' tk e, NewAE s.heap h' e → E (.ref e) { s with heap := h', toks := tk }) : wpAny (model prog w) A (raiseErrorMade "AttributeError" msg : Sem α) Q E s := by
  unfold raiseErrorMade
  refine wpAny_bind (wpAny_mkStr (wpAny_bind ?_) hm)
  unfold newExc newTuple
  refine wpAny_bind (wpAny_newObj_type ?_)
  refine wpAny_bind (m := firstArgMember _ _) (wpAny_of_eq (a := Value.none) (by simp only [firstArgMember, attrError_no_first]; rfl) ?_)
  rw [ownMembersOf_AttributeError]
  refine wpAny_newObj_type ?_
  exact wpAny_raiseNew_none hh (h _ _ _ ⟨fun b o hb => Heap.get?_push_of_some _ (Heap.get?_push_of_some _ hb), Heap.get?_none_of_le (by simp), _, Heap.get?_push_size _ rfl⟩)
end
section
variable {prog : Program} {w : World} {A : Around} {s : Shared} {K : Frag} {x C p : Addr} {R : Result → Shared → Prop}
def aeMsg (q m n : Str) : String := toString "'" ++ toString (if m == ("builtins" : Str) || m == ("__main__" : Str) then q.toString else m.toString ++ "." ++ q.toString) ++ toString "' object has no attribute '" ++ toString n.toString ++ toString "'"
def strIn (K : Frag) (a : Addr) (x : Str) : Option Str := match nsIn K a x with | some (some (.str m _)) => some m | _ => none
theorem slot_unset {ox : Obj} {od : Option Obj} {tp : Value} {i : Nat} {oc : Obj} {q m n : Str} {tq tn : Tok} {rest : List Value} (X : K.In s.heap) (I : InstAt s.heap x ox C od) (hp : slotIn K p C = some i) (hv : (ox.slots[i]?).join = none) (hh : A.handled = none)
    (hc : K.lookup C = some oc) (hq : (oc.slots[3]?).join = some (.str q tq)) (hm : ((clsIn K C).bind fun cd => strIn K cd.ns "__module__") = some m) (hr : recIn K p "member_descriptor" = some (.str n tn :: rest)) (hl : (aeMsg q m n : Str).length ≤ sizeLine)
    (h : ∀ h' tk e, NewAE s.heap h' e → R (.error (.ref e)) { s with heap := h', toks := tk }) : codeAny (model prog w) A (.call (.builtin "member_descriptor.__get__") ⟨[.ref p, .ref x, tp], []⟩) R s := by
  obtain ⟨n', tn', owner, behind, tb, d, sl, cd, ho, hc', hm', hb, rfl⟩ := slot_of X hp
  have en : n' = n ∧ tn' = tn := by
    obtain ⟨d2, sl2, ho2⟩ := rec_of X hr
    rw [ho] at ho2
    simp at ho2
    exact ⟨ho2.2.1.1.1, ho2.2.1.1.2⟩
  obtain ⟨rfl, rfl⟩ := en
  obtain ⟨hh', g, dr, t, os⟩ := s
  have L0 := I.type (M := model prog w)
  have L1 := looks_mroIn (M := model prog w) X hm'
  have L2 : Looks (model prog w) hh' (PySem.Builtin.Slots.slotNamesOf (.ref C)) cd.slotNames := (looks_clsIn X hc').andThen .now
  have hx := I.at_
  dsimp only at ho hx L0 L1
  have f0 := looks_field (M := model prog w) ho 0 (v := .str n' tn') rfl
  have f1 := looks_field (M := model prog w) ho 1 (v := owner) rfl
  have f2 := looks_field (M := model prog w) ho 2 (v := .builtin "proto.slot") rfl
  have f4 := looks_field (M := model prog w) ho 4 (v := .int behind tb) rfl
  refine codeAny_call_builtin KF.slot_mem.plain KF.entry_mem (KF.slot_mem.check _ _ _ _ _ _ _ _ ⟨_, ho, rfl⟩ (KF.args_mem _ _ _) ?_)
  unfold Builtin.«member_descriptor.__get__» descrGet
  rw [dga_obj]
  refine wpAny_bind (wpAny_pure ?_)
  unfold descrGetter descrCheckInstance descrNameAndClass isInstance
  repeat lk
  refine ⟨Code.quiet_builtin _ (by decide +kernel), codeAny_builtin KF.entry_slot ?_⟩
  unfold Builtin.«proto.slot» PySem.Builtin.Slots.target
  repeat lk
  rw [if_neg hb]
  repeat lk
  rw [hv]
  show wpAny _ _ (do
      rule "slots.get.unset"
      let o ← (do
        let t ← typeOf (Value.ref x)
        let some q ← asStr? (← runValue (.builtin "type.__qualname__" ⟨[t], []⟩)) | unsupported "internal:proto.slot:qualname"
        match ← asStr? (← runValue (.builtin "type.__module__" ⟨[t], []⟩)) with
        | some m => return if m == "builtins" || m == "__main__" then q.toString else m.toString ++ "." ++ q.toString
        | none => return q.toString)
      raiseErrorMade "AttributeError" _) _ _ _
  rw [Around.under_plainId (by decide +kernel) _]
  refine wpAny_bind (wpAny_rule (wpAny_bind (wpAny_bind (L0.at (wpAny_bind ?_)))))
  have hC : hh'.get? C = some oc := X _ _ hc
  refine wpAny_runValue (codeAny_builtin entry_tq ?_)
  rw [Around.under_plainId (by decide +kernel) _]
  unfold Builtin.«type.__qualname__» keptObject slotAt
  refine wpAny_bind (wpAny_bind (wpAny_load hC (wpAny_pure ?_)))
  rw [hq]
  refine wpAny_pure ?_
  refine wpAny_bind (wpAny_pure ?_)
  obtain ⟨tm, hmod⟩ : ∃ tm, nsIn K cd.ns "__module__" = some (some (.str m tm)) := by
    rw [hc'] at hm
    simp only [Option.bind_some, strIn] at hm
    split at hm
    · rename_i m' tm e
      cases hm
      exact ⟨tm, e⟩
    · cases hm
  have L3 := looks_clsIn (M := model prog w) X hc'
  have L4 := looks_nsIn (M := model prog w) X hmod
  refine wpAny_bind (wpAny_runValue (codeAny_builtin entry_tm ?_))
  rw [Around.under_plainId (by decide +kernel) _]
  unfold Builtin.«type.__module__»
  refine wpAny_bind (L3.at (wpAny_bind (L4.at ?_)))
  refine wpAny_pure ?_
  refine wpAny_bind (wpAny_pure (wpAny_pure ?_))
  exact raise_ae hh hl fun h' tk e x => h h' tk e x
theorem note_ae {prog : Program} {w : World} {A : Around} {E : Value → Shared → Prop} {s : Shared} {h₀ : Heap} {e x : Addr} {name : Str} {u : Tok} {Q : Unit → Shared → Prop} (hx : NewAE h₀ s.heap e)
    (h : ∀ h' tk, Heap.NewAttrErr h₀ h' e (.ref x) name → Q () { s with heap := h', toks := tk }) : wpAny (model prog w) A (noteIf true (.ref x) (.str name u) (.ref e)) Q E s := by
  obtain ⟨t, he⟩ := hx.there
  obtain ⟨hp, g, d, tk, os⟩ := s
  dsimp only at he
  have f1 := sub_AttributeError
  unfold noteIf noteAttr lacksNameAndObj
  repeat (any_goals (first | assumption | wp_step))
  refine h _ tk ⟨fun b ob hb => ?_, hx.new, t, u, Heap.get?_update_self _ he rfl⟩
  refine (Heap.get?_update_other _ _ fun q => ?_).trans (hx.keeps b ob hb)
  rw [← q, hx.new] at hb; cases hb
theorem attr_unset {E : Value → Shared → Prop} {Q : Value → Shared → Prop} {ox : Obj} {od : Obj} {i : Nat} {oc : Obj} {q m n name : Str} {tq tn : Tok} {rest : List Value} {expr : Bool} (X : K.In s.heap) (I : InstAt s.heap x ox C (some od)) (hh : A.handled = none)
    (hg : plainGet K C name = true) (hcl : isClsIn K C = true)
    (ha : findIn K (.ref C) name = some (some (.ref p))) (hn : specialIn K (.ref p) "__get__" = some (some (.builtin "member_descriptor.__get__"))) (ht : takesIn K (.ref p) = some true) (hp : slotIn K p C = some i)
    (hv : (ox.slots[i]?).join = none)
    (hc : K.lookup C = some oc) (hq : (oc.slots[3]?).join = some (.str q tq)) (hm : ((clsIn K C).bind fun cd => strIn K cd.ns "__module__") = some m) (hr : recIn K p "member_descriptor" = some (.str n tn :: rest)) (hl : (aeMsg q m n : Str).length ≤ sizeLine)
    (h : ∀ h' tk e, Heap.NewAttrErr s.heap h' e (.ref x) name → E (.ref e) { s with heap := h', toks := tk }) : wpAny (model prog w) A (getAttr (.ref x) name expr) Q E s := by
  refine get_bind X I (plainGet_of hg).1 (findObj_data hcl ha hn ht) (plainGet_of hg).2 (wpAny_call (slot_unset (s := { s with toks := s.toks + 1 }) X I hp hv hh hc hq hm hr hl fun h' tk e y => ?_))
  exact note_ae y fun h'' tk' z => h h'' tk' e z
end
end Mine

namespace Mine
/-! ### a caught exception: the frames on the stack may get other slots -/
/-- the heap without one object -/
def sansL (h : Heap) (L : Addr) : Heap := h.update L fun o => { o with data := .freed }
theorem sans_self (h : Heap) (L : Addr) : (sansL h L).get? L = none := by
  cases q : (sansL h L).get? L with
  | none => rfl
  | some o =>
    obtain ⟨h1, h2⟩ := Heap.get?_some_iff.mp q
    unfold sansL Heap.update at h1
    have : o.isFreed = true := by
      rw [show (h.objs.modify L fun o => { o with data := .freed })[L]? = (h.objs[L]?).map (fun o => { o with data := .freed }) by rw [Array.getElem?_modify, if_pos rfl]] at h1
      obtain ⟨o', _, rfl⟩ := Option.map_eq_some_iff.mp h1
      rfl
    rw [this] at h2; cases h2
theorem sans_other {h : Heap} {L b : Addr} (n : b ≠ L) : (sansL h L).get? b = h.get? b := Heap.get?_update_other _ _ (Ne.symm n)
section
variable {M : Model} {A : Around} {E : Value → Shared → Prop} {s : Shared}
/-- the frame where the exception is caught is noted -/
theorem note_next {base : Heap} {env : Env} {outer : List Env} {L e : Addr} {cls : Value} {Q : Unit → Shared → Prop}
    (hfr : A.frames = some (env :: outer)) (hl : s.heap.FunFrames base (env :: outer)) (hf : env.frame = some L) (ht : s.heap.Traced base e cls) (hkb : base.StaysIn s.heap) (hen : base.get? e = none)
    (h : ∀ h', Heap.Left base (env :: outer) e cls s.heap h' → Q () { s with heap := h' }) : wpAny M A (noteFrame (.ref e) env) (fun _ s₂ => wpAny M A (setFlight (.ref e) none) Q E s₂) E s := by
  obtain ⟨oe, vs, T, oT, ts, he, hcls, hd, h1, hnT, hTe, hT, hdT, h3⟩ := ht
  subst hcls
  unfold noteFrame
  simp only [hf]
  refine wpAny_bind (wpAny_field he hd h1 ?_)
  rw [if_pos (show (Value.ref T != Value.none) = true from by simp)]
  refine wpAny_bind (wpAny_field hT hdT h3 ?_)
  rw [if_neg (show ¬ ((Value.none == rawInt L) = true) from by simp [rawInt])]
  refine wpAny_bind (wpAny_setField hT hdT (Array.getElem?_eq_some_iff.mp h3).1 ?_)
  have other : ∀ b, b ≠ T → (s.heap.update T (Obj.mapFields (·.setIfInBounds 3 Value.none))).get? b = s.heap.get? b := fun b hb => Heap.get?_update_other _ _ (Ne.symm hb)
  have noRecord : ∀ b o, s.heap.get? b = some o → (∀ vs, o.data ≠ .fields vs) → b ≠ T := fun b o hb hnf q => by
    rw [q, hT] at hb; injection hb with hb; subst hb; exact hnf ts hdT
  refine wpAny_newEntry hfr (hl.of_keeps fun b o hb hnf => ⟨o, (other b (noRecord b o hb hnf)).trans hb, rfl⟩) hf ((other e (Ne.symm hTe)).trans he)
    (fun b o hbo => (other b fun q => by rw [q, hnT] at hbo; cases hbo).trans (hkb b o hbo)) hen hd (Array.getElem?_eq_some_iff.mp h1).1
    fun h' ⟨x1, x2, x3, x4⟩ => h h' ⟨x1, x2, x3, fun b o hb hnf => x4 b o ((other b (noRecord b o hb hnf)).trans hb) hnf⟩
end
theorem inst_keep {h h' : Heap} {x : Addr} {ox : Obj} {C : Addr} {od : Obj} (I : InstAt h x ox C (some od)) (k : ∀ b o, h.get? b = some o → h'.get? b = some o) : InstAt h' x ox C (some od) := by
  obtain ⟨h1, h2, h3, h4⟩ := I
  refine ⟨k _ _ h1, h2, h3, ?_⟩
  cases q : ox.dict with
  | none => rw [q] at h4; exact h4
  | some dx => rw [q] at h4; exact k _ _ h4
theorem sub_AE_Base : isSubtype (.type "AttributeError") (.type "BaseException") = pure true := by rw [isSubtype_type]; kernel_rfl
theorem sub_AE_tuple : isSubtype (.type ((Manifest.find? "AttributeError").elim "type" fun x => x.metatype)) (.type "tuple") = pure false := by rw [isSubtype_type]; kernel_rfl
/-- a def of the text with one parameter -/
structure Fn1 (c : Cx) (f : Addr) (fd : FuncData) (body : List Stmt) (x : Str) : Prop where
  ho : ∃ fo, c.h₀.get? f = some fo ∧ fo.data = .func fd
  code : c.h₀.CodeRec fd.code fd.qualname
  body : fd.body = .stmts body
  clo : fd.closure = []
  bind : ∀ v, bindArgs fd ⟨[v], []⟩ = pure [(x, v)]
  glob : fd.globals = mainGlobals
  bi : fd.builtins = builtinsNs
  co : fd.scope.isCoroutine = false
  gen : fd.scope.isGenerator = false
  kind : fd.scope.kind = .function
  loc : fd.scope.names.lookup x = some .local
section
variable {c : Cx}
theorem Fn1.call {f fd body x} (F : Fn1 c f fd body x) (G : Good c) {A : Around} {s : Shared} {v : Value} {R : Result → Shared → Prop} (hd : A.depth < 1000) (kb : ∀ b o, c.h₀.get? b = some o → s.heap.get? b = some o)
    (h : ∀ s₁, (∀ b o, s.heap.get? b = some o → s₁.heap.get? b = some o) → Rest s s₁ → (∃ m, s₁.heap.Ns s.heap.objs.size m ∧ m x = some v) →
      wpAny (model c.prog c.w) (A.deeper (callEnvC fd s.heap.objs.size f)) (execs body (callEnvC fd s.heap.objs.size f)) (fun fl s' => R (.ok (.ret (match fl with | .ret v => v | _ => .none))) s')
        (fun e s' => wpAny (model c.prog c.w) (A.deeper (callEnvC fd s.heap.objs.size f)) (leaving (callEnvC fd s.heap.objs.size f) e) (fun _ s'' => R (.error e) s'') (fun e' s'' => R (.error e') s'') s') s₁) :
    codeAny (model c.prog c.w) A (.call (.ref f) ⟨[v], []⟩) R s := by
  obtain ⟨fo, ho, hdt⟩ := F.ho
  refine codeAny_call_cells hd (kb _ _ ho) hdt (G.NL.keeps kb) (F.code.keeps kb) F.body (F.bind v) F.clo (fun y hy => ?_) (fun s₁ x₁ => ?_) F.co F.gen F.kind
  · rw [List.mem_singleton.mp hy]; exact .inl F.loc
  · obtain ⟨h1, t1, e1, _⟩ := x₁.done
    exact h s₁ x₁.toInCall.keep ⟨h1, t1, e1⟩ ⟨_, x₁.toInCall.ns, bindL_get _ _ (by simp) (.head _) F.loc⟩
/-- the name of the parameter -/
theorem Fn1.name {f fd body x} (F : Fn1 c f fd body x) {A : Around} {E : Value → Shared → Prop} {s : Shared} {L : Addr} {m} {v : Value} {pos : Pos} {Q : Value → Shared → Prop} (hn : s.heap.Ns L m) (hm : m x = some v) (hd : (x == ("__debug__" : Str)) = false) (q : Q v s) :
    wpAny (model c.prog c.w) A (eval (.Name x pos) (callEnvC fd L f)) Q E s :=
  wpAny_Name (wpAny_loadName_local F.kind F.loc hn hm q) hd
theorem refused_call {f1 fd1 f2 fd2} {nx sx : Str} {mname attr : Str} {p1 p2 p3 p4 p5 p6 p7 p8 p9 p10 p11 q1 q2 q3 : Pos} {k1 k2 : Nat}
    (G : Good c)
    (F1 : Fn1 c f1 fd1 [.Try [.Expr (.Call (.Attribute (.Name nx p1) mname p2) [] [] p3) p4] [.ExceptHandler (some (.Name (Str.ofString "AttributeError") p5)) none [.Return (some (.Constant (.bool true) k1 p6)) p7] p8] [] [] p9, .Return (some (.Constant (.bool false) k2 p10)) p11] nx)
    (F2 : Fn1 c f2 fd2 [.Return (some (.Attribute (.Name sx q1) attr q2)) q3] sx)
    (hdx : (nx == ("__debug__" : Str)) = false) (hds : (sx == ("__debug__" : Str)) = false)
    (hga : fd1.scope.names.lookup (Str.ofString "AttributeError") = some .globalImplicit) (hgm : nsIn c.K mainGlobals (Str.ofString "AttributeError") = some none)
    {k : Nat} {pl : Env → Sem Bool} {p : Addr} {i : Nat} {oc : Obj} {q m n : Str} {tq tn : Tok} {rest : List Value}
    (hg1 : plainGet c.K (c.cls k) mname = true) (hm1 : findIn c.K (.ref (c.cls k)) mname = some (some (.ref f2))) (ht1 : isFn c.K (.ref f2) = true) (hkeep : keepIn c.K (.ref f2) = true)
    (he1 : ∀ env, eval (.Call (.Attribute (.Name nx p1) mname p2) [] [] p3) env = (do
      let ov ← eval (.Name nx p1) env
      standAt p2.atName
      let (f, first) ← holding [ov] (getMethod ov mname (pl env))
      callWith p3 f first (backTo p3 (starEach [] env)) (backToKw p3 (keywordEach [] env))))
    (hsw : ∀ env, swapsWith (.Call (.Attribute (.Name nx p1) mname p2) [] [] p3) none p4.line env = pure false)
    (he2 : ∀ env, eval (.Attribute (.Name sx q1) attr q2) env = (eval (.Name sx q1) env >>= fun ov => standAt q2.atName >>= fun _ => holding [ov] (getAttr ov attr true) >>= fun r => pure r))
    (hg2 : plainGet c.K (c.cls k) attr = true) (hcl : isClsIn c.K (c.cls k) = true)
    (ha : findIn c.K (.ref (c.cls k)) attr = some (some (.ref p))) (hn : specialIn c.K (.ref p) "__get__" = some (some (.builtin "member_descriptor.__get__"))) (ht : takesIn c.K (.ref p) = some true) (hp : slotIn c.K p (c.cls k) = some i)
    (hc : c.K.lookup (c.cls k) = some oc) (hq : (oc.slots[3]?).join = some (.str q tq)) (hm : ((clsIn c.K (c.cls k)).bind fun cd => strIn c.K cd.ns "__module__") = some m) (hr : recIn c.K p "member_descriptor" = some (.str n tn :: rest)) (hl : (aeMsg q m n : Str).length ≤ sizeLine)
    {A : Around} {s : Shared} {x L0 : Addr} {ox o0 : Obj} {env0 : Env} {R : Result → Shared → Prop}
    (hd : A.depth < 900) (hh : A.handled = none) (hfr : A.frames = some [env0]) (hk0 : env0.scope.kind ≠ .module) (hf0 : env0.frame = some L0) (ho0 : s.heap.get? L0 = some o0) (hd0 : ∀ vs, o0.data ≠ .fields vs) (hn0 : c.h₀.get? L0 = none)
    (kb : ∀ b o, c.h₀.get? b = some o → s.heap.get? b = some o) (I : InstAt s.heap x ox (c.cls k) (some (dictOf [] 0))) (hv : (ox.slots[i]?).join = none)
    (h : ∀ h' t, (∀ b o, b ≠ L0 → s.heap.get? b = some o → h'.get? b = some o) → (∃ sl, h'.get? L0 = some { o0 with slots := sl }) → R (.ok (.ret (.bool true))) { s with heap := h', toks := t }) :
    codeAny (model c.prog c.w) A (.call (.ref f1) ⟨[.ref x], []⟩) R s := by
  refine F1.call G (by omega) kb fun s₁ kp₁ r₁ ns₁ => ?_
  obtain ⟨m₁, n₁, e₁⟩ := ns₁
  have kb₁ : ∀ b o, c.h₀.get? b = some o → s₁.heap.get? b = some o := fun b o e => kp₁ b o (kb b o e)
  refine wpAny_execs_cons (wpAny_Try_except ?_)
  refine wpAny_execs_cons (wpAny_Expr ?_ (by unfold interactive; rw [show (callEnvC fd1 s.heap.objs.size f1).scope.kind = _ from F1.kind]; rfl) (hsw _))
  refine methodCall_KW (pl := pl _) (F1.name n₁ e₁ hdx ?_) (he1 _)
  have I₁ : InstAt s₁.heap x ox (c.cls k) (some (dictOf [] 0)) := inst_keep I kp₁
  refine method_fn (G.X.keeps kb₁) I₁ (plainGet_of hg1).1 (plainGet_of hg1).2 hm1 (beq_iff_eq.mp ht1) rfl ?_
  refine callWith_of (P := fun h => c.K.In h) rfl (keeps_K hkeep) (evalArgs_of rfl (Calls.spliced_nil ⟨G.X.keeps kb₁, ?_⟩))
  refine wpAny_call (F2.call G (by show A.depth + 1 < 1000; omega) kb₁ fun s₂ kp₂ r₂ ns₂ => ?_)
  obtain ⟨m₂, n₂, e₂⟩ := ns₂
  have kb₂ : ∀ b o, c.h₀.get? b = some o → s₂.heap.get? b = some o := fun b o e => kp₂ b o (kb₁ b o e)
  refine wpAny_execs_cons (wpAny_Return_some ?_)
  rw [he2]
  refine wpAny_bind (F2.name n₂ e₂ hds (wpAny_bind (wpAny_standAt (wpAny_bind (wpAny_holding ?_)))))
  have I₂ : InstAt s₂.heap x ox (c.cls k) (some (dictOf [] 0)) := inst_keep I₁ kp₂
  refine attr_unset (G.X.keeps kb₂) I₂ hh hg2 hcl ha hn ht hp hv hc hq hm hr hl fun h₃ tk₃ e xe => ?_
  have nL1 : s.heap.get? s.heap.objs.size = none := new_none _
  have nL2 : s₁.heap.get? s₁.heap.objs.size = none := new_none _
  obtain ⟨o1, es1, ep1, h1o, h1d, _⟩ := n₁
  obtain ⟨o2, es2, ep2, h2o, h2d, _⟩ := n₂
  have bn : ∀ b, s.heap.get? b = none → (sansL s.heap L0).get? b = none := fun b e => by
    by_cases q : b = L0
    · rw [q]; exact sans_self _ _
    · rw [sans_other q]; exact e
  have bs : ∀ b o, (sansL s.heap L0).get? b = some o → s.heap.get? b = some o := fun b o e => by
    by_cases q : b = L0
    · rw [q, sans_self] at e; cases e
    · rw [sans_other q] at e; exact e
  have kp3 : ∀ b o, s.heap.get? b = some o → h₃.get? b = some o := fun b o e => xe.keeps b o (kp₂ b o (kp₁ b o e))
  have none1 : ∀ b, s₁.heap.get? b = none → s.heap.get? b = none := fun b e => by
    cases q : s.heap.get? b with
    | none => rfl
    | some o => rw [kp₁ b o q] at e; cases e
  have none2 : ∀ b, s₂.heap.get? b = none → s.heap.get? b = none := fun b e => none1 b (by
    cases q : s₁.heap.get? b with
    | none => rfl
    | some o => rw [kp₂ b o q] at e; cases e)
  have hkb : (sansL s.heap L0).StaysIn h₃ := fun b o e => kp3 b o (bs b o e)
  have hen : (sansL s.heap L0).get? e = none := bn _ (none2 _ xe.new)
  have nf : ∀ {o : Obj} {es ep}, o.data = .dict es ep → ∀ vs, o.data ≠ .fields vs := fun e vs q => by rw [e] at q; cases q
  have hl3 : h₃.FunFrames (sansL s.heap L0) [callEnvC fd2 s₁.heap.objs.size f2, callEnvC fd1 s.heap.objs.size f1, env0] := by
    refine ⟨?_, ⟨s₁.heap.objs.size, o2, rfl, bn _ (none1 _ nL2), xe.keeps _ _ h2o, nf h2d⟩, ?_, ⟨s.heap.objs.size, o1, rfl, bn _ nL1, xe.keeps _ _ (kp₂ _ _ h1o), nf h1d⟩, hk0, ⟨L0, o0, hf0, sans_self _ _, kp3 _ _ ho0, hd0⟩, trivial⟩
    · show fd2.scope.kind ≠ .module; rw [F2.kind]; decide
    · show fd1.scope.kind ≠ .module; rw [F1.kind]; decide
  obtain ⟨t3, u3, he3⟩ := xe.there
  have fr1 := Around.frames_deeper (env := callEnvC fd1 s.heap.objs.size f1) hfr
  have fr2 := Around.frames_deeper (env := callEnvC fd2 s₁.heap.objs.size f2) fr1
  refine wpAny_leaving_first (base := sansL s.heap L0) fr2 hl3 rfl he3 hkb hen rfl rfl fun h₄ left₄ => ?_
  obtain ⟨b1, b2, b3, b4⟩ := left₄
  refine note_next (base := sansL s.heap L0) fr1 b2.2.2 rfl b3 b1 hen fun h₅ left₅ => ?_
  obtain ⟨c1, c2, c3, c4⟩ := left₅
  have kp5 : ∀ b o, b ≠ L0 → s.heap.get? b = some o → h₅.get? b = some o := fun b o n e => c1 b o ((sans_other n).trans e)
  have kb₅ : ∀ b o, c.h₀.get? b = some o → h₅.get? b = some o := fun b o e => kp5 b o (fun q => by rw [q, hn0] at e; cases e) (kb b o e)
  obtain ⟨oe, vs, T, oT, ts, he5, hcls5, hd5, hv5, hnT, hTe, hT, hdT, hts⟩ := c3
  refine wpAny_handleBy_builtin (X := "AttributeError") (T := "AttributeError") (b := true) sub_AE_Base sub_AE_tuple sub_AttributeError ?_
  refine Calls.Name_function_global F1.kind hga (Calls.loadGlobal_builtin (by rw [show (callEnvC fd1 s.heap.objs.size f1).globals = mainGlobals from F1.glob]; exact G.G.keeps kb₅) (mgNo G hgm) (by rw [show (callEnvC fd1 s.heap.objs.size f1).builtins = builtinsNs from F1.bi]; exact G.B.keeps kb₅) ((G.BB _ (by decide)).trans (by kernel_rfl)) ⟨rfl, ⟨oe, he5, hcls5⟩, ?_⟩) (by decide)
  rw [if_pos rfl]
  have hsz : 3 < ts.size := (Array.getElem?_eq_some_iff.mp hts).1
  refine wpAny_setFlight_none he5 hd5 hv5 hT hdT hsz ?_
  refine wpAny_execs_cons (wpAny_Return_some (wpAny_pure ?_))
  obtain ⟨sl4, e4⟩ := b4 L0 o0 (kp3 _ _ ho0) hd0
  obtain ⟨sl5, e5⟩ := c4 L0 _ e4 hd0
  obtain ⟨g1, t1, rfl⟩ := r₁
  obtain ⟨g2, t2, rfl⟩ := r₂
  refine h (h₅.update T (Obj.mapFields (·.setIfInBounds 3 .none))) tk₃ (fun b o n e => ?_) ⟨sl5, ?_⟩
  · refine (Heap.get?_update_other _ _ fun q => ?_).trans (kp5 b o n e)
    have := hnT
    rw [q, sans_other n, e] at this; cases this
  · refine (Heap.get?_update_other _ _ fun q => ?_).trans e5
    rw [q, e5] at hT
    cases hT
    exact hd0 ts hdT
end
end Mine

namespace Mine
section
variable {c : Cx} {d : Nat} {sc : Scope} {ρ : List Str}
/-! ### the frame's own object with other slots -/
theorem Vars.sl {φ h env sl h'} (v : Vars c ρ φ h env sl) (k : ∀ b o, b ≠ env.locals → h.get? b = some o → h'.get? b = some o) (hL : ∀ o, h.get? env.locals = some o → ∃ s, h'.get? env.locals = some { o with slots := s }) : Vars c ρ φ h' env sl := by
  obtain ⟨m, hn, hm⟩ := v.loc
  obtain ⟨o, es, ep, ho, hd, r⟩ := id hn
  obtain ⟨ss, hs⟩ := hL o ho
  have kz : ∀ b o, b ∈ φ.z → h.get? b = some o → h'.get? b = some o := fun b o z e => k b o (fun q => v.offZ (q ▸ z)) e
  have nc : ∀ a y, h.IsCell a y → a ≠ env.locals := fun a y hc q => by
    obtain ⟨o', ho', hd'⟩ := hc
    rw [q, ho] at ho'; cases ho'; rw [hd] at hd'; cases hd'
  refine ⟨v.nd, v.len, v.offL, v.offZ, v.newL, ⟨m, ⟨_, es, ep, hs, hd, r⟩, fun i x w h1 h2 h3 => ?_⟩, fun x a e => ?_, v.inj, fun i x w h1 h2 h3 => ?_, v.has⟩
  · obtain ⟨y, h4, h5⟩ := hm i x w h1 h2 h3
    exact ⟨y, h4, h5.keep kz⟩
  · obtain ⟨n, z, n0, y, hc⟩ := v.offC x a e
    obtain ⟨o', ho', hd'⟩ := id hc
    exact ⟨n, z, n0, y, o', k _ _ (nc a y hc) ho', hd'⟩
  · obtain ⟨a, y, h4, hc, h6⟩ := v.cel i x w h1 h2 h3
    obtain ⟨o', ho', hd'⟩ := id hc
    exact ⟨a, y, h4, ⟨o', k _ _ (nc a _ hc) ho', hd'⟩, h6.keep kz⟩
/-- statements of the first frame -/
def Ex1 (c : Cx) (d : Nat) (sc : Scope) (ρ : List Str) (e : Stmt) (W : WS) : Prop :=
  ∀ env A E s φ sl H Q, A.frames = some [env] → env.frame = some env.locals → EnvOK sc env → AOK d A → Ok c φ H s.heap → Vars c ρ φ s.heap env sl → W sl H Q → wpAny (model c.prog c.w) A (exec e env) (PostS c ρ env φ s Q) E s
def Exs1 (c : Cx) (d : Nat) (sc : Scope) (ρ : List Str) (e : List Stmt) (W : WS) : Prop :=
  ∀ env A E s φ sl H Q, A.frames = some [env] → env.frame = some env.locals → EnvOK sc env → AOK d A → Ok c φ H s.heap → Vars c ρ φ s.heap env sl → W sl H Q → wpAny (model c.prog c.w) A (execs e env) (PostS c ρ env φ s Q) E s
theorem ex1_of {e W} (h : Ex c d sc ρ e W) : Ex1 c d sc ρ e W := fun env A E s φ sl H Q _ _ eo ao ok vs w => h env A E s φ sl H Q eo ao ok vs w
theorem exs1_of {e W} (h : Exs c d sc ρ e W) : Exs1 c d sc ρ e W := fun env A E s φ sl H Q _ _ eo ao ok vs w => h env A E s φ sl H Q eo ao ok vs w
theorem exs1_cons {e es a b} (he : Ex1 c d sc ρ e a) (hes : Exs1 c d sc ρ es b) : Exs1 c d sc ρ (e :: es) (wSeq a b) := by
  intro env A E s φ sl H Q hf hg eo ao ok vs w
  refine wpAny_execs_cons (wpAny_mono (he env A E s φ sl H _ hf hg eo ao ok vs w) (fun f s₁ p₁ => ?_) fun _ _ e => e)
  obtain ⟨F, sl₁, H₁, φ₁, w₁, ok₁, vs₁, rf, g₁, r₁⟩ := p₁
  cases F with
  | next =>
    cases f with
    | next => exact wpAny_mono (hes env A E s₁ φ₁ sl₁ H₁ Q hf hg eo ao ok₁ vs₁ w₁) (fun f s₂ p₂ => p₂.shift g₁ r₁) fun _ _ e => e
    | _ => exact rf.elim
  | ret v =>
    cases f with
    | ret x => exact ⟨.ret v, sl₁, H₁, φ₁, w₁, ok₁, vs₁, rf, g₁, r₁⟩
    | _ => exact rf.elim
def RefusedOK (c : Cx) (f : Addr) : Prop :=
  ∀ (A : Around) (s : Shared) (x L0 : Addr) (ox o0 : Obj) (env0 : Env) (R : Result → Shared → Prop), A.depth < 900 → A.handled = none → A.frames = some [env0] → env0.scope.kind ≠ .module → env0.frame = some L0 → s.heap.get? L0 = some o0 → (∀ vs, o0.data ≠ .fields vs) → c.h₀.get? L0 = none →
    (∀ b o, c.h₀.get? b = some o → s.heap.get? b = some o) → InstAt s.heap x ox (c.cls 0) (some (dictOf [] 0)) → (∀ i : Nat, (ox.slots[i]?).join = none) →
    (∀ h' t, (∀ b o, b ≠ L0 → s.heap.get? b = some o → h'.get? b = some o) → (∃ sl, h'.get? L0 = some { o0 with slots := sl }) → R (.ok (.ret (.bool true))) { s with heap := h', toks := t }) →
    codeAny (model c.prog c.w) A (.call (.ref f) ⟨[.ref x], []⟩) R s
def wRefused (i : Nat) : WS := fun sl H Q => ∃ (k : Nat) (js : List Nat), sl[i]? = some (some (.loc k)) ∧ lstAt H k = some (js.map .loc) ∧ js.length ≤ 1000 ∧ (∀ j ∈ js, H[j]? = some (.inst 0 [])) ∧ Q .next sl (H ++ [.list []] ++ [.list []])
theorem bare_inst {φ H h} {j : Nat} {x} (ok : Ok c φ H h) (r : RepV c φ h (.loc j) x) (e : H[j]? = some (.inst 0 [])) : ∃ a ox, x = .ref a ∧ InstAt h a ox (c.cls 0) (some (dictOf [] 0)) ∧ ∀ i : Nat, (ox.slots[i]?).join = none := by
  cases r with
  | loc hj =>
    obtain ⟨o, h1, h2⟩ := ok.objs j _ _ hj e
    cases h2 with
    | inst r z n y eb => exact ⟨_, _, rfl, ⟨h1, rfl, rfl, eb⟩, fun i => z i (by simp)⟩
theorem ex_refused {f : Addr} {nm x : Str} {i : Nat} {iter : Expr} {ep xp np ap cp tp lp cmp rp fp ip pos : Pos} {scope : Scope} {kf : Nat} (G : Good c) (RO : RefusedOK c f) (S : CSc sc scope x [] [] ρ)
    (hIt : Ei c d sc ρ iter (iList c.ns (wVar i))) (hs : ∀ env x, foldedSetIterable iter env x = pure x)
    (hnm : (relS scope sc).names.lookup nm = some .globalImplicit) (hv : nsIn c.K mainGlobals nm = some (some (.ref f))) (hkeep : keepIn c.K (.ref f) = true) (hdn : (nm == ("__debug__" : Str)) = false) (hdx : (x == ("__debug__" : Str)) = false)
    (hst : ∀ env, starEach [.Name x ap] env = [(false, eval (.Name x ap) env)])
    (htv : ∀ env whole, isTrue (.Call (.Name nm np) [.Name x ap] [] cp) env whole = (do let v ← whole; standAt (Expr.pos (.Call (.Name nm np) [.Name x ap] [] cp)); holding [v] (truthy v))) :
    Ex1 c d sc ρ (.If (.Compare (.ListComp (.Name x ep) [⟨.Name x xp, iter, [.UnaryOp .Not (.Call (.Name nm np) [.Name x ap] [] cp) tp], 0⟩] scope pos) [.NotEq] [.List [] lp] cmp) [.Return (some (.Constant (.bool false) kf fp)) rp] [] ip) (wRefused i) := by
  intro env A E s φ sl H Q hfr hfe eo ao ok vs w
  obtain ⟨k, js, hk, hl, hlen, hj, q⟩ := w
  obtain ⟨m0, n0, hm0⟩ := id vs.loc
  obtain ⟨o0, es0, ep0, ho0, hd0, hr0⟩ := id n0
  refine wpAny_If (wpAny_isTrue_Compare1 ?_ (by with_unfolding_all rfl))
  rw [eval_ListComp]
  show wpAny _ _ (comprehension _ scope env _ (newList []) false (eval iter env)) _ _ _
  refine wpAny_comprehension_free rfl (hs env) (closureFor_eq (S.closed eo vs)) S.kind S.names ?_
  refine wpAny_mono (hIt env A _ s φ sl H (fun kk H₁ => kk = .list (.loc k) (js.map .loc) ∧ H₁ = H) eo ao ok vs ?_) (fun xv s₁ p₁ => wpAny_mono p₁ (fun it s₂ p₂ => ?_) fun _ _ e => e) fun _ _ e => e
  · rw [e_iList, e_var, hk]
    show (match asL c.ns H (.loc k) with | some xs => _ | none => False)
    rw [asL_loc, hl]
    exact ⟨rfl, rfl⟩
  obtain ⟨I, kk, H₂, φ₂, rfl, ⟨rfl, rfl⟩, iv, ia, fI, Il, Iz, ok₂, g₂, r₂⟩ := p₂
  have vs₂ := vs.grow g₂
  refine wpAny_newObj_type (hd := by size_fits) ?_
  have kp₃ : ∀ b o, s₂.heap.get? b = some o → (s₂.heap.push { cls := .type "list", dict := none, data := .seq ([] : List Value).toArray }).get? b = some o := fun b o e => Heap.get?_push_of_some _ e
  have ok₃ := ok₂.keep kp₃
  have g₃ : Grow φ₂ s₂.heap φ₂ (s₂.heap.push { cls := .type "list", dict := none, data := .seq ([] : List Value).toArray }) := .of_keep kp₃
  have fD : s.heap.get? s₂.heap.objs.size = none := g₂.none (new_none _)
  obtain ⟨oI, lI⟩ := ia.live
  refine comp_env (s := { s₂ with heap := s₂.heap.push { cls := .type "list", dict := none, data := .seq ([] : List Value).toArray } }) (R := fun cenv' s₄ => codeAny (model c.prog c.w) A (.compStart (.ListComp (.Name x ep) [⟨.Name x xp, iter, [.UnaryOp .Not (.Call (.Name nm np) [.Name x ap] [] cp) tp], 0⟩] scope pos) 0 (.ref I) (.ref s₂.heap.objs.size) cenv') (compPost _ A E none _ (.ref s₂.heap.objs.size) cenv'.locals) s₄) S eo ok₃ (vs₂.grow g₃) fun cenv s₄ hC eoC fX fY vsC kp₄ r₄ => ?_
  have ok₄ := ok₃.keep kp₄
  have lD : s₄.heap.get? s₂.heap.objs.size = some { cls := .type "list", dict := none, data := .seq ([] : List Value).toArray } := kp₄ _ _ (Heap.get?_push_size _ rfl)
  have sz : cenv.locals = s₂.heap.objs.size + 1 := by rw [hC]; exact Heap.size_push ..
  have nf : ∀ b, (s₂.heap.push { cls := .type "list", dict := none, data := .seq ([] : List Value).toArray }).get? b = none → s.heap.get? b = none := fun b e => (g₂.trans g₃).none e
  have ia₄ : ItAt c A φ₂ s₄.heap I 0 (.list (.loc k) (js.map .loc)) := ia.keep (fun o e => kp₄ _ _ (kp₃ _ _ e)) fun _ _ e => e
  have h02 : s₂.heap.get? env.locals = some o0 := g₂.keep _ _ ho0 vs.offL
  have h04 : s₄.heap.get? env.locals = some o0 := kp₄ _ _ (kp₃ _ _ h02)
  have nIL : I ≠ env.locals := fun e => by rw [e, ho0] at fI; cases fI
  have nDL : s₂.heap.objs.size ≠ env.locals := fun e => by rw [e, ho0] at fD; cases fD
  have fC : s.heap.get? cenv.locals = none := nf _ (by rw [hC]; exact new_none _)
  have nCL : cenv.locals ≠ env.locals := fun e => by rw [e, ho0] at fC; cases fC
  have nIC : I ≠ cenv.locals := fun e => by
    have h1 := Heap.lt_size lI
    rw [e, sz] at h1
    exact absurd h1 (Nat.not_lt.mpr (Nat.le_succ _))
  have nDC : s₂.heap.objs.size ≠ cenv.locals := by rw [sz]; exact Nat.ne_of_lt (Nat.lt_succ_self _)
  have nID : I ≠ s₂.heap.objs.size := Nat.ne_of_lt (Heap.lt_size lI)
  have L2l : env.locals ∉ φ₂.l := g₂.nin vs.offL ho0
  have L2z : env.locals ∉ φ₂.z := g₂.ninz vs.offZ ho0
  have cellNo : ∀ y a, cenv.cells.lookup y = some a → ∀ o, s₄.heap.get? a = some o → ∃ z, o.data = .cell z := fun y a e o eo' => by
    obtain ⟨_, _, _, z, o', ho', hd⟩ := vsC.offC y a e
    rw [ho'] at eo'; cases eo'; exact ⟨z, hd⟩
  have nLc : ∀ y, cenv.cells.lookup y ≠ some env.locals := fun y e => by
    obtain ⟨z, hz⟩ := cellNo y _ e _ h04
    rw [hd0] at hz; cases hz
  have nDc : ∀ y, cenv.cells.lookup y ≠ some s₂.heap.objs.size := fun y e => by
    obtain ⟨z, hz⟩ := cellNo y _ e _ lD
    cases hz
  have nIc : ∀ y, cenv.cells.lookup y ≠ some I := fun y e => by
    rcases fY y I e with h | h
    · obtain ⟨_, _, _, u', o3, ho3, _⟩ := vs.offC y I h
      rw [fI] at ho3; cases ho3
    · have := kp₃ _ _ lI
      rw [show (s₂.heap.push { cls := .type "list", dict := none, data := .seq ([] : List Value).toArray }).get? I = none from h] at this; cases this
  have hxl : (relS scope sc).names.lookup x = some .local := by
    have := lookup_relabel_local (env := env) S.loc
    rw [show (relS scope sc) = relabel scope env from (relabel_eq eo).symm]
    exact this
  have key : ∀ R, codeAny (model c.prog c.w) A (.compLoop (.ListComp (.Name x ep) [⟨.Name x xp, iter, [.UnaryOp .Not (.Call (.Name nm np) [.Name x ap] [] cp) tp], 0⟩] scope pos) 0 (.ref I) (.ref s₂.heap.objs.size) cenv) R s₄ → codeAny (model c.prog c.w) A (.compStart (.ListComp (.Name x ep) [⟨.Name x xp, iter, [.UnaryOp .Not (.Call (.Name nm np) [.Name x ap] [] cp) tp], 0⟩] scope pos) 0 (.ref I) (.ref s₂.heap.objs.size) cenv) R s₄ := fun R loop => codeAny_compStart_list loop (ia₄.self loop)
  refine key _ ?_
  · skip
    refine codeAny_compLoop_tests (fun n s' => ∃ (j : Nat) (u : Option V), j + n = js.length ∧ ItAt c A φ₂ s'.heap I j (.list (.loc k) (js.map .loc)) ∧ Ok c φ₂ H₂ s'.heap ∧ Vars c [x] φ₂ s'.heap cenv [u] ∧ s'.heap.get? s₂.heap.objs.size = some { cls := .type "list", dict := none, data := .seq ([] : List Value).toArray } ∧
      (∀ b o, b ≠ env.locals → b ≠ I → s₂.heap.get? b = some o → s'.heap.get? b = some o) ∧ (∃ sl', s'.heap.get? env.locals = some { o0 with slots := sl' }) ∧ Rest s₂ s') ?_ js.length
      ⟨0, none, by simp, ia₄, ok₄, vsC, lD, fun b o _ _ e => kp₄ _ _ (kp₃ _ _ e), ⟨o0.slots, h04⟩, (Rest.trans (b := { s₂ with heap := s₂.heap.push { cls := .type "list", dict := none, data := .seq ([] : List Value).toArray } }) ⟨_, s₂.toks, rfl⟩ r₄)⟩
    rintro n s' ⟨j, u, hn, iaj, okj, vsj, lDj, kpj, ⟨slj, hLj⟩, rj⟩
    cases n with
    | zero =>
      refine ItAt.done G ao.handled okj iv iaj (by simp [ItK.items]; omega) fun h' tk kp => ?_
      obtain ⟨mC, hnC, _⟩ := vsj.loc
      refine ⟨mC, hnC.at' fun o e => kp _ o (Ne.symm nIC) e, fun h'' sb => ?_⟩
      have kq : ∀ b o, b ≠ cenv.locals → b ≠ I → s'.heap.get? b = some o → h''.get? b = some o := fun b o n1 n2 e => (sb.2 b n1).trans (kp b o n2 e)
      have K2 : ∀ b o, b ≠ env.locals → b ≠ I → s₂.heap.get? b = some o → h''.get? b = some o := fun b o n1 n2 e => by
        refine kq b o (fun q => ?_) n2 (kpj b o n1 n2 e)
        have := Heap.lt_size e
        rw [q, sz] at this
        exact absurd this (Nat.not_lt.mpr (Nat.le_succ _))
      have hLF : h''.get? env.locals = some { o0 with slots := slj } := kq _ _ (Ne.symm nCL) (Ne.symm nIL) hLj
      have ok5 : Ok c φ₂ H₂ h' := okj.same Il Iz (fresh0 ok fI) kp
      have ok6 : Ok c φ₂ H₂ h'' := ok5.same vsj.offL vsj.offZ vsj.newL (fun b o n e => (sb.2 b n).trans e)
      have lDF := kq _ _ nDC (Ne.symm nID) lDj
      have okF := ok6.adopt (new_unz ok₂).1 (new_unz ok₂).2 (fresh0 ok fD) lDF (.list (vs := []) .nil) ok₂.newS
      have hsL : (h''.update env.locals fun o => { o with slots := o0.slots }).get? env.locals = some o0 := by
        refine (Heap.get?_update_self _ hLF ?_).trans ?_
        · have hx := (Heap.get?_some_iff.mp ho0).2
          obtain ⟨cc, dd, dt, s0⟩ := o0
          cases dt <;> first | rfl | (simp [Obj.isFreed] at hx)
        · rfl
      have hsO : ∀ b, b ≠ env.locals → (h''.update env.locals fun o => { o with slots := o0.slots }).get? b = h''.get? b := fun b n => Heap.get?_update_other _ _ (Ne.symm n)
      have gS : Grow φ s.heap ⟨φ₂.l ++ [s₂.heap.objs.size], φ₂.z⟩ (h''.update env.locals fun o => { o with slots := o0.slots }) := by
        obtain ⟨δ, ζ, e1, e2, hδ, hζ⟩ := g₂.ext
        refine ⟨⟨δ ++ [s₂.heap.objs.size], ζ, by simp [e1], e2, fun a m => ?_, hζ⟩, fun b o e n => ?_, fun b o e => ?_⟩
        · rcases List.mem_append.mp m with m | m
          · exact hδ a m
          · rw [List.mem_singleton.mp m]; exact fD
        · by_cases q : b = env.locals
          · rw [q] at e ⊢; rw [ho0] at e; cases e; exact hsL
          · rw [hsO b q]
            exact K2 b o q (fun z => by rw [z, fI] at e; cases e) (g₂.keep b o e n)
        · by_cases q : b = env.locals
          · exact ⟨o0, q ▸ hsL⟩
          · obtain ⟨o', e'⟩ := g₂.live b o e
            exact ⟨o', by rw [hsO b q]; exact K2 b o' q (fun z => by rw [z, fI] at e; cases e) e'⟩
      have vsF : Vars c ρ ⟨φ₂.l ++ [s₂.heap.objs.size], φ₂.z⟩ h'' env sl := (vs.grow gS).sl (fun b o n e => by rw [hsO b n] at e; exact e) fun o e => by
        rw [hsL] at e; cases e; exact ⟨slj, hLF⟩
      have gF : GrowS env φ s.heap ⟨φ₂.l ++ [s₂.heap.objs.size], φ₂.z⟩ h'' := ⟨gS.ext, fun b o e n n1 _ => by
        have := gS.keep b o e n
        rw [hsO b n1] at this; exact this, fun b o e => by
        by_cases q : b = env.locals
        · exact ⟨_, q ▸ hLF⟩
        · obtain ⟨o', e'⟩ := gS.live b o e
          rw [hsO b q] at e'; exact ⟨o', e'⟩⟩
      have rF : Rest s { s' with heap := h'', toks := tk } := (r₂.trans rj).trans (Rest.mk s' h'' tk)
      have rvD : RepV c ⟨φ₂.l ++ [s₂.heap.objs.size], φ₂.z⟩ h'' (.loc H₂.length) (.ref s₂.heap.objs.size) := .loc (by
        show (φ₂.l ++ [s₂.heap.objs.size])[H₂.length]? = some _
        rw [← ok₂.len]; simp)
      refine wpAny_mono ((ev_list (evs_nil (c := c) (d := d) (sc := sc) (ρ := ρ))) env A E { s' with heap := h'', toks := tk } _ sl _ (fun v H' => v = V.loc (H₂ ++ [LO.list []]).length ∧ H' = H₂ ++ [LO.list []] ++ [LO.list []]) eo ao okF vsF ⟨by decide, rfl, rfl⟩) (fun yv s₆ p₆ => ?_) fun _ _ e => e
      obtain ⟨v, H₆, φ₆, ⟨rfl, rfl⟩, ok₆, rv₆, g₆, r₆⟩ := p₆
      refine wpAny_mono (neL_ok G A E s₆ φ₆ _ (.loc H₂.length) _ _ _ (fun v H' => v = V.bool false ∧ H' = H₂ ++ [LO.list []] ++ [LO.list []]) ao ok₆ (rvD.grow g₆) rv₆ ?_) (fun cv s₇ p₇ => ?_) fun _ _ e => e
      · have e1 : lstAt (H₂ ++ [LO.list []] ++ [LO.list []]) H₂.length = some (([] : List Int).map V.int) := lstAt_ext lstAt_new
        have e2 : lstAt (H₂ ++ [LO.list []] ++ [LO.list []]) (H₂ ++ [LO.list []]).length = some (([] : List Int).map V.int) := lstAt_new
        rw [e_cmpI e1 e2]
        exact ⟨rfl, rfl⟩
      obtain ⟨v, H₇, φ₇, ⟨rfl, rfl⟩, ok₇, rv₇, g₇, r₇⟩ := p₇
      cases rv₇
      refine wpAny_truthy_bool (wpAny_execs_nil ⟨.next, sl, _, φ₇, q, ok₇, (vsF.grow g₆).grow g₇, trivial, (gF.trans g₆.toS).trans g₇.toS, (rF.trans r₆).trans r₇⟩)
    | succ n =>
      have hlt : j < js.length := by omega
      have ev : (ItK.list (.loc k) (js.map .loc)).items[j]? = some (.loc js[j]) := by simp [ItK.items, List.getElem?_eq_getElem hlt]
      refine ItAt.item G okj iv iaj ev fun y' h₂ tk ry ia₂ kp₂ lv lt => ?_
      have ok₂' := okj.same Il Iz (fresh0 ok fI) kp₂
      have vs₂' := vsj.same nIC nIc Iz kp₂
      have ry₂ : RepV c φ₂ h₂ (.loc js[j]) y' := ry.keep fun b o z e => kp₂ b o (fun w => Iz (w ▸ z)) e
      refine wpAny_assign_Name (store_okK (s := { s' with heap := h₂, toks := tk }) (i := 0) rfl (.inl hxl) S.kind eoC ok₂' vs₂' ry₂ fun s₃ ok₃' vs₃ gs₃ r₃ kp₃' => ?_)
      have kp3 : ∀ b o, b ≠ I → b ≠ cenv.locals → cenv.cells.lookup x ≠ some b → s'.heap.get? b = some o → s₃.heap.get? b = some o := fun b o n1 n2 n3 e => kp₃' b o n2 n3 (kp₂ b o n1 e)
      have hL3 : s₃.heap.get? env.locals = some { o0 with slots := slj } := kp3 _ _ (Ne.symm nIL) (Ne.symm nCL) (nLc x) hLj
      have ia₃ : ItAt c A φ₂ s₃.heap I (j + 1) (.list (.loc k) (js.map .loc)) := ia₂.keep (fun o e => kp₃' I o nIC (nIc x) e) fun _ _ e => e
      have vs₃' : Vars c [x] φ₂ s₃.heap cenv [some (.loc js[j])] := vs₃
      obtain ⟨mC, hnC, hmC⟩ := vs₃'.loc
      obtain ⟨yv, hy1, hy2⟩ := hmC 0 x (.loc js[j]) rfl ((eoC.kind x).trans hxl) rfl
      obtain ⟨a, ox, rfl, Ix, hbare⟩ := bare_inst ok₃' hy2 (hj js[j] (List.getElem_mem hlt))
      refine wpAny_tests_one ?_
      show wpAny _ _ (isTrue (.Call (.Name nm np) [.Name x ap] [] cp) cenv (eval (.Call (.Name nm np) [.Name x ap] [] cp) cenv) >>= fun b => pure (!b)) _ _ _
      rw [htv]
      refine wpAny_bind (wpAny_bind ?_)
      refine Call_Name rfl (name_glob G eoC ok₃' S.kind hnm (mgIn G hv) hdn ?_)
      refine callWith_of (P := fun h => c.K.In h) (by rw [plain_any (by rw [hst]; rfl)]; rfl) (keeps_K hkeep) (evalArgs_of (by rw [hst]; rfl) ?_)
      rw [hst]
      show wpAny _ _ (spliced [(false, eval (.Name x ap) cenv)]) _ _ _
      refine Calls.spliced_cons (wpAny_Name (wpAny_loadName_local (by rw [eoC.scope]; exact S.kind) ((eoC.kind x).trans hxl) hnC hy1 ?_) hdx)
      refine Calls.spliced_nil ⟨ok₃'.X G, ?_⟩
      refine wpAny_call (RO A s₃ a env.locals ox { o0 with slots := slj } env _ (by have := ao.depth; omega) ao.handled hfr (by rw [eo.scope, S.skind]; decide) hfe hL3 (fun vs' e => by rw [hd0] at e; cases e) vs.newL ok₃'.base Ix hbare fun h₅ t₅ kp₅ hs₅ => ?_)
      refine wpAny_bind (wpAny_standAt (wpAny_holding (wpAny_pure (wpAny_pure ?_))))
      show ∃ m, m < n + 1 ∧ _
      obtain ⟨sl5, hL5⟩ := hs₅
      refine ⟨n, Nat.lt_succ_self n, j + 1, some (.loc js[j]), by omega, ia₃.keep (fun o e => kp₅ _ o nIL e) fun _ _ e => e, ok₃'.same L2l L2z vs.newL kp₅, vs₃'.same (Ne.symm nCL) nLc L2z kp₅, kp₅ _ _ nDL (kp3 _ _ (Ne.symm nID) nDC (nDc x) lDj), fun b o n1 n2 e => ?_, ⟨sl5, hL5⟩, ((rj.trans (Rest.mk s' h₂ tk)).trans r₃).trans (Rest.mk s₃ h₅ t₅)⟩
      have hne : b ≠ cenv.locals := fun q => by
        have := Heap.lt_size e
        rw [q, sz] at this
        exact absurd this (Nat.not_lt.mpr (Nat.le_succ _))
      refine kp₅ b o n1 (kp3 b o n2 hne (fun q => ?_) (kpj b o n1 n2 e))
      have := fX b q
      rw [kp₃ b o e] at this; cases this
/-! ### the first frame -/
def FnC1 (c : Cx) (d : Nat) (f : Value) (W : WF) : Prop :=
  ∀ A s φ H args vals Q (R : Result → Shared → Prop), A.frames = some [] → AOK d A → Ok c φ H s.heap → RepVs c φ s.heap args vals → W args H Q → (∀ x s', PostE c φ s Q x s' → R (.ok (.ret x)) s') → codeAny (model c.prog c.w) A (.call f ⟨vals, []⟩) R s
theorem FnC1.weaken {f W W'} (h : FnC1 c d f W) (k : ∀ args H Q, W' args H Q → W args H Q) : FnC1 c d f W' := fun A s φ H args vals Q R hf ao ok r w => h A s φ H args vals Q R hf ao ok r (k _ _ _ w)
theorem fn_ok1 {f : Addr} {fo : Obj} {fd : FuncData} {body : List Stmt} {ps rest : List Str} {W : WS} (G : Good c) (ho : c.h₀.get? f = some fo) (hd : fo.data = .func fd) (hcd : c.h₀.CodeRec fd.code fd.qualname) (hbody : fd.body = .stmts body) (hclo : fd.closure = [])
    (hbind : ∀ vals : List Value, vals.length = ps.length → bindArgs fd ⟨vals, []⟩ = pure (ps.zip vals)) (hg : fd.globals = mainGlobals) (hbi : fd.builtins = builtinsNs) (hco : fd.scope.isCoroutine = false) (hgen : fd.scope.isGenerator = false) (hk : fd.scope.kind = .function)
    (hnd : (ps ++ rest).Nodup) (hkd : ∀ x ∈ ps ++ rest, fd.scope.names.lookup x = some .local ∨ fd.scope.names.lookup x = some .cell) (hb : Exs1 c d fd.scope (ps ++ rest) body W) : FnC1 c (d + 1) (.ref f) (fnW ps.length rest.length W) :=
  fun A s φ H args vals Q R hf ao ok r w k =>
  fn_okG (PA0 := fun A => A.frames = some []) (PA := fun env A => A.frames = some [env] ∧ env.frame = some env.locals) G ho hd hcd hbody hclo hbind hg hbi hco hgen hk hnd hkd (fun A L h => ⟨Around.frames_deeper h, rfl⟩) (fun env A E s φ sl H Q p eo ao ok vs w => hb env A E s φ sl H Q p.1 p.2 eo ao ok vs w) A s φ H args vals Q R hf ao ok r w k
end
end Mine

namespace Mine
section
variable {c : Cx} {d : Nat} {sc : Scope} {ρ : List Str}
end
/-! Identified: an instance is a tracked .inst 0 [publicId, systemId] -/
def mkId : WF := fun args H Q => args = [] ∧ Q (.loc H.length) (H ++ [.inst 0 []])
def idInit : WF := fun args H Q => match args with
  | [.loc j, a, b] => (∃ fs, H[j]? = some (.inst 0 fs) ∧ (fs = [] ∨ ∃ x y, fs = [x, y])) ∧ Q .none (H.set j (.inst 0 [some a, some b]))
  | _ => False
theorem e_mkId {H Q} : mkId [] H Q = Q (.loc H.length) (H ++ [.inst 0 []]) := propext ⟨fun h => h.2, fun h => ⟨rfl, h⟩⟩
theorem e_idInit {j a b H Q} : idInit [.loc j, a, b] H Q = ((∃ fs, H[j]? = some (.inst 0 fs) ∧ (fs = [] ∨ ∃ x y, fs = [x, y])) ∧ Q .none (H.set j (.inst 0 [some a, some b]))) := propext Iff.rfl
end Mine

namespace Mine
open PySem.SeqAt
section
variable {c : Cx} {d : Nat} {sc : Scope} {ρ : List Str}
/-- where a number stands first: the kit's rule asks a bound on the numbers' bits; their count will do -/
theorem index_ints {prog : Program} {w : World} {A : Around} {E : Value → Shared → Prop} {s : Shared} {l : Addr} {vs : List Value} {is : List Int} {k : Int} {t : Tok} {Q : Value → Shared → Prop} (hl : s.heap.IsList l vs.toArray) (hi : IntsAre vs is)
    (hn : is.length ≤ 1000) (hk : k ∈ is) (h : Q (.int (is.idxOf k : Nat) s.toks) { s with toks := s.toks + 1 }) : wpAny (model prog w) A (call (.builtin "list.index") [.ref l, .int k t]) Q E s := by
  obtain ⟨⟨cls, dd, data, sl⟩, ho, hc, n, hd⟩ := id hl
  simp only at hc hd
  subst hc hd
  have hlen := hi.length
  have hj : is.idxOf k < is.length := List.idxOf_lt_length_iff.mpr hk
  refine call_meets PySem.F.slot_list_index ⟨_, ho, rfl⟩ PySem.F.entry_list_index (PySem.F.args_list_index_2 _ _)
    (list_indexAt l vs.toArray n dd sl (.int k t) (isInt k) (is.idxOf k) (by simpa [hlen] using hj) (by omega) ?_ ?_) ⟨ho, fun y hy => (eq_isInt k t hi y (by simpa using hy)).at _ _, h⟩
  · show isInt k vs[is.idxOf k] = true
    rw [isInt_at k hi _ (by omega) hj]
    simpa using List.getElem_idxOf hj
  · intro j hjs hlt
    show isInt k vs[j] = false
    rw [isInt_at k hi j (by simpa using hjs) (by omega)]
    exact ne_of_lt_idxOf hlt _
/-- xs.index(k) -/
def wIndex (ns : List Int) (a b : WE) : WE := fun sl H Q => a sl H fun v H₁ => match v with
  | .loc j => (lstAt H₁ j).isSome = true ∧ b sl H₁ fun w H₂ => (match w with
    | .int k => ∃ is : List Int, lstAt H₂ j = some (is.map .int) ∧ is.length ≤ 1000 ∧ k ∈ is ∧ Q (.int (is.idxOf k : Nat)) H₂
    | _ => False)
  | _ => False
theorem ev_index {o e apos pos a b} {pl : Env → Sem Bool} (G : Good c) (ho : Ev c d sc ρ o a) (hb : Ev c d sc ρ e b) (hs : ∀ env, starEach [e] env = [(false, eval e env)])
    (he : ∀ env, eval (.Call (.Attribute o (Str.ofString "index") apos) [e] [] pos) env = (do
      let ov ← eval o env
      standAt apos.atName
      let (f, first) ← holding [ov] (getMethod ov (Str.ofString "index") (pl env))
      callWith pos f first (backTo pos (starEach [e] env)) (backToKw pos (keywordEach [] env)))) : Ev c d sc ρ (.Call (.Attribute o (Str.ofString "index") apos) [e] [] pos) (wIndex c.ns a b) := by
  intro env A E s φ sl H Q eo ao ok vs w
  refine methodCall_KW (pl := pl env) (wpAny_mono (ho env A E s φ sl H _ eo ao ok vs w) (fun x s₁ p₁ => ?_) fun _ _ e => e) (he env)
  obtain ⟨v, H₁, φ₁, w₁, ok₁, rv, g₁, r₁⟩ := p₁
  split at w₁
  · rename_i k
    refine meth_list ok₁ rv w₁.1 PySem.F.slot_list_index PySem.F.type_list_index ?_
    have ex : ∃ al, x = .ref al := by cases rv; exact ⟨_, rfl⟩
    obtain ⟨al, rfl⟩ := ex
    show wpAny _ _ (callWith pos (.builtin "list.index") [.ref al] (backTo pos (starEach [e] env)) []) _ _ _
    have hp : starEach [e] env = [e].map fun e => (false, eval e env) := by rw [hs]; rfl
    refine Calls.callWith_builtin (plain_any hp) (evalArgs_of hp ?_)
    rw [hs]
    refine Calls.spliced_cons (wpAny_mono (hb env A E s₁ φ₁ sl H₁ _ eo ao ok₁ (vs.grow g₁) w₁.2) (fun y s₂ p₂ => ?_) fun _ _ e => e)
    obtain ⟨u, H₂, φ₂, w₂, ok₂, ru, g₂, r₂⟩ := p₂
    split at w₂
    · rename_i i
      obtain ⟨is, hl, hn, hm, q⟩ := w₂
      cases ru
      obtain ⟨a', ys, n, ea, hk, il, r⟩ := loc_list ok₂ (rv.grow g₂) (lstAt_of hl)
      cases ea
      refine Calls.spliced_nil (index_ints (PySem.IsL.isList il) (ints_of r) hn hm ?_)
      exact (PostE.here (s' := { s₂ with toks := s₂.toks + 1 }) q ok₂ .int (fun _ _ e => e) (Rest.mk s₂ s₂.heap _)).shift (g₁.trans g₂) (r₁.trans r₂)
    · exact w₂.elim
  · exact w₁.elim
theorem e_index {ns a b sl H Q} : wIndex ns a b sl H Q = a sl H (fun v H₁ => match v with
  | .loc j => (lstAt H₁ j).isSome = true ∧ b sl H₁ fun w H₂ => (match w with
    | .int k => ∃ is : List Int, lstAt H₂ j = some (is.map .int) ∧ is.length ≤ 1000 ∧ k ∈ is ∧ Q (.int (is.idxOf k : Nat)) H₂
    | _ => False)
  | _ => False) := propext Iff.rfl
end
end Mine

namespace Mine
/-! ### trees over a row of numbers, least on top -/
def upd (f : Nat → Option Nat) (k : Nat) (v : Option Nat) : Nat → Option Nat := fun j => if j = k then v else f j
theorem upd_self {f k v} : upd f k v k = v := if_pos rfl
theorem upd_ne {f k v j} (h : j ≠ k) : upd f k v j = f j := if_neg h
structure FL (a : Nat → Int) (lo hi m : Nat) : Prop where
  ge : lo ≤ m
  lt : m < hi
  bef : ∀ j, lo ≤ j → j < m → a m < a j
  aft : ∀ j, m < j → j < hi → a m ≤ a j
theorem FL.uniq {a lo hi m m'} (x : FL a lo hi m) (y : FL a lo hi m') : m = m' := by
  rcases Nat.lt_trichotomy m m' with h | h | h
  · have h1 := y.bef m x.ge h
    have h2 := x.aft m' h y.lt
    omega
  · exact h
  · have h1 := x.bef m' y.ge h
    have h2 := y.aft m h x.lt
    omega
inductive CT (a : Nat → Int) (L R : Nat → Option Nat) : Nat → Nat → Option Nat → Prop
  | nil {lo} : CT a L R lo lo none
  | node {lo hi m} : FL a lo hi m → CT a L R lo m (L m) → CT a L R (m + 1) hi (R m) → CT a L R lo hi (some m)
theorem CT.le {a L R lo hi r} (x : CT a L R lo hi r) : lo ≤ hi := by
  cases x with
  | nil => exact Nat.le_refl _
  | node f _ _ => have := f.ge; have := f.lt; omega
theorem CT.congr {a L R L' R' lo hi r} (x : CT a L R lo hi r) : (∀ j, lo ≤ j → j < hi → L' j = L j ∧ R' j = R j) → CT a L' R' lo hi r := by
  induction x with
  | nil => exact fun _ => .nil
  | @node lo hi m f h1 h2 i1 i2 =>
    intro h
    have hm := h m f.ge f.lt
    have := f.ge
    have := f.lt
    refine .node f ?_ ?_
    · rw [hm.1]; exact i1 fun j g1 g2 => h j g1 (by omega)
    · rw [hm.2]; exact i2 fun j g1 g2 => h j (by omega) g2
theorem CT.none_iff {a L R lo hi r} (x : CT a L R lo hi r) : r = none ↔ lo = hi := by
  cases x with
  | nil => simp
  | node f _ _ => have := f.ge; have := f.lt; simp; omega
/-- the way of the last nodes, the topmost of the pile first -/
inductive Zp (a : Nat → Int) (L R : Nat → Option Nat) (k : Nat) : List Nat → Option Nat → Nat → Prop
  | nil {cur} : Zp a L R k [] cur 0
  | cons {p st cur lo} : R p = cur → Zp a L R k st (some p) lo → CT a L R lo p (L p) → p < k → (∀ j, lo ≤ j → j < p → a p < a j) → (∀ j, p < j → j < k → a p ≤ a j) → Zp a L R k (p :: st) cur (p + 1)
theorem Zp.mem {a L R k st cur lo} (x : Zp a L R k st cur lo) : ∀ p ∈ st, p < lo ∧ p < k := by
  induction x with
  | nil => intro p h; cases h
  | @cons p st cur lo h1 h2 h3 h4 h5 h6 ih =>
    intro q hq
    rcases List.mem_cons.mp hq with rfl | hq
    · exact ⟨by omega, h4⟩
    · have := ih q hq
      have := h3.le
      omega
theorem Zp.len {a L R k st cur lo} (x : Zp a L R k st cur lo) : st.length ≤ lo := by
  induction x with
  | nil => exact Nat.le_refl _
  | @cons p st cur lo h1 h2 h3 h4 h5 h6 ih =>
    have := h3.le
    simp
    omega
theorem Zp.nil_lo {a L R k cur lo} (x : Zp a L R k [] cur lo) : lo = 0 := by cases x; rfl
theorem Zp.all {a L R k st cur lo x} (z : Zp a L R k st cur lo) (h : ∀ p, st.head? = some p → a p ≤ x) : ∀ p ∈ st, a p ≤ x := by
  induction z with
  | nil => intro p h; cases h
  | @cons p st cur lo h1 h2 h3 h4 h5 h6 ih =>
    have hp := h p rfl
    intro q hq
    rcases List.mem_cons.mp hq with rfl | hq
    · exact hp
    · refine ih (fun q' hq' => ?_) q hq
      cases h2 with
      | nil => cases hq'
      | @cons q'' st' cur' lo' g1 g2 g3 g4 g5 g6 =>
        simp at hq'
        subst hq'
        have := h3.le
        have := g6 p (by omega) h4
        omega
theorem Zp.next {a L R L' R' k st cur lo} (z : Zp a L R k st cur lo) : (∀ j, j < lo → L' j = L j ∧ R' j = R j) → (∀ p ∈ st, a p ≤ a k) → Zp a L' R' (k + 1) st cur lo := by
  induction z with
  | nil => exact fun _ _ => .nil
  | @cons p st cur lo h1 h2 h3 h4 h5 h6 ih =>
    intro h hk
    have hp := h p (by omega)
    have := h3.le
    refine .cons (by rw [hp.2]; exact h1) (ih (fun j g => h j (by omega)) fun q hq => hk q (List.mem_cons_of_mem _ hq)) (by rw [hp.1]; exact h3.congr fun j _ g => h j (by omega)) (by omega) h5 fun j g1 g2 => ?_
    by_cases q : j = k
    · subst q; exact hk p List.mem_cons_self
    · exact h6 j g1 (by omega)
theorem Zp.retop {a L R k p st cur cur' lo} (z : Zp a L R k (p :: st) cur lo) : Zp a L (upd R p cur') k (p :: st) cur' lo := by
  cases z with
  | @cons _ _ _ lo h1 h2 h3 h4 h5 h6 =>
    have := h3.le
    have h2' : Zp a L (upd R p cur') k st (some p) lo := by
      have : ∀ {st cur lo}, Zp a L R k st cur lo → lo ≤ p → Zp a L (upd R p cur') k st cur lo := by
        intro st cur lo z
        induction z with
        | nil => exact fun _ => .nil
        | @cons q st cur lo g1 g2 g3 g4 g5 g6 ih =>
          intro hl
          have := g3.le
          exact .cons (by rw [upd_ne (by omega)]; exact g1) (ih (by omega)) (g3.congr fun j _ _ => ⟨rfl, upd_ne (by omega)⟩) g4 g5 g6
      exact this h2 (by omega)
    exact .cons upd_self h2' (h3.congr fun j _ _ => ⟨rfl, upd_ne (by omega)⟩) h4 h5 h6
/-- the topmost one is taken off -/
theorem Zp.pop {a L R k p st cur lo} (z : Zp a L R k (p :: st) cur lo) (t : CT a L R lo k cur) (hk : a k < a p) (hlo : ∀ j, lo ≤ j → j < k → a k < a j) :
    ∃ lo', Zp a L R k st (some p) lo' ∧ CT a L R lo' k (some p) ∧ lo' ≤ k ∧ ∀ j, lo' ≤ j → j < k → a k < a j := by
  cases z with
  | @cons _ _ _ lo h1 h2 h3 h4 h5 h6 =>
    have := h3.le
    refine ⟨lo, h2, .node ⟨by omega, h4, h5, h6⟩ h3 (by rw [h1]; exact t), by omega, fun j g1 g2 => ?_⟩
    rcases Nat.lt_trichotomy j p with q | q | q
    · have := h5 j g1 q; omega
    · subst q; exact hk
    · exact hlo j (by omega) g2
/-- a new one is laid on the pile -/
theorem Zp.push {a L R k st cur lo} (z : Zp a L R k st cur lo) (t : CT a L R lo k cur) (hk : ∀ j, lo ≤ j → j < k → a k < a j) (hp : ∀ p, st.head? = some p → a p ≤ a k) (hl : lo ≤ k) :
    Zp a (upd L k cur) (match st with | [] => upd R k none | p :: _ => upd (upd R k none) p (some k)) (k + 1) (k :: st) none (k + 1) := by
  have hA := z.all hp
  have z1 : Zp a (upd L k cur) (upd R k none) (k + 1) st cur lo := z.next (fun j g => ⟨upd_ne (by omega), upd_ne (by omega)⟩) hA
  cases st with
  | nil =>
    have hl0 : lo = 0 := by cases z; rfl
    subst hl0
    refine .cons upd_self .nil ?_ (by omega) hk (fun j g1 g2 => by omega)
    rw [upd_self]
    exact t.congr fun j _ g => ⟨upd_ne (by omega), upd_ne (by omega)⟩
  | cons p st =>
    have hlo : lo = p + 1 := by cases z; rfl
    have hpk := z.mem p List.mem_cons_self
    have z2 : Zp a (upd L k cur) (upd (upd R k none) p (some k)) (k + 1) (p :: st) (some k) lo := z1.retop
    refine .cons (by show upd (upd R k none) p (some k) k = none; rw [upd_ne (by omega), upd_self]) z2 ?_ (by omega) hk (fun j g1 g2 => by omega)
    rw [upd_self]
    refine t.congr fun j g1 g => ⟨upd_ne (by omega), ?_⟩
    show upd (upd R k none) p (some k) j = R j
    rw [upd_ne (by omega), upd_ne (by omega)]
theorem Zp.done {a L R k st cur lo} (z : Zp a L R k st cur lo) (t : CT a L R lo k cur) : CT a L R 0 k (match st.getLast? with | some p => some p | none => cur) := by
  induction z with
  | nil => exact t
  | @cons p st cur lo h1 h2 h3 h4 h5 h6 ih =>
    have := h3.le
    have := ih (.node ⟨by omega, h4, h5, h6⟩ h3 (by rw [h1]; exact t))
    cases st with
    | nil => exact this
    | cons q st => rw [List.getLast?_cons_cons]; exact this
end Mine

namespace Mine
def leastB (c : Cx) : WS := wSeq (wIf (tv (wBin (onI fun i j => V.bool (i == j)) (wVar 1) (wVar 2))) (wSeq (wRet (wNeg (wK (V.int 1)))) wSkip) wSkip) (wSeq (wRet (wBin (wAdd c.ns) (wVar 1) (wIndex c.ns (wSlice c.ns (wVar 0) (oSome (wVar 1)) (oSome (wVar 2)) oNone) (wCall (bMinL c.ns) (wCons (wSlice c.ns (wVar 0) (oSome (wVar 1)) (oSome (wVar 2)) oNone) wNil))))) wSkip)
def grownB_b1 (c : Cx) : WS := wSeq (wSet 4 (wIdxX c.ns (wVar 0) (wPop (wVar 2)))) wSkip
def grownB_b2 (c : Cx) : WS := wSeq (wSet 4 (wK V.none)) (wSeq (wWhile (tAnd (tv (wBin (wEqD c.ns not) (wVar 2) (wList wNil))) (tv (wBin (onI fun i j => V.bool (decide (j < i))) (wIdxX c.ns (wVar 1) (wIdxX c.ns (wVar 2) (wNeg (wK (V.int 1))))) (wIdxX c.ns (wVar 1) (wVar 3))))) (grownB_b1 c)) (wSeq (wDrop (wMeth c 0 idInit (wIdxX c.ns (wVar 0) (wVar 3)) (wCons (wVar 4) (wCons (wK V.none) wNil)))) (wSeq (wIf (tv (wBin (wEqD c.ns not) (wVar 2) (wList wNil))) (wSeq (wSet 5 (wIdxX c.ns (wVar 0) (wIdxX c.ns (wVar 2) (wNeg (wK (V.int 1)))))) (wSeq (wDrop (wMeth c 0 idInit (wVar 5) (wCons (wMeth c 0 (gSlot c 0 0) (wVar 5) wNil) (wCons (wIdxX c.ns (wVar 0) (wVar 3)) wNil)))) wSkip)) wSkip) (wSeq (wDrop (wAppend (wVar 2) (wVar 3))) wSkip))))
def grownB (c : Cx) : WS := wSeq (wSet 2 (wList wNil)) (wSeq (wFor c.ns (iRange1 (wCall (bLen c.ns) (wCons (wVar 1) wNil))) (aName 3) (grownB_b2 c)) (wSeq (wRet (wIdxX c.ns (wVar 0) (wIdxX c.ns (wVar 2) (wK (V.int 0))))) wSkip))
def walkedB_b1 (c : Cx) : WS := wSeq (wSet 2 (wMeth c 0 (gSlot c 0 1) (wVar 2) wNil)) wSkip
def walkedB_b2 (c : Cx) : WS := wSeq (wSet 2 (wMeth c 0 (gSlot c 0 0) (wVar 0) wNil)) (wSeq (wIf (tv (wBin (wIs c id) (wVar 2) (wK V.none))) (wSeq (wDrop (wAppend (wVar 1) (wVar 0))) (wSeq (wSet 0 (wMeth c 0 (gSlot c 0 1) (wVar 0) wNil)) wSkip)) (wSeq (wWhile (tAnd (tv (wBin (wIs c not) (wMeth c 0 (gSlot c 0 1) (wVar 2) wNil) (wK V.none))) (tv (wBin (wIs c not) (wMeth c 0 (gSlot c 0 1) (wVar 2) wNil) (wVar 0)))) (walkedB_b1 c)) (wSeq (wIf (tv (wBin (wIs c id) (wMeth c 0 (gSlot c 0 1) (wVar 2) wNil) (wK V.none))) (wSeq (wDrop (wMeth c 0 idInit (wVar 2) (wCons (wMeth c 0 (gSlot c 0 0) (wVar 2) wNil) (wCons (wVar 0) wNil)))) (wSeq (wSet 0 (wMeth c 0 (gSlot c 0 0) (wVar 0) wNil)) wSkip)) (wSeq (wDrop (wMeth c 0 idInit (wVar 2) (wCons (wMeth c 0 (gSlot c 0 0) (wVar 2) wNil) (wCons (wK V.none) wNil)))) (wSeq (wDrop (wAppend (wVar 1) (wVar 0))) (wSeq (wSet 0 (wMeth c 0 (gSlot c 0 1) (wVar 0) wNil)) wSkip)))) wSkip))) wSkip)
def walkedB (c : Cx) : WS := wSeq (wSet 1 (wList wNil)) (wSeq (wWhile (tv (wBin (wIs c not) (wVar 0) (wK V.none))) (walkedB_b2 c)) (wSeq (wRet (wVar 1)) wSkip))
def lawB1_b1 (c : Cx) (WE : WF) : WS := wSeq (wSetT [7, 8, 9] (wPop (wVar 6))) (wSeq (wSetR [10, 11] (wTup (wCons (wCall WE (wCons (wVar 1) (wCons (wVar 7) (wCons (wVar 8) wNil)))) (wCons (wCall WE (wCons (wVar 1) (wCons (wBin (wAdd c.ns) (wVar 8) (wK (V.int 1))) (wCons (wVar 9) wNil)))) wNil)))) (wSeq (wIf (tOr (tv (wBin (wIs c not) (wMeth c 0 (gSlot c 0 0) (wIdxX c.ns (wVar 3) (wVar 8)) wNil) (wIdxX c.ns (wVar 5) (wVar 10)))) (tv (wBin (wIs c not) (wMeth c 0 (gSlot c 0 1) (wIdxX c.ns (wVar 3) (wVar 8)) wNil) (wIdxX c.ns (wVar 5) (wVar 11))))) (wSeq (wRet (wK (V.bool false))) wSkip) wSkip) (wSeq (wIf (tv (wBin (onI fun i j => V.bool (decide (j ≤ i))) (wVar 10) (wK (V.int 0)))) (wSeq (wDrop (wAppend (wVar 6) (wTup (wCons (wVar 7) (wCons (wVar 10) (wCons (wVar 8) wNil)))))) wSkip) wSkip) (wSeq (wIf (tv (wBin (onI fun i j => V.bool (decide (j ≤ i))) (wVar 11) (wK (V.int 0)))) (wSeq (wDrop (wAppend (wVar 6) (wTup (wCons (wBin (wAdd c.ns) (wVar 8) (wK (V.int 1))) (wCons (wVar 11) (wCons (wVar 9) wNil)))))) wSkip) wSkip) wSkip))))
def lawB1 (c : Cx) (WG : WF) (WW : WF) (WE : WF) : WS := wSeq (wSet 1 (wBin (wAdd c.ns) (wList (wCons (wK (V.int 2)) (wCons (wK (V.int 0)) (wCons (wK (V.int 1)) (wCons (wK (V.int 0)) wNil))))) (wSlice c.ns (wVar 0) oNone (oSome (wK (V.int 63))) oNone))) (wSeq (wSet 2 (wCall (bLen c.ns) (wCons (wVar 1) wNil))) (wSeq (wSet 3 (wComp c.ns (iList c.ns (wVar 1)) [] tTrue (wCall mkId wNil))) (wSeq (wRefused 3) (wSeq (wSet 4 (wCall WW (wCons (wCall WG (wCons (wVar 3) (wCons (wVar 1) wNil))) wNil))) (wSeq (wIf (tOr (tv (wBin (wEqD c.ns not) (wCall (bLen c.ns) (wCons (wVar 4) wNil)) (wVar 2))) (tv (wBin (wEqD c.ns not) (wComp c.ns (iRange1 (wVar 2)) [3, 4] (tv (wBin (wIs c not) (wIdxX c.ns (wVar 2) (wVar 0)) (wIdxX c.ns (wVar 1) (wVar 0)))) (wVar 0)) (wList wNil)))) (wSeq (wRet (wK (V.bool false))) wSkip) wSkip) (wSeq (wSet 5 (wBin (wAdd c.ns) (wVar 3) (wList (wCons (wK V.none) wNil)))) (wSeq (wSet 6 (wList (wCons (wTup (wCons (wK (V.int 0)) (wCons (wCall WE (wCons (wVar 1) (wCons (wK (V.int 0)) (wCons (wVar 2) wNil)))) (wCons (wVar 2) wNil)))) wNil))) (wSeq (wWhile (tv (wBin (wEqD c.ns not) (wVar 6) (wList wNil))) (lawB1_b1 c WE)) (wSeq (wRet (wK (V.bool true))) wSkip)))))))))

def grownT (c : Cx) : WS := wSeq (wDrop (wMeth c 0 idInit (wIdxX c.ns (wVar 0) (wVar 3)) (wCons (wVar 4) (wCons (wK V.none) wNil)))) (wSeq (wIf (tv (wBin (wEqD c.ns not) (wVar 2) (wList wNil))) (wSeq (wSet 5 (wIdxX c.ns (wVar 0) (wIdxX c.ns (wVar 2) (wNeg (wK (V.int 1)))))) (wSeq (wDrop (wMeth c 0 idInit (wVar 5) (wCons (wMeth c 0 (gSlot c 0 0) (wVar 5) wNil) (wCons (wIdxX c.ns (wVar 0) (wVar 3)) wNil)))) wSkip)) wSkip) (wSeq (wDrop (wAppend (wVar 2) (wVar 3))) wSkip))
theorem grownB_b2_eq (c : Cx) : grownB_b2 c = wSeq (wSet 4 (wK V.none)) (wSeq (wWhile (tAnd (tv (wBin (wEqD c.ns not) (wVar 2) (wList wNil))) (tv (wBin (onI fun i j => V.bool (decide (j < i))) (wIdxX c.ns (wVar 1) (wIdxX c.ns (wVar 2) (wNeg (wK (V.int 1))))) (wIdxX c.ns (wVar 1) (wVar 3))))) (grownB_b1 c)) (grownT c)) := rfl
theorem sliceV_mid {α : Type} (xs : List α) {lo hi : Nat} (h1 : lo ≤ hi) (h2 : hi ≤ xs.length) : sliceV xs (some (lo : Int)) (some (hi : Int)) none = (xs.drop lo).take (hi - lo) := by
  unfold sliceV
  have e : sliceBounds (some (lo : Int)) (some (hi : Int)) none xs.length = ((lo : Int), (hi : Int), 1) := by
    unfold sliceBounds
    simp
    omega
  rw [e]
  have e2 : sliceRange (lo : Int) (hi : Int) 1 = (List.range (hi - lo)).map fun k => lo + k := by
    unfold sliceRange
    simp
    have : (if lo < hi then (hi : Int) - (lo : Int) else 0).toNat = hi - lo := by split <;> omega
    rw [this]
    apply List.map_congr_left
    intro k _
    omega
  rw [e2]
  exact pick_range xs _ _ (by omega)
theorem while_dn {t : WT} {b : WS} {Q : Fl → Sl → HW → Prop} (I : Nat → Sl → HW → Prop) (step : ∀ n sl H, I n sl H → ∀ R : Fl → Sl → HW → Prop, (∀ m sl' H', n = m + 1 → I m sl' H' → R .next sl' H') → (∀ v sl' H', Q (.ret v) sl' H' → R (.ret v) sl' H') → t sl H fun r H₁ => if r then b sl H₁ R else Q .next sl H₁) :
    ∀ n sl H, I n sl H → wWhileN t b (n + 1) sl H Q
  | 0, sl, H, i => step 0 sl H i _ (fun m _ _ e => by omega) (fun v _ _ h => h)
  | n + 1, sl, H, i => step (n + 1) sl H i _ (fun m sl' H' e i' => by
      have : m = n := by omega
      subst this
      exact while_dn I step m sl' H' i') (fun v _ _ h => h)
theorem while_ok {t : WT} {b : WS} {Q : Fl → Sl → HW → Prop} {n sl H} (I : Nat → Sl → HW → Prop) (step : ∀ n sl H, I n sl H → ∀ R : Fl → Sl → HW → Prop, (∀ m sl' H', n = m + 1 → I m sl' H' → R .next sl' H') → (∀ v sl' H', Q (.ret v) sl' H' → R (.ret v) sl' H') → t sl H fun r H₁ => if r then b sl H₁ R else Q .next sl H₁)
    (h : I n sl H) : wWhile t b sl H Q := ⟨n + 1, while_dn I step n sl H h⟩
section
variable {c : Cx} {H : HW}
def aOf (nums : List Int) (j : Nat) : Int := nums.getD j 0
def leastW : WF := fun args H Q => ∃ (k lo hi : Nat) (nums : List Int), args = [.loc k, natV lo, natV hi] ∧ lstAt H k = some (nums.map .int) ∧ nums.length ≤ 500 ∧ lo ≤ hi ∧ hi ≤ nums.length ∧ ∀ v H', Ext H H' → ((lo = hi ∧ v = -1) ∨ ∃ m : Nat, v = (m : Int) ∧ FL (aOf nums) lo hi m) → Q (.int v) H'
theorem least_plain {args Q} (h : leastW args H Q) : fnW 3 0 (leastB c) args H Q := by
  obtain ⟨k, lo, hi, nums, rfl, hl, hn, h1, h2, q⟩ := h
  refine ⟨rfl, ?_⟩
  show leastB c [some (.loc k), some (natV lo), some (natV hi)] H _
  unfold leastB
  simp only [e_index, e_mkId, e_idInit, e_idxX, e_setI, e_setTX, e_aTupXT, e_dict0, e_kGlob2, e_kGlob3, e_lenS, e_gSlotO0, e_gSlotO1, e_gSlot1, e_mkEI, e_kFalse, e_slot, e_comp0, e_mul, e_eqXI, e_eqXS, e_neXI, e_neXL, e_pow, e_is, e_sum, e_minL, e_inI, e_tTrue, true_and, and_true, ne_eq, not_false_eq_true, Int.reduceEq, Nat.reduceLeDiff, Nat.reduceLT, reduceIte, Option.isSome_some, reduceCtorEq, Int.reduceBEq, Int.reduceNeg, Int.reduceLT, Nat.reduceAdd, Bool.false_eq_true, Bool.not_true, Bool.not_false, if_true, if_false, e_skip, e_isN, isN, id, e_mkTI, e_addI, e_addS, e_min, e_max, e_drop, e_append, e_pop, e_seq, e_setR, e_setT, e_list, e_tup, e_cons, e_meth, e_var, e_nil, e_idx, e_neg, e_k, e_set, e_aug, e_bin, e_mod, e_div, e_if, e_ret, e_and, e_or, e_not, e_tv, e_onI, e_call, e_aTupR, e_aTup, e_aName, e_gName, e_gNs, e_clsO, e_onone, e_osome, e_slice, List.getElem?_cons_zero, List.getElem?_cons_succ, List.set_cons_zero, List.set_cons_succ, List.length_cons, List.length_nil, List.reverse_cons, List.reverse_nil, List.nil_append, List.cons_append, e_setAll, e_setAll0, asL_loc]
  by_cases e : lo = hi
  · subst e
    simp only [e_index, e_mkId, e_idInit, e_idxX, e_setI, e_setTX, e_aTupXT, e_dict0, e_kGlob2, e_kGlob3, e_lenS, e_gSlotO0, e_gSlotO1, e_gSlot1, e_mkEI, e_kFalse, e_slot, e_comp0, e_mul, e_eqXI, e_eqXS, e_neXI, e_neXL, e_pow, e_is, e_sum, e_minL, e_inI, e_tTrue, true_and, and_true, ne_eq, not_false_eq_true, Int.reduceEq, Nat.reduceLeDiff, Nat.reduceLT, reduceIte, Option.isSome_some, reduceCtorEq, Int.reduceBEq, Int.reduceNeg, Int.reduceLT, Nat.reduceAdd, Bool.false_eq_true, Bool.not_true, Bool.not_false, if_true, if_false, e_skip, e_isN, isN, id, e_mkTI, e_addI, e_addS, e_min, e_max, e_drop, e_append, e_pop, e_seq, e_setR, e_setT, e_list, e_tup, e_cons, e_meth, e_var, e_nil, e_idx, e_neg, e_k, e_set, e_aug, e_bin, e_mod, e_div, e_if, e_ret, e_and, e_or, e_not, e_tv, e_onI, e_call, e_aTupR, e_aTup, e_aName, e_gName, e_gNs, e_clsO, e_onone, e_osome, e_slice, List.getElem?_cons_zero, List.getElem?_cons_succ, List.set_cons_zero, List.set_cons_succ, List.length_cons, List.length_nil, List.reverse_cons, List.reverse_nil, List.nil_append, List.cons_append, e_setAll, e_setAll0, asL_loc, beq_self_eq_true]
    exact q _ _ (.refl _) (.inl ⟨rfl, rfl⟩)
  · have eb : ((lo : Int) == (hi : Int)) = false := by simp; omega
    simp only [e_index, e_mkId, e_idInit, e_idxX, e_setI, e_setTX, e_aTupXT, e_dict0, e_kGlob2, e_kGlob3, e_lenS, e_gSlotO0, e_gSlotO1, e_gSlot1, e_mkEI, e_kFalse, e_slot, e_comp0, e_mul, e_eqXI, e_eqXS, e_neXI, e_neXL, e_pow, e_is, e_sum, e_minL, e_inI, e_tTrue, true_and, and_true, ne_eq, not_false_eq_true, Int.reduceEq, Nat.reduceLeDiff, Nat.reduceLT, reduceIte, Option.isSome_some, reduceCtorEq, Int.reduceBEq, Int.reduceNeg, Int.reduceLT, Nat.reduceAdd, Bool.false_eq_true, Bool.not_true, Bool.not_false, if_true, if_false, e_skip, e_isN, isN, id, e_mkTI, e_addI, e_addS, e_min, e_max, e_drop, e_append, e_pop, e_seq, e_setR, e_setT, e_list, e_tup, e_cons, e_meth, e_var, e_nil, e_idx, e_neg, e_k, e_set, e_aug, e_bin, e_mod, e_div, e_if, e_ret, e_and, e_or, e_not, e_tv, e_onI, e_call, e_aTupR, e_aTup, e_aName, e_gName, e_gNs, e_clsO, e_onone, e_osome, e_slice, List.getElem?_cons_zero, List.getElem?_cons_succ, List.set_cons_zero, List.set_cons_succ, List.length_cons, List.length_nil, List.reverse_cons, List.reverse_nil, List.nil_append, List.cons_append, e_setAll, e_setAll0, asL_loc, eb, hl]
    have es := sliceV_mid (nums.map V.int) h1 (by simpa using h2)
    rw [← List.map_drop, ← List.map_take] at es
    rw [es]
    have hk : lstAt (H ++ [LO.list (((nums.drop lo).take (hi - lo)).map V.int)]) k = some (nums.map V.int) := lstAt_ext hl
    rw [hk, lstAt_new]
    have esl : ((nums.drop lo).take (hi - lo)).length = hi - lo := by simp; omega
    have eat : ∀ i, i < hi - lo → ((nums.drop lo).take (hi - lo))[i]? = some (aOf nums (lo + i)) := fun i hi' => by
      rw [List.getElem?_take, if_pos hi', List.getElem?_drop, List.getElem?_eq_getElem (by omega)]
      unfold aOf
      rw [List.getD_eq_getElem?_getD, List.getElem?_eq_getElem (by omega)]
      rfl
    refine ⟨by simp; omega, rfl, by simp; omega, (nums.drop lo).take (hi - lo), ?_, fun z => by rw [z] at esl; simp at esl; omega, fun M hM hle => ⟨(nums.drop lo).take (hi - lo), lstAt_ext lstAt_new, by omega, hM, ?_⟩⟩
    · rw [es]; exact lstAt_new
    have hj := List.idxOf_lt_length_iff.mpr hM
    have eM := List.getElem_idxOf hj
    generalize hidx : List.idxOf M ((nums.drop lo).take (hi - lo)) = i at *
    have hi' : i < hi - lo := by omega
    have ai : aOf nums (lo + i) = M := by
      have := eat i hi'
      rw [List.getElem?_eq_getElem hj, eM] at this
      cases this; rfl
    have all : ∀ j, lo ≤ j → j < hi → M ≤ aOf nums j := fun j g1 g2 => by
      refine hle _ ?_
      have := eat (j - lo) (by omega)
      rw [show lo + (j - lo) = j by omega] at this
      exact List.mem_of_getElem? this
    refine q _ _ (.trans .app .app) (.inr ⟨lo + i, by simp, by omega, by omega, fun j g1 g2 => ?_, fun j g1 g2 => ?_⟩)
    · have h3 := all j g1 (by omega)
      have h4 : aOf nums j ≠ M := by
        have hlt : j - lo < List.idxOf M ((nums.drop lo).take (hi - lo)) := by rw [hidx]; omega
        have h5 := ne_of_lt_idxOf hlt (by omega)
        have h6 := eat (j - lo) (by omega)
        rw [show lo + (j - lo) = j by omega, List.getElem?_eq_getElem (by omega)] at h6
        have h7 := Option.some.inj h6
        rw [h7] at h5
        intro z
        rw [z] at h5
        simp at h5
      omega
    · have := all j (by omega) g2; omega
/-! ### the nodes and what stands left and right of them -/
def ov (b : Nat) : Option Nat → V
  | none => .none
  | some j => .loc (b + j)
theorem ov_s {b j : Nat} : ov b (some j) = .loc (b + j) := rfl
theorem ov_n {b : Nat} : ov b none = .none := rfl
def ndV (b N : Nat) : List V := (List.range N).map fun k => .loc (b + k)
theorem ndV_at {b N k : Nat} (h : k < N) : (ndV b N)[k]? = some (.loc (b + k)) := by unfold ndV; rw [List.getElem?_map, List.getElem?_range h]; rfl
theorem ndV_len {b N : Nat} : (ndV b N).length = N := by unfold ndV; simp
def Lk (b N : Nat) (L R : Nat → Option Nat) (H : HW) : Prop := ∀ k, k < N → H[b + k]? = some (.inst 0 [some (ov b (L k)), some (ov b (R k))])
theorem Lk.ext {b N L R H'} (h : Lk b N L R H) (x : Ext H H') : Lk b N L R H' := fun k hk => x.at (h k hk)
theorem Lk.other {b N L R j lo} (h : Lk b N L R H) (hj : b + N ≤ j) : Lk b N L R (H.set j lo) := fun k hk => by rw [List.getElem?_set_ne (by omega)]; exact h k hk
theorem Lk.setR {b N L R k v} (h : Lk b N L R H) (hk : k < N) : Lk b N L (upd R k v) (H.set (b + k) (.inst 0 [some (ov b (L k)), some (ov b v)])) := fun j hj => by
  by_cases q : j = k
  · subst q
    rw [List.getElem?_set_self (List.getElem?_eq_some_iff.mp (h j hj)).1, upd_self]
  · rw [List.getElem?_set_ne (by omega), upd_ne q]; exact h j hj
theorem Lk.cls {b N L R k} (h : Lk b N L R H) (hk : k < N) : clsV c H (.loc (b + k)) = some 0 := by simp [clsV, h k hk]
theorem Lk.pub {b N L R k Q} (h : Lk b N L R H) (hk : k < N) : gSlot c 0 0 [.loc (b + k)] H Q = Q (ov b (L k)) H := e_gSlotL (h k hk) rfl
theorem Lk.sys {b N L R k Q} (h : Lk b N L R H) (hk : k < N) : gSlot c 0 1 [.loc (b + k)] H Q = Q (ov b (R k)) H := e_gSlotL (h k hk) rfl
theorem Lk.ini {b N L R k} (h : Lk b N L R H) (hk : k < N) : ∃ fs, H[b + k]? = some (.inst 0 fs) ∧ (fs = [] ∨ ∃ x y, fs = [x, y]) := ⟨_, h k hk, .inr ⟨_, _, rfl⟩⟩
theorem ints_lay1 (r : List Int) : PyData.canLayAll0 (r.map .int) = true ∧ PyData.depthAll (r.map .int) ≤ 1 := by
  induction r with
  | nil => exact ⟨rfl, by simp [PyData.depthAll]⟩
  | cons x r ih =>
    rw [List.map_cons]
    exact ⟨by rw [PyData.canLayAll0, ih.1]; rfl, by rw [PyData.depthAll]; have := ih.2; simp [PyData.depth]; omega⟩
theorem shaped_of {ds : List PyData} {n : Nat} (h1 : PyData.canLayAll0 ds = true) (h2 : PyData.depthAll ds ≤ n) (hn : n ≤ 10) : SeqAt.shaped (.list ds) = true := by
  unfold SeqAt.shaped
  have : (PyData.list ds).canLay0 = true := by rw [PyData.canLay0]; exact h1
  rw [this, Bool.true_and, decide_eq_true_iff, PyData.depth]
  omega
theorem ne_nil {ns : List Int} {k : Nat} {vs : List V} {ds : List PyData} {n : Nat} {Q : V → HW → Prop} (h : lstAt H k = some vs) (hd : DVs ns (H ++ [.list []]) vs ds) (h1 : PyData.canLayAll0 ds = true) (h2 : PyData.depthAll ds ≤ n) (hn : n ≤ 10)
    (q : Q (.bool (!vs.isEmpty)) (H ++ [.list []])) : wEqD ns not (.loc k) (.loc H.length) (H ++ [.list []]) Q := by
  refine ⟨.list ds, .list [], .list (by rw [asL_loc]; exact lstAt_ext h) hd, .list (by rw [asL_loc]; exact lstAt_new) .nil, ⟨shaped_of h1 h2 hn, shaped_of (n := 1) rfl (by simp [PyData.depthAll]) (by decide)⟩, ?_⟩
  have : (PyData.list ds).eqv (.list []) = vs.isEmpty := by
    cases hd with
    | nil => rfl
    | cons _ _ => rfl
  rw [this]
  exact q
theorem ne_nil_ints {ns : List Int} {k : Nat} {is : List Int} {Q : V → HW → Prop} (h : lstAt H k = some (is.map .int)) (q : Q (.bool (!is.isEmpty)) (H ++ [.list []])) : wEqD ns not (.loc k) (.loc H.length) (H ++ [.list []]) Q :=
  ne_nil h (dvs_ints is) (ints_lay1 is).1 (ints_lay1 is).2 (by decide) (by simpa using q)
/-! ### the tree is grown -/
def PN (b N : Nat) (j : Nat) : Prop := j < b ∨ b + N ≤ j
def grownW : WF := fun args H Q => ∃ (b N iN iM : Nat) (nums : List Int), args = [.loc iN, .loc iM] ∧ lstAt H iN = some (ndV b N) ∧ lstAt H iM = some (nums.map .int) ∧ nums.length = N ∧ 0 < N ∧ N ≤ 500 ∧ (PN b N iN ∧ PN b N iM ∧ b + N ≤ H.length) ∧ (∀ k, k < N → H[b + k]? = some (.inst 0 [])) ∧
  ∀ L R root H', CT (aOf nums) L R 0 N (some root) → Lk b N L R H' → KeepP (PN b N) H H' → Q (.loc (b + root)) H'
/-- what stands while the tree grows -/
structure GS (b N iN iM iW : Nat) (nums : List Int) (n : Nat) (st : List Nat) (L R : Nat → Option Nat) (H0 H : HW) : Prop where
  nl : lstAt H iN = some (ndV b N)
  ml : lstAt H iM = some (nums.map .int)
  wl : lstAt H iW = some ((st.reverse.map fun (k : Nat) => (k : Int)).map .int)
  lk : Lk b n L R H
  left : ∀ k, n ≤ k → k < N → H[b + k]? = some (.inst 0 [])
  kp : KeepP (PN b N) H0 H
  w0 : H0.length ≤ iW
theorem GS.ext {b N iN iM iW nums n st L R H0 H'} (g : GS b N iN iM iW nums n st L R H0 H) (x : Ext H H') : GS b N iN iM iW nums n st L R H0 H' :=
  ⟨x.lst g.nl, x.lst g.ml, x.lst g.wl, g.lk.ext x, fun k h1 h2 => x.at (g.left k h1 h2), g.kp.trans x.keepP, g.w0⟩
theorem aOf_at {nums : List Int} {k : Nat} (h : k < nums.length) : (nums.map V.int)[k]? = some (.int (aOf nums k)) := by
  unfold aOf
  rw [List.getElem?_map, List.getElem?_eq_getElem h, List.getD_eq_getElem?_getD, List.getElem?_eq_getElem h]; rfl
theorem getI_last {xs : List V} {u : V} (h : xs.getLast? = some u) : getI xs (-1) = some u := by
  have hn : xs.length ≠ 0 := fun e => by rw [List.length_eq_zero_iff] at e; subst e; simp at h
  unfold getI
  rw [if_neg (by decide), if_pos (by omega), ← h, List.getLast?_eq_getElem?]
  congr 1
  omega
theorem way_last {p : Nat} {st : List Nat} : (((st.reverse ++ [p]).map fun (k : Nat) => (k : Int)).map V.int).getLast? = some (natV p) := by simp
theorem way_drop {p : Nat} {st : List Nat} : (((st.reverse ++ [p]).map fun (k : Nat) => (k : Int)).map V.int).dropLast = (st.reverse.map fun (k : Nat) => (k : Int)).map V.int := by simp
theorem GS.sets {b N iN iM iW nums n st L R H0} (hPN : PN b N iN ∧ PN b N iM) (hb : b + N ≤ H0.length) (g : GS b N iN iM iW nums n st L R H0 H) {k : Nat} (hk : k < N) (lo : LO) :
    lstAt (H.set (b + k) lo) iN = some (ndV b N) ∧ lstAt (H.set (b + k) lo) iM = some (nums.map .int) ∧ lstAt (H.set (b + k) lo) iW = some ((st.reverse.map fun (k : Nat) => (k : Int)).map .int) ∧ KeepP (PN b N) H0 (H.set (b + k) lo) := by
  have h1 := g.w0
  refine ⟨?_, ?_, ?_, g.kp.trans (.set fun h => ?_)⟩
  · rw [lstAt_set_ne (by rcases hPN.1 with h | h <;> omega)]; exact g.nl
  · rw [lstAt_set_ne (by rcases hPN.2 with h | h <;> omega)]; exact g.ml
  · rw [lstAt_set_ne (by omega)]; exact g.wl
  · rcases h with h | h <;> omega
theorem GS.init {b N iN iM iW nums n st L R H0} (hPN : PN b N iN ∧ PN b N iM) (hb : b + N ≤ H0.length) (g : GS b N iN iM iW nums n st L R H0 H) (hn : n < N) (cur : Option Nat) :
    GS b N iN iM iW nums (n + 1) st (upd L n cur) (upd R n none) H0 (H.set (b + n) (.inst 0 [some (ov b cur), some .none])) := by
  obtain ⟨a1, a2, a3, a4⟩ := g.sets hPN hb hn (.inst 0 [some (ov b cur), some .none])
  refine ⟨a1, a2, a3, fun k hk => ?_, fun k h1 h2 => ?_, a4, g.w0⟩
  · by_cases q : k = n
    · subst q
      rw [List.getElem?_set_self (List.getElem?_eq_some_iff.mp (g.left k (Nat.le_refl _) hn)).1, upd_self, upd_self]; rfl
    · rw [List.getElem?_set_ne (by omega), upd_ne q, upd_ne q]; exact g.lk k (by omega)
  · rw [List.getElem?_set_ne (by omega)]; exact g.left k (by omega) h2
theorem GS.setR {b N iN iM iW nums n st L R H0} (hPN : PN b N iN ∧ PN b N iM) (hb : b + N ≤ H0.length) (g : GS b N iN iM iW nums n st L R H0 H) {p : Nat} (hp : p < n) (hn : n ≤ N) (v : Option Nat) :
    GS b N iN iM iW nums n st L (upd R p v) H0 (H.set (b + p) (.inst 0 [some (ov b (L p)), some (ov b v)])) := by
  obtain ⟨a1, a2, a3, a4⟩ := g.sets hPN hb (k := p) (by omega) (.inst 0 [some (ov b (L p)), some (ov b v)])
  exact ⟨a1, a2, a3, g.lk.setR hp, fun k h1 h2 => by rw [List.getElem?_set_ne (by omega)]; exact g.left k h1 h2, a4, g.w0⟩
theorem GS.way {b N iN iM iW nums n st L R H0} (hiW : iN ≠ iW ∧ iM ≠ iW) (hb : b + N ≤ H0.length) (hn : n ≤ N) (g : GS b N iN iM iW nums n st L R H0 H) (st' : List Nat) {vs : List V} (e : vs = (st'.reverse.map fun (k : Nat) => (k : Int)).map .int) :
    GS b N iN iM iW nums n st' L R H0 (H.set iW (.list vs)) := by
  have h1 := g.w0
  subst e
  refine ⟨by rw [lstAt_set_ne hiW.1]; exact g.nl, by rw [lstAt_set_ne hiW.2]; exact g.ml, lstAt_set (lstAt_lt g.wl), g.lk.other (by omega), fun k h1 h2 => by rw [List.getElem?_set_ne (by omega)]; exact g.left k h1 h2, ⟨by have := g.kp.len; simpa using this, fun k o hk e => ?_⟩, g.w0⟩
  have := (List.getElem?_eq_some_iff.mp e).1
  rw [List.getElem?_set_ne (by omega)]
  exact g.kp.at_ k o hk e
theorem grow_tail {b N iN iM iW : Nat} {nums : List Int} {H0 : HW} {n : Nat} {st : List Nat} {L R cur lo x5} (hl : N ≤ 500) (hb : b + N ≤ H0.length) (hPN : PN b N iN ∧ PN b N iM) (hiW : iN ≠ iW ∧ iM ≠ iW) (hn : n < N)
    (g : GS b N iN iM iW nums n st L R H0 H) (z : Zp (aOf nums) L R n st cur lo) (ct : CT (aOf nums) L R lo n cur) (hlo : lo ≤ n) (hlt : ∀ j, lo ≤ j → j < n → aOf nums n < aOf nums j) (hp : ∀ p, st.head? = some p → aOf nums p ≤ aOf nums n) (hsl : st.length ≤ N)
    (R' : Fl → Sl → HW → Prop) (hr : ∀ sl' H', ((∃ x3 x4 x5, sl' = [some (.loc iN), some (.loc iM), some (.loc iW), x3, x4, x5]) ∧ ∃ st L R, GS b N iN iM iW nums (n + 1) st L R H0 H' ∧ Zp (aOf nums) L R (n + 1) st none (n + 1)) → R' .next sl' H') :
    grownT c [some (.loc iN), some (.loc iM), some (.loc iW), some (natV n), some (ov b cur), x5] H R' := by
  have Z := z.push ct hlt hp hlo
  have h0 := g.left n (Nat.le_refl _) hn
  have hc : clsV c H (.loc (b + n)) = some 0 := by simp [clsV, h0]
  unfold grownT
  simp only [e_index, e_mkId, e_idInit, e_idxX, e_setI, e_setTX, e_aTupXT, e_dict0, e_kGlob2, e_kGlob3, e_lenS, e_gSlotO0, e_gSlotO1, e_gSlot1, e_mkEI, e_kFalse, e_slot, e_comp0, e_mul, e_eqXI, e_eqXS, e_neXI, e_neXL, e_pow, e_is, e_sum, e_minL, e_inI, e_tTrue, true_and, and_true, ne_eq, not_false_eq_true, Int.reduceEq, Nat.reduceLeDiff, Nat.reduceLT, reduceIte, Option.isSome_some, reduceCtorEq, Int.reduceBEq, Int.reduceNeg, Int.reduceLT, Nat.reduceAdd, Bool.false_eq_true, Bool.not_true, Bool.not_false, if_true, if_false, e_skip, e_isN, isN, id, e_mkTI, e_addI, e_addS, e_min, e_max, e_drop, e_append, e_pop, e_seq, e_setR, e_setT, e_list, e_tup, e_cons, e_meth, e_var, e_nil, e_idx, e_neg, e_k, e_set, e_aug, e_bin, e_mod, e_div, e_if, e_ret, e_and, e_or, e_not, e_tv, e_onI, e_call, e_aTupR, e_aTup, e_aName, e_gName, e_gNs, e_clsO, e_onone, e_osome, e_slice, List.getElem?_cons_zero, List.getElem?_cons_succ, List.set_cons_zero, List.set_cons_succ, List.length_cons, List.length_nil, List.reverse_cons, List.reverse_nil, List.nil_append, List.cons_append, e_setAll, e_setAll0, asL_loc]
  refine idx_nat g.nl (by rw [ndV_len]; omega) (ndV_at hn) ⟨hc, ?_⟩
  simp only [e_index, e_mkId, e_idInit, e_idxX, e_setI, e_setTX, e_aTupXT, e_dict0, e_kGlob2, e_kGlob3, e_lenS, e_gSlotO0, e_gSlotO1, e_gSlot1, e_mkEI, e_kFalse, e_slot, e_comp0, e_mul, e_eqXI, e_eqXS, e_neXI, e_neXL, e_pow, e_is, e_sum, e_minL, e_inI, e_tTrue, true_and, and_true, ne_eq, not_false_eq_true, Int.reduceEq, Nat.reduceLeDiff, Nat.reduceLT, reduceIte, Option.isSome_some, reduceCtorEq, Int.reduceBEq, Int.reduceNeg, Int.reduceLT, Nat.reduceAdd, Bool.false_eq_true, Bool.not_true, Bool.not_false, if_true, if_false, e_skip, e_isN, isN, id, e_mkTI, e_addI, e_addS, e_min, e_max, e_drop, e_append, e_pop, e_seq, e_setR, e_setT, e_list, e_tup, e_cons, e_meth, e_var, e_nil, e_idx, e_neg, e_k, e_set, e_aug, e_bin, e_mod, e_div, e_if, e_ret, e_and, e_or, e_not, e_tv, e_onI, e_call, e_aTupR, e_aTup, e_aName, e_gName, e_gNs, e_clsO, e_onone, e_osome, e_slice, List.getElem?_cons_zero, List.getElem?_cons_succ, List.set_cons_zero, List.set_cons_succ, List.length_cons, List.length_nil, List.reverse_cons, List.reverse_nil, List.nil_append, List.cons_append, e_setAll, e_setAll0, asL_loc]
  refine ⟨⟨[], h0, .inl rfl⟩, ?_⟩
  have g1 := g.init hPN hb hn cur
  generalize H.set (b + n) (.inst 0 [some (ov b cur), some .none]) = H1 at *
  refine ne_nil_ints g1.wl ?_
  have g2 : GS b N iN iM iW nums (n + 1) st (upd L n cur) (upd R n none) H0 (H1 ++ [.list []]) := g1.ext .app
  generalize H1 ++ [LO.list []] = H2 at *
  cases st with
  | nil =>
    simp only [e_index, e_mkId, e_idInit, e_idxX, e_setI, e_setTX, e_aTupXT, e_dict0, e_kGlob2, e_kGlob3, e_lenS, e_gSlotO0, e_gSlotO1, e_gSlot1, e_mkEI, e_kFalse, e_slot, e_comp0, e_mul, e_eqXI, e_eqXS, e_neXI, e_neXL, e_pow, e_is, e_sum, e_minL, e_inI, e_tTrue, true_and, and_true, ne_eq, not_false_eq_true, Int.reduceEq, Nat.reduceLeDiff, Nat.reduceLT, reduceIte, Option.isSome_some, reduceCtorEq, Int.reduceBEq, Int.reduceNeg, Int.reduceLT, Nat.reduceAdd, Bool.false_eq_true, Bool.not_true, Bool.not_false, if_true, if_false, e_skip, e_isN, isN, id, e_mkTI, e_addI, e_addS, e_min, e_max, e_drop, e_append, e_pop, e_seq, e_setR, e_setT, e_list, e_tup, e_cons, e_meth, e_var, e_nil, e_idx, e_neg, e_k, e_set, e_aug, e_bin, e_mod, e_div, e_if, e_ret, e_and, e_or, e_not, e_tv, e_onI, e_call, e_aTupR, e_aTup, e_aName, e_gName, e_gNs, e_clsO, e_onone, e_osome, e_slice, List.getElem?_cons_zero, List.getElem?_cons_succ, List.set_cons_zero, List.set_cons_succ, List.length_cons, List.length_nil, List.reverse_cons, List.reverse_nil, List.nil_append, List.cons_append, e_setAll, e_setAll0, asL_loc, List.reverse_nil, List.map_nil, List.isEmpty_nil, g2.wl]
    exact hr _ _ ⟨⟨_, _, _, rfl⟩, [n], _, _, g2.way hiW hb hn [n] (by simp), Z⟩
  | cons p st =>
    have hpn := (z.mem p List.mem_cons_self).2
    have ie : ((st.reverse ++ [p]).map fun (k : Nat) => (k : Int)).isEmpty = false := by simp
    have hlen : (((st.reverse ++ [p]).map fun (k : Nat) => (k : Int)).map V.int).length ≤ 1000000 := by simp at hsl ⊢; omega
    simp only [e_index, e_mkId, e_idInit, e_idxX, e_setI, e_setTX, e_aTupXT, e_dict0, e_kGlob2, e_kGlob3, e_lenS, e_gSlotO0, e_gSlotO1, e_gSlot1, e_mkEI, e_kFalse, e_slot, e_comp0, e_mul, e_eqXI, e_eqXS, e_neXI, e_neXL, e_pow, e_is, e_sum, e_minL, e_inI, e_tTrue, true_and, and_true, ne_eq, not_false_eq_true, Int.reduceEq, Nat.reduceLeDiff, Nat.reduceLT, reduceIte, Option.isSome_some, reduceCtorEq, Int.reduceBEq, Int.reduceNeg, Int.reduceLT, Nat.reduceAdd, Bool.false_eq_true, Bool.not_true, Bool.not_false, if_true, if_false, e_skip, e_isN, isN, id, e_mkTI, e_addI, e_addS, e_min, e_max, e_drop, e_append, e_pop, e_seq, e_setR, e_setT, e_list, e_tup, e_cons, e_meth, e_var, e_nil, e_idx, e_neg, e_k, e_set, e_aug, e_bin, e_mod, e_div, e_if, e_ret, e_and, e_or, e_not, e_tv, e_onI, e_call, e_aTupR, e_aTup, e_aName, e_gName, e_gNs, e_clsO, e_onone, e_osome, e_slice, List.getElem?_cons_zero, List.getElem?_cons_succ, List.set_cons_zero, List.set_cons_succ, List.length_cons, List.length_nil, List.reverse_cons, List.reverse_nil, List.nil_append, List.cons_append, e_setAll, e_setAll0, asL_loc, ie]
    have wl2 := g2.wl
    rw [List.reverse_cons] at wl2
    refine idx_last wl2 hlen way_last ?_
    refine idx_nat g2.nl (by rw [ndV_len]; omega) (ndV_at (show p < N by omega)) ?_
    refine ⟨g2.lk.cls (by omega), g2.lk.cls (by omega), ?_⟩
    rw [g2.lk.pub (by omega)]
    refine idx_nat g2.nl (by rw [ndV_len]; omega) (ndV_at hn) ?_
    simp only [e_index, e_mkId, e_idInit, e_idxX, e_setI, e_setTX, e_aTupXT, e_dict0, e_kGlob2, e_kGlob3, e_lenS, e_gSlotO0, e_gSlotO1, e_gSlot1, e_mkEI, e_kFalse, e_slot, e_comp0, e_mul, e_eqXI, e_eqXS, e_neXI, e_neXL, e_pow, e_is, e_sum, e_minL, e_inI, e_tTrue, true_and, and_true, ne_eq, not_false_eq_true, Int.reduceEq, Nat.reduceLeDiff, Nat.reduceLT, reduceIte, Option.isSome_some, reduceCtorEq, Int.reduceBEq, Int.reduceNeg, Int.reduceLT, Nat.reduceAdd, Bool.false_eq_true, Bool.not_true, Bool.not_false, if_true, if_false, e_skip, e_isN, isN, id, e_mkTI, e_addI, e_addS, e_min, e_max, e_drop, e_append, e_pop, e_seq, e_setR, e_setT, e_list, e_tup, e_cons, e_meth, e_var, e_nil, e_idx, e_neg, e_k, e_set, e_aug, e_bin, e_mod, e_div, e_if, e_ret, e_and, e_or, e_not, e_tv, e_onI, e_call, e_aTupR, e_aTup, e_aName, e_gName, e_gNs, e_clsO, e_onone, e_osome, e_slice, List.getElem?_cons_zero, List.getElem?_cons_succ, List.set_cons_zero, List.set_cons_succ, List.length_cons, List.length_nil, List.reverse_cons, List.reverse_nil, List.nil_append, List.cons_append, e_setAll, e_setAll0, asL_loc]
    refine ⟨g2.lk.ini (by omega), ?_⟩
    have g3 := g2.setR hPN hb (p := p) (by omega) (by omega) (some n)
    rw [show ov b (some n) = .loc (b + n) from rfl] at g3
    generalize H2.set (b + p) (.inst 0 [some (ov b (upd L n cur p)), some (.loc (b + n))]) = H3 at *
    have wl3 := g3.wl
    rw [List.reverse_cons] at wl3
    rw [wl3]
    refine ⟨rfl, hlen, hr _ _ ⟨⟨_, _, _, rfl⟩, n :: p :: st, _, _, g3.way hiW hb hn (n :: p :: st) ?_, Z⟩⟩
    simp
theorem grow_body {b N iN iM iW : Nat} {nums : List Int} {H0 : HW} (hN : nums.length = N) (hl : N ≤ 500) (hb : b + N ≤ H0.length) (hPN : PN b N iN ∧ PN b N iM) (hiW : iN ≠ iW ∧ iM ≠ iW) {n : Nat} {v : V} (hv : ((List.range N).map natV)[n]? = some v) {sl : Sl}
    (i : (∃ x3 x4 x5, sl = [some (.loc iN), some (.loc iM), some (.loc iW), x3, x4, x5]) ∧ ∃ st L R, GS b N iN iM iW nums n st L R H0 H ∧ Zp (aOf nums) L R n st none n)
    (R' : Fl → Sl → HW → Prop) (hr : ∀ sl' H', ((∃ x3 x4 x5, sl' = [some (.loc iN), some (.loc iM), some (.loc iW), x3, x4, x5]) ∧ ∃ st L R, GS b N iN iM iW nums (n + 1) st L R H0 H' ∧ Zp (aOf nums) L R (n + 1) st none (n + 1)) → R' .next sl' H') : aName 3 v sl H fun sl₁ H₁ => grownB_b2 c sl₁ H₁ R' := by
  obtain ⟨hn, rfl⟩ := range_get hv
  obtain ⟨⟨x3, x4, x5, rfl⟩, st0, L, R, g0, z0⟩ := i
  have hsl0 : st0.length ≤ n := z0.len
  rw [e_aName, grownB_b2_eq]
  simp only [e_index, e_mkId, e_idInit, e_idxX, e_setI, e_setTX, e_aTupXT, e_dict0, e_kGlob2, e_kGlob3, e_lenS, e_gSlotO0, e_gSlotO1, e_gSlot1, e_mkEI, e_kFalse, e_slot, e_comp0, e_mul, e_eqXI, e_eqXS, e_neXI, e_neXL, e_pow, e_is, e_sum, e_minL, e_inI, e_tTrue, true_and, and_true, ne_eq, not_false_eq_true, Int.reduceEq, Nat.reduceLeDiff, Nat.reduceLT, reduceIte, Option.isSome_some, reduceCtorEq, Int.reduceBEq, Int.reduceNeg, Int.reduceLT, Nat.reduceAdd, Bool.false_eq_true, Bool.not_true, Bool.not_false, if_true, if_false, e_skip, e_isN, isN, id, e_mkTI, e_addI, e_addS, e_min, e_max, e_drop, e_append, e_pop, e_seq, e_setR, e_setT, e_list, e_tup, e_cons, e_meth, e_var, e_nil, e_idx, e_neg, e_k, e_set, e_aug, e_bin, e_mod, e_div, e_if, e_ret, e_and, e_or, e_not, e_tv, e_onI, e_call, e_aTupR, e_aTup, e_aName, e_gName, e_gNs, e_clsO, e_onone, e_osome, e_slice, List.getElem?_cons_zero, List.getElem?_cons_succ, List.set_cons_zero, List.set_cons_succ, List.length_cons, List.length_nil, List.reverse_cons, List.reverse_nil, List.nil_append, List.cons_append, e_setAll, e_setAll0, asL_loc]
  refine while_ok (n := st0.length) (fun q sl H' => ∃ st cur lo, st.length = q ∧ st.length ≤ n ∧ sl = [some (.loc iN), some (.loc iM), some (.loc iW), some (natV n), some (ov b cur), x5] ∧ GS b N iN iM iW nums n st L R H0 H' ∧ Zp (aOf nums) L R n st cur lo ∧ CT (aOf nums) L R lo n cur ∧ lo ≤ n ∧ ∀ j, lo ≤ j → j < n → aOf nums n < aOf nums j) ?_ ⟨st0, none, n, rfl, hsl0, rfl, g0, z0, .nil, Nat.le_refl _, fun j h1 h2 => by omega⟩
  rintro q sl H' ⟨st, cur, lo, hq, hqn, rfl, g, z, ct, hlo, hlt⟩ K hK _
  simp only [e_index, e_mkId, e_idInit, e_idxX, e_setI, e_setTX, e_aTupXT, e_dict0, e_kGlob2, e_kGlob3, e_lenS, e_gSlotO0, e_gSlotO1, e_gSlot1, e_mkEI, e_kFalse, e_slot, e_comp0, e_mul, e_eqXI, e_eqXS, e_neXI, e_neXL, e_pow, e_is, e_sum, e_minL, e_inI, e_tTrue, true_and, and_true, ne_eq, not_false_eq_true, Int.reduceEq, Nat.reduceLeDiff, Nat.reduceLT, reduceIte, Option.isSome_some, reduceCtorEq, Int.reduceBEq, Int.reduceNeg, Int.reduceLT, Nat.reduceAdd, Bool.false_eq_true, Bool.not_true, Bool.not_false, if_true, if_false, e_skip, e_isN, isN, id, e_mkTI, e_addI, e_addS, e_min, e_max, e_drop, e_append, e_pop, e_seq, e_setR, e_setT, e_list, e_tup, e_cons, e_meth, e_var, e_nil, e_idx, e_neg, e_k, e_set, e_aug, e_bin, e_mod, e_div, e_if, e_ret, e_and, e_or, e_not, e_tv, e_onI, e_call, e_aTupR, e_aTup, e_aName, e_gName, e_gNs, e_clsO, e_onone, e_osome, e_slice, List.getElem?_cons_zero, List.getElem?_cons_succ, List.set_cons_zero, List.set_cons_succ, List.length_cons, List.length_nil, List.reverse_cons, List.reverse_nil, List.nil_append, List.cons_append, e_setAll, e_setAll0, asL_loc]
  refine ne_nil_ints g.wl ?_
  have g1 : GS b N iN iM iW nums n st L R H0 (H' ++ [.list []]) := g.ext .app
  generalize H' ++ [LO.list []] = H1 at *
  cases st with
  | nil =>
    simp only [e_index, e_mkId, e_idInit, e_idxX, e_setI, e_setTX, e_aTupXT, e_dict0, e_kGlob2, e_kGlob3, e_lenS, e_gSlotO0, e_gSlotO1, e_gSlot1, e_mkEI, e_kFalse, e_slot, e_comp0, e_mul, e_eqXI, e_eqXS, e_neXI, e_neXL, e_pow, e_is, e_sum, e_minL, e_inI, e_tTrue, true_and, and_true, ne_eq, not_false_eq_true, Int.reduceEq, Nat.reduceLeDiff, Nat.reduceLT, reduceIte, Option.isSome_some, reduceCtorEq, Int.reduceBEq, Int.reduceNeg, Int.reduceLT, Nat.reduceAdd, Bool.false_eq_true, Bool.not_true, Bool.not_false, if_true, if_false, e_skip, e_isN, isN, id, e_mkTI, e_addI, e_addS, e_min, e_max, e_drop, e_append, e_pop, e_seq, e_setR, e_setT, e_list, e_tup, e_cons, e_meth, e_var, e_nil, e_idx, e_neg, e_k, e_set, e_aug, e_bin, e_mod, e_div, e_if, e_ret, e_and, e_or, e_not, e_tv, e_onI, e_call, e_aTupR, e_aTup, e_aName, e_gName, e_gNs, e_clsO, e_onone, e_osome, e_slice, List.getElem?_cons_zero, List.getElem?_cons_succ, List.set_cons_zero, List.set_cons_succ, List.length_cons, List.length_nil, List.reverse_cons, List.reverse_nil, List.nil_append, List.cons_append, e_setAll, e_setAll0, asL_loc, List.reverse_nil, List.map_nil, List.isEmpty_nil]
    exact grow_tail hl hb hPN hiW hn g1 z ct hlo hlt (fun p h => by cases h) (by simp) R' hr
  | cons p st =>
    have hpn := (z.mem p List.mem_cons_self).2
    have ie : ((st.reverse ++ [p]).map fun (k : Nat) => (k : Int)).isEmpty = false := by simp
    have hlen : (((st.reverse ++ [p]).map fun (k : Nat) => (k : Int)).map V.int).length ≤ 1000000 := by simp at hqn ⊢; omega
    have wl1 := g1.wl
    rw [List.reverse_cons] at wl1
    simp only [e_index, e_mkId, e_idInit, e_idxX, e_setI, e_setTX, e_aTupXT, e_dict0, e_kGlob2, e_kGlob3, e_lenS, e_gSlotO0, e_gSlotO1, e_gSlot1, e_mkEI, e_kFalse, e_slot, e_comp0, e_mul, e_eqXI, e_eqXS, e_neXI, e_neXL, e_pow, e_is, e_sum, e_minL, e_inI, e_tTrue, true_and, and_true, ne_eq, not_false_eq_true, Int.reduceEq, Nat.reduceLeDiff, Nat.reduceLT, reduceIte, Option.isSome_some, reduceCtorEq, Int.reduceBEq, Int.reduceNeg, Int.reduceLT, Nat.reduceAdd, Bool.false_eq_true, Bool.not_true, Bool.not_false, if_true, if_false, e_skip, e_isN, isN, id, e_mkTI, e_addI, e_addS, e_min, e_max, e_drop, e_append, e_pop, e_seq, e_setR, e_setT, e_list, e_tup, e_cons, e_meth, e_var, e_nil, e_idx, e_neg, e_k, e_set, e_aug, e_bin, e_mod, e_div, e_if, e_ret, e_and, e_or, e_not, e_tv, e_onI, e_call, e_aTupR, e_aTup, e_aName, e_gName, e_gNs, e_clsO, e_onone, e_osome, e_slice, List.getElem?_cons_zero, List.getElem?_cons_succ, List.set_cons_zero, List.set_cons_succ, List.length_cons, List.length_nil, List.reverse_cons, List.reverse_nil, List.nil_append, List.cons_append, e_setAll, e_setAll0, asL_loc, ie]
    refine idx_last wl1 hlen way_last ?_
    refine idx_nat g1.ml (by simp; omega) (aOf_at (show p < nums.length by omega)) ?_
    refine idx_nat g1.ml (by simp; omega) (aOf_at (show n < nums.length by omega)) ?_
    simp only [e_index, e_mkId, e_idInit, e_idxX, e_setI, e_setTX, e_aTupXT, e_dict0, e_kGlob2, e_kGlob3, e_lenS, e_gSlotO0, e_gSlotO1, e_gSlot1, e_mkEI, e_kFalse, e_slot, e_comp0, e_mul, e_eqXI, e_eqXS, e_neXI, e_neXL, e_pow, e_is, e_sum, e_minL, e_inI, e_tTrue, true_and, and_true, ne_eq, not_false_eq_true, Int.reduceEq, Nat.reduceLeDiff, Nat.reduceLT, reduceIte, Option.isSome_some, reduceCtorEq, Int.reduceBEq, Int.reduceNeg, Int.reduceLT, Nat.reduceAdd, Bool.false_eq_true, Bool.not_true, Bool.not_false, if_true, if_false, e_skip, e_isN, isN, id, e_mkTI, e_addI, e_addS, e_min, e_max, e_drop, e_append, e_pop, e_seq, e_setR, e_setT, e_list, e_tup, e_cons, e_meth, e_var, e_nil, e_idx, e_neg, e_k, e_set, e_aug, e_bin, e_mod, e_div, e_if, e_ret, e_and, e_or, e_not, e_tv, e_onI, e_call, e_aTupR, e_aTup, e_aName, e_gName, e_gNs, e_clsO, e_onone, e_osome, e_slice, List.getElem?_cons_zero, List.getElem?_cons_succ, List.set_cons_zero, List.set_cons_succ, List.length_cons, List.length_nil, List.reverse_cons, List.reverse_nil, List.nil_append, List.cons_append, e_setAll, e_setAll0, asL_loc]
    by_cases hgt : aOf nums n < aOf nums p
    · simp only [e_index, e_mkId, e_idInit, e_idxX, e_setI, e_setTX, e_aTupXT, e_dict0, e_kGlob2, e_kGlob3, e_lenS, e_gSlotO0, e_gSlotO1, e_gSlot1, e_mkEI, e_kFalse, e_slot, e_comp0, e_mul, e_eqXI, e_eqXS, e_neXI, e_neXL, e_pow, e_is, e_sum, e_minL, e_inI, e_tTrue, true_and, and_true, ne_eq, not_false_eq_true, Int.reduceEq, Nat.reduceLeDiff, Nat.reduceLT, reduceIte, Option.isSome_some, reduceCtorEq, Int.reduceBEq, Int.reduceNeg, Int.reduceLT, Nat.reduceAdd, Bool.false_eq_true, Bool.not_true, Bool.not_false, if_true, if_false, e_skip, e_isN, isN, id, e_mkTI, e_addI, e_addS, e_min, e_max, e_drop, e_append, e_pop, e_seq, e_setR, e_setT, e_list, e_tup, e_cons, e_meth, e_var, e_nil, e_idx, e_neg, e_k, e_set, e_aug, e_bin, e_mod, e_div, e_if, e_ret, e_and, e_or, e_not, e_tv, e_onI, e_call, e_aTupR, e_aTup, e_aName, e_gName, e_gNs, e_clsO, e_onone, e_osome, e_slice, List.getElem?_cons_zero, List.getElem?_cons_succ, List.set_cons_zero, List.set_cons_succ, List.length_cons, List.length_nil, List.reverse_cons, List.reverse_nil, List.nil_append, List.cons_append, e_setAll, e_setAll0, asL_loc, decide_eq_true hgt]
      unfold grownB_b1
      simp only [e_index, e_mkId, e_idInit, e_idxX, e_setI, e_setTX, e_aTupXT, e_dict0, e_kGlob2, e_kGlob3, e_lenS, e_gSlotO0, e_gSlotO1, e_gSlot1, e_mkEI, e_kFalse, e_slot, e_comp0, e_mul, e_eqXI, e_eqXS, e_neXI, e_neXL, e_pow, e_is, e_sum, e_minL, e_inI, e_tTrue, true_and, and_true, ne_eq, not_false_eq_true, Int.reduceEq, Nat.reduceLeDiff, Nat.reduceLT, reduceIte, Option.isSome_some, reduceCtorEq, Int.reduceBEq, Int.reduceNeg, Int.reduceLT, Nat.reduceAdd, Bool.false_eq_true, Bool.not_true, Bool.not_false, if_true, if_false, e_skip, e_isN, isN, id, e_mkTI, e_addI, e_addS, e_min, e_max, e_drop, e_append, e_pop, e_seq, e_setR, e_setT, e_list, e_tup, e_cons, e_meth, e_var, e_nil, e_idx, e_neg, e_k, e_set, e_aug, e_bin, e_mod, e_div, e_if, e_ret, e_and, e_or, e_not, e_tv, e_onI, e_call, e_aTupR, e_aTup, e_aName, e_gName, e_gNs, e_clsO, e_onone, e_osome, e_slice, List.getElem?_cons_zero, List.getElem?_cons_succ, List.set_cons_zero, List.set_cons_succ, List.length_cons, List.length_nil, List.reverse_cons, List.reverse_nil, List.nil_append, List.cons_append, e_setAll, e_setAll0, asL_loc, wl1]
      refine ⟨hlen, ?_⟩
      rw [way_last]
      obtain ⟨lo', z', ct', hlo', hlt'⟩ := z.pop ct hgt hlt
      have g2 := g1.way hiW hb (by omega) st (way_drop (p := p))
      refine idx_nat g2.nl (by rw [ndV_len]; omega) (ndV_at (show p < N by omega)) ?_
      cases q with
      | zero => simp at hq
      | succ q => exact hK q _ _ rfl ⟨st, some p, lo', by simpa using hq, by simp at hqn; omega, rfl, g2, z', ct', hlo', hlt'⟩
    · simp only [e_index, e_mkId, e_idInit, e_idxX, e_setI, e_setTX, e_aTupXT, e_dict0, e_kGlob2, e_kGlob3, e_lenS, e_gSlotO0, e_gSlotO1, e_gSlot1, e_mkEI, e_kFalse, e_slot, e_comp0, e_mul, e_eqXI, e_eqXS, e_neXI, e_neXL, e_pow, e_is, e_sum, e_minL, e_inI, e_tTrue, true_and, and_true, ne_eq, not_false_eq_true, Int.reduceEq, Nat.reduceLeDiff, Nat.reduceLT, reduceIte, Option.isSome_some, reduceCtorEq, Int.reduceBEq, Int.reduceNeg, Int.reduceLT, Nat.reduceAdd, Bool.false_eq_true, Bool.not_true, Bool.not_false, if_true, if_false, e_skip, e_isN, isN, id, e_mkTI, e_addI, e_addS, e_min, e_max, e_drop, e_append, e_pop, e_seq, e_setR, e_setT, e_list, e_tup, e_cons, e_meth, e_var, e_nil, e_idx, e_neg, e_k, e_set, e_aug, e_bin, e_mod, e_div, e_if, e_ret, e_and, e_or, e_not, e_tv, e_onI, e_call, e_aTupR, e_aTup, e_aName, e_gName, e_gNs, e_clsO, e_onone, e_osome, e_slice, List.getElem?_cons_zero, List.getElem?_cons_succ, List.set_cons_zero, List.set_cons_succ, List.length_cons, List.length_nil, List.reverse_cons, List.reverse_nil, List.nil_append, List.cons_append, e_setAll, e_setAll0, asL_loc, decide_eq_false hgt]
      exact grow_tail hl hb hPN hiW hn g1 z ct hlo hlt (fun p' h => by simp at h; subst h; omega) (by omega) R' hr
theorem grown_plain {args Q} (h : grownW args H Q) : fnW 2 4 (grownB c) args H Q := by
  obtain ⟨b, N, iN, iM, nums, rfl, hN, hM, rfl, h0, h5, ⟨p1, p2, p3⟩, hi, q⟩ := h
  refine ⟨rfl, ?_⟩
  show grownB c [some (.loc iN), some (.loc iM), none, none, none, none] H _
  have lN := lstAt_lt hN
  have lM := lstAt_lt hM
  unfold grownB
  simp only [e_index, e_mkId, e_idInit, e_idxX, e_setI, e_setTX, e_aTupXT, e_dict0, e_kGlob2, e_kGlob3, e_lenS, e_gSlotO0, e_gSlotO1, e_gSlot1, e_mkEI, e_kFalse, e_slot, e_comp0, e_mul, e_eqXI, e_eqXS, e_neXI, e_neXL, e_pow, e_is, e_sum, e_minL, e_inI, e_tTrue, true_and, and_true, ne_eq, not_false_eq_true, Int.reduceEq, Nat.reduceLeDiff, Nat.reduceLT, reduceIte, Option.isSome_some, reduceCtorEq, Int.reduceBEq, Int.reduceNeg, Int.reduceLT, Nat.reduceAdd, Bool.false_eq_true, Bool.not_true, Bool.not_false, if_true, if_false, e_skip, e_isN, isN, id, e_mkTI, e_addI, e_addS, e_min, e_max, e_drop, e_append, e_pop, e_seq, e_setR, e_setT, e_list, e_tup, e_cons, e_meth, e_var, e_nil, e_idx, e_neg, e_k, e_set, e_aug, e_bin, e_mod, e_div, e_if, e_ret, e_and, e_or, e_not, e_tv, e_onI, e_call, e_aTupR, e_aTup, e_aName, e_gName, e_gNs, e_clsO, e_onone, e_osome, e_slice, List.getElem?_cons_zero, List.getElem?_cons_succ, List.set_cons_zero, List.set_cons_succ, List.length_cons, List.length_nil, List.reverse_cons, List.reverse_nil, List.nil_append, List.cons_append, e_setAll, e_setAll0, asL_loc]
  refine for_range (m := nums.length) (fun R r => ?_) (by omega) (for_inv (fun n sl H' => (∃ x3 x4 x5, sl = [some (.loc iN), some (.loc iM), some (.loc H.length), x3, x4, x5]) ∧ ∃ st L R, GS b nums.length iN iM H.length nums n st L R H H' ∧ Zp (aOf nums) L R n st none n) (by intros; exact trivial) (fun n v sl H' hv i R hr => grow_body (H := H') rfl h5 p3 ⟨p1, p2⟩ ⟨by omega, by omega⟩ hv i R hr) ?_ ⟨⟨_, _, _, rfl⟩, [], fun _ => none, fun _ => none, ⟨lstAt_ext hN, lstAt_ext hM, lstAt_new, fun k hk => by omega, fun k _ hk => Ext.at .app (hi k hk), Ext.keepP .app, Nat.le_refl _⟩, .nil⟩)
  · simp only [e_index, e_mkId, e_idInit, e_idxX, e_setI, e_setTX, e_aTupXT, e_dict0, e_kGlob2, e_kGlob3, e_lenS, e_gSlotO0, e_gSlotO1, e_gSlot1, e_mkEI, e_kFalse, e_slot, e_comp0, e_mul, e_eqXI, e_eqXS, e_neXI, e_neXL, e_pow, e_is, e_sum, e_minL, e_inI, e_tTrue, true_and, and_true, ne_eq, not_false_eq_true, Int.reduceEq, Nat.reduceLeDiff, Nat.reduceLT, reduceIte, Option.isSome_some, reduceCtorEq, Int.reduceBEq, Int.reduceNeg, Int.reduceLT, Nat.reduceAdd, Bool.false_eq_true, Bool.not_true, Bool.not_false, if_true, if_false, e_skip, e_isN, isN, id, e_mkTI, e_addI, e_addS, e_min, e_max, e_drop, e_append, e_pop, e_seq, e_setR, e_setT, e_list, e_tup, e_cons, e_meth, e_var, e_nil, e_idx, e_neg, e_k, e_set, e_aug, e_bin, e_mod, e_div, e_if, e_ret, e_and, e_or, e_not, e_tv, e_onI, e_call, e_aTupR, e_aTup, e_aName, e_gName, e_gNs, e_clsO, e_onone, e_osome, e_slice, List.getElem?_cons_zero, List.getElem?_cons_succ, List.set_cons_zero, List.set_cons_succ, List.length_cons, List.length_nil, List.reverse_cons, List.reverse_nil, List.nil_append, List.cons_append, e_setAll, e_setAll0, asL_loc, e_len (lstAt_ext (L := [LO.list []]) hM), List.length_map]
    exact ⟨by omega, r⟩
  rintro sl1 H1 ⟨⟨x3, x4, x5, rfl⟩, st, L, R, g, z⟩
  rw [List.length_map, List.length_range] at g z
  have dn := z.done .nil
  have hne : st ≠ [] := fun e => by
    subst e
    have := z.nil_lo
    omega
  obtain ⟨p, hp⟩ : ∃ p, st.getLast? = some p := ⟨_, List.getLast?_eq_some_getLast hne⟩
  rw [hp] at dn
  have hpl := z.mem p (List.mem_of_getLast? hp)
  have hsl := z.len
  have gp : getI ((st.reverse.map fun (k : Nat) => (k : Int)).map V.int) 0 = some (natV p) := by
    have := getI_nat (xs := (st.reverse.map fun (k : Nat) => (k : Int)).map V.int) (k := 0)
    rw [show ((0 : Nat) : Int) = 0 from rfl] at this
    rw [this, List.getElem?_map, List.getElem?_map, ← List.head?_eq_getElem?, List.head?_reverse, hp]
    rfl
  simp only [e_index, e_mkId, e_idInit, e_idxX, e_setI, e_setTX, e_aTupXT, e_dict0, e_kGlob2, e_kGlob3, e_lenS, e_gSlotO0, e_gSlotO1, e_gSlot1, e_mkEI, e_kFalse, e_slot, e_comp0, e_mul, e_eqXI, e_eqXS, e_neXI, e_neXL, e_pow, e_is, e_sum, e_minL, e_inI, e_tTrue, true_and, and_true, ne_eq, not_false_eq_true, Int.reduceEq, Nat.reduceLeDiff, Nat.reduceLT, reduceIte, Option.isSome_some, reduceCtorEq, Int.reduceBEq, Int.reduceNeg, Int.reduceLT, Nat.reduceAdd, Bool.false_eq_true, Bool.not_true, Bool.not_false, if_true, if_false, e_skip, e_isN, isN, id, e_mkTI, e_addI, e_addS, e_min, e_max, e_drop, e_append, e_pop, e_seq, e_setR, e_setT, e_list, e_tup, e_cons, e_meth, e_var, e_nil, e_idx, e_neg, e_k, e_set, e_aug, e_bin, e_mod, e_div, e_if, e_ret, e_and, e_or, e_not, e_tv, e_onI, e_call, e_aTupR, e_aTup, e_aName, e_gName, e_gNs, e_clsO, e_onone, e_osome, e_slice, List.getElem?_cons_zero, List.getElem?_cons_succ, List.set_cons_zero, List.set_cons_succ, List.length_cons, List.length_nil, List.reverse_cons, List.reverse_nil, List.nil_append, List.cons_append, e_setAll, e_setAll0, asL_loc]
  refine idx_lst g.wl (by simp; omega) gp ?_
  refine idx_nat g.nl (by rw [ndV_len]; omega) (ndV_at (show p < nums.length by omega)) ?_
  exact q L R p H1 dn g.lk g.kp
/-! ### the tree is walked -/
/-- what stands while the tree is walked -/
structure WS1 (b N iR : Nat) (L R : Nat → Option Nat) (row : List V) (H0 H : HW) : Prop where
  lk : Lk b N L R H
  rl : lstAt H iR = some row
  kp : KeepP (PN b N) H0 H
  w0 : H0.length ≤ iR ∧ b + N ≤ iR
theorem WS1.setR {b N iR L R row H0} (g : WS1 b N iR L R row H0 H) {k : Nat} (hk : k < N) (v : Option Nat) : WS1 b N iR L (upd R k v) row H0 (H.set (b + k) (.inst 0 [some (ov b (L k)), some (ov b v)])) :=
  ⟨g.lk.setR hk, by rw [lstAt_set_ne (by have := g.w0; omega)]; exact g.rl, g.kp.trans (.set fun h => by rcases h with h | h <;> omega), g.w0⟩
theorem WS1.app {b N iR L R row H0} (g : WS1 b N iR L R row H0 H) (v : V) : WS1 b N iR L R (row ++ [v]) H0 (H.set iR (.list (row ++ [v]))) := by
  refine ⟨g.lk.other g.w0.2, lstAt_set (lstAt_lt g.rl), ⟨by have := g.kp.len; simpa using this, fun k o hk e => ?_⟩, g.w0⟩
  have := (List.getElem?_eq_some_iff.mp e).1
  have := g.w0
  rw [List.getElem?_set_ne (by omega)]
  exact g.kp.at_ k o hk e
def walkedW : WF := fun args H Q => ∃ (b N root : Nat) (a : Nat → Int) (L R : Nat → Option Nat), args = [.loc (b + root)] ∧ CT a L R 0 N (some root) ∧ N ≤ 500 ∧ b + N ≤ H.length ∧ Lk b N L R H ∧
  ∀ k H', H.length ≤ k → lstAt H' k = some (ndV b N) → Lk b N L R H' → KeepP (PN b N) H H' → Q (.loc k) H'
abbrev tW (c : Cx) : WT := tAnd (tv (wBin (wIs c not) (wMeth c 0 (gSlot c 0 1) (wVar 2) wNil) (wK V.none))) (tv (wBin (wIs c not) (wMeth c 0 (gSlot c 0 1) (wVar 2) wNil) (wVar 0)))
theorem CT.right {a L R lo hi r} (x : CT a L R lo hi (some r)) : (r + 1 = hi ∧ R r = none) ∨ ∃ r', R r = some r' ∧ CT a L R (r + 1) hi (some r') ∧ r + 1 < hi := by
  cases x with
  | node f h1 h2 =>
    have := f.lt
    cases hr : R r with
    | none => left; rw [hr] at h2; exact ⟨h2.none_iff.mp rfl, rfl⟩
    | some r' =>
      right
      rw [hr] at h2
      refine ⟨r', rfl, h2, ?_⟩
      have h3 := h2.le
      have h4 : r + 1 ≠ hi := fun e => by have := h2.none_iff.mpr e; cases this
      omega
/-- to the last one of the left part -/
theorem last_ok {b N iR : Nat} {a L R R1 row H0 m} {Q : Fl → Sl → HW → Prop} (g : WS1 b N iR L R1 row H0 H) (hm : m < N) : ∀ (s lo r : Nat), m - lo ≤ s → CT a L R lo m (some r) → (∀ j, lo ≤ j → j + 1 < m → R1 j = R j) → (R1 (m - 1) = none ∨ R1 (m - 1) = some m) →
    Q .next [some (.loc (b + m)), some (.loc iR), some (.loc (b + (m - 1)))] H → wWhile (tW c) (walkedB_b1 c) [some (.loc (b + m)), some (.loc iR), some (.loc (b + r))] H Q
  | 0, lo, r, hs, ct, _, _, _ => by
    have := ct.le
    have e : lo = m := by omega
    have := ct.none_iff.mpr e
    cases this
  | s + 1, lo, r, hs, ct, hR, hT, q => by
    have hr : lo ≤ r ∧ r < m := by cases ct with | node f _ _ => exact ⟨f.ge, f.lt⟩
    rcases ct.right with ⟨e, hn⟩ | ⟨r', hr', ct', hlt⟩
    · have er : r = m - 1 := by omega
      subst er
      refine ⟨1, ?_⟩
      show tW c _ H _
      unfold tW
      rcases hT with hT | hT
      · simp only [e_index, e_mkId, e_idInit, e_idxX, e_setI, e_setTX, e_aTupXT, e_dict0, e_kGlob2, e_kGlob3, e_lenS, e_gSlotO0, e_gSlotO1, e_gSlot1, e_mkEI, e_kFalse, e_slot, e_comp0, e_mul, e_eqXI, e_eqXS, e_neXI, e_neXL, e_pow, e_is, e_sum, e_minL, e_inI, e_tTrue, true_and, and_true, ne_eq, not_false_eq_true, Int.reduceEq, Nat.reduceLeDiff, Nat.reduceLT, reduceIte, Option.isSome_some, reduceCtorEq, Int.reduceBEq, Int.reduceNeg, Int.reduceLT, Nat.reduceAdd, Bool.false_eq_true, Bool.not_true, Bool.not_false, if_true, if_false, e_skip, e_isN, isN, id, e_mkTI, e_addI, e_addS, e_min, e_max, e_drop, e_append, e_pop, e_seq, e_setR, e_setT, e_list, e_tup, e_cons, e_meth, e_var, e_nil, e_idx, e_neg, e_k, e_set, e_aug, e_bin, e_mod, e_div, e_if, e_ret, e_and, e_or, e_not, e_tv, e_onI, e_call, e_aTupR, e_aTup, e_aName, e_gName, e_gNs, e_clsO, e_onone, e_osome, e_slice, List.getElem?_cons_zero, List.getElem?_cons_succ, List.set_cons_zero, List.set_cons_succ, List.length_cons, List.length_nil, List.reverse_cons, List.reverse_nil, List.nil_append, List.cons_append, e_setAll, e_setAll0, asL_loc, g.lk.cls (c := c) (show m - 1 < N by omega), g.lk.sys (c := c) (show m - 1 < N by omega), hT, ov_s, ov_n, isV]
        exact q
      · simp only [e_index, e_mkId, e_idInit, e_idxX, e_setI, e_setTX, e_aTupXT, e_dict0, e_kGlob2, e_kGlob3, e_lenS, e_gSlotO0, e_gSlotO1, e_gSlot1, e_mkEI, e_kFalse, e_slot, e_comp0, e_mul, e_eqXI, e_eqXS, e_neXI, e_neXL, e_pow, e_is, e_sum, e_minL, e_inI, e_tTrue, true_and, and_true, ne_eq, not_false_eq_true, Int.reduceEq, Nat.reduceLeDiff, Nat.reduceLT, reduceIte, Option.isSome_some, reduceCtorEq, Int.reduceBEq, Int.reduceNeg, Int.reduceLT, Nat.reduceAdd, Bool.false_eq_true, Bool.not_true, Bool.not_false, if_true, if_false, e_skip, e_isN, isN, id, e_mkTI, e_addI, e_addS, e_min, e_max, e_drop, e_append, e_pop, e_seq, e_setR, e_setT, e_list, e_tup, e_cons, e_meth, e_var, e_nil, e_idx, e_neg, e_k, e_set, e_aug, e_bin, e_mod, e_div, e_if, e_ret, e_and, e_or, e_not, e_tv, e_onI, e_call, e_aTupR, e_aTup, e_aName, e_gName, e_gNs, e_clsO, e_onone, e_osome, e_slice, List.getElem?_cons_zero, List.getElem?_cons_succ, List.set_cons_zero, List.set_cons_succ, List.length_cons, List.length_nil, List.reverse_cons, List.reverse_nil, List.nil_append, List.cons_append, e_setAll, e_setAll0, asL_loc, g.lk.cls (c := c) (show m - 1 < N by omega), g.lk.sys (c := c) (show m - 1 < N by omega), hT, ov_s, ov_n, isV, beq_self_eq_true]
        exact q
    · obtain ⟨n, h⟩ := last_ok g hm s (r + 1) r' (by omega) ct' (fun j h1 h2 => hR j (by omega) h2) hT q
      have hr2 : r' < m := by cases ct' with | node f _ _ => exact f.lt
      have e1 : R1 r = some r' := by rw [hR r hr.1 (by omega)]; exact hr'
      have ne : (b + r' == b + m) = false := by simp; omega
      refine ⟨n + 1, ?_⟩
      show tW c _ H _
      unfold tW
      simp only [e_index, e_mkId, e_idInit, e_idxX, e_setI, e_setTX, e_aTupXT, e_dict0, e_kGlob2, e_kGlob3, e_lenS, e_gSlotO0, e_gSlotO1, e_gSlot1, e_mkEI, e_kFalse, e_slot, e_comp0, e_mul, e_eqXI, e_eqXS, e_neXI, e_neXL, e_pow, e_is, e_sum, e_minL, e_inI, e_tTrue, true_and, and_true, ne_eq, not_false_eq_true, Int.reduceEq, Nat.reduceLeDiff, Nat.reduceLT, reduceIte, Option.isSome_some, reduceCtorEq, Int.reduceBEq, Int.reduceNeg, Int.reduceLT, Nat.reduceAdd, Bool.false_eq_true, Bool.not_true, Bool.not_false, if_true, if_false, e_skip, e_isN, isN, id, e_mkTI, e_addI, e_addS, e_min, e_max, e_drop, e_append, e_pop, e_seq, e_setR, e_setT, e_list, e_tup, e_cons, e_meth, e_var, e_nil, e_idx, e_neg, e_k, e_set, e_aug, e_bin, e_mod, e_div, e_if, e_ret, e_and, e_or, e_not, e_tv, e_onI, e_call, e_aTupR, e_aTup, e_aName, e_gName, e_gNs, e_clsO, e_onone, e_osome, e_slice, List.getElem?_cons_zero, List.getElem?_cons_succ, List.set_cons_zero, List.set_cons_succ, List.length_cons, List.length_nil, List.reverse_cons, List.reverse_nil, List.nil_append, List.cons_append, e_setAll, e_setAll0, asL_loc, g.lk.cls (c := c) (show r < N by omega), g.lk.sys (c := c) (show r < N by omega), e1, ov_s, ov_n, isV, ne]
      unfold walkedB_b1
      simp only [e_index, e_mkId, e_idInit, e_idxX, e_setI, e_setTX, e_aTupXT, e_dict0, e_kGlob2, e_kGlob3, e_lenS, e_gSlotO0, e_gSlotO1, e_gSlot1, e_mkEI, e_kFalse, e_slot, e_comp0, e_mul, e_eqXI, e_eqXS, e_neXI, e_neXL, e_pow, e_is, e_sum, e_minL, e_inI, e_tTrue, true_and, and_true, ne_eq, not_false_eq_true, Int.reduceEq, Nat.reduceLeDiff, Nat.reduceLT, reduceIte, Option.isSome_some, reduceCtorEq, Int.reduceBEq, Int.reduceNeg, Int.reduceLT, Nat.reduceAdd, Bool.false_eq_true, Bool.not_true, Bool.not_false, if_true, if_false, e_skip, e_isN, isN, id, e_mkTI, e_addI, e_addS, e_min, e_max, e_drop, e_append, e_pop, e_seq, e_setR, e_setT, e_list, e_tup, e_cons, e_meth, e_var, e_nil, e_idx, e_neg, e_k, e_set, e_aug, e_bin, e_mod, e_div, e_if, e_ret, e_and, e_or, e_not, e_tv, e_onI, e_call, e_aTupR, e_aTup, e_aName, e_gName, e_gNs, e_clsO, e_onone, e_osome, e_slice, List.getElem?_cons_zero, List.getElem?_cons_succ, List.set_cons_zero, List.set_cons_succ, List.length_cons, List.length_nil, List.reverse_cons, List.reverse_nil, List.nil_append, List.cons_append, e_setAll, e_setAll0, asL_loc, g.lk.cls (c := c) (show r < N by omega), g.lk.sys (c := c) (show r < N by omega), e1, ov_s, ov_n]
      exact h
theorem CT.last {a L R hi} : ∀ (s lo r : Nat), hi - lo ≤ s → CT a L R lo hi (some r) → R (hi - 1) = none
  | 0, lo, r, hs, ct => by
    have := ct.le
    have e : lo = hi := by omega
    have := ct.none_iff.mpr e
    cases this
  | s + 1, lo, r, hs, ct => by
    have hr : lo ≤ r ∧ r < hi := by cases ct with | node f _ _ => exact ⟨f.ge, f.lt⟩
    rcases ct.right with ⟨e, hn⟩ | ⟨r', hr', ct', hlt⟩
    · rw [show hi - 1 = r by omega]; exact hn
    · exact CT.last s (r + 1) r' (by omega) ct'
def seg (b lo n : Nat) : List V := (List.range n).map fun k => .loc (b + (lo + k))
theorem seg_succ {b lo n : Nat} : seg b lo (n + 1) = seg b lo n ++ [.loc (b + (lo + n))] := by
  unfold seg; rw [List.range_succ, List.map_append]; rfl
theorem seg_app {b lo n k : Nat} : seg b lo (n + k) = seg b lo n ++ seg b (lo + n) k := by
  induction k with
  | zero => simp [seg]
  | succ k ih => rw [← Nat.add_assoc, seg_succ, seg_succ, ih, List.append_assoc, Nat.add_assoc]
theorem seg_len {b lo n : Nat} : (seg b lo n).length = n := by unfold seg; simp
abbrev tO (c : Cx) : WT := tv (wBin (wIs c not) (wVar 0) (wK V.none))
theorem upd_back {R : Nat → Option Nat} {k : Nat} {v} (h : R k = none) : upd (upd R k v) k none = R := by
  funext j
  by_cases q : j = k
  · subst q; rw [upd_self, h]
  · rw [upd_ne q, upd_ne q]
theorem walk_span {b N iR : Nat} {a : Nat → Int} {L R : Nat → Option Nat} {H0 : HW} {Q : Fl → Sl → HW → Prop} (hN : N ≤ 500) : ∀ (s lo hi m : Nat), hi - lo ≤ s → CT a L R lo hi (some m) → hi ≤ N → ∀ (R1 : Nat → Option Nat) (row : List V) (H : HW) (x : Option V), WS1 b N iR L R1 row H0 H → row.length + (hi - lo) ≤ 1000 →
    (∀ j, lo ≤ j → j + 1 < hi → R1 j = R j) → (∀ H' x', WS1 b N iR L R1 (row ++ seg b lo (hi - lo)) H0 H' → wWhile (tO c) (walkedB_b2 c) [some (ov b (R1 (hi - 1))), some (.loc iR), x'] H' Q) → wWhile (tO c) (walkedB_b2 c) [some (.loc (b + m)), some (.loc iR), x] H Q
  | 0, lo, hi, m, hs, ct, _, _, _, _, _, _, _, _, _ => by
    have := ct.le
    have e : lo = hi := by omega
    have := ct.none_iff.mpr e
    cases this
  | s + 1, lo, hi, m, hs, ct, hh, R1, row, H, x, g, hrow, hR, q => by
    have hf : lo ≤ m ∧ m < hi := by cases ct with | node f _ _ => exact ⟨f.ge, f.lt⟩
    have hct : CT a L R lo m (L m) ∧ CT a L R (m + 1) hi (R m) := by cases ct with | node f h1 h2 => exact ⟨h1, h2⟩
    have right : ∀ H1 x1, WS1 b N iR L R1 (row ++ seg b lo (m - lo + 1)) H0 H1 → wWhile (tO c) (walkedB_b2 c) [some (ov b (R1 m)), some (.loc iR), x1] H1 Q := by
      intro H1 x1 g1
      by_cases e : m + 1 = hi
      · have e1 : m = hi - 1 := by omega
        rw [show m - lo + 1 = hi - lo by omega] at g1
        rw [e1]
        exact q H1 x1 g1
      · have e2 : R1 m = R m := hR m hf.1 (by omega)
        cases hr : R m with
        | none => exact absurd ((hct.2.none_iff).mp hr) e
        | some r =>
          rw [e2, hr]
          have h2 := hct.2
          rw [hr] at h2
          refine walk_span hN s (m + 1) hi r (by omega) h2 hh R1 _ H1 x1 g1 (by rw [List.length_append, seg_len]; omega) (fun j h1 h3 => hR j (by omega) h3) fun H' x' g' => q H' x' ?_
          rw [List.append_assoc] at g'
          rw [show hi - lo = (m - lo + 1) + (hi - (m + 1)) by omega, seg_app, show lo + (m - lo + 1) = m + 1 by omega]
          exact g'
    have hmN : m < N := by omega
    have C0 := g.lk.cls (c := c) hmN
    cases hL : L m with
    | none =>
      have elo : lo = m := by have := hct.1.none_iff.mp hL; omega
      have g1 := g.app (.loc (b + m))
      have g1' : WS1 b N iR L R1 (row ++ seg b lo (m - lo + 1)) H0 (H.set iR (.list (row ++ [.loc (b + m)]))) := by
        rw [show m - lo + 1 = 1 by omega, show seg b lo 1 = [.loc (b + m)] by simp [seg, elo]]; exact g1
      obtain ⟨n, h⟩ := right _ (some .none) g1'
      refine ⟨n + 1, ?_⟩
      show tO c _ H _
      unfold tO
      simp only [e_index, e_mkId, e_idInit, e_idxX, e_setI, e_setTX, e_aTupXT, e_dict0, e_kGlob2, e_kGlob3, e_lenS, e_gSlotO0, e_gSlotO1, e_gSlot1, e_mkEI, e_kFalse, e_slot, e_comp0, e_mul, e_eqXI, e_eqXS, e_neXI, e_neXL, e_pow, e_is, e_sum, e_minL, e_inI, e_tTrue, true_and, and_true, ne_eq, not_false_eq_true, Int.reduceEq, Nat.reduceLeDiff, Nat.reduceLT, reduceIte, Option.isSome_some, reduceCtorEq, Int.reduceBEq, Int.reduceNeg, Int.reduceLT, Nat.reduceAdd, Bool.false_eq_true, Bool.not_true, Bool.not_false, if_true, if_false, e_skip, e_isN, isN, id, e_mkTI, e_addI, e_addS, e_min, e_max, e_drop, e_append, e_pop, e_seq, e_setR, e_setT, e_list, e_tup, e_cons, e_meth, e_var, e_nil, e_idx, e_neg, e_k, e_set, e_aug, e_bin, e_mod, e_div, e_if, e_ret, e_and, e_or, e_not, e_tv, e_onI, e_call, e_aTupR, e_aTup, e_aName, e_gName, e_gNs, e_clsO, e_onone, e_osome, e_slice, List.getElem?_cons_zero, List.getElem?_cons_succ, List.set_cons_zero, List.set_cons_succ, List.length_cons, List.length_nil, List.reverse_cons, List.reverse_nil, List.nil_append, List.cons_append, e_setAll, e_setAll0, asL_loc, isV]
      unfold walkedB_b2
      simp only [e_index, e_mkId, e_idInit, e_idxX, e_setI, e_setTX, e_aTupXT, e_dict0, e_kGlob2, e_kGlob3, e_lenS, e_gSlotO0, e_gSlotO1, e_gSlot1, e_mkEI, e_kFalse, e_slot, e_comp0, e_mul, e_eqXI, e_eqXS, e_neXI, e_neXL, e_pow, e_is, e_sum, e_minL, e_inI, e_tTrue, true_and, and_true, ne_eq, not_false_eq_true, Int.reduceEq, Nat.reduceLeDiff, Nat.reduceLT, reduceIte, Option.isSome_some, reduceCtorEq, Int.reduceBEq, Int.reduceNeg, Int.reduceLT, Nat.reduceAdd, Bool.false_eq_true, Bool.not_true, Bool.not_false, if_true, if_false, e_skip, e_isN, isN, id, e_mkTI, e_addI, e_addS, e_min, e_max, e_drop, e_append, e_pop, e_seq, e_setR, e_setT, e_list, e_tup, e_cons, e_meth, e_var, e_nil, e_idx, e_neg, e_k, e_set, e_aug, e_bin, e_mod, e_div, e_if, e_ret, e_and, e_or, e_not, e_tv, e_onI, e_call, e_aTupR, e_aTup, e_aName, e_gName, e_gNs, e_clsO, e_onone, e_osome, e_slice, List.getElem?_cons_zero, List.getElem?_cons_succ, List.set_cons_zero, List.set_cons_succ, List.length_cons, List.length_nil, List.reverse_cons, List.reverse_nil, List.nil_append, List.cons_append, e_setAll, e_setAll0, asL_loc, C0, g.lk.pub (c := c) hmN, hL, ov_s, ov_n, isV, g.rl]
      refine ⟨by omega, g1.lk.cls hmN, ?_⟩
      rw [g1.lk.sys hmN]
      exact h
    | some l =>
      have cl := hct.1
      rw [hL] at cl
      have hlm : lo < m := by
        have := cl.le
        have : lo ≠ m := fun e => by have := cl.none_iff.mpr e; cases this
        omega
      have hl : l < m := by cases cl with | node f _ _ => exact f.lt
      have hm1 : m - 1 < N := by omega
      have R1m : R1 (m - 1) = none := by rw [hR (m - 1) (by omega) (by omega)]; exact cl.last _ _ _ (Nat.le_refl _)
      have second : ∀ H2 x2, WS1 b N iR L (upd R1 (m - 1) (some m)) (row ++ seg b lo (m - lo)) H0 H2 → wWhile (tO c) (walkedB_b2 c) [some (.loc (b + m)), some (.loc iR), x2] H2 Q := by
        intro H2 x2 g2
        have g3 := g2.setR hm1 none
        rw [upd_back R1m] at g3
        have g4 := g3.app (.loc (b + m))
        have g4' := g4
        rw [List.append_assoc, show [V.loc (b + m)] = [.loc (b + (lo + (m - lo)))] by rw [show lo + (m - lo) = m by omega], ← seg_succ] at g4'
        obtain ⟨n, h⟩ := right _ (some (.loc (b + (m - 1)))) g4'
        refine ⟨n + 1, ?_⟩
        show tO c _ H2 _
        unfold tO
        simp only [e_index, e_mkId, e_idInit, e_idxX, e_setI, e_setTX, e_aTupXT, e_dict0, e_kGlob2, e_kGlob3, e_lenS, e_gSlotO0, e_gSlotO1, e_gSlot1, e_mkEI, e_kFalse, e_slot, e_comp0, e_mul, e_eqXI, e_eqXS, e_neXI, e_neXL, e_pow, e_is, e_sum, e_minL, e_inI, e_tTrue, true_and, and_true, ne_eq, not_false_eq_true, Int.reduceEq, Nat.reduceLeDiff, Nat.reduceLT, reduceIte, Option.isSome_some, reduceCtorEq, Int.reduceBEq, Int.reduceNeg, Int.reduceLT, Nat.reduceAdd, Bool.false_eq_true, Bool.not_true, Bool.not_false, if_true, if_false, e_skip, e_isN, isN, id, e_mkTI, e_addI, e_addS, e_min, e_max, e_drop, e_append, e_pop, e_seq, e_setR, e_setT, e_list, e_tup, e_cons, e_meth, e_var, e_nil, e_idx, e_neg, e_k, e_set, e_aug, e_bin, e_mod, e_div, e_if, e_ret, e_and, e_or, e_not, e_tv, e_onI, e_call, e_aTupR, e_aTup, e_aName, e_gName, e_gNs, e_clsO, e_onone, e_osome, e_slice, List.getElem?_cons_zero, List.getElem?_cons_succ, List.set_cons_zero, List.set_cons_succ, List.length_cons, List.length_nil, List.reverse_cons, List.reverse_nil, List.nil_append, List.cons_append, e_setAll, e_setAll0, asL_loc, isV]
        unfold walkedB_b2
        simp only [e_index, e_mkId, e_idInit, e_idxX, e_setI, e_setTX, e_aTupXT, e_dict0, e_kGlob2, e_kGlob3, e_lenS, e_gSlotO0, e_gSlotO1, e_gSlot1, e_mkEI, e_kFalse, e_slot, e_comp0, e_mul, e_eqXI, e_eqXS, e_neXI, e_neXL, e_pow, e_is, e_sum, e_minL, e_inI, e_tTrue, true_and, and_true, ne_eq, not_false_eq_true, Int.reduceEq, Nat.reduceLeDiff, Nat.reduceLT, reduceIte, Option.isSome_some, reduceCtorEq, Int.reduceBEq, Int.reduceNeg, Int.reduceLT, Nat.reduceAdd, Bool.false_eq_true, Bool.not_true, Bool.not_false, if_true, if_false, e_skip, e_isN, isN, id, e_mkTI, e_addI, e_addS, e_min, e_max, e_drop, e_append, e_pop, e_seq, e_setR, e_setT, e_list, e_tup, e_cons, e_meth, e_var, e_nil, e_idx, e_neg, e_k, e_set, e_aug, e_bin, e_mod, e_div, e_if, e_ret, e_and, e_or, e_not, e_tv, e_onI, e_call, e_aTupR, e_aTup, e_aName, e_gName, e_gNs, e_clsO, e_onone, e_osome, e_slice, List.getElem?_cons_zero, List.getElem?_cons_succ, List.set_cons_zero, List.set_cons_succ, List.length_cons, List.length_nil, List.reverse_cons, List.reverse_nil, List.nil_append, List.cons_append, e_setAll, e_setAll0, asL_loc, g2.lk.cls (c := c) hmN, g2.lk.pub (c := c) hmN, hL, ov_s, ov_n, isV]
        refine last_ok (R := R) g2 hmN _ lo l (Nat.le_refl _) cl (fun j h1 h2 => by rw [upd_ne (by omega)]; exact hR j h1 (by omega)) (.inr upd_self) ?_
        simp only [e_index, e_mkId, e_idInit, e_idxX, e_setI, e_setTX, e_aTupXT, e_dict0, e_kGlob2, e_kGlob3, e_lenS, e_gSlotO0, e_gSlotO1, e_gSlot1, e_mkEI, e_kFalse, e_slot, e_comp0, e_mul, e_eqXI, e_eqXS, e_neXI, e_neXL, e_pow, e_is, e_sum, e_minL, e_inI, e_tTrue, true_and, and_true, ne_eq, not_false_eq_true, Int.reduceEq, Nat.reduceLeDiff, Nat.reduceLT, reduceIte, Option.isSome_some, reduceCtorEq, Int.reduceBEq, Int.reduceNeg, Int.reduceLT, Nat.reduceAdd, Bool.false_eq_true, Bool.not_true, Bool.not_false, if_true, if_false, e_skip, e_isN, isN, id, e_mkTI, e_addI, e_addS, e_min, e_max, e_drop, e_append, e_pop, e_seq, e_setR, e_setT, e_list, e_tup, e_cons, e_meth, e_var, e_nil, e_idx, e_neg, e_k, e_set, e_aug, e_bin, e_mod, e_div, e_if, e_ret, e_and, e_or, e_not, e_tv, e_onI, e_call, e_aTupR, e_aTup, e_aName, e_gName, e_gNs, e_clsO, e_onone, e_osome, e_slice, List.getElem?_cons_zero, List.getElem?_cons_succ, List.set_cons_zero, List.set_cons_succ, List.length_cons, List.length_nil, List.reverse_cons, List.reverse_nil, List.nil_append, List.cons_append, e_setAll, e_setAll0, asL_loc, g2.lk.cls (c := c) hm1, g2.lk.sys (c := c) hm1, upd_self, ov_s, ov_n, isV, g2.lk.pub (c := c) hm1]
        refine ⟨g2.lk.ini hm1, ?_⟩
        have g3l := g3.rl
        rw [show ov b none = .none from rfl] at g3l g4 g4' h g3
        rw [g3l]
        refine ⟨rfl, by rw [List.length_append, seg_len]; omega, g4.lk.cls hmN, ?_⟩
        rw [g4.lk.sys hmN]
        rw [List.append_assoc, show [V.loc (b + m)] = [.loc (b + (lo + (m - lo)))] by rw [show lo + (m - lo) = m by omega], ← seg_succ]
        exact h
      have g2 := g.setR hm1 (some m)
      have key := walk_span hN s lo m l (by omega) cl (by omega) (upd R1 (m - 1) (some m)) row _ (some (.loc (b + (m - 1)))) g2 (by omega) (fun j h1 h2 => by rw [upd_ne (by omega)]; exact hR j h1 (by omega)) (fun H' x' g' => by rw [upd_self]; exact second H' x' g')
      obtain ⟨n, h⟩ := key
      refine ⟨n + 1, ?_⟩
      show tO c _ H _
      unfold tO
      simp only [e_index, e_mkId, e_idInit, e_idxX, e_setI, e_setTX, e_aTupXT, e_dict0, e_kGlob2, e_kGlob3, e_lenS, e_gSlotO0, e_gSlotO1, e_gSlot1, e_mkEI, e_kFalse, e_slot, e_comp0, e_mul, e_eqXI, e_eqXS, e_neXI, e_neXL, e_pow, e_is, e_sum, e_minL, e_inI, e_tTrue, true_and, and_true, ne_eq, not_false_eq_true, Int.reduceEq, Nat.reduceLeDiff, Nat.reduceLT, reduceIte, Option.isSome_some, reduceCtorEq, Int.reduceBEq, Int.reduceNeg, Int.reduceLT, Nat.reduceAdd, Bool.false_eq_true, Bool.not_true, Bool.not_false, if_true, if_false, e_skip, e_isN, isN, id, e_mkTI, e_addI, e_addS, e_min, e_max, e_drop, e_append, e_pop, e_seq, e_setR, e_setT, e_list, e_tup, e_cons, e_meth, e_var, e_nil, e_idx, e_neg, e_k, e_set, e_aug, e_bin, e_mod, e_div, e_if, e_ret, e_and, e_or, e_not, e_tv, e_onI, e_call, e_aTupR, e_aTup, e_aName, e_gName, e_gNs, e_clsO, e_onone, e_osome, e_slice, List.getElem?_cons_zero, List.getElem?_cons_succ, List.set_cons_zero, List.set_cons_succ, List.length_cons, List.length_nil, List.reverse_cons, List.reverse_nil, List.nil_append, List.cons_append, e_setAll, e_setAll0, asL_loc, isV]
      unfold walkedB_b2
      simp only [e_index, e_mkId, e_idInit, e_idxX, e_setI, e_setTX, e_aTupXT, e_dict0, e_kGlob2, e_kGlob3, e_lenS, e_gSlotO0, e_gSlotO1, e_gSlot1, e_mkEI, e_kFalse, e_slot, e_comp0, e_mul, e_eqXI, e_eqXS, e_neXI, e_neXL, e_pow, e_is, e_sum, e_minL, e_inI, e_tTrue, true_and, and_true, ne_eq, not_false_eq_true, Int.reduceEq, Nat.reduceLeDiff, Nat.reduceLT, reduceIte, Option.isSome_some, reduceCtorEq, Int.reduceBEq, Int.reduceNeg, Int.reduceLT, Nat.reduceAdd, Bool.false_eq_true, Bool.not_true, Bool.not_false, if_true, if_false, e_skip, e_isN, isN, id, e_mkTI, e_addI, e_addS, e_min, e_max, e_drop, e_append, e_pop, e_seq, e_setR, e_setT, e_list, e_tup, e_cons, e_meth, e_var, e_nil, e_idx, e_neg, e_k, e_set, e_aug, e_bin, e_mod, e_div, e_if, e_ret, e_and, e_or, e_not, e_tv, e_onI, e_call, e_aTupR, e_aTup, e_aName, e_gName, e_gNs, e_clsO, e_onone, e_osome, e_slice, List.getElem?_cons_zero, List.getElem?_cons_succ, List.set_cons_zero, List.set_cons_succ, List.length_cons, List.length_nil, List.reverse_cons, List.reverse_nil, List.nil_append, List.cons_append, e_setAll, e_setAll0, asL_loc, C0, g.lk.pub (c := c) hmN, hL, ov_s, ov_n, isV]
      refine last_ok (R := R) g hmN _ lo l (Nat.le_refl _) cl (fun j h1 h2 => hR j h1 (by omega)) (.inl R1m) ?_
      simp only [e_index, e_mkId, e_idInit, e_idxX, e_setI, e_setTX, e_aTupXT, e_dict0, e_kGlob2, e_kGlob3, e_lenS, e_gSlotO0, e_gSlotO1, e_gSlot1, e_mkEI, e_kFalse, e_slot, e_comp0, e_mul, e_eqXI, e_eqXS, e_neXI, e_neXL, e_pow, e_is, e_sum, e_minL, e_inI, e_tTrue, true_and, and_true, ne_eq, not_false_eq_true, Int.reduceEq, Nat.reduceLeDiff, Nat.reduceLT, reduceIte, Option.isSome_some, reduceCtorEq, Int.reduceBEq, Int.reduceNeg, Int.reduceLT, Nat.reduceAdd, Bool.false_eq_true, Bool.not_true, Bool.not_false, if_true, if_false, e_skip, e_isN, isN, id, e_mkTI, e_addI, e_addS, e_min, e_max, e_drop, e_append, e_pop, e_seq, e_setR, e_setT, e_list, e_tup, e_cons, e_meth, e_var, e_nil, e_idx, e_neg, e_k, e_set, e_aug, e_bin, e_mod, e_div, e_if, e_ret, e_and, e_or, e_not, e_tv, e_onI, e_call, e_aTupR, e_aTup, e_aName, e_gName, e_gNs, e_clsO, e_onone, e_osome, e_slice, List.getElem?_cons_zero, List.getElem?_cons_succ, List.set_cons_zero, List.set_cons_succ, List.length_cons, List.length_nil, List.reverse_cons, List.reverse_nil, List.nil_append, List.cons_append, e_setAll, e_setAll0, asL_loc, g.lk.cls (c := c) hm1, g.lk.sys (c := c) hm1, R1m, ov_s, ov_n, isV, g.lk.pub (c := c) hm1]
      refine ⟨g.lk.ini hm1, g2.lk.cls hmN, ?_⟩
      have e := g2.lk.pub (c := c) hmN (Q := fun v H' => wWhileN (tO c) (walkedB_b2 c) n [some v, some (V.loc iR), some (V.loc (b + (m - 1)))] H' Q)
      rw [hL] at e
      exact Eq.mpr e h
theorem walked_plain {args Q} (h : walkedW args H Q) : fnW 1 2 (walkedB c) args H Q := by
  obtain ⟨b, N, root, a, L, R, rfl, ct, hN, hb, lk, q⟩ := h
  refine ⟨rfl, ?_⟩
  show walkedB c [some (.loc (b + root)), none, none] H _
  have hR := ct.last _ _ _ (Nat.le_refl _)
  unfold walkedB
  simp only [e_index, e_mkId, e_idInit, e_idxX, e_setI, e_setTX, e_aTupXT, e_dict0, e_kGlob2, e_kGlob3, e_lenS, e_gSlotO0, e_gSlotO1, e_gSlot1, e_mkEI, e_kFalse, e_slot, e_comp0, e_mul, e_eqXI, e_eqXS, e_neXI, e_neXL, e_pow, e_is, e_sum, e_minL, e_inI, e_tTrue, true_and, and_true, ne_eq, not_false_eq_true, Int.reduceEq, Nat.reduceLeDiff, Nat.reduceLT, reduceIte, Option.isSome_some, reduceCtorEq, Int.reduceBEq, Int.reduceNeg, Int.reduceLT, Nat.reduceAdd, Bool.false_eq_true, Bool.not_true, Bool.not_false, if_true, if_false, e_skip, e_isN, isN, id, e_mkTI, e_addI, e_addS, e_min, e_max, e_drop, e_append, e_pop, e_seq, e_setR, e_setT, e_list, e_tup, e_cons, e_meth, e_var, e_nil, e_idx, e_neg, e_k, e_set, e_aug, e_bin, e_mod, e_div, e_if, e_ret, e_and, e_or, e_not, e_tv, e_onI, e_call, e_aTupR, e_aTup, e_aName, e_gName, e_gNs, e_clsO, e_onone, e_osome, e_slice, List.getElem?_cons_zero, List.getElem?_cons_succ, List.set_cons_zero, List.set_cons_succ, List.length_cons, List.length_nil, List.reverse_cons, List.reverse_nil, List.nil_append, List.cons_append, e_setAll, e_setAll0, asL_loc]
  refine walk_span (a := a) (L := L) (R := R) (H0 := H) (row := []) hN N 0 N root (by omega) ct (Nat.le_refl _) R (H ++ [LO.list []]) none ⟨lk.ext .app, lstAt_new, Ext.keepP .app, Nat.le_refl _, hb⟩ (by simp; omega) (fun _ _ _ => rfl) fun H' x' g => ?_
  rw [hR]
  refine ⟨1, ?_⟩
  show tO c _ H' _
  unfold tO
  simp only [e_index, e_mkId, e_idInit, e_idxX, e_setI, e_setTX, e_aTupXT, e_dict0, e_kGlob2, e_kGlob3, e_lenS, e_gSlotO0, e_gSlotO1, e_gSlot1, e_mkEI, e_kFalse, e_slot, e_comp0, e_mul, e_eqXI, e_eqXS, e_neXI, e_neXL, e_pow, e_is, e_sum, e_minL, e_inI, e_tTrue, true_and, and_true, ne_eq, not_false_eq_true, Int.reduceEq, Nat.reduceLeDiff, Nat.reduceLT, reduceIte, Option.isSome_some, reduceCtorEq, Int.reduceBEq, Int.reduceNeg, Int.reduceLT, Nat.reduceAdd, Bool.false_eq_true, Bool.not_true, Bool.not_false, if_true, if_false, e_skip, e_isN, isN, id, e_mkTI, e_addI, e_addS, e_min, e_max, e_drop, e_append, e_pop, e_seq, e_setR, e_setT, e_list, e_tup, e_cons, e_meth, e_var, e_nil, e_idx, e_neg, e_k, e_set, e_aug, e_bin, e_mod, e_div, e_if, e_ret, e_and, e_or, e_not, e_tv, e_onI, e_call, e_aTupR, e_aTup, e_aName, e_gName, e_gNs, e_clsO, e_onone, e_osome, e_slice, List.getElem?_cons_zero, List.getElem?_cons_succ, List.set_cons_zero, List.set_cons_succ, List.length_cons, List.length_nil, List.reverse_cons, List.reverse_nil, List.nil_append, List.cons_append, e_setAll, e_setAll0, asL_loc, ov_n, isV]
  refine q _ _ (Nat.le_refl _) ?_ g.lk g.kp
  rw [g.rl, List.nil_append]
  unfold seg ndV
  simp
/-! ### the spans -/
structure SS (b N iM iN iT iS : Nat) (nums : List Int) (L R : Nat → Option Nat) (H : HW) : Prop where
  ml : lstAt H iM = some (nums.map .int)
  nl : lstAt H iN = some (ndV b N)
  tl : lstAt H iT = some (ndV b N ++ [.none])
  lk : Lk b N L R H
theorem SS.ext {b N iM iN iT iS nums L R H'} (g : SS b N iM iN iT iS nums L R H) (x : Ext H H') : SS b N iM iN iT iS nums L R H' := ⟨x.lst g.ml, x.lst g.nl, x.lst g.tl, g.lk.ext x⟩
def spanV (s : Nat × Nat × Nat) : V := .tup [natV s.1, natV s.2.1, natV s.2.2]
def total : List (Nat × Nat × Nat) → Nat
  | [] => 0
  | s :: r => (s.2.2 - s.1) + total r
theorem total_app : ∀ (a b : List (Nat × Nat × Nat)), total (a ++ b) = total a + total b
  | [], b => by simp [total]
  | s :: a, b => by simp [total, total_app a b]; omega
def spanD (s : Nat × Nat × Nat) : PyData := .tuple [.int (s.1 : Int), .int (s.2.1 : Int), .int (s.2.2 : Int)]
theorem spans_dv {ns : List Int} : ∀ ss : List (Nat × Nat × Nat), DVs ns H (ss.map spanV) (ss.map spanD)
  | [] => .nil
  | s :: ss => .cons (.tup (.cons .int (.cons .int (.cons .int .nil)))) (spans_dv ss)
theorem spans_lay : ∀ ss : List (Nat × Nat × Nat), PyData.canLayAll0 (ss.map spanD) = true ∧ PyData.depthAll (ss.map spanD) ≤ 3
  | [] => ⟨rfl, by simp [PyData.depthAll]⟩
  | s :: ss => by
    have ih := spans_lay ss
    rw [List.map_cons]
    exact ⟨by rw [PyData.canLayAll0, ih.1]; rfl, by rw [PyData.depthAll]; have := ih.2; simp [spanD, PyData.depth, PyData.depthAll]; omega⟩
def iv : Option Nat → Int
  | none => -1
  | some l => (l : Int)
theorem least_is {a L R lo hi r v} (x : CT a L R lo hi r) (h : (lo = hi ∧ v = -1) ∨ ∃ m : Nat, v = (m : Int) ∧ FL a lo hi m) : v = iv r := by
  rcases h with ⟨e, rfl⟩ | ⟨m, rfl, f⟩
  · rw [x.none_iff.mpr e]; rfl
  · cases x with
    | nil => have := f.ge; have := f.lt; omega
    | node g _ _ => rw [f.uniq g]; rfl
theorem CT.lt {a L R lo hi r} (x : CT a L R lo hi (some r)) : lo ≤ r ∧ r < hi := by cases x with | node f _ _ => exact ⟨f.ge, f.lt⟩
theorem stand_at {b N : Nat} {r : Option Nat} (h : ∀ l, r = some l → l < N) : getI (ndV b N ++ [.none]) (iv r) = some (ov b r) := by
  cases r with
  | none =>
    refine getI_last ?_
    simp [ov]
  | some l =>
    have hl := h l rfl
    show getI _ (l : Int) = _
    rw [getI_nat, List.getElem?_append_left (by rw [ndV_len]; exact hl), ndV_at hl]
    rfl
theorem isV_self {b : Nat} {r : Option Nat} : isV c (ov b r) (ov b r) = some true := by cases r <;> simp [isV, ov, isN]
/-- what the law's last loop asks of one span -/
theorem span_body {b N iM iN iT iS : Nat} {nums : List Int} {L R : Nat → Option Nat} (hN : nums.length = N) (hl : N ≤ 500) {lo m hi : Nat} {ss : List (Nat × Nat × Nat)} (hhi : hi ≤ N) (ct : CT (aOf nums) L R lo hi (some m)) {x2 x4 x7 x8 x9 x10 x11}
    (g : SS b N iM iN iT iS nums L R H) (sl0 : lstAt H iS = some ((ss ++ [(lo, m, hi)]).map spanV)) (hss : ss.length ≤ N) (hne : iS ≠ iM ∧ iS ≠ iN ∧ iS ≠ iT ∧ (iS < b ∨ b + N ≤ iS))
    (K : Fl → Sl → HW → Prop) (hK : ∀ sl' H' ss', (∃ x7 x8 x9 x10 x11, sl' = [some .script, some (.loc iM), x2, some (.loc iN), x4, some (.loc iT), some (.loc iS), x7, x8, x9, x10, x11]) → SS b N iM iN iT iS nums L R H' → lstAt H' iS = some ((ss ++ ss').map spanV) → total ss' + 1 = hi - lo → (∀ s ∈ ss', s.2.2 ≤ N ∧ CT (aOf nums) L R s.1 s.2.2 (some s.2.1)) → ss'.length ≤ 2 → K .next sl' H') :
    lawB1_b1 c leastW [some .script, some (.loc iM), x2, some (.loc iN), x4, some (.loc iT), some (.loc iS), x7, x8, x9, x10, x11] H K := by
  have hf : FL (aOf nums) lo hi m ∧ CT (aOf nums) L R lo m (L m) ∧ CT (aOf nums) L R (m + 1) hi (R m) := by cases ct with | node f h1 h2 => exact ⟨f, h1, h2⟩
  obtain ⟨f, cl, cr⟩ := hf
  have f1 := f.ge
  have f2 := f.lt
  have hgl : ((ss ++ [(lo, m, hi)]).map spanV).getLast? = some (spanV (lo, m, hi)) := by simp
  have hdl : ((ss ++ [(lo, m, hi)]).map spanV).dropLast = ss.map spanV := by simp
  have SET : ∀ {H : HW} {vs : List V}, SS b N iM iN iT iS nums L R H → SS b N iM iN iT iS nums L R (H.set iS (.list vs)) := fun {H vs} g => ⟨by rw [lstAt_set_ne (Ne.symm hne.1)]; exact g.ml, by rw [lstAt_set_ne (Ne.symm hne.2.1)]; exact g.nl, by rw [lstAt_set_ne (Ne.symm hne.2.2.1)]; exact g.tl, fun k hk => by
    rw [List.getElem?_set_ne (by rcases hne.2.2.2 with h | h <;> omega)]; exact g.lk k hk⟩
  unfold lawB1_b1
  simp only [e_index, e_mkId, e_idInit, e_idxX, e_setI, e_setTX, e_aTupXT, e_dict0, e_kGlob2, e_kGlob3, e_lenS, e_gSlotO0, e_gSlotO1, e_gSlot1, e_mkEI, e_kFalse, e_slot, e_comp0, e_mul, e_eqXI, e_eqXS, e_neXI, e_neXL, e_pow, e_is, e_sum, e_minL, e_inI, e_tTrue, true_and, and_true, ne_eq, not_false_eq_true, Int.reduceEq, Nat.reduceLeDiff, Nat.reduceLT, reduceIte, Option.isSome_some, reduceCtorEq, Int.reduceBEq, Int.reduceNeg, Int.reduceLT, Nat.reduceAdd, Bool.false_eq_true, Bool.not_true, Bool.not_false, if_true, if_false, e_skip, e_isN, isN, id, e_mkTI, e_addI, e_addS, e_min, e_max, e_drop, e_append, e_pop, e_seq, e_setR, e_setT, e_list, e_tup, e_cons, e_meth, e_var, e_nil, e_idx, e_neg, e_k, e_set, e_aug, e_bin, e_mod, e_div, e_if, e_ret, e_and, e_or, e_not, e_tv, e_onI, e_call, e_aTupR, e_aTup, e_aName, e_gName, e_gNs, e_clsO, e_onone, e_osome, e_slice, List.getElem?_cons_zero, List.getElem?_cons_succ, List.set_cons_zero, List.set_cons_succ, List.length_cons, List.length_nil, List.reverse_cons, List.reverse_nil, List.nil_append, List.cons_append, e_setAll, e_setAll0, asL_loc, sl0]
  refine ⟨by simp; omega, ?_⟩
  rw [hgl, hdl]
  unfold spanV
  simp only [e_index, e_mkId, e_idInit, e_idxX, e_setI, e_setTX, e_aTupXT, e_dict0, e_kGlob2, e_kGlob3, e_lenS, e_gSlotO0, e_gSlotO1, e_gSlot1, e_mkEI, e_kFalse, e_slot, e_comp0, e_mul, e_eqXI, e_eqXS, e_neXI, e_neXL, e_pow, e_is, e_sum, e_minL, e_inI, e_tTrue, true_and, and_true, ne_eq, not_false_eq_true, Int.reduceEq, Nat.reduceLeDiff, Nat.reduceLT, reduceIte, Option.isSome_some, reduceCtorEq, Int.reduceBEq, Int.reduceNeg, Int.reduceLT, Nat.reduceAdd, Bool.false_eq_true, Bool.not_true, Bool.not_false, if_true, if_false, e_skip, e_isN, isN, id, e_mkTI, e_addI, e_addS, e_min, e_max, e_drop, e_append, e_pop, e_seq, e_setR, e_setT, e_list, e_tup, e_cons, e_meth, e_var, e_nil, e_idx, e_neg, e_k, e_set, e_aug, e_bin, e_mod, e_div, e_if, e_ret, e_and, e_or, e_not, e_tv, e_onI, e_call, e_aTupR, e_aTup, e_aName, e_gName, e_gNs, e_clsO, e_onone, e_osome, e_slice, List.getElem?_cons_zero, List.getElem?_cons_succ, List.set_cons_zero, List.set_cons_succ, List.length_cons, List.length_nil, List.reverse_cons, List.reverse_nil, List.nil_append, List.cons_append, e_setAll, e_setAll0, asL_loc]
  have g1 := SET (vs := ss.map spanV) g
  have s1 : lstAt (H.set iS (.list (ss.map spanV))) iS = some (ss.map spanV) := lstAt_set (lstAt_lt sl0)
  show leastW _ (H.set iS (.list (ss.map spanV))) _
  generalize H.set iS (.list (ss.map spanV)) = H1 at *
  refine ⟨iM, lo, m, nums, rfl, g1.ml, by omega, f1, by omega, fun v2 H2 e2 hv2 => ?_⟩
  have ev2 := least_is cl hv2
  subst ev2
  have g2 := g1.ext e2
  have s2 := e2.lst s1
  simp only [e_index, e_mkId, e_idInit, e_idxX, e_setI, e_setTX, e_aTupXT, e_dict0, e_kGlob2, e_kGlob3, e_lenS, e_gSlotO0, e_gSlotO1, e_gSlot1, e_mkEI, e_kFalse, e_slot, e_comp0, e_mul, e_eqXI, e_eqXS, e_neXI, e_neXL, e_pow, e_is, e_sum, e_minL, e_inI, e_tTrue, true_and, and_true, ne_eq, not_false_eq_true, Int.reduceEq, Nat.reduceLeDiff, Nat.reduceLT, reduceIte, Option.isSome_some, reduceCtorEq, Int.reduceBEq, Int.reduceNeg, Int.reduceLT, Nat.reduceAdd, Bool.false_eq_true, Bool.not_true, Bool.not_false, if_true, if_false, e_skip, e_isN, isN, id, e_mkTI, e_addI, e_addS, e_min, e_max, e_drop, e_append, e_pop, e_seq, e_setR, e_setT, e_list, e_tup, e_cons, e_meth, e_var, e_nil, e_idx, e_neg, e_k, e_set, e_aug, e_bin, e_mod, e_div, e_if, e_ret, e_and, e_or, e_not, e_tv, e_onI, e_call, e_aTupR, e_aTup, e_aName, e_gName, e_gNs, e_clsO, e_onone, e_osome, e_slice, List.getElem?_cons_zero, List.getElem?_cons_succ, List.set_cons_zero, List.set_cons_succ, List.length_cons, List.length_nil, List.reverse_cons, List.reverse_nil, List.nil_append, List.cons_append, e_setAll, e_setAll0, asL_loc]
  refine ⟨iM, m + 1, hi, nums, by simp, g2.ml, by omega, by omega, by omega, fun v3 H3 e3 hv3 => ?_⟩
  have ev3 := least_is cr hv3
  subst ev3
  have g3 := g2.ext e3
  have s3 := e3.lst s2
  have hmN : m < N := by omega
  have nL : (ndV b N ++ [V.none]).length ≤ 1000000 := by rw [List.length_append, ndV_len]; simp; omega
  simp only [e_index, e_mkId, e_idInit, e_idxX, e_setI, e_setTX, e_aTupXT, e_dict0, e_kGlob2, e_kGlob3, e_lenS, e_gSlotO0, e_gSlotO1, e_gSlot1, e_mkEI, e_kFalse, e_slot, e_comp0, e_mul, e_eqXI, e_eqXS, e_neXI, e_neXL, e_pow, e_is, e_sum, e_minL, e_inI, e_tTrue, true_and, and_true, ne_eq, not_false_eq_true, Int.reduceEq, Nat.reduceLeDiff, Nat.reduceLT, reduceIte, Option.isSome_some, reduceCtorEq, Int.reduceBEq, Int.reduceNeg, Int.reduceLT, Nat.reduceAdd, Bool.false_eq_true, Bool.not_true, Bool.not_false, if_true, if_false, e_skip, e_isN, isN, id, e_mkTI, e_addI, e_addS, e_min, e_max, e_drop, e_append, e_pop, e_seq, e_setR, e_setT, e_list, e_tup, e_cons, e_meth, e_var, e_nil, e_idx, e_neg, e_k, e_set, e_aug, e_bin, e_mod, e_div, e_if, e_ret, e_and, e_or, e_not, e_tv, e_onI, e_call, e_aTupR, e_aTup, e_aName, e_gName, e_gNs, e_clsO, e_onone, e_osome, e_slice, List.getElem?_cons_zero, List.getElem?_cons_succ, List.set_cons_zero, List.set_cons_succ, List.length_cons, List.length_nil, List.reverse_cons, List.reverse_nil, List.nil_append, List.cons_append, e_setAll, e_setAll0, asL_loc]
  refine idx_nat g3.nl (by rw [ndV_len]; omega) (ndV_at hmN) ⟨g3.lk.cls hmN, ?_⟩
  rw [g3.lk.pub hmN]
  refine idx_lst g3.tl nL (stand_at fun l e => by rw [e] at cl; have := cl.lt; omega) ?_
  simp only [e_index, e_mkId, e_idInit, e_idxX, e_setI, e_setTX, e_aTupXT, e_dict0, e_kGlob2, e_kGlob3, e_lenS, e_gSlotO0, e_gSlotO1, e_gSlot1, e_mkEI, e_kFalse, e_slot, e_comp0, e_mul, e_eqXI, e_eqXS, e_neXI, e_neXL, e_pow, e_is, e_sum, e_minL, e_inI, e_tTrue, true_and, and_true, ne_eq, not_false_eq_true, Int.reduceEq, Nat.reduceLeDiff, Nat.reduceLT, reduceIte, Option.isSome_some, reduceCtorEq, Int.reduceBEq, Int.reduceNeg, Int.reduceLT, Nat.reduceAdd, Bool.false_eq_true, Bool.not_true, Bool.not_false, if_true, if_false, e_skip, e_isN, isN, id, e_mkTI, e_addI, e_addS, e_min, e_max, e_drop, e_append, e_pop, e_seq, e_setR, e_setT, e_list, e_tup, e_cons, e_meth, e_var, e_nil, e_idx, e_neg, e_k, e_set, e_aug, e_bin, e_mod, e_div, e_if, e_ret, e_and, e_or, e_not, e_tv, e_onI, e_call, e_aTupR, e_aTup, e_aName, e_gName, e_gNs, e_clsO, e_onone, e_osome, e_slice, List.getElem?_cons_zero, List.getElem?_cons_succ, List.set_cons_zero, List.set_cons_succ, List.length_cons, List.length_nil, List.reverse_cons, List.reverse_nil, List.nil_append, List.cons_append, e_setAll, e_setAll0, asL_loc, isV_self]
  refine idx_nat g3.nl (by rw [ndV_len]; omega) (ndV_at hmN) ⟨g3.lk.cls hmN, ?_⟩
  rw [g3.lk.sys hmN]
  refine idx_lst g3.tl nL (stand_at fun l e => by rw [e] at cr; have := cr.lt; omega) ?_
  simp only [e_index, e_mkId, e_idInit, e_idxX, e_setI, e_setTX, e_aTupXT, e_dict0, e_kGlob2, e_kGlob3, e_lenS, e_gSlotO0, e_gSlotO1, e_gSlot1, e_mkEI, e_kFalse, e_slot, e_comp0, e_mul, e_eqXI, e_eqXS, e_neXI, e_neXL, e_pow, e_is, e_sum, e_minL, e_inI, e_tTrue, true_and, and_true, ne_eq, not_false_eq_true, Int.reduceEq, Nat.reduceLeDiff, Nat.reduceLT, reduceIte, Option.isSome_some, reduceCtorEq, Int.reduceBEq, Int.reduceNeg, Int.reduceLT, Nat.reduceAdd, Bool.false_eq_true, Bool.not_true, Bool.not_false, if_true, if_false, e_skip, e_isN, isN, id, e_mkTI, e_addI, e_addS, e_min, e_max, e_drop, e_append, e_pop, e_seq, e_setR, e_setT, e_list, e_tup, e_cons, e_meth, e_var, e_nil, e_idx, e_neg, e_k, e_set, e_aug, e_bin, e_mod, e_div, e_if, e_ret, e_and, e_or, e_not, e_tv, e_onI, e_call, e_aTupR, e_aTup, e_aName, e_gName, e_gNs, e_clsO, e_onone, e_osome, e_slice, List.getElem?_cons_zero, List.getElem?_cons_succ, List.set_cons_zero, List.set_cons_succ, List.length_cons, List.length_nil, List.reverse_cons, List.reverse_nil, List.nil_append, List.cons_append, e_setAll, e_setAll0, asL_loc, isV_self]
  have ms : (ss.map spanV).length ≤ 1000 := by simp; omega
  cases hL : L m with
  | none =>
    have e0 : lo = m := by rw [hL] at cl; exact cl.none_iff.mp rfl
    simp only [e_index, e_mkId, e_idInit, e_idxX, e_setI, e_setTX, e_aTupXT, e_dict0, e_kGlob2, e_kGlob3, e_lenS, e_gSlotO0, e_gSlotO1, e_gSlot1, e_mkEI, e_kFalse, e_slot, e_comp0, e_mul, e_eqXI, e_eqXS, e_neXI, e_neXL, e_pow, e_is, e_sum, e_minL, e_inI, e_tTrue, true_and, and_true, ne_eq, not_false_eq_true, Int.reduceEq, Nat.reduceLeDiff, Nat.reduceLT, reduceIte, Option.isSome_some, reduceCtorEq, Int.reduceBEq, Int.reduceNeg, Int.reduceLT, Nat.reduceAdd, Bool.false_eq_true, Bool.not_true, Bool.not_false, if_true, if_false, e_skip, e_isN, isN, id, e_mkTI, e_addI, e_addS, e_min, e_max, e_drop, e_append, e_pop, e_seq, e_setR, e_setT, e_list, e_tup, e_cons, e_meth, e_var, e_nil, e_idx, e_neg, e_k, e_set, e_aug, e_bin, e_mod, e_div, e_if, e_ret, e_and, e_or, e_not, e_tv, e_onI, e_call, e_aTupR, e_aTup, e_aName, e_gName, e_gNs, e_clsO, e_onone, e_osome, e_slice, List.getElem?_cons_zero, List.getElem?_cons_succ, List.set_cons_zero, List.set_cons_succ, List.length_cons, List.length_nil, List.reverse_cons, List.reverse_nil, List.nil_append, List.cons_append, e_setAll, e_setAll0, asL_loc, show decide ((0 : Int) ≤ iv none) = false from rfl]
    cases hR : R m with
    | none =>
      have e1 : m + 1 = hi := by rw [hR] at cr; exact cr.none_iff.mp rfl
      simp only [e_index, e_mkId, e_idInit, e_idxX, e_setI, e_setTX, e_aTupXT, e_dict0, e_kGlob2, e_kGlob3, e_lenS, e_gSlotO0, e_gSlotO1, e_gSlot1, e_mkEI, e_kFalse, e_slot, e_comp0, e_mul, e_eqXI, e_eqXS, e_neXI, e_neXL, e_pow, e_is, e_sum, e_minL, e_inI, e_tTrue, true_and, and_true, ne_eq, not_false_eq_true, Int.reduceEq, Nat.reduceLeDiff, Nat.reduceLT, reduceIte, Option.isSome_some, reduceCtorEq, Int.reduceBEq, Int.reduceNeg, Int.reduceLT, Nat.reduceAdd, Bool.false_eq_true, Bool.not_true, Bool.not_false, if_true, if_false, e_skip, e_isN, isN, id, e_mkTI, e_addI, e_addS, e_min, e_max, e_drop, e_append, e_pop, e_seq, e_setR, e_setT, e_list, e_tup, e_cons, e_meth, e_var, e_nil, e_idx, e_neg, e_k, e_set, e_aug, e_bin, e_mod, e_div, e_if, e_ret, e_and, e_or, e_not, e_tv, e_onI, e_call, e_aTupR, e_aTup, e_aName, e_gName, e_gNs, e_clsO, e_onone, e_osome, e_slice, List.getElem?_cons_zero, List.getElem?_cons_succ, List.set_cons_zero, List.set_cons_succ, List.length_cons, List.length_nil, List.reverse_cons, List.reverse_nil, List.nil_append, List.cons_append, e_setAll, e_setAll0, asL_loc, show decide ((0 : Int) ≤ iv none) = false from rfl]
      exact hK _ _ [] ⟨_, _, _, _, _, rfl⟩ g3 (by rw [List.append_nil]; exact s3) (by simp [total]; omega) (fun s h => by cases h) (by decide)
    | some r =>
      rw [hR] at cr
      have lr := cr.lt
      simp only [e_index, e_mkId, e_idInit, e_idxX, e_setI, e_setTX, e_aTupXT, e_dict0, e_kGlob2, e_kGlob3, e_lenS, e_gSlotO0, e_gSlotO1, e_gSlot1, e_mkEI, e_kFalse, e_slot, e_comp0, e_mul, e_eqXI, e_eqXS, e_neXI, e_neXL, e_pow, e_is, e_sum, e_minL, e_inI, e_tTrue, true_and, and_true, ne_eq, not_false_eq_true, Int.reduceEq, Nat.reduceLeDiff, Nat.reduceLT, reduceIte, Option.isSome_some, reduceCtorEq, Int.reduceBEq, Int.reduceNeg, Int.reduceLT, Nat.reduceAdd, Bool.false_eq_true, Bool.not_true, Bool.not_false, if_true, if_false, e_skip, e_isN, isN, id, e_mkTI, e_addI, e_addS, e_min, e_max, e_drop, e_append, e_pop, e_seq, e_setR, e_setT, e_list, e_tup, e_cons, e_meth, e_var, e_nil, e_idx, e_neg, e_k, e_set, e_aug, e_bin, e_mod, e_div, e_if, e_ret, e_and, e_or, e_not, e_tv, e_onI, e_call, e_aTupR, e_aTup, e_aName, e_gName, e_gNs, e_clsO, e_onone, e_osome, e_slice, List.getElem?_cons_zero, List.getElem?_cons_succ, List.set_cons_zero, List.set_cons_succ, List.length_cons, List.length_nil, List.reverse_cons, List.reverse_nil, List.nil_append, List.cons_append, e_setAll, e_setAll0, asL_loc, show decide ((0 : Int) ≤ iv (some r)) = true by simp [iv], s3]
      refine ⟨by omega, hK _ _ [(m + 1, r, hi)] ⟨_, _, _, _, _, rfl⟩ (SET g3) ?_ (by simp [total]; omega) (fun s h => ?_) (by simp)⟩
      · rw [lstAt_set (lstAt_lt s3)]; simp [spanV, iv]
      · rw [List.mem_singleton.mp h]; exact ⟨hhi, cr⟩
  | some l =>
    rw [hL] at cl
    have ll := cl.lt
    simp only [e_index, e_mkId, e_idInit, e_idxX, e_setI, e_setTX, e_aTupXT, e_dict0, e_kGlob2, e_kGlob3, e_lenS, e_gSlotO0, e_gSlotO1, e_gSlot1, e_mkEI, e_kFalse, e_slot, e_comp0, e_mul, e_eqXI, e_eqXS, e_neXI, e_neXL, e_pow, e_is, e_sum, e_minL, e_inI, e_tTrue, true_and, and_true, ne_eq, not_false_eq_true, Int.reduceEq, Nat.reduceLeDiff, Nat.reduceLT, reduceIte, Option.isSome_some, reduceCtorEq, Int.reduceBEq, Int.reduceNeg, Int.reduceLT, Nat.reduceAdd, Bool.false_eq_true, Bool.not_true, Bool.not_false, if_true, if_false, e_skip, e_isN, isN, id, e_mkTI, e_addI, e_addS, e_min, e_max, e_drop, e_append, e_pop, e_seq, e_setR, e_setT, e_list, e_tup, e_cons, e_meth, e_var, e_nil, e_idx, e_neg, e_k, e_set, e_aug, e_bin, e_mod, e_div, e_if, e_ret, e_and, e_or, e_not, e_tv, e_onI, e_call, e_aTupR, e_aTup, e_aName, e_gName, e_gNs, e_clsO, e_onone, e_osome, e_slice, List.getElem?_cons_zero, List.getElem?_cons_succ, List.set_cons_zero, List.set_cons_succ, List.length_cons, List.length_nil, List.reverse_cons, List.reverse_nil, List.nil_append, List.cons_append, e_setAll, e_setAll0, asL_loc, show decide ((0 : Int) ≤ iv (some l)) = true by simp [iv], s3]
    refine ⟨by omega, ?_⟩
    have g4 := SET (vs := ss.map spanV ++ [.tup [natV lo, .int (iv (some l)), natV m]]) g3
    have s4 : lstAt (H3.set iS (.list (ss.map spanV ++ [.tup [natV lo, .int (iv (some l)), natV m]]))) iS = some ((ss ++ [(lo, l, m)]).map spanV) := by
      rw [lstAt_set (lstAt_lt s3)]; simp [spanV, iv]
    generalize H3.set iS (.list (ss.map spanV ++ [.tup [natV lo, .int (iv (some l)), natV m]])) = H4 at *
    cases hR : R m with
    | none =>
      have e1 : m + 1 = hi := by rw [hR] at cr; exact cr.none_iff.mp rfl
      simp only [e_index, e_mkId, e_idInit, e_idxX, e_setI, e_setTX, e_aTupXT, e_dict0, e_kGlob2, e_kGlob3, e_lenS, e_gSlotO0, e_gSlotO1, e_gSlot1, e_mkEI, e_kFalse, e_slot, e_comp0, e_mul, e_eqXI, e_eqXS, e_neXI, e_neXL, e_pow, e_is, e_sum, e_minL, e_inI, e_tTrue, true_and, and_true, ne_eq, not_false_eq_true, Int.reduceEq, Nat.reduceLeDiff, Nat.reduceLT, reduceIte, Option.isSome_some, reduceCtorEq, Int.reduceBEq, Int.reduceNeg, Int.reduceLT, Nat.reduceAdd, Bool.false_eq_true, Bool.not_true, Bool.not_false, if_true, if_false, e_skip, e_isN, isN, id, e_mkTI, e_addI, e_addS, e_min, e_max, e_drop, e_append, e_pop, e_seq, e_setR, e_setT, e_list, e_tup, e_cons, e_meth, e_var, e_nil, e_idx, e_neg, e_k, e_set, e_aug, e_bin, e_mod, e_div, e_if, e_ret, e_and, e_or, e_not, e_tv, e_onI, e_call, e_aTupR, e_aTup, e_aName, e_gName, e_gNs, e_clsO, e_onone, e_osome, e_slice, List.getElem?_cons_zero, List.getElem?_cons_succ, List.set_cons_zero, List.set_cons_succ, List.length_cons, List.length_nil, List.reverse_cons, List.reverse_nil, List.nil_append, List.cons_append, e_setAll, e_setAll0, asL_loc, show decide ((0 : Int) ≤ iv none) = false from rfl]
      refine hK _ _ [(lo, l, m)] ⟨_, _, _, _, _, rfl⟩ g4 s4 (by simp [total]; omega) (fun s h => ?_) (by simp)
      rw [List.mem_singleton.mp h]; exact ⟨by show m ≤ N; omega, cl⟩
    | some r =>
      rw [hR] at cr
      have lr := cr.lt
      simp only [e_index, e_mkId, e_idInit, e_idxX, e_setI, e_setTX, e_aTupXT, e_dict0, e_kGlob2, e_kGlob3, e_lenS, e_gSlotO0, e_gSlotO1, e_gSlot1, e_mkEI, e_kFalse, e_slot, e_comp0, e_mul, e_eqXI, e_eqXS, e_neXI, e_neXL, e_pow, e_is, e_sum, e_minL, e_inI, e_tTrue, true_and, and_true, ne_eq, not_false_eq_true, Int.reduceEq, Nat.reduceLeDiff, Nat.reduceLT, reduceIte, Option.isSome_some, reduceCtorEq, Int.reduceBEq, Int.reduceNeg, Int.reduceLT, Nat.reduceAdd, Bool.false_eq_true, Bool.not_true, Bool.not_false, if_true, if_false, e_skip, e_isN, isN, id, e_mkTI, e_addI, e_addS, e_min, e_max, e_drop, e_append, e_pop, e_seq, e_setR, e_setT, e_list, e_tup, e_cons, e_meth, e_var, e_nil, e_idx, e_neg, e_k, e_set, e_aug, e_bin, e_mod, e_div, e_if, e_ret, e_and, e_or, e_not, e_tv, e_onI, e_call, e_aTupR, e_aTup, e_aName, e_gName, e_gNs, e_clsO, e_onone, e_osome, e_slice, List.getElem?_cons_zero, List.getElem?_cons_succ, List.set_cons_zero, List.set_cons_succ, List.length_cons, List.length_nil, List.reverse_cons, List.reverse_nil, List.nil_append, List.cons_append, e_setAll, e_setAll0, asL_loc, show decide ((0 : Int) ≤ iv (some r)) = true by simp [iv], s4]
      refine ⟨by simp; omega, hK _ _ [(lo, l, m), (m + 1, r, hi)] ⟨_, _, _, _, _, rfl⟩ (SET g4) ?_ (by simp [total]; omega) (fun s h => ?_) (by simp)⟩
      · rw [lstAt_set (lstAt_lt s4)]; simp [spanV, iv]
      · rcases List.mem_cons.mp h with h | h
        · rw [h]; exact ⟨by show m ≤ N; omega, cl⟩
        · rw [List.mem_singleton.mp h]; exact ⟨hhi, cr⟩
theorem total_len {a : Nat → Int} {L R : Nat → Option Nat} {N : Nat} : ∀ {ss : List (Nat × Nat × Nat)}, (∀ s ∈ ss, s.2.2 ≤ N ∧ CT a L R s.1 s.2.2 (some s.2.1)) → ss.length ≤ total ss
  | [], _ => Nat.le_refl _
  | s :: ss, h => by
    have ih := total_len fun s' hs => h s' (List.mem_cons_of_mem _ hs)
    have := (h s List.mem_cons_self).2.lt
    simp [total]
    omega
theorem law01 (hn : c.ns.length ≤ 63) {Q : Fl → Sl → HW → Prop} (q : ∀ sl H', Q (.ret (.bool true)) sl H') : lawB1 c grownW walkedW leastW [some .script, none, none, none, none, none, none, none, none, none, none, none] [] Q := by
  unfold lawB1
  simp only [e_index, e_mkId, e_idInit, e_idxX, e_setI, e_setTX, e_aTupXT, e_dict0, e_kGlob2, e_kGlob3, e_lenS, e_gSlotO0, e_gSlotO1, e_gSlot1, e_mkEI, e_kFalse, e_slot, e_comp0, e_mul, e_eqXI, e_eqXS, e_neXI, e_neXL, e_pow, e_is, e_sum, e_minL, e_inI, e_tTrue, true_and, and_true, ne_eq, not_false_eq_true, Int.reduceEq, Nat.reduceLeDiff, Nat.reduceLT, reduceIte, Option.isSome_some, reduceCtorEq, Int.reduceBEq, Int.reduceNeg, Int.reduceLT, Nat.reduceAdd, Bool.false_eq_true, Bool.not_true, Bool.not_false, if_true, if_false, e_skip, e_isN, isN, id, e_mkTI, e_addI, e_addS, e_min, e_max, e_drop, e_append, e_pop, e_seq, e_setR, e_setT, e_list, e_tup, e_cons, e_meth, e_var, e_nil, e_idx, e_neg, e_k, e_set, e_aug, e_bin, e_mod, e_div, e_if, e_ret, e_and, e_or, e_not, e_tv, e_onI, e_call, e_aTupR, e_aTup, e_aName, e_gName, e_gNs, e_clsO, e_onone, e_osome, e_slice, List.getElem?_cons_zero, List.getElem?_cons_succ, List.set_cons_zero, List.set_cons_succ, List.length_cons, List.length_nil, List.reverse_cons, List.reverse_nil, List.nil_append, List.cons_append, e_setAll, e_setAll0, asL_loc, asL_scr]
  have esl : sliceV (c.ns.map V.int) none (some 63) none = c.ns.map V.int := by
    have := sliceV_take (c.ns.map V.int) 63
    rw [List.take_of_length_le (by simp; omega)] at this
    exact this
  rw [esl]
  refine ⟨by simp; omega, ?_⟩
  rw [e_addL (xs := [V.int 2, V.int 0, V.int 1, V.int 0]) (ys := c.ns.map V.int) rfl rfl]
  refine ⟨by simp; omega, ?_⟩
  obtain ⟨nums, en⟩ : ∃ nums, nums = 2 :: 0 :: 1 :: 0 :: c.ns := ⟨_, rfl⟩
  have nl : nums.length = c.ns.length + 4 := by rw [en]; rfl
  obtain ⟨B, eB⟩ : ∃ B : HW, B = [LO.list [V.int 2, V.int 0, V.int 1, V.int 0], LO.list (List.map V.int c.ns)] ++ [LO.list ([V.int 2, V.int 0, V.int 1, V.int 0] ++ List.map V.int c.ns)] := ⟨_, rfl⟩
  have hM : lstAt B 2 = some (nums.map .int) := by rw [eB, en]; rfl
  have hB : B.length = 3 := by rw [eB]; rfl
  rw [← eB]
  clear eB
  show bLen c.ns [V.loc 2] B _
  rw [e_len hM]
  refine ⟨by simp; omega, ?_⟩
  rw [List.length_map]
  refine comp_lst (k := 2) (xs := nums.map .int) (fun R r => r) hM (by simp; omega) (comp_invT (all := nums.map .int) (fun n ys H => H = B ++ List.replicate n (.inst 0 []) ∧ ys = (List.range n).map fun k => .loc (3 + k)) ?_ ?_ ⟨by simp, rfl⟩ ?_)
  · rintro n ys H ⟨rfl, _⟩
    show asL c.ns _ (.loc 2) = some _
    rw [asL_loc]; exact lstAt_ext hM
  · rintro n v ys H hv ⟨rfl, rfl⟩ R' hR
    simp only [e_index, e_mkId, e_idInit, e_idxX, e_setI, e_setTX, e_aTupXT, e_dict0, e_kGlob2, e_kGlob3, e_lenS, e_gSlotO0, e_gSlotO1, e_gSlot1, e_mkEI, e_kFalse, e_slot, e_comp0, e_mul, e_eqXI, e_eqXS, e_neXI, e_neXL, e_pow, e_is, e_sum, e_minL, e_inI, e_tTrue, true_and, and_true, ne_eq, not_false_eq_true, Int.reduceEq, Nat.reduceLeDiff, Nat.reduceLT, reduceIte, Option.isSome_some, reduceCtorEq, Int.reduceBEq, Int.reduceNeg, Int.reduceLT, Nat.reduceAdd, Bool.false_eq_true, Bool.not_true, Bool.not_false, if_true, if_false, e_skip, e_isN, isN, id, e_mkTI, e_addI, e_addS, e_min, e_max, e_drop, e_append, e_pop, e_seq, e_setR, e_setT, e_list, e_tup, e_cons, e_meth, e_var, e_nil, e_idx, e_neg, e_k, e_set, e_aug, e_bin, e_mod, e_div, e_if, e_ret, e_and, e_or, e_not, e_tv, e_onI, e_call, e_aTupR, e_aTup, e_aName, e_gName, e_gNs, e_clsO, e_onone, e_osome, e_slice, List.getElem?_cons_zero, List.getElem?_cons_succ, List.set_cons_zero, List.set_cons_succ, List.length_cons, List.length_nil, List.reverse_cons, List.reverse_nil, List.nil_append, List.cons_append, e_setAll, e_setAll0, asL_loc]
    refine hR _ _ ⟨by rw [List.replicate_succ']; simp, ?_⟩
    rw [List.range_succ, List.map_append]
    simp [hB]
  rintro ys H2 ⟨rfl, rfl⟩
  rw [List.length_map]
  have hin : ∀ k, k < nums.length → (B ++ List.replicate nums.length (LO.inst 0 []))[3 + k]? = some (.inst 0 []) := fun k hk => by
    rw [List.getElem?_append_right (by omega), hB, List.getElem?_replicate, if_pos (by omega)]
  have hl2 : (B ++ List.replicate nums.length (LO.inst 0 [])).length = 3 + nums.length := by simp [hB]
  have hM2 : lstAt (B ++ List.replicate nums.length (LO.inst 0 [])) 2 = some (nums.map .int) := lstAt_ext hM
  generalize B ++ List.replicate nums.length (LO.inst 0 []) = H2 at *
  refine ⟨H2.length, (List.range nums.length).map fun k => 3 + k, rfl, ?_, by simp; omega, fun j hj => ?_, ?_⟩
  · rw [lstAt_new, List.map_map]; rfl
  · obtain ⟨k, hk, rfl⟩ := List.mem_map.mp hj
    rw [List.getElem?_append_left (by rw [hl2]; have := List.mem_range.mp hk; omega)]
    exact hin k (List.mem_range.mp hk)
  have hN3 : lstAt (H2 ++ [LO.list ((List.range nums.length).map fun k => .loc (3 + k))] ++ [LO.list []] ++ [LO.list []]) H2.length = some (ndV 3 nums.length) := lstAt_ext (lstAt_ext lstAt_new)
  have hM3 : lstAt (H2 ++ [LO.list ((List.range nums.length).map fun k => .loc (3 + k))] ++ [LO.list []] ++ [LO.list []]) 2 = some (nums.map .int) := lstAt_ext (lstAt_ext (lstAt_ext hM2))
  have hin3 : ∀ k, k < nums.length → (H2 ++ [LO.list ((List.range nums.length).map fun k => .loc (3 + k))] ++ [LO.list []] ++ [LO.list []])[3 + k]? = some (.inst 0 []) := fun k hk => Ext.at (.trans (.trans .app .app) .app) (hin k hk)
  have hl3 : H2.length < (H2 ++ [LO.list ((List.range nums.length).map fun k => .loc (3 + k))] ++ [LO.list []] ++ [LO.list []]).length := by simp
  generalize H2 ++ [LO.list ((List.range nums.length).map fun k => .loc (3 + k))] ++ [LO.list []] ++ [LO.list []] = H3 at *
  simp only [e_index, e_mkId, e_idInit, e_idxX, e_setI, e_setTX, e_aTupXT, e_dict0, e_kGlob2, e_kGlob3, e_lenS, e_gSlotO0, e_gSlotO1, e_gSlot1, e_mkEI, e_kFalse, e_slot, e_comp0, e_mul, e_eqXI, e_eqXS, e_neXI, e_neXL, e_pow, e_is, e_sum, e_minL, e_inI, e_tTrue, true_and, and_true, ne_eq, not_false_eq_true, Int.reduceEq, Nat.reduceLeDiff, Nat.reduceLT, reduceIte, Option.isSome_some, reduceCtorEq, Int.reduceBEq, Int.reduceNeg, Int.reduceLT, Nat.reduceAdd, Bool.false_eq_true, Bool.not_true, Bool.not_false, if_true, if_false, e_skip, e_isN, isN, id, e_mkTI, e_addI, e_addS, e_min, e_max, e_drop, e_append, e_pop, e_seq, e_setR, e_setT, e_list, e_tup, e_cons, e_meth, e_var, e_nil, e_idx, e_neg, e_k, e_set, e_aug, e_bin, e_mod, e_div, e_if, e_ret, e_and, e_or, e_not, e_tv, e_onI, e_call, e_aTupR, e_aTup, e_aName, e_gName, e_gNs, e_clsO, e_onone, e_osome, e_slice, List.getElem?_cons_zero, List.getElem?_cons_succ, List.set_cons_zero, List.set_cons_succ, List.length_cons, List.length_nil, List.reverse_cons, List.reverse_nil, List.nil_append, List.cons_append, e_setAll, e_setAll0, asL_loc]
  have PNn : PN 3 nums.length H2.length := .inr (by omega)
  have PNm : PN 3 nums.length 2 := .inl (by omega)
  refine ⟨3, nums.length, H2.length, 2, nums, rfl, hN3, hM3, rfl, by omega, by omega, ⟨PNn, PNm, by omega⟩, hin3, fun L R root H4 ct lk4 kp4 => ?_⟩
  have l4 := kp4.len
  refine ⟨3, nums.length, root, aOf nums, L, R, rfl, ct, by omega, by omega, lk4, fun iR H5 hiR hr5 lk5 kp5 => ?_⟩
  have kp := kp4.trans kp5
  have hN5 := kp.lst PNn hN3
  have hM5 := kp.lst PNm hM3
  simp only [e_index, e_mkId, e_idInit, e_idxX, e_setI, e_setTX, e_aTupXT, e_dict0, e_kGlob2, e_kGlob3, e_lenS, e_gSlotO0, e_gSlotO1, e_gSlot1, e_mkEI, e_kFalse, e_slot, e_comp0, e_mul, e_eqXI, e_eqXS, e_neXI, e_neXL, e_pow, e_is, e_sum, e_minL, e_inI, e_tTrue, true_and, and_true, ne_eq, not_false_eq_true, Int.reduceEq, Nat.reduceLeDiff, Nat.reduceLT, reduceIte, Option.isSome_some, reduceCtorEq, Int.reduceBEq, Int.reduceNeg, Int.reduceLT, Nat.reduceAdd, Bool.false_eq_true, Bool.not_true, Bool.not_false, if_true, if_false, e_skip, e_isN, isN, id, e_mkTI, e_addI, e_addS, e_min, e_max, e_drop, e_append, e_pop, e_seq, e_setR, e_setT, e_list, e_tup, e_cons, e_meth, e_var, e_nil, e_idx, e_neg, e_k, e_set, e_aug, e_bin, e_mod, e_div, e_if, e_ret, e_and, e_or, e_not, e_tv, e_onI, e_call, e_aTupR, e_aTup, e_aName, e_gName, e_gNs, e_clsO, e_onone, e_osome, e_slice, List.getElem?_cons_zero, List.getElem?_cons_succ, List.set_cons_zero, List.set_cons_succ, List.length_cons, List.length_nil, List.reverse_cons, List.reverse_nil, List.nil_append, List.cons_append, e_setAll, e_setAll0, asL_loc, e_len hr5, ndV_len]
  refine ⟨by omega, ⟨_, _, .int, .int, ⟨rfl, rfl⟩, ?_⟩⟩
  rw [show PyData.eqv (.int (nums.length : Int)) (.int (nums.length : Int)) = true by simp [PyData.eqv]]
  simp only [e_index, e_mkId, e_idInit, e_idxX, e_setI, e_setTX, e_aTupXT, e_dict0, e_kGlob2, e_kGlob3, e_lenS, e_gSlotO0, e_gSlotO1, e_gSlot1, e_mkEI, e_kFalse, e_slot, e_comp0, e_mul, e_eqXI, e_eqXS, e_neXI, e_neXL, e_pow, e_is, e_sum, e_minL, e_inI, e_tTrue, true_and, and_true, ne_eq, not_false_eq_true, Int.reduceEq, Nat.reduceLeDiff, Nat.reduceLT, reduceIte, Option.isSome_some, reduceCtorEq, Int.reduceBEq, Int.reduceNeg, Int.reduceLT, Nat.reduceAdd, Bool.false_eq_true, Bool.not_true, Bool.not_false, if_true, if_false, e_skip, e_isN, isN, id, e_mkTI, e_addI, e_addS, e_min, e_max, e_drop, e_append, e_pop, e_seq, e_setR, e_setT, e_list, e_tup, e_cons, e_meth, e_var, e_nil, e_idx, e_neg, e_k, e_set, e_aug, e_bin, e_mod, e_div, e_if, e_ret, e_and, e_or, e_not, e_tv, e_onI, e_call, e_aTupR, e_aTup, e_aName, e_gName, e_gNs, e_clsO, e_onone, e_osome, e_slice, List.getElem?_cons_zero, List.getElem?_cons_succ, List.set_cons_zero, List.set_cons_succ, List.length_cons, List.length_nil, List.reverse_cons, List.reverse_nil, List.nil_append, List.cons_append, e_setAll, e_setAll0, asL_loc]
  refine comp_range_filter (m := nums.length) (p := fun _ => false) (fun R r => r) (by omega) (fun v hv R r => ?_) ?_
  · show tv _ [some (natV v), some (.loc H2.length), some (.loc iR)] H5 R
    simp only [e_index, e_mkId, e_idInit, e_idxX, e_setI, e_setTX, e_aTupXT, e_dict0, e_kGlob2, e_kGlob3, e_lenS, e_gSlotO0, e_gSlotO1, e_gSlot1, e_mkEI, e_kFalse, e_slot, e_comp0, e_mul, e_eqXI, e_eqXS, e_neXI, e_neXL, e_pow, e_is, e_sum, e_minL, e_inI, e_tTrue, true_and, and_true, ne_eq, not_false_eq_true, Int.reduceEq, Nat.reduceLeDiff, Nat.reduceLT, reduceIte, Option.isSome_some, reduceCtorEq, Int.reduceBEq, Int.reduceNeg, Int.reduceLT, Nat.reduceAdd, Bool.false_eq_true, Bool.not_true, Bool.not_false, if_true, if_false, e_skip, e_isN, isN, id, e_mkTI, e_addI, e_addS, e_min, e_max, e_drop, e_append, e_pop, e_seq, e_setR, e_setT, e_list, e_tup, e_cons, e_meth, e_var, e_nil, e_idx, e_neg, e_k, e_set, e_aug, e_bin, e_mod, e_div, e_if, e_ret, e_and, e_or, e_not, e_tv, e_onI, e_call, e_aTupR, e_aTup, e_aName, e_gName, e_gNs, e_clsO, e_onone, e_osome, e_slice, List.getElem?_cons_zero, List.getElem?_cons_succ, List.set_cons_zero, List.set_cons_succ, List.length_cons, List.length_nil, List.reverse_cons, List.reverse_nil, List.nil_append, List.cons_append, e_setAll, e_setAll0, asL_loc]
    refine idx_nat hr5 (by rw [ndV_len]; omega) (ndV_at hv) (idx_nat hN5 (by rw [ndV_len]; omega) (ndV_at hv) ?_)
    simp only [e_index, e_mkId, e_idInit, e_idxX, e_setI, e_setTX, e_aTupXT, e_dict0, e_kGlob2, e_kGlob3, e_lenS, e_gSlotO0, e_gSlotO1, e_gSlot1, e_mkEI, e_kFalse, e_slot, e_comp0, e_mul, e_eqXI, e_eqXS, e_neXI, e_neXL, e_pow, e_is, e_sum, e_minL, e_inI, e_tTrue, true_and, and_true, ne_eq, not_false_eq_true, Int.reduceEq, Nat.reduceLeDiff, Nat.reduceLT, reduceIte, Option.isSome_some, reduceCtorEq, Int.reduceBEq, Int.reduceNeg, Int.reduceLT, Nat.reduceAdd, Bool.false_eq_true, Bool.not_true, Bool.not_false, if_true, if_false, e_skip, e_isN, isN, id, e_mkTI, e_addI, e_addS, e_min, e_max, e_drop, e_append, e_pop, e_seq, e_setR, e_setT, e_list, e_tup, e_cons, e_meth, e_var, e_nil, e_idx, e_neg, e_k, e_set, e_aug, e_bin, e_mod, e_div, e_if, e_ret, e_and, e_or, e_not, e_tv, e_onI, e_call, e_aTupR, e_aTup, e_aName, e_gName, e_gNs, e_clsO, e_onone, e_osome, e_slice, List.getElem?_cons_zero, List.getElem?_cons_succ, List.set_cons_zero, List.set_cons_succ, List.length_cons, List.length_nil, List.reverse_cons, List.reverse_nil, List.nil_append, List.cons_append, e_setAll, e_setAll0, asL_loc, isV, beq_self_eq_true]
    exact r
  intro k6 H6 e6 y6 _
  have y6' : lstAt H6 k6 = some ([] : List V) := by rw [y6]; simp
  refine ne_nil y6' .nil rfl (n := 1) (by simp [PyData.depthAll]) (by decide) ?_
  simp only [e_index, e_mkId, e_idInit, e_idxX, e_setI, e_setTX, e_aTupXT, e_dict0, e_kGlob2, e_kGlob3, e_lenS, e_gSlotO0, e_gSlotO1, e_gSlot1, e_mkEI, e_kFalse, e_slot, e_comp0, e_mul, e_eqXI, e_eqXS, e_neXI, e_neXL, e_pow, e_is, e_sum, e_minL, e_inI, e_tTrue, true_and, and_true, ne_eq, not_false_eq_true, Int.reduceEq, Nat.reduceLeDiff, Nat.reduceLT, reduceIte, Option.isSome_some, reduceCtorEq, Int.reduceBEq, Int.reduceNeg, Int.reduceLT, Nat.reduceAdd, Bool.false_eq_true, Bool.not_true, Bool.not_false, if_true, if_false, e_skip, e_isN, isN, id, e_mkTI, e_addI, e_addS, e_min, e_max, e_drop, e_append, e_pop, e_seq, e_setR, e_setT, e_list, e_tup, e_cons, e_meth, e_var, e_nil, e_idx, e_neg, e_k, e_set, e_aug, e_bin, e_mod, e_div, e_if, e_ret, e_and, e_or, e_not, e_tv, e_onI, e_call, e_aTupR, e_aTup, e_aName, e_gName, e_gNs, e_clsO, e_onone, e_osome, e_slice, List.getElem?_cons_zero, List.getElem?_cons_succ, List.set_cons_zero, List.set_cons_succ, List.length_cons, List.length_nil, List.reverse_cons, List.reverse_nil, List.nil_append, List.cons_append, e_setAll, e_setAll0, asL_loc, List.isEmpty_nil]
  have e7 : Ext H5 (H6 ++ [LO.list []]) := e6.trans .app
  generalize H6 ++ [LO.list []] = H7 at *
  refine addL_k (lstAt_ext (e7.lst hN5)) lstAt_new (by rw [ndV_len]; simp; omega) fun iT H8 e8 y8 _ => ?_
  have e58 : Ext H5 H8 := (e7.trans .app).trans e8
  try simp only [e_index, e_mkId, e_idInit, e_idxX, e_setI, e_setTX, e_aTupXT, e_dict0, e_kGlob2, e_kGlob3, e_lenS, e_gSlotO0, e_gSlotO1, e_gSlot1, e_mkEI, e_kFalse, e_slot, e_comp0, e_mul, e_eqXI, e_eqXS, e_neXI, e_neXL, e_pow, e_is, e_sum, e_minL, e_inI, e_tTrue, true_and, and_true, ne_eq, not_false_eq_true, Int.reduceEq, Nat.reduceLeDiff, Nat.reduceLT, reduceIte, Option.isSome_some, reduceCtorEq, Int.reduceBEq, Int.reduceNeg, Int.reduceLT, Nat.reduceAdd, Bool.false_eq_true, Bool.not_true, Bool.not_false, if_true, if_false, e_skip, e_isN, isN, id, e_mkTI, e_addI, e_addS, e_min, e_max, e_drop, e_append, e_pop, e_seq, e_setR, e_setT, e_list, e_tup, e_cons, e_meth, e_var, e_nil, e_idx, e_neg, e_k, e_set, e_aug, e_bin, e_mod, e_div, e_if, e_ret, e_and, e_or, e_not, e_tv, e_onI, e_call, e_aTupR, e_aTup, e_aName, e_gName, e_gNs, e_clsO, e_onone, e_osome, e_slice, List.getElem?_cons_zero, List.getElem?_cons_succ, List.set_cons_zero, List.set_cons_succ, List.length_cons, List.length_nil, List.reverse_cons, List.reverse_nil, List.nil_append, List.cons_append, e_setAll, e_setAll0, asL_loc]
  refine ⟨2, 0, nums.length, nums, rfl, e58.lst hM5, by omega, by omega, Nat.le_refl _, fun v9 H9 e9 hv9 => ?_⟩
  have ev := least_is ct hv9
  subst ev
  have e59 := e58.trans e9
  try simp only [e_index, e_mkId, e_idInit, e_idxX, e_setI, e_setTX, e_aTupXT, e_dict0, e_kGlob2, e_kGlob3, e_lenS, e_gSlotO0, e_gSlotO1, e_gSlot1, e_mkEI, e_kFalse, e_slot, e_comp0, e_mul, e_eqXI, e_eqXS, e_neXI, e_neXL, e_pow, e_is, e_sum, e_minL, e_inI, e_tTrue, true_and, and_true, ne_eq, not_false_eq_true, Int.reduceEq, Nat.reduceLeDiff, Nat.reduceLT, reduceIte, Option.isSome_some, reduceCtorEq, Int.reduceBEq, Int.reduceNeg, Int.reduceLT, Nat.reduceAdd, Bool.false_eq_true, Bool.not_true, Bool.not_false, if_true, if_false, e_skip, e_isN, isN, id, e_mkTI, e_addI, e_addS, e_min, e_max, e_drop, e_append, e_pop, e_seq, e_setR, e_setT, e_list, e_tup, e_cons, e_meth, e_var, e_nil, e_idx, e_neg, e_k, e_set, e_aug, e_bin, e_mod, e_div, e_if, e_ret, e_and, e_or, e_not, e_tv, e_onI, e_call, e_aTupR, e_aTup, e_aName, e_gName, e_gNs, e_clsO, e_onone, e_osome, e_slice, List.getElem?_cons_zero, List.getElem?_cons_succ, List.set_cons_zero, List.set_cons_succ, List.length_cons, List.length_nil, List.reverse_cons, List.reverse_nil, List.nil_append, List.cons_append, e_setAll, e_setAll0, asL_loc]
  have G : SS 3 nums.length 2 H2.length iT H9.length nums L R (H9 ++ [LO.list [spanV (0, root, nums.length)]]) := SS.ext ⟨e59.lst hM5, e59.lst hN5, e9.lst y8, lk5.ext e59⟩ .app
  have l59 := e59.len
  have lT := lstAt_lt (e9.lst y8)
  have lNn := lstAt_lt (e59.lst hN5)
  have l5 := kp5.len
  refine while_ok (n := nums.length) (fun n sl H => ∃ ss, total ss = n ∧ n ≤ nums.length ∧ (∃ x7 x8 x9 x10 x11, sl = [some .script, some (.loc 2), some (.int nums.length), some (.loc H2.length), some (.loc iR), some (.loc iT), some (.loc H9.length), x7, x8, x9, x10, x11]) ∧ SS 3 nums.length 2 H2.length iT H9.length nums L R H ∧ lstAt H H9.length = some (ss.map spanV) ∧ ∀ s ∈ ss, s.2.2 ≤ nums.length ∧ CT (aOf nums) L R s.1 s.2.2 (some s.2.1)) ?_ ⟨[(0, root, nums.length)], by simp [total], Nat.le_refl _, ⟨_, _, _, _, _, rfl⟩, G, lstAt_new, fun s hs => by rw [List.mem_singleton.mp hs]; exact ⟨Nat.le_refl _, ct⟩⟩
  rintro n sl H ⟨ss, ht, hnn, ⟨x7, x8, x9, x10, x11, rfl⟩, g, sl0, hs⟩ K hK _
  have hlen := total_len hs
  simp only [e_index, e_mkId, e_idInit, e_idxX, e_setI, e_setTX, e_aTupXT, e_dict0, e_kGlob2, e_kGlob3, e_lenS, e_gSlotO0, e_gSlotO1, e_gSlot1, e_mkEI, e_kFalse, e_slot, e_comp0, e_mul, e_eqXI, e_eqXS, e_neXI, e_neXL, e_pow, e_is, e_sum, e_minL, e_inI, e_tTrue, true_and, and_true, ne_eq, not_false_eq_true, Int.reduceEq, Nat.reduceLeDiff, Nat.reduceLT, reduceIte, Option.isSome_some, reduceCtorEq, Int.reduceBEq, Int.reduceNeg, Int.reduceLT, Nat.reduceAdd, Bool.false_eq_true, Bool.not_true, Bool.not_false, if_true, if_false, e_skip, e_isN, isN, id, e_mkTI, e_addI, e_addS, e_min, e_max, e_drop, e_append, e_pop, e_seq, e_setR, e_setT, e_list, e_tup, e_cons, e_meth, e_var, e_nil, e_idx, e_neg, e_k, e_set, e_aug, e_bin, e_mod, e_div, e_if, e_ret, e_and, e_or, e_not, e_tv, e_onI, e_call, e_aTupR, e_aTup, e_aName, e_gName, e_gNs, e_clsO, e_onone, e_osome, e_slice, List.getElem?_cons_zero, List.getElem?_cons_succ, List.set_cons_zero, List.set_cons_succ, List.length_cons, List.length_nil, List.reverse_cons, List.reverse_nil, List.nil_append, List.cons_append, e_setAll, e_setAll0, asL_loc]
  refine ne_nil sl0 (spans_dv ss) (spans_lay ss).1 (spans_lay ss).2 (by decide) ?_
  have g' := g.ext (H' := H ++ [LO.list []]) .app
  have sl1 : lstAt (H ++ [LO.list []]) H9.length = some (ss.map spanV) := lstAt_ext sl0
  generalize H ++ [LO.list []] = H1 at *
  rcases List.eq_nil_or_concat ss with rfl | ⟨ss0, s, rfl⟩
  · simp only [e_index, e_mkId, e_idInit, e_idxX, e_setI, e_setTX, e_aTupXT, e_dict0, e_kGlob2, e_kGlob3, e_lenS, e_gSlotO0, e_gSlotO1, e_gSlot1, e_mkEI, e_kFalse, e_slot, e_comp0, e_mul, e_eqXI, e_eqXS, e_neXI, e_neXL, e_pow, e_is, e_sum, e_minL, e_inI, e_tTrue, true_and, and_true, ne_eq, not_false_eq_true, Int.reduceEq, Nat.reduceLeDiff, Nat.reduceLT, reduceIte, Option.isSome_some, reduceCtorEq, Int.reduceBEq, Int.reduceNeg, Int.reduceLT, Nat.reduceAdd, Bool.false_eq_true, Bool.not_true, Bool.not_false, if_true, if_false, e_skip, e_isN, isN, id, e_mkTI, e_addI, e_addS, e_min, e_max, e_drop, e_append, e_pop, e_seq, e_setR, e_setT, e_list, e_tup, e_cons, e_meth, e_var, e_nil, e_idx, e_neg, e_k, e_set, e_aug, e_bin, e_mod, e_div, e_if, e_ret, e_and, e_or, e_not, e_tv, e_onI, e_call, e_aTupR, e_aTup, e_aName, e_gName, e_gNs, e_clsO, e_onone, e_osome, e_slice, List.getElem?_cons_zero, List.getElem?_cons_succ, List.set_cons_zero, List.set_cons_succ, List.length_cons, List.length_nil, List.reverse_cons, List.reverse_nil, List.nil_append, List.cons_append, e_setAll, e_setAll0, asL_loc, List.map_nil, List.isEmpty_nil]
    exact q _ _
  · have hie : ((ss0.concat s).map spanV).isEmpty = false := by simp
    simp only [e_index, e_mkId, e_idInit, e_idxX, e_setI, e_setTX, e_aTupXT, e_dict0, e_kGlob2, e_kGlob3, e_lenS, e_gSlotO0, e_gSlotO1, e_gSlot1, e_mkEI, e_kFalse, e_slot, e_comp0, e_mul, e_eqXI, e_eqXS, e_neXI, e_neXL, e_pow, e_is, e_sum, e_minL, e_inI, e_tTrue, true_and, and_true, ne_eq, not_false_eq_true, Int.reduceEq, Nat.reduceLeDiff, Nat.reduceLT, reduceIte, Option.isSome_some, reduceCtorEq, Int.reduceBEq, Int.reduceNeg, Int.reduceLT, Nat.reduceAdd, Bool.false_eq_true, Bool.not_true, Bool.not_false, if_true, if_false, e_skip, e_isN, isN, id, e_mkTI, e_addI, e_addS, e_min, e_max, e_drop, e_append, e_pop, e_seq, e_setR, e_setT, e_list, e_tup, e_cons, e_meth, e_var, e_nil, e_idx, e_neg, e_k, e_set, e_aug, e_bin, e_mod, e_div, e_if, e_ret, e_and, e_or, e_not, e_tv, e_onI, e_call, e_aTupR, e_aTup, e_aName, e_gName, e_gNs, e_clsO, e_onone, e_osome, e_slice, List.getElem?_cons_zero, List.getElem?_cons_succ, List.set_cons_zero, List.set_cons_succ, List.length_cons, List.length_nil, List.reverse_cons, List.reverse_nil, List.nil_append, List.cons_append, e_setAll, e_setAll0, asL_loc, hie]
    rw [List.concat_eq_append] at *
    obtain ⟨lo, m, hi⟩ := s
    have hsl := hs (lo, m, hi) (by simp)
    have htt : total ss0 + (hi - lo) = n := by rw [← ht, total_app]; simp [total]
    have hls := hsl.2.lt
    refine span_body rfl (by omega) hsl.1 hsl.2 g' sl1 (by simp at hlen; omega) ⟨by omega, by omega, by omega, .inr (by omega)⟩ K fun sl' H' ss' hsl' g'' sl'' ht' hs' _ => ?_
    simp only at hls ht'
    cases n with
    | zero => omega
    | succ n =>
      refine hK n _ _ rfl ⟨ss0 ++ ss', by rw [total_app]; omega, by omega, hsl', g'', sl'', fun s h => ?_⟩
      rcases List.mem_append.mp h with h | h
      · exact hs s (by simp [h])
      · exact hs' s h
end
end Mine

namespace Mine
set_option maxHeartbeats 8000000 in
open_top hd01 for PySem.Challenge.rw_dn0274_01
end Mine

namespace Mine
noncomputable abbrev cx01 (w : World) (h₀ : Heap) (mg mb : Str → Option Value) (aS : Addr) (vs : List Value) (ns : List Int) : Cx :=
  { prog := Challenge.rw_dn0274_01.row.prog, w := w, h₀ := h₀, mg := mg, mb := mb, K := hd01.heap_39 w.params, aS := aS, vs := vs, ns := ns, cls := fun _ => 47, gC := fun _ => none }
section
variable {w : World} {h₀ : Heap} {mg mb : Str → Option Value} {aS : Addr} {vs : List Value} {ns : List Int} {d : Nat} {sc : Scope} {ρ : List Str}
theorem slot_pub (G : Good (cx01 w h₀ mg mb aS vs ns)) {o pos a} (ho : Ev (cx01 w h₀ mg mb aS vs ns) d sc ρ o a)
    (he : ∀ env, eval (.Attribute o (Str.ofString "publicId") pos) env = (eval o env >>= fun ov => standAt pos.atName >>= fun _ => holding [ov] (getAttr ov (Str.ofString "publicId") true) >>= fun r => pure r)) :
    Ev (cx01 w h₀ mg mb aS vs ns) d sc ρ (.Attribute o (Str.ofString "publicId") pos) (wSlot (cx01 w h₀ mg mb aS vs ns) 0 0 a) :=
  ev_slot (k := 0) (i := 0) (p := 48) G ho (by kernel_rfl) (by kernel_rfl) (by kernel_rfl) (by kernel_rfl) (by kernel_rfl) (by kernel_rfl) he
theorem set_pub (G : Good (cx01 w h₀ mg mb aS vs ns)) {o ap e pos a b} (ho : Ev (cx01 w h₀ mg mb aS vs ns) d sc ρ o a) (he : Ev (cx01 w h₀ mg mb aS vs ns) d sc ρ e b)
    (hw : ∀ env, swapsWith e (some (.Attribute o (Str.ofString "publicId") ap)) pos.line env = pure false) : Ex (cx01 w h₀ mg mb aS vs ns) d sc ρ (.Assign [.Attribute o (Str.ofString "publicId") ap] e pos) (wSetAttr 0 0 a b) :=
  ex_setattr (k := 0) (i := 0) (p := 48) G ho he (by kernel_rfl) (by kernel_rfl) (by kernel_rfl) (by kernel_rfl) (by kernel_rfl) (by decide) hw
theorem slot_sys (G : Good (cx01 w h₀ mg mb aS vs ns)) {o pos a} (ho : Ev (cx01 w h₀ mg mb aS vs ns) d sc ρ o a)
    (he : ∀ env, eval (.Attribute o (Str.ofString "systemId") pos) env = (eval o env >>= fun ov => standAt pos.atName >>= fun _ => holding [ov] (getAttr ov (Str.ofString "systemId") true) >>= fun r => pure r)) :
    Ev (cx01 w h₀ mg mb aS vs ns) d sc ρ (.Attribute o (Str.ofString "systemId") pos) (wSlot (cx01 w h₀ mg mb aS vs ns) 0 1 a) :=
  ev_slot (k := 0) (i := 1) (p := 49) G ho (by kernel_rfl) (by kernel_rfl) (by kernel_rfl) (by kernel_rfl) (by kernel_rfl) (by kernel_rfl) he
theorem set_sys (G : Good (cx01 w h₀ mg mb aS vs ns)) {o ap e pos a b} (ho : Ev (cx01 w h₀ mg mb aS vs ns) d sc ρ o a) (he : Ev (cx01 w h₀ mg mb aS vs ns) d sc ρ e b)
    (hw : ∀ env, swapsWith e (some (.Attribute o (Str.ofString "systemId") ap)) pos.line env = pure false) : Ex (cx01 w h₀ mg mb aS vs ns) d sc ρ (.Assign [.Attribute o (Str.ofString "systemId") ap] e pos) (wSetAttr 0 1 a b) :=
  ex_setattr (k := 0) (i := 1) (p := 49) G ho he (by kernel_rfl) (by kernel_rfl) (by kernel_rfl) (by kernel_rfl) (by kernel_rfl) (by decide) hw
local macro_rules | `(tactic| tb_rel) => `(tactic| repeat' (first
  | with_reducible exact at0
  | with_reducible exact exs_nil
  | with_reducible exact evs_nil
  | with_reducible exact ev_none
  | with_reducible exact ev_bool
  | with_reducible refine' atS ?_
  | with_reducible refine' exs_cons ?_ ?_
  | with_reducible refine' evs_cons ?_ ?_ (fun _ => rfl)
  | ((with_reducible refine' ev_local ?_ ?a rfl (by decide)); (case a => exact rfl))
  | with_reducible refine' ex_ret ?_
  | ((with_reducible refine' slot_pub (by assumption) ?_ ?he); (case he => exact fun _ => rfl))
  | ((with_reducible refine' set_pub (by assumption) ?_ ?_ ?he); (case he => exact fun _ => rfl))
  | ((with_reducible refine' slot_sys (by assumption) ?_ ?he); (case he => exact fun _ => rfl))
  | ((with_reducible refine' set_sys (by assumption) ?_ ?_ ?he); (case he => exact fun _ => rfl))))
theorem get_pub (G : Good (cx01 w h₀ mg mb aS vs ns)) {d} : FnC (cx01 w h₀ mg mb aS vs ns) (d + 1) (.ref 36) (gSlot (cx01 w h₀ mg mb aS vs ns) 0 0) := by
  refine' FnC.weaken (fn_ok (W := _) (ps := [Str.ofString "self"]) (rest := []) G (G.X 36 _ rfl) rfl (codeRec_of G.X (by kernel_rfl)) rfl rfl ?hb rfl rfl rfl rfl rfl ?nd ?kd ?ex) ?k
  case hb => intro vals hl; match vals, hl with | [a], _ => rfl
  case nd => decide
  case kd => decide
  case ex =>
    dsimp only [List.append_nil, List.cons_append, List.nil_append]
    tb_rel
  case k =>
    intro args H Q h
    obtain ⟨v, rfl, h1, h2⟩ := gSlot_of h
    exact ⟨rfl, h1, by rw [slotIs_def] at h2; revert h2; cases slotV (cx01 w h₀ mg mb aS vs ns) H 0 v <;> exact fun h => h⟩
theorem get_sys (G : Good (cx01 w h₀ mg mb aS vs ns)) {d} : FnC (cx01 w h₀ mg mb aS vs ns) (d + 1) (.ref 43) (gSlot (cx01 w h₀ mg mb aS vs ns) 0 1) := by
  refine' FnC.weaken (fn_ok (W := _) (ps := [Str.ofString "self"]) (rest := []) G (G.X 43 _ rfl) rfl (codeRec_of G.X (by kernel_rfl)) rfl rfl ?hb rfl rfl rfl rfl rfl ?nd ?kd ?ex) ?k
  case hb => intro vals hl; match vals, hl with | [a], _ => rfl
  case nd => decide
  case kd => decide
  case ex =>
    dsimp only [List.append_nil, List.cons_append, List.nil_append]
    tb_rel
  case k =>
    intro args H Q h
    obtain ⟨v, rfl, h1, h2⟩ := gSlot_of h
    exact ⟨rfl, h1, by rw [slotIs_def] at h2; revert h2; cases slotV (cx01 w h₀ mg mb aS vs ns) H 1 v <;> exact fun h => h⟩
theorem id_init (G : Good (cx01 w h₀ mg mb aS vs ns)) {d} : FnC (cx01 w h₀ mg mb aS vs ns) (d + 1) (.ref 29) idInit := by
  refine' FnC.weaken (fn_ok (W := _) (ps := [Str.ofString "self", Str.ofString "publicId", Str.ofString "systemId"]) (rest := []) G (G.X 29 _ rfl) rfl (codeRec_of G.X (by kernel_rfl)) rfl rfl ?hb rfl rfl rfl rfl rfl ?nd ?kd ?ex) ?k
  case hb => intro vals hl; match vals, hl with | [a, b, c], _ => rfl
  case nd => decide
  case kd => decide
  case ex =>
    dsimp only [List.append_nil, List.cons_append, List.nil_append]
    tb_rel
  case k =>
    intro args H Q h
    unfold idInit at h
    split at h
    · rename_i j a b
      obtain ⟨⟨fs, h1, h3⟩, h2⟩ := h
      have hl : j < H.length := (List.getElem?_eq_some_iff.mp h1).1
      simp only [fnW, wSeq, wSetAttr, wVar, wSkip]
      refine ⟨rfl, ?_⟩
      rcases h3 with rfl | ⟨x, y, rfl⟩ <;> simp [h1, List.getElem?_set_self hl, setF, retV, h2]
    · exact h.elim
theorem id_make (G : Good (cx01 w h₀ mg mb aS vs ns)) {d} : FnC (cx01 w h₀ mg mb aS vs ns) (d + 1) (.ref 47) mkId := make_ok0 (k := 0) G (by kernel_rfl) (by kernel_rfl)
theorem m_pub (G : Good (cx01 w h₀ mg mb aS vs ns)) {o apos pos a} {pl : Env → Sem Bool} (ho : Ev (cx01 w h₀ mg mb aS vs ns) (d + 1) sc ρ o a) 
    (he : ∀ env, eval (.Call (.Attribute o (Str.ofString "_get_publicId") apos) [] [] pos) env = (do
      let ov ← eval o env
      standAt apos.atName
      let (f, first) ← holding [ov] (getMethod ov (Str.ofString "_get_publicId") (pl env))
      callWith pos f first (backTo pos (starEach [] env)) (backToKw pos (keywordEach [] env)))) : Ev (cx01 w h₀ mg mb aS vs ns) (d + 1) sc ρ (.Call (.Attribute o (Str.ofString "_get_publicId") apos) [] [] pos) (wMeth (cx01 w h₀ mg mb aS vs ns) 0 (gSlot (cx01 w h₀ mg mb aS vs ns) 0 0) a wNil) :=
  ev_meth (k := 0) (f := 36) G ho evs_nil (get_pub G).ok (by kernel_rfl) (by kernel_rfl) (by kernel_rfl) (by kernel_rfl) he
theorem m_sys (G : Good (cx01 w h₀ mg mb aS vs ns)) {o apos pos a} {pl : Env → Sem Bool} (ho : Ev (cx01 w h₀ mg mb aS vs ns) (d + 1) sc ρ o a) 
    (he : ∀ env, eval (.Call (.Attribute o (Str.ofString "_get_systemId") apos) [] [] pos) env = (do
      let ov ← eval o env
      standAt apos.atName
      let (f, first) ← holding [ov] (getMethod ov (Str.ofString "_get_systemId") (pl env))
      callWith pos f first (backTo pos (starEach [] env)) (backToKw pos (keywordEach [] env)))) : Ev (cx01 w h₀ mg mb aS vs ns) (d + 1) sc ρ (.Call (.Attribute o (Str.ofString "_get_systemId") apos) [] [] pos) (wMeth (cx01 w h₀ mg mb aS vs ns) 0 (gSlot (cx01 w h₀ mg mb aS vs ns) 0 1) a wNil) :=
  ev_meth (k := 0) (f := 43) G ho evs_nil (get_sys G).ok (by kernel_rfl) (by kernel_rfl) (by kernel_rfl) (by kernel_rfl) he
theorem m_init (G : Good (cx01 w h₀ mg mb aS vs ns)) {o apos pos a} {pl : Env → Sem Bool} (ho : Ev (cx01 w h₀ mg mb aS vs ns) (d + 1) sc ρ o a) {args as} (ha : Evs (cx01 w h₀ mg mb aS vs ns) (d + 1) sc ρ args as) 
    (he : ∀ env, eval (.Call (.Attribute o (Str.ofString "_identified_mixin_init") apos) args [] pos) env = (do
      let ov ← eval o env
      standAt apos.atName
      let (f, first) ← holding [ov] (getMethod ov (Str.ofString "_identified_mixin_init") (pl env))
      callWith pos f first (backTo pos (starEach args env)) (backToKw pos (keywordEach [] env)))) : Ev (cx01 w h₀ mg mb aS vs ns) (d + 1) sc ρ (.Call (.Attribute o (Str.ofString "_identified_mixin_init") apos) args [] pos) (wMeth (cx01 w h₀ mg mb aS vs ns) 0 idInit a as) :=
  ev_meth (k := 0) (f := 29) G ho ha (id_init G).ok (by kernel_rfl) (by kernel_rfl) (by kernel_rfl) (by kernel_rfl) he
theorem c_id (G : Good (cx01 w h₀ mg mb aS vs ns)) {np args pos as} (ha : Evs (cx01 w h₀ mg mb aS vs ns) (d + 1) sc ρ args as) (hk : sc.kind = .function) (hx : sc.names.lookup (Str.ofString "Identified") = some .globalImplicit) : Ev (cx01 w h₀ mg mb aS vs ns) (d + 1) sc ρ (.Call (.Name (Str.ofString "Identified") np) args [] pos) (wCall mkId as) :=
  ev_fn G (id_make G) ha hk hx (by kernel_rfl) (by kernel_rfl) (by decide)
theorem refused (G : Good (cx01 w h₀ mg mb aS vs ns)) : RefusedOK (cx01 w h₀ mg mb aS vs ns) 58 := fun A s x L0 ox o0 env0 R h1 h2 h3 h4 h5 h6 h7 h8 h9 h10 h11 h12 =>
  refused_call (k := 0) (i := 0) (p := 48) (q := Str.ofString "Identified") (m := Str.ofString "cpy313.xml.dom.minidom") (n := Str.ofString "publicId") G ⟨⟨_, G.X 58 _ rfl, rfl⟩, codeRec_of G.X (by kernel_rfl), rfl, rfl, fun _ => rfl, rfl, rfl, rfl, rfl, rfl, rfl⟩ ⟨⟨_, G.X 36 _ rfl, rfl⟩, codeRec_of G.X (by kernel_rfl), rfl, rfl, fun _ => rfl, rfl, rfl, rfl, rfl, rfl, rfl⟩
    (by decide) (by decide) rfl (by kernel_rfl) (by kernel_rfl) (by kernel_rfl) (by kernel_rfl) (by kernel_rfl) (fun _ => rfl) (fun _ => rfl) (fun _ => rfl) (by kernel_rfl) (by kernel_rfl) (by kernel_rfl) (by kernel_rfl) (by kernel_rfl) (by kernel_rfl) rfl rfl rfl rfl (by decide +kernel) h1 h2 h3 h4 h5 h6 h7 h8 h9 h10 (h11 0) h12
theorem c_grown (G : Good (cx01 w h₀ mg mb aS vs ns)) {np args pos as W} (hf : FnC (cx01 w h₀ mg mb aS vs ns) d (.ref 65) W) (ha : Evs (cx01 w h₀ mg mb aS vs ns) d sc ρ args as) (hk : sc.kind = .function) (hx : sc.names.lookup (Str.ofString "_law_grown") = some .globalImplicit) : Ev (cx01 w h₀ mg mb aS vs ns) d sc ρ (.Call (.Name (Str.ofString "_law_grown") np) args [] pos) (wCall W as) :=
  ev_fn G hf ha hk hx (by kernel_rfl) (by kernel_rfl) (by decide)
theorem c_walked (G : Good (cx01 w h₀ mg mb aS vs ns)) {np args pos as W} (hf : FnC (cx01 w h₀ mg mb aS vs ns) d (.ref 72) W) (ha : Evs (cx01 w h₀ mg mb aS vs ns) d sc ρ args as) (hk : sc.kind = .function) (hx : sc.names.lookup (Str.ofString "_law_walked") = some .globalImplicit) : Ev (cx01 w h₀ mg mb aS vs ns) d sc ρ (.Call (.Name (Str.ofString "_law_walked") np) args [] pos) (wCall W as) :=
  ev_fn G hf ha hk hx (by kernel_rfl) (by kernel_rfl) (by decide)
theorem c_least (G : Good (cx01 w h₀ mg mb aS vs ns)) {np args pos as W} (hf : FnC (cx01 w h₀ mg mb aS vs ns) d (.ref 79) W) (ha : Evs (cx01 w h₀ mg mb aS vs ns) d sc ρ args as) (hk : sc.kind = .function) (hx : sc.names.lookup (Str.ofString "_law_least") = some .globalImplicit) : Ev (cx01 w h₀ mg mb aS vs ns) d sc ρ (.Call (.Name (Str.ofString "_law_least") np) args [] pos) (wCall W as) :=
  ev_fn G hf ha hk hx (by kernel_rfl) (by kernel_rfl) (by decide)
theorem c_len (G : Good (cx01 w h₀ mg mb aS vs ns)) {np args pos as} (ha : Evs (cx01 w h₀ mg mb aS vs ns) d sc ρ args as) (hk : sc.kind = .function) (hx : sc.names.lookup (Str.ofString "len") = some .globalImplicit) : Ev (cx01 w h₀ mg mb aS vs ns) d sc ρ (.Call (.Name (Str.ofString "len") np) args [] pos) (wCall (bLen ns) as) :=
  ev_callB G hk hx (mgNo G (by kernel_rfl)) ((G.BB _ (by decide)).trans (by kernel_rfl)) (by decide) (len_ok G) ha
theorem c_min (G : Good (cx01 w h₀ mg mb aS vs ns)) {np args pos as} (ha : Evs (cx01 w h₀ mg mb aS vs ns) d sc ρ args as) (hk : sc.kind = .function) (hx : sc.names.lookup (Str.ofString "min") = some .globalImplicit) : Ev (cx01 w h₀ mg mb aS vs ns) d sc ρ (.Call (.Name (Str.ofString "min") np) args [] pos) (wCall (bMinL ns) as) :=
  ev_callB G hk hx (mgNo G (by kernel_rfl)) ((G.BB _ (by decide)).trans (by kernel_rfl)) (by decide) (minL_ok G) ha
theorem c_range1 (G : Good (cx01 w h₀ mg mb aS vs ns)) {np pos e a} (he : Ev (cx01 w h₀ mg mb aS vs ns) d sc ρ e a) (hs : ∀ env, starEach [e] env = [(false, eval e env)]) (hk : sc.kind = .function) (hx : sc.names.lookup (Str.ofString "range") = some .globalImplicit) : Ei (cx01 w h₀ mg mb aS vs ns) d sc ρ (.Call (.Name (Str.ofString "range") np) [e] [] pos) (iRange1 a) :=
  ei_range1 G hk hx (mgNo G (by kernel_rfl)) ((G.BB _ (by decide)).trans (by kernel_rfl)) (by decide) he hs
local macro_rules | `(tactic| tb_start) => `(tactic| repeat' (first
  | with_reducible exact at0
  | with_reducible refine' atS ?_
  | ((with_reducible show Ev _ _ _ _ _ _); first
    | with_reducible exact ev_none
    | with_reducible exact ev_int
    | with_reducible exact ev_bool
    | ((with_reducible refine' ev_local ?_ ?a rfl (by decide)); (case a => exact rfl))
    | ((with_reducible refine' ev_cell ?_ ?a rfl (by decide)); (case a => exact rfl))
    | with_reducible refine' ev_list ?_
    | with_reducible refine' ev_tup ?_
    | with_reducible refine' ev_neg ?_
    | with_reducible refine' ev_bin sub_ok ?_ ?_
    | with_reducible refine' ev_bin (addV_ok (by assumption)) ?_ ?_
    | with_reducible refine' ev_bin mod_ok ?_ ?_
    | with_reducible refine' ev_bin div_ok ?_ ?_
    | with_reducible refine' ev_bin mul_ok ?_ ?_
    | ((with_reducible refine' ev_append ?_ ?_ ?b ?he); (case b => exact fun _ => rfl); (case he => exact fun _ => rfl))
    | ((with_reducible refine' ev_pop ?_ ?he); (case he => exact fun _ => rfl))
    | ((with_reducible refine' m_pub (by assumption) ?_ ?he); (case he => exact fun _ => rfl))
    | ((with_reducible refine' m_sys (by assumption) ?_ ?he); (case he => exact fun _ => rfl))
    | ((with_reducible refine' m_init (by assumption) ?_ ?_ ?he); (case he => exact fun _ => rfl))
    | ((with_reducible refine' c_id (by assumption) ?_ rfl ?a); (case a => exact rfl))
    | ((with_reducible refine' c_grown (by assumption) (by assumption) ?_ rfl ?a); (case a => exact rfl))
    | ((with_reducible refine' c_walked (by assumption) (by assumption) ?_ rfl ?a); (case a => exact rfl))
    | ((with_reducible refine' c_least (by assumption) (by assumption) ?_ rfl ?a); (case a => exact rfl))
    | ((with_reducible refine' c_len (by assumption) ?_ rfl ?a); (case a => exact rfl))
    | ((with_reducible refine' c_min (by assumption) ?_ rfl ?a); (case a => exact rfl))
    | ((with_reducible refine' ev_index (by assumption) ?_ ?_ ?b ?he); (case b => exact fun _ => rfl); (case he => exact fun _ => rfl))
    | ((with_reducible refine' ev_idxX (by assumption) ?_ ?_ ?b); (case b => exact fun _ _ => rfl))
    | with_reducible refine' ev_slice (by assumption) ?_ ?_ ?_ ?_
    | ((with_reducible refine' ev_comp (by assumption) ⟨rfl, rfl, ?nc, ?lc, ?nm, ?fe, ?nd, ?fr⟩ ?_ ?_ ?_ ?hs); (case nc => decide); (case lc => rfl); (case nm => decide); (case fe => decide); (case hs => exact fun _ _ => rfl); (case fr => (repeat' (first | with_reducible exact frs_nil | ((with_reducible refine' frs_free ?_ ?_ ?a); (case a => rfl)) | with_reducible refine' frs_local ?_ | with_reducible refine' frs_glob ?_ | with_reducible refine' frs_cell ?_ | with_reducible exact at0 | with_reducible refine' atS ?_))); (case nd => decide)))
  | ((with_reducible show Evs _ _ _ _ _ _); first
    | with_reducible exact evs_nil
    | with_reducible refine' evs_cons ?_ ?_ (fun _ => rfl))
  | ((with_reducible show Et _ _ _ _ _ _); first
    | with_reducible refine' et_and ?_ ?_
    | with_reducible refine' et_or ?_ ?_
    | with_reducible refine' et_cmp (is_ok (by assumption)) ?_ ?_
    | with_reducible refine' et_cmp (isnot_ok (by assumption)) ?_ ?_
    | with_reducible refine' et_cmp eq_okI ?_ ?_
    | with_reducible refine' et_cmp (neD_ok (by assumption)) ?_ ?_
    | with_reducible refine' et_cmp gt_okI ?_ ?_
    | with_reducible refine' et_cmp ge_okI ?_ ?_
    | with_reducible refine' et_tv ?_ (fun _ _ => rfl))
  | ((with_reducible show Ets _ _ _ _ _ _); first
    | with_reducible exact ets_nil
    | with_reducible refine' ets_one ?_)
  | ((with_reducible show Ei _ _ _ _ _ _); first
    | ((with_reducible refine' c_range1 (by assumption) ?_ ?hs rfl ?a); (case hs => exact fun _ => rfl); (case a => exact rfl))
    | ((with_reducible refine' ei_list (by assumption) ?_)))
  | ((with_reducible show Ex _ _ _ _ _ _); first
    | ((with_reducible refine' ex_set ?_ ?_ (.inl ?a) rfl ?b); (case a => exact rfl); (case b => exact fun _ => rfl))
    | ((with_reducible refine' ex_set ?_ ?_ (.inr ?a) rfl ?b); (case a => exact rfl); (case b => exact fun _ => rfl))
    | ((with_reducible refine' ex_setX ?_ ?_ (.inr ?a) rfl ?sw); (case a => exact rfl); (case sw => (intro env he; unfold swapsWith Env.blockKind Env.kindOf; rw [he]; rfl)))
    | ((with_reducible refine' ex_setRN ?_ ?_ rfl ?b ?sw); (case b => exact fun _ => rfl); (case sw => (intro env he; unfold swappedStores Env.blockKind Env.kindOf; rw [he]; rfl)))
    | ((with_reducible refine' ex_setTN ?_ ?_ rfl rfl ?b ?sw); (case b => exact fun _ => rfl); (case sw => (intro env he; first | rfl | (unfold swappedStores Env.blockKind Env.kindOf; rw [he]; rfl))))
    | ((with_reducible refine' ex_for (by assumption) ?_ ?_ ?_ ?_ ?fs); (case fs => exact fun _ _ => rfl))
    | with_reducible refine' ex_while ?_ ?_
    | with_reducible refine' ex_ret ?_
    | with_reducible refine' ex_if ?_ ?_ ?_
    | ((with_reducible refine' ex_expr ?_ rfl ?b); (case b => exact fun _ => rfl)))
  | ((with_reducible show Exs _ _ _ _ _ _); first
    | with_reducible exact exs_nil
    | with_reducible refine' exs_cons ?_ ?_)
  | with_reducible exact evo_none
  | with_reducible refine' evo_some ?_
  | with_reducible exact lot_name
  | ((with_reducible show Slots _ _ _ _); first | exact slots_nil | (refine' slots_cons ?_ ?_ (.inl ?a); (case a => exact rfl)) | (refine' slots_cons ?_ ?_ (.inr ?a); (case a => exact rfl)))
  | ((with_reducible refine' at_name ?_ (.inl ?a) rfl); (case a => exact rfl))
  | ((with_reducible refine' at_name ?_ (.inr ?a) rfl); (case a => exact rfl))
  ))
set_option maxHeartbeats 4000000 in
theorem least_ok (G : Good (cx01 w h₀ mg mb aS vs ns)) : FnC (cx01 w h₀ mg mb aS vs ns) (d + 1 + 1) (.ref 79) leastW := by
  refine' FnC.weaken (fn_ok (W := _) (ps := [Str.ofString "numbers", Str.ofString "low", Str.ofString "high"]) (rest := []) G (G.X 79 _ rfl) rfl (codeRec_of G.X (by kernel_rfl)) rfl rfl ?hb rfl rfl rfl rfl rfl ?nd ?kd ?ex) ?k
  case hb => intro vals hl; match vals, hl with | [a, b, c], _ => rfl
  case nd => decide
  case kd => decide
  case ex =>
    dsimp only [List.append_nil, List.cons_append, List.nil_append]
    tb_start
  case k =>
    exact fun args H Q h => least_plain (c := (cx01 w h₀ mg mb aS vs ns)) h
set_option maxHeartbeats 4000000 in
theorem grown_ok (G : Good (cx01 w h₀ mg mb aS vs ns)) : FnC (cx01 w h₀ mg mb aS vs ns) (d + 1 + 1) (.ref 65) grownW := by
  refine' FnC.weaken (fn_ok (W := _) (ps := [Str.ofString "nodes", Str.ofString "numbers"]) (rest := [Str.ofString "way", Str.ofString "k", Str.ofString "left", Str.ofString "above"]) G (G.X 65 _ rfl) rfl (codeRec_of G.X (by kernel_rfl)) rfl rfl ?hb rfl rfl rfl rfl rfl ?nd ?kd ?ex) ?k
  case hb => intro vals hl; match vals, hl with | [a, b], _ => rfl
  case nd => decide
  case kd => decide
  case ex =>
    dsimp only [List.append_nil, List.cons_append, List.nil_append]
    tb_start
  case k =>
    exact fun args H Q h => grown_plain (c := (cx01 w h₀ mg mb aS vs ns)) h
set_option maxHeartbeats 4000000 in
theorem walked_ok (G : Good (cx01 w h₀ mg mb aS vs ns)) : FnC (cx01 w h₀ mg mb aS vs ns) (d + 1 + 1) (.ref 72) walkedW := by
  refine' FnC.weaken (fn_ok (W := _) (ps := [Str.ofString "node"]) (rest := [Str.ofString "row", Str.ofString "last"]) G (G.X 72 _ rfl) rfl (codeRec_of G.X (by kernel_rfl)) rfl rfl ?hb rfl rfl rfl rfl rfl ?nd ?kd ?ex) ?k
  case hb => intro vals hl; match vals, hl with | [a], _ => rfl
  case nd => decide
  case kd => decide
  case ex =>
    dsimp only [List.append_nil, List.cons_append, List.nil_append]
    tb_start
  case k =>
    exact fun args H Q h => walked_plain (c := (cx01 w h₀ mg mb aS vs ns)) h
set_option maxHeartbeats 4000000 in
theorem law_step (G : Good (cx01 w h₀ mg mb aS vs ns)) (hG : FnC (cx01 w h₀ mg mb aS vs ns) 9 (.ref 65) grownW) (hW : FnC (cx01 w h₀ mg mb aS vs ns) 9 (.ref 72) walkedW) (hE : FnC (cx01 w h₀ mg mb aS vs ns) 9 (.ref 79) leastW) : FnC1 (cx01 w h₀ mg mb aS vs ns) (10) (.ref 84) (fun args H Q => args = [.script] ∧ H = [] ∧ ns.length ≤ 63 ∧ ∀ H', Q (.bool true) H') := by
  refine' FnC1.weaken (fn_ok1 (W := _) (ps := [Str.ofString "script"]) (rest := [Str.ofString "numbers", Str.ofString "count", Str.ofString "nodes", Str.ofString "row", Str.ofString "stands", Str.ofString "spans", Str.ofString "low", Str.ofString "k", Str.ofString "high", Str.ofString "left", Str.ofString "right"]) G (G.X 84 _ rfl) rfl (codeRec_of G.X (by kernel_rfl)) rfl rfl ?hb rfl rfl rfl rfl rfl ?nd ?kd ?ex) ?k
  case hb => intro vals hl; match vals, hl with | [a], _ => rfl
  case nd => decide
  case kd => decide
  case ex =>
    dsimp only [List.append_nil, List.cons_append, List.nil_append]
    refine' exs1_cons (ex1_of ?_) (exs1_cons (ex1_of ?_) (exs1_cons (ex1_of ?_) (exs1_cons (ex_refused (i := 3) G (refused G) ⟨rfl, rfl, ?nc, ?lc, ?nm, ?fe, ?nd, ?fr⟩ ?_ (fun _ _ => rfl) rfl (by kernel_rfl) (by kernel_rfl) (by decide) (by decide) (fun _ => rfl) (fun _ _ => rfl)) (exs1_of ?_))))
    case nc => decide
    case lc => rfl
    case nm => decide
    case fe => decide
    case nd => decide
    case fr => (repeat' (first | with_reducible exact frs_nil | with_reducible refine' frs_local ?_ | with_reducible refine' frs_glob ?_))
    tb_start
  case k =>
    rintro args H Q ⟨rfl, rfl, hn, q⟩
    exact ⟨rfl, law01 (c := (cx01 w h₀ mg mb aS vs ns)) hn fun _ H' => q H'⟩
theorem law_ok (G : Good (cx01 w h₀ mg mb aS vs ns)) : FnC1 (cx01 w h₀ mg mb aS vs ns) 10 (.ref 84) (fun args H Q => args = [.script] ∧ H = [] ∧ ns.length ≤ 63 ∧ ∀ H', Q (.bool true) H') := law_step G (grown_ok G) (walked_ok G) (least_ok G)
end
end Mine

open Mine
set_option maxHeartbeats 8000000 in
theorem PySem.Challenge.cw_dn0274_01_holds : PySem.Challenge.rw_dn0274_01.Holds := by
  refine Mine.hd01 ?_
  intro w s₀ s₁ mg mb G Y fa o pm cd doc dV kV ho hd hcd hD hmg hg args vals as hpre hlay hrd hwl hlo
  have KX := kIn_of Y
  refine Ground.open G ?_
  intro T B D TE TW
  wrow_args hpre hlay hrd hwl hlo
  all_goals (
    first | refine callC_kw (enter_call ?_) | refine enter_call ?_ | refine callC_kw (enter_callW ?_) | refine enter_callW ?_ | w_how
    w_top on
    try refine codeAny_mono ?_ (fun _ _ g => GoodW.toG g))
  clear hd hcd hD
  rename_i ns _ _ _ _ _ _ _ aS vals _ hL _ _ _ hI _ hlen _
  have hG : Good (cx01 w s₁.heap mg mb aS vals ns) := ⟨T.g, T.b, T.nolimit, KX, T.builtins, hL, hI, fun a k n e => by cases e⟩
  have h84 : mg (Str.ofString "law") = some (.ref 84) := mg_of KX T.g (by kernel_rfl)
  have efa : fa = 84 := by
    have := hmg.symm.trans h84
    cases this; rfl
  subst efa
  refine law_ok hG callerA s₁ ⟨[], []⟩ [] [.script] [.ref aS] (fun v _ => v = .bool true) _ rfl ⟨rfl, by decide, by decide⟩ ⟨fun _ _ e => e, fun _ _ _ h => (nomatch h), rfl, List.nodup_nil, fun k a lo e => by simp at e, fun _ h => (nomatch h), fun _ h => (nomatch h), (let ⟨o, _, _, ho, _⟩ := T.g; ⟨o, ho⟩), fun _ h => (nomatch h)⟩ (.cons .script .nil) ⟨rfl, rfl, by omega, fun _ => rfl⟩ fun x s' p => ?_
  obtain ⟨v, H, φ', rfl, ok, rv, g, r⟩ := p
  cases rv
  obtain ⟨h', t', rfl⟩ := r
  exact ⟨.inl ⟨.bool true, .bool true, [], rfl, fun cls => rfl, .bool true, by first | kernel_rfl | (show (decide _) = true; simp) | trace_state, unshared_nil⟩, ok.base, rfl, hg⟩
