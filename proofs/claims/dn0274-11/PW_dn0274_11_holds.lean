import PyProof.Rows.All
import Wide.All
import OpenK.AllK
import Wide.FinOn
import PySem.Challenge.RW_dn0274_11
open PySem PySem.W PyProof.Rows
set_option Elab.async false
set_option linter.all false
set_option maxRecDepth 100000
namespace Mine

/-- abstract values -/
inductive V where
  | none
  | bool (b : Bool)
  | int (i : Int)
  | str (s : Str)
  | loc (k : Nat)
  | tup (vs : List V)
  | obj (c : Nat) (fs : List V)
  | glob (a : Addr)
  | script

/-- abstract mutable objects -/
inductive LO where
  | list (xs : List V)
  | inst (c : Nat) (fs : List (Option V))
  | dict (kvs : List (Int × V))

abbrev HW := List LO
abbrev Sl := List (Option V)

/-- what stays as it is throughout the law's call -/
structure Cx where
  prog : Program
  w : World
  h₀ : Heap
  mg : Str → Option Value
  mb : Str → Option Value
  K : Frag
  aS : Addr
  vs : List Value
  ns : List Int
  cls : Nat → Addr
  gC : Addr → Option (Nat × Nat)

structure Good (c : Cx) : Prop where
  G : c.h₀.Ns mainGlobals c.mg
  B : c.h₀.Ns builtinsNs c.mb
  NL : c.h₀.NoLimit
  X : c.K.In c.h₀
  BB : ∀ x, x ≠ Str.ofString "__name__" → c.mb x = bootBuiltins x
  S : c.h₀.IsList c.aS c.vs.toArray
  I : IntsAre c.vs c.ns
  gl : ∀ a k n, c.gC a = some (k, n) → ∃ b, c.h₀.get? a = some ⟨.ref (c.cls k), some b, .plain, (List.replicate n (some Value.none)).toArray⟩ ∧ c.h₀.get? b = some (dictOf [] 0)

/-- which addresses bear the tracked objects, and which bear what values lean on and nothing turns -/
structure Mp where
  l : List Addr
  z : List Addr

mutual
inductive RepV (c : Cx) (φ : Mp) (h : Heap) : V → Value → Prop
  | none : RepV c φ h .none .none
  | bool {b} : RepV c φ h (.bool b) (.bool b)
  | int {i t} : RepV c φ h (.int i) (.int i t)
  | str {s t} : RepV c φ h (.str s) (.str s t)
  | loc {k a} : φ.l[k]? = some a → RepV c φ h (.loc k) (.ref a)
  | tup {vs xs a n} : a ∉ φ.l → a ∈ φ.z → c.h₀.get? a = none → h.get? a = some { cls := .type "tuple", data := .seq xs.toArray n } → RepVs c φ h vs xs → RepV c φ h (.tup vs) (.ref a)
  | obj {k fs xs a b} {sl : Array (Option Value)} : a ∉ φ.l → a ∈ φ.z → b ∉ φ.l → b ∈ φ.z → c.h₀.get? a = none → h.get? a = some ⟨.ref (c.cls k), some b, .plain, sl⟩ → (∀ i : Nat, (sl[i]?).join = xs[i]?) → h.get? b = some (dictOf [] 0) → RepVs c φ h fs xs → RepV c φ h (.obj k fs) (.ref a)
  | glob {a o} : c.h₀.get? a = some o → RepV c φ h (.glob a) (.ref a)
  | script : RepV c φ h .script (.ref c.aS)
inductive RepVs (c : Cx) (φ : Mp) (h : Heap) : List V → List Value → Prop
  | nil : RepVs c φ h [] []
  | cons {v x vs xs} : RepV c φ h v x → RepVs c φ h vs xs → RepVs c φ h (v :: vs) (x :: xs)
end

/-- the heap has grown; what is not tracked stands as it stood -/
structure Grow (φ : Mp) (h : Heap) (φ' : Mp) (h' : Heap) : Prop where
  ext : ∃ δ ζ, φ'.l = φ.l ++ δ ∧ φ'.z = φ.z ++ ζ ∧ (∀ a ∈ δ, h.get? a = none) ∧ ∀ a ∈ ζ, h.get? a = none
  keep : ∀ b o, h.get? b = some o → b ∉ φ.l → h'.get? b = some o
  live : ∀ b o, h.get? b = some o → ∃ o', h'.get? b = some o'

theorem Grow.nin {φ h φ' h'} (g : Grow φ h φ' h') {a o} (n : a ∉ φ.l) (e : h.get? a = some o) : a ∉ φ'.l := by
  obtain ⟨δ, ζ, e1, e2, hd, hz⟩ := g.ext
  rw [e1]
  intro m
  rcases List.mem_append.mp m with m | m
  · exact n m
  · rw [hd a m] at e; cases e
theorem Grow.ninz {φ h φ' h'} (g : Grow φ h φ' h') {a o} (n : a ∉ φ.z) (e : h.get? a = some o) : a ∉ φ'.z := by
  obtain ⟨δ, ζ, e1, e2, hd, hz⟩ := g.ext
  rw [e2]
  intro m
  rcases List.mem_append.mp m with m | m
  · exact n m
  · rw [hz a m] at e; cases e
theorem Grow.inz {φ h φ' h'} (g : Grow φ h φ' h') {a} (n : a ∈ φ.z) : a ∈ φ'.z := by
  obtain ⟨δ, ζ, e1, e2, hd, hz⟩ := g.ext
  rw [e2]; exact List.mem_append_left _ n
theorem Grow.at {φ h φ' h'} (g : Grow φ h φ' h') {k : Nat} {a} (e : φ.l[k]? = some a) : φ'.l[k]? = some a := by
  obtain ⟨δ, ζ, e1, _, _⟩ := g.ext
  rw [e1, List.getElem?_append_left]
  · exact e
  · exact (List.getElem?_eq_some_iff.mp e).1
theorem Grow.refl (φ h) : Grow φ h φ h := ⟨⟨[], [], by simp, by simp, by simp, by simp⟩, fun _ _ e _ => e, fun _ o e => ⟨o, e⟩⟩
theorem Grow.trans {φ h φ₁ h₁ φ₂ h₂} (g : Grow φ h φ₁ h₁) (g' : Grow φ₁ h₁ φ₂ h₂) : Grow φ h φ₂ h₂ := by
  refine ⟨?_, fun b o e n => g'.keep b o (g.keep b o e n) (g.nin n e), fun b o e => ?_⟩
  · obtain ⟨δ, ζ, e1, e2, hd, hz⟩ := g.ext
    obtain ⟨δ', ζ', e1', e2', hd', hz'⟩ := g'.ext
    refine ⟨δ ++ δ', ζ ++ ζ', by simp [e1, e1'], by simp [e2, e2'], fun a m => ?_, fun a m => ?_⟩
    · rcases List.mem_append.mp m with m | m
      · exact hd a m
      · cases q : h.get? a with
        | none => rfl
        | some o => obtain ⟨o', e'⟩ := g.live a o q; rw [hd' a m] at e'; cases e'
    · rcases List.mem_append.mp m with m | m
      · exact hz a m
      · cases q : h.get? a with
        | none => rfl
        | some o => obtain ⟨o', e'⟩ := g.live a o q; rw [hz' a m] at e'; cases e'
  · obtain ⟨o', e'⟩ := g.live b o e
    exact g'.live b o' e'
/-- nothing tracked is touched, nothing new is tracked -/
theorem Grow.of_keep {φ h h'} (k : ∀ b o, h.get? b = some o → h'.get? b = some o) : Grow φ h φ h' :=
  ⟨⟨[], [], by simp, by simp, by simp, by simp⟩, fun b o e _ => k b o e, fun b o e => ⟨o, k b o e⟩⟩

mutual
theorem RepV.grow {c : Cx} {φ h φ' h'} (g : Grow φ h φ' h') : ∀ {v x}, RepV c φ h v x → RepV c φ' h' v x
  | _, _, .none => .none
  | _, _, .bool => .bool
  | _, _, .int => .int
  | _, _, .str => .str
  | _, _, .loc e => .loc (g.at e)
  | _, _, .tup n z n0 e r => .tup (g.nin n e) (g.inz z) n0 (g.keep _ _ e n) (RepVs.grow g r)
  | _, _, .obj n z m y n0 e es e' r => .obj (g.nin n e) (g.inz z) (g.nin m e') (g.inz y) n0 (g.keep _ _ e n) es (g.keep _ _ e' m) (RepVs.grow g r)
  | _, _, .glob e => .glob e
  | _, _, .script => .script
theorem RepVs.grow {c : Cx} {φ h φ' h'} (g : Grow φ h φ' h') : ∀ {vs xs}, RepVs c φ h vs xs → RepVs c φ' h' vs xs
  | _, _, .nil => .nil
  | _, _, .cons r rs => .cons (RepV.grow g r) (RepVs.grow g rs)
end

mutual
theorem RepV.keep {c : Cx} {φ h h'} (g : ∀ b o, b ∈ φ.z → h.get? b = some o → h'.get? b = some o) : ∀ {v x}, RepV c φ h v x → RepV c φ h' v x
  | _, _, .none => .none
  | _, _, .bool => .bool
  | _, _, .int => .int
  | _, _, .str => .str
  | _, _, .loc e => .loc e
  | _, _, .tup n z n0 e r => .tup n z n0 (g _ _ z e) (RepVs.keep g r)
  | _, _, .obj n z m y n0 e es e' r => .obj n z m y n0 (g _ _ z e) es (g _ _ y e') (RepVs.keep g r)
  | _, _, .glob e => .glob e
  | _, _, .script => .script
theorem RepVs.keep {c : Cx} {φ h h'} (g : ∀ b o, b ∈ φ.z → h.get? b = some o → h'.get? b = some o) : ∀ {vs xs}, RepVs c φ h vs xs → RepVs c φ h' vs xs
  | _, _, .nil => .nil
  | _, _, .cons r rs => .cons (RepV.keep g r) (RepVs.keep g rs)
end

theorem RepVs.length {c : Cx} {φ h} : ∀ {vs xs}, RepVs c φ h vs xs → vs.length = xs.length
  | _, _, .nil => rfl
  | _, _, .cons _ r => by simp [r.length]
theorem RepVs.get {c : Cx} {φ h} : ∀ {vs xs}, RepVs c φ h vs xs → ∀ {i : Nat} {v}, vs[i]? = some v → ∃ x, xs[i]? = some x ∧ RepV c φ h v x
  | _, _, .nil, i, v, e => by simp at e
  | _, _, .cons r rs, 0, v, e => by
    simp at e; subst e; exact ⟨_, rfl, r⟩
  | _, _, .cons r rs, i + 1, v, e => by
    simp at e; obtain ⟨x, h1, h2⟩ := rs.get e; exact ⟨x, by simpa using h1, h2⟩
theorem RepVs.append {c : Cx} {φ h} : ∀ {vs xs ws ys}, RepVs c φ h vs xs → RepVs c φ h ws ys → RepVs c φ h (vs ++ ws) (xs ++ ys)
  | _, _, _, _, .nil, s => s
  | _, _, _, _, .cons r rs, s => .cons r (rs.append s)
theorem RepVs.take {c : Cx} {φ h} : ∀ {vs xs}, RepVs c φ h vs xs → ∀ n : Nat, RepVs c φ h (vs.take n) (xs.take n)
  | _, _, .nil, n => by simp; exact .nil
  | _, _, .cons r rs, 0 => by simp; exact .nil
  | _, _, .cons r rs, n + 1 => by simp; exact .cons r (rs.take n)
theorem RepVs.drop {c : Cx} {φ h} : ∀ {vs xs}, RepVs c φ h vs xs → ∀ n : Nat, RepVs c φ h (vs.drop n) (xs.drop n)
  | _, _, .nil, n => by simp; exact .nil
  | _, _, .cons r rs, 0 => by simp; exact .cons r rs
  | _, _, .cons r rs, n + 1 => by simp; exact rs.drop n
theorem RepVs.reverse {c : Cx} {φ h} : ∀ {vs xs}, RepVs c φ h vs xs → RepVs c φ h vs.reverse xs.reverse
  | _, _, .nil => .nil
  | _, _, .cons r rs => by simp only [List.reverse_cons]; exact rs.reverse.append (.cons r .nil)

/-- the object of the heap that bears an abstract one -/
inductive RepO (c : Cx) (φ : Mp) (h : Heap) : LO → Obj → Prop
  | list {vs xs n} : RepVs c φ h vs xs → RepO c φ h (.list vs) { cls := .type "list", data := .seq xs.toArray n }
  | inst {k : Nat} {fs : List (Option V)} {xs : Array (Option Value)} {b : Addr} : (∀ (i : Nat) v, (fs[i]?).join = some v → ∃ x, (xs[i]?).join = some x ∧ RepV c φ h v x) → (∀ i : Nat, (fs[i]?).join = none → (xs[i]?).join = none) →
      b ∉ φ.l → b ∈ φ.z → h.get? b = some (dictOf [] 0) → RepO c φ h (.inst k fs) ⟨.ref (c.cls k), some b, .plain, xs⟩

theorem RepO.grow {c : Cx} {φ h φ' h'} (g : Grow φ h φ' h') {lo o} (r : RepO c φ h lo o) : RepO c φ' h' lo o := by
  cases r with
  | list r => exact .list (r.grow g)
  | inst r z n y e => exact .inst (fun i v e => by obtain ⟨x, h1, h2⟩ := r i v e; exact ⟨x, h1, h2.grow g⟩) z (g.nin n e) (g.inz y) (g.keep _ _ e n)
theorem RepO.keep {c : Cx} {φ h h'} (g : ∀ b o, b ∈ φ.z → h.get? b = some o → h'.get? b = some o) {lo o} (r : RepO c φ h lo o) : RepO c φ h' lo o := by
  cases r with
  | list r => exact .list (r.keep g)
  | inst r z n y e => exact .inst (fun i v e => by obtain ⟨x, h1, h2⟩ := r i v e; exact ⟨x, h1, h2.keep g⟩) z n y (g _ _ y e)

structure Ok (c : Cx) (φ : Mp) (H : HW) (h : Heap) : Prop where
  base : ∀ b o, c.h₀.get? b = some o → h.get? b = some o
  off : ∀ b o, c.h₀.get? b = some o → b ∉ φ.l
  len : φ.l.length = H.length
  nodup : φ.l.Nodup
  objs : ∀ (k : Nat) a lo, φ.l[k]? = some a → H[k]? = some lo → ∃ o, h.get? a = some o ∧ RepO c φ h lo o
  dj : ∀ a, a ∈ φ.z → a ∉ φ.l
  zl : ∀ a, a ∈ φ.z → ∃ o, h.get? a = some o

theorem Ok.live {c φ H h} (ok : Ok c φ H h) {a} (m : a ∈ φ.l) : ∃ o, h.get? a = some o := by
  obtain ⟨k, hk, e⟩ := List.getElem_of_mem m
  have hk' : k < H.length := by rw [← ok.len]; exact hk
  obtain ⟨o, e', _⟩ := ok.objs k a H[k] (by rw [List.getElem?_eq_getElem hk, e]) (List.getElem?_eq_getElem hk')
  exact ⟨o, e'⟩
/-- untracked objects alone are new -/
theorem Ok.keep {c φ H h h'} (ok : Ok c φ H h) (k : ∀ b o, h.get? b = some o → h'.get? b = some o) : Ok c φ H h' :=
  ⟨fun b o e => k b o (ok.base b o e), ok.off, ok.len, ok.nodup, fun i a lo e1 e2 => by
    obtain ⟨o, h1, h2⟩ := ok.objs i a lo e1 e2
    exact ⟨o, k _ _ h1, h2.keep fun b o _ e => k b o e⟩, ok.dj, fun a m => by obtain ⟨o, e⟩ := ok.zl a m; exact ⟨o, k _ _ e⟩⟩
/-- an object that is neither tracked nor leant on is turned -/
theorem Ok.same {c φ H h h'} (ok : Ok c φ H h) {L : Addr} (n : L ∉ φ.l) (z : L ∉ φ.z) (n0 : c.h₀.get? L = none) (k : ∀ b o, b ≠ L → h.get? b = some o → h'.get? b = some o) : Ok c φ H h' :=
  ⟨fun b o e => k b o (fun q => by rw [q, n0] at e; cases e) (ok.base b o e), ok.off, ok.len, ok.nodup, fun i a lo e1 e2 => by
    obtain ⟨o, h1, h2⟩ := ok.objs i a lo e1 e2
    exact ⟨o, k _ _ (fun q => n (q ▸ List.mem_of_getElem? e1)) h1, h2.keep fun b o y e => k b o (fun q => z (q ▸ y)) e⟩, ok.dj, fun a m => by obtain ⟨o, e⟩ := ok.zl a m; exact ⟨o, k _ _ (fun q => z (q ▸ m)) e⟩⟩
/-- a new object that values lean on -/
theorem Ok.freeze {c φ H h h'} (ok : Ok c φ H h) {a : Addr} {o : Obj} (n : h.get? a = none) (k : ∀ b o, h.get? b = some o → h'.get? b = some o) (e : h'.get? a = some o) :
    Ok c ⟨φ.l, φ.z ++ [a]⟩ H h' ∧ Grow φ h ⟨φ.l, φ.z ++ [a]⟩ h' := by
  have g : Grow φ h ⟨φ.l, φ.z ++ [a]⟩ h' := ⟨⟨[], [a], by simp, rfl, by simp, fun b m => by rw [List.mem_singleton.mp m]; exact n⟩, fun b o e _ => k b o e, fun b o e => ⟨o, k b o e⟩⟩
  refine ⟨⟨fun b o e => k b o (ok.base b o e), ok.off, ok.len, ok.nodup, fun i x lo' e1 e2 => ?_, fun b m => ?_, fun b m => ?_⟩, g⟩
  · obtain ⟨o', h1, h2⟩ := ok.objs i x lo' e1 e2
    exact ⟨o', k _ _ h1, h2.grow g⟩
  · rcases List.mem_append.mp m with m | m
    · exact ok.dj b m
    · rw [List.mem_singleton.mp m]
      intro q
      obtain ⟨o', e'⟩ := ok.live q
      rw [n] at e'; cases e'
  · rcases List.mem_append.mp m with m | m
    · obtain ⟨o, e⟩ := ok.zl b m; exact ⟨o, k _ _ e⟩
    · rw [List.mem_singleton.mp m]; exact ⟨o, e⟩
/-- a new tracked object -/
theorem Ok.alloc {c φ H h h'} (ok : Ok c φ H h) {a : Addr} {o : Obj} {lo : LO} (n : h.get? a = none) (k : ∀ b o, h.get? b = some o → h'.get? b = some o) (e : h'.get? a = some o) (r : RepO c φ h lo o) :
    Ok c ⟨φ.l ++ [a], φ.z⟩ (H ++ [lo]) h' ∧ Grow φ h ⟨φ.l ++ [a], φ.z⟩ h' := by
  have g : Grow φ h ⟨φ.l ++ [a], φ.z⟩ h' := ⟨⟨[a], [], rfl, by simp, fun b m => by rw [List.mem_singleton.mp m]; exact n, by simp⟩, fun b o e _ => k b o e, fun b o e => ⟨o, k b o e⟩⟩
  refine ⟨⟨fun b o e => k b o (ok.base b o e), fun b o e m => ?_, by simp [ok.len], ?_, fun i x lo' e1 e2 => ?_, fun b m q => ?_, fun b m => by obtain ⟨o, e⟩ := ok.zl b m; exact ⟨o, k _ _ e⟩⟩, g⟩
  · rcases List.mem_append.mp m with m | m
    · exact ok.off b o e m
    · rw [List.mem_singleton.mp m] at e; have := ok.base a o e; rw [n] at this; cases this
  · refine List.nodup_append.mpr ⟨ok.nodup, by simp, fun x m y m' q => ?_⟩
    rw [List.mem_singleton.mp m'] at q
    obtain ⟨o', e'⟩ := ok.live m
    rw [q, n] at e'; cases e'
  · by_cases hi : i < φ.l.length
    · rw [List.getElem?_append_left hi] at e1
      rw [List.getElem?_append_left (by rw [← ok.len]; exact hi)] at e2
      obtain ⟨o', h1, h2⟩ := ok.objs i x lo' e1 e2
      exact ⟨o', k _ _ h1, h2.grow g⟩
    · have hi' : φ.l.length ≤ i := Nat.not_lt.mp hi
      rw [List.getElem?_append_right hi'] at e1
      rw [List.getElem?_append_right (by rw [← ok.len]; exact hi'), ← ok.len] at e2
      cases q : i - φ.l.length with
      | zero =>
        rw [q] at e1 e2
        simp at e1 e2
        subst e1 e2
        exact ⟨o, e, r.grow g⟩
      | succ j => rw [q] at e1; simp at e1
  · rcases List.mem_append.mp q with q | q
    · exact ok.dj b m q
    · obtain ⟨o', e'⟩ := ok.zl b m
      rw [List.mem_singleton.mp q, n] at e'; cases e'
/-- a tracked object is turned -/
theorem Ok.put {c φ H h h'} (ok : Ok c φ H h) {k : Nat} {a : Addr} {o : Obj} {lo : LO} (ek : φ.l[k]? = some a) (sb : ∀ b o, b ≠ a → h.get? b = some o → h'.get? b = some o) (e : h'.get? a = some o) (r : RepO c φ h lo o) :
    Ok c φ (H.set k lo) h' ∧ Grow φ h φ h' := by
  have ma : a ∈ φ.l := List.mem_of_getElem? ek
  have g : Grow φ h φ h' := ⟨⟨[], [], by simp, by simp, by simp, by simp⟩, fun b o e n => sb b o (fun q => n (q ▸ ma)) e, fun b o' e' => by
    by_cases q : b = a
    · exact ⟨o, q ▸ e⟩
    · exact ⟨o', sb b o' q e'⟩⟩
  refine ⟨⟨fun b o e => sb b o (fun q => ok.off b o e (q ▸ ma)) (ok.base b o e), ok.off, by simp [ok.len], ok.nodup, fun i x lo' e1 e2 => ?_, ok.dj, fun b m => by obtain ⟨o, e⟩ := ok.zl b m; exact ⟨o, sb _ _ (fun q => ok.dj b m (q ▸ ma)) e⟩⟩, g⟩
  by_cases q : i = k
  · subst q
    rw [e1] at ek
    cases ek
    rw [List.getElem?_set_self (by rw [← ok.len]; exact (List.getElem?_eq_some_iff.mp e1).1)] at e2
    cases e2
    exact ⟨o, e, r.grow g⟩
  · rw [List.getElem?_set_ne (Ne.symm q)] at e2
    obtain ⟨o', h1, h2⟩ := ok.objs i x lo' e1 e2
    refine ⟨o', sb _ _ (fun z => q ?_) h1, h2.grow g⟩
    subst z
    obtain ⟨l1, e1'⟩ := List.getElem?_eq_some_iff.mp e1
    obtain ⟨l2, ek'⟩ := List.getElem?_eq_some_iff.mp ek
    exact (List.getElem_inj (h₀ := l1) (h₁ := l2) ok.nodup).mp (e1'.trans ek'.symm)
end Mine

namespace Mine

inductive Fl where
  | next
  | ret (v : V)

def RepF (c : Cx) (φ : Mp) (h : Heap) : Fl → Flow → Prop
  | .next, .next => True
  | .ret v, .ret x => RepV c φ h v x
  | _, _ => False

structure EnvOK (sc : Scope) (env : Env) : Prop where
  scope : env.scope = sc
  glob : env.globals = mainGlobals
  bi : env.builtins = builtinsNs
theorem EnvOK.kind {sc env} (e : EnvOK sc env) (x : Str) : env.kindOf x = sc.names.lookup x := by
  unfold Env.kindOf; rw [e.scope]

structure AOK (d : Nat) (A : Around) : Prop where
  handled : A.handled = none
  depth : A.depth + d < 900
  units : A.units + 20 * d < 9000

def Rest (s s' : Shared) : Prop := ∃ h t, s' = { s with heap := h, toks := t }
theorem Rest.refl (s : Shared) : Rest s s := ⟨s.heap, s.toks, rfl⟩
theorem Rest.trans {a b c : Shared} (x : Rest a b) (y : Rest b c) : Rest a c := by
  obtain ⟨_, _, rfl⟩ := x
  obtain ⟨_, _, rfl⟩ := y
  exact ⟨_, _, rfl⟩
theorem Rest.mk (s : Shared) (h t) : Rest s { s with heap := h, toks := t } := ⟨h, t, rfl⟩

structure Vars (c : Cx) (ρ : List Str) (φ : Mp) (h : Heap) (env : Env) (sl : Sl) : Prop where
  nd : ρ.Nodup
  len : sl.length = ρ.length
  offL : env.locals ∉ φ.l
  offZ : env.locals ∉ φ.z
  newL : c.h₀.get? env.locals = none
  loc : ∃ m, h.Ns env.locals m ∧ ∀ (i : Nat) x v, ρ[i]? = some x → env.kindOf x = some .local → sl[i]? = some (some v) → ∃ y, m x = some y ∧ RepV c φ h v y
  offC : ∀ x a, env.cells.lookup x = some a → a ∉ φ.l ∧ a ∉ φ.z ∧ c.h₀.get? a = none ∧ ∃ y, h.IsCell a y
  inj : ∀ x y a, env.cells.lookup x = some a → env.cells.lookup y = some a → x = y
  cel : ∀ (i : Nat) x v, ρ[i]? = some x → (env.kindOf x = some .cell ∨ env.kindOf x = some .free) → sl[i]? = some (some v) → ∃ a y, env.cells.lookup x = some a ∧ h.IsCell a (some y) ∧ RepV c φ h v y
  has : ∀ (i : Nat) x, ρ[i]? = some x → env.kindOf x = some .cell → ∃ a, env.cells.lookup x = some a

theorem Vars.grow {c ρ φ h env sl φ' h'} (v : Vars c ρ φ h env sl) (g : Grow φ h φ' h') : Vars c ρ φ' h' env sl := by
  obtain ⟨m, hn, hm⟩ := v.loc
  obtain ⟨o, es, ep, ho, r⟩ := id hn
  refine ⟨v.nd, v.len, g.nin v.offL ho, g.ninz v.offZ ho, v.newL, ⟨m, ⟨o, es, ep, g.keep _ _ ho v.offL, r⟩, fun i x w h1 h2 h3 => ?_⟩, fun x a e => ?_, v.inj, fun i x w h1 h2 h3 => ?_, v.has⟩
  · obtain ⟨y, h4, h5⟩ := hm i x w h1 h2 h3
    exact ⟨y, h4, h5.grow g⟩
  · obtain ⟨n, z, n0, y, o', ho', hd⟩ := v.offC x a e
    exact ⟨g.nin n ho', g.ninz z ho', n0, y, o', g.keep _ _ ho' n, hd⟩
  · obtain ⟨a, y, h4, ⟨o', ho', hd⟩, h6⟩ := v.cel i x w h1 h2 h3
    exact ⟨a, y, h4, ⟨o', g.keep _ _ ho' (v.offC x a h4).1, hd⟩, h6.grow g⟩

/-- what statements leave as it was -/
structure GrowS (env : Env) (φ : Mp) (h : Heap) (φ' : Mp) (h' : Heap) : Prop where
  ext : ∃ δ ζ, φ'.l = φ.l ++ δ ∧ φ'.z = φ.z ++ ζ ∧ (∀ a ∈ δ, h.get? a = none) ∧ ∀ a ∈ ζ, h.get? a = none
  keep : ∀ b o, h.get? b = some o → b ∉ φ.l → b ≠ env.locals → (∀ x, env.cells.lookup x ≠ some b) → h'.get? b = some o
  live : ∀ b o, h.get? b = some o → ∃ o', h'.get? b = some o'
theorem GrowS.nin {env φ h φ' h'} (g : GrowS env φ h φ' h') {a o} (n : a ∉ φ.l) (e : h.get? a = some o) : a ∉ φ'.l := by
  obtain ⟨δ, ζ, e1, e2, hd, hz⟩ := g.ext
  rw [e1]
  intro m
  rcases List.mem_append.mp m with m | m
  · exact n m
  · rw [hd a m] at e; cases e
theorem GrowS.ninz {env φ h φ' h'} (g : GrowS env φ h φ' h') {a o} (n : a ∉ φ.z) (e : h.get? a = some o) : a ∉ φ'.z := by
  obtain ⟨δ, ζ, e1, e2, hd, hz⟩ := g.ext
  rw [e2]
  intro m
  rcases List.mem_append.mp m with m | m
  · exact n m
  · rw [hz a m] at e; cases e
theorem GrowS.at {env φ h φ' h'} (g : GrowS env φ h φ' h') {k : Nat} {a} (e : φ.l[k]? = some a) : φ'.l[k]? = some a := by
  obtain ⟨δ, ζ, e1, _, _⟩ := g.ext
  rw [e1, List.getElem?_append_left]
  · exact e
  · exact (List.getElem?_eq_some_iff.mp e).1
theorem GrowS.trans {env φ h φ₁ h₁ φ₂ h₂} (g : GrowS env φ h φ₁ h₁) (g' : GrowS env φ₁ h₁ φ₂ h₂) : GrowS env φ h φ₂ h₂ := by
  refine ⟨?_, fun b o e n n1 n2 => g'.keep b o (g.keep b o e n n1 n2) (g.nin n e) n1 n2, fun b o e => ?_⟩
  · obtain ⟨δ, ζ, e1, e2, hd, hz⟩ := g.ext
    obtain ⟨δ', ζ', e1', e2', hd', hz'⟩ := g'.ext
    refine ⟨δ ++ δ', ζ ++ ζ', by simp [e1, e1'], by simp [e2, e2'], fun a m => ?_, fun a m => ?_⟩
    · rcases List.mem_append.mp m with m | m
      · exact hd a m
      · cases q : h.get? a with
        | none => rfl
        | some o => obtain ⟨o', e'⟩ := g.live a o q; rw [hd' a m] at e'; cases e'
    · rcases List.mem_append.mp m with m | m
      · exact hz a m
      · cases q : h.get? a with
        | none => rfl
        | some o => obtain ⟨o', e'⟩ := g.live a o q; rw [hz' a m] at e'; cases e'
  · obtain ⟨o', e'⟩ := g.live b o e
    exact g'.live b o' e'
theorem GrowS.refl (env φ h) : GrowS env φ h φ h := ⟨⟨[], [], by simp, by simp, by simp, by simp⟩, fun _ _ e _ _ _ => e, fun _ o e => ⟨o, e⟩⟩
theorem Grow.toS {env φ h φ' h'} (g : Grow φ h φ' h') : GrowS env φ h φ' h' := ⟨g.ext, fun b o e n _ _ => g.keep b o e n, g.live⟩

def PostE (c : Cx) (φ : Mp) (s : Shared) (Q : V → HW → Prop) (x : Value) (s' : Shared) : Prop :=
  ∃ v H φ', Q v H ∧ Ok c φ' H s'.heap ∧ RepV c φ' s'.heap v x ∧ Grow φ s.heap φ' s'.heap ∧ Rest s s'
def PostEs (c : Cx) (φ : Mp) (s : Shared) (Q : List V → HW → Prop) (x : List Value) (s' : Shared) : Prop :=
  ∃ v H φ', Q v H ∧ Ok c φ' H s'.heap ∧ RepVs c φ' s'.heap v x ∧ Grow φ s.heap φ' s'.heap ∧ Rest s s'
def PostT (c : Cx) (φ : Mp) (s : Shared) (Q : Bool → HW → Prop) (b : Bool) (s' : Shared) : Prop :=
  ∃ H φ', Q b H ∧ Ok c φ' H s'.heap ∧ Grow φ s.heap φ' s'.heap ∧ Rest s s'
def PostS (c : Cx) (ρ : List Str) (env : Env) (φ : Mp) (s : Shared) (Q : Fl → Sl → HW → Prop) (f : Flow) (s' : Shared) : Prop :=
  ∃ F sl H φ', Q F sl H ∧ Ok c φ' H s'.heap ∧ Vars c ρ φ' s'.heap env sl ∧ RepF c φ' s'.heap F f ∧ GrowS env φ s.heap φ' s'.heap ∧ Rest s s'

abbrev WE := Sl → HW → (V → HW → Prop) → Prop
abbrev WEs := Sl → HW → (List V → HW → Prop) → Prop
abbrev WT := Sl → HW → (Bool → HW → Prop) → Prop
abbrev WS := Sl → HW → (Fl → Sl → HW → Prop) → Prop
abbrev WF := List V → HW → (V → HW → Prop) → Prop

def Ev (c : Cx) (d : Nat) (sc : Scope) (ρ : List Str) (e : Expr) (W : WE) : Prop :=
  ∀ env A E s φ sl H Q, EnvOK sc env → AOK d A → Ok c φ H s.heap → Vars c ρ φ s.heap env sl → W sl H Q → wpAny (model c.prog c.w) A (eval e env) (PostE c φ s Q) E s
def Evs (c : Cx) (d : Nat) (sc : Scope) (ρ : List Str) (es : List Expr) (W : WEs) : Prop :=
  (∀ env, starEach es env = es.map fun e => (false, eval e env)) ∧ ∀ env A E s φ sl H Q, EnvOK sc env → AOK d A → Ok c φ H s.heap → Vars c ρ φ s.heap env sl → W sl H Q → ∀ pos, wpAny (model c.prog c.w) A (spliced (backTo pos (starEach es env))) (PostEs c φ s Q) E s
def Et (c : Cx) (d : Nat) (sc : Scope) (ρ : List Str) (e : Expr) (W : WT) : Prop :=
  ∀ env A E s φ sl H Q, EnvOK sc env → AOK d A → Ok c φ H s.heap → Vars c ρ φ s.heap env sl → W sl H Q → wpAny (model c.prog c.w) A (isTrue e env (eval e env)) (PostT c φ s Q) E s
def Ex (c : Cx) (d : Nat) (sc : Scope) (ρ : List Str) (e : Stmt) (W : WS) : Prop :=
  ∀ env A E s φ sl H Q, EnvOK sc env → AOK d A → Ok c φ H s.heap → Vars c ρ φ s.heap env sl → W sl H Q → wpAny (model c.prog c.w) A (exec e env) (PostS c ρ env φ s Q) E s
def Exs (c : Cx) (d : Nat) (sc : Scope) (ρ : List Str) (e : List Stmt) (W : WS) : Prop :=
  ∀ env A E s φ sl H Q, EnvOK sc env → AOK d A → Ok c φ H s.heap → Vars c ρ φ s.heap env sl → W sl H Q → wpAny (model c.prog c.w) A (execs e env) (PostS c ρ env φ s Q) E s
/-- a callable of the text keeps to a contract -/
def FnOK (c : Cx) (d : Nat) (f : Value) (W : WF) : Prop :=
  ∀ A E s φ H args vals Q, AOK d A → Ok c φ H s.heap → RepVs c φ s.heap args vals → W args H Q → wpAny (model c.prog c.w) A (call f vals) (PostE c φ s Q) E s

section
variable {c : Cx} {d : Nat} {sc : Scope} {ρ : List Str}

/-- a value that is at hand -/
theorem PostE.here {φ : Mp} {s s' : Shared} {Q : V → HW → Prop} {x : Value} {v : V} {H : HW} (q : Q v H) (ok : Ok c φ H s'.heap) (r : RepV c φ s'.heap v x) (k : ∀ b o, s.heap.get? b = some o → s'.heap.get? b = some o) (rs : Rest s s') : PostE c φ s Q x s' :=
  ⟨v, H, φ, q, ok, r, .of_keep k, rs⟩
theorem PostE.shift {φ φ₁ : Mp} {s s₁ s' : Shared} {Q : V → HW → Prop} {x : Value} (g : Grow φ s.heap φ₁ s₁.heap) (r : Rest s s₁) (p : PostE c φ₁ s₁ Q x s') : PostE c φ s Q x s' := by
  obtain ⟨v, H, φ', q, ok, rv, g', r'⟩ := p
  exact ⟨v, H, φ', q, ok, rv, g.trans g', r.trans r'⟩
theorem PostEs.shift {φ φ₁ : Mp} {s s₁ s' : Shared} {Q : List V → HW → Prop} {x : List Value} (g : Grow φ s.heap φ₁ s₁.heap) (r : Rest s s₁) (p : PostEs c φ₁ s₁ Q x s') : PostEs c φ s Q x s' := by
  obtain ⟨v, H, φ', q, ok, rv, g', r'⟩ := p
  exact ⟨v, H, φ', q, ok, rv, g.trans g', r.trans r'⟩
theorem PostT.shift {φ φ₁ : Mp} {s s₁ s' : Shared} {Q : Bool → HW → Prop} {x : Bool} (g : Grow φ s.heap φ₁ s₁.heap) (r : Rest s s₁) (p : PostT c φ₁ s₁ Q x s') : PostT c φ s Q x s' := by
  obtain ⟨H, φ', q, ok, g', r'⟩ := p
  exact ⟨H, φ', q, ok, g.trans g', r.trans r'⟩
theorem PostS.shift {env : Env} {φ φ₁ : Mp} {s s₁ s' : Shared} {Q : Fl → Sl → HW → Prop} {x : Flow} (g : GrowS env φ s.heap φ₁ s₁.heap) (r : Rest s s₁) (p : PostS c ρ env φ₁ s₁ Q x s') : PostS c ρ env φ s Q x s' := by
  obtain ⟨F, sl, H, φ', q, ok, vs, rf, g', r'⟩ := p
  exact ⟨F, sl, H, φ', q, ok, vs, rf, g.trans g', r.trans r'⟩

/-! ### names -/
def wVar (i : Nat) : WE := fun sl H Q => match sl[i]? with | some (some v) => Q v H | _ => False

theorem wVar_of {i : Nat} {sl : Sl} {H : HW} {Q : V → HW → Prop} (h : wVar i sl H Q) : ∃ v, sl[i]? = some (some v) ∧ Q v H := by
  unfold wVar at h
  split at h
  · rename_i v e; exact ⟨v, e, h⟩
  · exact h.elim

theorem ev_local {i : Nat} {x : Str} {pos : Pos} (hi : ρ[i]? = some x) (hx : sc.names.lookup x = some .local) (hk : sc.kind = .function) (hd : (x == ("__debug__" : Str)) = false) : Ev c d sc ρ (.Name x pos) (wVar i) := by
  intro env A E s φ sl H Q eo ao ok vs w
  obtain ⟨v, e, q⟩ := wVar_of w
  have kx := (eo.kind x).trans hx
  obtain ⟨m, hn, hm⟩ := vs.loc
  obtain ⟨y, h1, h2⟩ := hm i x v hi kx e
  exact wpAny_Name (wpAny_loadName_local (by rw [eo.scope]; exact hk) kx hn h1 (.here q ok h2 (fun _ _ e => e) (Rest.refl s))) hd
theorem ev_cell {i : Nat} {x : Str} {pos : Pos} (hi : ρ[i]? = some x) (hx : sc.names.lookup x = some .cell) (hk : sc.kind = .function) (hd : (x == ("__debug__" : Str)) = false) : Ev c d sc ρ (.Name x pos) (wVar i) := by
  intro env A E s φ sl H Q eo ao ok vs w
  obtain ⟨v, e, q⟩ := wVar_of w
  have kx := (eo.kind x).trans hx
  obtain ⟨a, y, h1, h2, h3⟩ := vs.cel i x v hi (.inl kx) e
  exact wpAny_Name (wpAny_loadName_cell (by rw [eo.scope]; exact hk) kx h1 h2 (.here q ok h3 (fun _ _ e => e) (Rest.refl s))) hd
theorem ev_free {i : Nat} {x : Str} {pos : Pos} (hi : ρ[i]? = some x) (hx : sc.names.lookup x = some .free) (hk : sc.kind = .function) (hd : (x == ("__debug__" : Str)) = false) (hc : (x == ("__classdict__" : Str)) = false) : Ev c d sc ρ (.Name x pos) (wVar i) := by
  intro env A E s φ sl H Q eo ao ok vs w
  obtain ⟨v, e, q⟩ := wVar_of w
  have kx := (eo.kind x).trans hx
  obtain ⟨a, y, h1, h2, h3⟩ := vs.cel i x v hi (.inr kx) e
  exact wpAny_Name (wpAny_loadName_free (by rw [eo.scope]; exact hk) kx h1 h2 (.here q ok h3 (fun _ _ e => e) (Rest.refl s)) hc) hd

/-- storing a name -/
theorem store_okK {i : Nat} {x : Str} {env : Env} {A : Around} {E : Value → Shared → Prop} {s : Shared} {φ : Mp} {sl : Sl} {H : HW} {v : V} {y : Value} {R : Unit → Shared → Prop}
    (hi : ρ[i]? = some x) (hx : sc.names.lookup x = some .local ∨ sc.names.lookup x = some .cell) (hk : sc.kind = .function) (eo : EnvOK sc env) (ok : Ok c φ H s.heap) (vs : Vars c ρ φ s.heap env sl) (rv : RepV c φ s.heap v y)
    (k : ∀ s', Ok c φ H s'.heap → Vars c ρ φ s'.heap env (sl.set i (some v)) → GrowS env φ s.heap φ s'.heap → Rest s s' → (∀ b o, b ≠ env.locals → env.cells.lookup x ≠ some b → s.heap.get? b = some o → s'.heap.get? b = some o) → R () s') : wpAny (model c.prog c.w) A (storeName env x y) R E s := by
  obtain ⟨m, hn, hm⟩ := id vs.loc
  have LC : ∀ a z, s.heap.IsCell a z → a ≠ env.locals := fun a z hz q => by
    obtain ⟨o', ho', hd⟩ := hz
    obtain ⟨o2, es, ep, ho2, hd2, _⟩ := hn
    rw [q, ho2] at ho'; cases ho'; rw [hd] at hd2; cases hd2
  have jx : ∀ j z, ρ[j]? = some z → z = x → j = i := fun j z e q => by
    subst q
    obtain ⟨l1, e1⟩ := List.getElem?_eq_some_iff.mp e
    obtain ⟨l2, e2⟩ := List.getElem?_eq_some_iff.mp hi
    exact (List.getElem_inj (h₀ := l1) (h₁ := l2) vs.nd).mp (e1.trans e2.symm)
  have il : i < sl.length := by rw [vs.len]; exact (List.getElem?_eq_some_iff.mp hi).1
  rcases hx with hx | hx
  · have kx := (eo.kind x).trans hx
    refine wpAny_storeName_local kx hn (fun h' hn' sb => ?_) (by rw [eo.scope, hk]; rfl)
    have kp : ∀ b o, b ≠ env.locals → s.heap.get? b = some o → h'.get? b = some o := fun b o n e => (sb.2 b n).trans e
    have kv : ∀ b o, b ∈ φ.z → s.heap.get? b = some o → h'.get? b = some o := fun b o z e => kp b o (fun q => vs.offZ (q ▸ z)) e
    have ok' := ok.same vs.offL vs.offZ vs.newL kp
    refine k _ ok' ⟨vs.nd, by simp [vs.len], vs.offL, vs.offZ, vs.newL, ⟨_, hn', fun j z w h1 h2 h3 => ?_⟩, fun z a e => ?_, vs.inj, fun j z w h1 h2 h3 => ?_, vs.has⟩ ⟨⟨[], [], by simp, by simp, by simp, by simp⟩, fun b o e _ n _ => kp b o n e, fun b o e => ?_⟩ (Rest.mk ..) (fun b o n _ e => kp b o n e)
    · by_cases q : z = x
      · have := jx j z h1 q
        subst this
        rw [List.getElem?_set_self il] at h3
        cases h3
        exact ⟨y, by simp [q], rv.keep kv⟩
      · rw [List.getElem?_set_ne (fun z2 => q (by subst z2; rw [hi] at h1; cases h1; rfl))] at h3
        obtain ⟨y', h4, h5⟩ := hm j z w h1 h2 h3
        exact ⟨y', by simp [q, h4], h5.keep kv⟩
    · obtain ⟨a1, az, a2, z', ha⟩ := vs.offC z a e
      obtain ⟨oc, ho, hdc⟩ := id ha
      exact ⟨a1, az, a2, z', oc, kp a oc (LC a z' ha) ho, hdc⟩
    · have q : z ≠ x := fun q => by subst q; rw [kx] at h2; rcases h2 with h2 | h2 <;> cases h2
      rw [List.getElem?_set_ne (fun z2 => q (by subst z2; rw [hi] at h1; cases h1; rfl))] at h3
      obtain ⟨a, y', h4, h5, h6⟩ := vs.cel j z w h1 h2 h3
      obtain ⟨oc, ho, hdc⟩ := id h5
      exact ⟨a, y', h4, ⟨oc, kp a oc (LC a _ h5) ho, hdc⟩, h6.keep kv⟩
    · by_cases q : b = env.locals
      · obtain ⟨o2, _, _, ho2, _⟩ := hn'
        exact ⟨o2, q ▸ ho2⟩
      · exact ⟨o, kp b o q e⟩
  · have kx := (eo.kind x).trans hx
    obtain ⟨a, ea⟩ := vs.has i x hi kx
    obtain ⟨a1, az, a2, z0, ha⟩ := vs.offC x a ea
    refine wpAny_storeName_cell (by rw [eo.scope]; exact hk) kx ea ha fun h' hv' sb => ?_
    have kp : ∀ b o, b ≠ a → s.heap.get? b = some o → h'.get? b = some o := fun b o n e => (sb.2 b n).trans e
    have kv : ∀ b o, b ∈ φ.z → s.heap.get? b = some o → h'.get? b = some o := fun b o z e => kp b o (fun q => az (q ▸ z)) e
    have ok' := ok.same a1 az a2 kp
    obtain ⟨o2, es, ep, ho2, r2⟩ := id hn
    refine k _ ok' ⟨vs.nd, by simp [vs.len], vs.offL, vs.offZ, vs.newL, ⟨m, ⟨o2, es, ep, kp _ o2 (fun q => LC a z0 ha q.symm) ho2, r2⟩, fun j z w h1 h2 h3 => ?_⟩, fun z b e => ?_, vs.inj, fun j z w h1 h2 h3 => ?_, vs.has⟩ ⟨⟨[], [], by simp, by simp, by simp, by simp⟩, fun b o e _ _ n => kp b o (fun q => n x (q ▸ ea)) e, fun b o e => ?_⟩ ⟨h', s.toks, rfl⟩ (fun b o _ n e => kp b o (fun q => n (q ▸ ea)) e)
    · have q : z ≠ x := fun q => by subst q; rw [kx] at h2; cases h2
      rw [List.getElem?_set_ne (fun z2 => q (by subst z2; rw [hi] at h1; cases h1; rfl))] at h3
      obtain ⟨y', h4, h5⟩ := hm j z w h1 h2 h3
      exact ⟨y', h4, h5.keep kv⟩
    · by_cases q : b = a
      · subst q
        exact ⟨a1, az, a2, _, hv'⟩
      · obtain ⟨b1, bz, b2, z', oc, ho, hdc⟩ := vs.offC z b e
        exact ⟨b1, bz, b2, z', oc, kp b oc q ho, hdc⟩
    · by_cases q : z = x
      · have := jx j z h1 q
        subst this
        rw [List.getElem?_set_self il] at h3
        cases h3
        exact ⟨a, y, q ▸ ea, hv', rv.keep kv⟩
      · rw [List.getElem?_set_ne (fun z2 => q (by subst z2; rw [hi] at h1; cases h1; rfl))] at h3
        obtain ⟨b, y', h4, h5, h6⟩ := vs.cel j z w h1 h2 h3
        obtain ⟨oc, ho, hdc⟩ := id h5
        exact ⟨b, y', h4, ⟨oc, kp b oc (fun z2 => q (vs.inj z x a (z2 ▸ h4) ea)) ho, hdc⟩, h6.keep kv⟩
    · by_cases q : b = a
      · obtain ⟨o3, ho3, _⟩ := hv'
        exact ⟨o3, q ▸ ho3⟩
      · exact ⟨o, kp b o q e⟩
theorem store_ok {i : Nat} {x : Str} {env : Env} {A : Around} {E : Value → Shared → Prop} {s : Shared} {φ : Mp} {sl : Sl} {H : HW} {v : V} {y : Value} {R : Unit → Shared → Prop}
    (hi : ρ[i]? = some x) (hx : sc.names.lookup x = some .local ∨ sc.names.lookup x = some .cell) (hk : sc.kind = .function) (eo : EnvOK sc env) (ok : Ok c φ H s.heap) (vs : Vars c ρ φ s.heap env sl) (rv : RepV c φ s.heap v y)
    (k : ∀ s', Ok c φ H s'.heap → Vars c ρ φ s'.heap env (sl.set i (some v)) → GrowS env φ s.heap φ s'.heap → Rest s s' → R () s') : wpAny (model c.prog c.w) A (storeName env x y) R E s :=
  store_okK hi hx hk eo ok vs rv fun s' h1 h2 h3 h4 _ => k s' h1 h2 h3 h4
end
end Mine

namespace Mine
section
variable {c : Cx} {d : Nat} {sc : Scope} {ρ : List Str}

theorem Ok.X {φ H h} (G : Good c) (ok : Ok c φ H h) : c.K.In h := G.X.keeps ok.base
theorem Ok.G {φ H h} (G : Good c) (ok : Ok c φ H h) : h.Ns mainGlobals c.mg := G.G.keeps ok.base
theorem Ok.B {φ H h} (G : Good c) (ok : Ok c φ H h) : h.Ns builtinsNs c.mb := G.B.keeps ok.base

/-! ### constants -/
def wK (v : V) : WE := fun _ H Q => Q v H
theorem ev_none {k pos} : Ev c d sc ρ (.Constant .none k pos) (wK .none) := fun _ _ _ _ _ _ _ _ _ _ ok _ w =>
  wpAny_pure (.here w ok .none (fun _ _ e => e) (Rest.refl _))
theorem ev_bool {b k pos} : Ev c d sc ρ (.Constant (.bool b) k pos) (wK (.bool b)) := fun _ _ _ _ _ _ _ _ _ _ ok _ w =>
  wpAny_pure (.here w ok .bool (fun _ _ e => e) (Rest.refl _))
theorem ev_int {i k pos} : Ev c d sc ρ (.Constant (.int i) k pos) (wK (.int i)) := fun _ _ _ s _ _ _ _ _ _ ok _ w =>
  wpAny_Constant_int (.here w ok .int (fun _ _ e => e) (Rest.mk s s.heap _))
theorem ev_str {x k pos} : Ev c d sc ρ (.Constant (.str x) k pos) (wK (.str x)) := fun _ _ _ s _ _ _ _ _ _ ok _ w =>
  wpAny_mkText (.here w ok .str (fun _ _ e => e) (Rest.mk s s.heap _))

/-! ### two operands -/
abbrev WB := V → V → HW → (V → HW → Prop) → Prop
def wBin (f : WB) (a b : WE) : WE := fun sl H Q => a sl H fun v H₁ => b sl H₁ fun w H₂ => f v w H₂ Q
def BinOK (c : Cx) (d : Nat) (op : Operator) (f : WB) : Prop :=
  ∀ A E s φ H v w x y Q, AOK d A → Ok c φ H s.heap → RepV c φ s.heap v x → RepV c φ s.heap w y → f v w H Q → wpAny (model c.prog c.w) A (binaryOp op x y) (PostE c φ s Q) E s
def CmpOK (c : Cx) (d : Nat) (op : CmpOp) (f : WB) : Prop :=
  ∀ A E s φ H v w x y Q, AOK d A → Ok c φ H s.heap → RepV c φ s.heap v x → RepV c φ s.heap w y → f v w H Q → wpAny (model c.prog c.w) A (compareOp op x y) (PostE c φ s Q) E s

theorem ev_bin {op f l r pos a b} (B : BinOK c d op f) (hl : Ev c d sc ρ l a) (hr : Ev c d sc ρ r b) : Ev c d sc ρ (.BinOp l op r pos) (wBin f a b) := by
  intro env A E s φ sl H Q eo ao ok vs w
  refine wpAny_BinOp (wpAny_mono (hl env A E s φ sl H _ eo ao ok vs w) (fun x s₁ p₁ => ?_) fun _ _ e => e)
  obtain ⟨v, H₁, φ₁, w₁, ok₁, rv, g₁, r₁⟩ := p₁
  refine wpAny_mono (hr env A E s₁ φ₁ sl H₁ _ eo ao ok₁ (vs.grow g₁) w₁) (fun y s₂ p₂ => ?_) fun _ _ e => e
  obtain ⟨u, H₂, φ₂, w₂, ok₂, ru, g₂, r₂⟩ := p₂
  exact wpAny_mono (B A E s₂ φ₂ H₂ v u x y Q ao ok₂ (rv.grow g₂) ru w₂) (fun z s₃ p₃ => p₃.shift (g₁.trans g₂) (r₁.trans r₂)) fun _ _ e => e
theorem ev_cmp {op f l r pos a b} (B : CmpOK c d op f) (hl : Ev c d sc ρ l a) (hr : Ev c d sc ρ r b) (hm : behindInMarks op r = false := by with_unfolding_all rfl) : Ev c d sc ρ (.Compare l [op] [r] pos) (wBin f a b) := by
  intro env A E s φ sl H Q eo ao ok vs w
  refine wpAny_Compare1 (wpAny_mono (hl env A E s φ sl H _ eo ao ok vs w) (fun x s₁ p₁ => ?_) fun _ _ e => e) hm
  obtain ⟨v, H₁, φ₁, w₁, ok₁, rv, g₁, r₁⟩ := p₁
  refine wpAny_mono (hr env A E s₁ φ₁ sl H₁ _ eo ao ok₁ (vs.grow g₁) w₁) (fun y s₂ p₂ => ?_) fun _ _ e => e
  obtain ⟨u, H₂, φ₂, w₂, ok₂, ru, g₂, r₂⟩ := p₂
  exact wpAny_mono (B A E s₂ φ₂ H₂ v u x y Q ao ok₂ (rv.grow g₂) ru w₂) (fun z s₃ p₃ => p₃.shift (g₁.trans g₂) (r₁.trans r₂)) fun _ _ e => e

def onI (f : Int → Int → V) : WB := fun v w H Q => match v, w with | .int i, .int j => Q (f i j) H | _, _ => False
theorem onI_of {f v w H Q} (h : onI f v w H Q) : ∃ i j, v = .int i ∧ w = .int j ∧ Q (f i j) H := by
  unfold onI at h
  split at h
  · exact ⟨_, _, rfl, rfl, h⟩
  · exact h.elim
theorem add_ok : BinOK c d .Add (onI fun i j => .int (i + j)) := by
  intro A E s φ H v w x y Q ao ok rv rw' q
  obtain ⟨i, j, rfl, rfl, q⟩ := onI_of q
  cases rv; cases rw'
  exact add_int (.here q ok .int (fun _ _ e => e) (Rest.mk s s.heap _))
theorem sub_ok : BinOK c d .Sub (onI fun i j => .int (i - j)) := by
  intro A E s φ H v w x y Q ao ok rv rw' q
  obtain ⟨i, j, rfl, rfl, q⟩ := onI_of q
  cases rv; cases rw'
  exact sub_int (.here q ok .int (fun _ _ e => e) (Rest.mk s s.heap _))
/-- % and // by a number that is not nought and small -/
def wMod : WB := fun v w H Q => match v, w with | .int i, .int j => j ≠ 0 ∧ Q (.int (i.fmod j)) H | _, _ => False
theorem mod_ok : BinOK c d .Mod wMod := by
  intro A E s φ H v w x y Q ao ok rv rw' q
  unfold wMod at q
  split at q
  · cases rv; cases rw'
    exact mod_int' q.1 (.here q.2 ok .int (fun _ _ e => e) (Rest.mk s s.heap _))
  · exact q.elim
def wDiv : WB := fun v w H Q => match v, w with | .int i, .int j => (j ≠ 0 ∧ j.natAbs < 1073741824) ∧ Q (.int (i.fdiv j)) H | _, _ => False
theorem div_ok : BinOK c d .FloorDiv wDiv := by
  intro A E s φ H v w x y Q ao ok rv rw' q
  unfold wDiv at q
  split at q
  · cases rv; cases rw'
    exact floordiv_int q.1.1 (.here q.2 ok .int (fun _ _ e => e) (Rest.mk s s.heap _)) (.inl (PyProof.noPylong_small q.1.2))
  · exact q.elim
theorem eq_okI : CmpOK c d .Eq (onI fun i j => .bool (i == j)) := by
  intro A E s φ H v w x y Q ao ok rv rw' q
  obtain ⟨i, j, rfl, rfl, q⟩ := onI_of q
  cases rv; cases rw'
  exact eq_int (.here q ok .bool (fun _ _ e => e) (Rest.refl s))
theorem ne_okI : CmpOK c d .NotEq (onI fun i j => .bool (i != j)) := by
  intro A E s φ H v w x y Q ao ok rv rw' q
  obtain ⟨i, j, rfl, rfl, q⟩ := onI_of q
  cases rv; cases rw'
  exact ne_int (.here q ok .bool (fun _ _ e => e) (Rest.refl s))
theorem lt_okI : CmpOK c d .Lt (onI fun i j => .bool (decide (i < j))) := by
  intro A E s φ H v w x y Q ao ok rv rw' q
  obtain ⟨i, j, rfl, rfl, q⟩ := onI_of q
  cases rv; cases rw'
  exact lt_int (.here q ok .bool (fun _ _ e => e) (Rest.refl s))
theorem gt_okI : CmpOK c d .Gt (onI fun i j => .bool (decide (j < i))) := by
  intro A E s φ H v w x y Q ao ok rv rw' q
  obtain ⟨i, j, rfl, rfl, q⟩ := onI_of q
  cases rv; cases rw'
  exact gt_int (.here q ok .bool (fun _ _ e => e) (Rest.refl s))
theorem le_okI : CmpOK c d .LtE (onI fun i j => .bool (decide (i ≤ j))) := by
  intro A E s φ H v w x y Q ao ok rv rw' q
  obtain ⟨i, j, rfl, rfl, q⟩ := onI_of q
  cases rv; cases rw'
  exact le_int (.here q ok .bool (fun _ _ e => e) (Rest.refl s))
theorem ge_okI : CmpOK c d .GtE (onI fun i j => .bool (decide (j ≤ i))) := by
  intro A E s φ H v w x y Q ao ok rv rw' q
  obtain ⟨i, j, rfl, rfl, q⟩ := onI_of q
  cases rv; cases rw'
  exact ge_int (.here q ok .bool (fun _ _ e => e) (Rest.refl s))

/-- «is None» -/
def isN : V → Bool | .none => true | _ => false
theorem isN_of {φ h v x} (r : RepV c φ h v x) : (x == Value.none) = isN v := by cases r <;> rfl
def wIsN (f : Bool → Bool) : WB := fun v w H Q => match w with | .none => Q (.bool (f (isN v))) H | _ => False
theorem is_okN : CmpOK c d .Is (wIsN id) := by
  intro A E s φ H v w x y Q ao ok rv rw' q
  unfold wIsN at q
  split at q
  · cases rw'
    exact is_none_gen (.here q ok (by rw [isN_of rv]; exact .bool) (fun _ _ e => e) (Rest.refl s))
  · exact q.elim
theorem isnot_okN : CmpOK c d .IsNot (wIsN not) := by
  intro A E s φ H v w x y Q ao ok rv rw' q
  unfold wIsN at q
  split at q
  · cases rw'
    exact isnot_none_gen (.here q ok (by rw [isN_of rv]; exact .bool) (fun _ _ e => e) (Rest.refl s))
  · exact q.elim

/-! ### tests -/
def tv (w : WE) : WT := fun sl H Q => w sl H fun v H' => match v with | .bool b => Q b H' | _ => False
/-- a comparison as a test -/
theorem et_cmp {op f l r pos a b} (B : CmpOK c d op f) (hl : Ev c d sc ρ l a) (hr : Ev c d sc ρ r b) (hm : behindInMarks op r = false := by with_unfolding_all rfl) : Et c d sc ρ (.Compare l [op] [r] pos) (tv (wBin f a b)) := by
  intro env A E s φ sl H Q eo ao ok vs w
  refine wpAny_isTrue_Compare1 (wpAny_mono (hl env A E s φ sl H _ eo ao ok vs w) (fun x s₁ p₁ => ?_) fun _ _ e => e) hm
  obtain ⟨v, H₁, φ₁, w₁, ok₁, rv, g₁, r₁⟩ := p₁
  refine wpAny_mono (hr env A E s₁ φ₁ sl H₁ _ eo ao ok₁ (vs.grow g₁) w₁) (fun y s₂ p₂ => ?_) fun _ _ e => e
  obtain ⟨u, H₂, φ₂, w₂, ok₂, ru, g₂, r₂⟩ := p₂
  refine wpAny_mono (B A E s₂ φ₂ H₂ v u x y _ ao ok₂ (rv.grow g₂) ru w₂) (fun z s₃ p₃ => ?_) fun _ _ e => e
  obtain ⟨t, H₃, φ₃, w₃, ok₃, rt, g₃, r₃⟩ := p₃
  split at w₃
  · cases rt
    exact wpAny_truthy_bool ⟨H₃, φ₃, w₃, ok₃, (g₁.trans g₂).trans g₃, (r₁.trans r₂).trans r₃⟩
  · exact w₃.elim
def tNot (w : WT) : WT := fun sl H Q => w sl H fun b H' => Q (!b) H'
theorem et_not {x pos w} (h : Et c d sc ρ x w) : Et c d sc ρ (.UnaryOp .Not x pos) (tNot w) := by
  intro env A E s φ sl H Q eo ao ok vs q
  show wpAny _ _ (isTrue x env (eval x env) >>= fun b => pure (!b)) _ _ _
  refine wpAny_bind (wpAny_mono (h env A E s φ sl H _ eo ao ok vs q) (fun b s₁ p => ?_) fun _ _ e => e)
  obtain ⟨H₁, φ₁, w₁, ok₁, g₁, r₁⟩ := p
  exact wpAny_pure ⟨H₁, φ₁, w₁, ok₁, g₁, r₁⟩
def tAnd (a b : WT) : WT := fun sl H Q => a sl H fun t H' => if t then b sl H' Q else Q false H'
def tOr (a b : WT) : WT := fun sl H Q => a sl H fun t H' => if t then Q true H' else b sl H' Q
theorem et_and {x y pos a b} (hx : Et c d sc ρ x a) (hy : Et c d sc ρ y b) : Et c d sc ρ (.BoolOp .And [x, y] pos) (tAnd a b) := by
  intro env A E s φ sl H Q eo ao ok vs q
  show wpAny _ _ (isTrue x env (eval x env) >>= fun b => match BoolOp.And, b with | .And, false => pure false | .Or, true => pure true | _, _ => isTrue y env (eval y env) >>= fun b' => match BoolOp.And, b' with | .And, false => pure false | .Or, true => pure true | _, _ => pure true) _ _ _
  refine wpAny_bind (wpAny_mono (hx env A E s φ sl H _ eo ao ok vs q) (fun t s₁ p => ?_) fun _ _ e => e)
  obtain ⟨H₁, φ₁, w₁, ok₁, g₁, r₁⟩ := p
  cases t with
  | false => exact wpAny_pure ⟨H₁, φ₁, by simpa using w₁, ok₁, g₁, r₁⟩
  | true =>
    simp only [if_true] at w₁
    refine wpAny_bind (wpAny_mono (hy env A E s₁ φ₁ sl H₁ _ eo ao ok₁ (vs.grow g₁) w₁) (fun t s₂ p => ?_) fun _ _ e => e)
    have p' := p.shift g₁ r₁
    cases t <;> exact wpAny_pure p'
theorem et_or {x y pos a b} (hx : Et c d sc ρ x a) (hy : Et c d sc ρ y b) : Et c d sc ρ (.BoolOp .Or [x, y] pos) (tOr a b) := by
  intro env A E s φ sl H Q eo ao ok vs q
  show wpAny _ _ (isTrue x env (eval x env) >>= fun b => match BoolOp.Or, b with | .And, false => pure false | .Or, true => pure true | _, _ => isTrue y env (eval y env) >>= fun b' => match BoolOp.Or, b' with | .And, false => pure false | .Or, true => pure true | _, _ => pure false) _ _ _
  refine wpAny_bind (wpAny_mono (hx env A E s φ sl H _ eo ao ok vs q) (fun t s₁ p => ?_) fun _ _ e => e)
  obtain ⟨H₁, φ₁, w₁, ok₁, g₁, r₁⟩ := p
  cases t with
  | true => exact wpAny_pure ⟨H₁, φ₁, by simpa using w₁, ok₁, g₁, r₁⟩
  | false =>
    simp only [Bool.false_eq_true, if_false] at w₁
    refine wpAny_bind (wpAny_mono (hy env A E s₁ φ₁ sl H₁ _ eo ao ok₁ (vs.grow g₁) w₁) (fun t s₂ p => ?_) fun _ _ e => e)
    have p' := p.shift g₁ r₁
    cases t <;> exact wpAny_pure p'

/-! ### lists of expressions, displays -/
def wNil : WEs := fun _ H Q => Q [] H
def wCons (a : WE) (b : WEs) : WEs := fun sl H Q => a sl H fun v H₁ => b sl H₁ fun vs H₂ => Q (v :: vs) H₂
theorem evs_nil : Evs c d sc ρ [] wNil := ⟨fun _ => rfl, fun _ _ _ _ _ _ _ _ _ _ ok _ w _ => Calls.spliced_nil ⟨[], _, _, w, ok, .nil, .refl _ _, Rest.refl _⟩⟩
theorem evs_cons {e es a b} (he : Ev c d sc ρ e a) (hes : Evs c d sc ρ es b) (hs : ∀ env, starEach (e :: es) env = (false, eval e env) :: starEach es env) : Evs c d sc ρ (e :: es) (wCons a b) := by
  refine ⟨fun env => by rw [hs, hes.1]; rfl, ?_⟩
  intro env A E s φ sl H Q eo ao ok vs w pos
  rw [hs]
  show wpAny _ _ (spliced ((false, eval e env) :: backTo pos (starEach es env))) _ _ _
  refine Calls.spliced_cons (wpAny_mono (he env A E s φ sl H _ eo ao ok vs w) (fun x s₁ p₁ => ?_) fun _ _ e => e)
  obtain ⟨v, H₁, φ₁, w₁, ok₁, rv, g₁, r₁⟩ := p₁
  refine wpAny_mono (hes.2 env A E s₁ φ₁ sl H₁ _ eo ao ok₁ (vs.grow g₁) w₁ pos) (fun y s₂ p₂ => ?_) fun _ _ e => e
  obtain ⟨u, H₂, φ₂, w₂, ok₂, ru, g₂, r₂⟩ := p₂
  exact ⟨v :: u, H₂, φ₂, w₂, ok₂, .cons (rv.grow g₂) ru, g₁.trans g₂, r₁.trans r₂⟩

theorem new_none (h : Heap) : h.get? h.objs.size = none := Heap.get?_none_of_le (Nat.le_refl _)
/-- a new list -/
theorem new_list {φ H} {s : Shared} {xs ys} {Q : V → HW → Prop} (ok : Ok c φ H s.heap) (r : RepVs c φ s.heap xs ys) (q : Q (.loc H.length) (H ++ [.list xs])) {n} (s' : Shared) (hs : s' = { s with heap := s.heap.push { cls := .type "list", data := .seq ys.toArray n }, toks := s'.toks }) :
    PostE c φ s Q (.ref s.heap.objs.size) s' := by
  obtain ⟨ok', g⟩ := ok.alloc (lo := .list xs) (new_none s.heap) (h' := s.heap.push { cls := .type "list", data := .seq ys.toArray n }) (fun b o e => Heap.get?_push_of_some _ e) (Heap.get?_push_size _ rfl) (.list r)
  rw [hs]
  exact ⟨_, _, _, q, ok', .loc (by rw [← ok.len]; simp), g, _, _, rfl⟩
/-- a new tuple -/
theorem new_tup {φ H} {s : Shared} {xs ys} {Q : V → HW → Prop} (ok : Ok c φ H s.heap) (r : RepVs c φ s.heap xs ys) (q : Q (.tup xs) H) {n} (s' : Shared) (hs : s' = { s with heap := s.heap.push { cls := .type "tuple", data := .seq ys.toArray n }, toks := s'.toks }) :
    PostE c φ s Q (.ref s.heap.objs.size) s' := by
  obtain ⟨ok', g⟩ := ok.freeze (new_none s.heap) (h' := s.heap.push { cls := .type "tuple", data := .seq ys.toArray n }) (fun b o e => Heap.get?_push_of_some _ e) (Heap.get?_push_size _ rfl)
  rw [hs]
  refine ⟨_, _, _, q, ok', .tup (n := n) ?_ ?_ ?_ (Heap.get?_push_size _ rfl) (r.grow g), g, _, _, rfl⟩
  · intro m; obtain ⟨o, e⟩ := ok.live m; rw [new_none] at e; cases e
  · exact List.mem_append_right _ (.head _)
  · cases q : c.h₀.get? s.heap.objs.size with
    | none => rfl
    | some o => have := ok.base _ _ q; rw [new_none] at this; cases this
def wList (a : WEs) : WE := fun sl H Q => a sl H fun vs H₁ => vs.length ≤ 1000000 ∧ Q (.loc H₁.length) (H₁ ++ [.list vs])
def wTup (a : WEs) : WE := fun sl H Q => a sl H fun vs H₁ => vs.length ≤ 1000000 ∧ Q (.tup vs) H₁
theorem ev_list {es pos a} (he : Evs c d sc ρ es a) : Ev c d sc ρ (.List es pos) (wList a) := by
  intro env A E s φ sl H Q eo ao ok vs w
  refine List_ (wpAny_mono (he.2 env A E s φ sl H _ eo ao ok vs w pos) (fun x s₁ p₁ => ?_) fun _ _ e => e)
  obtain ⟨v, H₁, φ₁, w₁, ok₁, rv, g₁, r₁⟩ := p₁
  exact wpAny_newObj_type ((new_list ok₁ rv w₁.2 _ rfl).shift g₁ r₁) (by show x.toArray.size ≤ sizeLine; rw [List.size_toArray, ← rv.length, sizeLine_eq]; exact Nat.le_trans w₁.1 (by decide))
theorem ev_tup {es k pos a} (he : Evs c d sc ρ es a) : Ev c d sc ρ (.Tuple es k pos) (wTup a) := by
  intro env A E s φ sl H Q eo ao ok vs w
  refine Tuple_ (wpAny_mono (he.2 env A E s φ sl H _ eo ao ok vs w pos) (fun x s₁ p₁ => ?_) fun _ _ e => e)
  obtain ⟨v, H₁, φ₁, w₁, ok₁, rv, g₁, r₁⟩ := p₁
  exact wpAny_newObj_type ((new_tup ok₁ rv w₁.2 _ rfl).shift g₁ r₁) (by show x.toArray.size ≤ sizeLine; rw [List.size_toArray, ← rv.length, sizeLine_eq]; exact Nat.le_trans w₁.1 (by decide))
end
end Mine

namespace Mine
section
variable {c : Cx} {d : Nat} {sc : Scope} {ρ : List Str}

/-! ### lists that are read -/
def asL (ns : List Int) (H : HW) : V → Option (List V)
  | .loc k => match H[k]? with | some (.list xs) => some xs | _ => none
  | .script => some (ns.map .int)
  | _ => none
theorem repInts {φ h} : ∀ {vs : List Value} {ns : List Int}, IntsAre vs ns → RepVs c φ h (ns.map .int) vs
  | _, _, .nil => .nil
  | _, _, .cons _ _ r => .cons .int (repInts r)
theorem asL_of (G : Good c) {φ H h v x xs} (ok : Ok c φ H h) (r : RepV c φ h v x) (e : asL c.ns H v = some xs) : ∃ a ys, x = .ref a ∧ h.IsList a ys.toArray ∧ RepVs c φ h xs ys := by
  cases r <;> simp only [asL] at e <;> try (cases e; done)
  · rename_i k a hk
    split at e
    · rename_i xs' e'
      cases e
      obtain ⟨o, h1, h2⟩ := ok.objs k a _ hk e'
      cases h2 with
      | list r => exact ⟨a, _, rfl, ⟨_, h1, rfl, _, rfl⟩, r⟩
    · cases e
  · cases e
    obtain ⟨o, ho, r⟩ := G.S
    exact ⟨_, _, rfl, ⟨o, ok.base _ _ ho, r⟩, repInts G.I⟩
/-- an own list -/
theorem loc_list {φ H h} {k : Nat} {x xs} (ok : Ok c φ H h) (r : RepV c φ h (.loc k) x) (e : H[k]? = some (.list xs)) : ∃ a ys n, x = .ref a ∧ φ.l[k]? = some a ∧ IsL h a ys.toArray n ∧ RepVs c φ h xs ys := by
  cases r with
  | loc hk =>
    obtain ⟨o, h1, h2⟩ := ok.objs k _ _ hk e
    cases h2 with
    | list r => exact ⟨_, _, _, rfl, hk, h1, r⟩

/-! ### calls -/
theorem plain_any {es : List Expr} {env : Env} {pos : Pos} (h : starEach es env = es.map fun e => (false, eval e env)) : (backTo pos (starEach es env)).any (·.1) = false := by
  rw [h]
  unfold backTo
  rw [List.map_map]
  induction es with
  | nil => rfl
  | cons e es ih => simp at ih ⊢
theorem evalArgs_of {M : Model} {A : Around} {E : Value → Shared → Prop} {s : Shared} {env : Env} {f : Value} {es : List Expr} {pos : Pos} {Q : Args → Shared → Prop} (hp : starEach es env = es.map fun e => (false, eval e env))
    (h : wpAny M A (spliced (backTo pos (starEach es env))) (fun vs s' => Q ⟨vs, []⟩ s') E s) : wpAny M A (evalArgs f true (backTo pos (starEach es env)) []) Q E s := by
  cases es with
  | nil =>
    unfold evalArgs
    show wpAny M A (spliced (backTo pos (starEach [] env)) >>= _) Q E s
    refine wpAny_bind (wpAny_mono h (fun vs s' h' => ?_) fun _ _ x => x)
    exact wpAny_bind (wpAny_pure (wpAny_holding (wpAny_bind (wpAny_pure (wpAny_bind (wpAny_pure (wpAny_pure h')))))))
  | cons e es =>
    rw [hp] at h ⊢
    exact Calls.evalArgs_plain h

/-- a name of the top -/
theorem name_glob {env : Env} {A E s φ H x pos v} {R : Value → Shared → Prop} (G : Good c) (eo : EnvOK sc env) (ok : Ok c φ H s.heap) (hk : sc.kind = .function) (hx : sc.names.lookup x = some .globalImplicit) (hv : c.mg x = some v) (hd : (x == ("__debug__" : Str)) = false)
    (k : R v s) : wpAny (model c.prog c.w) A (eval (.Name x pos) env) R E s :=
  Calls.Name_function_global (by rw [eo.scope]; exact hk) ((eo.kind x).trans hx) (Calls.loadGlobal_global (by rw [eo.glob]; exact ok.G G) hv k) hd
theorem name_built {env : Env} {A E s φ H x pos v} {R : Value → Shared → Prop} (G : Good c) (eo : EnvOK sc env) (ok : Ok c φ H s.heap) (hk : sc.kind = .function) (hx : sc.names.lookup x = some .globalImplicit) (hg : c.mg x = none) (hv : c.mb x = some v) (hd : (x == ("__debug__" : Str)) = false)
    (k : R v s) : wpAny (model c.prog c.w) A (eval (.Name x pos) env) R E s :=
  Calls.Name_function_global (by rw [eo.scope]; exact hk) ((eo.kind x).trans hx) (Calls.loadGlobal_builtin (by rw [eo.glob]; exact ok.G G) hg (by rw [eo.bi]; exact ok.B G) hv k) hd

def wCall (W : WF) (as : WEs) : WE := fun sl H Q => as sl H fun vs H₁ => W vs H₁ Q
/-- a def or a class of the top, called by its name -/
theorem ev_call {x np args pos f W as} (G : Good c) (hk : sc.kind = .function) (hx : sc.names.lookup x = some .globalImplicit) (hv : c.mg x = some f) (hd : (x == ("__debug__" : Str)) = false) (hkeep : keepIn c.K f = true)
    (hf : FnOK c d f W) (ha : Evs c d sc ρ args as) : Ev c d sc ρ (.Call (.Name x np) args [] pos) (wCall W as) := by
  intro env A E s φ sl H Q eo ao ok vs w
  refine Call_Name rfl (name_glob G eo ok hk hx hv hd ?_)
  refine callWith_of (P := fun h => c.K.In h) (by rw [plain_any (ha.1 env)]; rfl) (keeps_K hkeep) (evalArgs_of (ha.1 env) ?_)
  refine wpAny_mono (ha.2 env A E s φ sl H _ eo ao ok vs w pos) (fun ys s₁ p₁ => ?_) fun _ _ e => e
  obtain ⟨v, H₁, φ₁, w₁, ok₁, rv, g₁, r₁⟩ := p₁
  exact ⟨ok₁.X G, wpAny_mono (hf A E s₁ φ₁ H₁ v ys Q ao ok₁ rv w₁) (fun z s₂ p₂ => p₂.shift g₁ r₁) fun _ _ e => e⟩
/-- a built-in function -/
theorem ev_callB {x np args pos id W as} (G : Good c) (hk : sc.kind = .function) (hx : sc.names.lookup x = some .globalImplicit) (hg : c.mg x = none) (hv : c.mb x = some (.builtin id)) (hd : (x == ("__debug__" : Str)) = false)
    (hf : FnOK c d (.builtin id) W) (ha : Evs c d sc ρ args as) : Ev c d sc ρ (.Call (.Name x np) args [] pos) (wCall W as) := by
  intro env A E s φ sl H Q eo ao ok vs w
  refine Call_Name rfl (name_built G eo ok hk hx hg hv hd ?_)
  refine Calls.callWith_builtin (plain_any (ha.1 env)) (evalArgs_of (ha.1 env) ?_)
  refine wpAny_mono (ha.2 env A E s φ sl H _ eo ao ok vs w pos) (fun ys s₁ p₁ => ?_) fun _ _ e => e
  obtain ⟨v, H₁, φ₁, w₁, ok₁, rv, g₁, r₁⟩ := p₁
  exact wpAny_mono (hf A E s₁ φ₁ H₁ v ys Q ao ok₁ rv w₁) (fun z s₂ p₂ => p₂.shift g₁ r₁) fun _ _ e => e

/-! ### instances of the text's classes -/
def clsV (c : Cx) (H : HW) : V → Option Nat
  | .obj k _ => some k
  | .loc j => match H[j]? with | some (.inst k _) => some k | _ => none
  | .glob a => (c.gC a).map (·.1)
  | _ => none
def slotV (c : Cx) (H : HW) (i : Nat) : V → Option V
  | .obj _ fs => fs[i]?
  | .loc j => match H[j]? with | some (.inst _ fs) => (fs[i]?).join | _ => none
  | .glob a => match c.gC a with | some (_, n) => if i < n then some .none else none | none => none
  | _ => none
theorem inst_of (G : Good c) {φ H h v x k} (ok : Ok c φ H h) (r : RepV c φ h v x) (e : clsV c H v = some k) :
    ∃ a ox, x = .ref a ∧ InstAt h a ox (c.cls k) (some (dictOf [] 0)) ∧ ∀ i u, slotV c H i v = some u → ∃ y, (ox.slots[i]?).join = some y ∧ RepV c φ h u y := by
  cases r <;> simp only [clsV] at e <;> try (cases e; done)
  · rename_i j a hj
    split at e
    · rename_i k' fs e'
      cases e
      obtain ⟨o, h1, h2⟩ := ok.objs j a _ hj e'
      cases h2 with
      | inst r z n y eb =>
        refine ⟨a, _, rfl, ⟨h1, rfl, rfl, eb⟩, fun i u hu => ?_⟩
        simp only [slotV, e'] at hu
        exact r i u hu
    · cases e
  · rename_i fs xs a b sl n z m y n0 e1 es e2 r
    cases e
    refine ⟨a, _, rfl, ⟨e1, rfl, rfl, e2⟩, fun i u hu => ?_⟩
    simp only [slotV] at hu
    obtain ⟨y, h1, h2⟩ := r.get hu
    exact ⟨y, by show (sl[i]?).join = some y; rw [es, h1], h2⟩
  · rename_i a o ho
    obtain ⟨⟨k', n⟩, h1, rfl⟩ := Option.map_eq_some_iff.mp e
    obtain ⟨b, h2, h3⟩ := G.gl a k' n h1
    refine ⟨a, _, rfl, ⟨ok.base _ _ h2, rfl, rfl, ok.base _ _ h3⟩, fun i u hu => ?_⟩
    simp only [slotV, h1] at hu
    split at hu
    · rename_i hi
      cases hu
      exact ⟨.none, by simp [hi], .none⟩
    · cases hu

def wMeth (c : Cx) (k : Nat) (W : WF) (a : WE) (as : WEs) : WE := fun sl H Q => a sl H fun v H₁ => clsV c H₁ v = some k ∧ as sl H₁ fun vs H₂ => W (v :: vs) H₂ Q
theorem ev_meth {o name apos args pos f k W a as} {pl : Env → Sem Bool} (G : Good c) (ho : Ev c d sc ρ o a) (ha : Evs c d sc ρ args as) (hf : FnOK c d (.ref f) W)
    (hg : plainGet c.K (c.cls k) name = true) (hm : findIn c.K (.ref (c.cls k)) name = some (some (.ref f))) (ht : isFn c.K (.ref f) = true) (hkeep : keepIn c.K (.ref f) = true)
    (he : ∀ env, eval (.Call (.Attribute o name apos) args [] pos) env = (do
      let ov ← eval o env
      standAt apos.atName
      let (f, first) ← holding [ov] (getMethod ov name (pl env))
      callWith pos f first (backTo pos (starEach args env)) (backToKw pos (keywordEach [] env)))) : Ev c d sc ρ (.Call (.Attribute o name apos) args [] pos) (wMeth c k W a as) := by
  intro env A E s φ sl H Q eo ao ok vs w
  refine methodCall_KW (pl := pl env) (wpAny_mono (ho env A E s φ sl H _ eo ao ok vs w) (fun x s₁ p₁ => ?_) fun _ _ e => e) (he env)
  obtain ⟨v, H₁, φ₁, ⟨wc, w₁⟩, ok₁, rv, g₁, r₁⟩ := p₁
  obtain ⟨xa, ox, rfl, I, _⟩ := inst_of G ok₁ rv wc
  refine method_fn (ok₁.X G) I (plainGet_of hg).1 (plainGet_of hg).2 hm (beq_iff_eq.mp ht) rfl ?_
  refine callWith_of (P := fun h => c.K.In h) (by rw [plain_any (ha.1 env)]; rfl) (keeps_K hkeep) (evalArgs_of (ha.1 env) ?_)
  refine wpAny_mono (ha.2 env A E s₁ φ₁ sl H₁ _ eo ao ok₁ (vs.grow g₁) w₁ pos) (fun ys s₂ p₂ => ?_) fun _ _ e => e
  obtain ⟨u, H₂, φ₂, w₂, ok₂, ru, g₂, r₂⟩ := p₂
  exact ⟨ok₂.X G, wpAny_mono (hf A E s₂ φ₂ H₂ (v :: u) _ Q ao ok₂ (.cons (rv.grow g₂) ru) w₂) (fun z s₃ p₃ => p₃.shift (g₁.trans g₂) (r₁.trans r₂)) fun _ _ e => e⟩

/-- a slot that is read -/
def wSlot (c : Cx) (k i : Nat) (a : WE) : WE := fun sl H Q => a sl H fun v H₁ => clsV c H₁ v = some k ∧ match slotV c H₁ i v with | some u => Q u H₁ | none => False
theorem ev_slot {o name pos a k p i} (G : Good c) (ho : Ev c d sc ρ o a) (hg : plainGet c.K (c.cls k) name = true) (hc : isClsIn c.K (c.cls k) = true)
    (ha : findIn c.K (.ref (c.cls k)) name = some (some (.ref p))) (hn : specialIn c.K (.ref p) "__get__" = some (some (.builtin "member_descriptor.__get__"))) (ht : takesIn c.K (.ref p) = some true) (hp : slotIn c.K p (c.cls k) = some i)
    (he : ∀ env, eval (.Attribute o name pos) env = (eval o env >>= fun ov => standAt pos.atName >>= fun _ => holding [ov] (getAttr ov name true) >>= fun r => pure r)) : Ev c d sc ρ (.Attribute o name pos) (wSlot c k i a) := by
  intro env A E s φ sl H Q eo ao ok vs w
  rw [he]
  refine wpAny_bind (wpAny_mono (ho env A E s φ sl H _ eo ao ok vs w) (fun x s₁ p₁ => ?_) fun _ _ e => e)
  obtain ⟨v, H₁, φ₁, ⟨wc, w₁⟩, ok₁, rv, g₁, r₁⟩ := p₁
  obtain ⟨xa, ox, rfl, I, hs⟩ := inst_of G ok₁ rv wc
  split at w₁
  · rename_i u eu
    obtain ⟨y, hy, ry⟩ := hs i u eu
    have hh : handedIn y = true := by cases ry <;> rfl
    refine wpAny_bind (wpAny_standAt (wpAny_bind (wpAny_holding ?_)))
    refine get_bind (ok₁.X G) I (plainGet_of hg).1 (findObj_data hc ha hn ht) (plainGet_of hg).2 (wpAny_call (slot_get (s := { s₁ with toks := s₁.toks + 1 }) (ok₁.X G) I hp hy (handed_on hh ?_)))
    exact wpAny_pure ((PostE.here (s' := { s₁ with toks := s₁.toks + 1 }) w₁ ok₁ ry (fun _ _ e => e) (Rest.mk s₁ s₁.heap _)).shift g₁ r₁)
  · exact w₁.elim
end
end Mine

namespace Mine
section
variable {c : Cx} {d : Nat} {sc : Scope} {ρ : List Str}

/-! ### items of a list -/
def getI (xs : List V) (k : Int) : Option V := if 0 ≤ k then xs[k.toNat]? else if -(xs.length : Int) ≤ k then xs[(k + xs.length).toNat]? else none
def wIdx (ns : List Int) (a b : WE) : WE := fun sl H Q => a sl H fun v H₁ => b sl H₁ fun w H₂ => match asL ns H₂ v, w with
  | some xs, .int k => xs.length ≤ 1000000 ∧ (match getI xs k with | some u => Q u H₂ | none => False)
  | _, _ => False
theorem item_ok (G : Good c) {A E s φ H v x xs k t u} {R : Value → Shared → Prop} (ok : Ok c φ H s.heap) (rv : RepV c φ s.heap v x) (e : asL c.ns H v = some xs) (hl : xs.length ≤ 1000000) (hg : getI xs k = some u)
    (h : ∀ y, RepV c φ s.heap u y → R y s) : wpAny (model c.prog c.w) A (getItem x (.int k t)) R E s := by
  obtain ⟨a, ys, rfl, il, r⟩ := asL_of G ok rv e
  have len := r.length
  unfold getI at hg
  split at hg
  · rename_i h0
    obtain ⟨y, h1, h2⟩ := r.get hg
    have hb := (List.getElem?_eq_some_iff.mp hg).1
    exact wpAny_getItem_list il h0 (by omega) (by simpa using h1) (h y h2)
  · rename_i h0
    split at hg
    · rename_i h1
      obtain ⟨y, h2, h3⟩ := r.get hg
      refine wpAny_getItem_list_neg il (by omega) (by simp only [List.size_toArray]; omega) (by omega) ?_ (h y h3)
      simp only [List.size_toArray, List.getElem?_toArray]
      rw [← len]; exact h2
    · cases hg
theorem ev_idx {o i pos a b} (G : Good c) (ho : Ev c d sc ρ o a) (hi : Ev c d sc ρ i b) (hs : ∀ x y, subscripted i false x y = operate [x, y] (getItem x y)) : Ev c d sc ρ (.Subscript o i pos) (wIdx c.ns a b) := by
  intro env A E s φ sl H Q eo ao ok vs w
  refine Subscript_ (wpAny_mono (ho env A E s φ sl H _ eo ao ok vs w) (fun x s₁ p₁ => ?_) fun _ _ e => e)
  obtain ⟨v, H₁, φ₁, w₁, ok₁, rv, g₁, r₁⟩ := p₁
  refine wpAny_mono (hi env A E s₁ φ₁ sl H₁ _ eo ao ok₁ (vs.grow g₁) w₁) (fun y s₂ p₂ => ?_) fun _ _ e => e
  obtain ⟨u, H₂, φ₂, w₂, ok₂, ru, g₂, r₂⟩ := p₂
  have rv₂ := rv.grow g₂
  split at w₂
  · rename_i xs k ex
    obtain ⟨hl, w₂⟩ := w₂
    split at w₂
    · rename_i z ez
      cases ru
      obtain ⟨a', ys, rfl, il, rr⟩ := asL_of G ok₂ rv₂ ex
      refine tail_any il.typeIs slot_list_getitem.lookup (item_ok G ok₂ rv₂ ex hl ez fun y' ry => ?_) (hs _ _)
      exact (PostE.here w₂ ok₂ ry (fun _ _ e => e) (Rest.refl s₂)).shift (g₁.trans g₂) (r₁.trans r₂)
    · exact w₂.elim
  · exact w₂.elim

/-! ### slices -/
def sliceV {α : Type} (xs : List α) (lo hi st : Option Int) : List α := (sliceRange (sliceBounds lo hi st xs.length).1 (sliceBounds lo hi st xs.length).2.1 (sliceBounds lo hi st xs.length).2.2).filterMap (xs[·]?)
theorem RepVs.pick {φ h} {xs ys} (r : RepVs c φ h xs ys) : ∀ is : List Nat, RepVs c φ h (is.filterMap (xs[·]?)) (is.filterMap (ys[·]?))
  | [] => .nil
  | i :: is => by
    have ih := r.pick is
    by_cases hi : i < xs.length
    · obtain ⟨y, h1, h2⟩ := r.get (List.getElem?_eq_getElem hi)
      rw [List.filterMap_cons_some (List.getElem?_eq_getElem hi), List.filterMap_cons_some h1]
      exact .cons h2 ih
    · rw [List.filterMap_cons_none (List.getElem?_eq_none (Nat.not_lt.mp hi)), List.filterMap_cons_none (List.getElem?_eq_none (by rw [← r.length]; exact Nat.not_lt.mp hi))]
      exact ih
abbrev WO := Sl → HW → (Option Int → HW → Prop) → Prop
def EvO (c : Cx) (d : Nat) (sc : Scope) (ρ : List Str) (e : Option Expr) (W : WO) : Prop :=
  ∀ env A E s φ sl H Q, EnvOK sc env → AOK d A → Ok c φ H s.heap → Vars c ρ φ s.heap env sl → W sl H Q → wpAny (model c.prog c.w) A (valueOrNone (evalOpt e env)) (fun x s' => ∃ v H' φ', Q v H' ∧ Ok c φ' H' s'.heap ∧ IsPart x v ∧ Grow φ s.heap φ' s'.heap ∧ Rest s s') E s
def oNone : WO := fun _ H Q => Q none H
def oSome (a : WE) : WO := fun sl H Q => a sl H fun v H' => match v with | .int i => Q (some i) H' | _ => False
theorem evo_none : EvO c d sc ρ none oNone := fun _ _ _ s φ _ H _ _ _ ok _ w => wpAny_pure ⟨none, H, φ, w, ok, .none, .refl _ _, Rest.refl s⟩
theorem evo_some {e a} (h : Ev c d sc ρ e a) : EvO c d sc ρ (some e) (oSome a) := by
  intro env A E s φ sl H Q eo ao ok vs w
  show wpAny _ _ (eval e env) _ _ _
  refine wpAny_mono (h env A E s φ sl H _ eo ao ok vs w) (fun x s₁ p₁ => ?_) fun _ _ e => e
  obtain ⟨v, H₁, φ₁, w₁, ok₁, rv, g₁, r₁⟩ := p₁
  split at w₁
  · cases rv
    exact ⟨_, H₁, φ₁, w₁, ok₁, .int _ _, g₁, r₁⟩
  · exact w₁.elim
def wSlice (ns : List Int) (a : WE) (lo hi st : WO) : WE := fun sl H Q => a sl H fun v H₁ => lo sl H₁ fun l H₂ => hi sl H₂ fun u H₃ => st sl H₃ fun k H₄ => match asL ns H₄ v with
  | some xs => (xs.length ≤ 1000000 ∧ k ≠ some 0) ∧ Q (.loc H₄.length) (H₄ ++ [.list (sliceV xs l u k)])
  | none => False
theorem ev_slice {o lo hi st spos pos a wl wu wk} (G : Good c) (ho : Ev c d sc ρ o a) (hlo : EvO c d sc ρ lo wl) (hhi : EvO c d sc ρ hi wu) (hst : EvO c d sc ρ st wk) : Ev c d sc ρ (.Subscript o (.Slice lo hi st spos) pos) (wSlice c.ns a wl wu wk) := by
  intro env A E s φ sl H Q eo ao ok vs w
  refine Subscript_ (wpAny_mono (ho env A E s φ sl H _ eo ao ok vs w) (fun x s₁ p₁ => ?_) fun _ _ e => e)
  obtain ⟨v, H₁, φ₁, w₁, ok₁, rv, g₁, r₁⟩ := p₁
  show wpAny _ _ (valueOrNone (evalOpt lo env) >>= fun l => holding [l] (valueOrNone (evalOpt hi env)) >>= fun u => holding [l, u] (valueOrNone (evalOpt st env)) >>= fun k => newFields "slice" [l, u, k]) _ _ _
  refine wpAny_bind (wpAny_mono (hlo env A E s₁ φ₁ sl H₁ _ eo ao ok₁ (vs.grow g₁) w₁) (fun xl s₂ p₂ => ?_) fun _ _ e => e)
  obtain ⟨l, H₂, φ₂, w₂, ok₂, pl, g₂, r₂⟩ := p₂
  refine wpAny_bind (wpAny_holding (wpAny_mono (hhi env A E s₂ φ₂ sl H₂ _ eo ao ok₂ (vs.grow (g₁.trans g₂)) w₂) (fun xu s₃ p₃ => ?_) fun _ _ e => e))
  obtain ⟨u, H₃, φ₃, w₃, ok₃, pu, g₃, r₃⟩ := p₃
  refine wpAny_bind (wpAny_holding (wpAny_mono (hst env A E s₃ φ₃ sl H₃ _ eo ao ok₃ (vs.grow ((g₁.trans g₂).trans g₃)) w₃) (fun xk s₄ p₄ => ?_) fun _ _ e => e))
  obtain ⟨k, H₄, φ₄, w₄, ok₄, pk, g₄, r₄⟩ := p₄
  have rv₄ := rv.grow ((g₂.trans g₃).trans g₄)
  split at w₄
  · rename_i xs ex
    obtain ⟨⟨hz, hk⟩, w₄⟩ := w₄
    obtain ⟨al, ys, rfl, il, rr⟩ := asL_of G ok₄ rv₄ ex
    refine wpAny_newObj_type ?_
    have kp : ∀ b o, s₄.heap.get? b = some o → (s₄.heap.push { cls := .type "slice", data := .fields #[xl, xu, xk] }).get? b = some o := fun b o e => Heap.get?_push_of_some _ e
    have ok₅ := ok₄.keep kp
    have il₅ : (s₄.heap.push { cls := .type "slice", data := .fields #[xl, xu, xk] }).IsList al ys.toArray := il.push _
    refine tail_any (ops := match st with | none => [_, _] | some _ => [_, _]) (s := { s₄ with heap := s₄.heap.push { cls := .type "slice", data := .fields #[xl, xu, xk] } }) il₅.typeIs slot_list_getitem.lookup
      (wpAny_getItem_list_slice il₅ (Heap.IsSliceOf.new _ _ _ _) pl pu pk hk ?_ (by rw [List.size_toArray, ← rr.length, sizeLine_eq]; omega)) (by cases st <;> rfl)
    have rp : RepVs c φ₄ (s₄.heap.push { cls := .type "slice", data := .fields #[xl, xu, xk] }) (sliceV xs l u k) ((sliceRange (sliceBounds l u k ys.toArray.size).1 (sliceBounds l u k ys.toArray.size).2.1 (sliceBounds l u k ys.toArray.size).2.2).filterMap (ys.toArray[·]?)) := by
      have := (rr.keep (h' := s₄.heap.push { cls := .type "slice", data := .fields #[xl, xu, xk] }) fun b o _ e => kp b o e).pick (sliceRange (sliceBounds l u k xs.length).1 (sliceBounds l u k xs.length).2.1 (sliceBounds l u k xs.length).2.2)
      unfold sliceV
      simp only [List.size_toArray, List.getElem?_toArray]
      rw [← rr.length]
      exact this
    exact (new_list (s := { s₄ with heap := s₄.heap.push { cls := .type "slice", data := .fields #[xl, xu, xk] } }) ok₅ rp w₄ _ rfl).shift (((g₁.trans g₂).trans g₃).trans (g₄.trans (.of_keep kp))) (((r₁.trans r₂).trans r₃).trans (r₄.trans (Rest.mk s₄ _ _)))
  · exact w₄.elim

/-! ### lists joined and compared -/
def wAddL (ns : List Int) : WB := fun v w H Q => match asL ns H v, asL ns H w with
  | some xs, some ys => xs.length + ys.length ≤ 1000000 ∧ Q (.loc H.length) (H ++ [.list (xs ++ ys)])
  | _, _ => False
theorem addL_ok (G : Good c) : BinOK c d .Add (wAddL c.ns) := by
  intro A E s φ H v w x y Q ao ok rv rw' q
  unfold wAddL at q
  split at q
  · rename_i xs ys e1 e2
    obtain ⟨a, us, rfl, il, r1⟩ := asL_of G ok rv e1
    obtain ⟨b, ws, rfl, il', r2⟩ := asL_of G ok rw' e2
    obtain ⟨⟨cls, dd, data, sl⟩, ho, hc, n, hd⟩ := id il
    obtain ⟨⟨cls2, dd2, data2, sl2⟩, ho2, hc2, n2, hd2⟩ := id il'
    simp only at hc hd hc2 hd2
    subst hc hd hc2 hd2
    have e : us.toArray ++ ws.toArray = (us ++ ws).toArray := by simp
    refine concat_meets ⟨_, ho, rfl⟩ ⟨_, ho2, rfl⟩ noFill_list_add seq_list_add PySem.F.slot_list_add PySem.F.entry_list_add (PySem.F.args_list_add_2 _ _) (list_addW a b us.toArray ws.toArray n n2 dd dd2 sl sl2 (by simp only [List.size_toArray]; rw [← r1.length, ← r2.length, sizeLine_eq]; omega)) ⟨ho, ho2, ?_⟩
    rw [e]
    exact new_list ok (r1.append r2) q.2 _ rfl
  · exact q.elim
def intsV : List V → Option (List Int)
  | [] => some []
  | .int i :: r => (intsV r).map (i :: ·)
  | _ => none
theorem intsV_map (ns : List Int) : intsV (ns.map .int) = some ns := by
  induction ns with
  | nil => rfl
  | cons n r ih => simp [intsV, ih]
theorem intsV_of : ∀ {xs : List V} {ns : List Int}, intsV xs = some ns → xs = ns.map .int
  | [], _, e => by simp only [intsV] at e; cases e; rfl
  | .int i :: r, ns, e => by
    simp only [intsV] at e
    obtain ⟨ns', h1, rfl⟩ := Option.map_eq_some_iff.mp e
    simp [intsV_of h1]
theorem ints_of {φ h} : ∀ {ns : List Int} {ys : List Value}, RepVs c φ h (ns.map .int) ys → IntsAre ys ns
  | [], _, .nil => .nil
  | _ :: _, _, .cons r rs => by cases r; exact .cons _ _ (ints_of rs)
def wCmpI (ns : List Int) (f : Bool → Bool) : WB := fun v w H Q => match (asL ns H v).bind intsV, (asL ns H w).bind intsV with
  | some is, some js => Q (.bool (f (decide (is = js)))) H
  | _, _ => False
theorem cmpI_of (G : Good c) {f v w H Q φ h x y} (q : wCmpI c.ns f v w H Q) (ok : Ok c φ H h) (rv : RepV c φ h v x) (rw' : RepV c φ h w y) :
    ∃ a b us ws is js, x = .ref a ∧ y = .ref b ∧ h.IsList a us.toArray ∧ IntsAre us is ∧ h.IsList b ws.toArray ∧ IntsAre ws js ∧ Q (.bool (f (decide (is = js)))) H := by
  unfold wCmpI at q
  split at q
  · rename_i is js e1 e2
    obtain ⟨xs, h1, h2⟩ := Option.bind_eq_some_iff.mp e1
    obtain ⟨ys, h3, h4⟩ := Option.bind_eq_some_iff.mp e2
    obtain ⟨a, us, rfl, il, r1⟩ := asL_of G ok rv h1
    obtain ⟨b, ws, rfl, il', r2⟩ := asL_of G ok rw' h3
    rw [intsV_of h2] at r1
    rw [intsV_of h4] at r2
    exact ⟨a, b, us, ws, is, js, rfl, rfl, il, ints_of r1, il', ints_of r2, q⟩
  · exact q.elim
theorem neL_ok (G : Good c) : CmpOK c d .NotEq (wCmpI c.ns not) := by
  intro A E s φ H v w x y Q ao ok rv rw' q
  obtain ⟨a, b, us, ws, is, js, rfl, rfl, l1, i1, l2, i2, q⟩ := cmpI_of G q ok rv rw'
  exact ne_intsK l1 i1 l2 i2 (by have := ao.units; rw [cLine_is]; omega) (.here q ok .bool (fun _ _ e => e) (Rest.refl s))
theorem eqL_ok (G : Good c) : CmpOK c d .Eq (wCmpI c.ns id) := by
  intro A E s φ H v w x y Q ao ok rv rw' q
  obtain ⟨a, b, us, ws, is, js, rfl, rfl, l1, i1, l2, i2, q⟩ := cmpI_of G q ok rv rw'
  exact eq_intsK l1 i1 l2 i2 (by have := ao.units; rw [cLine_is]; omega) (.here q ok .bool (fun _ _ e => e) (Rest.refl s))

/-! ### built-in functions -/
def bLen (ns : List Int) : WF := fun args H Q => match args with
  | [v] => (match asL ns H v with | some xs => xs.length ≤ 1000000 ∧ Q (.int xs.length) H | none => False)
  | _ => False
theorem len_ok (G : Good c) : FnOK c d (.builtin "len") (bLen c.ns) := by
  intro A E s φ H args vals Q ao ok r q
  unfold bLen at q
  split at q
  · split at q
    · rename_i xs ex
      cases r with
      | cons rv rs =>
        cases rs
        obtain ⟨a, ys, rfl, il, rr⟩ := asL_of G ok rv ex
        refine len_list il (by simp only [List.size_toArray]; rw [← rr.length]; omega) ?_
        simp only [List.size_toArray]
        rw [← rr.length]
        exact .here q.2 ok .int (fun _ _ e => e) (Rest.mk s s.heap _)
    · exact q.elim
  · exact q.elim
def bMin : WF := fun args H Q => match args with | [.int a, .int b] => Q (.int (if b < a then b else a)) H | _ => False
def bMax : WF := fun args H Q => match args with | [.int a, .int b] => Q (.int (if b > a then b else a)) H | _ => False
theorem min_ok : FnOK c d (.builtin "min") bMin := by
  intro A E s φ H args vals Q ao ok r q
  unfold bMin at q
  split at q
  · cases r with
    | cons r1 rs => cases rs with
      | cons r2 rs => cases rs; cases r1; cases r2; exact min_two_ints ao.handled fun h' tk k => .here q (ok.keep k) (by split <;> exact .int) k (Rest.mk s _ _)
  · exact q.elim
theorem max_ok : FnOK c d (.builtin "max") bMax := by
  intro A E s φ H args vals Q ao ok r q
  unfold bMax at q
  split at q
  · cases r with
    | cons r1 rs => cases rs with
      | cons r2 rs => cases rs; cases r1; cases r2; exact max_two_ints ao.handled fun h' tk k => .here q (ok.keep k) (by split <;> exact .int) k (Rest.mk s _ _)
  · exact q.elim

/-! ### methods of a list -/
theorem upd_list {φ H} {k : Nat} {a : Addr} {xs : List V} {ys us : List Value} {n : Nat} {s : Shared} {Q : V → HW → Prop} {v x} {f : Array Value → Array Value} (ok : Ok c φ H s.heap) (hk : φ.l[k]? = some a) (il : IsL s.heap a ys.toArray n) (e : f ys.toArray = us.toArray) (r : RepVs c φ s.heap xs us)
    (rv : RepV c φ s.heap v x) (q : Q v (H.set k (.list xs))) : PostE c φ s Q x { s with heap := s.heap.update a (Obj.mapSeq f) } := by
  have il' := IsL.update il f
  rw [e] at il'
  obtain ⟨ok', g⟩ := ok.put (lo := .list xs) hk (fun b o n e => (Heap.get?_update_ne _ _ _ _ n).trans e) il' (.list r)
  exact ⟨v, _, φ, q, ok', rv.grow g, g, _, _, rfl⟩
def lstAt (H : HW) (k : Nat) : Option (List V) := match H[k]? with | some (.list xs) => some xs | _ => none
theorem lstAt_of {H : HW} {k : Nat} {xs} (e : lstAt H k = some xs) : H[k]? = some (.list xs) := by
  unfold lstAt at e
  split at e
  · rename_i h; cases e; exact h
  · cases e
def wAppend (a b : WE) : WE := fun sl H Q => a sl H fun v H₁ => match v with
  | .loc k => (lstAt H₁ k).isSome = true ∧ b sl H₁ fun w H₂ => (match lstAt H₂ k with | some xs => xs.length ≤ 1000000 ∧ Q .none (H₂.set k (.list (xs ++ [w]))) | none => False)
  | _ => False
theorem meth_list {M : Model} {A : Around} {E : Value → Shared → Prop} {s : Shared} {φ H} {k : Nat} {x : Value} {name : Str} {id : String} {pl : Sem Bool} {Q : Value × List Value → Shared → Prop} (ok : Ok c φ H s.heap) (rv : RepV c φ s.heap (.loc k) x) (hl : (lstAt H k).isSome = true)
    (slot : Slot "list" name id) (hty : typeOf (.builtin id) = pure (.type "method_descriptor")) (h : Q (.builtin id, [x]) s) : wpAny M A (getMethod x name pl) Q E s := by
  obtain ⟨xs, e⟩ := Option.isSome_iff_exists.mp hl
  obtain ⟨a, ys, n, rfl, hk, il, r⟩ := loc_list ok rv (lstAt_of e)
  exact getMethod_builtin ⟨_, il, rfl⟩ PySem.F.plainAttrs_list slot hty (fun b hb => by cases hb; exact ⟨_, il, rfl⟩) h
theorem ev_append {o e apos pos a b} {pl : Env → Sem Bool} (ho : Ev c d sc ρ o a) (hb : Ev c d sc ρ e b) (hs : ∀ env, backTo pos (starEach [e] env) = [(false, eval e env)])
    (he : ∀ env, eval (.Call (.Attribute o (Str.ofString "append") apos) [e] [] pos) env = (do
      let ov ← eval o env
      standAt apos.atName
      let (f, first) ← holding [ov] (getMethod ov (Str.ofString "append") (pl env))
      callWith pos f first (backTo pos (starEach [e] env)) (backToKw pos (keywordEach [] env)))) : Ev c d sc ρ (.Call (.Attribute o (Str.ofString "append") apos) [e] [] pos) (wAppend a b) := by
  intro env A E s φ sl H Q eo ao ok vs w
  refine methodCall_KW (pl := pl env) (wpAny_mono (ho env A E s φ sl H _ eo ao ok vs w) (fun x s₁ p₁ => ?_) fun _ _ e => e) (he env)
  obtain ⟨v, H₁, φ₁, w₁, ok₁, rv, g₁, r₁⟩ := p₁
  split at w₁
  · rename_i k
    refine meth_list ok₁ rv w₁.1 PySem.F.slot_list_append PySem.F.type_list_append ?_
    have ex : ∃ al, x = .ref al := by cases rv; exact ⟨_, rfl⟩
    obtain ⟨al, rfl⟩ := ex
    show wpAny _ _ (callWith pos (.builtin "list.append") [.ref al] (backTo pos (starEach [e] env)) []) _ _ _
    rw [hs]
    refine PySem.P.append_list (wpAny_mono (hb env A E s₁ φ₁ sl H₁ _ eo ao ok₁ (vs.grow g₁) w₁.2) (fun y s₂ p₂ => ?_) fun _ _ e => e)
    obtain ⟨u, H₂, φ₂, w₂, ok₂, ru, g₂, r₂⟩ := p₂
    split at w₂
    · rename_i xs ex
      obtain ⟨a', ys, n, ea, hk, il, r⟩ := loc_list ok₂ (rv.grow g₂) (lstAt_of ex)
      cases ea
      refine ⟨ys.toArray, n, by rw [List.size_toArray, ← r.length, sizeLine_eq]; omega, il, ?_⟩
      exact (upd_list (us := ys ++ [y]) ok₂ hk il (by simp) (r.append (.cons ru .nil)) .none w₂.2).shift (g₁.trans g₂) (r₁.trans r₂)
    · exact w₂.elim
  · exact w₁.elim
theorem popped (ys : List Value) : ys.toArray.eraseIdxIfInBounds (ys.toArray.size - 1) = (ys.take (ys.length - 1)).toArray := by
  rw [List.eraseIdxIfInBounds_toArray, List.size_toArray, List.eraseIdx_eq_take_drop_succ]
  have : ys.drop (ys.length - 1 + 1) = [] := List.drop_eq_nil_of_le (by omega)
  rw [this, List.append_nil]
def wPop (a : WE) : WE := fun sl H Q => a sl H fun v H₁ => match v with
  | .loc k => (match lstAt H₁ k with | some xs => xs.length ≤ 1000000 ∧ (match xs.getLast? with | some u => Q u (H₁.set k (.list xs.dropLast)) | none => False) | none => False)
  | _ => False
theorem ev_pop {o apos pos a} {pl : Env → Sem Bool} (ho : Ev c d sc ρ o a)
    (he : ∀ env, eval (.Call (.Attribute o (Str.ofString "pop") apos) [] [] pos) env = (do
      let ov ← eval o env
      standAt apos.atName
      let (f, first) ← holding [ov] (getMethod ov (Str.ofString "pop") (pl env))
      callWith pos f first (backTo pos (starEach [] env)) (backToKw pos (keywordEach [] env)))) : Ev c d sc ρ (.Call (.Attribute o (Str.ofString "pop") apos) [] [] pos) (wPop a) := by
  intro env A E s φ sl H Q eo ao ok vs w
  refine methodCall_KW (pl := pl env) (wpAny_mono (ho env A E s φ sl H _ eo ao ok vs w) (fun x s₁ p₁ => ?_) fun _ _ e => e) (he env)
  obtain ⟨v, H₁, φ₁, w₁, ok₁, rv, g₁, r₁⟩ := p₁
  split at w₁
  · rename_i k
    split at w₁
    · rename_i xs ex
      obtain ⟨hz, w₁⟩ := w₁
      split at w₁
      · rename_i u eu
        refine meth_list ok₁ rv (by rw [ex]; rfl) PySem.F.slot_list_pop PySem.F.type_list_pop ?_
        obtain ⟨al, ys, n, rfl, hk, il, r⟩ := loc_list ok₁ rv (lstAt_of ex)
        show wpAny _ _ (callWith pos (.builtin "list.pop") [.ref al] [] []) _ _ _
        have eu' : xs[xs.length - 1]? = some u := by rw [← List.getLast?_eq_getElem?]; exact eu
        obtain ⟨y, h1, h2⟩ := r.get eu'
        refine PySem.P.pop_list (y := y) il (by simp only [List.size_toArray, List.getElem?_toArray]; rw [← r.length]; exact h1) ?_ (by rw [List.size_toArray, ← r.length, sizeLine_eq]; omega)
        have hd : xs.dropLast = xs.take (xs.length - 1) := List.dropLast_eq_take
        refine (upd_list (xs := xs.dropLast) (us := ys.take (ys.length - 1)) ok₁ hk il ?_ (by rw [hd, r.length]; exact r.take _) h2 w₁).shift g₁ r₁
        exact popped ys
      · exact w₁.elim
    · exact w₁.elim
  · exact w₁.elim
end
end Mine

namespace Mine
section
variable {c : Cx} {d : Nat} {sc : Scope} {ρ : List Str}

/-! ### statements -/
def wSkip : WS := fun sl H Q => Q .next sl H
def wSeq (a b : WS) : WS := fun sl H Q => a sl H fun F sl' H' => match F with | .next => b sl' H' Q | .ret v => Q (.ret v) sl' H'
theorem exs_nil : Exs c d sc ρ [] wSkip := fun _ _ _ s φ sl H _ _ _ ok vs w => wpAny_execs_nil ⟨.next, sl, H, φ, w, ok, vs, trivial, .refl _ _ _, Rest.refl s⟩
theorem exs_cons {e es a b} (he : Ex c d sc ρ e a) (hes : Exs c d sc ρ es b) : Exs c d sc ρ (e :: es) (wSeq a b) := by
  intro env A E s φ sl H Q eo ao ok vs w
  refine wpAny_execs_cons (wpAny_mono (he env A E s φ sl H _ eo ao ok vs w) (fun f s₁ p₁ => ?_) fun _ _ e => e)
  obtain ⟨F, sl₁, H₁, φ₁, w₁, ok₁, vs₁, rf, g₁, r₁⟩ := p₁
  cases F with
  | next =>
    cases f with
    | next => exact wpAny_mono (hes env A E s₁ φ₁ sl₁ H₁ Q eo ao ok₁ vs₁ w₁) (fun f s₂ p₂ => p₂.shift g₁ r₁) fun _ _ e => e
    | _ => exact rf.elim
  | ret v =>
    cases f with
    | ret x => exact ⟨.ret v, sl₁, H₁, φ₁, w₁, ok₁, vs₁, rf, g₁, r₁⟩
    | _ => exact rf.elim
def wSet (i : Nat) (a : WE) : WS := fun sl H Q => a sl H fun v H' => Q .next (sl.set i (some v)) H'
theorem ex_set {i x xp e pos a} (he : Ev c d sc ρ e a) (hi : ρ[i]? = some x) (hx : sc.names.lookup x = some .local ∨ sc.names.lookup x = some .cell) (hk : sc.kind = .function)
    (hs : ∀ env, swapsWith e (some (.Name x xp)) pos.line env = pure false) : Ex c d sc ρ (.Assign [.Name x xp] e pos) (wSet i a) := by
  intro env A E s φ sl H Q eo ao ok vs w
  refine wpAny_Assign_Name (wpAny_mono (he env A E s φ sl H _ eo ao ok vs w) (fun y s₁ p₁ => ?_) fun _ _ e => e) (hs env)
  obtain ⟨v, H₁, φ₁, w₁, ok₁, rv, g₁, r₁⟩ := p₁
  exact store_ok hi hx hk eo ok₁ (vs.grow g₁) rv fun s₂ ok₂ vs₂ g₂ r₂ => ⟨.next, _, H₁, φ₁, w₁, ok₂, vs₂, trivial, g₁.toS.trans g₂, r₁.trans r₂⟩
def wAug (i : Nat) (f : WB) (a : WE) : WS := fun sl H Q => wBin f (wVar i) a sl H fun v H' => Q .next (sl.set i (some v)) H'
def InpOK (c : Cx) (d : Nat) (op : Operator) (f : WB) : Prop :=
  ∀ A E s φ H v w x y Q, AOK d A → Ok c φ H s.heap → RepV c φ s.heap v x → RepV c φ s.heap w y → f v w H Q → wpAny (model c.prog c.w) A (inplaceOp op x y) (PostE c φ s Q) E s
theorem iadd_ok : InpOK c d .Add (onI fun i j => .int (i + j)) := by
  intro A E s φ H v w x y Q ao ok rv rw' q
  obtain ⟨i, j, rfl, rfl, q⟩ := onI_of q
  cases rv; cases rw'
  exact iadd_int (.here q ok .int (fun _ _ e => e) (Rest.mk s s.heap _))
theorem ex_aug {i x xp op e pos f a} (B : InpOK c d op f) (he : Ev c d sc ρ e a) (hi : ρ[i]? = some x) (hx : sc.names.lookup x = some .local) (hk : sc.kind = .function) : Ex c d sc ρ (.AugAssign (.Name x xp) op e pos) (wAug i f a) := by
  intro env A E s φ sl H Q eo ao ok vs w
  unfold wAug wBin at w
  obtain ⟨v, e, q⟩ := wVar_of w
  have kx := (eo.kind x).trans hx
  obtain ⟨m, hn, hm⟩ := id vs.loc
  obtain ⟨y, h1, h2⟩ := hm i x v hi kx e
  refine wpAny_AugAssign_Name (wpAny_loadName_local (by rw [eo.scope]; exact hk) kx hn h1 ?_)
  refine wpAny_mono (he env A E s φ sl H _ eo ao ok vs q) (fun z s₁ p₁ => ?_) fun _ _ e => e
  obtain ⟨u, H₁, φ₁, w₁, ok₁, ru, g₁, r₁⟩ := p₁
  refine wpAny_mono (B A E s₁ φ₁ H₁ v u y z _ ao ok₁ (h2.grow g₁) ru w₁) (fun t s₂ p₂ => ?_) fun _ _ e => e
  obtain ⟨r, H₂, φ₂, w₂, ok₂, rr, g₂, r₂⟩ := p₂
  exact store_ok hi (.inl hx) hk eo ok₂ (vs.grow (g₁.trans g₂)) rr fun s₃ ok₃ vs₃ g₃ r₃ => ⟨.next, _, H₂, φ₂, w₂, ok₃, vs₃, trivial, (g₁.trans g₂).toS.trans g₃, (r₁.trans r₂).trans r₃⟩
def wDrop (a : WE) : WS := fun sl H Q => a sl H fun v H' => match v with | .none => Q .next sl H' | _ => False
theorem ex_expr {e pos a} (he : Ev c d sc ρ e a) (hk : sc.kind = .function) (hs : ∀ env, swapsWith e none pos.line env = pure false) : Ex c d sc ρ (.Expr e pos) (wDrop a) := by
  intro env A E s φ sl H Q eo ao ok vs w
  refine wpAny_Expr (wpAny_mono (he env A E s φ sl H _ eo ao ok vs w) (fun y s₁ p₁ => ?_) fun _ _ e => e) (by unfold interactive; rw [eo.scope, hk]; rfl) (hs env)
  obtain ⟨v, H₁, φ₁, w₁, ok₁, rv, g₁, r₁⟩ := p₁
  split at w₁
  · cases rv
    exact ⟨.next, sl, H₁, φ₁, w₁, ok₁, vs.grow g₁, trivial, g₁.toS, r₁⟩
  · exact w₁.elim
def wIf (t : WT) (a b : WS) : WS := fun sl H Q => t sl H fun r H' => if r then a sl H' Q else b sl H' Q
theorem ex_if {t body orelse pos w a b} (ht : Et c d sc ρ t w) (ha : Exs c d sc ρ body a) (hb : Exs c d sc ρ orelse b) : Ex c d sc ρ (.If t body orelse pos) (wIf w a b) := by
  intro env A E s φ sl H Q eo ao ok vs q
  refine wpAny_If (wpAny_mono (ht env A E s φ sl H _ eo ao ok vs q) (fun y s₁ p₁ => ?_) fun _ _ e => e)
  obtain ⟨H₁, φ₁, w₁, ok₁, g₁, r₁⟩ := p₁
  cases y with
  | true => simp only [if_true] at w₁ ⊢; exact wpAny_mono (ha env A E s₁ φ₁ sl H₁ Q eo ao ok₁ (vs.grow g₁) w₁) (fun f s₂ p₂ => p₂.shift g₁.toS r₁) fun _ _ e => e
  | false => simp only [Bool.false_eq_true, if_false] at w₁ ⊢; exact wpAny_mono (hb env A E s₁ φ₁ sl H₁ Q eo ao ok₁ (vs.grow g₁) w₁) (fun f s₂ p₂ => p₂.shift g₁.toS r₁) fun _ _ e => e
def wRet (a : WE) : WS := fun sl H Q => a sl H fun v H' => Q (.ret v) sl H'
theorem ex_ret {e pos a} (he : Ev c d sc ρ e a) : Ex c d sc ρ (.Return (some e) pos) (wRet a) := by
  intro env A E s φ sl H Q eo ao ok vs w
  refine wpAny_Return_some (wpAny_mono (he env A E s φ sl H _ eo ao ok vs w) (fun y s₁ p₁ => ?_) fun _ _ e => e)
  obtain ⟨v, H₁, φ₁, w₁, ok₁, rv, g₁, r₁⟩ := p₁
  exact ⟨.ret v, sl, H₁, φ₁, w₁, ok₁, vs.grow g₁, rv, g₁.toS, r₁⟩

/-! ### while -/
def wWhileN (t : WT) (b : WS) : Nat → WS
  | 0 => fun _ _ _ => False
  | n + 1 => fun sl H Q => t sl H fun r H₁ => if r then b sl H₁ (fun F sl' H' => match F with | .next => wWhileN t b n sl' H' Q | .ret v => Q (.ret v) sl' H') else Q .next sl H₁
def wWhile (t : WT) (b : WS) : WS := fun sl H Q => ∃ n, wWhileN t b n sl H Q
theorem ex_while {t body pos w b} (ht : Et c d sc ρ t w) (hb : Exs c d sc ρ body b) : Ex c d sc ρ (.While t body [] pos) (wWhile w b) := by
  rintro env A E s φ sl H Q eo ao ok vs ⟨n, q⟩
  refine wpAny_While (codeAny_whileLoop (fun n s' => ∃ φ' sl' H', wWhileN w b n sl' H' Q ∧ Ok c φ' H' s'.heap ∧ Vars c ρ φ' s'.heap env sl' ∧ GrowS env φ s.heap φ' s'.heap ∧ Rest s s') ?_ n ⟨φ, sl, H, q, ok, vs, .refl _ _ _, Rest.refl s⟩)
  rintro n s' ⟨φ', sl', H', q, ok, vs, g, r⟩
  cases n with
  | zero => exact q.elim
  | succ n =>
    refine wpAny_mono (ht env A _ s' φ' sl' H' _ eo ao ok vs q) (fun y s₁ p₁ => ?_) fun _ _ e => e
    obtain ⟨H₁, φ₁, w₁, ok₁, g₁, r₁⟩ := p₁
    cases y with
    | false =>
      simp only [Bool.false_eq_true, if_false] at w₁ ⊢
      exact wpAny_execs_nil ⟨.next, sl', H₁, φ₁, w₁, ok₁, vs.grow g₁, trivial, g.trans g₁.toS, r.trans r₁⟩
    | true =>
      simp only [if_true] at w₁ ⊢
      refine wpAny_mono (hb env A _ s₁ φ₁ sl' H₁ _ eo ao ok₁ (vs.grow g₁) w₁) (fun f s₂ p₂ => ?_) fun _ _ e => e
      obtain ⟨F, sl₂, H₂, φ₂, w₂, ok₂, vs₂, rf, g₂, r₂⟩ := p₂
      cases F with
      | next =>
        cases f with
        | next => exact ⟨n, Nat.lt_succ_self n, φ₂, sl₂, H₂, w₂, ok₂, vs₂, (g.trans g₁.toS).trans g₂, (r.trans r₁).trans r₂⟩
        | _ => exact rf.elim
      | ret v =>
        cases f with
        | ret x => exact ⟨.ret v, sl₂, H₂, φ₂, w₂, ok₂, vs₂, rf, (g.trans g₁.toS).trans g₂, (r.trans r₁).trans r₂⟩
        | _ => exact rf.elim

/-! ### targets -/
abbrev WA := V → Sl → HW → (Sl → HW → Prop) → Prop
def At (c : Cx) (d : Nat) (sc : Scope) (ρ : List Str) (t : Expr) (W : WA) : Prop :=
  ∀ env A E s φ sl H v x K, EnvOK sc env → AOK d A → Ok c φ H s.heap → Vars c ρ φ s.heap env sl → RepV c φ s.heap v x → W v sl H K →
    wpAny (model c.prog c.w) A (assign t env x) (fun _ s' => ∃ sl' H' φ', K sl' H' ∧ Ok c φ' H' s'.heap ∧ Vars c ρ φ' s'.heap env sl' ∧ GrowS env φ s.heap φ' s'.heap ∧ Rest s s') E s
def aName (i : Nat) : WA := fun v sl H K => K (sl.set i (some v)) H
theorem at_name {i x xp} (hi : ρ[i]? = some x) (hx : sc.names.lookup x = some .local ∨ sc.names.lookup x = some .cell) (hk : sc.kind = .function) : At c d sc ρ (.Name x xp) (aName i) := by
  intro env A E s φ sl H v y K eo ao ok vs rv q
  exact wpAny_assign_Name (store_ok hi hx hk eo ok vs rv fun s₂ ok₂ vs₂ g₂ r₂ => ⟨_, H, φ, q, ok₂, vs₂, g₂, r₂⟩)
def setAll : List Nat → List V → Sl → Sl
  | i :: is, v :: vs, sl => setAll is vs (sl.set i (some v))
  | _, _, sl => sl
theorem ExtBut.keep {h h' : Heap} (x : Heap.ExtBut h.objs.size h h') : ∀ b o, h.get? b = some o → h'.get? b = some o := fun b o e => x b o (Nat.ne_of_lt (Heap.lt_size e)) e
/-- each function of the row stores the name at its place -/
def Stores (M : Model) (env : Env) : List Str → List (Value → Sem Unit) → Prop
  | [], [] => True
  | x :: xs, f :: fs => (∀ A E v s (R : Unit → Shared → Prop), wpAny M A (storeName env x v) R E s → wpAny M A (f v) R E s) ∧ Stores M env xs fs
  | _, _ => False
def Slots (sc : Scope) (ρ : List Str) : List Nat → List Str → Prop
  | [], [] => True
  | i :: is, x :: xs => (ρ[i]? = some x ∧ (sc.names.lookup x = some .local ∨ sc.names.lookup x = some .cell)) ∧ Slots sc ρ is xs
  | _, _ => False
theorem inOrder_ok {env : Env} {A E φ H} (hk : sc.kind = .function) (eo : EnvOK sc env) (is : List Nat) : ∀ (xs : List Str) (fs : List (Value → Sem Unit)) (vs : List V) (ys : List Value) (s : Shared) (sl : Sl) (R : Unit → Shared → Prop),
    Stores (model c.prog c.w) env xs fs → Slots sc ρ is xs → vs.length = is.length → Ok c φ H s.heap → Vars c ρ φ s.heap env sl → RepVs c φ s.heap vs ys →
    (∀ s', Ok c φ H s'.heap → Vars c ρ φ s'.heap env (setAll is vs sl) → GrowS env φ s.heap φ s'.heap → Rest s s' → R () s') →
    wpAny (model c.prog c.w) A (assignInOrder fs ys) R E s := by
  induction is with
  | nil =>
    intro xs fs vs ys s sl R hf h1 h2 ok va r k
    cases vs with
    | cons _ _ => simp at h2
    | nil =>
      cases r
      have : assignInOrder fs [] = pure () := by cases fs <;> rfl
      rw [this]
      exact wpAny_pure (k s ok va (.refl _ _ _) (Rest.refl s))
  | cons i is ih =>
    intro xs fs vs ys s sl R hf h1 h2 ok va r k
    cases r with
    | nil => simp at h2
    | cons r rs =>
      cases xs with
      | nil => exact h1.elim
      | cons x xs =>
        cases fs with
        | nil => exact hf.elim
        | cons f fs =>
          rename_i v y vs ys
          show wpAny _ _ (holding ys (f y) >>= fun _ => assignInOrder fs ys) _ _ _
          refine wpAny_bind (wpAny_holding (hf.1 _ _ _ _ _ (store_ok h1.1.1 h1.1.2 hk eo ok va r fun s₂ ok₂ vs₂ g₂ r₂ => ?_)))
          refine ih xs fs vs ys s₂ _ R hf.2 h1.2 (by simpa using h2) ok₂ vs₂ ?_ fun s₃ ok₃ vs₃ g₃ r₃ => k s₃ ok₃ vs₃ (g₂.trans g₃) (r₂.trans r₃)
          exact rs.keep fun b o z e => g₂.keep b o e (ok.dj b z) (fun q => va.offZ (q ▸ z)) fun x q => (va.offC x b q).2.1 z
/-- a tuple's places to names, in their order -/
def aTup (is : List Nat) : WA := fun v sl H K => match v with | .tup vs => vs.length = is.length ∧ K (setAll is vs sl) H | _ => False
theorem Stores.len {M env} : ∀ {xs : List Str} {fs : List (Value → Sem Unit)}, Stores M env xs fs → fs.length = xs.length
  | [], [], _ => rfl
  | _ :: _, _ :: _, h => by simp [h.2.len]
  | [], _ :: _, h => h.elim
  | _ :: _, [], h => h.elim
theorem Slots.len : ∀ {is : List Nat} {xs : List Str}, Slots sc ρ is xs → xs.length = is.length
  | [], [], _ => rfl
  | _ :: _, _ :: _, h => by simp [h.2.len]
  | [], _ :: _, h => h.elim
  | _ :: _, [], h => h.elim
theorem at_tup {elts k pos is} {xs : List Str} (hk : sc.kind = .function) (hx : Slots sc ρ is xs) (hst : ∀ env, (assignEach elts env).findIdx? (·.1) = none)
    (hm : ∀ env, Stores (model c.prog c.w) env xs ((assignEach elts env).map (·.2))) : At c d sc ρ (.Tuple elts k pos) (aTup is) := by
  intro env A E s φ sl H v y K eo ao ok vs rv q
  unfold aTup at q
  split at q
  · cases rv with
    | tup n z n0 e r =>
      obtain ⟨hlen, q⟩ := q
      have hl := (hm env).len
      rw [List.length_map] at hl
      refine wpAny_assign_Tuple ao.handled ⟨_, e, rfl, _, rfl⟩ (by rw [hl, List.size_toArray, ← r.length, hlen, hx.len]) (hst env) fun h' x => ?_
      have kp := ExtBut.keep x
      have g : Grow φ s.heap φ h' := .of_keep kp
      refine inOrder_ok (s := { s with heap := h' }) hk eo is xs _ _ _ sl _ (hm env) hx hlen (ok.keep kp) (vs.grow g) (by simpa using r.grow g) fun s₃ ok₃ vs₃ g₃ r₃ => ⟨_, _, φ, q, ok₃, vs₃, g.toS.trans g₃, (Rest.mk s h' s.toks).trans r₃⟩
  · exact q.elim
/-- «a, b = e» without an exchange -/
def wSetT (is : List Nat) (a : WE) : WS := fun sl H Q => a sl H fun v H' => aTup is v sl H' fun sl' H'' => Q .next sl' H''
theorem ex_setT {elts k tpos e pos a is} {xs : List Str} (he : Ev c d sc ρ e a) (hk : sc.kind = .function) (hx : Slots sc ρ is xs) (hst : ∀ env, (assignEach elts env).findIdx? (·.1) = none)
    (hm : ∀ env, Stores (model c.prog c.w) env xs ((assignEach elts env).map (·.2)))
    (hs : ∀ env, swapsWithSole [.Tuple elts k tpos] e pos.line env = pure false) (hw : ∀ env, env.scope = sc → swappedStores [.Tuple elts k tpos] e env = pure none) : Ex c d sc ρ (.Assign [.Tuple elts k tpos] e pos) (wSetT is a) := by
  intro env A E s φ sl H Q eo ao ok vs w
  refine Assign_Tuple (wpAny_mono (he env A E s φ sl H _ eo ao ok vs w) (fun y s₁ p₁ => ?_) fun _ _ e => e) (hs env) (hw env eo.scope)
  obtain ⟨v, H₁, φ₁, w₁, ok₁, rv, g₁, r₁⟩ := p₁
  refine wpAny_mono (at_tup hk hx hst hm env A E s₁ φ₁ sl H₁ v y _ eo ao ok₁ (vs.grow g₁) rv w₁) (fun _ s₂ p₂ => ?_) fun _ _ e => e
  obtain ⟨sl', H', φ', q, ok', vs', g', r'⟩ := p₂
  exact ⟨.next, sl', H', φ', q, ok', vs', trivial, g₁.toS.trans g', r₁.trans r'⟩
/-- «a, b = x, y»: the stores go from the last to the first -/
def aTupR (is : List Nat) : WA := fun v sl H K => match v with | .tup vs => vs.length = is.length ∧ K (setAll is.reverse vs.reverse sl) H | _ => False
def wSetR (is : List Nat) (a : WE) : WS := fun sl H Q => a sl H fun v H' => aTupR is v sl H' fun sl' H'' => Q .next sl' H''
theorem Slots.snoc {i x} (h : ρ[i]? = some x ∧ (sc.names.lookup x = some .local ∨ sc.names.lookup x = some .cell)) : ∀ {is : List Nat} {xs : List Str}, Slots sc ρ is xs → Slots sc ρ (is ++ [i]) (xs ++ [x])
  | [], [], _ => ⟨h, trivial⟩
  | _ :: _, _ :: _, g => ⟨g.1, Slots.snoc h g.2⟩
  | [], _ :: _, g => g.elim
  | _ :: _, [], g => g.elim
theorem Slots.reverse : ∀ {is : List Nat} {xs : List Str}, Slots sc ρ is xs → Slots sc ρ is.reverse xs.reverse
  | [], [], _ => trivial
  | _ :: _, _ :: _, g => by simp only [List.reverse_cons]; exact g.2.reverse.snoc g.1
  | [], _ :: _, g => g.elim
  | _ :: _, [], g => g.elim
theorem stores_bind {M : Model} {env : Env} : ∀ xs : List Str, Stores M env xs (xs.map fun n => bindName env n)
  | [] => trivial
  | _ :: xs => ⟨fun _ _ _ _ _ h => wpAny_bindName h, stores_bind xs⟩
theorem ex_setR {elts k tpos e pos a is} {xs : List Str} (he : Ev c d sc ρ e a) (hk : sc.kind = .function) (hx : Slots sc ρ is xs)
    (hs : ∀ env, swapsWithSole [.Tuple elts k tpos] e pos.line env = pure false) (hw : ∀ env, env.scope = sc → swappedStores [.Tuple elts k tpos] e env = pure (some xs)) : Ex c d sc ρ (.Assign [.Tuple elts k tpos] e pos) (wSetR is a) := by
  intro env A E s φ sl H Q eo ao ok vs w
  refine Assign_Tuple_swapped (wpAny_mono (he env A E s φ sl H _ eo ao ok vs w) (fun y s₁ p₁ => ?_) fun _ _ e => e) (hs env) (hw env eo.scope)
  obtain ⟨v, H₁, φ₁, w₁, ok₁, rv, g₁, r₁⟩ := p₁
  unfold aTupR at w₁
  split at w₁
  · cases rv with
    | tup n z n0 e r =>
      obtain ⟨hlen, q⟩ := w₁
      rename_i ys _ _
      have hsz : xs.length = ys.toArray.size := by rw [hx.len, List.size_toArray, ← r.length, hlen]
      rw [hsz]
      refine wpAny_unpackItems_tuple ao.handled ⟨_, e, rfl, _, rfl⟩ fun h' x => ?_
      have kp := ExtBut.keep x
      have g : Grow φ₁ s₁.heap φ₁ h' := .of_keep kp
      refine inOrder_ok (s := { s₁ with heap := h' }) hk eo is.reverse xs.reverse _ _ _ sl _ (stores_bind _) hx.reverse (by simp [hlen]) (ok₁.keep kp) ((vs.grow g₁).grow g) (by simpa using (r.grow g).reverse) fun s₃ ok₃ vs₃ g₃ r₃ => ⟨.next, _, _, φ₁, q, ok₃, vs₃, trivial, (g₁.toS.trans g.toS).trans g₃, (r₁.trans (Rest.mk s₁ h' s₁.toks)).trans r₃⟩
  · exact w₁.elim
end
end Mine

namespace Mine
section
variable {c : Cx} {d : Nat} {sc : Scope} {ρ : List Str}

/-! ### what a loop goes over -/
inductive ItK where
  | list (kv : V) (xs : List V)
  | walk (xs : List V)
def ItK.items : ItK → List V
  | .list _ xs => xs
  | .walk xs => xs
def ItK.inv (ns : List Int) (H : HW) : ItK → Prop
  | .list kv xs => asL ns H kv = some xs
  | .walk _ => True
def RepL (c : Cx) (φ : Mp) (v : V) (a : Addr) : Prop := (∃ k, v = .loc k ∧ φ.l[k]? = some a) ∨ (v = .script ∧ a = c.aS)
theorem RepL.rep {φ h v a} (r : RepL c φ v a) : RepV c φ h v (.ref a) := by
  rcases r with ⟨k, rfl, e⟩ | ⟨rfl, rfl⟩
  · exact .loc e
  · exact .script
def ItAt (c : Cx) (A : Around) (φ : Mp) (h : Heap) (I : Addr) (i : Nat) : ItK → Prop
  | .list kv _ => ∃ a, RepL c φ kv a ∧ h.IsListIter I a i
  | .walk xs => ∃ P St, Walks c.prog c.w A I [I] [I] xs.length P St ∧ (∀ i v, P i v → ∃ u, xs[i]? = some u ∧ (∀ T, v ≠ .ref T) ∧ ∀ φ h, RepV c φ h u v) ∧ (∀ i h, St i h → ∃ o, h.get? I = some o) ∧ St i h
theorem ItAt.keep {A φ φ' h h' I i k} (x : ItAt c A φ h I i k) (e : ∀ o, h.get? I = some o → h'.get? I = some o) (g : ∀ (k : Nat) a, φ.l[k]? = some a → φ'.l[k]? = some a) : ItAt c A φ' h' I i k := by
  cases k with
  | list kv xs =>
    obtain ⟨a, r, o, ho, q⟩ := x
    refine ⟨a, ?_, o, e _ ho, q⟩
    rcases r with ⟨k, rfl, e⟩ | ⟨rfl, rfl⟩
    · exact .inl ⟨k, rfl, g _ _ e⟩
    · exact .inr ⟨rfl, rfl⟩
  | walk xs =>
    obtain ⟨P, St, W, hp, hl, st⟩ := x
    exact ⟨P, St, W, hp, hl, W.frame _ _ _ st fun b hb o eo => by rw [List.mem_singleton.mp hb] at eo ⊢; exact e o eo⟩
/-- one item more -/
theorem ItAt.item {A E φ H I i k} {v : V} {s : Shared} {R : Option Value → Shared → Prop} (G : Good c) (ok : Ok c φ H s.heap) (iv : k.inv c.ns H) (x : ItAt c A φ s.heap I i k) (hv : k.items[i]? = some v)
    (h : ∀ y h' t, RepV c φ s.heap v y → ItAt c A φ h' I (i + 1) k → (∀ b o, b ≠ I → s.heap.get? b = some o → h'.get? b = some o) → (∃ o, h'.get? I = some o) → ((∃ l, h'.IsListIter I l (i + 1)) ∨ ∀ T, y ≠ .ref T) → R (some y) { s with heap := h', toks := t }) :
    wpAny (model c.prog c.w) A (pyNext (.ref I)) R E s := by
  cases k with
  | list kv xs =>
    obtain ⟨a, r, it⟩ := x
    obtain ⟨a', ys, ea, il, rr⟩ := asL_of G ok r.rep iv
    cases ea
    obtain ⟨y, h1, h2⟩ := rr.get hv
    refine wpAny_pyNext_list_item it il (by simpa using h1) fun h' it' sb => h y h' s.toks h2 ⟨a, r, it'⟩ (fun b o n e => (sb.2 b n).trans e) (by obtain ⟨o, ho, _⟩ := it'; exact ⟨o, ho⟩) (.inl ⟨a, it'⟩)
  | walk xs =>
    obtain ⟨P, St, W, hp, hl, st⟩ := x
    have hi : i < xs.length := (List.getElem?_eq_some_iff.mp hv).1
    refine W.item i s _ _ hi st fun y h' tk py st' kp => ?_
    obtain ⟨u, hu, nr, ru⟩ := hp i y py
    have : u = v := by have := hu.symm.trans hv; cases this; rfl
    subst this
    exact h y h' tk (ru _ _) ⟨P, St, W, hp, hl, st'⟩ (fun b o n e => kp b o (fun m => n (List.mem_singleton.mp m)) e) (hl _ _ st') (.inr nr)
theorem ItAt.done {A E φ H I i k} {s : Shared} {R : Option Value → Shared → Prop} (G : Good c) (hh : A.handled = none) (ok : Ok c φ H s.heap) (iv : k.inv c.ns H) (x : ItAt c A φ s.heap I i k) (hv : i = k.items.length)
    (h : ∀ h' t, (∀ b o, b ≠ I → s.heap.get? b = some o → h'.get? b = some o) → R none { s with heap := h', toks := t }) :
    wpAny (model c.prog c.w) A (pyNext (.ref I)) R E s := by
  cases k with
  | list kv xs =>
    obtain ⟨a, r, it⟩ := x
    obtain ⟨a', ys, ea, il, rr⟩ := asL_of G ok r.rep iv
    cases ea
    refine wpAny_pyNext_list_end hh it il (by rw [hv]; simp [ItK.items, rr.length]) fun h' xb => h h' s.toks fun b o n e => xb b o n e
  | walk xs =>
    obtain ⟨P, St, W, hp, hl, st⟩ := x
    rw [hv] at st
    exact W.done s _ _ st fun h' tk kp => h h' tk fun b o n e => kp b o (fun m => n (List.mem_singleton.mp m)) e
theorem ItAt.live {A φ h I i k} (x : ItAt c A φ h I i k) : ∃ o, h.get? I = some o := by
  cases k with
  | list kv xs => obtain ⟨a, r, o, ho, _⟩ := x; exact ⟨o, ho⟩
  | walk xs => obtain ⟨P, St, W, hp, hl, st⟩ := x; exact hl _ _ st

theorem Vars.same {φ h env sl h'} (v : Vars c ρ φ h env sl) {I : Addr} (nL : I ≠ env.locals) (nC : ∀ x, env.cells.lookup x ≠ some I) (nZ : I ∉ φ.z) (k : ∀ b o, b ≠ I → h.get? b = some o → h'.get? b = some o) : Vars c ρ φ h' env sl := by
  obtain ⟨m, hn, hm⟩ := v.loc
  obtain ⟨o, es, ep, ho, r⟩ := id hn
  have kz : ∀ b o, b ∈ φ.z → h.get? b = some o → h'.get? b = some o := fun b o z e => k b o (fun q => nZ (q ▸ z)) e
  refine ⟨v.nd, v.len, v.offL, v.offZ, v.newL, ⟨m, ⟨o, es, ep, k _ _ (Ne.symm nL) ho, r⟩, fun i x w h1 h2 h3 => ?_⟩, fun x a e => ?_, v.inj, fun i x w h1 h2 h3 => ?_, v.has⟩
  · obtain ⟨y, h4, h5⟩ := hm i x w h1 h2 h3
    exact ⟨y, h4, h5.keep kz⟩
  · obtain ⟨n, z, n0, y, o', ho', hd⟩ := v.offC x a e
    exact ⟨n, z, n0, y, o', k _ _ (fun q => nC x (q ▸ e)) ho', hd⟩
  · obtain ⟨a, y, h4, ⟨o', ho', hd⟩, h6⟩ := v.cel i x w h1 h2 h3
    exact ⟨a, y, h4, ⟨o', k _ _ (fun q => nC x (q ▸ h4)) ho', hd⟩, h6.keep kz⟩

/-- what a loop goes over, made -/
abbrev WI := Sl → HW → (ItK → HW → Prop) → Prop
def PostI (c : Cx) (A : Around) (φ : Mp) (s : Shared) (Q : ItK → HW → Prop) (it : Value) (s' : Shared) : Prop :=
  ∃ I k H φ', it = .ref I ∧ Q k H ∧ k.inv c.ns H ∧ ItAt c A φ' s'.heap I 0 k ∧ s.heap.get? I = none ∧ I ∉ φ'.l ∧ I ∉ φ'.z ∧ Ok c φ' H s'.heap ∧ Grow φ s.heap φ' s'.heap ∧ Rest s s'
def Ei (c : Cx) (d : Nat) (sc : Scope) (ρ : List Str) (e : Expr) (W : WI) : Prop :=
  ∀ env A E s φ sl H Q, EnvOK sc env → AOK d A → Ok c φ H s.heap → Vars c ρ φ s.heap env sl → W sl H Q →
    wpAny (model c.prog c.w) A (eval e env) (fun x s₁ => wpAny (model c.prog c.w) A (pyIter x) (PostI c A φ s Q) E s₁) E s
def iList (ns : List Int) (a : WE) : WI := fun sl H Q => a sl H fun v H' => match asL ns H' v with | some xs => Q (.list v xs) H' | none => False
theorem new_unz {φ H} {h : Heap} (ok : Ok c φ H h) : h.objs.size ∉ φ.l ∧ h.objs.size ∉ φ.z := by
  constructor
  · intro m; obtain ⟨o, e⟩ := ok.live m; rw [new_none] at e; cases e
  · intro m; obtain ⟨o, e⟩ := ok.zl _ m; rw [new_none] at e; cases e
theorem Grow.none {φ h φ' h'} (g : Grow φ h φ' h') {a} (e : h'.get? a = none) : h.get? a = none := by
  cases q : h.get? a with
  | none => rfl
  | some o => obtain ⟨o', e'⟩ := g.live a o q; rw [e] at e'; cases e'
theorem ei_list {e a} (G : Good c) (he : Ev c d sc ρ e a) : Ei c d sc ρ e (iList c.ns a) := by
  intro env A E s φ sl H Q eo ao ok vs w
  refine wpAny_mono (he env A E s φ sl H _ eo ao ok vs w) (fun x s₁ p₁ => ?_) fun _ _ e => e
  obtain ⟨v, H₁, φ₁, w₁, ok₁, rv, g₁, r₁⟩ := p₁
  split at w₁
  · rename_i xs ex
    obtain ⟨al, ys, rfl, il, rr⟩ := asL_of G ok₁ rv ex
    refine wpAny_pyIter_list il ?_
    have kp : ∀ b o, s₁.heap.get? b = some o → (s₁.heap.push { cls := .type "list_iterator", data := .fields #[.ref al, .int 0 0] }).get? b = some o := fun b o e => Heap.get?_push_of_some _ e
    refine ⟨_, .list v xs, H₁, φ₁, rfl, w₁, ex, ⟨al, ?_, _, Heap.get?_push_size _ rfl, rfl, rfl⟩, g₁.none (new_none _), (new_unz ok₁).1, (new_unz ok₁).2, ok₁.keep kp, g₁.trans (.of_keep kp), r₁.trans (Rest.mk s₁ _ s₁.toks)⟩
    cases rv <;> simp only [asL] at ex <;> try (cases ex; done)
    · rename_i k hk; exact .inl ⟨k, rfl, hk⟩
    · exact .inr ⟨rfl, rfl⟩
  · exact w₁.elim
/-- the numbers of a range -/
def rangeL (a b st : Int) : List V := (List.range (Builtin.Range.rangeSize a b st).toNat).map fun i => .int (a + (i : Nat) * st)
def iRange1 (x : WE) : WI := fun sl H Q => x sl H fun v H' => match v with | .int n => (-1000000 < n ∧ n < 1000000) ∧ Q (.walk (rangeL 0 n 1)) H' | _ => False
theorem range_walk {A I a b st h} (hh : A.handled = none) (e : h.get? I = some { cls := .type "range_iterator", data := .fields #[rawInt a, rawInt (Builtin.Range.rangeSize a b st), rawInt st] }) (hn : 0 ≤ Builtin.Range.rangeSize a b st) (φ : Mp) :
    ItAt c A φ h I 0 (.walk (rangeL a b st)) := by
  refine ⟨fun i v => ∃ t, v = .int (a + (i : Nat) * st) t ∧ i < (Builtin.Range.rangeSize a b st).toNat, fun i h => IsRangeIter h I (a + (i : Nat) * st) (((Builtin.Range.rangeSize a b st).toNat : Int) - (i : Nat)) st, ?_, ?_, ?_, ?_⟩
  · have W := Walks.range (prog := c.prog) (w := c.w) hh I a st (Builtin.Range.rangeSize a b st).toNat
    have el : (rangeL a b st).length = (Builtin.Range.rangeSize a b st).toNat := by simp [rangeL]
    rw [el]
    exact ⟨W.sub, W.frame, fun i s Q E hi st hQ => W.item i s Q E hi st fun v h' tk pv => by obtain ⟨t, rfl⟩ := pv; exact hQ _ h' tk ⟨t, rfl, hi⟩, W.done, W.self⟩
  · rintro i v ⟨t, rfl, hi⟩
    exact ⟨.int (a + i * st), by simp [rangeL, hi], fun T e => (nomatch e), fun _ _ => .int⟩
  · exact fun i h st => ⟨_, st⟩
  · show h.get? I = _
    rw [e]
    simp [Int.toNat_of_nonneg hn]
theorem rangeSize_nonneg (a b st : Int) : 0 ≤ Builtin.Range.rangeSize a b st := by rw [rangeSize_toNat]; omega
theorem range_small {n : Int} (h : -1000000 < n ∧ n < 1000000) : Builtin.Range.small 0 n 1 = true := small_one (by decide) (by decide) (by omega) (by omega)
theorem ei_range1 {x np pos e a} (G : Good c) (hk : sc.kind = .function) (hx : sc.names.lookup x = some .globalImplicit) (hg : c.mg x = none) (hv : c.mb x = some (.type "range")) (hd : (x == ("__debug__" : Str)) = false)
    (he : Ev c d sc ρ e a) (hs : ∀ env, starEach [e] env = [(false, eval e env)]) : Ei c d sc ρ (.Call (.Name x np) [e] [] pos) (iRange1 a) := by
  intro env A E s φ sl H Q eo ao ok vs w
  refine Call_Name1 (name_built G eo ok hk hx hg hv hd ?_) (hs env)
  refine PyProof.Rows.callWith_type rfl (Calls.evalArgs_plain (Calls.spliced_cons ?_))
  refine wpAny_mono (he env A E s φ sl H _ eo ao ok vs w) (fun y s₁ p₁ => ?_) fun _ _ e => e
  obtain ⟨v, H₁, φ₁, w₁, ok₁, rv, g₁, r₁⟩ := p₁
  refine Calls.spliced_nil ?_
  split at w₁
  · rename_i n
    cases rv with
    | @int _ t =>
      refine call_range_1 ?_
      have kp : ∀ b o, s₁.heap.get? b = some o → (s₁.heap.push { cls := .type "range", data := .fields #[.int 0 s₁.toks, .int n t, .int 1 (s₁.toks + 1)] }).get? b = some o := fun b o e => Heap.get?_push_of_some _ e
      refine wpAny_pyIter_range (s := { s₁ with heap := s₁.heap.push { cls := .type "range", data := .fields #[.int 0 s₁.toks, .int n t, .int 1 (s₁.toks + 1)] }, toks := s₁.toks + 1 + 1 }) (IsRange.new ..) (range_small w₁.1) ?_
      have ok₂ := ok₁.keep kp
      have kp' : ∀ b o, (s₁.heap.push { cls := .type "range", data := .fields #[.int 0 s₁.toks, .int n t, .int 1 (s₁.toks + 1)] }).get? b = some o → ((s₁.heap.push { cls := .type "range", data := .fields #[.int 0 s₁.toks, .int n t, .int 1 (s₁.toks + 1)] }).push { cls := .type "range_iterator", data := .fields #[rawInt 0, rawInt (Builtin.Range.rangeSize 0 n 1), rawInt 1] }).get? b = some o := fun b o e => Heap.get?_push_of_some _ e
      exact ⟨_, _, H₁, φ₁, rfl, w₁.2, trivial, range_walk ao.handled (Heap.get?_push_size _ rfl) (rangeSize_nonneg ..) φ₁, (g₁.trans (.of_keep kp)).none (new_none _), (new_unz ok₂).1, (new_unz ok₂).2, ok₂.keep kp', (g₁.trans (.of_keep kp)).trans (.of_keep kp'), (r₁.trans (Rest.mk s₁ _ _)).trans (Rest.mk _ _ _)⟩
  · exact w₁.elim

/-! ### for -/
def wForGo (ns : List Int) (k : ItK) (ta : WA) (b : WS) : List V → WS
  | [] => fun sl H Q => Q .next sl H
  | v :: r => fun sl H Q => ta v sl H fun sl₁ H₁ => b sl₁ H₁ fun F sl₂ H₂ => match F with | .next => k.inv ns H₂ ∧ wForGo ns k ta b r sl₂ H₂ Q | .ret u => Q (.ret u) sl₂ H₂
def wFor (ns : List Int) (it : WI) (ta : WA) (b : WS) : WS := fun sl H Q => it sl H fun k H₁ => wForGo ns k ta b k.items sl H₁ Q
/-- the target does not look at the iterator -/
def Lot (M : Model) (t : Expr) : Prop := ∀ A E s I l i (y : Value) (R : Unit → Shared → Prop), (s.heap.IsListIter I l i ∨ ∀ T, y ≠ .ref T) → R () s → wpAny M A (letOwnedTupleGo t (.ref I) y) R E s
theorem lot_name {M x p} : Lot M (.Name x p) := fun _ _ _ _ _ _ _ _ _ h => wpAny_pure h
theorem lot_tup {elts k p} : Lot (model c.prog c.w) (.Tuple elts k p) := by
  intro A E s I l i y R h q
  cases y with
  | ref T =>
    rcases h with h | h
    · exact wpAny_letOwnedTupleGo_listiter h q
    · exact absurd rfl (h T)
  | _ => exact wpAny_pure q
theorem ex_for {t iter body pos wi wa wb} (G : Good c) (hi : Ei c d sc ρ iter wi) (ht : At c d sc ρ t wa) (hb : Exs c d sc ρ body wb) (hl : Lot (model c.prog c.w) t) (hs : ∀ env x, foldedSetIterable iter env x = pure x) : Ex c d sc ρ (.For t iter body [] pos) (wFor c.ns wi wa wb) := by
  intro env A E s φ sl H Q eo ao ok vs w
  refine wpAny_For (wpAny_mono (hi env A E s φ sl H _ eo ao ok vs w) (fun x s₁ p₁ => wpAny_mono p₁ (fun it s₂ p₂ => ?_) fun _ _ e => e) fun _ _ e => e) (hs env)
  obtain ⟨I, k, H₂, φ₂, rfl, q, iv, ia, fI, nl, nz, ok₂, g₂, r₂⟩ := p₂
  have vs₂ := vs.grow g₂
  have fr : I ≠ env.locals ∧ (∀ x, env.cells.lookup x ≠ some I) ∧ c.h₀.get? I = none := by
    refine ⟨fun e => ?_, fun x e => ?_, ?_⟩
    · obtain ⟨m, ⟨o, _, _, ho, _⟩, _⟩ := vs.loc
      rw [← e, fI] at ho; cases ho
    · obtain ⟨_, _, _, y, o, ho, _⟩ := vs.offC x I e
      rw [fI] at ho; cases ho
    · cases e : c.h₀.get? I with
      | none => rfl
      | some o => have := ok.base _ _ e; rw [fI] at this; cases this
  obtain ⟨fL, fC, f0⟩ := fr
  refine codeAny_forLoop_any (fun n s' => ∃ i φ' sl' H', i + n = k.items.length ∧ wForGo c.ns k wa wb (k.items.drop i) sl' H' Q ∧ k.inv c.ns H' ∧ ItAt c A φ' s'.heap I i k ∧ I ∉ φ'.l ∧ I ∉ φ'.z ∧ Ok c φ' H' s'.heap ∧ Vars c ρ φ' s'.heap env sl' ∧ GrowS env φ s.heap φ' s'.heap ∧ Rest s s')
    ?_ k.items.length ⟨0, φ₂, sl, H₂, by simp, q, iv, ia, nl, nz, ok₂, vs₂, g₂.toS, r₂⟩
  rintro n s' ⟨i, φ', sl', H', hn, q, iv, ia, nl, nz, ok', vs', g', r'⟩
  cases n with
  | zero =>
    have hi : i = k.items.length := by omega
    refine ItAt.done G ao.handled ok' iv ia hi fun h' t kp => wpAny_execs_nil ?_
    rw [List.drop_eq_nil_of_le (by omega)] at q
    refine ⟨.next, sl', H', φ', q, ok'.same nl nz f0 kp, vs'.same fL fC nz kp, trivial, ?_, r'.trans (Rest.mk s' _ _)⟩
    refine ⟨g'.ext, fun b o e n1 n2 n3 => kp b o (fun z => ?_) (g'.keep b o e n1 n2 n3), fun b o e => ?_⟩
    · rw [z, fI] at e; cases e
    · obtain ⟨o', e'⟩ := g'.live b o e
      exact ⟨o', kp b o' (fun z => by rw [z, fI] at e; cases e) e'⟩
  | succ n =>
    have hlt : i < k.items.length := by omega
    obtain ⟨v, ev⟩ : ∃ v, k.items[i]? = some v := ⟨_, List.getElem?_eq_getElem hlt⟩
    rw [List.drop_eq_getElem_cons hlt] at q
    have ev' : k.items[i] = v := by rw [List.getElem?_eq_getElem hlt] at ev; cases ev; rfl
    rw [ev'] at q
    refine ItAt.item G ok' iv ia ev fun y h' tk ry ia' kp lv lt => ?_
    have ok₃ := ok'.same nl nz f0 kp
    have vs₃ := vs'.same fL fC nz kp
    have g₃ : GrowS env φ s.heap φ' h' := ⟨g'.ext, fun b o e n1 n2 n3 => kp b o (fun z => by rw [z, fI] at e; cases e) (g'.keep b o e n1 n2 n3), fun b o e => by
      obtain ⟨o', e'⟩ := g'.live b o e
      exact ⟨o', kp b o' (fun z => by rw [z, fI] at e; cases e) e'⟩⟩
    have ry₃ : RepV c φ' h' v y := ry.keep fun b o z e => kp b o (fun w => nz (w ▸ z)) e
    have go : wpAny (model c.prog c.w) A (letOwnedTupleGo t (.ref I) y) (fun _ s₁' => s₁' = { s' with heap := h', toks := tk }) (notedBy (model c.prog c.w) A env fun e s' => (match (Except.error e : Result) with | .ok f => PostS c ρ env φ s Q f s' | .error e => cameBackBy (model c.prog c.w) A env E e s')) { s' with heap := h', toks := tk } := by
      rcases lt with ⟨l, it⟩ | nr
      · exact hl _ _ _ _ l _ _ _ (.inl it) rfl
      · exact hl _ _ _ _ 0 0 _ _ (.inr nr) rfl
    refine wpAny_mono go (fun _ s₁' es => ?_) fun _ _ e => e
    subst es
    refine wpAny_mono (ht env A _ _ φ' sl' H' v y _ eo ao ok₃ vs₃ ry₃ q) (fun _ s₄ p₄ => ?_) fun _ _ e => e
    obtain ⟨sl₄, H₄, φ₄, q₄, ok₄, vs₄, g₄, r₄⟩ := p₄
    refine wpAny_mono (hb env A _ s₄ φ₄ sl₄ H₄ _ eo ao ok₄ vs₄ q₄) (fun f s₅ p₅ => ?_) fun _ _ e => e
    obtain ⟨F, sl₅, H₅, φ₅, q₅, ok₅, vs₅, rf, g₅, r₅⟩ := p₅
    have rr : Rest s s₅ := ((r'.trans (Rest.mk s' h' tk)).trans r₄).trans r₅
    cases F with
    | ret u =>
      cases f with
      | ret x => exact ⟨.ret u, sl₅, H₅, φ₅, q₅, ok₅, vs₅, rf, (g₃.trans g₄).trans g₅, rr⟩
      | _ => exact rf.elim
    | next =>
      cases f with
      | next =>
        obtain ⟨o, lo⟩ := lv
        have n4 := g₄.nin nl lo
        have z4 := g₄.ninz nz lo
        have l4 := g₄.keep I o lo nl fL fC
        have n5 := g₅.nin n4 l4
        have z5 := g₅.ninz z4 l4
        have l5 := g₅.keep I o l4 n4 fL fC
        refine ⟨n, Nat.lt_succ_self n, i + 1, φ₅, sl₅, H₅, by omega, q₅.2, q₅.1, ia'.keep (fun o' e' => ?_) (fun k a e => g₅.at (g₄.at e)), n5, z5, ok₅, vs₅, (g₃.trans g₄).trans g₅, rr⟩
        rw [lo] at e'; cases e'; exact l5
      | _ => exact rf.elim
end
end Mine

namespace Mine
section
variable {c : Cx} {d : Nat} {sc : Scope} {ρ : List Str}

/-! ### a slot is stored -/
def othersOf (h : Heap) (L x : Addr) : List (Addr × Obj) := (List.range h.objs.size).filterMap fun b => if b = L ∨ b = x then none else (h.get? b).map fun o => (b, o)
theorem mem_others {h : Heap} {L x b : Addr} {o : Obj} : (b, o) ∈ othersOf h L x ↔ h.get? b = some o ∧ b ≠ L ∧ b ≠ x := by
  unfold othersOf
  rw [List.mem_filterMap]
  constructor
  · rintro ⟨b', _, e⟩
    split at e
    · cases e
    · rename_i n
      obtain ⟨o', h1, h2⟩ := Option.map_eq_some_iff.mp e
      cases h2
      exact ⟨h1, fun q => n (.inl q), fun q => n (.inr q)⟩
  · rintro ⟨e, n1, n2⟩
    exact ⟨b, List.mem_range.mpr (Heap.lt_size e), by rw [if_neg (by rintro (q | q); exact n1 q; exact n2 q), e]; rfl⟩
theorem set_slot_ok {A E} {s : Shared} {K : Frag} {C p x L : Addr} {i : Nat} {name : Str} {v : Value} {ox od : Obj} {m : Str → Option Value} {R : Unit → Shared → Prop} (X : K.In s.heap) (I : InstAt s.heap x ox C (some od))
    (hs : findIn K (.ref C) "__setattr__" = some (some (.builtin "object.__setattr__"))) (hp : plainOver K C = true) (ht : takerIn K C name = some (some (.ref p))) (hT : typeIn K (.ref p) = some (.type "member_descriptor")) (hi : slotIn K p C = some i) (hz : i < 1000)
    (hn : s.heap.Ns L m) (hx : x ≠ L) (hf : ox.isFreed = false)
    (h : ∀ h', h'.Ns L m → (∀ b o, b ≠ x → b ≠ L → s.heap.get? b = some o → h'.get? b = some o) → h'.get? x = some { ox with slots := (ox.slots ++ Array.replicate (i + 1 - ox.slots.size) none).setIfInBounds i (some v) } → R () { s with heap := h', toks := s.toks + 1 }) :
    wpAny (model c.prog c.w) A (setAttr (.ref x) name v) R E s := by
  have F : Fr { objs := #[] } L s.heap m := ⟨hn, fun b o e => by simp [Heap.get?] at e, Nat.zero_le _⟩
  have N : News { objs := #[] } L s.heap ([] ++ (x, ox) :: othersOf s.heap L x) := by
    intro q hq
    rcases List.mem_cons.mp hq with rfl | hq
    · exact ⟨I.at_, hx, by simp [Heap.get?]⟩
    · obtain ⟨h1, h2, h3⟩ := mem_others.mp hq
      exact ⟨h1, h2, by simp [Heap.get?]⟩
  refine set_plain X I hs (osa_descr (s := { s with toks := s.toks + 1 }) KF.slot_mset X I hp ht hT (slot_set (s := { s with toks := s.toks + 1 }) F N X I hi hz (fun _ h => nomatch h) (fun q hq => (mem_others.mp hq).2.2) rfl ?_ fun h' F' N' => ?_))
  · obtain ⟨a, b, dt, sl⟩ := ox
    cases dt <;> first | rfl | exact hf
  · exact h h' F'.ns (fun b o n1 n2 e => (N' (b, o) (.tail _ (mem_others.mpr ⟨e, n2, n1⟩))).1) (N' (x, _) (.head _)).1
/-- a tracked object is turned, and the frame's own object may be another one that says the same -/
theorem put_in {φ H h h' env sl lo o m} {j : Nat} {a : Addr} (ok : Ok c φ H h) (vs : Vars c ρ φ h env sl) (hj : φ.l[j]? = some a) (r : RepO c φ h lo o) (hn' : h'.Ns env.locals m) (kp : ∀ b o, b ≠ a → b ≠ env.locals → h.get? b = some o → h'.get? b = some o) (e : h'.get? a = some o)
    (hm : h.Ns env.locals m := by assumption) : Ok c φ (H.set j lo) h' ∧ Vars c ρ φ h' env sl ∧ GrowS env φ h φ h' := by
  have ma : a ∈ φ.l := List.mem_of_getElem? hj
  have kz : ∀ b o, b ∈ φ.z → h.get? b = some o → h'.get? b = some o := fun b o z e => kp b o (fun q => ok.dj b z (q ▸ ma)) (fun q => vs.offZ (q ▸ z)) e
  refine ⟨⟨fun b o e => kp b o (fun q => ok.off b o e (q ▸ ma)) (fun q => by rw [q, vs.newL] at e; cases e) (ok.base b o e), ok.off, by simp [ok.len], ok.nodup, fun i x lo' e1 e2 => ?_, ok.dj, fun b m => by obtain ⟨o, e⟩ := ok.zl b m; exact ⟨o, kz b o m e⟩⟩, ?_, ?_⟩
  · by_cases q : i = j
    · subst q
      rw [e1] at hj
      cases hj
      rw [List.getElem?_set_self (by rw [← ok.len]; exact (List.getElem?_eq_some_iff.mp e1).1)] at e2
      cases e2
      exact ⟨o, e, r.keep kz⟩
    · rw [List.getElem?_set_ne (Ne.symm q)] at e2
      obtain ⟨o', h1, h2⟩ := ok.objs i x lo' e1 e2
      refine ⟨o', kp _ _ (fun z => q ?_) (fun z => vs.offL (z ▸ List.mem_of_getElem? e1)) h1, h2.keep kz⟩
      subst z
      obtain ⟨l1, e1'⟩ := List.getElem?_eq_some_iff.mp e1
      obtain ⟨l2, ek'⟩ := List.getElem?_eq_some_iff.mp hj
      exact (List.getElem_inj (h₀ := l1) (h₁ := l2) ok.nodup).mp (e1'.trans ek'.symm)
  · obtain ⟨m₀, hn₀, hm₀⟩ := vs.loc
    have em : m₀ = m := by
      obtain ⟨o1, es1, ep1, h1, d1, _, f1⟩ := hn₀
      obtain ⟨o2, es2, ep2, h2, d2, _, f2⟩ := hm
      rw [h1] at h2; cases h2
      rw [d1] at d2; cases d2
      funext x; rw [← f1 x, ← f2 x]
    subst em
    have kc : ∀ x b, env.cells.lookup x = some b → ∀ o, h.get? b = some o → h'.get? b = some o := fun x b ex o eb => by
      obtain ⟨n, z, n0, y, o', ho', hd⟩ := vs.offC x b ex
      refine kp b o (fun q => n (q ▸ ma)) (fun q => ?_) eb
      obtain ⟨o2, es, ep, ho2, hd2, _⟩ := hn₀
      rw [q, ho2] at ho'; cases ho'; rw [hd] at hd2; cases hd2
    refine ⟨vs.nd, vs.len, vs.offL, vs.offZ, vs.newL, ⟨m₀, hn', fun i x w h1 h2 h3 => ?_⟩, fun x b ex => ?_, vs.inj, fun i x w h1 h2 h3 => ?_, vs.has⟩
    · obtain ⟨y, h4, h5⟩ := hm₀ i x w h1 h2 h3
      exact ⟨y, h4, h5.keep kz⟩
    · obtain ⟨n, z, n0, y, o', ho', hd⟩ := vs.offC x b ex
      exact ⟨n, z, n0, y, o', kc x b ex o' ho', hd⟩
    · obtain ⟨b, y, h4, ⟨o', ho', hd⟩, h6⟩ := vs.cel i x w h1 h2 h3
      exact ⟨b, y, h4, ⟨o', kc x b h4 o' ho', hd⟩, h6.keep kz⟩
  · refine ⟨⟨[], [], by simp, by simp, by simp, by simp⟩, fun b o e n1 n2 _ => kp b o (fun q => n1 (q ▸ ma)) n2 e, fun b o' e' => ?_⟩
    by_cases q : b = a
    · exact ⟨o, q ▸ e⟩
    · by_cases q2 : b = env.locals
      · obtain ⟨o2, _, _, ho2, _⟩ := hn'
        exact ⟨o2, q2 ▸ ho2⟩
      · exact ⟨o', kp b o' q q2 e'⟩
def setF (fs : List (Option V)) (i : Nat) (v : V) : List (Option V) := (fs ++ List.replicate (i + 1 - fs.length) none).set i (some v)
theorem setF_join {fs : List (Option V)} {i : Nat} {v : V} (j : Nat) : ((setF fs i v)[j]?).join = if j = i then some v else (fs[j]?).join := by
  unfold setF
  by_cases q : j = i
  · subst q
    rw [List.getElem?_set_self (by simp; omega)]
    simp
  · rw [List.getElem?_set_ne (Ne.symm q), if_neg q]
    by_cases l : j < fs.length
    · rw [List.getElem?_append_left l]
    · rw [List.getElem?_append_right (Nat.not_lt.mp l), List.getElem?_replicate, List.getElem?_eq_none (Nat.not_lt.mp l)]
      split <;> rfl
theorem setA_join {xs : Array (Option Value)} {i : Nat} {v : Value} (j : Nat) : (((xs ++ Array.replicate (i + 1 - xs.size) none).setIfInBounds i (some v))[j]?).join = if j = i then some v else (xs[j]?).join := by
  by_cases q : j = i
  · subst q
    rw [Array.getElem?_setIfInBounds_self_of_lt (by simp; omega)]
    simp
  · rw [Array.getElem?_setIfInBounds_ne (Ne.symm q), if_neg q]
    by_cases l : j < xs.size
    · rw [Array.getElem?_append_left l]
    · rw [Array.getElem?_append_right (Nat.not_lt.mp l), Array.getElem?_replicate, Array.getElem?_eq_none (Nat.not_lt.mp l)]
      split <;> rfl
def wSetAttr (k i : Nat) (a b : WE) : WS := fun sl H Q => b sl H fun v H₁ => a sl H₁ fun o H₂ => match o with
  | .loc j => (match H₂[j]? with | some (.inst k' fs) => k' = k ∧ Q .next sl (H₂.set j (.inst k (setF fs i v))) | _ => False)
  | _ => False
theorem ex_setattr {o name ap e pos k i p a b} (G : Good c) (ho : Ev c d sc ρ o a) (he : Ev c d sc ρ e b)
    (hs : findIn c.K (.ref (c.cls k)) "__setattr__" = some (some (.builtin "object.__setattr__"))) (hp : plainOver c.K (c.cls k) = true) (ht : takerIn c.K (c.cls k) name = some (some (.ref p))) (hT : typeIn c.K (.ref p) = some (.type "member_descriptor")) (hi : slotIn c.K p (c.cls k) = some i) (hz : i < 1000)
    (hw : ∀ env, swapsWith e (some (.Attribute o name ap)) pos.line env = pure false) : Ex c d sc ρ (.Assign [.Attribute o name ap] e pos) (wSetAttr k i a b) := by
  intro env A E s φ sl H Q eo ao ok vs w
  refine plainObj_wpAny_Assign_Attribute (wpAny_mono (he env A E s φ sl H _ eo ao ok vs w) (fun y s₁ p₁ => ?_) fun _ _ e => e) (hw env)
  obtain ⟨v, H₁, φ₁, w₁, ok₁, rv, g₁, r₁⟩ := p₁
  refine wpAny_mono (ho env A E s₁ φ₁ sl H₁ _ eo ao ok₁ (vs.grow g₁) w₁) (fun x s₂ p₂ => ?_) fun _ _ e => e
  obtain ⟨u, H₂, φ₂, w₂, ok₂, ru, g₂, r₂⟩ := p₂
  have vs₂ := vs.grow (g₁.trans g₂)
  split at w₂
  · rename_i j
    split at w₂
    · rename_i k' fs ej
      obtain ⟨rfl, w₂⟩ := w₂
      cases ru with
      | loc hj =>
        rename_i xa
        obtain ⟨oo, h1, h2⟩ := ok₂.objs j xa _ hj ej
        cases h2 with
        | inst r z n yz eb =>
          rename_i xs b
          have mj : xa ∈ φ₂.l := List.mem_of_getElem? hj
          have nL : xa ≠ env.locals := fun q => vs₂.offL (q ▸ mj)
          obtain ⟨m, hn, hm⟩ := id vs₂.loc
          refine set_slot_ok (ok₂.X G) ⟨h1, rfl, rfl, eb⟩ hs hp ht hT hi hz hn nL rfl fun h' hn' kp hx' => ?_
          have rv₂ := rv.grow g₂
          have ro : RepO c φ₂ s₂.heap (.inst k' (setF fs i v)) { cls := .ref (c.cls k'), dict := some b, data := .plain, slots := (xs ++ Array.replicate (i + 1 - xs.size) none).setIfInBounds i (some y) } := by
            refine .inst (fun t u e => ?_) (fun t e => ?_) n ‹_› eb
            · rw [setF_join] at e
              rw [setA_join]
              split at e
              · rename_i q; cases e; exact ⟨_, if_pos q, rv₂⟩
              · rename_i q; obtain ⟨x', h3, h4⟩ := r t u e
                exact ⟨x', by rw [if_neg q]; exact h3, h4⟩
            · rw [setF_join] at e
              rw [setA_join]
              split at e
              · cases e
              · rename_i q; rw [if_neg q]; exact z t e
          obtain ⟨ok', vs', g'⟩ := put_in ok₂ vs₂ hj ro hn' kp hx'
          exact ⟨.next, sl, _, φ₂, w₂, ok', vs', trivial, (g₁.trans g₂).toS.trans g', (r₁.trans r₂).trans (Rest.mk s₂ h' _)⟩
    · exact w₂.elim
  · exact w₂.elim
end
end Mine

namespace Mine
section
variable {c : Cx} {d : Nat} {sc : Scope} {ρ : List Str}

/-! ### a def of the text -/
def FnC (c : Cx) (d : Nat) (f : Value) (W : WF) : Prop :=
  ∀ A s φ H args vals Q (R : Result → Shared → Prop), AOK d A → Ok c φ H s.heap → RepVs c φ s.heap args vals → W args H Q → (∀ x s', PostE c φ s Q x s' → R (.ok (.ret x)) s') → codeAny (model c.prog c.w) A (.call f ⟨vals, []⟩) R s
theorem FnC.ok {f W} (h : FnC c d f W) : FnOK c d f W := fun A _ s φ H args vals Q ao ok r w => wpAny_call (h A s φ H args vals Q _ ao ok r w fun _ _ p => p)
theorem FnC.weaken {f W W'} (h : FnC c d f W) (k : ∀ args H Q, W' args H Q → W args H Q) : FnC c d f W' := fun A s φ H args vals Q R ao ok r w => h A s φ H args vals Q R ao ok r (k _ _ _ w)
def retV : Fl → V
  | .ret v => v
  | .next => .none
def fnW (n k : Nat) (W : WS) : WF := fun args H Q => args.length = n ∧ W (args.map some ++ List.replicate k none) H fun F _ H' => Q (retV F) H'
theorem bindL_not {kd : Str → Option NameKind} {x : Str} : ∀ (bs : List (Str × Value)) (m : Str → Option Value), x ∉ bs.map (·.1) → bindL kd bs m x = m x
  | [], _, _ => rfl
  | (n, v) :: r, m, h => by
    rw [List.map_cons, List.mem_cons] at h
    unfold bindL
    rw [bindL_not r _ fun q => h (.inr q)]
    split
    · exact if_neg fun q => h (.inl q)
    · rfl
theorem bindC_not {kd : Str → Option NameKind} {x : Str} : ∀ (bs : List (Str × Value)) (m : Str → Option Value), x ∉ bs.map (·.1) → bindC kd bs m x = m x
  | [], _, _ => rfl
  | (n, v) :: r, m, h => by
    rw [List.map_cons, List.mem_cons] at h
    unfold bindC
    rw [bindC_not r _ fun q => h (.inr q)]
    split
    · rfl
    · exact if_neg fun q => h (.inl q)
theorem bindL_get {kd : Str → Option NameKind} {x : Str} {v : Value} : ∀ (bs : List (Str × Value)) (m : Str → Option Value), (bs.map (·.1)).Nodup → (x, v) ∈ bs → kd x = some .local → bindL kd bs m x = some v
  | (n, w) :: r, m, nd, h, hk => by
    rw [List.map_cons, List.nodup_cons] at nd
    unfold bindL
    rcases List.mem_cons.mp h with e | h
    · cases e
      rw [bindL_not r _ nd.1, if_pos hk, if_pos rfl]
    · exact bindL_get r _ nd.2 h hk
theorem bindC_get {kd : Str → Option NameKind} {x : Str} {v : Value} : ∀ (bs : List (Str × Value)) (m : Str → Option Value), (bs.map (·.1)).Nodup → (x, v) ∈ bs → kd x = some .cell → bindC kd bs m x = some v
  | (n, w) :: r, m, nd, h, hk => by
    rw [List.map_cons, List.nodup_cons] at nd
    unfold bindC
    rcases List.mem_cons.mp h with e | h
    · cases e
      rw [bindC_not r _ nd.1, if_neg (by rw [hk]; decide), if_pos rfl]
    · exact bindC_get r _ nd.2 h hk
theorem Ok.fresh {φ H h a} (ok : Ok c φ H h) (e : h.get? a = none) : a ∉ φ.l ∧ a ∉ φ.z ∧ c.h₀.get? a = none := by
  refine ⟨fun m => ?_, fun m => ?_, ?_⟩
  · obtain ⟨o, e'⟩ := ok.live m; rw [e] at e'; cases e'
  · obtain ⟨o, e'⟩ := ok.zl _ m; rw [e] at e'; cases e'
  · cases q : c.h₀.get? a with
    | none => rfl
    | some o => have := ok.base _ _ q; rw [e] at this; cases this
theorem fn_ok {f : Addr} {fo : Obj} {fd : FuncData} {body : List Stmt} {ps rest : List Str} {W : WS} (G : Good c) (ho : c.h₀.get? f = some fo) (hd : fo.data = .func fd) (hcd : c.h₀.CodeRec fd.code fd.qualname) (hbody : fd.body = .stmts body) (hclo : fd.closure = [])
    (hbind : ∀ vals : List Value, vals.length = ps.length → bindArgs fd ⟨vals, []⟩ = pure (ps.zip vals)) (hg : fd.globals = mainGlobals) (hbi : fd.builtins = builtinsNs) (hco : fd.scope.isCoroutine = false) (hgen : fd.scope.isGenerator = false) (hk : fd.scope.kind = .function)
    (hnd : (ps ++ rest).Nodup) (hkd : ∀ x ∈ ps ++ rest, fd.scope.names.lookup x = some .local ∨ fd.scope.names.lookup x = some .cell) (hb : Exs c d fd.scope (ps ++ rest) body W) : FnC c (d + 1) (.ref f) (fnW ps.length rest.length W) := by
  intro A s φ H args vals Q R ao ok r w k
  obtain ⟨hn, w⟩ := w
  have hv : vals.length = ps.length := by rw [← r.length, hn]
  have kz : (ps.zip vals).map (·.1) = ps := List.map_fst_zip (by omega)
  have pn : ps.Nodup := (List.nodup_append.mp hnd).1
  refine codeAny_call_cells (by have := ao.depth; show A.depth < 1000; omega) (ok.base _ _ ho) hd (G.NL.keeps ok.base) (hcd.keeps ok.base) hbody (hbind vals hv) hclo (fun x hx => ?_) (fun s₁ x => ?_) hco hgen hk
  · have hm : x.1 ∈ ps := by rw [← kz]; exact List.mem_map_of_mem hx
    rcases hkd x.1 (List.mem_append_left _ hm) with h | h
    · exact .inl h
    · exact .inr ⟨h, cellsFrom_some _ _ _ (.inl h)⟩
  · have kp := x.toInCall.keep
    have eL : (callEnvC fd s.heap.objs.size f).locals = s.heap.objs.size := rfl
    have eK : ∀ y, (callEnvC fd s.heap.objs.size f).kindOf y = fd.scope.names.lookup y := fun _ => rfl
    have eC : (callEnvC fd s.heap.objs.size f).cells = cellsFrom (s.heap.objs.size + 1) fd.scope.names [] := rfl
    have nb : ∀ a, s.heap.get? a = none → a ∉ φ.l ∧ a ∉ φ.z ∧ c.h₀.get? a = none := fun a e => ok.fresh e
    have fc : ∀ y a, (callEnvC fd s.heap.objs.size f).cells.lookup y = some a → s.heap.get? a = none := fun y a e => by
      have := x.above y a (PySem.mem_of_lookup e)
      exact Heap.get?_none_of_le (Nat.le_of_lt this)
    have ok₁ : Ok c φ H s₁.heap := ok.keep kp
    have g₁ : Grow φ s.heap φ s₁.heap := .of_keep kp
    have r₁ := r.grow g₁
    have at_ : ∀ (i : Nat) y v, (ps ++ rest)[i]? = some y → (args.map some ++ List.replicate rest.length none)[i]? = some (some v) → ∃ z, (y, z) ∈ ps.zip vals ∧ RepV c φ s₁.heap v z := fun i y v e1 e2 => by
      by_cases hi : i < ps.length
      · rw [List.getElem?_append_left hi] at e1
        rw [List.getElem?_append_left (by simp [hn]; exact hi), List.getElem?_map] at e2
        obtain ⟨u, h1, h2⟩ := Option.map_eq_some_iff.mp e2
        cases h2
        obtain ⟨z, h3, h4⟩ := r₁.get h1
        refine ⟨z, ?_, h4⟩
        apply List.mem_of_getElem? (i := i)
        rw [List.getElem?_zip_eq_some]
        exact ⟨e1, h3⟩
      · rw [List.getElem?_append_right (by simp [hn]; omega), List.getElem?_replicate] at e2
        split at e2 <;> cases e2
    have vs : Vars c (ps ++ rest) φ s₁.heap (callEnvC fd s.heap.objs.size f) (args.map some ++ List.replicate rest.length none) := by
      refine ⟨hnd, by simp [hn], (nb _ (new_none _)).1, (nb _ (new_none _)).2.1, (nb _ (new_none _)).2.2, ⟨_, x.toInCall.ns, fun i y v e1 e2 e3 => ?_⟩, fun y a e => ?_, fun y z a e1 e2 => PySem.name_of_addr x.apart (PySem.mem_of_lookup e1) (PySem.mem_of_lookup e2), fun i y v e1 e2 e3 => ?_, fun i y e1 e2 => ?_⟩
      · obtain ⟨z, h1, h2⟩ := at_ i y v e1 e3
        exact ⟨z, bindL_get _ _ (by rw [kz]; exact pn) h1 e2, h2⟩
      · have e0 := fc y a e
        exact ⟨(nb a e0).1, (nb a e0).2.1, (nb a e0).2.2, _, x.cell y a e⟩
      · obtain ⟨z, h1, h2⟩ := at_ i y v e1 e3
        have ey : (callEnvC fd s.heap.objs.size f).kindOf y = some .cell := by
          rcases e2 with e2 | e2
          · exact e2
          · rcases hkd y (List.mem_of_getElem? e1) with q | q <;> (rw [eK, q] at e2; cases e2)
        obtain ⟨a, ea⟩ := Option.isSome_iff_exists.mp (cellsFrom_some (x := y) fd.scope.names (s.heap.objs.size + 1) [] (.inl ey))
        refine ⟨a, z, ea, ?_, h2⟩
        have := x.cell y a ea
        rw [bindC_get _ _ (by rw [kz]; exact pn) h1 ey] at this
        exact this
      · exact Option.isSome_iff_exists.mp (cellsFrom_some (x := y) fd.scope.names (s.heap.objs.size + 1) [] (.inl e2))
    refine wpAny_mono (hb _ (A.deeper (callEnvC fd s.heap.objs.size f)) _ s₁ φ _ H _ ⟨rfl, hg, hbi⟩ ⟨ao.handled, by have := ao.depth; show A.depth + 1 + d < 900; omega, by have := ao.units; show A.units + 3 + 20 * d < 9000; omega⟩ ok₁ vs w) (fun fl s' p => ?_) fun _ _ e => e
    obtain ⟨F, sl', H', φ', q, ok', vs', rf, g', rs'⟩ := p
    have g : Grow φ s.heap φ' s'.heap := by
      refine ⟨?_, fun b o e n => g'.keep b o (kp b o e) n (fun z => ?_) (fun y z => ?_), fun b o e => g'.live b o (kp b o e)⟩
      · obtain ⟨δ, ζ, e1, e2, h1, h2⟩ := g'.ext
        exact ⟨δ, ζ, e1, e2, fun a m => g₁.none (h1 a m), fun a m => g₁.none (h2 a m)⟩
      · rw [z, eL, new_none] at e; cases e
      · rw [fc y b z] at e; cases e
    have rs : Rest s s' := by
      obtain ⟨h1, t1, e1, _⟩ := x.done
      exact Rest.trans (b := s₁) ⟨h1, t1, e1⟩ rs'
    cases F with
    | next =>
      cases fl with
      | next => exact k _ _ ⟨.none, H', φ', q, ok', .none, g, rs⟩
      | _ => exact rf.elim
    | ret v =>
      cases fl with
      | ret y => exact k _ _ ⟨v, H', φ', q, ok', rf, g, rs⟩
      | _ => exact rf.elim

/-! ### classes -/
theorem Ok.inst0 {φ H h k} (ok : Ok c φ H h) : Ok c ⟨φ.l ++ [h.objs.size + 1], φ.z ++ [h.objs.size]⟩ (H ++ [.inst k []]) ((h.push emptyDict).push (instObj (c.cls k) h.objs.size)) ∧
    Grow φ h ⟨φ.l ++ [h.objs.size + 1], φ.z ++ [h.objs.size]⟩ ((h.push emptyDict).push (instObj (c.cls k) h.objs.size)) := by
  obtain ⟨ok₁, g₁⟩ := ok.freeze (new_none h) (h' := h.push emptyDict) (fun b o e => Heap.get?_push_of_some _ e) (Heap.get?_push_size _ rfl)
  have sz : (h.push emptyDict).objs.size = h.objs.size + 1 := Heap.size_push ..
  have n1 : (h.push emptyDict).get? (h.objs.size + 1) = none := by rw [← sz]; exact new_none _
  obtain ⟨ok₂, g₂⟩ := ok₁.alloc (a := h.objs.size + 1) (lo := .inst k []) (o := instObj (c.cls k) h.objs.size) n1 (h' := (h.push emptyDict).push (instObj (c.cls k) h.objs.size)) (fun b o e => Heap.get?_push_of_some _ e) (by rw [← sz]; exact Heap.get?_push_size _ rfl)
    (.inst (fun i v e => by simp at e) (fun i _ => by simp) (new_unz ok).1 (List.mem_append_right _ (.head _)) (Heap.get?_push_size _ rfl))
  exact ⟨ok₂, g₁.trans g₂⟩
def mkW (k : Nat) (W : WF) : WF := fun args H Q => W (.loc H.length :: args) (H ++ [.inst k []]) fun r H' => r = .none ∧ Q (.loc H.length) H'
/-- an instance that its own __init__ fills -/
theorem make_ok {k fI W} (G : Good c) (hm : makesIn c.K (c.cls k) = true) (hi : findIn c.K (.ref (c.cls k)) "__init__" = some (some (.ref fI))) (hf : typeIn c.K (.ref fI) = some (.type "function")) (h : FnC c d (.ref fI) W) : FnC c (d + 1) (.ref (c.cls k)) (mkW k W) := by
  intro A s φ H args vals Q R ao ok r w K
  have X := ok.X G
  obtain ⟨hh, gg, dd, t, os⟩ := s
  obtain ⟨ok₂, g₂⟩ := ok.inst0 (k := k)
  refine make_core (makes_of X hm) (looks_findIn X hi) (fun self => bind_fn X self hf) (.inl rfl) ?_
  refine h _ ⟨(hh.push emptyDict).push (instObj (c.cls k) hh.objs.size), gg, dd, t, os⟩ _ _ _ _ _ _ ⟨ao.handled, ?_, ?_⟩ ok₂ (.cons (.loc ?_) (r.grow g₂)) w fun x s' p => ?_
  · have := ao.depth; show A.depth + 1 + d < 900; omega
  · have := ao.units; show A.units + 1 + 20 * d < 9000; omega
  · rw [← ok.len]; simp
  · obtain ⟨v, H', φ', ⟨rfl, q⟩, ok', rv, g', rs'⟩ := p
    cases rv
    refine ⟨rfl, K _ _ ⟨.loc H.length, H', φ', q, ok', .loc (g'.at (by rw [← ok.len]; simp)), g₂.trans g', ?_⟩⟩
    obtain ⟨h1, t1, rfl⟩ := rs'
    exact ⟨h1, t1, rfl⟩
/-- an instance of a class that has no __init__ of its own -/
theorem make_ok0 {k} (G : Good c) (hm : makesIn c.K (c.cls k) = true) (hi : findIn c.K (.ref (c.cls k)) "__init__" = some (some (.builtin "object.__init__"))) : FnC c d (.ref (c.cls k)) (fun args H Q => args = [] ∧ Q (.loc H.length) (H ++ [.inst k []])) := by
  intro A s φ H args vals Q R ao ok r w K
  obtain ⟨rfl, q⟩ := w
  cases r
  obtain ⟨hh, gg, dd, t, os⟩ := s
  obtain ⟨ok₂, g₂⟩ := ok.inst0 (k := k)
  have X := ok.X G
  have Y := makes_of (M := model c.prog c.w) X hm
  refine make_core Y (looks_findIn X hi) (fun self => Looks.of_pure (oi_bind self)) (.inr ⟨rfl, rfl⟩) ?_
  have sz : (hh.push emptyDict).objs.size = hh.objs.size + 1 := Heap.size_push ..
  have hx : ((hh.push emptyDict).push (instObj (c.cls k) hh.objs.size)).get? (hh.objs.size + 1) = some (instObj (c.cls k) hh.objs.size) := by rw [← sz]; exact Heap.get?_push_size _ rfl
  have t1 : Looks (model c.prog c.w) ((hh.push emptyDict).push (instObj (c.cls k) hh.objs.size)) (typeOf (.ref (hh.objs.size + 1))) (.ref (c.cls k)) := (Looks.ld hx).andThen .now
  have t2 : Looks (model c.prog c.w) ((hh.push emptyDict).push (instObj (c.cls k) hh.objs.size)) (isInstance (.ref (hh.objs.size + 1)) (.type "object")) true := t1.andThen (Y.top.keeps fun b o e => Heap.get?_push_of_some _ (Heap.get?_push_of_some _ e))
  refine codeAny_call_builtin oi_plain entry_oi (@check_slot (model c.prog c.w) _ _ _ "object.__init__" "object" "__init__" (.ref (hh.objs.size + 1)) [] [] _ oi_kind oi_split t2 (oi_args (.ref (hh.objs.size + 1))) ?_)
  rw [oi_run]
  exact wpAny_pure (And.intro rfl (K _ _ ⟨.loc H.length, _, _, q, ok₂, .loc (by rw [← ok.len]; simp), g₂, _, _, rfl⟩))

/-! ### an instance that nothing turns any more -/
mutual
inductive Bel (n : Nat) : V → Prop
  | none : Bel n .none
  | bool {b} : Bel n (.bool b)
  | int {i} : Bel n (.int i)
  | str {s} : Bel n (.str s)
  | loc {k} : k < n → Bel n (.loc k)
  | tup {vs} : Bels n vs → Bel n (.tup vs)
  | obj {k fs} : Bels n fs → Bel n (.obj k fs)
  | glob {a} : Bel n (.glob a)
  | script : Bel n .script
inductive Bels (n : Nat) : List V → Prop
  | nil : Bels n []
  | cons {v vs} : Bel n v → Bels n vs → Bels n (v :: vs)
end
mutual
theorem RepV.bel {φ h} : ∀ {v x}, RepV c φ h v x → Bel φ.l.length v
  | _, _, .none => .none
  | _, _, .bool => .bool
  | _, _, .int => .int
  | _, _, .str => .str
  | _, _, .loc e => .loc (List.getElem?_eq_some_iff.mp e).1
  | _, _, .tup _ _ _ _ r => .tup (RepVs.bel r)
  | _, _, .obj _ _ _ _ _ _ _ _ r => .obj (RepVs.bel r)
  | _, _, .glob _ => .glob
  | _, _, .script => .script
theorem RepVs.bel {φ h} : ∀ {vs xs}, RepVs c φ h vs xs → Bels φ.l.length vs
  | _, _, .nil => .nil
  | _, _, .cons r rs => .cons (RepV.bel r) (RepVs.bel rs)
end
theorem Bels.mem {n} : ∀ {vs}, Bels n vs → ∀ v ∈ vs, Bel n v
  | _, .cons h _, _, .head _ => h
  | _, .cons _ t, _, .tail _ m => Bels.mem t _ m
mutual
theorem RepV.unt {φ h} {l : List Addr} {x : Addr} (e : φ.l = l ++ [x]) : ∀ {v y}, RepV c φ h v y → Bel l.length v → RepV c ⟨l, φ.z ++ [x]⟩ h v y
  | _, _, .none, _ => .none
  | _, _, .bool, _ => .bool
  | _, _, .int, _ => .int
  | _, _, .str, _ => .str
  | _, _, .loc e', .loc hk => .loc (by rw [e, List.getElem?_append_left hk] at e'; exact e')
  | _, _, .tup n z n0 e' r, .tup b => .tup (fun m => n (by rw [e]; exact List.mem_append_left _ m)) (List.mem_append_left _ z) n0 e' (RepVs.unt e r b)
  | _, _, .obj n z m y n0 e1 es e2 r, .obj b => .obj (fun q => n (by rw [e]; exact List.mem_append_left _ q)) (List.mem_append_left _ z) (fun q => m (by rw [e]; exact List.mem_append_left _ q)) (List.mem_append_left _ y) n0 e1 es e2 (RepVs.unt e r b)
  | _, _, .glob e', _ => .glob e'
  | _, _, .script, _ => .script
theorem RepVs.unt {φ h} {l : List Addr} {x : Addr} (e : φ.l = l ++ [x]) : ∀ {vs ys}, RepVs c φ h vs ys → Bels l.length vs → RepVs c ⟨l, φ.z ++ [x]⟩ h vs ys
  | _, _, .nil, _ => .nil
  | _, _, .cons r rs, .cons b bs => .cons (RepV.unt e r b) (RepVs.unt e rs bs)
end
theorem RepO.unt {φ h φ₀ h₀' lo o o₀} {x : Addr} (e : φ.l = φ₀.l ++ [x]) (r : RepO c φ h lo o) (r₀ : RepO c φ₀ h₀' lo o₀) : RepO c ⟨φ₀.l, φ.z ++ [x]⟩ h lo o := by
  cases r with
  | list r => cases r₀ with | list r₀ => exact .list (r.unt e r₀.bel)
  | inst r z n y eb =>
    cases r₀ with
    | inst r₀ =>
      refine .inst (fun i v ev => ?_) z (fun m => n (by rw [e]; exact List.mem_append_left _ m)) (List.mem_append_left _ y) eb
      obtain ⟨x', h1, h2⟩ := r i v ev
      obtain ⟨_, _, h3⟩ := r₀ i v ev
      exact ⟨x', h1, h2.unt e h3.bel⟩
def frW (k : Nat) (W : WF) : WF := fun args H Q => W (.loc H.length :: args) (H ++ [.inst k []]) fun r H' => r = .none ∧ ∃ fs, (∀ v ∈ fs, v ∈ args) ∧ H' = H ++ [.inst k (fs.map some)] ∧ Q (.obj k fs) H
theorem slots_of {φ h} {fs : List V} {sl : Array (Option Value)} (r : ∀ (i : Nat) v, ((fs.map some)[i]?).join = some v → ∃ x, (sl[i]?).join = some x ∧ RepV c φ h v x) (z : ∀ i : Nat, ((fs.map some)[i]?).join = none → (sl[i]?).join = none) :
    ∃ xs : List Value, (∀ i : Nat, (sl[i]?).join = xs[i]?) ∧ RepVs c φ h fs xs := by
  have hj : ∀ (fs : List V) (i : Nat), ((fs.map some)[i]?).join = fs[i]? := fun fs i => by rw [List.getElem?_map]; cases fs[i]? <;> rfl
  have key : ∀ (fs : List V) (k : Nat), (∀ (i : Nat) v, fs[i]? = some v → ∃ x, (sl[k + i]?).join = some x ∧ RepV c φ h v x) → ∃ xs : List Value, (∀ i : Nat, i < fs.length → (sl[k + i]?).join = xs[i]?) ∧ RepVs c φ h fs xs := by
    intro fs
    induction fs with
    | nil => exact fun k _ => ⟨[], fun i hi => by simp at hi, .nil⟩
    | cons f fs ih =>
      intro k hf
      obtain ⟨x, h1, h2⟩ := hf 0 f rfl
      obtain ⟨xs, h3, h4⟩ := ih (k + 1) fun i v e => by
        obtain ⟨x, a, b⟩ := hf (i + 1) v (by simpa using e)
        exact ⟨x, by rw [show k + 1 + i = k + (i + 1) by omega]; exact a, b⟩
      refine ⟨x :: xs, fun i hi => ?_, .cons h2 h4⟩
      cases i with
      | zero => simpa using h1
      | succ i => rw [show k + (i + 1) = k + 1 + i by omega]; simpa using h3 i (by simpa using hi)
  obtain ⟨xs, h1, h2⟩ := key fs 0 fun i v e => by
    obtain ⟨x, a, b⟩ := r i v (by rw [hj]; exact e)
    exact ⟨x, by simpa using a, b⟩
  refine ⟨xs, fun i => ?_, h2⟩
  by_cases hi : i < fs.length
  · simpa using h1 i hi
  · rw [z i (by rw [hj]; exact List.getElem?_eq_none (Nat.not_lt.mp hi)), List.getElem?_eq_none (by rw [← h2.length]; exact Nat.not_lt.mp hi)]
theorem make_fr {k fI W} (G : Good c) (hm : makesIn c.K (c.cls k) = true) (hi : findIn c.K (.ref (c.cls k)) "__init__" = some (some (.ref fI))) (hf : typeIn c.K (.ref fI) = some (.type "function")) (h : FnC c d (.ref fI) W) : FnC c (d + 1) (.ref (c.cls k)) (frW k W) := by
  intro A s φ H args vals Q R ao ok r w K
  have X := ok.X G
  obtain ⟨hh, gg, dd, t, os⟩ := s
  obtain ⟨ok₂, g₂⟩ := ok.inst0 (k := k)
  refine make_core (makes_of X hm) (looks_findIn X hi) (fun self => bind_fn X self hf) (.inl rfl) ?_
  refine h _ ⟨(hh.push emptyDict).push (instObj (c.cls k) hh.objs.size), gg, dd, t, os⟩ _ _ _ _ _ _ ⟨ao.handled, ?_, ?_⟩ ok₂ (.cons (.loc ?_) (r.grow g₂)) w fun x s' p => ?_
  · have := ao.depth; show A.depth + 1 + d < 900; omega
  · have := ao.units; show A.units + 1 + 20 * d < 9000; omega
  · rw [← ok.len]; simp
  · obtain ⟨v, H', φ', ⟨rfl, fs, hfs, rfl, q⟩, ok', rv, g', rs'⟩ := p
    cases rv
    obtain ⟨δ, ζ, e1, e2, hδ, hζ⟩ := g'.ext
    have e3 : φ'.l = φ.l ++ [hh.objs.size + 1] := by
      have l1 := ok'.len
      have l2 := ok.len
      have : δ = [] := by
        rw [e1] at l1
        simp at l1
        apply List.eq_nil_of_length_eq_zero
        omega
      rw [e1, this, List.append_nil]
    have at1 : φ'.l[H.length]? = some (hh.objs.size + 1) := by rw [e3, ← ok.len]; simp
    have mx : hh.objs.size + 1 ∈ φ'.l := List.mem_of_getElem? at1
    have nx : hh.objs.size + 1 ∉ φ.l := fun m => by
      have := ok'.nodup
      rw [e3, List.nodup_append] at this
      exact this.2.2 _ m _ (.head _) rfl
    have sub : ∀ a, a ∈ φ.l → a ∈ φ'.l := fun a m => by rw [e3]; exact List.mem_append_left _ m
    obtain ⟨ox, hox, rox⟩ := ok'.objs H.length _ (.inst k (fs.map some)) at1 (by simp)
    refine ⟨rfl, K _ _ ⟨.obj k fs, H, ⟨φ.l, φ'.z ++ [hh.objs.size + 1]⟩, q, ⟨ok'.base, fun b o e m => ok'.off b o e (sub _ m), ok.len, ok.nodup, fun i a lo ea el => ?_, fun a m m' => ?_, fun a m => ?_⟩, ?_, ?_, ?_⟩⟩
    · have hlt := (List.getElem?_eq_some_iff.mp ea).1
      obtain ⟨o, h1, h2⟩ := ok'.objs i a lo (by rw [e3, List.getElem?_append_left hlt]; exact ea) (by rw [List.getElem?_append_left (by rw [← ok.len]; exact hlt)]; exact el)
      obtain ⟨o₀, _, h4⟩ := ok.objs i a lo ea el
      exact ⟨o, h1, h2.unt e3 h4⟩
    · rcases List.mem_append.mp m with m | m
      · exact ok'.dj a m (sub _ m')
      · rw [List.mem_singleton.mp m] at m'; exact nx m'
    · rcases List.mem_append.mp m with m | m
      · exact ok'.zl a m
      · rw [List.mem_singleton.mp m]; exact ⟨ox, hox⟩
    · cases rox with
      | inst ri zi n y eb =>
        obtain ⟨xs, h1, h2⟩ := slots_of (fun i v e => by
          obtain ⟨x', a1, a2⟩ := ri i v e
          refine ⟨x', a1, a2.unt e3 ?_⟩
          have : v ∈ fs := by
            rw [List.getElem?_map] at e
            cases q2 : fs[i]? with
            | none => rw [q2] at e; cases e
            | some u => rw [q2] at e; cases e; exact List.mem_of_getElem? q2
          exact r.bel.mem v (hfs v this)) zi
        exact .obj nx (List.mem_append_right _ (.head _)) (fun m => n (sub _ m)) (List.mem_append_left _ y) (by
          cases q3 : c.h₀.get? (hh.objs.size + 1) with
          | none => rfl
          | some o => exact absurd mx (ok'.off _ _ q3)) hox h1 eb h2
    · refine ⟨⟨[], [hh.objs.size] ++ ζ ++ [hh.objs.size + 1], by simp, by rw [e2]; simp, by simp, fun a m => ?_⟩, fun b o e n => ?_, fun b o e => ?_⟩
      · rcases List.mem_append.mp m with m | m
        · rcases List.mem_append.mp m with m | m
          · rw [List.mem_singleton.mp m]; exact new_none hh
          · exact g₂.none (hζ a m)
        · rw [List.mem_singleton.mp m]; exact Heap.get?_none_of_le (Nat.le_succ _)
      · refine g'.keep b o (g₂.keep b o e n) (g₂.nin n e)
      · obtain ⟨o', e'⟩ := g₂.live b o e
        exact g'.live b o' e'
    · obtain ⟨h1, t1, rfl⟩ := rs'
      exact ⟨h1, t1, rfl⟩
end
end Mine

namespace Mine
section
variable {c : Cx} {d : Nat} {sc : Scope} {ρ : List Str}
theorem at0 {x : Str} {l : List Str} : (x :: l)[0]? = some x := rfl
theorem atS {x y : Str} {l : List Str} {i : Nat} (h : l[i]? = some y) : (x :: l)[i + 1]? = some y := by simpa using h
theorem set_same' {α : Type} : ∀ {l : List α} {k : Nat} {x : α}, l[k]? = some x → l.set k x = l
  | _ :: _, 0, _, e => by simp at e; simp [e]
  | _ :: l, k + 1, x, e => by simp at e; simp [set_same' e]
theorem lstAt_set {H : HW} {k : Nat} {xs} (h : k < H.length) : lstAt (H.set k (.list xs)) k = some xs := by
  unfold lstAt; rw [List.getElem?_set_self h]
theorem lstAt_lt {H : HW} {k : Nat} {xs} (h : lstAt H k = some xs) : k < H.length := (List.getElem?_eq_some_iff.mp (lstAt_of h)).1
/-! ### names by the written part -/
theorem mgIn (G : Good c) {x v} (e : nsIn c.K mainGlobals x = some (some v)) : c.mg x = some v := mg_of G.X G.G e
theorem mgNo (G : Good c) {x} (e : nsIn c.K mainGlobals x = some none) : c.mg x = none := mg_none_of G.X G.G e
theorem ev_fn {x np args pos f W as} (G : Good c) (hf : FnC c d f W) (ha : Evs c d sc ρ args as) (hk : sc.kind = .function) (hx : sc.names.lookup x = some .globalImplicit) (hv : nsIn c.K mainGlobals x = some (some f)) (hkeep : keepIn c.K f = true) (hd : (x == ("__debug__" : Str)) = false) : Ev c d sc ρ (.Call (.Name x np) args [] pos) (wCall W as) :=
  ev_call G hk hx (mgIn G hv) hd hkeep hf.ok ha
theorem ev_len {np args pos as} (G : Good c) (ha : Evs c d sc ρ args as) (hk : sc.kind = .function) (hx : sc.names.lookup (Str.ofString "len") = some .globalImplicit) (hv : nsIn c.K mainGlobals (Str.ofString "len") = some none) : Ev c d sc ρ (.Call (.Name (Str.ofString "len") np) args [] pos) (wCall (bLen c.ns) as) :=
  ev_callB G hk hx (mgNo G hv) ((G.BB _ (by decide)).trans (by kernel_rfl)) (by decide) (len_ok G) ha
theorem ev_min {np args pos as} (G : Good c) (ha : Evs c d sc ρ args as) (hk : sc.kind = .function) (hx : sc.names.lookup (Str.ofString "min") = some .globalImplicit) (hv : nsIn c.K mainGlobals (Str.ofString "min") = some none) : Ev c d sc ρ (.Call (.Name (Str.ofString "min") np) args [] pos) (wCall bMin as) :=
  ev_callB G hk hx (mgNo G hv) ((G.BB _ (by decide)).trans (by kernel_rfl)) (by decide) min_ok ha
theorem ev_max {np args pos as} (G : Good c) (ha : Evs c d sc ρ args as) (hk : sc.kind = .function) (hx : sc.names.lookup (Str.ofString "max") = some .globalImplicit) (hv : nsIn c.K mainGlobals (Str.ofString "max") = some none) : Ev c d sc ρ (.Call (.Name (Str.ofString "max") np) args [] pos) (wCall bMax as) :=
  ev_callB G hk hx (mgNo G hv) ((G.BB _ (by decide)).trans (by kernel_rfl)) (by decide) max_ok ha
theorem ei_rng1 {np pos e a} (G : Good c) (he : Ev c d sc ρ e a) (hs : ∀ env, starEach [e] env = [(false, eval e env)]) (hk : sc.kind = .function) (hx : sc.names.lookup (Str.ofString "range") = some .globalImplicit) (hv : nsIn c.K mainGlobals (Str.ofString "range") = some none) : Ei c d sc ρ (.Call (.Name (Str.ofString "range") np) [e] [] pos) (iRange1 a) :=
  ei_range1 G hk hx (mgNo G hv) ((G.BB _ (by decide)).trans (by kernel_rfl)) (by decide) he hs
/-! ### minus -/
def wNeg (a : WE) : WE := fun sl H Q => a sl H fun v H' => match v with | .int i => Q (.int (-i)) H' | _ => False
theorem ev_neg {x pos a} (h : Ev c d sc ρ x a) : Ev c d sc ρ (.UnaryOp .USub x pos) (wNeg a) := by
  intro env A E s φ sl H Q eo ao ok vs w
  show wpAny _ _ (eval x env >>= fun v => standAt pos >>= fun _ => holding [v] (unaryOp .USub v)) _ _ _
  refine wpAny_bind (wpAny_mono (h env A E s φ sl H _ eo ao ok vs w) (fun y s₁ p₁ => ?_) fun _ _ e => e)
  obtain ⟨v, H₁, φ₁, w₁, ok₁, rv, g₁, r₁⟩ := p₁
  split at w₁
  · cases rv
    exact wpAny_bind (wpAny_standAt (wpAny_holding (neg_int ((PostE.here (s' := { s₁ with toks := s₁.toks + 1 }) w₁ ok₁ .int (fun _ _ e => e) (Rest.mk s₁ s₁.heap _)).shift g₁ r₁))))
  · exact w₁.elim
/-- a plain test -/
def tTruth (w : WE) : WT := fun sl H Q => w sl H fun v H' => match v with | .bool b => Q b H' | .none => Q false H' | .int i => Q (i != 0) H' | _ => False

/-! ### tuple targets -/
def allN : List Expr → Bool
  | [] => true
  | .Name _ _ :: r => allN r
  | _ => false
def tnames : List Expr → List Str
  | .Name x _ :: r => x :: tnames r
  | _ => []
theorem stores_N {M : Model} {env : Env} : ∀ elts : List Expr, allN elts = true → (assignEach elts env).findIdx? (·.1) = none ∧ Stores M env (tnames elts) ((assignEach elts env).map (·.2))
  | [], _ => ⟨rfl, trivial⟩
  | .Name x p :: r, h => by
    have ih := stores_N (M := M) (env := env) r h
    refine ⟨?_, fun _ _ _ _ _ h => PySem.wpAny_assign_Name h, ih.2⟩
    show List.findIdx? (·.1) ((false, assign (.Name x p) env) :: assignEach r env) = none
    rw [List.findIdx?_cons, ih.1]
    rfl
theorem slots_nil : Slots sc ρ [] [] := trivial
theorem slots_cons {i is x xs} (h : ρ[i]? = some x) (hs : Slots sc ρ is xs) (hx : sc.names.lookup x = some .local ∨ sc.names.lookup x = some .cell) : Slots sc ρ (i :: is) (x :: xs) := ⟨⟨h, hx⟩, hs⟩
theorem at_tupN {elts k pos is} (hx : Slots sc ρ is (tnames elts)) (hk : sc.kind = .function) (hn : allN elts = true) : At c d sc ρ (.Tuple elts k pos) (aTup is) :=
  at_tup hk hx (fun env => (stores_N (M := model c.prog c.w) (env := env) elts hn).1) fun env => (stores_N elts hn).2
theorem ex_setTN {elts k tpos e pos a is} (he : Ev c d sc ρ e a) (hx : Slots sc ρ is (tnames elts)) (hk : sc.kind = .function) (hn : allN elts = true)
    (hs : ∀ env, swapsWithSole [.Tuple elts k tpos] e pos.line env = pure false) (hw : ∀ env, env.scope = sc → swappedStores [.Tuple elts k tpos] e env = pure none) : Ex c d sc ρ (.Assign [.Tuple elts k tpos] e pos) (wSetT is a) :=
  ex_setT he hk hx (fun env => (stores_N (M := model c.prog c.w) (env := env) elts hn).1) (fun env => (stores_N elts hn).2) hs hw
theorem ex_setRN {elts k tpos e pos a is} (he : Ev c d sc ρ e a) (hx : Slots sc ρ is (tnames elts)) (hk : sc.kind = .function)
    (hs : ∀ env, swapsWithSole [.Tuple elts k tpos] e pos.line env = pure false) (hw : ∀ env, env.scope = sc → swappedStores [.Tuple elts k tpos] e env = pure (some (tnames elts))) : Ex c d sc ρ (.Assign [.Tuple elts k tpos] e pos) (wSetR is a) :=
  ex_setR he hk hx hs hw
/-! ### + of any kind -/
def wAdd (ns : List Int) : WB := fun v w H Q => match v, w with
  | .int i, .int j => Q (.int (i + j)) H
  | .str a, .str b => a.length + b.length ≤ 1000000 ∧ Q (.str (a ++ b)) H
  | v, w => wAddL ns v w H Q
theorem addV_ok (G : Good c) : BinOK c d .Add (wAdd c.ns) := by
  intro A E s φ H v w x y Q ao ok rv rw' q
  unfold wAdd at q
  split at q
  · exact add_ok A E s φ H _ _ x y Q ao ok rv rw' q
  · rename_i a b
    cases rv; cases rw'
    exact PyProof.Rows.add_str (fun t' tk => PostE.here (s := s) (s' := { s with toks := tk }) q.2 ok .str (fun _ _ e => e) (Rest.mk s s.heap tk)) (by rw [sizeLine_eq]; omega)
  · exact addL_ok G A E s φ H _ _ x y Q ao ok rv rw' q
end
end Mine

namespace Mine
/-! ### slices, plainly -/
theorem pick_range {α : Type} (xs : List α) : ∀ (n s : Nat), s + n ≤ xs.length → ((List.range n).map fun k => s + k).filterMap (xs[·]?) = (xs.drop s).take n
  | 0, s, _ => by simp
  | n + 1, s, h => by
    have ih := pick_range xs n s (by omega)
    rw [List.range_succ, List.map_append, List.filterMap_append, ih]
    have hs : s + n < xs.length := by omega
    rw [List.take_add_one]
    simp [List.getElem?_drop, hs]
theorem sliceV_take {α : Type} (xs : List α) (n : Nat) : sliceV xs none (some (n : Int)) none = xs.take n := by
  have h : sliceRange (sliceBounds none (some (n : Int)) none xs.length).1 (sliceBounds none (some (n : Int)) none xs.length).2.1 (sliceBounds none (some (n : Int)) none xs.length).2.2 = (List.range (min n xs.length)).map fun k => 0 + k := by
    simp only [sliceBounds, sliceRange, Option.getD_none]
    have e : max 0 (min (if (n : Int) < 0 then (n : Int) + xs.length else n) xs.length) = ((min n xs.length : Nat) : Int) := by omega
    simp only [show ((1 : Int) > 0) = True by simp, if_true, e]
    congr 1
    · funext k; omega
    · congr 1
      split <;> omega
  unfold sliceV
  rw [h, pick_range xs _ 0 (by omega)]
  simp [List.take_eq_take_iff]
theorem sliceV_drop {α : Type} (xs : List α) (n : Nat) : sliceV xs (some (n : Int)) none none = xs.drop n := by
  have h : sliceRange (sliceBounds (some (n : Int)) none none xs.length).1 (sliceBounds (some (n : Int)) none none xs.length).2.1 (sliceBounds (some (n : Int)) none none xs.length).2.2 = (List.range (xs.length - min n xs.length)).map fun k => min n xs.length + k := by
    simp only [sliceBounds, sliceRange, Option.getD_none]
    have e : max 0 (min (if (n : Int) < 0 then (n : Int) + xs.length else n) xs.length) = ((min n xs.length : Nat) : Int) := by omega
    simp only [show ((1 : Int) > 0) = True by simp, if_true, e]
    congr 1
    · funext k; omega
    · congr 1
      split <;> omega
  unfold sliceV
  rw [h, pick_range xs _ _ (by omega)]
  rw [List.take_of_length_le (by simp)]
  by_cases q : n ≤ xs.length
  · rw [Nat.min_eq_left q]
  · rw [Nat.min_eq_right (by omega), List.drop_eq_nil_of_le (Nat.le_refl _), List.drop_eq_nil_of_le (by omega)]
theorem pick_down {α : Type} (xs : List α) : ∀ (n : Nat), n ≤ xs.length → ((List.range n).map fun k => n - 1 - k).filterMap (xs[·]?) = (xs.take n).reverse
  | 0, _ => by simp
  | n + 1, h => by
    have ih := pick_down xs n (by omega)
    have hs : n < xs.length := by omega
    rw [List.range_succ_eq_map, List.map_cons, List.map_map, List.filterMap_cons_some (b := xs[n]) (by simp), List.take_add_one, List.reverse_append]
    simp only [List.getElem?_eq_getElem hs, Option.toList_some, List.reverse_cons, List.reverse_nil, List.nil_append, List.cons_append]
    congr 1
    rw [← ih]
    congr 1
    apply List.map_congr_left
    intro k hk
    simp only [Function.comp_apply]
    omega
theorem sliceV_rev {α : Type} (xs : List α) : sliceV xs none none (some (-1)) = xs.reverse := by
  have h : sliceRange (sliceBounds none none (some (-1)) xs.length).1 (sliceBounds none none (some (-1)) xs.length).2.1 (sliceBounds none none (some (-1)) xs.length).2.2 = (List.range xs.length).map fun k => xs.length - 1 - k := by
    simp only [sliceBounds, sliceRange, Option.getD_some, show ((-1 : Int) > 0) = False by simp, if_false]
    rw [show (- -1 : Int) = 1 by rfl, Int.ediv_one]
    congr 1
    · funext k; omega
    · congr 1
      split <;> omega
  unfold sliceV
  rw [h, pick_down xs _ (Nat.le_refl _), List.take_length]
/-! ### the abstract heap grown -/
theorem ext_at {α : Type} (H L : List α) (i : Nat) : (H ++ L)[H.length + i]? = L[i]? := by rw [List.getElem?_append_right (by omega), Nat.add_sub_cancel_left]
theorem ext_at0 {α : Type} (H L : List α) : (H ++ L)[H.length]? = L[0]? := by rw [List.getElem?_append_right (by omega), Nat.sub_self]
theorem ext_lt {α : Type} {H L : List α} {k : Nat} (h : k < H.length) : (H ++ L)[k]? = H[k]? := List.getElem?_append_left h
theorem lstAt_ext {H L : HW} {k : Nat} {xs} (h : lstAt H k = some xs) : lstAt (H ++ L) k = some xs := by
  have := lstAt_of h
  unfold lstAt
  rw [ext_lt (lstAt_lt h), this]
theorem lstAt_set_ne {H : HW} {k j : Nat} {lo : LO} (h : k ≠ j) : lstAt (H.set j lo) k = lstAt H k := by
  unfold lstAt
  rw [List.getElem?_set_ne (Ne.symm h)]
theorem asL_loc {ns : List Int} {H : HW} {k : Nat} : asL ns H (.loc k) = lstAt H k := rfl
end Mine

namespace Mine
/-! ### the words, opened one at a time (as rewritings that are not by computation) -/
section
variable {sl : Sl} {H : HW} {c : Cx} {ns : List Int}
theorem e_skip {Q} : wSkip sl H Q = Q .next sl H := propext Iff.rfl
theorem e_seq {a b Q} : wSeq a b sl H Q = a sl H (fun F sl' H' => match F with | .next => b sl' H' Q | .ret v => Q (.ret v) sl' H') := propext Iff.rfl
theorem e_set {i a Q} : wSet i a sl H Q = a sl H (fun v H' => Q .next (sl.set i (some v)) H') := propext Iff.rfl
theorem e_aug {i f a Q} : wAug i f a sl H Q = wBin f (wVar i) a sl H (fun v H' => Q .next (sl.set i (some v)) H') := propext Iff.rfl
theorem e_drop {a Q} : wDrop a sl H Q = a sl H (fun v H' => match v with | .none => Q .next sl H' | _ => False) := propext Iff.rfl
theorem e_if {t a b Q} : wIf t a b sl H Q = t sl H (fun r H' => if r then a sl H' Q else b sl H' Q) := propext Iff.rfl
theorem e_ret {a Q} : wRet a sl H Q = a sl H (fun v H' => Q (.ret v) sl H') := propext Iff.rfl
theorem e_setT {is a Q} : wSetT is a sl H Q = a sl H (fun v H' => aTup is v sl H' fun sl' H'' => Q .next sl' H'') := propext Iff.rfl
theorem e_setR {is a Q} : wSetR is a sl H Q = a sl H (fun v H' => aTupR is v sl H' fun sl' H'' => Q .next sl' H'') := propext Iff.rfl
theorem e_aTup {is vs K} : aTup is (.tup vs) sl H K = (vs.length = is.length ∧ K (setAll is vs sl) H) := propext Iff.rfl
theorem e_aTupR {is vs K} : aTupR is (.tup vs) sl H K = (vs.length = is.length ∧ K (setAll is.reverse vs.reverse sl) H) := propext Iff.rfl
theorem e_aName {i v K} : aName i v sl H K = K (sl.set i (some v)) H := propext Iff.rfl
theorem e_setAll {i is v vs} : setAll (i :: is) (v :: vs) sl = setAll is vs (sl.set i (some v)) := rfl
theorem e_setAll0 {vs} : setAll [] vs sl = sl := by cases vs <;> rfl
theorem e_setattr {k i a b Q} : wSetAttr k i a b sl H Q = b sl H (fun v H₁ => a sl H₁ fun o H₂ => match o with
  | .loc j => (match H₂[j]? with | some (.inst k' fs) => k' = k ∧ Q .next sl (H₂.set j (.inst k (setF fs i v))) | _ => False)
  | _ => False) := propext Iff.rfl
theorem e_k {v Q} : wK v sl H Q = Q v H := propext Iff.rfl
theorem e_var {i Q} : wVar i sl H Q = (match sl[i]? with | some (some v) => Q v H | _ => False) := propext Iff.rfl
theorem e_bin {f a b Q} : wBin f a b sl H Q = a sl H (fun v H₁ => b sl H₁ fun w H₂ => f v w H₂ Q) := propext Iff.rfl
theorem e_onI {f i j Q} : onI f (.int i) (.int j) H Q = Q (f i j) H := propext Iff.rfl
theorem e_mod {i j Q} : wMod (.int i) (.int j) H Q = (j ≠ 0 ∧ Q (.int (i.fmod j)) H) := propext Iff.rfl
theorem e_div {i j Q} : wDiv (.int i) (.int j) H Q = ((j ≠ 0 ∧ j.natAbs < 1073741824) ∧ Q (.int (i.fdiv j)) H) := propext Iff.rfl
theorem e_addI {i j Q} : wAdd ns (.int i) (.int j) H Q = Q (.int (i + j)) H := propext Iff.rfl
theorem e_addS {i j Q} : wAdd ns (.str i) (.str j) H Q = (i.length + j.length ≤ 1000000 ∧ Q (.str (i ++ j)) H) := propext Iff.rfl
theorem e_addL {k j xs ys Q} (h1 : lstAt H k = some xs) (h2 : lstAt H j = some ys) : wAdd ns (.loc k) (.loc j) H Q = (xs.length + ys.length ≤ 1000000 ∧ Q (.loc H.length) (H ++ [.list (xs ++ ys)])) := by
  show wAddL ns (.loc k) (.loc j) H Q = _
  unfold wAddL
  rw [asL_loc, asL_loc, h1, h2]
theorem e_addS1 {k xs Q} (h1 : lstAt H k = some xs) : wAdd ns (.loc k) .script H Q = (xs.length + (ns.map V.int).length ≤ 1000000 ∧ Q (.loc H.length) (H ++ [.list (xs ++ ns.map V.int)])) := by
  show wAddL ns (.loc k) .script H Q = _
  unfold wAddL
  rw [asL_loc, h1]; rfl
theorem e_isN {f v Q} : wIsN f v .none H Q = Q (.bool (f (isN v))) H := propext Iff.rfl
theorem e_tv {w Q} : tv w sl H Q = w sl H (fun v H' => match v with | .bool b => Q b H' | _ => False) := propext Iff.rfl
theorem e_not {w Q} : tNot w sl H Q = w sl H (fun b H' => Q (!b) H') := propext Iff.rfl
theorem e_and {a b Q} : tAnd a b sl H Q = a sl H (fun t H' => if t then b sl H' Q else Q false H') := propext Iff.rfl
theorem e_or {a b Q} : tOr a b sl H Q = a sl H (fun t H' => if t then Q true H' else b sl H' Q) := propext Iff.rfl
theorem e_nil {Q} : wNil sl H Q = Q [] H := propext Iff.rfl
theorem e_cons {a b Q} : wCons a b sl H Q = a sl H (fun v H₁ => b sl H₁ fun vs H₂ => Q (v :: vs) H₂) := propext Iff.rfl
theorem e_list {a Q} : wList a sl H Q = a sl H (fun vs H₁ => vs.length ≤ 1000000 ∧ Q (.loc H₁.length) (H₁ ++ [.list vs])) := propext Iff.rfl
theorem e_tup {a Q} : wTup a sl H Q = a sl H (fun vs H₁ => vs.length ≤ 1000000 ∧ Q (.tup vs) H₁) := propext Iff.rfl
theorem e_call {W as Q} : wCall W as sl H Q = as sl H (fun vs H₁ => W vs H₁ Q) := propext Iff.rfl
theorem e_meth {k W a as Q} : wMeth c k W a as sl H Q = a sl H (fun v H₁ => clsV c H₁ v = some k ∧ as sl H₁ fun vs H₂ => W (v :: vs) H₂ Q) := propext Iff.rfl
theorem e_clsO {k fs} : clsV c H (.obj k fs) = some k := rfl
theorem e_neg {a Q} : wNeg a sl H Q = a sl H (fun v H' => match v with | .int i => Q (.int (-i)) H' | _ => False) := propext Iff.rfl
theorem e_idx {a b Q} : wIdx ns a b sl H Q = a sl H (fun v H₁ => b sl H₁ fun w H₂ => match asL ns H₂ v, w with
  | some xs, .int k => xs.length ≤ 1000000 ∧ (match getI xs k with | some u => Q u H₂ | none => False)
  | _, _ => False) := propext Iff.rfl
theorem e_onone {Q} : oNone sl H Q = Q none H := propext Iff.rfl
theorem e_osome {a Q} : oSome a sl H Q = a sl H (fun v H' => match v with | .int i => Q (some i) H' | _ => False) := propext Iff.rfl
theorem e_slice {a lo hi st Q} : wSlice ns a lo hi st sl H Q = a sl H (fun v H₁ => lo sl H₁ fun l H₂ => hi sl H₂ fun u H₃ => st sl H₃ fun k H₄ => match asL ns H₄ v with
  | some xs => (xs.length ≤ 1000000 ∧ k ≠ some 0) ∧ Q (.loc H₄.length) (H₄ ++ [.list (sliceV xs l u k)])
  | none => False) := propext Iff.rfl
theorem e_append {a b Q} : wAppend a b sl H Q = a sl H (fun v H₁ => match v with
  | .loc k => (lstAt H₁ k).isSome = true ∧ b sl H₁ fun w H₂ => (match lstAt H₂ k with | some xs => xs.length ≤ 1000000 ∧ Q .none (H₂.set k (.list (xs ++ [w]))) | none => False)
  | _ => False) := propext Iff.rfl
theorem e_pop {a Q} : wPop a sl H Q = a sl H (fun v H₁ => match v with
  | .loc k => (match lstAt H₁ k with | some xs => xs.length ≤ 1000000 ∧ (match xs.getLast? with | some u => Q u (H₁.set k (.list xs.dropLast)) | none => False) | none => False)
  | _ => False) := propext Iff.rfl
theorem e_len {k xs Q} (h : lstAt H k = some xs) : bLen ns [.loc k] H Q = (xs.length ≤ 1000000 ∧ Q (.int xs.length) H) := by
  show (match asL ns H (.loc k) with | some xs => xs.length ≤ 1000000 ∧ Q (.int xs.length) H | none => False) = _
  rw [asL_loc, h]
theorem e_min {a b Q} : bMin [.int a, .int b] H Q = Q (.int (if b < a then b else a)) H := propext Iff.rfl
theorem e_max {a b Q} : bMax [.int a, .int b] H Q = Q (.int (if b > a then b else a)) H := propext Iff.rfl
theorem e_cmpI {f : Bool → Bool} {k j : Nat} {is js : List Int} {Q} (h1 : lstAt H k = some (is.map V.int)) (h2 : lstAt H j = some (js.map V.int)) : wCmpI ns f (.loc k) (.loc j) H Q = Q (.bool (f (decide (is = js)))) H := by
  unfold wCmpI
  rw [asL_loc, asL_loc, h1, h2]
  simp only [Option.bind_some, intsV_map]
theorem e_for {it ta b Q} : wFor ns it ta b sl H Q = it sl H (fun k H₁ => wForGo ns k ta b k.items sl H₁ Q) := propext Iff.rfl
theorem e_iList {a Q} : iList ns a sl H Q = a sl H (fun v H' => match asL ns H' v with | some xs => Q (.list v xs) H' | none => False) := propext Iff.rfl
theorem e_iRange1 {a Q} : iRange1 a sl H Q = a sl H (fun v H' => match v with | .int n => (-1000000 < n ∧ n < 1000000) ∧ Q (.walk (rangeL 0 n 1)) H' | _ => False) := propext Iff.rfl
theorem e_for0 {k ta b Q} : wForGo ns k ta b [] sl H Q = Q .next sl H := propext Iff.rfl
theorem e_for1 {k ta b v r Q} : wForGo ns k ta b (v :: r) sl H Q = ta v sl H (fun sl₁ H₁ => b sl₁ H₁ fun F sl₂ H₂ => match F with | .next => k.inv ns H₂ ∧ wForGo ns k ta b r sl₂ H₂ Q | .ret u => Q (.ret u) sl₂ H₂) := propext Iff.rfl
end
end Mine

namespace Mine
section
variable {c : Cx} {d : Nat} {sc : Scope} {ρ : List Str}

/-! ### a list that nobody tracked is tracked from here on -/
mutual
theorem RepV.adopt {φ : Mp} {h D} (n : D ∉ φ.z) : ∀ {v x}, RepV c φ h v x → RepV c ⟨φ.l ++ [D], φ.z⟩ h v x
  | _, _, .none => .none
  | _, _, .bool => .bool
  | _, _, .int => .int
  | _, _, .str => .str
  | _, _, .loc e => .loc (by
      show (φ.l ++ [D])[_]? = _
      rw [List.getElem?_append_left (List.getElem?_eq_some_iff.mp e).1]; exact e)
  | _, _, .tup n1 z n0 e r => .tup (fun m => (List.mem_append.mp m).elim n1 fun q => n (by rw [← List.mem_singleton.mp q]; exact z)) z n0 e (RepVs.adopt n r)
  | _, _, .obj n1 z m1 y n0 e es e' r => .obj (fun m => (List.mem_append.mp m).elim n1 fun q => n (by rw [← List.mem_singleton.mp q]; exact z)) z (fun m => (List.mem_append.mp m).elim m1 fun q => n (by rw [← List.mem_singleton.mp q]; exact y)) y n0 e es e' (RepVs.adopt n r)
  | _, _, .glob e => .glob e
  | _, _, .script => .script
theorem RepVs.adopt {φ : Mp} {h D} (n : D ∉ φ.z) : ∀ {vs xs}, RepVs c φ h vs xs → RepVs c ⟨φ.l ++ [D], φ.z⟩ h vs xs
  | _, _, .nil => .nil
  | _, _, .cons r rs => .cons (RepV.adopt n r) (RepVs.adopt n rs)
end
theorem RepO.adopt {φ : Mp} {h D} (n : D ∉ φ.z) {lo o} (r : RepO c φ h lo o) : RepO c ⟨φ.l ++ [D], φ.z⟩ h lo o := by
  cases r with
  | list r => exact .list (r.adopt n)
  | inst r z m y e => exact .inst (fun i v e => by obtain ⟨x, h1, h2⟩ := r i v e; exact ⟨x, h1, h2.adopt n⟩) z (fun q => (List.mem_append.mp q).elim m fun q => n (by rw [← List.mem_singleton.mp q]; exact y)) y e
theorem Ok.adopt {φ H h D o lo} (ok : Ok c φ H h) (nl : D ∉ φ.l) (nz : D ∉ φ.z) (n0 : c.h₀.get? D = none) (e : h.get? D = some o) (r : RepO c φ h lo o) : Ok c ⟨φ.l ++ [D], φ.z⟩ (H ++ [lo]) h := by
  refine ⟨ok.base, fun b o e m => ?_, by simp [ok.len], ?_, fun i x lo' e1 e2 => ?_, fun b m q => ?_, ok.zl⟩
  · rcases List.mem_append.mp m with m | m
    · exact ok.off b o e m
    · rw [List.mem_singleton.mp m, n0] at e; cases e
  · refine List.nodup_append.mpr ⟨ok.nodup, by simp, fun x m y m' q => ?_⟩
    rw [List.mem_singleton.mp m'] at q
    exact nl (q ▸ m)
  · by_cases hi : i < φ.l.length
    · rw [List.getElem?_append_left hi] at e1
      rw [List.getElem?_append_left (by rw [← ok.len]; exact hi)] at e2
      obtain ⟨o', h1, h2⟩ := ok.objs i x lo' e1 e2
      exact ⟨o', h1, h2.adopt nz⟩
    · have hi' : φ.l.length ≤ i := Nat.not_lt.mp hi
      rw [List.getElem?_append_right hi'] at e1
      rw [List.getElem?_append_right (by rw [← ok.len]; exact hi'), ← ok.len] at e2
      cases q : i - φ.l.length with
      | zero =>
        rw [q] at e1 e2
        simp at e1 e2
        subst e1 e2
        exact ⟨o, e, r.adopt nz⟩
      | succ j => rw [q] at e1; simp at e1
  · rcases List.mem_append.mp q with q | q
    · exact ok.dj b m q
    · rw [List.mem_singleton.mp q] at m; exact nz m

/-! ### comprehensions -/
def relS (scope sc : Scope) : Scope :=
  { scope with names := scope.names.map fun (n, k) => if (k == .free && sc.kind == .function && sc.names.lookup n == some .cell) then (n, .cell) else (n, k) }
theorem relabel_eq {scope : Scope} {env : Env} (e : EnvOK sc env) : relabel scope env = relS scope sc := by
  obtain ⟨rfl, _, _⟩ := e
  rfl
/-- where the free names of the comprehension stand in the frame -/
def Frs (sc : Scope) (ρ : List Str) : List (Str × NameKind) → List Nat → List Str → Prop
  | [], is, xs => is = [] ∧ xs = []
  | (n, k) :: r, is, xs => if k = .free then ∃ i is' xs', is = i :: is' ∧ xs = n :: xs' ∧ ρ[i]? = some n ∧ sc.names.lookup n = some .cell ∧ Frs sc ρ r is' xs' else Frs sc ρ r is xs
theorem frs_nil : Frs sc ρ [] [] [] := ⟨rfl, rfl⟩
theorem frs_free {n r i is xs} (h : ρ[i]? = some n) (hs : Frs sc ρ r is xs) (hc : sc.names.lookup n = some .cell) : Frs sc ρ ((n, .free) :: r) (i :: is) (n :: xs) := by
  unfold Frs; rw [if_pos rfl]; exact ⟨i, is, xs, rfl, rfl, h, hc, hs⟩
theorem frs_local {n r is xs} (hs : Frs sc ρ r is xs) : Frs sc ρ ((n, .local) :: r) is xs := by
  unfold Frs; rw [if_neg (by decide)]; exact hs
theorem frs_cell {n r is xs} (hs : Frs sc ρ r is xs) : Frs sc ρ ((n, .cell) :: r) is xs := by
  unfold Frs; rw [if_neg (by decide)]; exact hs
theorem frs_glob {n r is xs} (hs : Frs sc ρ r is xs) : Frs sc ρ ((n, .globalImplicit) :: r) is xs := by
  unfold Frs; rw [if_neg (by decide)]; exact hs
def clOf (env : Env) : List (Str × NameKind) → List (Str × Addr) → List (Str × Addr)
  | [], cs => cs
  | (n, k) :: r, cs => clOf env r (if k = .free then (match env.cells.lookup n with | some a => (n, a) :: cs | none => cs) else cs)
theorem closureFor_eq {scope : Scope} {env : Env} (h : ∀ x ∈ scope.names, x.2 = .free → (env.cells.lookup x.1).isSome = true) : closureFor scope env = pure (clOf env scope.names []) := by
  have go : ∀ (l : List (Str × NameKind)) (cs : List (Str × Addr)), (∀ x ∈ l, x.2 = .free → (env.cells.lookup x.1).isSome = true) →
      (forIn l cs fun x r => (match x with | (name, kind) => if (kind == NameKind.free) = true then do let a ← cellOf env name; pure (ForInStep.yield ((name, a) :: r)) else pure (ForInStep.yield r) : Sem (ForInStep (List (Str × Addr))))) = pure (clOf env l cs) := by
    intro l
    induction l with
    | nil => intro cs _; rfl
    | cons x r ih =>
      intro cs hl
      obtain ⟨n, k⟩ := x
      rw [List.forIn_cons]
      by_cases hk : k = .free
      · subst hk
        obtain ⟨a, ea⟩ := Option.isSome_iff_exists.mp (hl (n, .free) List.mem_cons_self rfl)
        have : cellOf env n = pure a := by unfold cellOf; rw [show env.cells.lookup n = some a from ea]
        simp only [beq_self_eq_true, if_true, this, clOf, show env.cells.lookup n = some a from ea]
        exact ih _ fun y hy => hl y (List.mem_cons_of_mem _ hy)
      · have hb : (k == NameKind.free) = false := by simpa using hk
        simp only [hb, Bool.false_eq_true, if_false, clOf, hk]
        exact ih _ fun y hy => hl y (List.mem_cons_of_mem _ hy)
  have e : closureFor scope env = (forIn scope.names ([] : List (Str × Addr)) fun x r => (match x with | (name, kind) => if (kind == NameKind.free) = true then do let a ← cellOf env name; pure (ForInStep.yield ((name, a) :: r)) else pure (ForInStep.yield r) : Sem (ForInStep (List (Str × Addr))))) >>= fun r => pure r := rfl
  rw [e, go _ _ h]
  rfl
theorem clOf_sub {env : Env} : ∀ (l : List (Str × NameKind)) (cs : List (Str × Addr)), (∀ x a, cs.lookup x = some a → env.cells.lookup x = some a) → ∀ x a, (clOf env l cs).lookup x = some a → env.cells.lookup x = some a
  | [], cs, h => h
  | (n, k) :: r, cs, h => by
    refine clOf_sub r _ fun x a e => ?_
    split at e
    · split at e
      · rename_i b eb
        rw [List.lookup_cons] at e
        split at e
        · rename_i q
          cases e
          rw [eq_of_beq q]; exact eb
        · exact h x a e
      · exact h x a e
    · exact h x a e
theorem clOf_has {env : Env} : ∀ (l : List (Str × NameKind)) (cs : List (Str × Addr)) (x : Str) (a : Addr), (env.cells.lookup x = some a) → (cs.lookup x = some a ∨ (x, NameKind.free) ∈ l) → (∀ y b, cs.lookup y = some b → env.cells.lookup y = some b) → (clOf env l cs).lookup x = some a
  | [], cs, x, a, e, h, hs => by
    rcases h with h | h
    · exact h
    · cases h
  | (n, k) :: r, cs, x, a, e, h, hs => by
    have hs' : ∀ y b, (if k = .free then (match env.cells.lookup n with | some a => (n, a) :: cs | none => cs) else cs).lookup y = some b → env.cells.lookup y = some b := by
      intro y b eb
      split at eb
      · split at eb
        · rename_i b' eb'
          rw [List.lookup_cons] at eb
          split at eb
          · rename_i q
            cases eb
            rw [eq_of_beq q]; exact eb'
          · exact hs y b eb
        · exact hs y b eb
      · exact hs y b eb
    refine clOf_has r _ x a e ?_ hs'
    by_cases q : x = n ∧ k = .free
    · obtain ⟨rfl, rfl⟩ := q
      left
      rw [if_pos rfl, e]
      simp
    · rcases h with h | h
      · left
        split
        · rename_i hk
          split
          · rename_i b' eb'
            rw [List.lookup_cons]
            have : (x == n) = false := by
              cases z : x == n with
              | false => rfl
              | true => exact absurd ⟨eq_of_beq z, hk⟩ q
            rw [this]; exact h
          · exact h
        · exact h
      · right
        rcases List.mem_cons.mp h with h | h
        · cases h; exact absurd ⟨rfl, rfl⟩ q
        · exact h
end
end Mine

namespace Mine
section
variable {c : Cx} {d : Nat} {sc : Scope} {ρ : List Str}
theorem lookup_relS_free {n : Str} (hs : sc.kind = .function) (hc : sc.names.lookup n = some .cell) : ∀ {names : List (Str × NameKind)}, names.lookup n = some .free →
    (names.map fun (n, k) => if (k == NameKind.free && sc.kind == .function && sc.names.lookup n == some .cell) then (n, NameKind.cell) else (n, k)).lookup n = some .cell
  | [], h => by simp at h
  | (m, k) :: r, h => by
    have ih := @lookup_relS_free n hs hc r
    rw [List.map_cons]
    cases hx : n == m with
    | true =>
      have := eq_of_beq hx
      subst this
      simp only [List.lookup_cons, hx] at h
      cases h
      simp [List.lookup_cons, hs, hc]
    | false =>
      simp only [List.lookup_cons, hx] at h
      have := ih h
      by_cases hc' : (k == NameKind.free && sc.kind == .function && sc.names.lookup m == some .cell) = true
      · show List.lookup n ((if (k == NameKind.free && sc.kind == .function && sc.names.lookup m == some .cell) = true then (m, NameKind.cell) else (m, k)) :: _) = _
        rw [if_pos hc', List.lookup_cons, hx]; exact this
      · show List.lookup n ((if (k == NameKind.free && sc.kind == .function && sc.names.lookup m == some .cell) = true then (m, NameKind.cell) else (m, k)) :: _) = _
        rw [if_neg hc', List.lookup_cons, hx]; exact this
theorem Frs.get {sc ρ} : ∀ {l : List (Str × NameKind)} {is : List Nat} {xs : List Str}, Frs sc ρ l is xs → is.length = xs.length ∧ ∀ (j : Nat) y, xs[j]? = some y → ∃ i, is[j]? = some i ∧ ρ[i]? = some y ∧ sc.names.lookup y = some .cell ∧ (y, NameKind.free) ∈ l
  | [], _, _, h => by obtain ⟨rfl, rfl⟩ := h; simp
  | (n, k) :: r, is, xs, h => by
    unfold Frs at h
    split at h
    · rename_i hk
      obtain ⟨i, is', xs', rfl, rfl, h1, h2, h3⟩ := h
      have ih := Frs.get h3
      refine ⟨by simp [ih.1], fun j y e => ?_⟩
      cases j with
      | zero => simp at e; subst e; exact ⟨i, rfl, h1, h2, by rw [← hk]; exact List.mem_cons_self⟩
      | succ j =>
        simp at e
        obtain ⟨i', a1, a2, a3, a4⟩ := ih.2 j y e
        exact ⟨i', by simpa using a1, a2, a3, List.mem_cons_of_mem _ a4⟩
    · have ih := Frs.get h
      exact ⟨ih.1, fun j y e => by obtain ⟨i', a1, a2, a3, a4⟩ := ih.2 j y e; exact ⟨i', a1, a2, a3, List.mem_cons_of_mem _ a4⟩⟩
/-- what a comprehension's own scope must be like -/
structure CSc (sc scope : Scope) (x : Str) (is : List Nat) (xs : List Str) (ρ : List Str) : Prop where
  kind : scope.kind = .function
  skind : sc.kind = .function
  nocell : ∀ y ∈ scope.names, y.2 ≠ .cell
  loc : scope.names.lookup x = some .local
  names : ∀ y ∈ scope.names, y.2 = .local → scope.names.lookup y.1 = some .local
  free : ∀ y ∈ scope.names, y.2 = .free → scope.names.lookup y.1 = some .free
  nd : (x :: xs).Nodup
  fr : Frs sc ρ scope.names is xs
def fvOf (sl : Sl) (is : List Nat) : Sl := is.map fun i => (sl[i]?).join
theorem CSc.closed {scope x is xs} (S : CSc sc scope x is xs ρ) {env φ h sl} (eo : EnvOK sc env) (vs : Vars c ρ φ h env sl) : ∀ y ∈ scope.names, y.2 = .free → (env.cells.lookup y.1).isSome = true := by
  have go : ∀ (l : List (Str × NameKind)) is xs, Frs sc ρ l is xs → ∀ y ∈ l, y.2 = .free → (env.cells.lookup y.1).isSome = true := by
    intro l
    induction l with
    | nil => intro _ _ _ y hy; cases hy
    | cons z r ih =>
      intro is xs h y hy hf
      obtain ⟨n, k⟩ := z
      unfold Frs at h
      split at h
      · obtain ⟨i, is', xs', rfl, rfl, h1, h2, h3⟩ := h
        rcases List.mem_cons.mp hy with e | e
        · subst e
          obtain ⟨a, ea⟩ := vs.has i n h1 ((eo.kind n).trans h2)
          rw [ea]; rfl
        · exact ih _ _ h3 y e hf
      · rename_i nk
        rcases List.mem_cons.mp hy with e | e
        · subst e; exact absurd hf nk
        · exact ih _ _ h y e hf
  exact go _ _ _ S.fr
theorem comp_env {scope : Scope} {env : Env} {A : Around} {E : Value → Shared → Prop} {s : Shared} {φ : Mp} {sl : Sl} {H : HW} {is xs x} {R : Env → Shared → Prop} (S : CSc sc scope x is xs ρ)
    (eo : EnvOK sc env) (ok : Ok c φ H s.heap) (vs : Vars c ρ φ s.heap env sl)
    (k : ∀ cenv s', cenv.locals = s.heap.objs.size → EnvOK (relS scope sc) cenv → (∀ b, cenv.cells.lookup x = some b → s.heap.get? b = none) → (∀ y b, cenv.cells.lookup y = some b → env.cells.lookup y = some b ∨ s.heap.get? b = none) → Vars c (x :: xs) φ s'.heap cenv (none :: fvOf sl is) →
      (∀ b o, s.heap.get? b = some o → s'.heap.get? b = some o) → Rest s s' → R cenv s') :
    wpAny (model c.prog c.w) A (newFunctionEnv scope env.globals (clOf env scope.names []) [] env.qual none .none (some env)) (fun cenv s' => R { cenv with scope := relabel scope env } s') E s := by
  refine wpAny_newFunctionEnv S.nocell (by intro y hy; simp at hy) (fun h₁ hns₁ hsb₁ => ?_) S.kind
  have kp : ∀ b o, s.heap.get? b = some o → h₁.get? b = some o := fun b o e => hsb₁.extBut b o (Nat.ne_of_lt (Heap.lt_size e)) (Heap.get?_push_of_some _ e)
  have sub := clOf_sub (env := env) scope.names [] (by intro x a e; simp at e)
  have hC : c.h₀.get? s.heap.objs.size = none := by
    cases e : c.h₀.get? s.heap.objs.size with
    | none => rfl
    | some o => have := ok.base _ _ e; rw [new_none] at this; cases this
  have kindC : ∀ y, y ∈ xs → (relS scope sc).names.lookup y = some .cell := fun y hy => by
    obtain ⟨j, hj, ej⟩ := List.getElem_of_mem hy
    obtain ⟨i, a1, a2, a3, a4⟩ := (S.fr.get).2 j y (by rw [List.getElem?_eq_getElem hj, ej])
    exact lookup_relS_free S.skind a3 (S.free _ a4 rfl)
  have kindX : (relS scope sc).names.lookup x = some .local := by
    have := lookup_relabel_local (env := env) S.loc
    rw [show (relS scope sc) = relabel scope env from (relabel_eq eo).symm]
    exact this
  have eoC : EnvOK (relS scope sc) { (newEnv scope s.heap.objs.size env.globals (clOf env scope.names []) env.qual none .none (some env) builtinsNs) with scope := relabel scope env } :=
    ⟨relabel_eq eo, eo.glob, eo.bi⟩
  refine k _ { s with heap := h₁, toks := s.toks + ([] : List (Str × Value)).length } rfl eoC ?_ (fun y b e => .inl (sub y b e)) ⟨S.nd, ?_, (new_unz ok).1, (new_unz ok).2, hC, ⟨_, hns₁, ?_⟩, ?_, ?_, ?_, ?_⟩ kp (Rest.mk s _ _)
  · intro b e
    have e' : (clOf env scope.names []).lookup x = some b := e
    have : ∀ (l : List (Str × NameKind)) (cs : List (Str × Addr)) (y : Str) b, (clOf env l cs).lookup y = some b → cs.lookup y = some b ∨ (y, NameKind.free) ∈ l := by
      intro l
      induction l with
      | nil => intro cs y b e; exact .inl e
      | cons z r ih =>
        intro cs y b e
        obtain ⟨n, kk⟩ := z
        rcases ih _ y b e with h | h
        · split at h
          · rename_i hk
            split at h
            · rw [List.lookup_cons] at h
              split at h
              · rename_i q; right; rw [eq_of_beq q, hk]; exact List.mem_cons_self
              · exact .inl h
            · exact .inl h
          · exact .inl h
        · exact .inr (List.mem_cons_of_mem _ h)
    rcases this _ _ _ _ e' with h | h
    · simp at h
    · have := S.free _ h rfl
      rw [S.loc] at this; cases this
  · simp [fvOf, S.fr.get.1]
  · intro i y v h1 h2 h3
    cases i with
    | zero => simp at h3
    | succ i =>
      simp at h1
      have := (eoC.kind y).symm.trans h2
      rw [kindC y (List.mem_of_getElem? h1)] at this; cases this
  · intro y a e
    obtain ⟨n, z, n0, u, o', ho', hd⟩ := vs.offC y a (sub y a e)
    exact ⟨n, z, n0, u, o', kp _ _ ho', hd⟩
  · intro y z a e1 e2
    exact vs.inj y z a (sub y a e1) (sub z a e2)
  · intro i y v h1 h2 h3
    cases i with
    | zero => simp at h3
    | succ i =>
      simp at h1 h3
      obtain ⟨j, a1, a2, a3, a4⟩ := S.fr.get.2 i y h1
      simp only [fvOf, List.getElem?_map, a1, Option.map_some] at h3
      have h4 : sl[j]? = some (some v) := by
        cases q : sl[j]? with
        | none => rw [q] at h3; simp at h3
        | some u => rw [q] at h3; simp at h3; rw [h3]
      obtain ⟨a, u, e1, ⟨o', ho', hd⟩, e3⟩ := vs.cel j y v a2 (.inl ((eo.kind y).trans a3)) h4
      exact ⟨a, u, clOf_has _ _ _ _ e1 (.inr a4) (by intro x a e; simp at e), ⟨o', kp _ _ ho', hd⟩, e3.grow (.of_keep kp)⟩
  · intro i y h1 h2
    cases i with
    | zero =>
      simp at h1
      subst h1
      have := (eoC.kind x).symm.trans h2
      rw [kindX] at this; cases this
    | succ i =>
      simp at h1
      obtain ⟨j, a1, a2, a3, a4⟩ := S.fr.get.2 i y h1
      obtain ⟨a, ea⟩ := vs.has j y a2 ((eo.kind y).trans a3)
      exact ⟨a, clOf_has _ _ _ _ ea (.inr a4) (by intro x a e; simp at e)⟩
end
end Mine

namespace Mine
section
variable {c : Cx} {d : Nat} {sc : Scope} {ρ : List Str}
/-- the tests of a comprehension -/
def Ets (c : Cx) (d : Nat) (sc : Scope) (ρ : List Str) (ifs : List Expr) (W : WT) : Prop :=
  ∀ env A E s φ sl H Q, EnvOK sc env → AOK d A → Ok c φ H s.heap → Vars c ρ φ s.heap env sl → W sl H Q →
    wpAny (model c.prog c.w) A (forIn ifs true fun c r => if r = true then do let ok ← isTrue c env (eval c env); pure (ForInStep.yield ok) else pure (ForInStep.yield r)) (PostT c φ s Q) E s
def tTrue : WT := fun _ H Q => Q true H
theorem ets_nil : Ets c d sc ρ [] tTrue := fun env A E s φ sl H Q eo ao ok vs w => wpAny_tests_nil ⟨H, φ, w, ok, .refl _ _, Rest.refl s⟩
theorem ets_one {t w} (h : Et c d sc ρ t w) : Ets c d sc ρ [t] w := fun env A E s φ sl H Q eo ao ok vs q => wpAny_tests_one (h env A E s φ sl H Q eo ao ok vs q)

def wCompGo (ns : List Int) (k : ItK) (t : WT) (e : WE) (fv : Sl) : List V → List V → HW → (List V → HW → Prop) → Prop
  | [], ys => fun H Q => Q ys H
  | v :: r, ys => fun H Q => t (some v :: fv) H fun b H₁ => if b then e (some v :: fv) H₁ fun y H₂ => k.inv ns H₂ ∧ wCompGo ns k t e fv r (ys ++ [y]) H₂ Q else k.inv ns H₁ ∧ wCompGo ns k t e fv r ys H₁ Q
def wComp (ns : List Int) (it : WI) (is : List Nat) (t : WT) (e : WE) : WE := fun sl H Q => it sl H fun k H₁ => k.items.length ≤ 100000 ∧ wCompGo ns k t e (fvOf sl is) k.items [] H₁ fun ys H₂ => Q (.loc H₂.length) (H₂ ++ [.list ys])

structure CompEnd (c : Cx) (φ : Mp) (s : Shared) (Q : List V → HW → Prop) (D C : Addr) (s' : Shared) (ys : List V) (H' : HW) (φ' : Mp) (xs : List Value) : Prop where
  q : Q ys H'
  ok : Ok c φ' H' s'.heap
  rep : RepVs c φ' s'.heap ys xs
  lst : s'.heap.PlainList D xs.toArray
  g : Grow φ s.heap φ' s'.heap
  r : Rest s s'
  dl : D ∉ φ'.l
  dz : D ∉ φ'.z
  cl : C ∉ φ'.l
  cz : C ∉ φ'.z
  dc : D ≠ C
  fd : s.heap.get? D = none
  fc : s.heap.get? C = none
  ns : ∃ m, s'.heap.Ns C m
theorem fresh0 {φ H} {h : Heap} (ok : Ok c φ H h) {a} (e : h.get? a = none) : c.h₀.get? a = none := by
  cases q : c.h₀.get? a with
  | none => rfl
  | some o => have := ok.base _ _ q; rw [e] at this; cases this
/-- the names are let go -/
theorem CompEnd.post {φ H s Q D C s' ys H' φ' xs} (x : CompEnd c φ s Q D C s' ys H' φ' xs) (ok0 : Ok c φ H s.heap) {h'} (sb : Heap.SameBut C s'.heap h') {Q' : V → HW → Prop} (hq : ∀ ys H', Q ys H' → Q' (.loc H'.length) (H' ++ [.list ys])) :
    PostE c φ s Q' (.ref D) { s' with heap := h' } := by
  obtain ⟨n, hD⟩ := x.lst
  have kp : ∀ b o, b ≠ C → s'.heap.get? b = some o → h'.get? b = some o := fun b o n e => (sb.2 b n).trans e
  have ok₁ : Ok c φ' H' h' := x.ok.same x.cl x.cz (fresh0 ok0 x.fc) kp
  have rp : RepVs c φ' h' ys xs := x.rep.keep fun b o z e => kp b o (fun q => x.cz (q ▸ z)) e
  have hD' := kp D _ x.dc hD
  refine ⟨_, _, ⟨φ'.l ++ [D], φ'.z⟩, hq _ _ x.q, ok₁.adopt x.dl x.dz (fresh0 ok0 x.fd) hD' (.list rp), .loc ?_, ?_, x.r.trans ⟨h', s'.toks, rfl⟩⟩
  · show (φ'.l ++ [D])[H'.length]? = some D
    rw [← x.ok.len]; simp
  · obtain ⟨δ, ζ, e1, e2, hd, hz⟩ := x.g.ext
    refine ⟨⟨δ ++ [D], ζ, by simp [e1], e2, fun a m => ?_, hz⟩, fun b o e n => kp b o (fun q => ?_) (x.g.keep b o e n), fun b o e => ?_⟩
    · rcases List.mem_append.mp m with m | m
      · exact hd a m
      · rw [List.mem_singleton.mp m]; exact x.fd
    · rw [q, x.fc] at e; cases e
    · obtain ⟨o', e'⟩ := x.g.live b o e
      exact ⟨o', kp b o' (fun q => by rw [q, x.fc] at e; cases e) e'⟩

theorem comp_loop {elt iter : Expr} {x : Str} {xp : Pos} {ifs : List Expr} {scope sc' : Scope} {pos : Pos} {I D : Addr} {cenv : Env} {A : Around} {R : Result → Shared → Prop} {xs : List Str} {t : WT} {e : WE} {fv : Sl} {k : ItK} {φ : Mp} {s s₁ : Shared} {φ₁ : Mp} {H₁ : HW} {Q : List V → HW → Prop}
    (G : Good c) (ht : Ets c d sc' (x :: xs) ifs t) (he : Ev c d sc' (x :: xs) elt e) (eo : EnvOK sc' cenv) (ao : AOK d A) (hk : sc'.kind = .function) (hx : sc'.names.lookup x = some .local ∨ sc'.names.lookup x = some .cell)
    (fI : s.heap.get? I = none) (fD : s.heap.get? D = none) (fC : s.heap.get? cenv.locals = none) (fX : ∀ b, cenv.cells.lookup x = some b → s.heap.get? b = none) (ok0 : ∃ H, Ok c φ H s.heap)
    (nID : I ≠ D) (nIC : I ≠ cenv.locals) (nDC : D ≠ cenv.locals) (nIx : ∀ y, cenv.cells.lookup y ≠ some I) (nDx : ∀ y, cenv.cells.lookup y ≠ some D)
    (q : wCompGo c.ns k t e fv k.items [] H₁ Q) (hlen : k.items.length ≤ 100000) (iv : k.inv c.ns H₁) (ia : ItAt c A φ₁ s₁.heap I 0 k) (Il : I ∉ φ₁.l) (Iz : I ∉ φ₁.z) (Dl : D ∉ φ₁.l) (Dz : D ∉ φ₁.z)
    (ok₁ : Ok c φ₁ H₁ s₁.heap) (vs₁ : Vars c (x :: xs) φ₁ s₁.heap cenv (none :: fv)) (lst : s₁.heap.PlainList D #[]) (g₁ : Grow φ s.heap φ₁ s₁.heap) (r₁ : Rest s s₁)
    (hR : ∀ s' ys H' φ' xs', CompEnd c φ s Q D cenv.locals s' ys H' φ' xs' → R (.ok .next) s') :
    codeAny (model c.prog c.w) A (.compLoop (.ListComp elt [⟨.Name x xp, iter, ifs, 0⟩] scope pos) 0 (.ref I) (.ref D) cenv) R s₁ := by
  obtain ⟨H0, ok0⟩ := ok0
  refine codeAny_compLoop_tests (fun n s' => ∃ (i : Nat) (φ' : Mp) (H' : HW) (ys : List V) (xs' : List Value) (u : Option V), i + n = k.items.length ∧ wCompGo c.ns k t e fv (k.items.drop i) ys H' Q ∧ k.inv c.ns H' ∧ ItAt c A φ' s'.heap I i k ∧ I ∉ φ'.l ∧ I ∉ φ'.z ∧ D ∉ φ'.l ∧ D ∉ φ'.z ∧
      Ok c φ' H' s'.heap ∧ Vars c (x :: xs) φ' s'.heap cenv (u :: fv) ∧ s'.heap.PlainList D xs'.toArray ∧ RepVs c φ' s'.heap ys xs' ∧ ys.length ≤ i ∧ Grow φ s.heap φ' s'.heap ∧ Rest s s')
    ?_ k.items.length ⟨0, φ₁, H₁, [], [], none, by simp, q, iv, ia, Il, Iz, Dl, Dz, ok₁, vs₁, lst, .nil, Nat.le_refl _, g₁, r₁⟩
  rintro n s' ⟨i, φ', H', ys, xs', u, hn, q, iv, ia, Il, Iz, Dl, Dz, ok', vs', lst', rep', hys, g', r'⟩
  cases n with
  | zero =>
    have hi : i = k.items.length := by omega
    refine ItAt.done G ao.handled ok' iv ia hi fun h' tk kp => ?_
    rw [List.drop_eq_nil_of_le (by omega)] at q
    obtain ⟨m, hn, _⟩ := vs'.loc
    refine hR _ ys H' φ' xs' ⟨q, ok'.same Il Iz (fresh0 ok0 fI) kp, rep'.keep fun b o z e => kp b o (fun w => Iz (w ▸ z)) e, lst'.at fun o e => kp D o (Ne.symm nID) e, ?_, r'.trans (Rest.mk s' _ _), Dl, Dz, vs'.offL, vs'.offZ, nDC, fD, fC, ⟨m, hn.at' fun o e => kp _ o (Ne.symm nIC) e⟩⟩
    exact ⟨g'.ext, fun b o e n => kp b o (fun q => by rw [q, fI] at e; cases e) (g'.keep b o e n), fun b o e => by
      obtain ⟨o', e'⟩ := g'.live b o e
      exact ⟨o', kp b o' (fun q => by rw [q, fI] at e; cases e) e'⟩⟩
  | succ n =>
    have hlt : i < k.items.length := by omega
    obtain ⟨v, ev⟩ : ∃ v, k.items[i]? = some v := ⟨_, List.getElem?_eq_getElem hlt⟩
    rw [List.drop_eq_getElem_cons hlt] at q
    have ev' : k.items[i] = v := by rw [List.getElem?_eq_getElem hlt] at ev; cases ev; rfl
    rw [ev'] at q
    refine ItAt.item G ok' iv ia ev fun y h₂ tk ry ia₂ kp₂ lv lt => ?_
    have ok₂ := ok'.same Il Iz (fresh0 ok0 fI) kp₂
    have vs₂ := vs'.same nIC nIx Iz kp₂
    have ry₂ : RepV c φ' h₂ v y := ry.keep fun b o z e => kp₂ b o (fun w => Iz (w ▸ z)) e
    refine wpAny_assign_Name (store_okK (s := { s' with heap := h₂, toks := tk }) (i := 0) rfl hx hk eo ok₂ vs₂ ry₂ fun s₃ ok₃ vs₃ gs₃ r₃ kp₃ => ?_)
    have kp3 : ∀ b o, b ≠ I → b ≠ cenv.locals → cenv.cells.lookup x ≠ some b → s'.heap.get? b = some o → s₃.heap.get? b = some o := fun b o n1 n2 n3 e => kp₃ b o n2 n3 (kp₂ b o n1 e)
    obtain ⟨oI, lo⟩ := lv
    have lI : s₃.heap.get? I = some oI := kp₃ I oI nIC (nIx x) lo
    have ia₃ : ItAt c A φ' s₃.heap I (i + 1) k := ia₂.keep (fun o e => kp₃ I o nIC (nIx x) e) fun _ _ e => e
    have lst₃ : s₃.heap.PlainList D xs'.toArray := lst'.at fun o e => kp3 D o (Ne.symm nID) nDC (nDx x) e
    have rep₃ : RepVs c φ' s₃.heap ys xs' := rep'.keep fun b o z e => kp3 b o (fun w => Iz (w ▸ z)) (fun w => vs'.offZ (w ▸ z)) (fun w => (vs'.offC x b w).2.1 z) e
    have g₃ : Grow φ s.heap φ' s₃.heap := by
      have nn : ∀ b o, s.heap.get? b = some o → b ≠ I ∧ b ≠ cenv.locals ∧ cenv.cells.lookup x ≠ some b := fun b o e => ⟨fun q => by (rw [q, fI] at e; cases e), fun q => by (rw [q, fC] at e; cases e), fun q => by (rw [fX b q] at e; cases e)⟩
      refine ⟨g'.ext, fun b o e n => kp3 b o (nn b o e).1 (nn b o e).2.1 (nn b o e).2.2 (g'.keep b o e n), fun b o e => ?_⟩
      obtain ⟨o', e'⟩ := g'.live b o e
      exact ⟨o', kp3 b o' (nn b o e).1 (nn b o e).2.1 (nn b o e).2.2 e'⟩
    have rr₃ : Rest s s₃ := (r'.trans (Rest.mk s' h₂ tk)).trans r₃
    have vs₃' : Vars c (x :: xs) φ' s₃.heap cenv (some v :: fv) := vs₃
    refine wpAny_mono (ht cenv A _ s₃ φ' (some v :: fv) H' _ eo ao ok₃ vs₃' q) (fun b s₄ p₄ => ?_) fun _ _ e => e
    obtain ⟨H₄, φ₄, q₄, ok₄, g₄, r₄⟩ := p₄
    have lI₄ := g₄.keep I oI lI Il
    have Il₄ := g₄.nin Il lI
    have Iz₄ := g₄.ninz Iz lI
    obtain ⟨nD, lD⟩ := id lst₃
    have Dl₄ := g₄.nin Dl lD
    have Dz₄ := g₄.ninz Dz lD
    have lst₄ : s₄.heap.PlainList D xs'.toArray := ⟨nD, g₄.keep _ _ lD Dl⟩
    have vs₄ := vs₃'.grow g₄
    have ia₄ : ItAt c A φ₄ s₄.heap I (i + 1) k := ia₃.keep (fun o e => g₄.keep I o e Il) fun _ _ e => g₄.at e
    cases b with
    | false =>
      simp only [Bool.false_eq_true, if_false] at q₄ ⊢
      exact ⟨n, Nat.lt_succ_self n, i + 1, φ₄, H₄, ys, xs', some v, by omega, q₄.2, q₄.1, ia₄, Il₄, Iz₄, Dl₄, Dz₄, ok₄, vs₄, lst₄, rep₃.grow g₄, by omega, g₃.trans g₄, rr₃.trans r₄⟩
    | true =>
      simp only [if_true] at q₄ ⊢
      refine wpAny_mono (he cenv A _ s₄ φ₄ (some v :: fv) H₄ _ eo ao ok₄ vs₄ q₄) (fun z s₅ p₅ => ?_) fun _ _ e => e
      obtain ⟨y', H₅, φ₅, q₅, ok₅, ry₅, g₅, r₅⟩ := p₅
      have lI₅ := g₅.keep I oI lI₄ Il₄
      have Il₅ := g₅.nin Il₄ lI₄
      have Iz₅ := g₅.ninz Iz₄ lI₄
      obtain ⟨nD₄, lD₄⟩ := id lst₄
      have Dl₅ := g₅.nin Dl₄ lD₄
      have Dz₅ := g₅.ninz Dz₄ lD₄
      have lst₅ : s₅.heap.PlainList D xs'.toArray := ⟨nD₄, g₅.keep _ _ lD₄ Dl₄⟩
      have vs₅ := vs₄.grow g₅
      have ia₅ : ItAt c A φ₅ s₅.heap I (i + 1) k := ia₄.keep (fun o e => g₅.keep I o e Il₄) fun _ _ e => g₅.at e
      have rep₅ : RepVs c φ₅ s₅.heap (ys ++ [y']) (xs' ++ [z]) := ((rep₃.grow g₄).grow g₅).append (.cons ry₅ .nil)
      refine wpAny_list_append_plain lst₅ (fun h₆ l₆ sb => ?_) (by rw [List.size_toArray, ← rep'.length, sizeLine_eq]; omega)
      have kp : ∀ b o, b ≠ D → s₅.heap.get? b = some o → h₆.get? b = some o := fun b o n e => (sb.2 b n).trans e
      refine ⟨n, Nat.lt_succ_self n, i + 1, φ₅, H₅, ys ++ [y'], xs' ++ [z], some v, by omega, q₅.2, q₅.1, ia₅.keep (fun o e => kp I o nID e) fun _ _ e => e, Il₅, Iz₅, Dl₅, Dz₅,
        ok₅.same Dl₅ Dz₅ (fresh0 ok0 fD) kp, vs₅.same nDC nDx Dz₅ kp, by simpa using l₆, rep₅.keep fun b o z e => kp b o (fun w => Dz₅ (w ▸ z)) e, by simp; omega, ?_, ((rr₃.trans r₄).trans r₅).trans ⟨h₆, s₅.toks, rfl⟩⟩
      have g₅' := (g₃.trans g₄).trans g₅
      exact ⟨g₅'.ext, fun b o e n => kp b o (fun q => by rw [q, fD] at e; cases e) (g₅'.keep b o e n), fun b o e => by
        obtain ⟨o', e'⟩ := g₅'.live b o e
        exact ⟨o', kp b o' (fun q => by rw [q, fD] at e; cases e) e'⟩⟩
end
end Mine

namespace Mine
section
variable {c : Cx} {d : Nat} {sc : Scope} {ρ : List Str}
theorem ItAt.self {A E φ I i k} {s : Shared} {R : Value → Shared → Prop} (x : ItAt c A φ s.heap I i k) (h : R (.ref I) s) : wpAny (model c.prog c.w) A (pyIter (.ref I)) R E s := by
  cases k with
  | list kv xs => obtain ⟨a, r, it⟩ := x; exact wpAny_pyIter_listiter it h
  | walk xs => obtain ⟨P, St, W, hp, hl, st⟩ := x; exact W.self _ _ _ _ st h
theorem comp_block {elt iter : Expr} {x : Str} {xp : Pos} {ifs : List Expr} {scope : Scope} {pos : Pos} {env : Env} {A : Around} {E : Value → Shared → Prop} {s : Shared} {φ : Mp} {sl : Sl} {H : HW} {is xs} {wi : WI} {t : WT} {e : WE} {RR : Value → Addr → Result → Shared → Prop} {Q : List V → HW → Prop}
    (G : Good c) (S : CSc sc scope x is xs ρ) (hi : Ei c d sc ρ iter wi) (ht : Ets c d (relS scope sc) (x :: xs) ifs t) (he : Ev c d (relS scope sc) (x :: xs) elt e)
    (eo : EnvOK sc env) (ao : AOK d A) (ok : Ok c φ H s.heap) (vs : Vars c ρ φ s.heap env sl)
    (w : wi sl H fun k H₁ => k.items.length ≤ 100000 ∧ wCompGo c.ns k t e (fvOf sl is) k.items [] H₁ Q)
    (hRR : ∀ D C s' ys H' φ' xs', CompEnd c φ s Q D C s' ys H' φ' xs' → RR (.ref D) C (.ok .next) s') :
    wpAny (model c.prog c.w) A (eval iter env) (fun xv s₁ => wpAny (model c.prog c.w) A (pyIter xv) (fun it s₂ => wpAny (model c.prog c.w) A (newList []) (fun acc s₃ =>
      wpAny (model c.prog c.w) A (newFunctionEnv scope env.globals (clOf env scope.names []) [] env.qual none .none (some env)) (fun cenv s₄ =>
        codeAny (model c.prog c.w) A (.compStart (.ListComp elt [⟨.Name x xp, iter, ifs, 0⟩] scope pos) 0 it acc { cenv with scope := relabel scope env }) (RR acc cenv.locals) s₄) E s₃) E s₂) E s₁) E s := by
  refine wpAny_mono (hi env A E s φ sl H _ eo ao ok vs w) (fun xv s₁ p₁ => wpAny_mono p₁ (fun it s₂ p₂ => ?_) fun _ _ e => e) fun _ _ e => e
  obtain ⟨I, k, H₂, φ₂, rfl, ⟨hlen, q⟩, iv, ia, fI, Il, Iz, ok₂, g₂, r₂⟩ := p₂
  have vs₂ := vs.grow g₂
  refine wpAny_newObj_type (hd := by size_fits) ?_
  have kp₃ : ∀ b o, s₂.heap.get? b = some o → (s₂.heap.push { cls := .type "list", dict := none, data := .seq ([] : List Value).toArray }).get? b = some o := fun b o e => Heap.get?_push_of_some _ e
  have ok₃ := ok₂.keep kp₃
  have g₃ : Grow φ₂ s₂.heap φ₂ (s₂.heap.push { cls := .type "list", dict := none, data := .seq ([] : List Value).toArray }) := .of_keep kp₃
  have fD : s.heap.get? s₂.heap.objs.size = none := g₂.none (new_none _)
  obtain ⟨oI, lI⟩ := ia.live
  refine comp_env (s := { s₂ with heap := s₂.heap.push { cls := .type "list", dict := none, data := .seq ([] : List Value).toArray } }) (R := fun cenv' s₄ => codeAny (model c.prog c.w) A (.compStart (.ListComp elt [⟨.Name x xp, iter, ifs, 0⟩] scope pos) 0 (.ref I) (.ref s₂.heap.objs.size) cenv') (RR (.ref s₂.heap.objs.size) cenv'.locals) s₄) S eo ok₃ (vs₂.grow g₃) fun cenv s₄ hC eoC fX fY vsC kp₄ r₄ => ?_
  have ok₄ := ok₃.keep kp₄
  have lD : s₄.heap.get? s₂.heap.objs.size = some { cls := .type "list", dict := none, data := .seq ([] : List Value).toArray } := kp₄ _ _ (Heap.get?_push_size _ rfl)
  have sz : cenv.locals = s₂.heap.objs.size + 1 := by rw [hC]; exact Heap.size_push ..
  have nf : ∀ b, (s₂.heap.push { cls := .type "list", dict := none, data := .seq ([] : List Value).toArray }).get? b = none → s.heap.get? b = none := fun b e => (g₂.trans g₃).none e
  have ia₄ : ItAt c A φ₂ s₄.heap I 0 k := ia.keep (fun o e => kp₄ _ _ (kp₃ _ _ e)) fun _ _ e => e
  have notcell : ∀ a o, s₂.heap.get? a = some o → a ≠ cenv.locals := fun a o e q => by
    have h1 := Heap.lt_size e
    rw [q, sz] at h1
    exact absurd h1 (Nat.not_lt.mpr (Nat.le_succ _))
  have cellObj : ∀ y a, cenv.cells.lookup y = some a → ∀ o, s₄.heap.get? a = some o → ∃ z, o.data = .cell z := fun y a e o eo' => by
    obtain ⟨_, _, _, z, o', ho', hd⟩ := vsC.offC y a e
    rw [ho'] at eo'; cases eo'; exact ⟨z, hd⟩
  have loop : codeAny (model c.prog c.w) A (.compLoop (.ListComp elt [⟨.Name x xp, iter, ifs, 0⟩] scope pos) 0 (.ref I) (.ref s₂.heap.objs.size) cenv) (RR (.ref s₂.heap.objs.size) cenv.locals) s₄ := by
    refine comp_loop G ht he eoC ao S.kind (.inl ?_) fI fD (nf _ (by rw [hC]; exact new_none _)) (fun b e => nf b (fX b e)) ⟨H, ok⟩ (fun q => ?_) (fun q => notcell I oI lI q) (fun q => by rw [sz] at q; exact absurd q (Nat.ne_of_lt (Nat.lt_succ_self _)))
      (fun y e => ?_) (fun y e => ?_) q hlen iv ia₄ Il Iz (new_unz ok₂).1 (new_unz ok₂).2 ok₄ vsC ⟨_, lD⟩ ((g₂.trans g₃).trans (.of_keep kp₄)) ((r₂.trans ⟨_, s₂.toks, rfl⟩).trans r₄) fun s' ys H' φ' xs' ce => hRR _ _ s' ys H' φ' xs' ce
    · have := lookup_relabel_local (env := env) S.loc
      rw [show (relS scope sc) = relabel scope env from (relabel_eq eo).symm]
      exact this
    · have := Heap.lt_size lI
      rw [q] at this; exact Nat.lt_irrefl _ this
    · rcases fY y I e with h | h
      · obtain ⟨_, _, _, u', o3, ho3, _⟩ := vs.offC y I h
        rw [fI] at ho3; cases ho3
      · have := kp₃ _ _ lI
        rw [show (s₂.heap.push { cls := .type "list", dict := none, data := .seq ([] : List Value).toArray }).get? I = none from h] at this; cases this
    · obtain ⟨z, hd⟩ := cellObj y _ e _ lD
      cases hd
  exact codeAny_compStart_list loop (ia₄.self loop)
theorem CompPost.mk {φ s} {A : Around} {E : Value → Shared → Prop} {H} {Q : List V → HW → Prop} {Q' : V → HW → Prop} {D C s' ys H' φ' xs} (ok : Ok c φ H s.heap) (x : CompEnd c φ s Q D C s' ys H' φ' xs) (hq : ∀ ys H', Q ys H' → Q' (.loc H'.length) (H' ++ [.list ys])) :
    compPost (model c.prog c.w) A E none (PostE c φ s Q') (.ref D) C (.ok .next) s' := by
  obtain ⟨m, hn⟩ := x.ns
  exact ⟨m, hn, fun h' sb => x.post ok sb hq⟩
theorem ev_comp {elt iter : Expr} {x : Str} {xp : Pos} {ifs : List Expr} {scope : Scope} {pos : Pos} {is xs} {wi : WI} {t : WT} {e : WE} (G : Good c) (S : CSc sc scope x is xs ρ)
    (hi : Ei c d sc ρ iter wi) (ht : Ets c d (relS scope sc) (x :: xs) ifs t) (he : Ev c d (relS scope sc) (x :: xs) elt e) (hs : ∀ env x, foldedSetIterable iter env x = pure x) :
    Ev c d sc ρ (.ListComp elt [⟨.Name x xp, iter, ifs, 0⟩] scope pos) (wComp c.ns wi is t e) := by
  intro env A E s φ sl H Q eo ao ok vs w
  rw [eval_ListComp]
  show wpAny _ _ (comprehension _ scope env _ (newList []) false (eval iter env)) _ _ _
  refine wpAny_comprehension_free rfl (hs env) (closureFor_eq (S.closed eo vs)) S.kind S.names ?_
  exact comp_block G S hi ht he eo ao ok vs w fun D C s' ys H' φ' xs' ce => CompPost.mk ok ce fun _ _ q => q
theorem ex_setC {i : Nat} {y : Str} {yp : Pos} {elt iter : Expr} {x : Str} {xp : Pos} {ifs : List Expr} {scope : Scope} {pos spos : Pos} {is : List Nat} {xs : List Str} {wi : WI} {t : WT} {e : WE} (G : Good c) (S : CSc sc scope x is xs ρ)
    (hi : Ei c d sc ρ iter wi) (ht : Ets c d (relS scope sc) (x :: xs) ifs t) (he : Ev c d (relS scope sc) (x :: xs) elt e) (hy : ρ[i]? = some y) (hs : ∀ env x, foldedSetIterable iter env x = pure x)
    (hl : sc.names.lookup y = some .local) (hw : ∀ env, env.scope = sc → swapsWith (.ListComp elt [⟨.Name x xp, iter, ifs, 0⟩] scope pos) (some (.Name y yp)) spos.line env = pure true) :
    Ex c d sc ρ (.Assign [.Name y yp] (.ListComp elt [⟨.Name x xp, iter, ifs, 0⟩] scope pos) spos) (wSet i (wComp c.ns wi is t e)) := by
  intro env A E s φ sl H Q eo ao ok vs w
  rw [exec_Assign_Name_used _ _ _ _ (hw env eo.scope)]
  refine wpAny_bind (wpAny_standAt (wpAny_bind ?_))
  show wpAny _ A (do let _ ← comprehension (.ListComp elt [⟨.Name x xp, iter, ifs, 0⟩] scope pos) scope env _ (newList []) false (eval iter env) (some (assign (.Name y yp) env))) _ _ s
  refine wpAny_bind (wpAny_mono (wpAny_comprehension_free (Q := fun _ s' => PostS c ρ env φ s Q .next s') rfl (hs env) (closureFor_eq (S.closed eo vs)) S.kind S.names ?_) (fun _ s' hq => wpAny_pure (wpAny_pure hq)) fun _ _ e => e)
  refine comp_block G S hi ht he eo ao ok vs w fun D C s' ys H' φ' xs' ce => ?_
  obtain ⟨n, hD⟩ := ce.lst
  have ok₁ : Ok c ⟨φ'.l ++ [D], φ'.z⟩ (H' ++ [.list ys]) s'.heap := ce.ok.adopt ce.dl ce.dz (fresh0 ok ce.fd) hD (.list ce.rep)
  have rv : RepV c ⟨φ'.l ++ [D], φ'.z⟩ s'.heap (.loc H'.length) (.ref D) := .loc (by
    show (φ'.l ++ [D])[H'.length]? = some D
    rw [← ce.ok.len]; simp)
  have g₁ : Grow φ s.heap ⟨φ'.l ++ [D], φ'.z⟩ s'.heap := by
    obtain ⟨δ, ζ, e1, e2, hd, hz⟩ := ce.g.ext
    refine ⟨⟨δ ++ [D], ζ, by simp [e1], e2, fun a m => ?_, hz⟩, ce.g.keep, ce.g.live⟩
    rcases List.mem_append.mp m with m | m
    · exact hd a m
    · rw [List.mem_singleton.mp m]; exact ce.fd
  have fL : C ≠ env.locals := fun q => by
    obtain ⟨m, ⟨o, _, _, ho, _⟩, _⟩ := vs.loc
    rw [← q, ce.fc] at ho; cases ho
  have fCl : ∀ z, env.cells.lookup z ≠ some C := fun z q => by
    obtain ⟨_, _, _, u, o, ho, _⟩ := vs.offC z C q
    rw [ce.fc] at ho; cases ho
  have vs₁ : Vars c ρ ⟨φ'.l ++ [D], φ'.z⟩ s'.heap env sl := vs.grow g₁
  refine wpAny_assign_Name (store_okK (s := s') hy (.inl hl) S.skind eo ok₁ vs₁ rv fun s₂ ok₂ vs₂ gs₂ r₂ kp₂ => ?_)
  obtain ⟨m, hn⟩ := ce.ns
  refine ⟨m, hn.at' fun o e => kp₂ C o fL (fCl y) e, fun h₃ sb => ?_⟩
  have cl' : C ∉ φ'.l ++ [D] := fun q => (List.mem_append.mp q).elim ce.cl fun q => ce.dc (List.mem_singleton.mp q).symm
  have kp₃ : ∀ b o, b ≠ C → s₂.heap.get? b = some o → h₃.get? b = some o := fun b o n e => (sb.2 b n).trans e
  refine ⟨.next, _, _, ⟨φ'.l ++ [D], φ'.z⟩, ce.q, ok₂.same cl' ce.cz (fresh0 ok ce.fc) kp₃, vs₂.same fL fCl ce.cz kp₃, trivial, ?_, ((ce.r.trans r₂).trans ⟨h₃, s₂.toks, rfl⟩)⟩
  have g₂ := g₁.toS.trans gs₂
  exact ⟨g₂.ext, fun b o e n1 n2 n3 => kp₃ b o (fun q => by rw [q, ce.fc] at e; cases e) (g₂.keep b o e n1 n2 n3), fun b o e => by
    obtain ⟨o', e'⟩ := g₂.live b o e
    exact ⟨o', kp₃ b o' (fun q => by rw [q, ce.fc] at e; cases e) e'⟩⟩
end
end Mine

namespace Mine
section
variable {c : Cx} {d : Nat} {sc : Scope} {ρ : List Str}
/-! ### identity -/
def isV (c : Cx) : V → V → Option Bool
  | v, .none => some (isN v)
  | .none, v => some (isN v)
  | .bool a, .bool b => some (a == b)
  | .loc i, .loc j => some (i == j)
  | .loc _, .obj _ _ => some false
  | .obj _ _, .loc _ => some false
  | .loc _, .glob _ => some false
  | .obj _ _, .glob _ => some false
  | .glob a, .loc _ => if (c.gC a).isSome then some false else none
  | .glob a, .obj _ _ => if (c.gC a).isSome then some false else none
  | .glob a, .glob b => if a = b then some true else if (c.gC a).isSome then some false else none
  | _, _ => none
theorem ok_obj {φ : Mp} {H h} {k : Nat} {a} (ok : Ok c φ H h) (e : φ.l[k]? = some a) : ∃ o, h.get? a = some o ∧ o.cls ≠ .type "tuple" := by
  have hk : k < H.length := by rw [← ok.len]; exact (List.getElem?_eq_some_iff.mp e).1
  obtain ⟨o, h1, h2⟩ := ok.objs k a H[k] e (List.getElem?_eq_getElem hk)
  refine ⟨o, h1, ?_⟩
  generalize H[k] = lo at h2
  cases h2 <;> (intro q; simp at q)
theorem isSame_ok {A : Around} {E : Value → Shared → Prop} {s : Shared} {φ H v w x y b} {R : Bool → Shared → Prop} (G : Good c) (ok : Ok c φ H s.heap) (rv : RepV c φ s.heap v x) (rw' : RepV c φ s.heap w y) (e : isV c v w = some b) (h : R b s) : wpAny (model c.prog c.w) A (isSame x y) R E s := by
  have N : ∀ {a a' : Addr} {o o'}, a ≠ a' → s.heap.get? a = some o → s.heap.get? a' = some o' → o.cls ≠ .type "tuple" → some false = some b → wpAny (model c.prog c.w) A (isSame (.ref a) (.ref a')) R E s := fun n h1 h2 h3 h4 => by
    cases h4; exact wpAny_isSame_ref_other n h1 h2 h3 h
  have P : ∀ {a b' : Value}, plainIs a b' = true → some (a == b') = some b → wpAny (model c.prog c.w) A (isSame a b') R E s := fun h1 h2 => by
    cases h2; exact wpAny_isSame_plain h1 h
  have gN : ∀ {a : Addr} {o}, c.h₀.get? a = some o → (if (c.gC a).isSome = true then some false else none) = some b → some false = some b ∧ ∃ o', s.heap.get? a = some o' ∧ o'.cls ≠ .type "tuple" := fun h1 h2 => by
    split at h2
    · rename_i q
      obtain ⟨⟨k, n⟩, ek⟩ := Option.isSome_iff_exists.mp q
      obtain ⟨b', e1, e2⟩ := G.gl _ k n ek
      exact ⟨h2, _, ok.base _ _ e1, by intro q; cases q⟩
    · cases h2
  cases rw' with
  | none =>
    have : isV c v .none = some (isN v) := by cases v <;> rfl
    rw [this] at e
    refine P (by cases rv <;> rfl) (by rw [isN_of rv]; exact e)
  | bool =>
    cases rv with
    | none => exact P rfl e
    | bool => rename_i b1 b2; refine P rfl ?_; rw [← e]; cases b1 <;> cases b2 <;> rfl
    | _ => cases e
  | int => cases rv with
    | none => exact P rfl e
    | _ => cases e
  | str => cases rv with
    | none => exact P rfl e
    | _ => cases e
  | script => cases rv with
    | none => exact P rfl e
    | _ => cases e
  | tup => cases rv with
    | none => exact P rfl e
    | _ => cases e
  | loc e2 => cases rv with
    | none => exact P rfl e
    | loc e1 =>
      rename_i k2 a2 k1 a1
      obtain ⟨o1, h1, c1⟩ := ok_obj ok e1
      obtain ⟨o2, h2, c2⟩ := ok_obj ok e2
      simp only [isV] at e
      by_cases q : k1 = k2
      · subst q
        rw [e1] at e2; cases e2
        rw [beq_self_eq_true] at e
        cases e
        exact wpAny_isSame_ref_self h
      · refine N (fun z => q ?_) h1 h2 c1 (by rw [← e]; simp [q])
        subst z
        obtain ⟨l1, e1⟩ := List.getElem?_eq_some_iff.mp e1
        obtain ⟨l2, e2⟩ := List.getElem?_eq_some_iff.mp e2
        exact (List.getElem_inj (h₀ := l1) (h₁ := l2) ok.nodup).mp (e1.trans e2.symm)
    | obj n z m y n0 o1 es o2 r =>
      obtain ⟨o3, h2, c2⟩ := ok_obj ok e2
      exact N (fun q => n (q ▸ List.mem_of_getElem? e2)) o1 h2 (by intro q; cases q) e
    | glob e1 =>
      obtain ⟨e, o', h1, c1⟩ := gN e1 e
      obtain ⟨o3, h2, c2⟩ := ok_obj ok e2
      exact N (fun q => ok.off _ _ e1 (q ▸ List.mem_of_getElem? e2)) h1 h2 c1 e
    | _ => cases e
  | obj n z m y n0 o1 es o2 r => cases rv with
    | none => exact P rfl e
    | loc e1 =>
      obtain ⟨o3, h2, c2⟩ := ok_obj ok e1
      exact N (fun q => n (q ▸ List.mem_of_getElem? e1)) h2 o1 c2 e
    | glob e1 =>
      obtain ⟨e, o', h1, c1⟩ := gN e1 e
      exact N (fun q => by rw [← q, e1] at n0; cases n0) h1 o1 c1 e
    | _ => cases e
  | glob e2 => cases rv with
    | none => exact P rfl e
    | loc e1 =>
      obtain ⟨o3, h2, c2⟩ := ok_obj ok e1
      exact N (fun q => ok.off _ _ e2 (q ▸ List.mem_of_getElem? e1)) h2 (ok.base _ _ e2) c2 e
    | obj n z m y n0 o1 es o2 r => exact N (fun q => by rw [q, e2] at n0; cases n0) o1 (ok.base _ _ e2) (by intro q; cases q) e
    | glob e1 =>
      simp only [isV] at e
      split at e
      · rename_i q; subst q; cases e; exact wpAny_isSame_ref_self h
      · rename_i q
        obtain ⟨e, o', h1, c1⟩ := gN e1 e
        exact N q h1 (ok.base _ _ e2) c1 e
    | _ => cases e
def wIs (c : Cx) (f : Bool → Bool) : WB := fun v w H Q => match isV c v w with | some b => Q (.bool (f b)) H | none => False
theorem is_ok (G : Good c) : CmpOK c d .Is (wIs c id) := by
  intro A E s φ H v w x y Q ao ok rv rw' q
  unfold wIs at q
  split at q
  · rename_i b e
    show wpAny _ A (do return Value.bool (← isSame x y) : Sem Value) _ E s
    exact wpAny_bind (isSame_ok G ok rv rw' e (wpAny_pure (.here q ok .bool (fun _ _ e => e) (Rest.refl s))))
  · exact q.elim
theorem isnot_ok (G : Good c) : CmpOK c d .IsNot (wIs c not) := by
  intro A E s φ H v w x y Q ao ok rv rw' q
  unfold wIs at q
  split at q
  · rename_i b e
    show wpAny _ A (do return Value.bool (!(← isSame x y)) : Sem Value) _ E s
    exact wpAny_bind (isSame_ok G ok rv rw' e (wpAny_pure (.here q ok .bool (fun _ _ e => e) (Rest.refl s))))
  · exact q.elim
end
end Mine

namespace Mine
section
variable {c : Cx} {d : Nat} {sc : Scope} {ρ : List Str}
/-! ### the conditional expression -/
def wIfE (t : WT) (a b : WE) : WE := fun sl H Q => t sl H fun r H' => if r then a sl H' Q else b sl H' Q
theorem ev_ifexp {t a b pos wt wa wb} (ht : Et c d sc ρ t wt) (ha : Ev c d sc ρ a wa) (hb : Ev c d sc ρ b wb) : Ev c d sc ρ (.IfExp t a b pos) (wIfE wt wa wb) := by
  intro env A E s φ sl H Q eo ao ok vs q
  refine IfExp_ (wpAny_mono (ht env A E s φ sl H _ eo ao ok vs q) (fun y s₁ p₁ => ?_) fun _ _ e => e)
  obtain ⟨H₁, φ₁, w₁, ok₁, g₁, r₁⟩ := p₁
  cases y with
  | true => simp only [if_true] at w₁ ⊢; exact wpAny_mono (ha env A E s₁ φ₁ sl H₁ Q eo ao ok₁ (vs.grow g₁) w₁) (fun f s₂ p₂ => p₂.shift g₁ r₁) fun _ _ e => e
  | false => simp only [Bool.false_eq_true, if_false] at w₁ ⊢; exact wpAny_mono (hb env A E s₁ φ₁ sl H₁ Q eo ao ok₁ (vs.grow g₁) w₁) (fun f s₂ p₂ => p₂.shift g₁ r₁) fun _ _ e => e
/-! ### a global object -/
theorem ev_glob {x np a o} (G : Good c) (hk : sc.kind = .function) (hx : sc.names.lookup x = some .globalImplicit) (hv : nsIn c.K mainGlobals x = some (some (.ref a))) (ho : c.K.lookup a = some o) (hd : (x == ("__debug__" : Str)) = false) : Ev c d sc ρ (.Name x np) (wK (.glob a)) := by
  intro env A E s φ sl H Q eo ao ok vs q
  exact name_glob G eo ok hk hx (mgIn G hv) hd (.here q ok (.glob (G.X _ _ ho)) (fun _ _ e => e) (Rest.refl s))
/-! ### isinstance -/
def isiV (c : Cx) (H : HW) (k : Nat) (v : V) : Option Bool := match v with
  | .int _ => some false
  | .none => some false
  | v => if clsV c H v = some k then some true else none
def bIsi (c : Cx) (k : Nat) (C : Addr) : WF := fun args H Q => match args with
  | [v, .glob a] => a = C ∧ (match isiV c H k v with | some b => Q (.bool b) H | none => False)
  | _ => False
theorem isi_ok {k : Nat} (G : Good c) (h1 : isNotIn c.K "int" (c.cls k) = true) (h2 : isNotIn c.K "NoneType" (c.cls k) = true) : FnOK c d (.builtin "isinstance") (bIsi c k (c.cls k)) := by
  intro A E s φ H args vals Q ao ok r q
  unfold bIsi at q
  split at q
  · rename_i v a
    obtain ⟨rfl, q⟩ := q
    cases r with
    | cons rv rs =>
      cases rs with
      | cons rw' rs =>
        cases rs
        cases rw' with
        | glob ho =>
          split at q
          · rename_i b eb
            unfold isiV at eb
            split at eb
            · cases eb
              cases rv
              exact isn_call (P := fun _ => True) (ok.X G) (fun _ => Looks.of_pure rfl) h1 (by intro e; cases e) trivial int_cls (.here q ok .bool (fun _ _ e => e) (Rest.mk s s.heap _))
            · cases eb
              cases rv
              exact isn_call (P := fun _ => True) (ok.X G) (fun _ => Looks.of_pure rfl) h2 (by intro e; cases e) trivial none_cls (.here q ok .bool (fun _ _ e => e) (Rest.mk s s.heap _))
            · split at eb
              · rename_i hc
                cases eb
                obtain ⟨a, ox, rfl, I, _⟩ := inst_of G ok rv hc
                exact isi_call (ok.X G) (fun M => I.type) (by unfold isIn; simp) (by intro e; cases e) (.here q ok .bool (fun _ _ e => e) (Rest.refl s))
              · cases eb
          · exact q.elim
  · exact q.elim
/-! ### texts -/
def onS (f : Str → Str → V) : WB := fun v w H Q => match v, w with | .str a, .str b => Q (f a b) H | _, _ => False
theorem eqS_ok : CmpOK c d .Eq (onS fun a b => .bool (a == b)) := by
  intro A E s φ H v w x y Q ao ok rv rw' q
  unfold onS at q
  split at q
  · cases rv; cases rw'
    exact eq_str (.here q ok .bool (fun _ _ e => e) (Rest.refl s))
  · exact q.elim
/-- the length of a list or of a text -/
def bLen2 (ns : List Int) : WF := fun args H Q => match args with
  | [.str x] => x.length ≤ 1000000 ∧ Q (.int x.length) H
  | args => bLen ns args H Q
theorem len2_ok (G : Good c) : FnOK c d (.builtin "len") (bLen2 c.ns) := by
  intro A E s φ H args vals Q ao ok r q
  unfold bLen2 at q
  split at q
  · cases r with
    | cons rv rs =>
      cases rs
      cases rv
      exact len_str (by omega) (.here q.2 ok .int (fun _ _ e => e) (Rest.mk s s.heap _))
  · exact len_ok G A E s φ H _ vals Q ao ok r q
/-- the signs of a text, one by one -/
def signs (x : Str) : List V := x.cps.toList.map fun c => .str ⟨#[c]⟩
def iStr (a : WE) : WI := fun sl H Q => a sl H fun v H' => match v with | .str x => Q (.walk (signs x)) H' | _ => False
theorem ei_str {e a} (he : Ev c d sc ρ e a) : Ei c d sc ρ e (iStr a) := by
  intro env A E s φ sl H Q eo ao ok vs w
  refine wpAny_mono (he env A E s φ sl H _ eo ao ok vs w) (fun x s₁ p₁ => ?_) fun _ _ e => e
  obtain ⟨v, H₁, φ₁, w₁, ok₁, rv, g₁, r₁⟩ := p₁
  split at w₁
  · rename_i x
    cases rv
    have fin : ∀ (o : Obj) (St : Nat → Heap → Prop), Walks c.prog c.w A s₁.heap.objs.size [s₁.heap.objs.size] [s₁.heap.objs.size] x.cps.size (SignAt x) St → (∀ i h, St i h → ∃ o, h.get? s₁.heap.objs.size = some o) → St 0 (s₁.heap.push o) →
        PostI c A φ s Q (.ref s₁.heap.objs.size) { s₁ with heap := s₁.heap.push o } := fun o St W hl hst => by
      have kp : ∀ b o', s₁.heap.get? b = some o' → (s₁.heap.push o).get? b = some o' := fun b o e => Heap.get?_push_of_some _ e
      refine ⟨_, _, H₁, φ₁, rfl, w₁, trivial, ⟨SignAt x, St, ?_, ?_, hl, hst⟩, g₁.none (new_none _), (new_unz ok₁).1, (new_unz ok₁).2, ok₁.keep kp, g₁.trans (.of_keep kp), r₁.trans (Rest.mk s₁ _ s₁.toks)⟩
      · have : (signs x).length = x.cps.size := by simp [signs]
        rw [this]; exact W
      · rintro i v ⟨cc, u, h1, rfl⟩
        exact ⟨.str ⟨#[cc]⟩, by simp [signs, h1], fun T e => (nomatch e), fun _ _ => .str⟩
    cases ha : x.cps.all (· < 128)
    · exact wpAny_pyIter_wide ha (fin _ _ (Walks.strWide ao.handled _ x _) (fun i h st => let ⟨o, ho, _⟩ := st; ⟨o, ho⟩) ⟨_, Heap.get?_push_size _ rfl, rfl, rfl⟩)
    · exact wpAny_pyIter_ascii ha (fin _ _ (Walks.strAscii ao.handled _ x _) (fun i h st => let ⟨o, ho, _⟩ := st; ⟨o, ho⟩) ⟨_, Heap.get?_push_size _ rfl, rfl, rfl⟩)
  · exact w₁.elim
/-! ### range with a step of two -/
theorem small_two {a b : Int} (h1 : -1000000 < a ∧ a < 1000000) (h2 : -1000000 < b ∧ b < 1000000) : Builtin.Range.small a b 2 = true := by
  unfold Builtin.Range.small Builtin.Range.rangeSize
  simp only [Builtin.Range.rangeFitsLong, Bool.and_eq_true, Bool.or_eq_true, decide_eq_true_eq, beq_iff_eq, show (2 : Int) > 0 by decide, if_true]
  split <;> omega
def iRange3 (x y z : WE) : WI := fun sl H Q => x sl H fun v H₁ => y sl H₁ fun w H₂ => z sl H₂ fun u H₃ => match v, w, u with
  | .int a, .int b, .int 2 => (-1000000 < a ∧ a < 1000000) ∧ (-1000000 < b ∧ b < 1000000) ∧ Q (.walk (rangeL a b 2)) H₃ | _, _, _ => False
theorem ei_range3 {x np pos e₁ e₂ e₃ a₁ a₂ a₃} (G : Good c) (hk : sc.kind = .function) (hx : sc.names.lookup x = some .globalImplicit) (hg : c.mg x = none) (hv : c.mb x = some (.type "range")) (hd : (x == ("__debug__" : Str)) = false)
    (h₁ : Ev c d sc ρ e₁ a₁) (h₂ : Ev c d sc ρ e₂ a₂) (h₃ : Ev c d sc ρ e₃ a₃) (hs : ∀ env, starEach [e₁, e₂, e₃] env = [(false, eval e₁ env), (false, eval e₂ env), (false, eval e₃ env)]) : Ei c d sc ρ (.Call (.Name x np) [e₁, e₂, e₃] [] pos) (iRange3 a₁ a₂ a₃) := by
  intro env A E s φ sl H Q eo ao ok vs w
  refine Call_Name rfl (name_built G eo ok hk hx hg hv hd ?_)
  rw [hs env]
  refine PyProof.Rows.callWith_type rfl (Calls.evalArgs_plain (Calls.spliced_cons ?_))
  refine wpAny_mono (h₁ env A E s φ sl H _ eo ao ok vs w) (fun y s₁ p₁ => ?_) fun _ _ e => e
  obtain ⟨v, H₁, φ₁, w₁, ok₁, rv, g₁, r₁⟩ := p₁
  refine Calls.spliced_cons ?_
  refine wpAny_mono (h₂ env A E s₁ φ₁ sl H₁ _ eo ao ok₁ (vs.grow g₁) w₁) (fun y₂ s₂ p₂ => ?_) fun _ _ e => e
  obtain ⟨v₂, H₂, φ₂, w₂, ok₂, rv₂, g₂, r₂⟩ := p₂
  refine Calls.spliced_cons ?_
  refine wpAny_mono (h₃ env A E s₂ φ₂ sl H₂ _ eo ao ok₂ ((vs.grow g₁).grow g₂) w₂) (fun y₃ s₃ p₃ => ?_) fun _ _ e => e
  obtain ⟨v₃, H₃, φ₃, w₃, ok₃, rv₃, g₃, r₃⟩ := p₃
  refine Calls.spliced_nil ?_
  split at w₃
  · rename_i i j
    cases rv with
    | @int _ t₁ =>
      cases rv₂ with
      | @int _ t₂ =>
        cases rv₃ with
        | @int _ t₃ =>
          refine call_range_3 (by decide) ?_ (Or.inl (PyProof.noPylong_small (by decide)))
          have kp : ∀ b o, s₃.heap.get? b = some o → (s₃.heap.push { cls := .type "range", data := .fields #[.int i t₁, .int j t₂, .int 2 t₃] }).get? b = some o := fun b o e => Heap.get?_push_of_some _ e
          refine wpAny_pyIter_range (s := { s₃ with heap := s₃.heap.push { cls := .type "range", data := .fields #[.int i t₁, .int j t₂, .int 2 t₃] } }) (IsRange.new ..) (small_two w₃.1 w₃.2.1) ?_
          have ok₄ := ok₃.keep kp
          have kp' : ∀ b o, (s₃.heap.push { cls := .type "range", data := .fields #[.int i t₁, .int j t₂, .int 2 t₃] }).get? b = some o → ((s₃.heap.push { cls := .type "range", data := .fields #[.int i t₁, .int j t₂, .int 2 t₃] }).push { cls := .type "range_iterator", data := .fields #[rawInt i, rawInt (Builtin.Range.rangeSize i j 2), rawInt 2] }).get? b = some o := fun b o e => Heap.get?_push_of_some _ e
          have g := ((g₁.trans g₂).trans g₃)
          exact ⟨_, _, H₃, φ₃, rfl, w₃.2.2, trivial, range_walk ao.handled (Heap.get?_push_size _ rfl) (rangeSize_nonneg ..) φ₃, (g.trans (.of_keep kp)).none (new_none _), (new_unz ok₄).1, (new_unz ok₄).2, ok₄.keep kp', (g.trans (.of_keep kp)).trans (.of_keep kp'), (((r₁.trans r₂).trans r₃).trans (Rest.mk s₃ _ _)).trans (Rest.mk _ _ _)⟩
  · exact w₃.elim
end
end Mine

namespace Mine
section
variable {c : Cx} {d : Nat} {sc : Scope} {ρ : List Str}
/-! ### comparisons of several kinds -/
def wEqX (f : Bool → Bool) : WB := fun v w H Q => match v, w with
  | .int i, .int j => Q (.bool (f (i == j))) H
  | .str a, .str b => Q (.bool (f (a == b))) H
  | _, _ => False
theorem eq_okX : CmpOK c d .Eq (wEqX id) := by
  intro A E s φ H v w x y Q ao ok rv rw' q
  unfold wEqX at q
  split at q
  · cases rv; cases rw'
    exact eq_int (.here q ok .bool (fun _ _ e => e) (Rest.refl s))
  · cases rv; cases rw'
    exact eq_str (.here q ok .bool (fun _ _ e => e) (Rest.refl s))
  · exact q.elim
def wNeX (ns : List Int) : WB := fun v w H Q => match v, w with
  | .int i, .int j => Q (.bool (i != j)) H
  | v, w => wCmpI ns not v w H Q
theorem ne_okX (G : Good c) : CmpOK c d .NotEq (wNeX c.ns) := by
  intro A E s φ H v w x y Q ao ok rv rw' q
  unfold wNeX at q
  split at q
  · cases rv; cases rw'
    exact ne_int (.here q ok .bool (fun _ _ e => e) (Rest.refl s))
  · exact neL_ok G A E s φ H _ _ x y Q ao ok rv rw' q
/-! ### times -/
def wMul : WB := fun v w H Q => match v, w with | .int i, .int j => IntMulOk i j ∧ Q (.int (i * j)) H | _, _ => False
theorem mul_ok : BinOK c d .Mult wMul := by
  intro A E s φ H v w x y Q ao ok rv rw' q
  unfold wMul at q
  split at q
  · cases rv; cases rw'
    exact PyProof.Rows.mul_int (.here q.2 ok .int (fun _ _ e => e) (Rest.mk s s.heap _)) q.1
  · exact q.elim
/-! ### a value as a test -/
theorem et_tv {e a} (he : Ev c d sc ρ e a) (ht : ∀ env whole, isTrue e env whole = (do let v ← whole; standAt e.pos; holding [v] (truthy v))) : Et c d sc ρ e (tv a) := by
  intro env A E s φ sl H Q eo ao ok vs w
  rw [ht]
  refine wpAny_bind (wpAny_mono (he env A E s φ sl H _ eo ao ok vs w) (fun x s₁ p₁ => wpAny_bind (wpAny_standAt (wpAny_holding ?_))) fun _ _ e => e)
  obtain ⟨v, H₁, φ₁, w₁, ok₁, rv, g₁, r₁⟩ := p₁
  split at w₁
  · cases rv
    exact wpAny_pure ⟨H₁, φ₁, w₁, ok₁, g₁, r₁⟩
  · exact w₁.elim
/-! ### over a list or a text -/
def iAny (ns : List Int) (a : WE) : WI := fun sl H Q => a sl H fun v H' => match v with
  | .str x => Q (.walk (signs x)) H'
  | v => match asL ns H' v with | some xs => Q (.list v xs) H' | none => False
theorem Ei.mono {e W W'} (h : Ei c d sc ρ e W) (k : ∀ sl H Q, W' sl H Q → W sl H Q) : Ei c d sc ρ e W' := fun env A E s φ sl H Q eo ao ok vs w => h env A E s φ sl H Q eo ao ok vs (k _ _ _ w)
theorem ei_any {e a} (G : Good c) (he : Ev c d sc ρ e a) : Ei c d sc ρ e (iAny c.ns a) := by
  intro env A E s φ sl H Q eo ao ok vs w
  refine wpAny_mono (he env A E s φ sl H _ eo ao ok vs w) (fun x s₁ p₁ => ?_) fun _ _ e => e
  obtain ⟨v, H₁, φ₁, w₁, ok₁, rv, g₁, r₁⟩ := p₁
  split at w₁
  · rename_i x
    cases rv
    have fin : ∀ (o : Obj) (St : Nat → Heap → Prop), Walks c.prog c.w A s₁.heap.objs.size [s₁.heap.objs.size] [s₁.heap.objs.size] x.cps.size (SignAt x) St → (∀ i h, St i h → ∃ o, h.get? s₁.heap.objs.size = some o) → St 0 (s₁.heap.push o) →
        PostI c A φ s Q (.ref s₁.heap.objs.size) { s₁ with heap := s₁.heap.push o } := fun o St W hl hst => by
      have kp : ∀ b o', s₁.heap.get? b = some o' → (s₁.heap.push o).get? b = some o' := fun b o e => Heap.get?_push_of_some _ e
      refine ⟨_, _, H₁, φ₁, rfl, w₁, trivial, ⟨SignAt x, St, ?_, ?_, hl, hst⟩, g₁.none (new_none _), (new_unz ok₁).1, (new_unz ok₁).2, ok₁.keep kp, g₁.trans (.of_keep kp), r₁.trans (Rest.mk s₁ _ s₁.toks)⟩
      · have : (signs x).length = x.cps.size := by simp [signs]
        rw [this]; exact W
      · rintro i v ⟨cc, u, h1, rfl⟩
        exact ⟨.str ⟨#[cc]⟩, by simp [signs, h1], fun T e => (nomatch e), fun _ _ => .str⟩
    cases ha : x.cps.all (· < 128)
    · exact wpAny_pyIter_wide ha (fin _ _ (Walks.strWide ao.handled _ x _) (fun i h st => let ⟨o, ho, _⟩ := st; ⟨o, ho⟩) ⟨_, Heap.get?_push_size _ rfl, rfl, rfl⟩)
    · exact wpAny_pyIter_ascii ha (fin _ _ (Walks.strAscii ao.handled _ x _) (fun i h st => let ⟨o, ho, _⟩ := st; ⟨o, ho⟩) ⟨_, Heap.get?_push_size _ rfl, rfl, rfl⟩)
  · split at w₁
    · rename_i xs ex
      obtain ⟨al, ys, rfl, il, rr⟩ := asL_of G ok₁ rv ex
      refine wpAny_pyIter_list il ?_
      have kp : ∀ b o, s₁.heap.get? b = some o → (s₁.heap.push { cls := .type "list_iterator", data := .fields #[.ref al, .int 0 0] }).get? b = some o := fun b o e => Heap.get?_push_of_some _ e
      refine ⟨_, .list v xs, H₁, φ₁, rfl, w₁, ex, ⟨al, ?_, _, Heap.get?_push_size _ rfl, rfl, rfl⟩, g₁.none (new_none _), (new_unz ok₁).1, (new_unz ok₁).2, ok₁.keep kp, g₁.trans (.of_keep kp), r₁.trans (Rest.mk s₁ _ s₁.toks)⟩
      cases rv <;> simp only [asL] at ex <;> try (cases ex; done)
      · rename_i k hk _; exact .inl ⟨_, rfl, by assumption⟩
      · exact .inr ⟨rfl, rfl⟩
    · exact w₁.elim
end
section
variable {sl : Sl} {H : HW} {c : Cx} {ns : List Int}
theorem e_wComp {it is t e Q} : wComp ns it is t e sl H Q = it sl H (fun k H₁ => k.items.length ≤ 100000 ∧ wCompGo ns k t e (fvOf sl is) k.items [] H₁ fun ys H₂ => Q (.loc H₂.length) (H₂ ++ [.list ys])) := propext Iff.rfl
theorem e_comp0 {k t e fv ys Q} : wCompGo ns k t e fv [] ys H Q = Q ys H := propext Iff.rfl
theorem e_compS {k t e fv v r ys Q} : wCompGo ns k t e fv (v :: r) ys H Q = t (some v :: fv) H (fun b H₁ => if b then e (some v :: fv) H₁ fun y H₂ => k.inv ns H₂ ∧ wCompGo ns k t e fv r (ys ++ [y]) H₂ Q else k.inv ns H₁ ∧ wCompGo ns k t e fv r ys H₁ Q) := propext Iff.rfl
theorem e_tTrue {Q} : tTrue sl H Q = Q true H := propext Iff.rfl
theorem e_iAnyL {a : WE} {Q} : iAny ns a sl H Q = a sl H (fun v H' => match v with | .str x => Q (.walk (signs x)) H' | v => match asL ns H' v with | some xs => Q (.list v xs) H' | none => False) := propext Iff.rfl
theorem e_iRange3 {x y z Q} : iRange3 x y z sl H Q = x sl H (fun v H₁ => y sl H₁ fun w H₂ => z sl H₂ fun u H₃ => match v, w, u with
  | .int a, .int b, .int 2 => (-1000000 < a ∧ a < 1000000) ∧ (-1000000 < b ∧ b < 1000000) ∧ Q (.walk (rangeL a b 2)) H₃ | _, _, _ => False) := propext Iff.rfl
theorem e_mul {i j Q} : wMul (.int i) (.int j) H Q = (IntMulOk i j ∧ Q (.int (i * j)) H) := propext Iff.rfl
theorem e_ifE {t a b Q} : wIfE t a b sl H Q = t sl H (fun r H' => if r then a sl H' Q else b sl H' Q) := propext Iff.rfl
theorem e_eqXI {f i j Q} : wEqX f (.int i) (.int j) H Q = Q (.bool (f (i == j))) H := propext Iff.rfl
theorem e_eqXS {f i j Q} : wEqX f (.str i) (.str j) H Q = Q (.bool (f (i == j))) H := propext Iff.rfl
theorem e_neXI {i j Q} : wNeX ns (.int i) (.int j) H Q = Q (.bool (i != j)) H := propext Iff.rfl
theorem e_neXL {k j Q} : wNeX ns (.loc k) (.loc j) H Q = wCmpI ns not (.loc k) (.loc j) H Q := propext Iff.rfl
theorem e_len2S {x Q} : bLen2 ns [.str x] H Q = (x.length ≤ 1000000 ∧ Q (.int x.length) H) := propext Iff.rfl
theorem e_len2L {k Q} : bLen2 ns [.loc k] H Q = bLen ns [.loc k] H Q := propext Iff.rfl
theorem e_isi {v a k C Q} : bIsi c k C [v, .glob a] H Q = (a = C ∧ (match isiV c H k v with | some b => Q (.bool b) H | none => False)) := propext Iff.rfl
/-- a comprehension whose parts leave the heap alone -/
theorem comp_pure {k t e fv} {p : V → Bool} {f : V → V} {Q : List V → HW → Prop} (hi : k.inv ns H) : ∀ (xs ys : List V), (∀ v ∈ xs, ∀ R : Bool → HW → Prop, R (p v) H → t (some v :: fv) H R) → (∀ v ∈ xs, p v = true → ∀ R : V → HW → Prop, R (f v) H → e (some v :: fv) H R) →
    Q (ys ++ (xs.filter p).map f) H → wCompGo ns k t e fv xs ys H Q
  | [], ys, _, _, q => by rw [e_comp0]; simpa using q
  | x :: xs, ys, ht, he, q => by
    rw [e_compS]
    refine ht x List.mem_cons_self _ ?_
    cases hp : p x with
    | true =>
      rw [if_pos rfl]
      refine he x List.mem_cons_self hp _ ⟨hi, comp_pure hi xs _ (fun v m => ht v (List.mem_cons_of_mem _ m)) (fun v m => he v (List.mem_cons_of_mem _ m)) ?_⟩
      simpa [List.filter_cons, hp] using q
    | false =>
      rw [if_neg (by decide)]
      refine ⟨hi, comp_pure hi xs _ (fun v m => ht v (List.mem_cons_of_mem _ m)) (fun v m => he v (List.mem_cons_of_mem _ m)) ?_⟩
      simpa [List.filter_cons, hp] using q
theorem comp_map {k e fv} {f : V → V} {Q : List V → HW → Prop} (hi : k.inv ns H) (xs : List V) (he : ∀ v ∈ xs, ∀ R : V → HW → Prop, R (f v) H → e (some v :: fv) H R)
    (q : Q (xs.map f) H) : wCompGo ns k tTrue e fv xs [] H Q :=
  comp_pure (p := fun _ => true) hi xs [] (fun v _ R r => r) (fun v m _ => he v m) (by rw [List.nil_append, List.filter_eq_self.mpr (fun _ _ => rfl)]; exact q)
end
end Mine

namespace Mine
section
variable {c : Cx} {d : Nat} {sc : Scope} {ρ : List Str}
/-! ### lists of plain data, compared -/
mutual
inductive DV (ns : List Int) (H : HW) : V → PyData → Prop
  | none : DV ns H .none .none
  | bool {b} : DV ns H (.bool b) (.bool b)
  | int {i} : DV ns H (.int i) (.int i)
  | str {s} : DV ns H (.str s) (.str s)
  | list {v xs ds} : asL ns H v = some xs → DVs ns H xs ds → DV ns H v (.list ds)
inductive DVs (ns : List Int) (H : HW) : List V → List PyData → Prop
  | nil : DVs ns H [] []
  | cons {v d vs ds} : DV ns H v d → DVs ns H vs ds → DVs ns H (v :: vs) (d :: ds)
end
mutual
theorem DV.reads (G : Good c) {φ H h} (ok : Ok c φ H h) : ∀ {v dd x}, DV c.ns H v dd → RepV c φ h v x → ∃ as, Reads h x dd as
  | _, _, _, .none, r => by cases r; exact ⟨_, .none⟩
  | _, _, _, .bool, r => by cases r; exact ⟨_, .bool _⟩
  | _, _, _, .int, r => by cases r; exact ⟨_, .int _ _⟩
  | _, _, _, .str, r => by cases r; exact ⟨_, .str _ _⟩
  | _, _, _, .list e ds, r => by
    obtain ⟨a, ys, rfl, ⟨o, ho, hc, n, hd⟩, rr⟩ := asL_of G ok r e
    obtain ⟨as, h1⟩ := DVs.reads G ok ds rr
    exact ⟨_, .list ho hc hd h1⟩
theorem DVs.reads (G : Good c) {φ H h} (ok : Ok c φ H h) : ∀ {vs ds xs}, DVs c.ns H vs ds → RepVs c φ h vs xs → ∃ as, ReadsAll h xs ds as
  | _, _, _, .nil, r => by cases r; exact ⟨_, .nil⟩
  | _, _, _, .cons x xs, r => by
    cases r with
    | cons r rs =>
      obtain ⟨as, h1⟩ := DV.reads G ok x r
      obtain ⟨bs, h2⟩ := DVs.reads G ok xs rs
      exact ⟨_, .cons h1 h2⟩
end
def wEqD (ns : List Int) (f : Bool → Bool) : WB := fun v w H Q => ∃ da db, DV ns H v da ∧ DV ns H w db ∧ (SeqAt.shaped da = true ∧ SeqAt.shaped db = true) ∧ Q (.bool (f (PyData.eqv da db))) H
theorem eqD_ok (G : Good c) : CmpOK c d .Eq (wEqD c.ns id) := by
  rintro A E s φ H v w x y Q ao ok rv rw' ⟨da, db, d1, d2, ⟨s1, s2⟩, q⟩
  obtain ⟨as, r1⟩ := d1.reads G ok rv
  obtain ⟨bs, r2⟩ := d2.reads G ok rw'
  exact eq_dataH r1 r2 s1 s2 (by have := ao.units; rw [cLine_is]; omega) (.here q ok .bool (fun _ _ e => e) (Rest.refl s))
theorem neD_ok (G : Good c) : CmpOK c d .NotEq (wEqD c.ns not) := by
  rintro A E s φ H v w x y Q ao ok rv rw' ⟨da, db, d1, d2, ⟨s1, s2⟩, q⟩
  obtain ⟨as, r1⟩ := d1.reads G ok rv
  obtain ⟨bs, r2⟩ := d2.reads G ok rw'
  exact ne_dataH r1 r2 s1 s2 (by have := ao.units; rw [cLine_is]; omega) (.here q ok .bool (fun _ _ e => e) (Rest.refl s))
theorem e_eqD {ns H f v w Q} : wEqD ns f v w H Q = (∃ da db, DV ns H v da ∧ DV ns H w db ∧ (SeqAt.shaped da = true ∧ SeqAt.shaped db = true) ∧ Q (.bool (f (PyData.eqv da db))) H) := propext Iff.rfl
mutual
theorem eqv_self : ∀ {x : PyData}, x.canLay0 = true → PyData.eqv x x = true
  | .none, _ => rfl
  | .bool _, _ => by simp [PyData.eqv]
  | .int _, _ => by simp [PyData.eqv]
  | .str _, _ => by simp [PyData.eqv]
  | .list xs, h => by rw [PyData.eqv]; exact eqvAll_self (by simpa [PyData.canLay0] using h)
  | .tuple xs, h => by rw [PyData.eqv]; exact eqvAll_self (by simpa [PyData.canLay0] using h)
  | .dict _, h => by simp [PyData.canLay0] at h
theorem eqvAll_self : ∀ {xs : List PyData}, PyData.canLayAll0 xs = true → PyData.eqvAll xs xs = true
  | [], _ => rfl
  | x :: xs, h => by
    rw [PyData.canLayAll0, Bool.and_eq_true] at h
    rw [PyData.eqvAll, Bool.and_eq_true]
    exact ⟨eqv_self h.1, eqvAll_self h.2⟩
end
theorem dvs_ints {ns H} : ∀ is : List Int, DVs ns H (is.map .int) (is.map .int)
  | [] => .nil
  | _ :: is => .cons .int (dvs_ints is)
end
end Mine

namespace Mine
section
variable {c : Cx} {d : Nat} {sc : Scope} {ρ : List Str}
/-- the numbers of a list -/
theorem asInts_of (G : Good c) {φ H h v x} {is : List Int} (ok : Ok c φ H h) (rv : RepV c φ h v x) (e : asL c.ns H v = some (is.map .int)) : ∃ a us, x = .ref a ∧ h.IsList a us.toArray ∧ IntsAre us is := by
  obtain ⟨a, ys, rfl, il, rr⟩ := asL_of G ok rv e
  exact ⟨a, ys, rfl, il, ints_of rr⟩
def bSum (ns : List Int) : WF := fun args H Q => match args with | [v] => ∃ is : List Int, asL ns H v = some (is.map .int) ∧ Q (.int is.sum) H | _ => False
theorem sum_ok (G : Good c) : FnOK c d (.builtin "sum") (bSum c.ns) := by
  intro A E s φ H args vals Q ao ok r q
  unfold bSum at q
  split at q
  · obtain ⟨is, e, q⟩ := q
    cases r with
    | cons rv rs =>
      cases rs
      obtain ⟨a, us, rfl, il, hi⟩ := asInts_of G ok rv e
      obtain ⟨xs, hx⟩ := hi.allInts.items
      have hl' : s.heap.IsList a (intItems xs) := hx ▸ il
      refine sum_intListG ao.handled hl' fun h' tk t' hk => ?_
      have e1 : is = xs.toList.map (·.1) := by
        rw [← nums_intItems, ← hx]
        exact (show numsOf us.toArray.toList = is from hi.numsOf).symm
      have e2 : preSum (numAt xs) xs.size = is.sum := by
        rw [preSum_eq, List.take_of_length_le (by simp), e1]
      rw [e2]
      exact .here q (ok.keep hk) .int hk (Rest.mk s h' tk)
  · exact q.elim
def bMinL (ns : List Int) : WF := fun args H Q => match args with | [v] => ∃ is : List Int, asL ns H v = some (is.map .int) ∧ is ≠ [] ∧ ∀ M, M ∈ is → (∀ a ∈ is, M ≤ a) → Q (.int M) H | _ => False
theorem minL_ok (G : Good c) : FnOK c d (.builtin "min") (bMinL c.ns) := by
  intro A E s φ H args vals Q ao ok r q
  unfold bMinL at q
  split at q
  · obtain ⟨is, e, ne, q⟩ := q
    cases r with
    | cons rv rs =>
      cases rs
      obtain ⟨a, us, rfl, il, hi⟩ := asInts_of G ok rv e
      obtain ⟨xs, hx⟩ := hi.allInts.items
      have hns : is = xs.toList.map (·.1) := by
        rw [← hi.numsOf, ← nums_intItems, ← hx]
      have hpos : 0 < is.length := List.length_pos_iff.mpr ne
      have hsz : 0 < xs.size := by
        have h3 := hpos; rw [hns, List.length_map, Array.length_toList] at h3; exact h3
      rw [hx] at il
      refine min_intList ao.handled il hsz fun v h' tk hv hk => ?_
      obtain ⟨t, rfl⟩ := intItems_at hv
      obtain ⟨h1, h2⟩ := argBest_lt (numAt xs) (xs.size - 1)
      refine .here (q _ ?_ fun a ha => ?_) (ok.keep hk) .int hk (Rest.mk s h' tk)
      · rw [hns, numAt_eq]; exact getD_mem (by rw [List.length_map, Array.length_toList]; omega)
      · rw [hns] at ha
        obtain ⟨j, hj, rfl⟩ := mem_getD ha
        rw [List.length_map, Array.length_toList] at hj
        rw [← numAt_eq]; exact h2 j (by omega)
  · exact q.elim
/-! ### «in» among numbers -/
def wInI (ns : List Int) (f : Bool → Bool) : WB := fun v w H Q => match v with | .int k => (∃ is : List Int, asL ns H w = some (is.map .int) ∧ Q (.bool (f (is.any (· == k)))) H) | _ => False
theorem in_okI (G : Good c) : CmpOK c d .In (wInI c.ns id) := by
  intro A E s φ H v w x y Q ao ok rv rw' q
  unfold wInI at q
  split at q
  · obtain ⟨is, e, q⟩ := q
    obtain ⟨a, us, rfl, il, hi⟩ := asInts_of G ok rw' e
    cases rv
    exact in_list_ints il hi (.here q ok .bool (fun _ _ e => e) (Rest.refl s))
  · exact q.elim
theorem notin_okI (G : Good c) : CmpOK c d .NotIn (wInI c.ns not) := by
  intro A E s φ H v w x y Q ao ok rv rw' q
  unfold wInI at q
  split at q
  · obtain ⟨is, e, q⟩ := q
    obtain ⟨a, us, rfl, il, hi⟩ := asInts_of G ok rw' e
    cases rv
    exact notin_list_ints il hi (.here q ok .bool (fun _ _ e => e) (Rest.refl s))
  · exact q.elim
/-! ### ^ and ** -/
theorem xor_ok : BinOK c d .BitXor (onI fun i j => .int (Builtin.bitXor i j)) := by
  intro A E s φ H v w x y Q ao ok rv rw' q
  obtain ⟨i, j, rfl, rfl, q⟩ := onI_of q
  cases rv; cases rw'
  exact xor_int (.here q ok .int (fun _ _ e => e) (Rest.mk s s.heap _))
def wPow : WB := fun v w H Q => match v, w with | .int i, .int j => (0 ≤ j ∧ j ≤ 1000 ∧ i.natAbs < 2 ^ 64) ∧ Q (.int (i ^ j.toNat)) H | _, _ => False
theorem pow_ok : BinOK c d .Pow wPow := by
  intro A E s φ H v w x y Q ao ok rv rw' q
  unfold wPow at q
  split at q
  · cases rv; cases rw'
    exact pow_int_small q.1.1 (by omega) q.1.2.2 (.here q.2 ok .int (fun _ _ e => e) (Rest.mk s s.heap _))
  · exact q.elim
end
section
variable {sl : Sl} {H : HW} {c : Cx} {ns : List Int}
theorem e_sum {v Q} : bSum ns [v] H Q = (∃ is : List Int, asL ns H v = some (is.map .int) ∧ Q (.int is.sum) H) := propext Iff.rfl
theorem e_minL {v Q} : bMinL ns [v] H Q = (∃ is : List Int, asL ns H v = some (is.map .int) ∧ is ≠ [] ∧ ∀ M, M ∈ is → (∀ a ∈ is, M ≤ a) → Q (.int M) H) := propext Iff.rfl
theorem e_inI {f k w Q} : wInI ns f (.int k) w H Q = (∃ is : List Int, asL ns H w = some (is.map .int) ∧ Q (.bool (f (is.any (· == k)))) H) := propext Iff.rfl
theorem e_pow {i j Q} : wPow (.int i) (.int j) H Q = ((0 ≤ j ∧ j ≤ 1000 ∧ i.natAbs < 2 ^ 64) ∧ Q (.int (i ^ j.toNat)) H) := propext Iff.rfl
theorem e_is {f v w Q} : wIs c f v w H Q = (match isV c v w with | some b => Q (.bool (f b)) H | none => False) := propext Iff.rfl
end
end Mine

namespace Mine
section
variable {c : Cx} {d : Nat} {sc : Scope} {ρ : List Str}
/-! ### a comprehension whose own variable is a cell -/
structure CScC (sc scope : Scope) (x : Str) (is : List Nat) (xs : List Str) (ρ : List Str) : Prop where
  kind : scope.kind = .function
  skind : sc.kind = .function
  cells : ∀ n acc, cellsFrom n scope.names acc = (x, n) :: acc
  push : ∀ h, pushCells h scope.names = h.push { cls := .type "cell", data := .cell none }
  cel : scope.names.lookup x = some .cell
  celR : (relS scope sc).names.lookup x = some .cell
  names : ∀ y ∈ scope.names, y.2 = .local → scope.names.lookup y.1 = some .local
  free : ∀ y ∈ scope.names, y.2 = .free → scope.names.lookup y.1 = some .free
  nd : (x :: xs).Nodup
  fr : Frs sc ρ scope.names is xs
theorem frs_closed {l : List (Str × NameKind)} {env φ h sl} (eo : EnvOK sc env) (vs : Vars c ρ φ h env sl) : ∀ is xs, Frs sc ρ l is xs → ∀ y ∈ l, y.2 = .free → (env.cells.lookup y.1).isSome = true := by
  induction l with
  | nil => intro _ _ _ y hy; cases hy
  | cons z r ih =>
    intro is xs h y hy hf
    obtain ⟨n, k⟩ := z
    unfold Frs at h
    split at h
    · obtain ⟨i, is', xs', rfl, rfl, h1, h2, h3⟩ := h
      rcases List.mem_cons.mp hy with e | e
      · subst e
        obtain ⟨a, ea⟩ := vs.has i n h1 ((eo.kind n).trans h2)
        rw [ea]; rfl
      · exact ih _ _ h3 y e hf
    · rename_i nk
      rcases List.mem_cons.mp hy with e | e
      · subst e; exact absurd hf nk
      · exact ih _ _ h y e hf
theorem comp_envC {scope : Scope} {env : Env} {A : Around} {E : Value → Shared → Prop} {s : Shared} {φ : Mp} {sl : Sl} {H : HW} {is xs x} {R : Env → Shared → Prop} (S : CScC sc scope x is xs ρ)
    (eo : EnvOK sc env) (ok : Ok c φ H s.heap) (vs : Vars c ρ φ s.heap env sl)
    (k : ∀ cenv s', cenv.locals = s.heap.objs.size → EnvOK (relS scope sc) cenv → (∀ b, cenv.cells.lookup x = some b → s.heap.get? b = none) → (∀ y b, cenv.cells.lookup y = some b → env.cells.lookup y = some b ∨ s.heap.get? b = none) → Vars c (x :: xs) φ s'.heap cenv (none :: fvOf sl is) →
      (∀ b o, s.heap.get? b = some o → s'.heap.get? b = some o) → Rest s s' → R cenv s') :
    wpAny (model c.prog c.w) A (newFunctionEnv scope env.globals (clOf env scope.names []) [] env.qual none .none (some env)) (fun cenv s' => R { cenv with scope := relabel scope env } s') E s := by
  simp only [newFunctionEnv, Option.isSome_some, if_true]
  refine wpAny_bind (wpAny_alloc ?_)
  refine wpAny_bind (wpAny_layCells _ (fun name kind cells => by cases hkc : kind == NameKind.cell <;> simp [hkc]) _ _ _ _ ?_)
  rw [S.cells, S.push]
  rw [List.forIn_nil]
  refine wpAny_bind (wpAny_pure (wpAny_pure ?_))
  have sz : (s.heap.push { cls := .type "dict", data := .dict #[] }).objs.size = s.heap.objs.size + 1 := Heap.size_push ..
  have kp1 : ∀ b o, s.heap.get? b = some o → (s.heap.push { cls := .type "dict", data := .dict #[] }).get? b = some o := fun b o e => Heap.get?_push_of_some _ e
  have kp2 : ∀ b o, (s.heap.push { cls := .type "dict", data := .dict #[] }).get? b = some o → ((s.heap.push { cls := .type "dict", data := .dict #[] }).push { cls := .type "cell", data := .cell none }).get? b = some o := fun b o e => Heap.get?_push_of_some _ e
  have kp : ∀ b o, s.heap.get? b = some o → ((s.heap.push { cls := .type "dict", data := .dict #[] }).push { cls := .type "cell", data := .cell none }).get? b = some o := fun b o e => kp2 b o (kp1 b o e)
  have cellAt : ((s.heap.push { cls := .type "dict", data := .dict #[] }).push { cls := .type "cell", data := .cell none }).IsCell (s.heap.objs.size + 1) none := ⟨_, by rw [← sz]; exact Heap.get?_push_size _ rfl, rfl⟩
  have fr1 : s.heap.get? (s.heap.objs.size + 1) = none := Heap.get?_none_of_le (Nat.le_succ _)
  have sub := clOf_sub (env := env) scope.names [] (by intro x a e; simp at e)
  have kindC : ∀ y, y ∈ xs → (relS scope sc).names.lookup y = some .cell := fun y hy => by
    obtain ⟨j, hj, ej⟩ := List.getElem_of_mem hy
    obtain ⟨i, a1, a2, a3, a4⟩ := (S.fr.get).2 j y (by rw [List.getElem?_eq_getElem hj, ej])
    exact lookup_relS_free S.skind a3 (S.free _ a4 rfl)
  have lk : ∀ y b, List.lookup y ((x, s.heap.objs.size + 1) :: clOf env scope.names []) = some b → (y = x ∧ b = s.heap.objs.size + 1) ∨ (y ≠ x ∧ (clOf env scope.names []).lookup y = some b) := fun y b e => by
    rw [List.lookup_cons] at e
    cases q : y == x with
    | true => rw [q] at e; cases e; exact .inl ⟨eq_of_beq q, rfl⟩
    | false => rw [q] at e; exact .inr ⟨fun z => by simp [z] at q, e⟩
  have lkx : List.lookup x ((x, s.heap.objs.size + 1) :: clOf env scope.names []) = some (s.heap.objs.size + 1) := by simp [List.lookup_cons]
  have lky : ∀ y b, y ≠ x → (clOf env scope.names []).lookup y = some b → List.lookup y ((x, s.heap.objs.size + 1) :: clOf env scope.names []) = some b := fun y b n e => by
    rw [List.lookup_cons, show (y == x) = false by simpa using n]; exact e
  have nx : ∀ (i : Nat) y, xs[i]? = some y → y ≠ x := fun i y e q => by
    have := S.nd
    rw [List.nodup_cons] at this
    exact this.1 (q ▸ List.mem_of_getElem? e)
  rw [sz]
  have eoC : EnvOK (relS scope sc) { scope := relabel scope env, locals := s.heap.objs.size, globals := env.globals, cells := (x, s.heap.objs.size + 1) :: clOf env scope.names [], qual := env.qual, func := none, code := env.code, frame := env.frame, builtins := env.builtins } :=
    ⟨relabel_eq eo, eo.glob, eo.bi⟩
  refine k _ _ rfl eoC (fun b e => ?_) (fun y b e => ?_) ⟨S.nd, ?_, (new_unz ok).1, (new_unz ok).2, (ok.fresh (new_none _)).2.2, ⟨_, (Heap.Ns.new s.heap (.type "dict")).keeps kp2, ?_⟩, ?_, ?_, ?_, ?_⟩ kp ⟨_, s.toks, rfl⟩
  · rcases lk x b e with ⟨_, rfl⟩ | ⟨n, _⟩
    · exact fr1
    · exact absurd rfl n
  · rcases lk y b e with ⟨_, rfl⟩ | ⟨n, e⟩
    · exact .inr fr1
    · exact .inl (sub y b e)
  · simp [fvOf, S.fr.get.1]
  · intro i y v h1 h2 h3
    cases i with
    | zero => simp at h3
    | succ i =>
      simp at h1
      have := (eoC.kind y).symm.trans h2
      rw [kindC y (List.mem_of_getElem? h1)] at this; cases this
  · intro y a e
    rcases lk y a e with ⟨_, rfl⟩ | ⟨n, e⟩
    · have f := ok.fresh fr1
      exact ⟨f.1, f.2.1, f.2.2, _, cellAt⟩
    · obtain ⟨n, z, n0, u, o', ho', hd⟩ := vs.offC y a (sub y a e)
      exact ⟨n, z, n0, u, o', kp _ _ ho', hd⟩
  · intro y z a e1 e2
    have live : ∀ w b, (clOf env scope.names []).lookup w = some b → b ≠ s.heap.objs.size + 1 := fun w b e q => by
      obtain ⟨_, _, _, u, o', ho', _⟩ := vs.offC w b (sub w b e)
      rw [q, fr1] at ho'; cases ho'
    rcases lk y a e1 with ⟨q1, q2⟩ | ⟨n1, e3⟩
    · rcases lk z _ e2 with ⟨q3, _⟩ | ⟨n2, e4⟩
      · rw [q1, q3]
      · exact absurd q2 (live _ _ e4)
    · rcases lk z _ e2 with ⟨_, q4⟩ | ⟨n2, e4⟩
      · exact absurd q4 (live _ _ e3)
      · exact vs.inj y z a (sub y a e3) (sub z a e4)
  · intro i y v h1 h2 h3
    cases i with
    | zero => simp at h3
    | succ i =>
      simp at h1 h3
      obtain ⟨j, a1, a2, a3, a4⟩ := S.fr.get.2 i y h1
      simp only [fvOf, List.getElem?_map, a1, Option.map_some] at h3
      have h4 : sl[j]? = some (some v) := by
        cases q : sl[j]? with
        | none => rw [q] at h3; simp at h3
        | some u => rw [q] at h3; simp at h3; rw [h3]
      obtain ⟨a, u, e1, ⟨o', ho', hd⟩, e3⟩ := vs.cel j y v a2 (.inl ((eo.kind y).trans a3)) h4
      exact ⟨a, u, lky y a (nx i y h1) (clOf_has _ _ _ _ e1 (.inr a4) (by intro x a e; simp at e)), ⟨o', kp _ _ ho', hd⟩, e3.grow (.of_keep kp)⟩
  · intro i y h1 h2
    cases i with
    | zero =>
      simp at h1
      subst h1
      exact ⟨_, lkx⟩
    | succ i =>
      simp at h1
      obtain ⟨j, a1, a2, a3, a4⟩ := S.fr.get.2 i y h1
      obtain ⟨a, ea⟩ := vs.has j y a2 ((eo.kind y).trans a3)
      exact ⟨a, lky y a (nx i y h1) (clOf_has _ _ _ _ ea (.inr a4) (by intro x a e; simp at e))⟩
theorem comp_blockC {elt iter : Expr} {x : Str} {xp : Pos} {ifs : List Expr} {scope : Scope} {pos : Pos} {env : Env} {A : Around} {E : Value → Shared → Prop} {s : Shared} {φ : Mp} {sl : Sl} {H : HW} {is xs} {wi : WI} {t : WT} {e : WE} {RR : Value → Addr → Result → Shared → Prop} {Q : List V → HW → Prop}
    (G : Good c) (S : CScC sc scope x is xs ρ) (hi : Ei c d sc ρ iter wi) (ht : Ets c d (relS scope sc) (x :: xs) ifs t) (he : Ev c d (relS scope sc) (x :: xs) elt e)
    (eo : EnvOK sc env) (ao : AOK d A) (ok : Ok c φ H s.heap) (vs : Vars c ρ φ s.heap env sl)
    (w : wi sl H fun k H₁ => k.items.length ≤ 100000 ∧ wCompGo c.ns k t e (fvOf sl is) k.items [] H₁ Q)
    (hRR : ∀ D C s' ys H' φ' xs', CompEnd c φ s Q D C s' ys H' φ' xs' → RR (.ref D) C (.ok .next) s') :
    wpAny (model c.prog c.w) A (eval iter env) (fun xv s₁ => wpAny (model c.prog c.w) A (pyIter xv) (fun it s₂ => wpAny (model c.prog c.w) A (newList []) (fun acc s₃ =>
      wpAny (model c.prog c.w) A (newFunctionEnv scope env.globals (clOf env scope.names []) [] env.qual none .none (some env)) (fun cenv s₄ =>
        codeAny (model c.prog c.w) A (.compStart (.ListComp elt [⟨.Name x xp, iter, ifs, 0⟩] scope pos) 0 it acc { cenv with scope := relabel scope env }) (RR acc cenv.locals) s₄) E s₃) E s₂) E s₁) E s := by
  refine wpAny_mono (hi env A E s φ sl H _ eo ao ok vs w) (fun xv s₁ p₁ => wpAny_mono p₁ (fun it s₂ p₂ => ?_) fun _ _ e => e) fun _ _ e => e
  obtain ⟨I, k, H₂, φ₂, rfl, ⟨hlen, q⟩, iv, ia, fI, Il, Iz, ok₂, g₂, r₂⟩ := p₂
  have vs₂ := vs.grow g₂
  refine wpAny_newObj_type (hd := by size_fits) ?_
  have kp₃ : ∀ b o, s₂.heap.get? b = some o → (s₂.heap.push { cls := .type "list", dict := none, data := .seq ([] : List Value).toArray }).get? b = some o := fun b o e => Heap.get?_push_of_some _ e
  have ok₃ := ok₂.keep kp₃
  have g₃ : Grow φ₂ s₂.heap φ₂ (s₂.heap.push { cls := .type "list", dict := none, data := .seq ([] : List Value).toArray }) := .of_keep kp₃
  have fD : s.heap.get? s₂.heap.objs.size = none := g₂.none (new_none _)
  obtain ⟨oI, lI⟩ := ia.live
  refine comp_envC (s := { s₂ with heap := s₂.heap.push { cls := .type "list", dict := none, data := .seq ([] : List Value).toArray } }) (R := fun cenv' s₄ => codeAny (model c.prog c.w) A (.compStart (.ListComp elt [⟨.Name x xp, iter, ifs, 0⟩] scope pos) 0 (.ref I) (.ref s₂.heap.objs.size) cenv') (RR (.ref s₂.heap.objs.size) cenv'.locals) s₄) S eo ok₃ (vs₂.grow g₃) fun cenv s₄ hC eoC fX fY vsC kp₄ r₄ => ?_
  have ok₄ := ok₃.keep kp₄
  have lD : s₄.heap.get? s₂.heap.objs.size = some { cls := .type "list", dict := none, data := .seq ([] : List Value).toArray } := kp₄ _ _ (Heap.get?_push_size _ rfl)
  have sz : cenv.locals = s₂.heap.objs.size + 1 := by rw [hC]; exact Heap.size_push ..
  have nf : ∀ b, (s₂.heap.push { cls := .type "list", dict := none, data := .seq ([] : List Value).toArray }).get? b = none → s.heap.get? b = none := fun b e => (g₂.trans g₃).none e
  have ia₄ : ItAt c A φ₂ s₄.heap I 0 k := ia.keep (fun o e => kp₄ _ _ (kp₃ _ _ e)) fun _ _ e => e
  have notcell : ∀ a o, s₂.heap.get? a = some o → a ≠ cenv.locals := fun a o e q => by
    have h1 := Heap.lt_size e
    rw [q, sz] at h1
    exact absurd h1 (Nat.not_lt.mpr (Nat.le_succ _))
  have cellObj : ∀ y a, cenv.cells.lookup y = some a → ∀ o, s₄.heap.get? a = some o → ∃ z, o.data = .cell z := fun y a e o eo' => by
    obtain ⟨_, _, _, z, o', ho', hd⟩ := vsC.offC y a e
    rw [ho'] at eo'; cases eo'; exact ⟨z, hd⟩
  have loop : codeAny (model c.prog c.w) A (.compLoop (.ListComp elt [⟨.Name x xp, iter, ifs, 0⟩] scope pos) 0 (.ref I) (.ref s₂.heap.objs.size) cenv) (RR (.ref s₂.heap.objs.size) cenv.locals) s₄ := by
    refine comp_loop G ht he eoC ao S.kind (.inr S.celR) fI fD (nf _ (by rw [hC]; exact new_none _)) (fun b e => nf b (fX b e)) ⟨H, ok⟩ (fun q => ?_) (fun q => notcell I oI lI q) (fun q => by rw [sz] at q; exact absurd q (Nat.ne_of_lt (Nat.lt_succ_self _)))
      (fun y e => ?_) (fun y e => ?_) q hlen iv ia₄ Il Iz (new_unz ok₂).1 (new_unz ok₂).2 ok₄ vsC ⟨_, lD⟩ ((g₂.trans g₃).trans (.of_keep kp₄)) ((r₂.trans ⟨_, s₂.toks, rfl⟩).trans r₄) fun s' ys H' φ' xs' ce => hRR _ _ s' ys H' φ' xs' ce
    · have := Heap.lt_size lI
      rw [q] at this; exact Nat.lt_irrefl _ this
    · rcases fY y I e with h | h
      · obtain ⟨_, _, _, u', o3, ho3, _⟩ := vs.offC y I h
        rw [fI] at ho3; cases ho3
      · have := kp₃ _ _ lI
        rw [show (s₂.heap.push { cls := .type "list", dict := none, data := .seq ([] : List Value).toArray }).get? I = none from h] at this; cases this
    · obtain ⟨z, hd⟩ := cellObj y _ e _ lD
      cases hd
  exact codeAny_compStart_list loop (ia₄.self loop)
theorem ev_compC {elt iter : Expr} {x : Str} {xp : Pos} {ifs : List Expr} {scope : Scope} {pos : Pos} {is xs} {wi : WI} {t : WT} {e : WE} (G : Good c) (S : CScC sc scope x is xs ρ)
    (hi : Ei c d sc ρ iter wi) (ht : Ets c d (relS scope sc) (x :: xs) ifs t) (he : Ev c d (relS scope sc) (x :: xs) elt e) (hs : ∀ env x, foldedSetIterable iter env x = pure x) :
    Ev c d sc ρ (.ListComp elt [⟨.Name x xp, iter, ifs, 0⟩] scope pos) (wComp c.ns wi is t e) := by
  intro env A E s φ sl H Q eo ao ok vs w
  rw [eval_ListComp]
  show wpAny _ _ (comprehension _ scope env _ (newList []) false (eval iter env)) _ _ _
  refine wpAny_comprehension_free rfl (hs env) (closureFor_eq (frs_closed eo vs _ _ S.fr)) S.kind S.names ?_
  exact comp_blockC G S hi ht he eo ao ok vs w fun D C s' ys H' φ' xs' ce => CompPost.mk ok ce fun _ _ q => q
theorem ex_setCC {i : Nat} {y : Str} {yp : Pos} {elt iter : Expr} {x : Str} {xp : Pos} {ifs : List Expr} {scope : Scope} {pos spos : Pos} {is : List Nat} {xs : List Str} {wi : WI} {t : WT} {e : WE} (G : Good c) (S : CScC sc scope x is xs ρ)
    (hi : Ei c d sc ρ iter wi) (ht : Ets c d (relS scope sc) (x :: xs) ifs t) (he : Ev c d (relS scope sc) (x :: xs) elt e) (hy : ρ[i]? = some y) (hs : ∀ env x, foldedSetIterable iter env x = pure x)
    (hl : sc.names.lookup y = some .local) (hw : ∀ env, env.scope = sc → swapsWith (.ListComp elt [⟨.Name x xp, iter, ifs, 0⟩] scope pos) (some (.Name y yp)) spos.line env = pure true) :
    Ex c d sc ρ (.Assign [.Name y yp] (.ListComp elt [⟨.Name x xp, iter, ifs, 0⟩] scope pos) spos) (wSet i (wComp c.ns wi is t e)) := by
  intro env A E s φ sl H Q eo ao ok vs w
  rw [exec_Assign_Name_used _ _ _ _ (hw env eo.scope)]
  refine wpAny_bind (wpAny_standAt (wpAny_bind ?_))
  show wpAny _ A (do let _ ← comprehension (.ListComp elt [⟨.Name x xp, iter, ifs, 0⟩] scope pos) scope env _ (newList []) false (eval iter env) (some (assign (.Name y yp) env))) _ _ s
  refine wpAny_bind (wpAny_mono (wpAny_comprehension_free (Q := fun _ s' => PostS c ρ env φ s Q .next s') rfl (hs env) (closureFor_eq (frs_closed eo vs _ _ S.fr)) S.kind S.names ?_) (fun _ s' hq => wpAny_pure (wpAny_pure hq)) fun _ _ e => e)
  refine comp_blockC G S hi ht he eo ao ok vs w fun D C s' ys H' φ' xs' ce => ?_
  obtain ⟨n, hD⟩ := ce.lst
  have ok₁ : Ok c ⟨φ'.l ++ [D], φ'.z⟩ (H' ++ [.list ys]) s'.heap := ce.ok.adopt ce.dl ce.dz (fresh0 ok ce.fd) hD (.list ce.rep)
  have rv : RepV c ⟨φ'.l ++ [D], φ'.z⟩ s'.heap (.loc H'.length) (.ref D) := .loc (by
    show (φ'.l ++ [D])[H'.length]? = some D
    rw [← ce.ok.len]; simp)
  have g₁ : Grow φ s.heap ⟨φ'.l ++ [D], φ'.z⟩ s'.heap := by
    obtain ⟨δ, ζ, e1, e2, hd, hz⟩ := ce.g.ext
    refine ⟨⟨δ ++ [D], ζ, by simp [e1], e2, fun a m => ?_, hz⟩, ce.g.keep, ce.g.live⟩
    rcases List.mem_append.mp m with m | m
    · exact hd a m
    · rw [List.mem_singleton.mp m]; exact ce.fd
  have fL : C ≠ env.locals := fun q => by
    obtain ⟨m, ⟨o, _, _, ho, _⟩, _⟩ := vs.loc
    rw [← q, ce.fc] at ho; cases ho
  have fCl : ∀ z, env.cells.lookup z ≠ some C := fun z q => by
    obtain ⟨_, _, _, u, o, ho, _⟩ := vs.offC z C q
    rw [ce.fc] at ho; cases ho
  have vs₁ : Vars c ρ ⟨φ'.l ++ [D], φ'.z⟩ s'.heap env sl := vs.grow g₁
  refine wpAny_assign_Name (store_okK (s := s') hy (.inl hl) S.skind eo ok₁ vs₁ rv fun s₂ ok₂ vs₂ gs₂ r₂ kp₂ => ?_)
  obtain ⟨m, hn⟩ := ce.ns
  refine ⟨m, hn.at' fun o e => kp₂ C o fL (fCl y) e, fun h₃ sb => ?_⟩
  have cl' : C ∉ φ'.l ++ [D] := fun q => (List.mem_append.mp q).elim ce.cl fun q => ce.dc (List.mem_singleton.mp q).symm
  have kp₃ : ∀ b o, b ≠ C → s₂.heap.get? b = some o → h₃.get? b = some o := fun b o n e => (sb.2 b n).trans e
  refine ⟨.next, _, _, ⟨φ'.l ++ [D], φ'.z⟩, ce.q, ok₂.same cl' ce.cz (fresh0 ok ce.fc) kp₃, vs₂.same fL fCl ce.cz kp₃, trivial, ?_, ((ce.r.trans r₂).trans ⟨h₃, s₂.toks, rfl⟩)⟩
  have g₂ := g₁.toS.trans gs₂
  exact ⟨g₂.ext, fun b o e n1 n2 n3 => kp₃ b o (fun q => by rw [q, ce.fc] at e; cases e) (g₂.keep b o e n1 n2 n3), fun b o e => by
    obtain ⟨o', e'⟩ := g₂.live b o e
    exact ⟨o', kp₃ b o' (fun q => by rw [q, ce.fc] at e; cases e) e'⟩⟩
end
end Mine

namespace Mine
section
variable {c : Cx} {d : Nat} {sc : Scope} {ρ : List Str}
theorem ex_setX {i x xp e pos a} (he : Ev c d sc ρ e a) (hi : ρ[i]? = some x) (hx : sc.names.lookup x = some .local ∨ sc.names.lookup x = some .cell) (hk : sc.kind = .function)
    (hs : ∀ env, env.scope = sc → swapsWith e (some (.Name x xp)) pos.line env = pure false) : Ex c d sc ρ (.Assign [.Name x xp] e pos) (wSet i a) := by
  intro env A E s φ sl H Q eo ao ok vs w
  refine wpAny_Assign_Name (wpAny_mono (he env A E s φ sl H _ eo ao ok vs w) (fun y s₁ p₁ => ?_) fun _ _ e => e) (hs env eo.scope)
  obtain ⟨v, H₁, φ₁, w₁, ok₁, rv, g₁, r₁⟩ := p₁
  exact store_ok hi hx hk eo ok₁ (vs.grow g₁) rv fun s₂ ok₂ vs₂ g₂ r₂ => ⟨.next, _, H₁, φ₁, w₁, ok₂, vs₂, trivial, g₁.toS.trans g₂, r₁.trans r₂⟩
end
/-! ElementInfo: an instance is .obj k [tagName] -/
def mkEI (k : Nat) : WF := fun args H Q => match args with | [a] => Q (.obj k [a]) H | _ => False
theorem e_mkEI {k a H Q} : mkEI k [a] H Q = Q (.obj k [a]) H := propext Iff.rfl
def kFalse : WF := fun args H Q => args.length = 1 ∧ Q (.bool false) H
theorem e_kFalse {a H Q} : kFalse [a] H Q = (1 = 1 ∧ Q (.bool false) H) := propext Iff.rfl
end Mine

namespace Mine
/-! ### the abstract heap has grown -/
def Ext (H H' : HW) : Prop := ∃ L, H' = H ++ L
theorem Ext.refl (H : HW) : Ext H H := ⟨[], by simp⟩
theorem Ext.app {H L : HW} : Ext H (H ++ L) := ⟨L, rfl⟩
theorem Ext.trans {a b d : HW} (x : Ext a b) (y : Ext b d) : Ext a d := by
  obtain ⟨L, rfl⟩ := x
  obtain ⟨M, rfl⟩ := y
  exact ⟨L ++ M, by simp⟩
theorem Ext.at {H H' : HW} (x : Ext H H') {k : Nat} {o} (h : H[k]? = some o) : H'[k]? = some o := by
  obtain ⟨L, rfl⟩ := x
  rw [List.getElem?_append_left (List.getElem?_eq_some_iff.mp h).1]; exact h
theorem Ext.lst {H H' : HW} (x : Ext H H') {k xs} (h : lstAt H k = some xs) : lstAt H' k = some xs := by
  obtain ⟨L, rfl⟩ := x
  exact lstAt_ext h
theorem lstAt_new {H : HW} {xs} : lstAt (H ++ [.list xs]) H.length = some xs := by unfold lstAt; simp
/-- a new list, whatever its place -/
theorem new_k {H : HW} {xs : List V} {Q : V → HW → Prop} (h : ∀ k H', Ext H H' → lstAt H' k = some xs → k = H.length → Q (.loc k) H') : Q (.loc H.length) (H ++ [.list xs]) := h _ _ .app lstAt_new rfl
section
variable {ns : List Int} {k : ItK}
theorem comp_inv {t : WT} {e : WE} {fv : Sl} {Q : List V → HW → Prop} (I : Nat → List V → HW → Prop) (hi : ∀ n ys H, I n ys H → k.inv ns H) (all : List V)
    (step : ∀ (n : Nat) v ys H, all[n]? = some v → I n ys H → ∀ (R : Bool → HW → Prop), (∀ H', I (n + 1) ys H' → R false H') → (∀ H', (∀ R' : V → HW → Prop, (∀ y H'', I (n + 1) (ys ++ [y]) H'' → R' y H'') → e (some v :: fv) H' R') → R true H') → t (some v :: fv) H R)
    (fin : ∀ ys H, I all.length ys H → Q ys H) : ∀ (m n : Nat), n + m = all.length → ∀ ys H, I n ys H → wCompGo ns k t e fv (all.drop n) ys H Q
  | 0, n, hn, ys, H, i => by
    rw [List.drop_eq_nil_of_le (by omega), e_comp0]
    exact fin _ _ (by rw [← hn]; exact i)
  | m + 1, n, hn, ys, H, i => by
    have hlt : n < all.length := by omega
    rw [List.drop_eq_getElem_cons hlt, e_compS]
    refine step n all[n] ys H (List.getElem?_eq_getElem hlt) i _ (fun H' i' => ?_) (fun H' h => ?_)
    · rw [if_neg (by decide)]
      exact ⟨hi _ _ _ i', comp_inv I hi all step fin m (n + 1) (by omega) _ _ i'⟩
    · rw [if_pos rfl]
      exact h _ fun y H'' i' => ⟨hi _ _ _ i', comp_inv I hi all step fin m (n + 1) (by omega) _ _ i'⟩
theorem comp_invT {e : WE} {fv : Sl} {Q : List V → HW → Prop} {all : List V} {H : HW} (I : Nat → List V → HW → Prop) (hi : ∀ n ys H, I n ys H → k.inv ns H)
    (step : ∀ (n : Nat) v ys H, all[n]? = some v → I n ys H → ∀ (R' : V → HW → Prop), (∀ y H'', I (n + 1) (ys ++ [y]) H'' → R' y H'') → e (some v :: fv) H R')
    (h0 : I 0 [] H) (fin : ∀ ys H, I all.length ys H → Q ys H) : wCompGo ns k tTrue e fv all [] H Q := by
  have := comp_inv (ns := ns) (k := k) (t := tTrue) (e := e) (fv := fv) (Q := Q) I hi all (fun n v ys H hv i R _ h2 => h2 H fun R' hr => step n v ys H hv i R' hr) fin all.length 0 (by simp) [] H h0
  simpa using this
theorem for_inv {ta : WA} {b : WS} {Q : Fl → Sl → HW → Prop} (I : Nat → Sl → HW → Prop) (hi : ∀ n sl H, I n sl H → k.inv ns H) {all : List V}
    (step : ∀ (n : Nat) v sl H, all[n]? = some v → I n sl H → ∀ R : Fl → Sl → HW → Prop, (∀ sl' H', I (n + 1) sl' H' → R .next sl' H') → ta v sl H fun sl₁ H₁ => b sl₁ H₁ R)
    (fin : ∀ sl H, I all.length sl H → Q .next sl H) {sl H} (h0 : I 0 sl H) : wForGo ns k ta b all sl H Q := by
  have go : ∀ (m n : Nat), n + m = all.length → ∀ sl H, I n sl H → wForGo ns k ta b (all.drop n) sl H Q := by
    intro m
    induction m with
    | zero =>
      intro n hn sl H i
      rw [List.drop_eq_nil_of_le (by omega), e_for0]
      exact fin _ _ (by rw [← hn]; exact i)
    | succ m ih =>
      intro n hn sl H i
      have hlt : n < all.length := by omega
      rw [List.drop_eq_getElem_cons hlt, e_for1]
      exact step n all[n] sl H (List.getElem?_eq_getElem hlt) i _ fun sl' H' i' => ⟨hi _ _ _ i', ih (n + 1) (by omega) _ _ i'⟩
  simpa using go all.length 0 (by simp) sl H h0
end
theorem rangeL_nat (n : Nat) : rangeL 0 (n : Int) 1 = (List.range n).map fun i => V.int (i : Nat) := by
  unfold rangeL
  have : (Builtin.Range.rangeSize 0 (n : Int) 1).toNat = n := by
    unfold Builtin.Range.rangeSize
    simp only [show ((1 : Int) > 0) = True by simp, if_true]
    split <;> omega
  rw [this]
  apply List.map_congr_left
  intro i _
  congr 1; omega
theorem getI_nat {xs : List V} {k : Nat} : getI xs (k : Int) = xs[k]? := by
  unfold getI; rw [if_pos (by omega)]; simp
theorem fdiv_nat (a b : Nat) : Int.fdiv (a : Int) (b : Int) = ((a / b : Nat) : Int) := by
  rw [Int.fdiv_eq_ediv_of_nonneg _ (by omega)]; rfl
theorem fmod_nat (a b : Nat) : Int.fmod (a : Int) (b : Int) = ((a % b : Nat) : Int) := by
  rw [Int.fmod_eq_emod_of_nonneg _ (by omega)]; rfl
theorem sliceV_map {α β : Type} (f : α → β) (xs : List α) (a b d : Option Int) : sliceV (xs.map f) a b d = (sliceV xs a b d).map f := by
  unfold sliceV
  rw [List.length_map, List.map_filterMap]
  congr 1
  funext i
  simp
theorem asL_scr {ns : List Int} {H : HW} : asL ns H .script = some (ns.map .int) := rfl
abbrev natV (n : Nat) : V := .int (n : Int)
theorem range_get {N n : Nat} {v : V} (h : ((List.range N).map natV)[n]? = some v) : n < N ∧ v = natV n := by
  rw [List.getElem?_map] at h
  obtain ⟨i, h1, rfl⟩ := Option.map_eq_some_iff.mp h
  obtain ⟨h2, h3⟩ := List.getElem?_eq_some_iff.mp h1
  simp at h2 h3
  subst h3
  exact ⟨h2, rfl⟩
section
variable {ns : List Int} {sl : Sl} {H : HW}
theorem comp_range {a : WE} {m : Nat} {t : WT} {e : WE} {is : List Nat} {Q : V → HW → Prop} (ha : ∀ R : V → HW → Prop, R (natV m) H → a sl H R) (hm : m ≤ 1000)
    (h : wCompGo ns (.walk ((List.range m).map natV)) t e (fvOf sl is) ((List.range m).map natV) [] H fun ys H₂ => Q (.loc H₂.length) (H₂ ++ [.list ys])) : wComp ns (iRange1 a) is t e sl H Q := by
  rw [e_wComp, e_iRange1]
  refine ha _ ⟨⟨by omega, by omega⟩, ?_⟩
  show (rangeL 0 (m : Int) 1).length ≤ 100000 ∧ wCompGo ns (.walk (rangeL 0 (m : Int) 1)) t e _ (rangeL 0 (m : Int) 1) [] H _
  rw [rangeL_nat]
  exact ⟨by simp; omega, h⟩
theorem comp_lst {a : WE} {k : Nat} {xs : List V} {t : WT} {e : WE} {is : List Nat} {Q : V → HW → Prop} (ha : ∀ R : V → HW → Prop, R (.loc k) H → a sl H R) (hk : lstAt H k = some xs) (hm : xs.length ≤ 1000)
    (h : wCompGo ns (.list (.loc k) xs) t e (fvOf sl is) xs [] H fun ys H₂ => Q (.loc H₂.length) (H₂ ++ [.list ys])) : wComp ns (iList ns a) is t e sl H Q := by
  rw [e_wComp, e_iList]
  refine ha _ ?_
  rw [asL_loc, hk]
  exact ⟨by show xs.length ≤ 100000; omega, h⟩
theorem comp_lst_map {a : WE} {k : Nat} {xs : List V} {e : WE} {is : List Nat} {f : V → V} {Q : V → HW → Prop} (ha : ∀ R : V → HW → Prop, R (.loc k) H → a sl H R) (hk : lstAt H k = some xs) (hm : xs.length ≤ 1000)
    (he : ∀ v ∈ xs, ∀ R : V → HW → Prop, R (f v) H → e (some v :: fvOf sl is) H R) (q : ∀ k' H', Ext H H' → lstAt H' k' = some (xs.map f) → k' = H.length → Q (.loc k') H') : wComp ns (iList ns a) is tTrue e sl H Q :=
  comp_lst ha hk hm (comp_map (by exact hk) _ he (q _ _ .app lstAt_new rfl))
theorem comp_range_map {a : WE} {m : Nat} {e : WE} {is : List Nat} {f : Nat → V} {Q : V → HW → Prop} (ha : ∀ R : V → HW → Prop, R (natV m) H → a sl H R) (hm : m ≤ 1000)
    (he : ∀ v, v < m → ∀ R : V → HW → Prop, R (f v) H → e (some (natV v) :: fvOf sl is) H R) (q : ∀ k' H', Ext H H' → lstAt H' k' = some ((List.range m).map f) → k' = H.length → Q (.loc k') H') : wComp ns (iRange1 a) is tTrue e sl H Q := by
  refine comp_range ha hm (comp_map (f := fun v => match v with | .int j => f j.toNat | v => v) (by exact trivial) _ (fun v mv R r => ?_) ?_)
  · obtain ⟨j, hj, rfl⟩ := List.mem_map.mp mv
    exact he j (List.mem_range.mp hj) R r
  · rw [List.map_map]
    exact q _ _ .app lstAt_new rfl
theorem comp_range_filter {a : WE} {m : Nat} {t : WT} {is : List Nat} {p : Nat → Bool} {Q : V → HW → Prop} (ha : ∀ R : V → HW → Prop, R (natV m) H → a sl H R) (hm : m ≤ 1000)
    (ht : ∀ v, v < m → ∀ R : Bool → HW → Prop, R (p v) H → t (some (natV v) :: fvOf sl is) H R) (q : ∀ k' H', Ext H H' → lstAt H' k' = some (((List.range m).filter p).map natV) → k' = H.length → Q (.loc k') H') : wComp ns (iRange1 a) is t (wVar 0) sl H Q := by
  refine comp_range ha hm (comp_pure (p := fun v => match v with | .int j => p j.toNat | _ => false) (f := fun v => v) (by exact trivial) _ _ (fun v mv R r => ?_) (fun v _ _ R r => r) ?_)
  · obtain ⟨j, hj, rfl⟩ := List.mem_map.mp mv
    exact ht j (List.mem_range.mp hj) R r
  · rw [List.nil_append, List.map_id', List.filter_map]
    exact q _ _ .app lstAt_new rfl
theorem comp_lst_filter {a : WE} {k : Nat} {xs : List V} {t : WT} {is : List Nat} {p : V → Bool} {Q : V → HW → Prop} (ha : ∀ R : V → HW → Prop, R (.loc k) H → a sl H R) (hk : lstAt H k = some xs) (hm : xs.length ≤ 1000)
    (ht : ∀ v ∈ xs, ∀ R : Bool → HW → Prop, R (p v) H → t (some v :: fvOf sl is) H R) (q : ∀ k' H', Ext H H' → lstAt H' k' = some (xs.filter p) → k' = H.length → Q (.loc k') H') : wComp ns (iList ns a) is t (wVar 0) sl H Q :=
  comp_lst ha hk hm (comp_pure (p := p) (f := fun v => v) (by exact hk) _ _ ht (fun v _ _ R r => r) (by rw [List.nil_append, List.map_id']; exact q _ _ .app lstAt_new rfl))
theorem for_range {a : WE} {m : Nat} {ta : WA} {b : WS} {Q : Fl → Sl → HW → Prop} (ha : ∀ R : V → HW → Prop, R (natV m) H → a sl H R) (hm : m ≤ 1000)
    (h : wForGo ns (.walk ((List.range m).map natV)) ta b ((List.range m).map natV) sl H Q) : wFor ns (iRange1 a) ta b sl H Q := by
  rw [e_for, e_iRange1]
  refine ha _ ⟨⟨by omega, by omega⟩, ?_⟩
  show wForGo ns (.walk (rangeL 0 (m : Int) 1)) ta b (rangeL 0 (m : Int) 1) sl H Q
  rw [rangeL_nat]
  exact h
end
theorem e_neNil {ns : List Int} {H : HW} {k : Nat} {is : List Int} {Q : V → HW → Prop} (h : lstAt H k = some (is.map V.int)) : wNeX ns (.loc k) (.loc H.length) (H ++ [.list []]) Q = Q (.bool (!decide (is = []))) (H ++ [.list []]) := by
  rw [e_neXL]
  exact e_cmpI (js := []) (lstAt_ext h) lstAt_new
theorem addL_k {ns : List Int} {H : HW} {k j xs ys} {Q : V → HW → Prop} (h1 : lstAt H k = some xs) (h2 : lstAt H j = some ys) (hl : xs.length + ys.length ≤ 1000000) (q : ∀ m H', Ext H H' → lstAt H' m = some (xs ++ ys) → m = H.length → Q (.loc m) H') : wAdd ns (.loc k) (.loc j) H Q := by
  rw [e_addL h1 h2]
  exact ⟨hl, q _ _ .app lstAt_new rfl⟩
theorem e_slot {c : Cx} {sl H k i a Q} : wSlot c k i a sl H Q = a sl H (fun v H₁ => clsV c H₁ v = some k ∧ match slotV c H₁ i v with | some u => Q u H₁ | none => False) := propext Iff.rfl
end Mine

namespace Mine
/-! TypeInfo: an instance is .obj 0 [name, namespace] -/
def gName : WF := fun args H Q => match args with | [.obj 0 [a, _]] => Q a H | _ => False
def gNs : WF := fun args H Q => match args with | [.obj 0 [_, a]] => Q a H | _ => False
def mkTI : WF := fun args H Q => match args with | [a, b] => Q (.obj 0 [b, a]) H | _ => False
/-- a chain: the name is the item, the namespace the rest -/
inductive Ch : V → List V → Prop
  | nil : Ch .none []
  | cons {x r xs} : Ch r xs → Ch (.obj 0 [x, r]) (x :: xs)
def rowW : WF := fun args H Q => match args with | [v] => ∃ xs, Ch v xs ∧ xs.length ≤ 100 ∧ Q (.loc H.length) (H ++ [.list xs]) | _ => False
theorem e_gName {a b H Q} : gName [.obj 0 [a, b]] H Q = Q a H := propext Iff.rfl
theorem e_gNs {a b H Q} : gNs [.obj 0 [a, b]] H Q = Q b H := propext Iff.rfl
theorem e_mkTI {a b H Q} : mkTI [a, b] H Q = Q (.obj 0 [b, a]) H := propext Iff.rfl
theorem e_rowW {v H Q} : rowW [v] H Q = ∃ xs, Ch v xs ∧ xs.length ≤ 100 ∧ Q (.loc H.length) (H ++ [.list xs]) := propext Iff.rfl
end Mine

namespace Mine.N11
def mex (l : List Nat) : Nat := ((List.range 6).find? fun r => !l.contains r).getD 0
theorem mex_spec {l : List Nat} {r : Nat} (h6 : r < 6) (hr : r ∉ l) : mex l ∉ l ∧ mex l ≤ r ∧ ∀ a < mex l, a ∈ l := by
  unfold mex
  cases h : (List.range 6).find? fun r => !l.contains r with
  | none =>
    rw [List.find?_eq_none] at h
    have := h r (List.mem_range.mpr h6)
    simp at this
    exact absurd this hr
  | some m =>
    rw [List.find?_range_eq_some] at h
    obtain ⟨h1, h2, h3⟩ := h
    simp only [Option.getD_some]
    refine ⟨by simpa using h1, ?_, fun a ha => by simpa using h3 a ha⟩
    apply Nat.le_of_not_lt
    intro q
    have := h3 r q
    simp at this
    exact hr this
section
variable (wy : Nat → List Nat)
def tab : Nat → List Nat
  | 0 => []
  | n + 1 => tab n ++ [mex ((wy n).map fun j => (tab n).getD j 0)]
theorem tab_len (n : Nat) : (tab wy n).length = n := by
  induction n with
  | zero => rfl
  | succ n ih => simp [tab, ih]
theorem tab_get {j n : Nat} (h : j < n) : ∀ d, (tab wy (n + d)).getD j 0 = (tab wy n).getD j 0
  | 0 => rfl
  | d + 1 => by
    rw [← tab_get h d]
    show (tab wy (n + d) ++ _).getD j 0 = _
    rw [List.getD_eq_getElem?_getD, List.getD_eq_getElem?_getD, List.getElem?_append_left (by rw [tab_len]; omega)]
def g (k : Nat) : Nat := (tab wy 5).getD k 0
variable {wy}
theorem tab_g {j n : Nat} (h : j < n) (hn : n ≤ 5) : (tab wy n).getD j 0 = g wy j := by
  unfold g
  have := tab_get wy h (5 - n)
  rw [show n + (5 - n) = 5 by omega] at this
  exact this.symm
theorem tab_at {j n : Nat} (h : j < n) (hn : n ≤ 5) : (tab wy n)[j]? = some (g wy j) := by
  have := tab_g (wy := wy) h hn
  rw [List.getD_eq_getElem?_getD, List.getElem?_eq_getElem (by rw [tab_len]; exact h)] at this
  rw [List.getElem?_eq_getElem (by rw [tab_len]; exact h), ← this]; rfl
variable (W : ∀ k, ∀ j ∈ wy k, j < k)
include W
theorem map_g {k : Nat} (hk : k ≤ 5) : (wy k).map (fun j => (tab wy k).getD j 0) = (wy k).map (g wy) := by
  apply List.map_congr_left
  intro j hj
  exact tab_g (W k j hj) hk
theorem g_eq {k : Nat} (hk : k < 5) : g wy k = mex ((wy k).map (g wy)) := by
  rw [← map_g W (Nat.le_of_lt hk), ← tab_g (Nat.lt_succ_self k) hk]
  show (tab wy k ++ [_]).getD k 0 = _
  rw [List.getD_eq_getElem?_getD, List.getElem?_append_right (by rw [tab_len]; exact Nat.le_refl _), tab_len]
  simp
theorem g_spec (k : Nat) : k < 5 → g wy k ∉ (wy k).map (g wy) ∧ g wy k ≤ k ∧ ∀ a < g wy k, a ∈ (wy k).map (g wy) := by
  induction k using Nat.strongRecOn with
  | _ k ih =>
    intro hk
    rw [g_eq W hk]
    refine mex_spec (by omega) fun m => ?_
    obtain ⟨j, hj, e⟩ := List.mem_map.mp m
    have hjk := W k j hj
    have := (ih j hjk (by omega)).2.1
    omega
omit W
variable (wy) in
def win (s : Nat) : Bool := decide (g wy (s / 25) ^^^ g wy (s / 5 % 5) ^^^ g wy (s % 5) ≠ 0)
variable (wy) in
def moves (s : Nat) : List Nat := (wy (s / 25)).map (fun j => 25 * (s / 25 - j)) ++ (wy (s / 5 % 5)).map (fun j => 5 * (s / 5 % 5 - j)) ++ (wy (s % 5)).map (fun j => s % 5 - j)
theorem nim1b : ((List.range 5).all fun a => (List.range 5).all fun b => (List.range 5).all fun d => (a ^^^ b ^^^ d == 0) || (List.range a).any (fun x => x ^^^ b ^^^ d == 0) || (List.range b).any (fun x => a ^^^ x ^^^ d == 0) || (List.range d).any (fun x => a ^^^ b ^^^ x == 0)) = true := by decide +kernel
theorem nim1 (a) (ha : a < 5) (b) (hb : b < 5) (d) (hd : d < 5) (h : a ^^^ b ^^^ d ≠ 0) : (∃ x, x < a ∧ x ^^^ b ^^^ d = 0) ∨ (∃ x, x < b ∧ a ^^^ x ^^^ d = 0) ∨ ∃ x, x < d ∧ a ^^^ b ^^^ x = 0 := by
  have := nim1b
  rw [List.all_eq_true] at this
  have := this a (List.mem_range.mpr ha)
  rw [List.all_eq_true] at this
  have := this b (List.mem_range.mpr hb)
  rw [List.all_eq_true] at this
  have := this d (List.mem_range.mpr hd)
  rw [Bool.or_eq_true, Bool.or_eq_true, Bool.or_eq_true, List.any_eq_true, List.any_eq_true, List.any_eq_true] at this
  rcases this with ((h1 | ⟨x, h1, h2⟩) | ⟨x, h1, h2⟩) | ⟨x, h1, h2⟩
  · exact absurd (eq_of_beq h1) h
  · exact .inl ⟨x, List.mem_range.mp h1, eq_of_beq h2⟩
  · exact .inr (.inl ⟨x, List.mem_range.mp h1, eq_of_beq h2⟩)
  · exact .inr (.inr ⟨x, List.mem_range.mp h1, eq_of_beq h2⟩)
theorem nim0b : ((List.range 5).all fun a => (List.range 5).all fun b => (List.range 5).all fun d => (a ^^^ b ^^^ d != 0) || (List.range 5).all fun x => ((x == a) || (x ^^^ b ^^^ d != 0)) && ((x == b) || (a ^^^ x ^^^ d != 0)) && ((x == d) || (a ^^^ b ^^^ x != 0))) = true := by decide +kernel
theorem nim0 (a) (ha : a < 5) (b) (hb : b < 5) (d) (hd : d < 5) (h : a ^^^ b ^^^ d = 0) (x) (hx : x < 5) : (x ≠ a → x ^^^ b ^^^ d ≠ 0) ∧ (x ≠ b → a ^^^ x ^^^ d ≠ 0) ∧ (x ≠ d → a ^^^ b ^^^ x ≠ 0) := by
  have := nim0b
  rw [List.all_eq_true] at this
  have := this a (List.mem_range.mpr ha)
  rw [List.all_eq_true] at this
  have := this b (List.mem_range.mpr hb)
  rw [List.all_eq_true] at this
  have := this d (List.mem_range.mpr hd)
  rw [Bool.or_eq_true, List.all_eq_true] at this
  rcases this with h1 | h1
  · simp [h] at h1
  · have := h1 x (List.mem_range.mpr hx)
    rw [Bool.and_eq_true, Bool.and_eq_true, Bool.or_eq_true, Bool.or_eq_true, Bool.or_eq_true] at this
    obtain ⟨⟨p, q⟩, r⟩ := this
    simp only [beq_iff_eq, bne_iff_ne] at p q r
    exact ⟨fun n => p.resolve_left n, fun n => q.resolve_left n, fun n => r.resolve_left n⟩
theorem win_at {u v w : Nat} (hv : v < 5) (hw : w < 5) : win wy (25 * u + 5 * v + w) = decide (g wy u ^^^ g wy v ^^^ g wy w ≠ 0) := by
  unfold win
  rw [show (25 * u + 5 * v + w) / 25 = u by omega, show (25 * u + 5 * v + w) / 5 % 5 = v by omega, show (25 * u + 5 * v + w) % 5 = w by omega]
include W
theorem nim {s : Nat} (hs : s < 125) : ((moves wy s).any fun m => !win wy (s - m)) = win wy s := by
  obtain ⟨u, v, w, hu, hv, hw, rfl⟩ : ∃ u v w, u < 5 ∧ v < 5 ∧ w < 5 ∧ s = 25 * u + 5 * v + w := ⟨s / 25, s / 5 % 5, s % 5, by omega, by omega, by omega, by omega⟩
  unfold moves
  rw [show (25 * u + 5 * v + w) / 25 = u by omega, show (25 * u + 5 * v + w) / 5 % 5 = v by omega, show (25 * u + 5 * v + w) % 5 = w by omega, win_at hv hw]
  obtain ⟨au, bu, du⟩ := g_spec W u hu
  obtain ⟨av, bv, dv⟩ := g_spec W v hv
  obtain ⟨aw, bw, dw⟩ := g_spec W w hw
  have eu : ∀ j ∈ wy u, 25 * u + 5 * v + w - 25 * (u - j) = 25 * j + 5 * v + w := fun j hj => by have := W u j hj; omega
  have ev : ∀ j ∈ wy v, 25 * u + 5 * v + w - 5 * (v - j) = 25 * u + 5 * j + w := fun j hj => by have := W v j hj; omega
  have ew : ∀ j ∈ wy w, 25 * u + 5 * v + w - (w - j) = 25 * u + 5 * v + j := fun j hj => by have := W w j hj; omega
  by_cases X : g wy u ^^^ g wy v ^^^ g wy w = 0
  · rw [show decide (g wy u ^^^ g wy v ^^^ g wy w ≠ 0) = false by simp [X], List.any_eq_false]
    have N := nim0 (g wy u) (by omega) (g wy v) (by omega) (g wy w) (by omega) X
    intro m hm
    simp only [List.mem_append, List.mem_map] at hm
    rcases hm with (⟨j, hj, rfl⟩ | ⟨j, hj, rfl⟩) | ⟨j, hj, rfl⟩
    · have jl := W u j hj
      rw [eu j hj, win_at hv hw]
      have := (N (g wy j) (by have := (g_spec W j (by omega)).2.1; omega)).1 (fun q => au (q ▸ List.mem_map_of_mem hj))
      simp [this]
    · have jl := W v j hj
      rw [ev j hj, win_at (by omega) hw]
      have := (N (g wy j) (by have := (g_spec W j (by omega)).2.1; omega)).2.1 (fun q => av (q ▸ List.mem_map_of_mem hj))
      simp [this]
    · have jl := W w j hj
      rw [ew j hj, win_at hv (by omega)]
      have := (N (g wy j) (by have := (g_spec W j (by omega)).2.1; omega)).2.2 (fun q => aw (q ▸ List.mem_map_of_mem hj))
      simp [this]
  · rw [show decide (g wy u ^^^ g wy v ^^^ g wy w ≠ 0) = true by simp [X], List.any_eq_true]
    rcases nim1 (g wy u) (by omega) (g wy v) (by omega) (g wy w) (by omega) X with ⟨x, hx, e⟩ | ⟨x, hx, e⟩ | ⟨x, hx, e⟩
    · obtain ⟨j, hj, rfl⟩ := List.mem_map.mp (du x hx)
      refine ⟨25 * (u - j), by simp only [List.mem_append, List.mem_map]; exact .inl (.inl ⟨j, hj, rfl⟩), ?_⟩
      rw [eu j hj, win_at hv hw, e]; rfl
    · obtain ⟨j, hj, rfl⟩ := List.mem_map.mp (dv x hx)
      refine ⟨5 * (v - j), by simp only [List.mem_append, List.mem_map]; exact .inl (.inr ⟨j, hj, rfl⟩), ?_⟩
      rw [ev j hj, win_at (by have := W v j hj; omega) hw, e]; rfl
    · obtain ⟨j, hj, rfl⟩ := List.mem_map.mp (dw x hx)
      refine ⟨w - j, by simp only [List.mem_append, List.mem_map]; exact .inr ⟨j, hj, rfl⟩, ?_⟩
      rw [ew j hj, win_at hv (by have := W w j hj; omega), e]; rfl
theorem moves_le {s m : Nat} (hs : s < 125) (h : m ∈ moves wy s) : 0 < m ∧ m ≤ s := by
  unfold moves at h
  simp only [List.mem_append, List.mem_map] at h
  rcases h with (⟨j, hj, rfl⟩ | ⟨j, hj, rfl⟩) | ⟨j, hj, rfl⟩
  · have := W _ j hj; omega
  · have := W _ j hj; omega
  · have := W _ j hj; omega
end
end Mine.N11

namespace Mine
open N11
def w11b1 (c : Cx) : WS := wSeq (wSetT [7, 8, 9] (wTup (wCons (wBin wDiv (wVar 6) (wK (V.int 25))) (wCons (wBin wMod (wBin wDiv (wVar 6) (wK (V.int 5))) (wK (V.int 5))) (wCons (wBin wMod (wVar 6) (wK (V.int 5))) wNil))))) (wSeq (wSet 10 (wBin (wAdd c.ns) (wBin (wAdd c.ns) (wComp c.ns (iList c.ns (wIdx c.ns (wVar 2) (wVar 7))) [7] tTrue (wBin wMul (wK (V.int 25)) (wBin (onI fun i j => V.int (i - j)) (wVar 1) (wVar 0)))) (wComp c.ns (iList c.ns (wIdx c.ns (wVar 2) (wVar 8))) [8] tTrue (wBin wMul (wK (V.int 5)) (wBin (onI fun i j => V.int (i - j)) (wVar 1) (wVar 0))))) (wComp c.ns (iList c.ns (wIdx c.ns (wVar 2) (wVar 9))) [9] tTrue (wBin (onI fun i j => V.int (i - j)) (wVar 1) (wVar 0))))) (wSeq (wSet 11 (wMeth c 0 kFalse (wIdx c.ns (wVar 4) (wVar 6)) wNil)) (wSeq (wIf (tv (wBin (wNeX c.ns) (wComp c.ns (iList c.ns (wVar 10)) [6, 5] (tNot (tv (wIdx c.ns (wVar 2) (wBin (onI fun i j => V.int (i - j)) (wVar 1) (wVar 0))))) (wVar 0)) (wList wNil))) (wSeq (wSet 11 (wK (V.bool true))) wSkip) wSkip) (wSeq (wDrop (wAppend (wVar 5) (wVar 11))) wSkip))))
def w11b2 (c : Cx) : WS := wSeq (wSet 14 (wComp c.ns (iList c.ns (wIdx c.ns (wVar 2) (wVar 13))) [12] tTrue (wIdx c.ns (wVar 1) (wVar 0)))) (wSeq (wDrop (wAppend (wVar 12) (wCall (bMinL c.ns) (wCons (wComp c.ns (iRange1 (wK (V.int 6))) [14] (tv (wBin (wInI c.ns not) (wVar 0) (wVar 1))) (wVar 0)) wNil)))) wSkip)
def w11b3 (c : Cx) : WS := wSeq (wSet 15 (wBin (wNeX c.ns) (wBin (onI fun i j => V.int (Builtin.bitXor i j)) (wBin (onI fun i j => V.int (Builtin.bitXor i j)) (wIdx c.ns (wVar 12) (wBin wDiv (wVar 6) (wK (V.int 25)))) (wIdx c.ns (wVar 12) (wBin wMod (wBin wDiv (wVar 6) (wK (V.int 5))) (wK (V.int 5))))) (wIdx c.ns (wVar 12) (wBin wMod (wVar 6) (wK (V.int 5))))) (wK (V.int 0)))) (wSeq (wIf (tv (wBin (wIs c not) (wIdx c.ns (wVar 5) (wVar 6)) (wVar 15))) (wSeq (wRet (wK (V.bool false))) wSkip) wSkip) wSkip)
def w11m (c : Cx) : WE := wComp c.ns (iRange1 (wK (V.int 5))) [0] tTrue (wBin (wAdd c.ns) (wBin wMul (wK (V.int 19)) (wVar 0)) (wCall (bSum c.ns) (wCons (wSlice c.ns (wVar 1) (oSome (wBin (onI fun i j => V.int (i - j)) (wK (V.int 4)) (wVar 0))) oNone (oSome (wK (V.int 5)))) wNil)))
def w11w (c : Cx) : WE := wComp c.ns (iRange1 (wK (V.int 5))) [1] tTrue (wComp c.ns (iRange1 (wVar 0)) [0, 1] (tv (wBin (wEqX id) (wBin wMod (wBin wDiv (wIdx c.ns (wVar 2) (wVar 1)) (wBin wPow (wK (V.int 2)) (wVar 0))) (wK (V.int 2))) (wK (V.int 1)))) (wVar 0))
def w11n (c : Cx) : WE := wList (wCons (wK V.none) (wCons (wK (V.str (Str.ofString ""))) (wCons (wK (V.str (Str.ofString "p:x"))) (wCons (wList wNil) (wCons (wCall (bSum c.ns) (wCons (wVar 0) wNil)) wNil)))))
def w11i (c : Cx) : WE := wComp c.ns (iRange1 (wK (V.int 125))) [3] tTrue (wCall (mkEI 0) (wCons (wIdx c.ns (wVar 1) (wBin wDiv (wVar 0) (wK (V.int 25)))) wNil))
def w11t9 (c : Cx) : WS := wSeq (wRet (wBin (wEqD c.ns id) (wComp c.ns (iList c.ns (wVar 4)) [] tTrue (wSlot c 0 0 (wVar 0))) (wComp c.ns (iRange1 (wK (V.int 125))) [3] tTrue (wIdx c.ns (wVar 1) (wBin wDiv (wVar 0) (wK (V.int 25))))))) wSkip
def w11t8 (c : Cx) : WS := wSeq (wFor c.ns (iRange1 (wK (V.int 125))) (aName 6) (w11b3 c)) (w11t9 c)
def w11t7 (c : Cx) : WS := wSeq (wFor c.ns (iRange1 (wK (V.int 5))) (aName 13) (w11b2 c)) (w11t8 c)
def w11t5 (c : Cx) : WS := wSeq (wFor c.ns (iRange1 (wK (V.int 125))) (aName 6) (w11b1 c)) (wSeq (wSet 12 (wList wNil)) (w11t7 c))
def w11law (c : Cx) : WS := wSeq (wSet 1 (w11m c)) (wSeq (wSet 2 (w11w c)) (wSeq (wSet 3 (w11n c)) (wSeq (wSet 4 (w11i c)) (wSeq (wSet 5 (wList wNil)) (w11t5 c)))))
/-- the lists of B stand -/
def Kp (B H : HW) : Prop := ∀ k xs, lstAt B k = some xs → lstAt H k = some xs
theorem Kp.refl (B : HW) : Kp B B := fun _ _ h => h
theorem Kp.ext {B H H' : HW} (h : Kp B H) (x : Ext H H') : Kp B H' := fun k xs e => x.lst (h k xs e)
theorem Kp.set {B H : HW} (h : Kp B H) {j : Nat} (hj : B.length ≤ j) {lo} : Kp B (H.set j lo) := fun k xs e => by
  have := lstAt_lt e
  rw [lstAt_set_ne (by omega)]; exact h k xs e
theorem Kp.of {A B H : HW} (x : Kp A B) (y : Kp B H) : Kp A H := fun k xs e => y k xs (x k xs e)
section
variable {c : Cx} {sl : Sl} {H : HW}
theorem masks_ok {Q : V → HW → Prop} (h0 : sl[0]? = some (some .script)) (hn : c.ns.length ≤ 63) (q : ∀ k H' (ms : List Int), Ext H H' → lstAt H' k = some (ms.map .int) → ms.length = 5 → Q (.loc k) H') : w11m c sl H Q := by
  refine comp_range (m := 5) (fun _ r => r) (by decide) (comp_invT (fun n ys H' => Ext H H' ∧ ∃ ms : List Int, ys = ms.map .int ∧ ms.length = n) (fun _ _ _ _ => trivial) ?_ ⟨.refl _, [], rfl, rfl⟩ ?_)
  · rintro n v ys H' hv ⟨x, ms, rfl, hm⟩ R hr
    obtain ⟨hn5, rfl⟩ := range_get hv
    have hf : (fvOf sl [0])[0]? = some (some .script) := by simp [fvOf, h0]
    simp only [e_mkEI, e_kFalse, e_slot, e_comp0, e_mul, e_eqXI, e_eqXS, e_neXI, e_neXL, e_pow, e_is, e_eqD, e_sum, e_minL, e_inI, e_tTrue, true_and, and_true, ne_eq, not_false_eq_true, Int.reduceEq, Nat.reduceLeDiff, Nat.reduceLT, reduceIte, Option.isSome_some, reduceCtorEq, Int.reduceBEq, Int.reduceNeg, Int.reduceLT, Nat.reduceAdd, Bool.false_eq_true, Bool.not_true, Bool.not_false, if_true, if_false, e_skip, e_isN, isN, id, e_mkTI, e_addI, e_addS, e_min, e_max, e_drop, e_append, e_pop, e_seq, e_setR, e_setT, e_list, e_tup, e_cons, e_meth, e_var, e_nil, e_idx, e_neg, e_k, e_set, e_aug, e_bin, e_mod, e_div, e_if, e_ret, e_and, e_or, e_not, e_tv, e_onI, e_call, e_aTupR, e_aTup, e_aName, e_gName, e_gNs, e_clsO, e_onone, e_osome, e_slice, List.getElem?_cons_zero, List.getElem?_cons_succ, List.set_cons_zero, List.set_cons_succ, List.length_cons, List.length_nil, List.reverse_cons, List.reverse_nil, List.nil_append, List.cons_append, e_setAll, e_setAll0, asL_loc, hf, asL_scr]
    refine ⟨IntMulOk.of_left (by decide), by simp; omega, ?_⟩
    refine ⟨sliceV c.ns (some (4 - (n : Int))) none (some 5), by rw [lstAt_new, sliceV_map], ?_⟩
    refine hr _ _ ⟨x.trans .app, ms ++ [19 * (n : Int) + (sliceV c.ns (some (4 - (n : Int))) none (some 5)).sum], by simp, by simp [hm]⟩
  · rintro ys H' ⟨x, ms, rfl, hm⟩
    exact q _ _ ms (x.trans .app) lstAt_new (by simpa using hm)
/-- the bit -/
def bitP (M : Int) (j : Nat) : Bool := (M.fdiv (2 ^ j)).fmod 2 == 1
def wyOf (ms : List Int) (k : Nat) : List Nat := (List.range k).filter (bitP (ms.getD k 0))
theorem wy_lt {ms k j} (h : j ∈ wyOf ms k) : j < k := List.mem_range.mp (List.mem_filter.mp h).1
structure Wy (wy : Nat → List Nat) (iW : Nat) (H : HW) : Prop where
  at_ : ∃ ks : List Nat, lstAt H iW = some (ks.map .loc) ∧ ks.length = 5 ∧ ∀ (j : Nat) kj, ks[j]? = some kj → lstAt H kj = some ((wy j).map natV)
theorem ways_ok {Q : V → HW → Prop} {iM : Nat} {ms : List Int} (h1 : sl[1]? = some (some (.loc iM))) (hm : lstAt H iM = some (ms.map .int)) (hl : ms.length = 5) (q : ∀ k H', Ext H H' → Wy (wyOf ms) k H' → Q (.loc k) H') : w11w c sl H Q := by
  refine comp_range (m := 5) (fun _ r => r) (by decide) (comp_invT (fun n ys H' => Ext H H' ∧ ∃ ks : List Nat, ys = ks.map .loc ∧ ks.length = n ∧ ∀ (j : Nat) kj, ks[j]? = some kj → lstAt H' kj = some ((wyOf ms j).map natV)) (fun _ _ _ _ => trivial) ?_ ⟨.refl _, [], rfl, rfl, by simp⟩ ?_)
  · rintro n v ys H' hv ⟨x, ks, rfl, hk, hks⟩ R hr
    obtain ⟨hn5, rfl⟩ := range_get hv
    have hf : (fvOf sl [1])[0]? = some (some (.loc iM)) := by simp [fvOf, h1]
    have hm' := x.lst hm
    have mx : ms[n]? = some (ms.getD n 0) := by
      rw [List.getD_eq_getElem?_getD, List.getElem?_eq_getElem (by omega)]; rfl
    refine comp_range (m := n) (fun R r => r) (by omega) (comp_pure (p := fun v => match v with | .int j => bitP (ms.getD n 0) j.toNat | _ => false) (f := fun v => v) (by exact trivial) _ _ ?_ (fun v _ _ R r => r) ?_)
    · intro v mv R r
      obtain ⟨j, hj, rfl⟩ := List.mem_map.mp mv
      have hjn := List.mem_range.mp hj
      have hf2 : (fvOf (some (natV n) :: fvOf sl [1]) [0, 1]) = [some (natV n), some (.loc iM)] := by simp [fvOf, h1]
      rw [hf2]
      have e2 : ((2 : Int) ^ ((j : Int)).toNat) = ((2 ^ j : Nat) : Int) := by simp
      have p2 : 2 ^ j ≤ 2 ^ 5 := Nat.pow_le_pow_right (by decide) (by omega)
      have p0 : 0 < 2 ^ j := Nat.pow_pos (by decide)
      simp only [e_mkEI, e_kFalse, e_slot, e_comp0, e_mul, e_eqXI, e_eqXS, e_neXI, e_neXL, e_pow, e_is, e_eqD, e_sum, e_minL, e_inI, e_tTrue, true_and, and_true, ne_eq, not_false_eq_true, Int.reduceEq, Nat.reduceLeDiff, Nat.reduceLT, reduceIte, Option.isSome_some, reduceCtorEq, Int.reduceBEq, Int.reduceNeg, Int.reduceLT, Nat.reduceAdd, Bool.false_eq_true, Bool.not_true, Bool.not_false, if_true, if_false, e_skip, e_isN, isN, id, e_mkTI, e_addI, e_addS, e_min, e_max, e_drop, e_append, e_pop, e_seq, e_setR, e_setT, e_list, e_tup, e_cons, e_meth, e_var, e_nil, e_idx, e_neg, e_k, e_set, e_aug, e_bin, e_mod, e_div, e_if, e_ret, e_and, e_or, e_not, e_tv, e_onI, e_call, e_aTupR, e_aTup, e_aName, e_gName, e_gNs, e_clsO, e_onone, e_osome, e_slice, List.getElem?_cons_zero, List.getElem?_cons_succ, List.set_cons_zero, List.set_cons_succ, List.length_cons, List.length_nil, List.reverse_cons, List.reverse_nil, List.nil_append, List.cons_append, e_setAll, e_setAll0, asL_loc, hm', getI_nat, List.getElem?_map, mx, Option.map_some, List.length_map, hl, e2]
      refine ⟨⟨by omega, by omega, by decide⟩, ⟨by omega, by omega⟩, ?_⟩
      simpa [bitP] using r
    · have : ([] ++ List.map (fun v => v) (List.filter (fun v => match v with | .int j => bitP (ms.getD n 0) j.toNat | _ => false) ((List.range n).map natV))) = (wyOf ms n).map natV := by
        simp only [List.nil_append, List.map_id', wyOf, List.filter_map]
        congr 1
      rw [this]
      refine hr _ _ ⟨x.trans .app, ks ++ [H'.length], by simp, by simp [hk], fun j kj hj => ?_⟩
      by_cases q : j < n
      · rw [List.getElem?_append_left (by omega)] at hj
        exact lstAt_ext (hks j kj hj)
      · have : j = n := by
          have := (List.getElem?_eq_some_iff.mp hj).1
          simp at this; omega
        subst this
        rw [List.getElem?_append_right (by omega)] at hj
        simp [hk] at hj
        subst hj
        exact lstAt_new
  · rintro ys H' ⟨x, ks, rfl, hk, hks⟩
    exact q _ _ (x.trans .app) ⟨ks, lstAt_new, by simpa using hk, fun j kj hj => lstAt_ext (hks j kj hj)⟩
def nmV (e : Nat) (S : Int) : Nat → V
  | 0 => .none
  | 1 => .str (Str.ofString "")
  | 2 => .str (Str.ofString "p:x")
  | 3 => .loc e
  | _ => .int S
def nms (e : Nat) (S : Int) : List V := [.none, .str (Str.ofString ""), .str (Str.ofString "p:x"), .loc e, .int S]
theorem nms_at {e S} {j : Nat} (h : j < 5) : (nms e S)[j]? = some (nmV e S j) := by
  match j, h with
  | 0, _ => rfl
  | 1, _ => rfl
  | 2, _ => rfl
  | 3, _ => rfl
  | 4, _ => rfl
theorem names_ok {Q : V → HW → Prop} (h0 : sl[0]? = some (some .script)) (q : ∀ k H' e, Ext H H' → lstAt H' k = some (nms e c.ns.sum) → lstAt H' e = some [] → Q (.loc k) H') : w11n c sl H Q := by
  unfold w11n
  simp only [e_mkEI, e_kFalse, e_slot, e_comp0, e_mul, e_eqXI, e_eqXS, e_neXI, e_neXL, e_pow, e_is, e_eqD, e_sum, e_minL, e_inI, e_tTrue, true_and, and_true, ne_eq, not_false_eq_true, Int.reduceEq, Nat.reduceLeDiff, Nat.reduceLT, reduceIte, Option.isSome_some, reduceCtorEq, Int.reduceBEq, Int.reduceNeg, Int.reduceLT, Nat.reduceAdd, Bool.false_eq_true, Bool.not_true, Bool.not_false, if_true, if_false, e_skip, e_isN, isN, id, e_mkTI, e_addI, e_addS, e_min, e_max, e_drop, e_append, e_pop, e_seq, e_setR, e_setT, e_list, e_tup, e_cons, e_meth, e_var, e_nil, e_idx, e_neg, e_k, e_set, e_aug, e_bin, e_mod, e_div, e_if, e_ret, e_and, e_or, e_not, e_tv, e_onI, e_call, e_aTupR, e_aTup, e_aName, e_gName, e_gNs, e_clsO, e_onone, e_osome, e_slice, List.getElem?_cons_zero, List.getElem?_cons_succ, List.set_cons_zero, List.set_cons_succ, List.length_cons, List.length_nil, List.reverse_cons, List.reverse_nil, List.nil_append, List.cons_append, e_setAll, e_setAll0, asL_loc, h0]
  refine ⟨c.ns, asL_scr, ?_⟩
  exact q _ _ H.length (Ext.trans .app .app) lstAt_new (lstAt_ext lstAt_new)
theorem infos_ok {Q : V → HW → Prop} {iN e : Nat} {S : Int} (h3 : sl[3]? = some (some (.loc iN))) (hm : lstAt H iN = some (nms e S)) (q : ∀ k H', Ext H H' → lstAt H' k = some ((List.range 125).map fun s => .obj 0 [nmV e S (s / 25)]) → Q (.loc k) H') : w11i c sl H Q := by
  refine comp_range (m := 125) (fun _ r => r) (by decide) (comp_map (f := fun v => match v with | .int s => .obj 0 [nmV e S (s.toNat / 25)] | v => v) (by exact trivial) _ ?_ ?_)
  · intro v mv R r
    obtain ⟨s, hs, rfl⟩ := List.mem_map.mp mv
    have hs' := List.mem_range.mp hs
    have hf : (fvOf sl [3]) = [some (.loc iN)] := by simp [fvOf, h3]
    rw [hf]
    have e25 : Int.fdiv (s : Int) 25 = ((s / 25 : Nat) : Int) := fdiv_nat s 25
    simp only [e_mkEI, e_kFalse, e_slot, e_comp0, e_mul, e_eqXI, e_eqXS, e_neXI, e_neXL, e_pow, e_is, e_eqD, e_sum, e_minL, e_inI, e_tTrue, true_and, and_true, ne_eq, not_false_eq_true, Int.reduceEq, Nat.reduceLeDiff, Nat.reduceLT, reduceIte, Option.isSome_some, reduceCtorEq, Int.reduceBEq, Int.reduceNeg, Int.reduceLT, Nat.reduceAdd, Bool.false_eq_true, Bool.not_true, Bool.not_false, if_true, if_false, e_skip, e_isN, isN, id, e_mkTI, e_addI, e_addS, e_min, e_max, e_drop, e_append, e_pop, e_seq, e_setR, e_setT, e_list, e_tup, e_cons, e_meth, e_var, e_nil, e_idx, e_neg, e_k, e_set, e_aug, e_bin, e_mod, e_div, e_if, e_ret, e_and, e_or, e_not, e_tv, e_onI, e_call, e_aTupR, e_aTup, e_aName, e_gName, e_gNs, e_clsO, e_onone, e_osome, e_slice, List.getElem?_cons_zero, List.getElem?_cons_succ, List.set_cons_zero, List.set_cons_succ, List.length_cons, List.length_nil, List.reverse_cons, List.reverse_nil, List.nil_append, List.cons_append, e_setAll, e_setAll0, asL_loc, hm, e25, getI_nat, nms_at (e := e) (S := S) (show s / 25 < 5 by omega)]
    exact ⟨by decide, by simp [nms], r⟩
  · rw [List.map_map]
    exact q _ _ .app lstAt_new
theorem mv_ok {wy : Nat → List Nat} {Q : V → HW → Prop} {iW i u : Nat} {ex : WE} {f : Nat → Nat} (h2 : sl[2]? = some (some (.loc iW))) (hi : sl[i]? = some (some (natV u))) (hu : u < 5) (w : Wy wy iW H) (hl : (wy u).length ≤ 5)
    (he : ∀ j ∈ wy u, ∀ R : V → HW → Prop, R (natV (f j)) H → ex [some (natV j), some (natV u)] H R) (q : ∀ k H', Ext H H' → lstAt H' k = some (((wy u).map f).map natV) → Q (.loc k) H') :
    wComp c.ns (iList c.ns (wIdx c.ns (wVar 2) (wVar i))) [i] tTrue ex sl H Q := by
  obtain ⟨ks, w1, w2, w3⟩ := w.at_
  have ku : ks[u]? = some ks[u] := List.getElem?_eq_getElem (by omega)
  have lu := w3 u _ ku
  refine comp_lst (k := ks[u]) (xs := (wy u).map natV) (fun R r => ?_) lu (by simp; omega) (comp_map (f := fun v => match v with | .int j => natV (f j.toNat) | v => v) (by exact lu) _ ?_ ?_)
  · simp only [e_mkEI, e_kFalse, e_slot, e_comp0, e_mul, e_eqXI, e_eqXS, e_neXI, e_neXL, e_pow, e_is, e_eqD, e_sum, e_minL, e_inI, e_tTrue, true_and, and_true, ne_eq, not_false_eq_true, Int.reduceEq, Nat.reduceLeDiff, Nat.reduceLT, reduceIte, Option.isSome_some, reduceCtorEq, Int.reduceBEq, Int.reduceNeg, Int.reduceLT, Nat.reduceAdd, Bool.false_eq_true, Bool.not_true, Bool.not_false, if_true, if_false, e_skip, e_isN, isN, id, e_mkTI, e_addI, e_addS, e_min, e_max, e_drop, e_append, e_pop, e_seq, e_setR, e_setT, e_list, e_tup, e_cons, e_meth, e_var, e_nil, e_idx, e_neg, e_k, e_set, e_aug, e_bin, e_mod, e_div, e_if, e_ret, e_and, e_or, e_not, e_tv, e_onI, e_call, e_aTupR, e_aTup, e_aName, e_gName, e_gNs, e_clsO, e_onone, e_osome, e_slice, List.getElem?_cons_zero, List.getElem?_cons_succ, List.set_cons_zero, List.set_cons_succ, List.length_cons, List.length_nil, List.reverse_cons, List.reverse_nil, List.nil_append, List.cons_append, e_setAll, e_setAll0, asL_loc, h2, hi, w1, getI_nat, List.getElem?_map, ku, Option.map_some, List.length_map]
    exact ⟨by omega, r⟩
  · intro v mv R r
    obtain ⟨j, hj, rfl⟩ := List.mem_map.mp mv
    have hf : (fvOf sl [i]) = [some (natV u)] := by simp [fvOf, hi]
    rw [hf]
    exact he j hj R r
  · rw [List.map_map]
    rw [List.map_map] at q
    exact q _ _ .app lstAt_new
theorem wy_len {wy : Nat → List Nat} {ms : List Int} (h : wy = wyOf ms) {u : Nat} (hu : u < 5) : (wy u).length ≤ 5 := by
  subst h
  have := List.length_filter_le (bitP (ms.getD u 0)) (List.range u)
  rw [List.length_range] at this
  show (List.filter _ _).length ≤ 5
  omega
/-- what stands from the first loop on -/
structure Bs (wy : Nat → List Nat) (iW iN iI e : Nat) (S : Int) (B : HW) : Prop where
  wy : Wy wy iW B
  nm : lstAt B iN = some (nms e S)
  em : lstAt B e = some []
  inf : lstAt B iI = some ((List.range 125).map fun s => .obj 0 [nmV e S (s / 25)])
theorem Wy.keep {wy iW B H} (w : Wy wy iW B) (k : Kp B H) : Wy wy iW H := by
  obtain ⟨ks, w1, w2, w3⟩ := w.at_
  exact ⟨ks, k _ _ w1, w2, fun j kj hj => k _ _ (w3 j kj hj)⟩
theorem Bs.keep {wy iW iN iI e S B H} (w : Bs wy iW iN iI e S B) (k : Kp B H) : Bs wy iW iN iI e S H := ⟨w.wy.keep k, k _ _ w.nm, k _ _ w.em, k _ _ w.inf⟩
def F1 (wy : Nat → List Nat) (iW iN iI iO : Nat) (B : HW) (n : Nat) (sl : Sl) (H : HW) : Prop :=
  ∃ a1 x6 x7 x8 x9 x10 x11 x12 x13 x14 x15, sl = [some .script, a1, some (.loc iW), some (.loc iN), some (.loc iI), some (.loc iO), x6, x7, x8, x9, x10, x11, x12, x13, x14, x15] ∧ Kp B H ∧ lstAt H iO = some ((List.range n).map fun s => .bool (win wy s))
theorem body1 {wy iW iN iI e S B iO} (b : Bs wy iW iN iI e S B) (bo : B.length ≤ iO) (W : ∀ k, ∀ j ∈ wy k, j < k) (hl : ∀ u, u < 5 → (wy u).length ≤ 5) {n : Nat} {v : V} (hv : ((List.range 125).map natV)[n]? = some v) (i : F1 wy iW iN iI iO B n sl H)
    (R : Fl → Sl → HW → Prop) (hr : ∀ sl' H', F1 wy iW iN iI iO B (n + 1) sl' H' → R .next sl' H') : aName 6 v sl H fun sl₁ H₁ => w11b1 c sl₁ H₁ R := by
  obtain ⟨hn, rfl⟩ := range_get hv
  obtain ⟨a1, x6, x7, x8, x9, x10, x11, x12, x13, x14, x15, rfl, kp, wo⟩ := i
  have e25 : Int.fdiv (n : Int) 25 = ((n / 25 : Nat) : Int) := fdiv_nat n 25
  have e5 : Int.fdiv (n : Int) 5 = ((n / 5 : Nat) : Int) := fdiv_nat n 5
  have m5 : Int.fmod (n : Int) 5 = ((n % 5 : Nat) : Int) := fmod_nat n 5
  have m55 : Int.fmod ((n / 5 : Nat) : Int) 5 = ((n / 5 % 5 : Nat) : Int) := fmod_nat (n / 5) 5
  rw [e_aName]
  unfold w11b1
  simp only [e_mkEI, e_kFalse, e_slot, e_comp0, e_mul, e_eqXI, e_eqXS, e_neXI, e_neXL, e_pow, e_is, e_eqD, e_sum, e_minL, e_inI, e_tTrue, true_and, and_true, ne_eq, not_false_eq_true, Int.reduceEq, Nat.reduceLeDiff, Nat.reduceLT, reduceIte, Option.isSome_some, reduceCtorEq, Int.reduceBEq, Int.reduceNeg, Int.reduceLT, Nat.reduceAdd, Bool.false_eq_true, Bool.not_true, Bool.not_false, if_true, if_false, e_skip, e_isN, isN, id, e_mkTI, e_addI, e_addS, e_min, e_max, e_drop, e_append, e_pop, e_seq, e_setR, e_setT, e_list, e_tup, e_cons, e_meth, e_var, e_nil, e_idx, e_neg, e_k, e_set, e_aug, e_bin, e_mod, e_div, e_if, e_ret, e_and, e_or, e_not, e_tv, e_onI, e_call, e_aTupR, e_aTup, e_aName, e_gName, e_gNs, e_clsO, e_onone, e_osome, e_slice, List.getElem?_cons_zero, List.getElem?_cons_succ, List.set_cons_zero, List.set_cons_succ, List.length_cons, List.length_nil, List.reverse_cons, List.reverse_nil, List.nil_append, List.cons_append, e_setAll, e_setAll0, asL_loc, e25, e5, m5, m55]
  refine ⟨by decide, by decide, ?_⟩
  have B0 := b.keep kp
  refine mv_ok (u := n / 25) (f := fun j => 25 * (n / 25 - j)) (by rfl) (by rfl) (by omega) B0.wy (hl _ (by omega)) (fun j hj R r => ?_) ?_
  · have := W _ j hj
    simp only [e_mkEI, e_kFalse, e_slot, e_comp0, e_mul, e_eqXI, e_eqXS, e_neXI, e_neXL, e_pow, e_is, e_eqD, e_sum, e_minL, e_inI, e_tTrue, true_and, and_true, ne_eq, not_false_eq_true, Int.reduceEq, Nat.reduceLeDiff, Nat.reduceLT, reduceIte, Option.isSome_some, reduceCtorEq, Int.reduceBEq, Int.reduceNeg, Int.reduceLT, Nat.reduceAdd, Bool.false_eq_true, Bool.not_true, Bool.not_false, if_true, if_false, e_skip, e_isN, isN, id, e_mkTI, e_addI, e_addS, e_min, e_max, e_drop, e_append, e_pop, e_seq, e_setR, e_setT, e_list, e_tup, e_cons, e_meth, e_var, e_nil, e_idx, e_neg, e_k, e_set, e_aug, e_bin, e_mod, e_div, e_if, e_ret, e_and, e_or, e_not, e_tv, e_onI, e_call, e_aTupR, e_aTup, e_aName, e_gName, e_gNs, e_clsO, e_onone, e_osome, e_slice, List.getElem?_cons_zero, List.getElem?_cons_succ, List.set_cons_zero, List.set_cons_succ, List.length_cons, List.length_nil, List.reverse_cons, List.reverse_nil, List.nil_append, List.cons_append, e_setAll, e_setAll0, asL_loc]
    refine ⟨IntMulOk.of_left (by decide), ?_⟩
    have : (25 : Int) * (((n / 25 : Nat) : Int) - (j : Int)) = ((25 * (n / 25 - j) : Nat) : Int) := by omega
    rw [this]; exact r
  intro k1 H1 x1 y1
  refine mv_ok (u := n / 5 % 5) (f := fun j => 5 * (n / 5 % 5 - j)) (by rfl) (by rfl) (by omega) (B0.wy.keep (Kp.refl _ |>.ext x1)) (hl _ (by omega)) (fun j hj R r => ?_) ?_
  · have := W _ j hj
    simp only [e_mkEI, e_kFalse, e_slot, e_comp0, e_mul, e_eqXI, e_eqXS, e_neXI, e_neXL, e_pow, e_is, e_eqD, e_sum, e_minL, e_inI, e_tTrue, true_and, and_true, ne_eq, not_false_eq_true, Int.reduceEq, Nat.reduceLeDiff, Nat.reduceLT, reduceIte, Option.isSome_some, reduceCtorEq, Int.reduceBEq, Int.reduceNeg, Int.reduceLT, Nat.reduceAdd, Bool.false_eq_true, Bool.not_true, Bool.not_false, if_true, if_false, e_skip, e_isN, isN, id, e_mkTI, e_addI, e_addS, e_min, e_max, e_drop, e_append, e_pop, e_seq, e_setR, e_setT, e_list, e_tup, e_cons, e_meth, e_var, e_nil, e_idx, e_neg, e_k, e_set, e_aug, e_bin, e_mod, e_div, e_if, e_ret, e_and, e_or, e_not, e_tv, e_onI, e_call, e_aTupR, e_aTup, e_aName, e_gName, e_gNs, e_clsO, e_onone, e_osome, e_slice, List.getElem?_cons_zero, List.getElem?_cons_succ, List.set_cons_zero, List.set_cons_succ, List.length_cons, List.length_nil, List.reverse_cons, List.reverse_nil, List.nil_append, List.cons_append, e_setAll, e_setAll0, asL_loc]
    refine ⟨IntMulOk.of_left (by decide), ?_⟩
    have : (5 : Int) * (((n / 5 % 5 : Nat) : Int) - (j : Int)) = ((5 * (n / 5 % 5 - j) : Nat) : Int) := by omega
    rw [this]; exact r
  intro k2 H2 x2 y2
  have l1 := hl (n / 25) (by omega)
  have l2 := hl (n / 5 % 5) (by omega)
  have l3 := hl (n % 5) (by omega)
  refine addL_k (x2.lst y1) y2 (by simp; omega) fun k3 H3 x3 y3 _ => ?_
  refine mv_ok (u := n % 5) (f := fun j => n % 5 - j) (by rfl) (by rfl) (by omega) (B0.wy.keep (((Kp.refl _ |>.ext x1).ext x2).ext x3)) l3 (fun j hj R r => ?_) ?_
  · have := W _ j hj
    simp only [e_mkEI, e_kFalse, e_slot, e_comp0, e_mul, e_eqXI, e_eqXS, e_neXI, e_neXL, e_pow, e_is, e_eqD, e_sum, e_minL, e_inI, e_tTrue, true_and, and_true, ne_eq, not_false_eq_true, Int.reduceEq, Nat.reduceLeDiff, Nat.reduceLT, reduceIte, Option.isSome_some, reduceCtorEq, Int.reduceBEq, Int.reduceNeg, Int.reduceLT, Nat.reduceAdd, Bool.false_eq_true, Bool.not_true, Bool.not_false, if_true, if_false, e_skip, e_isN, isN, id, e_mkTI, e_addI, e_addS, e_min, e_max, e_drop, e_append, e_pop, e_seq, e_setR, e_setT, e_list, e_tup, e_cons, e_meth, e_var, e_nil, e_idx, e_neg, e_k, e_set, e_aug, e_bin, e_mod, e_div, e_if, e_ret, e_and, e_or, e_not, e_tv, e_onI, e_call, e_aTupR, e_aTup, e_aName, e_gName, e_gNs, e_clsO, e_onone, e_osome, e_slice, List.getElem?_cons_zero, List.getElem?_cons_succ, List.set_cons_zero, List.set_cons_succ, List.length_cons, List.length_nil, List.reverse_cons, List.reverse_nil, List.nil_append, List.cons_append, e_setAll, e_setAll0, asL_loc]
    have : (((n % 5 : Nat) : Int) - (j : Int)) = ((n % 5 - j : Nat) : Int) := by omega
    rw [this]; exact r
  intro k4 H4 x4 y4
  refine addL_k (x4.lst y3) y4 (by simp; omega) fun k5 H5 x5 y5 _ => ?_
  rw [← List.map_append, ← List.map_append] at y5
  have x : Ext H H5 := (((x1.trans x2).trans x3).trans x4).trans x5
  have y : lstAt H5 k5 = some ((moves wy n).map natV) := y5
  clear y1 y2 y3 y4 y5 x1 x2 x3 x4 x5
  have B5 := b.keep (kp.ext x)
  have wo5 := x.lst wo
  have en : ((List.range 125).map fun s => V.obj 0 [nmV e S (s / 25)])[n]? = some (.obj 0 [nmV e S (n / 25)]) := by simp [hn]
  simp only [e_mkEI, e_kFalse, e_slot, e_comp0, e_mul, e_eqXI, e_eqXS, e_neXI, e_neXL, e_pow, e_is, e_eqD, e_sum, e_minL, e_inI, e_tTrue, true_and, and_true, ne_eq, not_false_eq_true, Int.reduceEq, Nat.reduceLeDiff, Nat.reduceLT, reduceIte, Option.isSome_some, reduceCtorEq, Int.reduceBEq, Int.reduceNeg, Int.reduceLT, Nat.reduceAdd, Bool.false_eq_true, Bool.not_true, Bool.not_false, if_true, if_false, e_skip, e_isN, isN, id, e_mkTI, e_addI, e_addS, e_min, e_max, e_drop, e_append, e_pop, e_seq, e_setR, e_setT, e_list, e_tup, e_cons, e_meth, e_var, e_nil, e_idx, e_neg, e_k, e_set, e_aug, e_bin, e_mod, e_div, e_if, e_ret, e_and, e_or, e_not, e_tv, e_onI, e_call, e_aTupR, e_aTup, e_aName, e_gName, e_gNs, e_clsO, e_onone, e_osome, e_slice, List.getElem?_cons_zero, List.getElem?_cons_succ, List.set_cons_zero, List.set_cons_succ, List.length_cons, List.length_nil, List.reverse_cons, List.reverse_nil, List.nil_append, List.cons_append, e_setAll, e_setAll0, asL_loc, B5.inf, getI_nat, en]
  refine ⟨by simp, ?_⟩
  have ml : (moves wy n).length ≤ 15 := by simp [moves]; omega
  refine comp_lst (k := k5) (xs := (moves wy n).map natV) (fun R r => r) y (by simp; omega) (comp_pure (p := fun v => match v with | .int m => !win wy (n - m.toNat) | _ => false) (f := fun v => v) (by exact y) _ _ ?_ (fun v _ _ R r => r) ?_)
  · intro v mv R r
    obtain ⟨m, hm, rfl⟩ := List.mem_map.mp mv
    have mle := moves_le W hn hm
    have es : ((n : Int) - (m : Int)) = ((n - m : Nat) : Int) := by omega
    have ew : ((List.range n).map fun s => V.bool (win wy s))[n - m]? = some (.bool (win wy (n - m))) := by rw [List.getElem?_map, List.getElem?_range (by omega)]; rfl
    show tNot _ [some (natV m), some (natV n), some (.loc iO)] H5 R
    simp only [e_mkEI, e_kFalse, e_slot, e_comp0, e_mul, e_eqXI, e_eqXS, e_neXI, e_neXL, e_pow, e_is, e_eqD, e_sum, e_minL, e_inI, e_tTrue, true_and, and_true, ne_eq, not_false_eq_true, Int.reduceEq, Nat.reduceLeDiff, Nat.reduceLT, reduceIte, Option.isSome_some, reduceCtorEq, Int.reduceBEq, Int.reduceNeg, Int.reduceLT, Nat.reduceAdd, Bool.false_eq_true, Bool.not_true, Bool.not_false, if_true, if_false, e_skip, e_isN, isN, id, e_mkTI, e_addI, e_addS, e_min, e_max, e_drop, e_append, e_pop, e_seq, e_setR, e_setT, e_list, e_tup, e_cons, e_meth, e_var, e_nil, e_idx, e_neg, e_k, e_set, e_aug, e_bin, e_mod, e_div, e_if, e_ret, e_and, e_or, e_not, e_tv, e_onI, e_call, e_aTupR, e_aTup, e_aName, e_gName, e_gNs, e_clsO, e_onone, e_osome, e_slice, List.getElem?_cons_zero, List.getElem?_cons_succ, List.set_cons_zero, List.set_cons_succ, List.length_cons, List.length_nil, List.reverse_cons, List.reverse_nil, List.nil_append, List.cons_append, e_setAll, e_setAll0, asL_loc, es, wo5, getI_nat, ew]
    refine ⟨by simp; omega, ?_⟩
    simpa using r
  have ef : ([] ++ List.map (fun v => v) (List.filter (fun v => match v with | .int m => !win wy (n - m.toNat) | _ => false) ((moves wy n).map natV))) = (((moves wy n).filter fun m => !win wy (n - m)).map fun (m : Nat) => (m : Int)).map V.int := by
    simp only [List.nil_append, List.map_id', List.filter_map, List.map_map]
    congr 1
  rw [ef, e_neNil lstAt_new]
  have fin : ∀ bb x11', win wy n = bb → R .next [some .script, a1, some (.loc iW), some (.loc iN), some (.loc iI), some (.loc iO), some (natV n), some (.int ↑(n / 25)), some (.int ↑(n / 5 % 5)), some (.int ↑(n % 5)), some (.loc k5), x11', x12, x13, x14, x15]
      (List.set (H5 ++ [LO.list ((((moves wy n).filter fun m => !win wy (n - m)).map fun (m : Nat) => (m : Int)).map V.int)] ++ [LO.list []]) iO (.list ((List.range n).map (fun s => .bool (win wy s)) ++ [.bool bb]))) := fun bb x11' hb => by
    refine hr _ _ ⟨_, _, _, _, _, _, _, _, _, _, _, rfl, (((kp.ext x).ext .app).ext .app).set bo, ?_⟩
    rw [lstAt_set (by have := lstAt_lt wo5; simp; omega), List.range_succ, List.map_append]
    simp [hb]
  have N := nim W hn
  have wl : lstAt (H5 ++ [LO.list ((((moves wy n).filter fun m => !win wy (n - m)).map fun (m : Nat) => (m : Int)).map V.int)] ++ [LO.list []]) iO = some ((List.range n).map fun s => .bool (win wy s)) := lstAt_ext (lstAt_ext wo5)
  cases hw : win wy n with
  | true =>
    rw [hw, List.any_eq_true] at N
    obtain ⟨m, hm, hm'⟩ := N
    have : ¬ (((moves wy n).filter fun m => !win wy (n - m)).map fun (m : Nat) => (m : Int)) = [] := by
      rw [List.map_eq_nil_iff, List.filter_eq_nil_iff]
      exact fun h => h m hm hm'
    simp only [e_mkEI, e_kFalse, e_slot, e_comp0, e_mul, e_eqXI, e_eqXS, e_neXI, e_neXL, e_pow, e_is, e_eqD, e_sum, e_minL, e_inI, e_tTrue, true_and, and_true, ne_eq, not_false_eq_true, Int.reduceEq, Nat.reduceLeDiff, Nat.reduceLT, reduceIte, Option.isSome_some, reduceCtorEq, Int.reduceBEq, Int.reduceNeg, Int.reduceLT, Nat.reduceAdd, Bool.false_eq_true, Bool.not_true, Bool.not_false, if_true, if_false, e_skip, e_isN, isN, id, e_mkTI, e_addI, e_addS, e_min, e_max, e_drop, e_append, e_pop, e_seq, e_setR, e_setT, e_list, e_tup, e_cons, e_meth, e_var, e_nil, e_idx, e_neg, e_k, e_set, e_aug, e_bin, e_mod, e_div, e_if, e_ret, e_and, e_or, e_not, e_tv, e_onI, e_call, e_aTupR, e_aTup, e_aName, e_gName, e_gNs, e_clsO, e_onone, e_osome, e_slice, List.getElem?_cons_zero, List.getElem?_cons_succ, List.set_cons_zero, List.set_cons_succ, List.length_cons, List.length_nil, List.reverse_cons, List.reverse_nil, List.nil_append, List.cons_append, e_setAll, e_setAll0, asL_loc, this, decide_false, wl]
    exact ⟨by simp; omega, fin _ _ hw⟩
  | false =>
    rw [hw, List.any_eq_false] at N
    have : (((moves wy n).filter fun m => !win wy (n - m)).map fun (m : Nat) => (m : Int)) = [] := by
      rw [List.map_eq_nil_iff, List.filter_eq_nil_iff]
      exact fun m hm => N m hm
    rw [this] at fin wl
    simp only [e_mkEI, e_kFalse, e_slot, e_comp0, e_mul, e_eqXI, e_eqXS, e_neXI, e_neXL, e_pow, e_is, e_eqD, e_sum, e_minL, e_inI, e_tTrue, true_and, and_true, ne_eq, not_false_eq_true, Int.reduceEq, Nat.reduceLeDiff, Nat.reduceLT, reduceIte, Option.isSome_some, reduceCtorEq, Int.reduceBEq, Int.reduceNeg, Int.reduceLT, Nat.reduceAdd, Bool.false_eq_true, Bool.not_true, Bool.not_false, if_true, if_false, e_skip, e_isN, isN, id, e_mkTI, e_addI, e_addS, e_min, e_max, e_drop, e_append, e_pop, e_seq, e_setR, e_setT, e_list, e_tup, e_cons, e_meth, e_var, e_nil, e_idx, e_neg, e_k, e_set, e_aug, e_bin, e_mod, e_div, e_if, e_ret, e_and, e_or, e_not, e_tv, e_onI, e_call, e_aTupR, e_aTup, e_aName, e_gName, e_gNs, e_clsO, e_onone, e_osome, e_slice, List.getElem?_cons_zero, List.getElem?_cons_succ, List.set_cons_zero, List.set_cons_succ, List.length_cons, List.length_nil, List.reverse_cons, List.reverse_nil, List.nil_append, List.cons_append, e_setAll, e_setAll0, asL_loc, this, decide_true, wl]
    exact ⟨by simp; omega, fin _ _ hw⟩
def F2 (wy : Nat → List Nat) (iW iN iI iO iR : Nat) (B : HW) (n : Nat) (sl : Sl) (H : HW) : Prop :=
  ∃ a1 x6 x7 x8 x9 x10 x11 x13 x14 x15, sl = [some .script, a1, some (.loc iW), some (.loc iN), some (.loc iI), some (.loc iO), x6, x7, x8, x9, x10, x11, some (.loc iR), x13, x14, x15] ∧ Kp B H ∧ lstAt H iR = some ((tab wy n).map natV)
theorem body2 {wy iW iN iI e S B iO iR} (b : Bs wy iW iN iI e S B) (br : B.length ≤ iR) (W : ∀ k, ∀ j ∈ wy k, j < k) (hl : ∀ u, u < 5 → (wy u).length ≤ 5) {n : Nat} {v : V} (hv : ((List.range 5).map natV)[n]? = some v) (i : F2 wy iW iN iI iO iR B n sl H)
    (R : Fl → Sl → HW → Prop) (hr : ∀ sl' H', F2 wy iW iN iI iO iR B (n + 1) sl' H' → R .next sl' H') : aName 13 v sl H fun sl₁ H₁ => w11b2 c sl₁ H₁ R := by
  obtain ⟨hn, rfl⟩ := range_get hv
  obtain ⟨a1, x6, x7, x8, x9, x10, x11, x13, x14, x15, rfl, kp, wr⟩ := i
  have B0 := b.keep kp
  obtain ⟨ks, w1, w2, w3⟩ := B0.wy.at_
  have ku : ks[n]? = some ks[n] := List.getElem?_eq_getElem (by omega)
  have lu := w3 n _ ku
  have ln := hl n hn
  have tl := tab_len wy n
  rw [e_aName]
  unfold w11b2
  simp only [e_mkEI, e_kFalse, e_slot, e_comp0, e_mul, e_eqXI, e_eqXS, e_neXI, e_neXL, e_pow, e_is, e_eqD, e_sum, e_minL, e_inI, e_tTrue, true_and, and_true, ne_eq, not_false_eq_true, Int.reduceEq, Nat.reduceLeDiff, Nat.reduceLT, reduceIte, Option.isSome_some, reduceCtorEq, Int.reduceBEq, Int.reduceNeg, Int.reduceLT, Nat.reduceAdd, Bool.false_eq_true, Bool.not_true, Bool.not_false, if_true, if_false, e_skip, e_isN, isN, id, e_mkTI, e_addI, e_addS, e_min, e_max, e_drop, e_append, e_pop, e_seq, e_setR, e_setT, e_list, e_tup, e_cons, e_meth, e_var, e_nil, e_idx, e_neg, e_k, e_set, e_aug, e_bin, e_mod, e_div, e_if, e_ret, e_and, e_or, e_not, e_tv, e_onI, e_call, e_aTupR, e_aTup, e_aName, e_gName, e_gNs, e_clsO, e_onone, e_osome, e_slice, List.getElem?_cons_zero, List.getElem?_cons_succ, List.set_cons_zero, List.set_cons_succ, List.length_cons, List.length_nil, List.reverse_cons, List.reverse_nil, List.nil_append, List.cons_append, e_setAll, e_setAll0, asL_loc]
  refine comp_lst_map (k := ks[n]) (xs := (wy n).map natV) (f := fun v => match v with | .int j => natV ((tab wy n).getD j.toNat 0) | v => v) (fun R r => ?_) lu (by simp; omega) ?_ ?_
  · simp only [e_mkEI, e_kFalse, e_slot, e_comp0, e_mul, e_eqXI, e_eqXS, e_neXI, e_neXL, e_pow, e_is, e_eqD, e_sum, e_minL, e_inI, e_tTrue, true_and, and_true, ne_eq, not_false_eq_true, Int.reduceEq, Nat.reduceLeDiff, Nat.reduceLT, reduceIte, Option.isSome_some, reduceCtorEq, Int.reduceBEq, Int.reduceNeg, Int.reduceLT, Nat.reduceAdd, Bool.false_eq_true, Bool.not_true, Bool.not_false, if_true, if_false, e_skip, e_isN, isN, id, e_mkTI, e_addI, e_addS, e_min, e_max, e_drop, e_append, e_pop, e_seq, e_setR, e_setT, e_list, e_tup, e_cons, e_meth, e_var, e_nil, e_idx, e_neg, e_k, e_set, e_aug, e_bin, e_mod, e_div, e_if, e_ret, e_and, e_or, e_not, e_tv, e_onI, e_call, e_aTupR, e_aTup, e_aName, e_gName, e_gNs, e_clsO, e_onone, e_osome, e_slice, List.getElem?_cons_zero, List.getElem?_cons_succ, List.set_cons_zero, List.set_cons_succ, List.length_cons, List.length_nil, List.reverse_cons, List.reverse_nil, List.nil_append, List.cons_append, e_setAll, e_setAll0, asL_loc, w1, getI_nat, List.getElem?_map, ku, Option.map_some, List.length_map]
    exact ⟨by omega, r⟩
  · intro v mv R r
    obtain ⟨j, hj, rfl⟩ := List.mem_map.mp mv
    have hj' := W n j hj
    have : (tab wy n)[j]? = some ((tab wy n).getD j 0) := by
      rw [List.getD_eq_getElem?_getD, List.getElem?_eq_getElem (by omega)]; rfl
    show wIdx _ _ _ [some (natV j), some (.loc iR)] H R
    simp only [e_mkEI, e_kFalse, e_slot, e_comp0, e_mul, e_eqXI, e_eqXS, e_neXI, e_neXL, e_pow, e_is, e_eqD, e_sum, e_minL, e_inI, e_tTrue, true_and, and_true, ne_eq, not_false_eq_true, Int.reduceEq, Nat.reduceLeDiff, Nat.reduceLT, reduceIte, Option.isSome_some, reduceCtorEq, Int.reduceBEq, Int.reduceNeg, Int.reduceLT, Nat.reduceAdd, Bool.false_eq_true, Bool.not_true, Bool.not_false, if_true, if_false, e_skip, e_isN, isN, id, e_mkTI, e_addI, e_addS, e_min, e_max, e_drop, e_append, e_pop, e_seq, e_setR, e_setT, e_list, e_tup, e_cons, e_meth, e_var, e_nil, e_idx, e_neg, e_k, e_set, e_aug, e_bin, e_mod, e_div, e_if, e_ret, e_and, e_or, e_not, e_tv, e_onI, e_call, e_aTupR, e_aTup, e_aName, e_gName, e_gNs, e_clsO, e_onone, e_osome, e_slice, List.getElem?_cons_zero, List.getElem?_cons_succ, List.set_cons_zero, List.set_cons_succ, List.length_cons, List.length_nil, List.reverse_cons, List.reverse_nil, List.nil_append, List.cons_append, e_setAll, e_setAll0, asL_loc, wr, getI_nat, List.getElem?_map, this, Option.map_some, List.length_map, tl]
    exact ⟨by omega, r⟩
  intro k1 H1 x1 y1 _
  have et : List.map (fun v => match v with | .int j => natV ((tab wy n).getD j.toNat 0) | v => v) ((wy n).map natV) = (((wy n).map fun j => (tab wy n).getD j 0).map fun (a : Nat) => (a : Int)).map V.int := by
    simp [List.map_map]
  rw [et] at y1
  have hT : ∀ a ∈ ((wy n).map fun j => (tab wy n).getD j 0), a < n := fun a ha => by
    obtain ⟨j, hj, rfl⟩ := List.mem_map.mp ha
    have := W n j hj
    rw [tab_g this (by omega)]
    have := (g_spec W j (by omega)).2.1
    omega
  have en : tab wy (n + 1) = tab wy n ++ [mex ((wy n).map fun j => (tab wy n).getD j 0)] := rfl
  generalize ((wy n).map fun j => (tab wy n).getD j 0) = T at *
  have MX := mex_spec (l := T) (r := n) (by omega) (fun h => Nat.lt_irrefl _ (hT n h))
  have wr1 := x1.lst wr
  simp only [e_mkEI, e_kFalse, e_slot, e_comp0, e_mul, e_eqXI, e_eqXS, e_neXI, e_neXL, e_pow, e_is, e_eqD, e_sum, e_minL, e_inI, e_tTrue, true_and, and_true, ne_eq, not_false_eq_true, Int.reduceEq, Nat.reduceLeDiff, Nat.reduceLT, reduceIte, Option.isSome_some, reduceCtorEq, Int.reduceBEq, Int.reduceNeg, Int.reduceLT, Nat.reduceAdd, Bool.false_eq_true, Bool.not_true, Bool.not_false, if_true, if_false, e_skip, e_isN, isN, id, e_mkTI, e_addI, e_addS, e_min, e_max, e_drop, e_append, e_pop, e_seq, e_setR, e_setT, e_list, e_tup, e_cons, e_meth, e_var, e_nil, e_idx, e_neg, e_k, e_set, e_aug, e_bin, e_mod, e_div, e_if, e_ret, e_and, e_or, e_not, e_tv, e_onI, e_call, e_aTupR, e_aTup, e_aName, e_gName, e_gNs, e_clsO, e_onone, e_osome, e_slice, List.getElem?_cons_zero, List.getElem?_cons_succ, List.set_cons_zero, List.set_cons_succ, List.length_cons, List.length_nil, List.reverse_cons, List.reverse_nil, List.nil_append, List.cons_append, e_setAll, e_setAll0, asL_loc, wr1]
  refine comp_range_filter (m := 6) (p := fun r => !T.contains r) (fun R r => r) (by decide) ?_ ?_
  · intro v hv R r
    show tv _ [some (natV v), some (.loc k1)] H1 R
    simp only [e_mkEI, e_kFalse, e_slot, e_comp0, e_mul, e_eqXI, e_eqXS, e_neXI, e_neXL, e_pow, e_is, e_eqD, e_sum, e_minL, e_inI, e_tTrue, true_and, and_true, ne_eq, not_false_eq_true, Int.reduceEq, Nat.reduceLeDiff, Nat.reduceLT, reduceIte, Option.isSome_some, reduceCtorEq, Int.reduceBEq, Int.reduceNeg, Int.reduceLT, Nat.reduceAdd, Bool.false_eq_true, Bool.not_true, Bool.not_false, if_true, if_false, e_skip, e_isN, isN, id, e_mkTI, e_addI, e_addS, e_min, e_max, e_drop, e_append, e_pop, e_seq, e_setR, e_setT, e_list, e_tup, e_cons, e_meth, e_var, e_nil, e_idx, e_neg, e_k, e_set, e_aug, e_bin, e_mod, e_div, e_if, e_ret, e_and, e_or, e_not, e_tv, e_onI, e_call, e_aTupR, e_aTup, e_aName, e_gName, e_gNs, e_clsO, e_onone, e_osome, e_slice, List.getElem?_cons_zero, List.getElem?_cons_succ, List.set_cons_zero, List.set_cons_succ, List.length_cons, List.length_nil, List.reverse_cons, List.reverse_nil, List.nil_append, List.cons_append, e_setAll, e_setAll0, asL_loc]
    refine ⟨_, y1, ?_⟩
    have : (T.map fun (a : Nat) => (a : Int)).any (fun x => x == (v : Int)) = T.contains v := by
      rw [List.any_map, List.contains_eq_any_beq]
      congr 1
      funext a
      simp only [Function.comp]
      rw [Bool.eq_iff_iff, beq_iff_eq, beq_iff_eq]; omega
    rw [this]; exact r
  intro k2 H2 x2 y2 _
  refine ⟨((List.range 6).filter fun r => !T.contains r).map fun (a : Nat) => (a : Int), by rw [asL_loc, y2, List.map_map]; rfl, ?_, ?_⟩
  · rw [List.map_eq_nil_iff, List.filter_eq_nil_iff]
    intro h
    exact h n (List.mem_range.mpr (by omega)) (by simp; exact fun h => Nat.lt_irrefl _ (hT n h))
  · intro M hM hle
    obtain ⟨m, hm, rfl⟩ := List.mem_map.mp hM
    have : m = mex T := by
      have h1 := hle ((mex T : Nat) : Int) (List.mem_map_of_mem (List.mem_filter.mpr ⟨List.mem_range.mpr (by omega), by simpa using MX.1⟩))
      have h2 : m ∉ T := by simpa using (List.mem_filter.mp hm).2
      apply Nat.le_antisymm (by omega)
      apply Nat.le_of_not_lt
      intro q
      exact h2 (MX.2.2 m q)
    subst this
    rw [x2.lst wr1]
    refine ⟨by simp; omega, hr _ _ ⟨_, _, _, _, _, _, _, _, _, _, rfl, ((kp.ext x1).ext x2).set br, ?_⟩⟩
    rw [lstAt_set (lstAt_lt (x2.lst wr1)), en, List.map_append]
    rfl
theorem xor_nat : ((List.range 5).all fun a => (List.range 8).all fun b => Builtin.bitXor (b : Nat) (a : Nat) == ((b ^^^ a : Nat) : Int)) = true := by decide +kernel
theorem bitXor_nat {b a : Nat} (ha : a < 5) (hb : b < 8) : Builtin.bitXor (b : Int) (a : Int) = ((b ^^^ a : Nat) : Int) := by
  have := xor_nat
  rw [List.all_eq_true] at this
  have := this a (List.mem_range.mpr ha)
  rw [List.all_eq_true] at this
  exact eq_of_beq (this b (List.mem_range.mpr hb))
def F3 (wy : Nat → List Nat) (iW iN iI iO iR : Nat) (B : HW) (sl : Sl) (H : HW) : Prop :=
  H = B ∧ ∃ a1 x6 x7 x8 x9 x10 x11 x13 x14 x15, sl = [some .script, a1, some (.loc iW), some (.loc iN), some (.loc iI), some (.loc iO), x6, x7, x8, x9, x10, x11, some (.loc iR), x13, x14, x15]
theorem body3 {wy iW iN iI B iO iR} (wo : lstAt B iO = some ((List.range 125).map fun s => .bool (win wy s))) (wr : lstAt B iR = some ((tab wy 5).map natV)) (W : ∀ k, ∀ j ∈ wy k, j < k) {n : Nat} {v : V} (hv : ((List.range 125).map natV)[n]? = some v) (i : F3 wy iW iN iI iO iR B sl H)
    (R : Fl → Sl → HW → Prop) (hr : ∀ sl' H', F3 wy iW iN iI iO iR B sl' H' → R .next sl' H') : aName 6 v sl H fun sl₁ H₁ => w11b3 c sl₁ H₁ R := by
  obtain ⟨hn, rfl⟩ := range_get hv
  obtain ⟨rfl, a1, x6, x7, x8, x9, x10, x11, x13, x14, x15, rfl⟩ := i
  have e25 : Int.fdiv (n : Int) 25 = ((n / 25 : Nat) : Int) := fdiv_nat n 25
  have e5 : Int.fdiv (n : Int) 5 = ((n / 5 : Nat) : Int) := fdiv_nat n 5
  have m5 : Int.fmod (n : Int) 5 = ((n % 5 : Nat) : Int) := fmod_nat n 5
  have m55 : Int.fmod ((n / 5 : Nat) : Int) 5 = ((n / 5 % 5 : Nat) : Int) := fmod_nat (n / 5) 5
  have t1 := tab_at (wy := wy) (j := n / 25) (n := 5) (by omega) (by decide)
  have t2 := tab_at (wy := wy) (j := n / 5 % 5) (n := 5) (by omega) (by decide)
  have t3 := tab_at (wy := wy) (j := n % 5) (n := 5) (by omega) (by decide)
  have g1 := (g_spec W (n / 25) (by omega)).2.1
  have g2 := (g_spec W (n / 5 % 5) (by omega)).2.1
  have g3 := (g_spec W (n % 5) (by omega)).2.1
  have ew : ((List.range 125).map fun s => V.bool (win wy s))[n]? = some (.bool (win wy n)) := by rw [List.getElem?_map, List.getElem?_range hn]; rfl
  have X1 := bitXor_nat (b := g wy (n / 25)) (a := g wy (n / 5 % 5)) (by omega) (by omega)
  have x8l : g wy (n / 25) ^^^ g wy (n / 5 % 5) < 8 := Nat.xor_lt_two_pow (n := 3) (by omega) (by omega)
  have X2 := bitXor_nat (b := g wy (n / 25) ^^^ g wy (n / 5 % 5)) (a := g wy (n % 5)) (by omega) x8l
  rw [e_aName]
  unfold w11b3
  simp only [e_mkEI, e_kFalse, e_slot, e_comp0, e_mul, e_eqXI, e_eqXS, e_neXI, e_neXL, e_pow, e_is, e_eqD, e_sum, e_minL, e_inI, e_tTrue, true_and, and_true, ne_eq, not_false_eq_true, Int.reduceEq, Nat.reduceLeDiff, Nat.reduceLT, reduceIte, Option.isSome_some, reduceCtorEq, Int.reduceBEq, Int.reduceNeg, Int.reduceLT, Nat.reduceAdd, Bool.false_eq_true, Bool.not_true, Bool.not_false, if_true, if_false, e_skip, e_isN, isN, id, e_mkTI, e_addI, e_addS, e_min, e_max, e_drop, e_append, e_pop, e_seq, e_setR, e_setT, e_list, e_tup, e_cons, e_meth, e_var, e_nil, e_idx, e_neg, e_k, e_set, e_aug, e_bin, e_mod, e_div, e_if, e_ret, e_and, e_or, e_not, e_tv, e_onI, e_call, e_aTupR, e_aTup, e_aName, e_gName, e_gNs, e_clsO, e_onone, e_osome, e_slice, List.getElem?_cons_zero, List.getElem?_cons_succ, List.set_cons_zero, List.set_cons_succ, List.length_cons, List.length_nil, List.reverse_cons, List.reverse_nil, List.nil_append, List.cons_append, e_setAll, e_setAll0, asL_loc, e25, e5, m5, m55, wr, wo, getI_nat, List.getElem?_map, t1, t2, t3, Option.map_some, List.length_map, X1, X2, tab_len, ew]
  have hw : (((g wy (n / 25) ^^^ g wy (n / 5 % 5) ^^^ g wy (n % 5) : Nat) : Int) != 0) = win wy n := by
    unfold win
    rw [Bool.eq_iff_iff, bne_iff_ne, decide_eq_true_iff]; omega
  rw [hw]
  refine ⟨by decide, by decide, by simp, ?_⟩
  simp only [isV, beq_self_eq_true, Bool.not_true, Bool.false_eq_true, if_false]
  exact hr _ _ ⟨rfl, _, _, _, _, _, _, _, _, _, _, rfl⟩
/-- the names as data -/
def nmD (S : Int) : Nat → PyData
  | 0 => .none
  | 1 => .str (Str.ofString "")
  | 2 => .str (Str.ofString "p:x")
  | 3 => .list []
  | _ => .int S
theorem nm_dv {ns : List Int} {e : Nat} {S : Int} (he : lstAt H e = some []) (j : Nat) : DV ns H (nmV e S j) (nmD S j) := by
  match j with
  | 0 => exact .none
  | 1 => exact .str
  | 2 => exact .str
  | 3 => exact .list (xs := []) he .nil
  | _ + 4 => exact .int
theorem nms_dv {ns : List Int} {e : Nat} {S : Int} (he : lstAt H e = some []) : ∀ l : List Nat, DVs ns H (l.map fun s => nmV e S (s / 25)) (l.map fun s => nmD S (s / 25))
  | [] => .nil
  | s :: l => .cons (nm_dv he _) (nms_dv he l)
theorem nmD_ok (S : Int) (j : Nat) : (nmD S j).canLay0 = true ∧ (nmD S j).depth ≤ 2 := by
  match j with
  | 0 => exact ⟨rfl, by simp [nmD, PyData.depth]⟩
  | 1 => exact ⟨show PyData.canLay0 (.str (Str.ofString "")) = true by decide +kernel, by simp [nmD, PyData.depth]⟩
  | 2 => exact ⟨show PyData.canLay0 (.str (Str.ofString "p:x")) = true by decide +kernel, by simp [nmD, PyData.depth]⟩
  | 3 => exact ⟨rfl, by simp [nmD, PyData.depth, PyData.depthAll]⟩
  | _ + 4 => exact ⟨rfl, by simp [nmD, PyData.depth]⟩
theorem nmDs_ok (S : Int) : ∀ l : List Nat, PyData.canLayAll0 (l.map fun s => nmD S (s / 25)) = true ∧ PyData.depthAll (l.map fun s => nmD S (s / 25)) ≤ 2
  | [] => ⟨rfl, by simp [PyData.depthAll]⟩
  | s :: l => by
    obtain ⟨h1, h2⟩ := nmDs_ok S l
    obtain ⟨h3, h4⟩ := nmD_ok S (s / 25)
    rw [List.map_cons]
    exact ⟨by rw [PyData.canLayAll0, h3, h1]; rfl, by rw [PyData.depthAll]; omega⟩
theorem end11 {e S a1 iW iN iI iO x6 x7 x8 x9 x10 x11 x12 x13 x14 x15} {Q : Fl → Sl → HW → Prop} (nm : lstAt H iN = some (nms e S)) (em : lstAt H e = some []) (inf : lstAt H iI = some ((List.range 125).map fun s => .obj 0 [nmV e S (s / 25)]))
    (q : ∀ sl H', Q (.ret (.bool true)) sl H') : w11t9 c [some .script, a1, some (.loc iW), some (.loc iN), some (.loc iI), some (.loc iO), x6, x7, x8, x9, x10, x11, x12, x13, x14, x15] H Q := by
  unfold w11t9
  simp only [e_mkEI, e_kFalse, e_slot, e_comp0, e_mul, e_eqXI, e_eqXS, e_neXI, e_neXL, e_pow, e_is, e_eqD, e_sum, e_minL, e_inI, e_tTrue, true_and, and_true, ne_eq, not_false_eq_true, Int.reduceEq, Nat.reduceLeDiff, Nat.reduceLT, reduceIte, Option.isSome_some, reduceCtorEq, Int.reduceBEq, Int.reduceNeg, Int.reduceLT, Nat.reduceAdd, Bool.false_eq_true, Bool.not_true, Bool.not_false, if_true, if_false, e_skip, e_isN, isN, id, e_mkTI, e_addI, e_addS, e_min, e_max, e_drop, e_append, e_pop, e_seq, e_setR, e_setT, e_list, e_tup, e_cons, e_meth, e_var, e_nil, e_idx, e_neg, e_k, e_set, e_aug, e_bin, e_mod, e_div, e_if, e_ret, e_and, e_or, e_not, e_tv, e_onI, e_call, e_aTupR, e_aTup, e_aName, e_gName, e_gNs, e_clsO, e_onone, e_osome, e_slice, List.getElem?_cons_zero, List.getElem?_cons_succ, List.set_cons_zero, List.set_cons_succ, List.length_cons, List.length_nil, List.reverse_cons, List.reverse_nil, List.nil_append, List.cons_append, e_setAll, e_setAll0, asL_loc]
  refine comp_lst_map (k := iI) (f := fun v => match v with | .obj 0 [x] => x | v => v) (fun R r => r) inf (by simp) (fun v mv R r => ?_) ?_
  · obtain ⟨s, hs, rfl⟩ := List.mem_map.mp mv
    simp only [e_mkEI, e_kFalse, e_slot, e_comp0, e_mul, e_eqXI, e_eqXS, e_neXI, e_neXL, e_pow, e_is, e_eqD, e_sum, e_minL, e_inI, e_tTrue, true_and, and_true, ne_eq, not_false_eq_true, Int.reduceEq, Nat.reduceLeDiff, Nat.reduceLT, reduceIte, Option.isSome_some, reduceCtorEq, Int.reduceBEq, Int.reduceNeg, Int.reduceLT, Nat.reduceAdd, Bool.false_eq_true, Bool.not_true, Bool.not_false, if_true, if_false, e_skip, e_isN, isN, id, e_mkTI, e_addI, e_addS, e_min, e_max, e_drop, e_append, e_pop, e_seq, e_setR, e_setT, e_list, e_tup, e_cons, e_meth, e_var, e_nil, e_idx, e_neg, e_k, e_set, e_aug, e_bin, e_mod, e_div, e_if, e_ret, e_and, e_or, e_not, e_tv, e_onI, e_call, e_aTupR, e_aTup, e_aName, e_gName, e_gNs, e_clsO, e_onone, e_osome, e_slice, List.getElem?_cons_zero, List.getElem?_cons_succ, List.set_cons_zero, List.set_cons_succ, List.length_cons, List.length_nil, List.reverse_cons, List.reverse_nil, List.nil_append, List.cons_append, e_setAll, e_setAll0, asL_loc, slotV]
    exact r
  intro k1 H1 x1 y1 _
  refine comp_range_map (m := 125) (f := fun s => nmV e S (s / 25)) (fun R r => r) (by decide) (fun s hs R r => ?_) ?_
  · have e25 : Int.fdiv (s : Int) 25 = ((s / 25 : Nat) : Int) := fdiv_nat s 25
    show wIdx _ _ _ [some (natV s), some (.loc iN)] H1 R
    simp only [e_mkEI, e_kFalse, e_slot, e_comp0, e_mul, e_eqXI, e_eqXS, e_neXI, e_neXL, e_pow, e_is, e_eqD, e_sum, e_minL, e_inI, e_tTrue, true_and, and_true, ne_eq, not_false_eq_true, Int.reduceEq, Nat.reduceLeDiff, Nat.reduceLT, reduceIte, Option.isSome_some, reduceCtorEq, Int.reduceBEq, Int.reduceNeg, Int.reduceLT, Nat.reduceAdd, Bool.false_eq_true, Bool.not_true, Bool.not_false, if_true, if_false, e_skip, e_isN, isN, id, e_mkTI, e_addI, e_addS, e_min, e_max, e_drop, e_append, e_pop, e_seq, e_setR, e_setT, e_list, e_tup, e_cons, e_meth, e_var, e_nil, e_idx, e_neg, e_k, e_set, e_aug, e_bin, e_mod, e_div, e_if, e_ret, e_and, e_or, e_not, e_tv, e_onI, e_call, e_aTupR, e_aTup, e_aName, e_gName, e_gNs, e_clsO, e_onone, e_osome, e_slice, List.getElem?_cons_zero, List.getElem?_cons_succ, List.set_cons_zero, List.set_cons_succ, List.length_cons, List.length_nil, List.reverse_cons, List.reverse_nil, List.nil_append, List.cons_append, e_setAll, e_setAll0, asL_loc, x1.lst nm, e25, getI_nat, nms_at (e := e) (S := S) (show s / 25 < 5 by omega)]
    exact ⟨by decide, by simp [nms], r⟩
  intro k2 H2 x2 y2 _
  rw [List.map_map] at y1
  have em2 := x2.lst (x1.lst em)
  have D := nms_dv (ns := c.ns) (S := S) em2 (List.range 125)
  obtain ⟨o1, o2⟩ := nmDs_ok S (List.range 125)
  have cl : (PyData.list ((List.range 125).map fun s => nmD S (s / 25))).canLay0 = true := by rw [PyData.canLay0]; exact o1
  have sh : SeqAt.shaped (.list ((List.range 125).map fun s => nmD S (s / 25))) = true := by
    unfold SeqAt.shaped
    rw [cl, Bool.true_and, decide_eq_true_iff, PyData.depth]
    omega
  refine ⟨_, _, .list (x2.lst y1) D, .list y2 D, ⟨sh, sh⟩, ?_⟩
  rw [eqv_self cl]
  exact q _ _
theorem law11 (hn : c.ns.length ≤ 63) {Q : Fl → Sl → HW → Prop} (q : ∀ sl H', Q (.ret (.bool true)) sl H') : w11law c [some .script, none, none, none, none, none, none, none, none, none, none, none, none, none, none, none] [] Q := by
  unfold w11law
  rw [e_seq, e_set]
  refine masks_ok rfl hn fun iM H1 ms x1 y1 hl => ?_
  try simp only [e_mkEI, e_kFalse, e_slot, e_comp0, e_mul, e_eqXI, e_eqXS, e_neXI, e_neXL, e_pow, e_is, e_eqD, e_sum, e_minL, e_inI, e_tTrue, true_and, and_true, ne_eq, not_false_eq_true, Int.reduceEq, Nat.reduceLeDiff, Nat.reduceLT, reduceIte, Option.isSome_some, reduceCtorEq, Int.reduceBEq, Int.reduceNeg, Int.reduceLT, Nat.reduceAdd, Bool.false_eq_true, Bool.not_true, Bool.not_false, if_true, if_false, e_skip, e_isN, isN, id, e_mkTI, e_addI, e_addS, e_min, e_max, e_drop, e_append, e_pop, e_seq, e_setR, e_setT, e_list, e_tup, e_cons, e_meth, e_var, e_nil, e_idx, e_neg, e_k, e_set, e_aug, e_bin, e_mod, e_div, e_if, e_ret, e_and, e_or, e_not, e_tv, e_onI, e_call, e_aTupR, e_aTup, e_aName, e_gName, e_gNs, e_clsO, e_onone, e_osome, e_slice, List.getElem?_cons_zero, List.getElem?_cons_succ, List.set_cons_zero, List.set_cons_succ, List.length_cons, List.length_nil, List.reverse_cons, List.reverse_nil, List.nil_append, List.cons_append, e_setAll, e_setAll0, asL_loc]
  refine ways_ok rfl y1 hl fun iW H2 x2 w2 => ?_
  try simp only [e_mkEI, e_kFalse, e_slot, e_comp0, e_mul, e_eqXI, e_eqXS, e_neXI, e_neXL, e_pow, e_is, e_eqD, e_sum, e_minL, e_inI, e_tTrue, true_and, and_true, ne_eq, not_false_eq_true, Int.reduceEq, Nat.reduceLeDiff, Nat.reduceLT, reduceIte, Option.isSome_some, reduceCtorEq, Int.reduceBEq, Int.reduceNeg, Int.reduceLT, Nat.reduceAdd, Bool.false_eq_true, Bool.not_true, Bool.not_false, if_true, if_false, e_skip, e_isN, isN, id, e_mkTI, e_addI, e_addS, e_min, e_max, e_drop, e_append, e_pop, e_seq, e_setR, e_setT, e_list, e_tup, e_cons, e_meth, e_var, e_nil, e_idx, e_neg, e_k, e_set, e_aug, e_bin, e_mod, e_div, e_if, e_ret, e_and, e_or, e_not, e_tv, e_onI, e_call, e_aTupR, e_aTup, e_aName, e_gName, e_gNs, e_clsO, e_onone, e_osome, e_slice, List.getElem?_cons_zero, List.getElem?_cons_succ, List.set_cons_zero, List.set_cons_succ, List.length_cons, List.length_nil, List.reverse_cons, List.reverse_nil, List.nil_append, List.cons_append, e_setAll, e_setAll0, asL_loc]
  refine names_ok rfl fun iN H3 e x3 y3 z3 => ?_
  try simp only [e_mkEI, e_kFalse, e_slot, e_comp0, e_mul, e_eqXI, e_eqXS, e_neXI, e_neXL, e_pow, e_is, e_eqD, e_sum, e_minL, e_inI, e_tTrue, true_and, and_true, ne_eq, not_false_eq_true, Int.reduceEq, Nat.reduceLeDiff, Nat.reduceLT, reduceIte, Option.isSome_some, reduceCtorEq, Int.reduceBEq, Int.reduceNeg, Int.reduceLT, Nat.reduceAdd, Bool.false_eq_true, Bool.not_true, Bool.not_false, if_true, if_false, e_skip, e_isN, isN, id, e_mkTI, e_addI, e_addS, e_min, e_max, e_drop, e_append, e_pop, e_seq, e_setR, e_setT, e_list, e_tup, e_cons, e_meth, e_var, e_nil, e_idx, e_neg, e_k, e_set, e_aug, e_bin, e_mod, e_div, e_if, e_ret, e_and, e_or, e_not, e_tv, e_onI, e_call, e_aTupR, e_aTup, e_aName, e_gName, e_gNs, e_clsO, e_onone, e_osome, e_slice, List.getElem?_cons_zero, List.getElem?_cons_succ, List.set_cons_zero, List.set_cons_succ, List.length_cons, List.length_nil, List.reverse_cons, List.reverse_nil, List.nil_append, List.cons_append, e_setAll, e_setAll0, asL_loc]
  refine infos_ok rfl y3 fun iI H4 x4 y4 => ?_
  try simp only [e_mkEI, e_kFalse, e_slot, e_comp0, e_mul, e_eqXI, e_eqXS, e_neXI, e_neXL, e_pow, e_is, e_eqD, e_sum, e_minL, e_inI, e_tTrue, true_and, and_true, ne_eq, not_false_eq_true, Int.reduceEq, Nat.reduceLeDiff, Nat.reduceLT, reduceIte, Option.isSome_some, reduceCtorEq, Int.reduceBEq, Int.reduceNeg, Int.reduceLT, Nat.reduceAdd, Bool.false_eq_true, Bool.not_true, Bool.not_false, if_true, if_false, e_skip, e_isN, isN, id, e_mkTI, e_addI, e_addS, e_min, e_max, e_drop, e_append, e_pop, e_seq, e_setR, e_setT, e_list, e_tup, e_cons, e_meth, e_var, e_nil, e_idx, e_neg, e_k, e_set, e_aug, e_bin, e_mod, e_div, e_if, e_ret, e_and, e_or, e_not, e_tv, e_onI, e_call, e_aTupR, e_aTup, e_aName, e_gName, e_gNs, e_clsO, e_onone, e_osome, e_slice, List.getElem?_cons_zero, List.getElem?_cons_succ, List.set_cons_zero, List.set_cons_succ, List.length_cons, List.length_nil, List.reverse_cons, List.reverse_nil, List.nil_append, List.cons_append, e_setAll, e_setAll0, asL_loc]
  have b : Bs (wyOf ms) iW iN iI e c.ns.sum H4 := ⟨(w2.keep ((Kp.refl _).ext x3)).keep ((Kp.refl _).ext x4), x4.lst y3, x4.lst z3, y4⟩
  have W : ∀ k, ∀ j ∈ wyOf ms k, j < k := fun k j h => wy_lt h
  have L : ∀ u, u < 5 → (wyOf ms u).length ≤ 5 := fun u hu => wy_len rfl hu
  unfold w11t5
  rw [e_seq]
  refine for_range (m := 125) (fun R r => r) (by decide) (for_inv (F1 (wyOf ms) iW iN iI H4.length H4) (by intros; exact trivial) (fun n v sl H hv i R hr => body1 b (Nat.le_refl _) W L hv i R hr) ?_ ⟨_, _, _, _, _, _, _, _, _, _, _, rfl, (Kp.refl _).ext .app, lstAt_new⟩)
  rintro sl5 H5 ⟨a1, x6, x7, x8, x9, x10, x11, x12, x13, x14, x15, rfl, kp5, wo5⟩
  rw [List.length_map, List.length_range] at wo5
  try simp only [e_mkEI, e_kFalse, e_slot, e_comp0, e_mul, e_eqXI, e_eqXS, e_neXI, e_neXL, e_pow, e_is, e_eqD, e_sum, e_minL, e_inI, e_tTrue, true_and, and_true, ne_eq, not_false_eq_true, Int.reduceEq, Nat.reduceLeDiff, Nat.reduceLT, reduceIte, Option.isSome_some, reduceCtorEq, Int.reduceBEq, Int.reduceNeg, Int.reduceLT, Nat.reduceAdd, Bool.false_eq_true, Bool.not_true, Bool.not_false, if_true, if_false, e_skip, e_isN, isN, id, e_mkTI, e_addI, e_addS, e_min, e_max, e_drop, e_append, e_pop, e_seq, e_setR, e_setT, e_list, e_tup, e_cons, e_meth, e_var, e_nil, e_idx, e_neg, e_k, e_set, e_aug, e_bin, e_mod, e_div, e_if, e_ret, e_and, e_or, e_not, e_tv, e_onI, e_call, e_aTupR, e_aTup, e_aName, e_gName, e_gNs, e_clsO, e_onone, e_osome, e_slice, List.getElem?_cons_zero, List.getElem?_cons_succ, List.set_cons_zero, List.set_cons_succ, List.length_cons, List.length_nil, List.reverse_cons, List.reverse_nil, List.nil_append, List.cons_append, e_setAll, e_setAll0, asL_loc]
  unfold w11t7
  rw [e_seq]
  have b5 := b.keep kp5
  refine for_range (m := 5) (fun R r => r) (by decide) (for_inv (F2 (wyOf ms) iW iN iI H4.length H5.length H5) (by intros; exact trivial) (fun n v sl H hv i R hr => body2 b5 (Nat.le_refl _) W L hv i R hr) ?_ ⟨_, _, _, _, _, _, _, _, _, _, rfl, (Kp.refl _).ext .app, lstAt_new⟩)
  rintro sl6 H6 ⟨a1', y6, y7, y8, y9, y10, y11, y13, y14, y15, rfl, kp6, wr6⟩
  rw [List.length_map, List.length_range] at wr6
  have b6 := b5.keep kp6
  unfold w11t8
  try simp only [e_mkEI, e_kFalse, e_slot, e_comp0, e_mul, e_eqXI, e_eqXS, e_neXI, e_neXL, e_pow, e_is, e_eqD, e_sum, e_minL, e_inI, e_tTrue, true_and, and_true, ne_eq, not_false_eq_true, Int.reduceEq, Nat.reduceLeDiff, Nat.reduceLT, reduceIte, Option.isSome_some, reduceCtorEq, Int.reduceBEq, Int.reduceNeg, Int.reduceLT, Nat.reduceAdd, Bool.false_eq_true, Bool.not_true, Bool.not_false, if_true, if_false, e_skip, e_isN, isN, id, e_mkTI, e_addI, e_addS, e_min, e_max, e_drop, e_append, e_pop, e_seq, e_setR, e_setT, e_list, e_tup, e_cons, e_meth, e_var, e_nil, e_idx, e_neg, e_k, e_set, e_aug, e_bin, e_mod, e_div, e_if, e_ret, e_and, e_or, e_not, e_tv, e_onI, e_call, e_aTupR, e_aTup, e_aName, e_gName, e_gNs, e_clsO, e_onone, e_osome, e_slice, List.getElem?_cons_zero, List.getElem?_cons_succ, List.set_cons_zero, List.set_cons_succ, List.length_cons, List.length_nil, List.reverse_cons, List.reverse_nil, List.nil_append, List.cons_append, e_setAll, e_setAll0, asL_loc]
  refine for_range (m := 125) (fun R r => r) (by decide) (for_inv (fun _ => F3 (wyOf ms) iW iN iI H4.length H5.length H6) (by intros; exact trivial) (fun n v sl H hv i R hr => body3 (kp6 _ _ wo5) wr6 W hv i R hr) ?_ ⟨rfl, _, _, _, _, _, _, _, _, _, _, rfl⟩)
  rintro sl7 H7 ⟨rfl, a1'', z6, z7, z8, z9, z10, z11, z13, z14, z15, rfl⟩
  exact end11 b6.nm b6.em b6.inf q
end
end Mine

namespace Mine
set_option maxHeartbeats 8000000 in
open_top hd11 for PySem.Challenge.rw_dn0274_11
end Mine

namespace Mine
noncomputable abbrev cx11 (w : World) (h₀ : Heap) (mg mb : Str → Option Value) (aS : Addr) (vs : List Value) (ns : List Int) : Cx :=
  { prog := Challenge.rw_dn0274_11.row.prog, w := w, h₀ := h₀, mg := mg, mb := mb, K := hd11.heap_39 w.params, aS := aS, vs := vs, ns := ns, cls := fun _ => 96, gC := fun _ => none }
section
variable {w : World} {h₀ : Heap} {mg mb : Str → Option Value} {aS : Addr} {vs : List Value} {ns : List Int} {d : Nat} {sc : Scope} {ρ : List Str}
theorem slot_tag (G : Good (cx11 w h₀ mg mb aS vs ns)) {o pos a} (ho : Ev (cx11 w h₀ mg mb aS vs ns) d sc ρ o a)
    (he : ∀ env, eval (.Attribute o (Str.ofString "tagName") pos) env = (eval o env >>= fun ov => standAt pos.atName >>= fun _ => holding [ov] (getAttr ov (Str.ofString "tagName") true) >>= fun r => pure r)) :
    Ev (cx11 w h₀ mg mb aS vs ns) d sc ρ (.Attribute o (Str.ofString "tagName") pos) (wSlot (cx11 w h₀ mg mb aS vs ns) 0 0 a) :=
  ev_slot (k := 0) (i := 0) (p := 97) G ho (by kernel_rfl) (by kernel_rfl) (by kernel_rfl) (by kernel_rfl) (by kernel_rfl) (by kernel_rfl) he
theorem set_tag (G : Good (cx11 w h₀ mg mb aS vs ns)) {o ap e pos a b} (ho : Ev (cx11 w h₀ mg mb aS vs ns) d sc ρ o a) (he : Ev (cx11 w h₀ mg mb aS vs ns) d sc ρ e b)
    (hw : ∀ env, swapsWith e (some (.Attribute o (Str.ofString "tagName") ap)) pos.line env = pure false) : Ex (cx11 w h₀ mg mb aS vs ns) d sc ρ (.Assign [.Attribute o (Str.ofString "tagName") ap] e pos) (wSetAttr 0 0 a b) :=
  ex_setattr (k := 0) (i := 0) (p := 97) G ho he (by kernel_rfl) (by kernel_rfl) (by kernel_rfl) (by kernel_rfl) (by kernel_rfl) (by decide) hw
local macro_rules | `(tactic| tb_rel) => `(tactic| repeat' (first
  | with_reducible exact at0
  | with_reducible exact exs_nil
  | with_reducible exact evs_nil
  | with_reducible exact ev_none
  | with_reducible exact ev_bool
  | with_reducible refine' atS ?_
  | with_reducible refine' exs_cons ?_ ?_
  | with_reducible refine' evs_cons ?_ ?_ (fun _ => rfl)
  | ((with_reducible refine' ev_local ?_ ?a rfl (by decide)); (case a => exact rfl))
  | with_reducible refine' ex_ret ?_
  | ((with_reducible refine' set_tag (by assumption) ?_ ?_ ?he); (case he => exact fun _ => rfl))))
theorem is_ec (G : Good (cx11 w h₀ mg mb aS vs ns)) {d} : FnC (cx11 w h₀ mg mb aS vs ns) (d + 1) (.ref 57) kFalse := by
  refine' FnC.weaken (fn_ok (W := _) (ps := [Str.ofString "self"]) (rest := []) G (G.X 57 _ rfl) rfl (codeRec_of G.X (by kernel_rfl)) rfl rfl ?hb rfl rfl rfl rfl rfl ?nd ?kd ?ex) ?k
  case hb => intro vals hl; match vals, hl with | [a], _ => rfl
  case nd => decide
  case kd => decide
  case ex =>
    dsimp only [List.append_nil, List.cons_append, List.nil_append]
    tb_rel
  case k => exact fun args H Q h => h
theorem ei_init (G : Good (cx11 w h₀ mg mb aS vs ns)) {d} : FnC (cx11 w h₀ mg mb aS vs ns) (d + 1) (.ref 36) (fun args H Q => match args with | [.loc j, a] => H[j]? = some (.inst 0 []) ∧ Q .none (H.set j (.inst 0 [some a])) | _ => False) := by
  refine' FnC.weaken (fn_ok (W := _) (ps := [Str.ofString "self", Str.ofString "name"]) (rest := []) G (G.X 36 _ rfl) rfl (codeRec_of G.X (by kernel_rfl)) rfl rfl ?hb rfl rfl rfl rfl rfl ?nd ?kd ?ex) ?k
  case hb => intro vals hl; match vals, hl with | [a, b], _ => rfl
  case nd => decide
  case kd => decide
  case ex =>
    dsimp only [List.append_nil, List.cons_append, List.nil_append]
    tb_rel
  case k =>
    intro args H Q h
    split at h
    · rename_i j a
      have hl : j < H.length := (List.getElem?_eq_some_iff.mp h.1).1
      obtain ⟨h1, h2⟩ := h
      simp only [fnW, wSeq, wSetAttr, wVar, wSkip]
      refine ⟨rfl, ?_⟩
      simp [h1, List.getElem?_set_self hl, setF, retV, h2]
    · exact h.elim
theorem ei_make (G : Good (cx11 w h₀ mg mb aS vs ns)) {d} : FnC (cx11 w h₀ mg mb aS vs ns) (d + 1 + 1) (.ref 96) (mkEI 0) := by
  refine (make_fr (k := 0) G (by kernel_rfl) (by kernel_rfl) (by kernel_rfl) (ei_init G)).weaken fun args H Q h => ?_
  simp only [mkEI] at h
  split at h
  · rename_i a
    refine ⟨by simp, rfl, [a], by simp, by simp, h⟩
  · exact h.elim
theorem m_ec (G : Good (cx11 w h₀ mg mb aS vs ns)) {o apos pos a} {pl : Env → Sem Bool} (ho : Ev (cx11 w h₀ mg mb aS vs ns) (d + 1) sc ρ o a)
    (he : ∀ env, eval (.Call (.Attribute o (Str.ofString "isElementContent") apos) [] [] pos) env = (do
      let ov ← eval o env
      standAt apos.atName
      let (f, first) ← holding [ov] (getMethod ov (Str.ofString "isElementContent") (pl env))
      callWith pos f first (backTo pos (starEach [] env)) (backToKw pos (keywordEach [] env)))) : Ev (cx11 w h₀ mg mb aS vs ns) (d + 1) sc ρ (.Call (.Attribute o (Str.ofString "isElementContent") apos) [] [] pos) (wMeth (cx11 w h₀ mg mb aS vs ns) 0 kFalse a wNil) :=
  ev_meth (k := 0) (f := 57) G ho evs_nil (is_ec G).ok (by kernel_rfl) (by kernel_rfl) (by kernel_rfl) (by kernel_rfl) he
theorem c_ei (G : Good (cx11 w h₀ mg mb aS vs ns)) {np args pos as} (ha : Evs (cx11 w h₀ mg mb aS vs ns) (d + 1 + 1) sc ρ args as) (hk : sc.kind = .function) (hx : sc.names.lookup (Str.ofString "ElementInfo") = some .globalImplicit) : Ev (cx11 w h₀ mg mb aS vs ns) (d + 1 + 1) sc ρ (.Call (.Name (Str.ofString "ElementInfo") np) args [] pos) (wCall (mkEI 0) as) :=
  ev_fn G (ei_make G) ha hk hx (by kernel_rfl) (by kernel_rfl) (by decide)
theorem c_sum (G : Good (cx11 w h₀ mg mb aS vs ns)) {np args pos as} (ha : Evs (cx11 w h₀ mg mb aS vs ns) d sc ρ args as) (hk : sc.kind = .function) (hx : sc.names.lookup (Str.ofString "sum") = some .globalImplicit) : Ev (cx11 w h₀ mg mb aS vs ns) d sc ρ (.Call (.Name (Str.ofString "sum") np) args [] pos) (wCall (bSum ns) as) :=
  ev_callB G hk hx (mgNo G (by kernel_rfl)) ((G.BB _ (by decide)).trans (by kernel_rfl)) (by decide) (sum_ok G) ha
theorem c_minL (G : Good (cx11 w h₀ mg mb aS vs ns)) {np args pos as} (ha : Evs (cx11 w h₀ mg mb aS vs ns) d sc ρ args as) (hk : sc.kind = .function) (hx : sc.names.lookup (Str.ofString "min") = some .globalImplicit) : Ev (cx11 w h₀ mg mb aS vs ns) d sc ρ (.Call (.Name (Str.ofString "min") np) args [] pos) (wCall (bMinL ns) as) :=
  ev_callB G hk hx (mgNo G (by kernel_rfl)) ((G.BB _ (by decide)).trans (by kernel_rfl)) (by decide) (minL_ok G) ha
theorem c_range1 (G : Good (cx11 w h₀ mg mb aS vs ns)) {np pos e a} (he : Ev (cx11 w h₀ mg mb aS vs ns) d sc ρ e a) (hs : ∀ env, starEach [e] env = [(false, eval e env)]) (hk : sc.kind = .function) (hx : sc.names.lookup (Str.ofString "range") = some .globalImplicit) : Ei (cx11 w h₀ mg mb aS vs ns) d sc ρ (.Call (.Name (Str.ofString "range") np) [e] [] pos) (iRange1 a) :=
  ei_range1 G hk hx (mgNo G (by kernel_rfl)) ((G.BB _ (by decide)).trans (by kernel_rfl)) (by decide) he hs
local macro_rules | `(tactic| tb_start) => `(tactic| repeat' (first
  | with_reducible exact at0
  | with_reducible refine' atS ?_
  | ((with_reducible show Ev _ _ _ _ _ _); first
    | with_reducible exact ev_none
    | with_reducible exact ev_int
    | with_reducible exact ev_bool
    | with_reducible exact ev_str
    | ((with_reducible refine' ev_local ?_ ?a rfl (by decide)); (case a => exact rfl))
    | ((with_reducible refine' ev_cell ?_ ?a rfl (by decide)); (case a => exact rfl))
    | with_reducible refine' ev_list ?_
    | with_reducible refine' ev_tup ?_
    | with_reducible refine' ev_ifexp ?_ ?_ ?_
    | with_reducible refine' ev_neg ?_
    | with_reducible refine' ev_bin sub_ok ?_ ?_
    | with_reducible refine' ev_bin (addV_ok (by assumption)) ?_ ?_
    | with_reducible refine' ev_bin mod_ok ?_ ?_
    | with_reducible refine' ev_bin div_ok ?_ ?_
    | with_reducible refine' ev_bin mul_ok ?_ ?_
    | with_reducible refine' ev_bin xor_ok ?_ ?_
    | with_reducible refine' ev_bin pow_ok ?_ ?_
    | ((with_reducible refine' ev_cmp (ne_okX (by assumption)) ?_ ?_ ?hm); (case hm => with_unfolding_all rfl))
    | ((with_reducible refine' ev_cmp (eqD_ok (by assumption)) ?_ ?_ ?hm); (case hm => with_unfolding_all rfl))
    | ((with_reducible refine' ev_append ?_ ?_ ?b ?he); (case b => exact fun _ => rfl); (case he => exact fun _ => rfl))
    | ((with_reducible refine' m_ec (by assumption) ?_ ?he); (case he => exact fun _ => rfl))
    | ((with_reducible refine' slot_tag (by assumption) ?_ ?he); (case he => exact fun _ => rfl))
    | ((with_reducible refine' c_ei (by assumption) ?_ rfl ?a); (case a => exact rfl))
    | ((with_reducible refine' c_sum (by assumption) ?_ rfl ?a); (case a => exact rfl))
    | ((with_reducible refine' c_minL (by assumption) ?_ rfl ?a); (case a => exact rfl))
    | with_reducible refine' ev_slice (by assumption) ?_ ?_ ?_ ?_
    | ((with_reducible refine' ev_idx (by assumption) ?_ ?_ ?b); (case b => exact fun _ _ => rfl))
    | ((with_reducible refine' ev_comp (by assumption) ⟨rfl, rfl, ?nc, ?lc, ?nm, ?fe, ?nd, ?fr⟩ ?_ ?_ ?_ ?hs); (case nc => decide); (case lc => rfl); (case nm => decide); (case fe => decide); (case hs => exact fun _ _ => rfl); (case fr => (repeat' (first | exact frs_nil | (refine' frs_free ?_ ?_ ?a; (case a => rfl)) | refine' frs_local ?_ | refine' frs_glob ?_ | refine' frs_cell ?_ | exact at0 | refine' atS ?_))); (case nd => decide))
    | ((with_reducible refine' ev_compC (by assumption) ⟨rfl, rfl, ?ce, ?pu, ?lc, ?lr, ?nm, ?fe, ?nd, ?fr⟩ ?_ ?_ ?_ ?hs); (case ce => exact fun _ _ => rfl); (case pu => exact fun _ => rfl); (case lc => rfl); (case lr => rfl); (case nm => decide); (case fe => decide); (case hs => exact fun _ _ => rfl); (case fr => (repeat' (first | exact frs_nil | (refine' frs_free ?_ ?_ ?a; (case a => rfl)) | refine' frs_local ?_ | refine' frs_glob ?_ | refine' frs_cell ?_ | exact at0 | refine' atS ?_))); (case nd => decide)))
  | ((with_reducible show Evs _ _ _ _ _ _); first
    | with_reducible exact evs_nil
    | with_reducible refine' evs_cons ?_ ?_ (fun _ => rfl))
  | ((with_reducible show Et _ _ _ _ _ _); first
    | with_reducible refine' et_and ?_ ?_
    | with_reducible refine' et_or ?_ ?_
    | with_reducible refine' et_not ?_
    | with_reducible refine' et_cmp eq_okX ?_ ?_
    | with_reducible refine' et_cmp (ne_okX (by assumption)) ?_ ?_
    | with_reducible refine' et_cmp (isnot_ok (by assumption)) ?_ ?_
    | with_reducible refine' et_cmp (notin_okI (by assumption)) ?_ ?_
    | with_reducible refine' et_tv ?_ (fun _ _ => rfl))
  | ((with_reducible show Ets _ _ _ _ _ _); first
    | with_reducible exact ets_nil
    | with_reducible refine' ets_one ?_)
  | ((with_reducible show Ei _ _ _ _ _ _); first
    | ((with_reducible refine' c_range1 (by assumption) ?_ ?hs rfl ?a); (case hs => exact fun _ => rfl); (case a => exact rfl))
    | with_reducible refine' ei_list (by assumption) ?_)
  | ((with_reducible show Ex _ _ _ _ _ _); first
    | ((with_reducible refine' ex_set ?_ ?_ (.inl ?a) rfl ?b); (case a => exact rfl); (case b => exact fun _ => rfl))
    | ((with_reducible refine' ex_set ?_ ?_ (.inr ?a) rfl ?b); (case a => exact rfl); (case b => exact fun _ => rfl))
    | ((with_reducible refine' ex_setX ?_ ?_ (.inr ?a) rfl ?sw); (case a => exact rfl); (case sw => (intro env he; unfold swapsWith Env.blockKind Env.kindOf; rw [he]; rfl)))
    | ((with_reducible refine' ex_setC (by assumption) ⟨rfl, rfl, ?nc, ?lc, ?nm, ?fe, ?nd, ?fr⟩ ?_ ?_ ?_ ?_ ?hs ?hl ?sw); (case nc => decide); (case lc => rfl); (case nm => decide); (case fe => decide); (case hs => exact fun _ _ => rfl); (case hl => rfl); (case sw => (intro env he; unfold swapsWith Env.blockKind Env.kindOf; rw [he]; rfl)); (case fr => (repeat' (first | exact frs_nil | (refine' frs_free ?_ ?_ ?a; (case a => rfl)) | refine' frs_local ?_ | refine' frs_glob ?_ | refine' frs_cell ?_ | exact at0 | refine' atS ?_))); (case nd => decide))
    | ((with_reducible refine' ex_setCC (by assumption) ⟨rfl, rfl, ?ce, ?pu, ?lc, ?lr, ?nm, ?fe, ?nd, ?fr⟩ ?_ ?_ ?_ ?_ ?hs ?hl ?sw); (case ce => exact fun _ _ => rfl); (case pu => exact fun _ => rfl); (case lc => rfl); (case lr => rfl); (case nm => decide); (case fe => decide); (case hs => exact fun _ _ => rfl); (case hl => rfl); (case sw => (intro env he; unfold swapsWith Env.blockKind Env.kindOf; rw [he]; rfl)); (case fr => (repeat' (first | exact frs_nil | (refine' frs_free ?_ ?_ ?a; (case a => rfl)) | refine' frs_local ?_ | refine' frs_glob ?_ | refine' frs_cell ?_ | exact at0 | refine' atS ?_))); (case nd => decide))
    | ((with_reducible refine' ex_setRN ?_ ?_ rfl ?b ?sw); (case b => exact fun _ => rfl); (case sw => (intro env he; unfold swappedStores Env.blockKind Env.kindOf; rw [he]; rfl)))
    | ((with_reducible refine' ex_setTN ?_ ?_ rfl rfl ?b ?sw); (case b => exact fun _ => rfl); (case sw => (intro env he; first | rfl | (unfold swappedStores Env.blockKind Env.kindOf; rw [he]; rfl))))
    | ((with_reducible refine' ex_for (by assumption) ?_ ?_ ?_ ?_ ?fs); (case fs => exact fun _ _ => rfl))
    | with_reducible refine' ex_ret ?_
    | with_reducible refine' ex_if ?_ ?_ ?_
    | ((with_reducible refine' ex_expr ?_ rfl ?b); (case b => exact fun _ => rfl)))
  | ((with_reducible show Exs _ _ _ _ _ _); first
    | with_reducible exact exs_nil
    | with_reducible refine' exs_cons ?_ ?_)
  | with_reducible exact evo_none
  | with_reducible refine' evo_some ?_
  | with_reducible exact lot_name
  | with_reducible exact lot_tup
  | ((with_reducible show Slots _ _ _ _); first | exact slots_nil | (refine' slots_cons ?_ ?_ (.inl ?a); (case a => exact rfl)) | (refine' slots_cons ?_ ?_ (.inr ?a); (case a => exact rfl)))
  | ((with_reducible refine' at_name ?_ (.inl ?a) rfl); (case a => exact rfl))
  | ((with_reducible refine' at_name ?_ (.inr ?a) rfl); (case a => exact rfl))
  | ((with_reducible refine' at_tupN ?_ rfl rfl))
  ))
set_option maxHeartbeats 4000000 in
theorem law_ok (G : Good (cx11 w h₀ mg mb aS vs ns)) : FnC (cx11 w h₀ mg mb aS vs ns) 3 (.ref 104) (fun args H Q => args = [.script] ∧ H = [] ∧ ns.length ≤ 63 ∧ ∀ H', Q (.bool true) H') := by
  refine' FnC.weaken (fn_ok (W := _) (ps := [Str.ofString "script"]) (rest := [Str.ofString "masks", Str.ofString "ways", Str.ofString "names", Str.ofString "infos", Str.ofString "worth", Str.ofString "stand", Str.ofString "u", Str.ofString "v", Str.ofString "w", Str.ofString "moves", Str.ofString "answer", Str.ofString "ranks", Str.ofString "k", Str.ofString "taken", Str.ofString "due"]) G (G.X 104 _ rfl) rfl (codeRec_of G.X (by kernel_rfl)) rfl rfl ?hb rfl rfl rfl rfl rfl ?nd ?kd ?ex) ?k
  case hb => intro vals hl; match vals, hl with | [a], _ => rfl
  case nd => decide
  case kd => decide
  case ex =>
    dsimp only [List.append_nil, List.cons_append, List.nil_append]
    tb_start
  case k =>
    rintro args H Q ⟨rfl, rfl, hn, q⟩
    exact ⟨rfl, law11 (c := cx11 w h₀ mg mb aS vs ns) hn fun _ H' => q H'⟩
end
end Mine

open Mine
set_option maxHeartbeats 8000000 in
theorem PySem.Challenge.cw_dn0274_11_holds : PySem.Challenge.rw_dn0274_11.Holds := by
  refine Mine.hd11 ?_
  intro w s₀ s₁ mg mb G Y fa o pm cd doc dV kV ho hd hcd hD hmg hg args vals as hpre hlay hrd hwl hlo
  have KX := kIn_of Y
  refine Ground.open G ?_
  intro T B D TE TW
  wrow_args hpre hlay hrd hwl hlo
  all_goals (
    first | refine callC_kw (enter_call ?_) | refine enter_call ?_ | refine callC_kw (enter_callW ?_) | refine enter_callW ?_ | w_how
    w_top on
    try refine codeAny_mono ?_ (fun _ _ g => GoodW.toG g))
  clear hd hcd hD
  rename_i ns _ _ _ _ _ _ _ aS vals _ hL _ _ _ hI _ hlen _
  have hG : Good (cx11 w s₁.heap mg mb aS vals ns) := ⟨T.g, T.b, T.nolimit, KX, T.builtins, hL, hI, fun a k n e => by cases e⟩
  have h104 : mg (Str.ofString "law") = some (.ref 104) := mg_of KX T.g (by kernel_rfl)
  have efa : fa = 104 := by
    have := hmg.symm.trans h104
    cases this; rfl
  subst efa
  refine law_ok hG callerA s₁ ⟨[], []⟩ [] [.script] [.ref aS] (fun v _ => v = .bool true) _ ⟨rfl, by decide, by decide⟩ ⟨fun _ _ e => e, fun _ _ _ h => (nomatch h), rfl, List.nodup_nil, fun k a lo e => by simp at e, fun _ h => (nomatch h), fun _ h => (nomatch h)⟩ (.cons .script .nil) ⟨rfl, rfl, by omega, fun _ => rfl⟩ fun x s' p => ?_
  obtain ⟨v, H, φ', rfl, ok, rv, g, r⟩ := p
  cases rv
  obtain ⟨h', t', rfl⟩ := r
  exact ⟨.inl ⟨.bool true, .bool true, [], rfl, fun cls => rfl, .bool true, by first | kernel_rfl | (show (decide _) = true; simp) | trace_state, unshared_nil⟩, ok.base, rfl, hg⟩
