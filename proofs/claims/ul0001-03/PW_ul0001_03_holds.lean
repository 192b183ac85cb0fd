import PyProof.Rows.All
import Wide.All
import OpenK.AllK
import Wide.FinOn
import PySem.Challenge.RW_ul0001_03
open PySem PySem.W PyProof.Rows
set_option Elab.async false
set_option maxRecDepth 100000
set_option maxHeartbeats 8000000
set_option linter.unusedSimpArgs false
set_option linter.unusedVariables false
set_option linter.unusedSectionVars false
set_option genSizeOf false
set_option genInjectivity true

namespace Mp

/-- the built-ins that the laws name -/
inductive Bi where
  | len | range | int | abs | divmod | isinstance | bytes | list | min | max | sorted

noncomputable def Bi.isBytes : Bi → Bool
  | .bytes => true
  | _ => false

noncomputable def Bi.val : Bi → Value
  | .len => .builtin "len"
  | .range => .type "range"
  | .int => .type "int"
  | .abs => .builtin "abs"
  | .divmod => .builtin "divmod"
  | .isinstance => .builtin "isinstance"
  | .bytes => .type "bytes"
  | .list => .type "list"
  | .min => .builtin "min"
  | .max => .builtin "max"
  | .sorted => .builtin "sorted"

/-- plain values: lists are names into a heap of lists -/
inductive V where
  | none
  | bool (b : Bool)
  | int (i : Int)
  | bytes (b : List UInt8)
  | tup (l : List V)
  | list (n : Nat)
  | range (a b c : Int)
  | fn (k : Nat)
  | bi (b : Bi)

noncomputable abbrev HP := List (List V)

noncomputable abbrev Lobj (vs : List Value) (n : Nat) : Obj := { cls := .type "list", dict := none, data := .seq vs.toArray n, slots := #[] }
noncomputable abbrev Tobj (vs : List Value) (n : Nat) : Obj := { cls := .type "tuple", dict := none, data := .seq vs.toArray n, slots := #[] }

mutual
inductive VR (fa : Nat → Option Addr) (μ : List Addr) (h : Heap) : Value → V → Prop
  | none : VR fa μ h .none .none
  | bool (b : Bool) : VR fa μ h (.bool b) (.bool b)
  | int (i : Int) (t : Tok) : VR fa μ h (.int i t) (.int i)
  | bytes (b : Array UInt8) (t : Tok) : VR fa μ h (.bytes b t) (.bytes b.toList)
  | tup {a : Addr} {n : Nat} {vs : List Value} {ls : List V} : h.get? a = some (Tobj vs n) → VRs fa μ h vs ls → VR fa μ h (.ref a) (.tup ls)
  | list {a : Addr} {i : Nat} : μ[i]? = some a → VR fa μ h (.ref a) (.list i)
  | range {a : Addr} {x y z : Int} {t u v : Tok} : IsRange h a x y z t u v → VR fa μ h (.ref a) (.range x y z)
  | fn {a : Addr} {k : Nat} : fa k = some a → VR fa μ h (.ref a) (.fn k)
  | bi (b : Bi) : VR fa μ h b.val (.bi b)
inductive VRs (fa : Nat → Option Addr) (μ : List Addr) (h : Heap) : List Value → List V → Prop
  | nil : VRs fa μ h [] []
  | cons {v : Value} {l : V} {vs : List Value} {ls : List V} : VR fa μ h v l → VRs fa μ h vs ls → VRs fa μ h (v :: vs) (l :: ls)
end

/-- an object that holds a value: a tuple or a range -/
noncomputable def isV (o : Obj) : Prop := (o.cls = .type "tuple" ∧ ∃ xs n, o.data = .seq xs n) ∨ (o.cls = .type "range" ∧ ∃ fs, o.data = .fields fs)

theorem isV_tup (vs : List Value) (n : Nat) : isV (Tobj vs n) := Or.inl ⟨rfl, _, _, rfl⟩
theorem not_isV_list (vs : List Value) (n : Nat) : ¬ isV (Lobj vs n) := by
  rintro (⟨h, _⟩ | ⟨h, _⟩)
  · exact absurd (show Value.type "list" = Value.type "tuple" from h) (by decide)
  · exact absurd (show Value.type "list" = Value.type "range" from h) (by decide)
theorem nodup_inj {α : Type} : ∀ {l : List α} {i j : Nat} {a : α}, l.Nodup → l[i]? = some a → l[j]? = some a → i = j
  | [], _, _, _, _, e, _ => by simp at e
  | _ :: _, 0, 0, _, _, _, _ => rfl
  | b :: l, 0, j + 1, a, hn, e1, e2 => by
    simp at e1 e2
    subst e1
    exact absurd (List.mem_of_getElem? e2) (List.nodup_cons.mp hn).1
  | b :: l, i + 1, 0, a, hn, e1, e2 => by
    simp at e1 e2
    subst e2
    exact absurd (List.mem_of_getElem? e1) (List.nodup_cons.mp hn).1
  | b :: l, i + 1, j + 1, a, hn, e1, e2 => by
    simp at e1 e2
    rw [nodup_inj (List.nodup_cons.mp hn).2 e1 e2]

variable {fa : Nat → Option Addr}

mutual
theorem VR.mono {μ μ' : List Addr} {h h' : Heap} (hp : μ <+: μ') (hk : ∀ b o, h.get? b = some o → isV o → h'.get? b = some o) : ∀ {v : Value} {l : V}, VR fa μ h v l → VR fa μ' h' v l
  | _, _, .none => .none
  | _, _, .bool b => .bool b
  | _, _, .int i t => .int i t
  | _, _, .bytes b t => .bytes b t
  | _, _, .tup ho hs => .tup (hk _ _ ho (isV_tup _ _)) (VRs.mono hp hk hs)
  | _, _, .list hi => .list (by
      obtain ⟨ν, rfl⟩ := hp
      rw [List.getElem?_append_left (by
        rcases Nat.lt_or_ge _ μ.length with hlt | hge
        · exact hlt
        · rw [List.getElem?_eq_none hge] at hi; cases hi)]
      exact hi)
  | _, _, .range hr => .range (hk _ _ hr (Or.inr ⟨rfl, _, rfl⟩))
  | _, _, .fn hf => .fn hf
  | _, _, .bi b => .bi b
theorem VRs.mono {μ μ' : List Addr} {h h' : Heap} (hp : μ <+: μ') (hk : ∀ b o, h.get? b = some o → isV o → h'.get? b = some o) : ∀ {vs : List Value} {ls : List V}, VRs fa μ h vs ls → VRs fa μ' h' vs ls
  | _, _, .nil => .nil
  | _, _, .cons hv hs => .cons (VR.mono hp hk hv) (VRs.mono hp hk hs)
end

section inv
variable {μ : List Addr} {h : Heap} {v : Value}
theorem VR.int_inv {i : Int} (x : VR fa μ h v (.int i)) : ∃ t, v = .int i t := by cases x; exact ⟨_, rfl⟩
theorem VR.bool_inv {b : Bool} (x : VR fa μ h v (.bool b)) : v = .bool b := by cases x; rfl
theorem VR.none_inv (x : VR fa μ h v .none) : v = .none := by cases x; rfl
theorem VR.bytes_inv {b : List UInt8} (x : VR fa μ h v (.bytes b)) : ∃ t, v = .bytes b.toArray t := by cases x with | bytes b t => exact ⟨t, by simp⟩
theorem VR.list_inv {i : Nat} (x : VR fa μ h v (.list i)) : ∃ a, v = .ref a ∧ μ[i]? = some a := by cases x; exact ⟨_, rfl, by assumption⟩
theorem VR.tup_inv {ls : List V} (x : VR fa μ h v (.tup ls)) : ∃ a vs n, v = .ref a ∧ h.get? a = some (Tobj vs n) ∧ VRs fa μ h vs ls := by
  cases x; exact ⟨_, _, _, rfl, by assumption, by assumption⟩
theorem VR.range_inv {x y z : Int} (r : VR fa μ h v (.range x y z)) : ∃ a t u w, v = .ref a ∧ IsRange h a x y z t u w := by
  cases r; exact ⟨_, _, _, _, rfl, by assumption⟩
theorem VR.fn_inv {k : Nat} (r : VR fa μ h v (.fn k)) : ∃ a, v = .ref a ∧ fa k = some a := by cases r; exact ⟨_, rfl, by assumption⟩
theorem VR.bi_inv {b : Bi} (r : VR fa μ h v (.bi b)) : v = b.val := by cases r; rfl
@[elab_as_elim] theorem VR.intK {P : Value → Prop} {i : Int} (x : VR fa μ h v (.int i)) (k : ∀ t, P (.int i t)) : P v := by obtain ⟨t, rfl⟩ := x.int_inv; exact k t
@[elab_as_elim] theorem VR.bytesK {P : Value → Prop} {b : List UInt8} (x : VR fa μ h v (.bytes b)) (k : ∀ t, P (.bytes b.toArray t)) : P v := by obtain ⟨t, rfl⟩ := x.bytes_inv; exact k t
@[elab_as_elim] theorem VR.tupK {P : Value → Prop} {ls : List V} (x : VR fa μ h v (.tup ls)) (k : ∀ a vs n, h.get? a = some (Tobj vs n) → VRs fa μ h vs ls → P (.ref a)) : P v := by obtain ⟨a, vs, n, rfl, h1, h2⟩ := x.tup_inv; exact k a vs n h1 h2
@[elab_as_elim] theorem VR.listK {P : Value → Prop} {i : Nat} (x : VR fa μ h v (.list i)) (k : ∀ a, μ[i]? = some a → P (.ref a)) : P v := by obtain ⟨a, rfl, h1⟩ := x.list_inv; exact k a h1
@[elab_as_elim] theorem VR.rangeK {P : Value → Prop} {x y z : Int} (r : VR fa μ h v (.range x y z)) (k : ∀ a t u w, IsRange h a x y z t u w → P (.ref a)) : P v := by obtain ⟨a, t, u, w, rfl, h1⟩ := r.range_inv; exact k a t u w h1
@[elab_as_elim] theorem VR.fnK {P : Value → Prop} {i : Nat} (x : VR fa μ h v (.fn i)) (k : ∀ a, fa i = some a → P (.ref a)) : P v := by obtain ⟨a, rfl, h1⟩ := x.fn_inv; exact k a h1
end inv

@[elab_as_elim] theorem VRs.oneK {μ : List Addr} {h : Heap} {P : List Value → Prop} {vs : List Value} {x : V} (r : VRs fa μ h vs [x]) (k : ∀ v, VR fa μ h v x → P [v]) : P vs := by
  cases r with | cons r₁ r₂ => cases r₂; exact k _ r₁
@[elab_as_elim] theorem VRs.twoK {μ : List Addr} {h : Heap} {P : List Value → Prop} {vs : List Value} {x y : V} (r : VRs fa μ h vs [x, y]) (k : ∀ u v, VR fa μ h u x → VR fa μ h v y → P [u, v]) : P vs := by
  cases r with | cons r₁ r₂ => exact VRs.oneK (P := fun vs => P (_ :: vs)) r₂ fun v r₂ => k _ v r₁ r₂
theorem VRs.length {μ : List Addr} {h : Heap} : ∀ {vs : List Value} {ls : List V}, VRs fa μ h vs ls → vs.length = ls.length
  | _, _, .nil => rfl
  | _, _, .cons _ hs => congrArg (· + 1) hs.length
theorem VRs.get {μ : List Addr} {h : Heap} : ∀ {vs : List Value} {ls : List V} {i : Nat} {l : V}, VRs fa μ h vs ls → ls[i]? = some l → ∃ v, vs[i]? = some v ∧ VR fa μ h v l
  | _, _, i, _, .nil, e => by simp at e
  | _, _, 0, _, .cons hv hs, e => by simp at e; subst e; exact ⟨_, rfl, hv⟩
  | _, _, i + 1, _, .cons hv hs, e => by
    simp at e
    obtain ⟨v, h1, h2⟩ := VRs.get hs e
    exact ⟨v, by simpa using h1, h2⟩
theorem VRs.append {μ : List Addr} {h : Heap} : ∀ {vs ws : List Value} {ls ms : List V}, VRs fa μ h vs ls → VRs fa μ h ws ms → VRs fa μ h (vs ++ ws) (ls ++ ms)
  | _, _, _, _, .nil, h2 => h2
  | _, _, _, _, .cons hv hs, h2 => .cons hv (hs.append h2)
theorem VRs.take {μ : List Addr} {h : Heap} : ∀ {vs : List Value} {ls : List V} (n : Nat), VRs fa μ h vs ls → VRs fa μ h (vs.take n) (ls.take n)
  | _, _, 0, _ => by simpa using VRs.nil
  | _, _, n + 1, .nil => by simpa using VRs.nil
  | _, _, n + 1, .cons hv hs => by simpa using VRs.cons hv (hs.take n)
theorem VRs.drop {μ : List Addr} {h : Heap} : ∀ {vs : List Value} {ls : List V} (n : Nat), VRs fa μ h vs ls → VRs fa μ h (vs.drop n) (ls.drop n)
  | _, _, 0, hs => by simpa using hs
  | _, _, n + 1, .nil => by simpa using VRs.nil
  | _, _, n + 1, .cons hv hs => by simpa using hs.drop n
theorem VRs.reverse {μ : List Addr} {h : Heap} {vs : List Value} {ls : List V} (x : VRs fa μ h vs ls) : VRs fa μ h vs.reverse ls.reverse := by
  induction vs generalizing ls with
  | nil => cases x; exact .nil
  | cons v vs ih =>
    cases x with
    | cons hv hs => rw [List.reverse_cons, List.reverse_cons]; exact (ih hs).append (.cons hv .nil)
theorem VRs.set {μ : List Addr} {h : Heap} {v : Value} {l : V} (hv : VR fa μ h v l) : ∀ {vs : List Value} {ls : List V} (n : Nat), VRs fa μ h vs ls → VRs fa μ h (vs.set n v) (ls.set n l)
  | _, _, _, .nil => by simpa using VRs.nil
  | _, _, 0, .cons _ hs => by simpa using VRs.cons hv hs
  | _, _, n + 1, .cons hw hs => by simpa using VRs.cons hw (hs.set hv n)
theorem VRs.eraseIdx {μ : List Addr} {h : Heap} : ∀ {vs : List Value} {ls : List V} (n : Nat), VRs fa μ h vs ls → VRs fa μ h (vs.eraseIdx n) (ls.eraseIdx n)
  | _, _, _, .nil => by simpa using VRs.nil
  | _, _, 0, .cons _ hs => by simpa using hs
  | _, _, n + 1, .cons hw hs => by simpa using VRs.cons hw (hs.eraseIdx n)

/-- the heap of lists lies in the heap of objects -/
structure LH (fa : Nat → Option Addr) (μ : List Addr) (H : HP) (h : Heap) : Prop where
  len : μ.length = H.length
  nd : μ.Nodup
  at' : ∀ (i : Nat) (a : Addr) (xs : List V), μ[i]? = some a → H[i]? = some xs → ∃ vs n, h.get? a = some (Lobj vs n) ∧ VRs fa μ h vs xs

theorem LH.get {μ : List Addr} {H : HP} {h : Heap} (x : LH fa μ H h) {i : Nat} {xs : List V} {v : Value} (hv : VR fa μ h v (.list i)) (e : H[i]? = some xs) :
    ∃ a vs n, v = .ref a ∧ μ[i]? = some a ∧ h.get? a = some (Lobj vs n) ∧ VRs fa μ h vs xs := by
  obtain ⟨a, rfl, hi⟩ := hv.list_inv
  obtain ⟨vs, n, h1, h2⟩ := x.at' i a xs hi e
  exact ⟨a, vs, n, rfl, hi, h1, h2⟩
@[elab_as_elim] theorem LH.getK {μ : List Addr} {H : HP} {h : Heap} {P : Value → Prop} (x : LH fa μ H h) {i : Nat} {xs : List V} {v : Value} (hv : VR fa μ h v (.list i)) (e : H[i]? = some xs)
    (k : ∀ a vs n, μ[i]? = some a → h.get? a = some (Lobj vs n) → VRs fa μ h vs xs → P (.ref a)) : P v := by
  obtain ⟨a, vs, n, rfl, h1, h2, h3⟩ := x.get hv e
  exact k a vs n h1 h2 h3
theorem LH.mem {μ : List Addr} {H : HP} {h : Heap} (x : LH fa μ H h) {a : Addr} (ha : a ∈ μ) : ∃ vs n, h.get? a = some (Lobj vs n) := by
  obtain ⟨i, hi, rfl⟩ := List.getElem_of_mem ha
  have hi' : i < H.length := by rw [← x.len]; exact hi
  obtain ⟨vs, n, h1, _⟩ := x.at' i μ[i] H[i] (List.getElem?_eq_getElem hi) (List.getElem?_eq_getElem hi')
  exact ⟨vs, n, h1⟩
theorem LH.not_mem_of {μ : List Addr} {H : HP} {h : Heap} (x : LH fa μ H h) {a : Addr} {o : Obj} (ho : h.get? a = some o) (hc : ∀ vs n, o ≠ Lobj vs n) : a ∉ μ := fun ha => by
  obtain ⟨vs, n, h1⟩ := x.mem ha
  rw [h1] at ho
  exact hc vs n (Option.some.inj ho).symm
theorem LH.not_mem_fresh {μ : List Addr} {H : HP} {h : Heap} (x : LH fa μ H h) {a : Addr} (ho : h.get? a = none) : a ∉ μ := fun ha => by
  obtain ⟨vs, n, h1⟩ := x.mem ha
  rw [h1] at ho; cases ho

theorem prefix_get {α : Type} {l m : List α} {i : Nat} {a : α} (h : l <+: m) (e : l[i]? = some a) : m[i]? = some a := by
  obtain ⟨t, rfl⟩ := h
  rw [List.getElem?_append_left (by
    rcases Nat.lt_or_ge i l.length with hlt | hge
    · exact hlt
    · rw [List.getElem?_eq_none hge] at e; cases e)]; exact e

/-- what a step leaves: FA are the frame's own objects -/
structure Xt (FA : List Addr) (μ : List Addr) (h : Heap) (μ' : List Addr) (h' : Heap) : Prop where
  pre : μ <+: μ'
  new : ∀ a ∈ μ', a ∉ μ → h.get? a = none
  live : ∀ a o, h.get? a = some o → ∃ o', h'.get? a = some o'
  keep : ∀ b o, h.get? b = some o → b ∉ μ → b ∉ FA → h'.get? b = some o
  kv : ∀ b o, h.get? b = some o → isV o → h'.get? b = some o
  zero : ∀ a o, μ[0]? = some a → h.get? a = some o → h'.get? a = some o

section
variable {FA μ μ' μ'' : List Addr} {h h' h'' : Heap} {H H' : HP}
theorem Xt.refl : Xt FA μ h μ h := ⟨List.prefix_refl _, fun _ a b => absurd a b, fun _ o e => ⟨o, e⟩, fun _ _ e _ _ => e, fun _ _ e _ => e, fun _ _ _ e => e⟩
theorem Xt.trans (x : Xt FA μ h μ' h') (y : Xt FA μ' h' μ'' h'') : Xt FA μ h μ'' h'' where
  pre := x.pre.trans y.pre
  new := fun a ha hn => by
    by_cases hm : a ∈ μ'
    · exact x.new a hm hn
    · cases e : h.get? a with
      | none => rfl
      | some o =>
        obtain ⟨o', e'⟩ := x.live a o e
        rw [y.new a ha hm] at e'; cases e'
  live := fun a o e => let ⟨o', e'⟩ := x.live a o e; y.live a o' e'
  keep := fun b o e h1 h2 => y.keep b o (x.keep b o e h1 h2) (fun hm => by rw [x.new b hm h1] at e; cases e) h2
  kv := fun b o e hv => y.kv b o (x.kv b o e hv) hv
  zero := fun a o e1 e2 => y.zero a o (prefix_get x.pre e1) (x.zero a o e1 e2)
theorem Xt.weaken {FB : List Addr} (x : Xt FA μ h μ' h') (hs : ∀ a ∈ FA, a ∈ FB) : Xt FB μ h μ' h' :=
  ⟨x.pre, x.new, x.live, fun b o e h1 h2 => x.keep b o e h1 fun hm => h2 (hs b hm), x.kv, x.zero⟩
theorem Xt.toF (x : Xt [] μ h μ' h') : Xt FA μ h μ' h' := x.weaken fun _ h => nomatch h
theorem Xt.ext (hk : ∀ b o, h.get? b = some o → h'.get? b = some o) : Xt FA μ h μ h' :=
  ⟨List.prefix_refl _, fun _ a b => absurd a b, fun a o e => ⟨o, hk a o e⟩, fun b o e _ _ => hk b o e, fun b o e _ => hk b o e, fun a o _ e => hk a o e⟩
theorem Xt.vr (x : Xt FA μ h μ' h') {v : Value} {l : V} (r : VR fa μ h v l) : VR fa μ' h' v l := r.mono x.pre x.kv
theorem Xt.vrs (x : Xt FA μ h μ' h') {v : List Value} {l : List V} (r : VRs fa μ h v l) : VRs fa μ' h' v l := r.mono x.pre x.kv

theorem LH.ext (x : LH fa μ H h) (hk : ∀ b o, h.get? b = some o → h'.get? b = some o) : LH fa μ H h' :=
  ⟨x.len, x.nd, fun i a xs e1 e2 => let ⟨vs, n, h1, h2⟩ := x.at' i a xs e1 e2; ⟨vs, n, hk _ _ h1, h2.mono (List.prefix_refl _) fun b o e _ => hk b o e⟩⟩

/-- a new list -/
theorem LH.new {a : Addr} {vs : List Value} {n : Nat} {xs : List V} (x : LH fa μ H h) (hk : ∀ b o, h.get? b = some o → h'.get? b = some o) (hn : h.get? a = none) (ha : h'.get? a = some (Lobj vs n)) (hv : VRs fa μ h vs xs) :
    LH fa (μ ++ [a]) (H ++ [xs]) h' ∧ Xt FA μ h (μ ++ [a]) h' ∧ VR fa (μ ++ [a]) h' (.ref a) (.list H.length) := by
  have hp : μ <+: μ ++ [a] := List.prefix_append _ _
  have hm : a ∉ μ := x.not_mem_fresh hn
  refine ⟨⟨by simp [x.len], List.nodup_append.mpr ⟨x.nd, by simp, fun b hb c hc e => ?_⟩, fun i b ys e1 e2 => ?_⟩, ⟨hp, fun b hb hnb => ?_, fun b o e => ⟨o, hk b o e⟩, fun b o e _ _ => hk b o e, fun b o e _ => hk b o e, fun a o _ e => hk a o e⟩, .list ?_⟩
  · rw [List.mem_singleton.mp hc] at e; exact hm (e ▸ hb)
  · rcases Nat.lt_trichotomy i H.length with hlt | heq | hgt
    · rw [List.getElem?_append_left (by rw [x.len]; exact hlt)] at e1
      rw [List.getElem?_append_left hlt] at e2
      obtain ⟨ws, k, h1, h2⟩ := x.at' i b ys e1 e2
      exact ⟨ws, k, hk _ _ h1, h2.mono hp fun b o e _ => hk b o e⟩
    · subst heq
      rw [List.getElem?_append_right (by rw [x.len]; exact Nat.le_refl _), x.len, Nat.sub_self] at e1
      rw [List.getElem?_append_right (Nat.le_refl _), Nat.sub_self] at e2
      simp at e1 e2
      subst e1; subst e2
      exact ⟨vs, n, ha, hv.mono hp fun b o e _ => hk b o e⟩
    · rw [List.getElem?_eq_none (by simp; (first | lia | omega))] at e2; cases e2
  · rcases List.mem_append.mp hb with hb | hb
    · exact absurd hb hnb
    · rw [List.mem_singleton.mp hb]; exact hn
  · rw [List.getElem?_append_right (by rw [x.len]; exact Nat.le_refl _), x.len, Nat.sub_self]; rfl

/-- a list of the heap is changed -/
theorem LH.upd {i : Nat} {a : Addr} {vs : List Value} {n : Nat} {xs : List V} (x : LH fa μ H h) (hi : μ[i]? = some a) (hi0 : i ≠ 0) (hk : ∀ b o, b ≠ a → h.get? b = some o → h'.get? b = some o) (ha : h'.get? a = some (Lobj vs n)) (hv : VRs fa μ h vs xs) :
    LH fa μ (H.set i xs) h' ∧ Xt FA μ h μ h' := by
  have hm : a ∈ μ := List.mem_of_getElem? hi
  have hil : i < μ.length := by
    rcases Nat.lt_or_ge i μ.length with hlt | hge
    · exact hlt
    · rw [List.getElem?_eq_none hge] at hi; cases hi
  have hv' : ∀ b o, h.get? b = some o → isV o → h'.get? b = some o := fun b o e hV => by
    refine hk b o (fun e' => ?_) e
    obtain ⟨ws, k, h1⟩ := x.mem hm
    rw [e', h1] at e
    exact not_isV_list _ _ ((Option.some.inj e) ▸ hV)
  refine ⟨⟨by simp [x.len], x.nd, fun j b ys e1 e2 => ?_⟩, ⟨List.prefix_refl _, fun _ a b => absurd a b, fun b o e => ?_, fun b o e h1 _ => hk b o (fun e' => h1 (e' ▸ hm)) e, hv', fun b o e1 e2 => hk b o (fun e' => hi0 (nodup_inj x.nd hi (e' ▸ e1))) e2⟩⟩
  · by_cases hij : j = i
    · subst hij
      rw [hi] at e1; cases e1
      rw [List.getElem?_set_self (by rw [← x.len]; exact hil)] at e2
      cases e2
      exact ⟨vs, n, ha, hv.mono (List.prefix_refl _) hv'⟩
    · rw [List.getElem?_set_ne (Ne.symm hij)] at e2
      obtain ⟨ws, k, h1, h2⟩ := x.at' j b ys e1 e2
      refine ⟨ws, k, hk _ _ (fun e' => hij ?_) h1, h2.mono (List.prefix_refl _) hv'⟩
      exact nodup_inj x.nd (e' ▸ e1) hi
  · by_cases hb : b = a
    · subst hb; exact ⟨_, ha⟩
    · exact ⟨o, hk b o hb e⟩
end



inductive Op where | add | sub | mul | div | mod | pow
inductive Cm where | lt | le | gt | ge | eq | ne | is | isn | isin | nin
inductive Mt where | append | insert | pop | remove

mutual
inductive Ex where
  | var (i : Nat)
  | lit (v : V)
  | bin (op : Op) (a b : Ex)
  | neg (a : Ex)
  | not (a : Ex)
  | and (a b : Ex)
  | or (a b : Ex)
  | cmp (op : Cm) (a b : Ex)
  | ite (c a b : Ex)
  | call (f : Ex) (args : Exs)
  | callK (f : Ex) (args : Exs) (k : Ex)
  | meth (m : Mt) (o : Ex) (args : Exs)
  | idx (o i : Ex)
  | sl (o lo hi st : Ex)
  | lst (es : Exs)
  | tpl (es : Exs)
  | comp (elt : Ex) (nt : Nat) (tp : Bool) (iter : Ex) (cond : Ex)
inductive Exs where
  | nil
  | cons (e : Ex) (es : Exs)
end

inductive St where
  | skip
  | seq (a b : St)
  | asg (i : Nat) (e : Ex)
  | unp (is : List Nat) (e : Ex)
  | setI (o i e : Ex)
  | aug (o i : Ex) (op : Op) (e : Ex)
  | exp (e : Ex)
  | ite (c : Ex) (a b : St)
  | whl (c : Ex) (b : St)
  | fr (is : List Nat) (tp : Bool) (it : Ex) (b : St)
  | ret (e : Ex)
  | brk
  | bad

inductive Fl where
  | next | brk | ret (v : V)

noncomputable abbrev Rho := List (Option V)

/-! partial steps -/
theorem no {α : Type} {P : Prop} {a : α} (h : none = some a) : P := nomatch h
theorem nf {P : Prop} (h : false = true) : P := nomatch h
theorem nt {P : Prop} (h : true = false) : P := nomatch h
theorem ob {α β : Type} {o : Option α} {f : α → Option β} {r : β} (h : o.bind f = some r) : ∃ a, o = some a ∧ f a = some r := Option.bind_eq_some_iff.mp h
theorem om {α β : Type} {o : Option α} {f : α → β} {r : β} (h : o.map f = some r) : ∃ a, o = some a ∧ f a = r := Option.map_eq_some_iff.mp h
theorem oi {α : Type} {c : Prop} [Decidable c] {x : Option α} {r : α} (h : (if c then x else none) = some r) : c ∧ x = some r := by
  by_cases hc : c
  · exact ⟨hc, (if_pos hc).symm.trans h⟩
  · exact no ((if_neg hc).symm.trans h)
theorem oe {α β : Type} {o : Option α} {f : α → Option β} {d : Option β} {r : β} (h : o.elim d f = some r) : (o = none ∧ d = some r) ∨ ∃ a, o = some a ∧ f a = some r := by
  cases o with
  | none => exact Or.inl ⟨rfl, h⟩
  | some a => exact Or.inr ⟨a, rfl, h⟩
section
variable {α β : Type} {o : Option α} {P : Prop}
theorem obK {f : α → Option β} {r : β} (h : o.bind f = some r) (k : ∀ a, o = some a → f a = some r → P) : P := let ⟨a, h1, h2⟩ := ob h; k a h1 h2
theorem omK {f : α → β} {r : β} (h : o.map f = some r) (k : ∀ a, o = some a → f a = r → P) : P := let ⟨a, h1, h2⟩ := om h; k a h1 h2
theorem oiK {c : Prop} [Decidable c] {r : α} (h : (if c then o else none) = some r) (k : c → o = some r → P) : P := let ⟨h1, h2⟩ := oi h; k h1 h2
theorem oeK {f : α → Option β} {d : Option β} {r : β} (h : o.elim d f = some r) (k1 : o = none → d = some r → P) (k2 : ∀ a, o = some a → f a = some r → P) : P := (oe h).elim (fun h => k1 h.1 h.2) fun ⟨a, h1, h2⟩ => k2 a h1 h2
end
theorem bAnd {a b : Bool} (h : (a && b) = true) : a = true ∧ b = true := by
  cases a with
  | true => exact ⟨rfl, h⟩
  | false => exact nf h

/-! what a value is -/
noncomputable def intOf : V → Option Int
  | .int i => some i
  | _ => none
noncomputable def boolOf : V → Option Bool
  | .bool i => some i
  | _ => none
noncomputable def asBytes : V → Option (List UInt8)
  | .bytes b => some b
  | _ => none
noncomputable def asList : V → Option Nat
  | .list i => some i
  | _ => none
noncomputable def asTup : V → Option (List V)
  | .tup l => some l
  | _ => none
noncomputable def isNone : V → Bool
  | .none => true
  | _ => false
noncomputable def one : List V → Option V
  | [] => none
  | x :: r => if r.isEmpty then some x else none
noncomputable def two : List V → Option (V × V)
  | [] => none
  | x :: r => (one r).map fun y => (x, y)
theorem intOf_inv {x : V} {i : Int} (h : intOf x = some i) : x = .int i := by
  cases x with
  | int j => exact congrArg V.int (Option.some.inj h)
  | _ => exact no h
theorem boolOf_inv {x : V} {i : Bool} (h : boolOf x = some i) : x = .bool i := by
  cases x with
  | bool j => exact congrArg V.bool (Option.some.inj h)
  | _ => exact no h
theorem asBytes_inv {x : V} {i : List UInt8} (h : asBytes x = some i) : x = .bytes i := by
  cases x with
  | bytes j => exact congrArg V.bytes (Option.some.inj h)
  | _ => exact no h
theorem asList_inv {x : V} {i : Nat} (h : asList x = some i) : x = .list i := by
  cases x with
  | list j => exact congrArg V.list (Option.some.inj h)
  | _ => exact no h
theorem asTup_inv {x : V} {i : List V} (h : asTup x = some i) : x = .tup i := by
  cases x with
  | tup j => exact congrArg V.tup (Option.some.inj h)
  | _ => exact no h
theorem isNone_inv {x : V} (h : isNone x = true) : x = .none := by
  cases x with
  | none => rfl
  | _ => exact nf h
theorem one_inv {l : List V} {x : V} (h : one l = some x) : l = [x] := by
  cases l with
  | nil => exact no h
  | cons y r =>
    obtain ⟨h1, h2⟩ := oi h
    rw [List.isEmpty_iff.mp h1, Option.some.inj h2]
theorem two_inv {l : List V} {p : V × V} (h : two l = some p) : l = [p.1, p.2] := by
  cases l with
  | nil => exact no h
  | cons y r =>
    obtain ⟨a, h1, h2⟩ := om h
    rw [one_inv h1, ← h2]

/-! ints -/
noncomputable def small (i : Int) : Bool := decide (i.natAbs < 2 ^ 64)
noncomputable def mid (i : Int) : Bool := decide (i.natAbs < 2 ^ 250)
noncomputable def binI : Op → Int → Int → Option Int
  | .add, a, b => some (a + b)
  | .sub, a, b => some (a - b)
  | .mul, a, b => if small a || small b || (mid a && mid b) then some (a * b) else none
  | .div, a, b => if decide (b ≠ 0) && mid b then some (a.fdiv b) else none
  | .mod, a, b => if decide (b ≠ 0) then some (a.fmod b) else none
  | .pow, a, b => if decide (a.natAbs < 2 ^ 20) && decide (0 ≤ b) && decide (b ≤ 64) then some (a ^ b.toNat) else none

noncomputable def lenOk (n : Nat) : Bool := decide (n ≤ 2 ^ 20)
noncomputable def addS (x y : V) (H : HP) : Option (V × HP) :=
  (asBytes x).elim ((asList x).bind fun i => (asList y).bind fun j => (H[i]?).bind fun xs => (H[j]?).bind fun ys => if lenOk (xs.length + ys.length) then some (.list H.length, H ++ [xs ++ ys]) else none)
    fun a => (asBytes y).bind fun b => if lenOk (a.length + b.length) then some (.bytes (a ++ b), H) else none
noncomputable def mulS (x y : V) (H : HP) : Option (V × HP) :=
  (asList x).bind fun i => (intOf y).bind fun k => (H[i]?).bind fun xs => if decide (0 ≤ k) && decide (k ≤ 1000) && decide (xs.length ≤ 1000) then some (.list H.length, H ++ [(List.replicate k.toNat xs).flatten]) else none
noncomputable def binS : Op → V → V → HP → Option (V × HP)
  | .add => addS
  | .mul => mulS
  | _ => fun _ _ _ => none
noncomputable def bin (op : Op) (x y : V) (H : HP) : Option (V × HP) :=
  (intOf x).elim (binS op x y H) fun a => (intOf y).bind fun b => (binI op a b).map fun c => (.int c, H)

noncomputable def tr : V → Option Bool
  | .none => some false
  | .bool b => some b
  | .int i => some (i != 0)
  | _ => none

/-! equality -/
noncomputable def eq0 (x y : V) : Option Bool :=
  (intOf x).elim ((asBytes x).bind fun a => (asBytes y).map fun b => a == b) fun a => (intOf y).map fun b => a == b
noncomputable def eqs (f : V → V → Option Bool) : List V → List V → Option Bool
  | [], ys => if ys.isEmpty then some true else none
  | x :: xs, ys => (match ys with
    | [] => none
    | y :: ys => (f x y).bind fun a => (eqs f xs ys).map fun b => a && b)
noncomputable def eq1 (x y : V) : Option Bool := (asTup x).elim (eq0 x y) fun a => (asTup y).bind fun b => eqs eq0 a b
noncomputable def eqL (H : HP) (i j : Nat) : Option Bool :=
  (H[i]?).bind fun xs => (H[j]?).bind fun ys => if xs.length = ys.length then (if i = j then none else eqs eq1 xs ys) else some false
noncomputable def eqV (H : HP) (x y : V) : Option Bool := (asList x).elim (eq0 x y) fun i => (asList y).bind fun j => eqL H i j
noncomputable def isN : V → Option Bool
  | .none => some true
  | .bool _ => some false
  | .int _ => some false
  | .fn _ => some false
  | .list _ => some false
  | _ => none
noncomputable def isV' (x y : V) : Option Bool :=
  (boolOf y).elim (if isNone y then isN x else none) fun b => (boolOf x).elim (if isNone x then some false else none) fun a => some (a == b)
noncomputable def intsOf : List V → Option (List Int)
  | [] => some []
  | x :: xs => (intOf x).bind fun i => (intsOf xs).map fun is => i :: is
noncomputable def inV (H : HP) (x y : V) : Option Bool :=
  (intOf x).bind fun a => (asList y).bind fun j => (H[j]?).bind fun ys => (intsOf ys).map fun is => is.contains a
noncomputable def cmpI (f : Int → Int → Bool) (a b : V) : Option Bool := (intOf a).bind fun x => (intOf b).map fun y => f x y
noncomputable def cmpV (op : Cm) (a b : V) (H : HP) : Option Bool :=
  match op with
  | .lt => cmpI (fun x y => decide (x < y)) a b
  | .le => cmpI (fun x y => decide (x ≤ y)) a b
  | .gt => cmpI (fun x y => decide (y < x)) a b
  | .ge => cmpI (fun x y => decide (y ≤ x)) a b
  | .eq => eqV H a b
  | .ne => (eqV H a b).map (!·)
  | .is => isV' a b
  | .isn => (isV' a b).map (!·)
  | .isin => inV H a b
  | .nin => (inV H a b).map (!·)

/-! items, slices -/
noncomputable def getL (xs : List V) (k : Int) : Option V :=
  if 0 ≤ k then (if k < 2 ^ 62 then xs[k.toNat]? else none) else (if -(2 ^ 62) ≤ k ∧ 0 ≤ k + xs.length then xs[(k + xs.length).toNat]? else none)
noncomputable def getI (x y : V) (H : HP) : Option V := (intOf y).bind fun k => match x with
  | .list i => (H[i]?).bind fun xs => getL xs k
  | .tup xs => if 0 ≤ k ∧ k < 2 ^ 62 then xs[k.toNat]? else none
  | .bytes b => if 0 ≤ k ∧ k < b.length ∧ b.length ≤ 2 ^ 20 then some (.int (b.getD k.toNat 0).toNat) else none
  | _ => none
noncomputable def hiOf (n : Nat) (x : V) : Option Nat := if isNone x then some n else (intOf x).bind fun k => if 0 ≤ k then some k.toNat else none
noncomputable def cutG {α : Type} (xs : List α) (lo hi : V) : Option (List α) :=
  (hiOf 0 lo).bind fun a => (hiOf xs.length hi).map fun b => (xs.drop a).take (b - a)
noncomputable def slG {α : Type} (xs : List α) (lo hi st : V) : Option (List α) :=
  if isNone st then cutG xs lo hi else (intOf st).bind fun k => if k = -1 ∧ isNone lo = true ∧ isNone hi = true then some xs.reverse else none
noncomputable def slV (x lo hi st : V) (H : HP) : Option (V × HP) :=
  (asBytes x).elim ((asList x).bind fun i => (H[i]?).bind fun xs => (slG xs lo hi st).bind fun ys => if lenOk xs.length then some (.list H.length, H ++ [ys]) else none)
    fun b => if isNone st then (cutG b lo hi).bind fun ys => if lenOk b.length then some (.bytes ys, H) else none else none

/-! built-ins -/
noncomputable def lexLt : List Int → List Int → Bool
  | _, [] => false
  | [], _ :: _ => true
  | a :: as, b :: bs => if a = b then lexLt as bs else decide (a < b)
noncomputable def tupOf (x : V) : Option (List Int) := (asTup x).bind intsOf
noncomputable def tupsOf : List V → Option (List (List Int))
  | [] => some []
  | x :: xs => (tupOf x).bind fun i => (tupsOf xs).map fun is => i :: is
noncomputable def minL : List Int → List (List Int) → List Int
  | m, [] => m
  | m, x :: xs => minL (if lexLt x m then x else m) xs
noncomputable def insL (x : List Int) : List (List Int) → List (List Int)
  | [] => [x]
  | y :: ys => if lexLt x y then x :: y :: ys else y :: insL x ys
noncomputable def sortL : List (List Int) → List (List Int)
  | [] => []
  | x :: xs => insL x (sortL xs)
noncomputable def ofInts (l : List Int) : V := .tup (l.map .int)
noncomputable def rangeL (a b c : Int) : List V := (rangeInts a c (Builtin.Range.rangeSize a b c).toNat).map .int
noncomputable def okR (x : Int) : Bool := decide (-(2 ^ 60) ≤ x) && decide (x ≤ 2 ^ 60)
noncomputable def byteOf (i : Int) : Option UInt8 := if 0 ≤ i ∧ i < 256 then some (UInt8.ofNat i.toNat) else none
noncomputable def bytesOf : List Int → Option (List UInt8)
  | [] => some []
  | x :: xs => (byteOf x).bind fun i => (bytesOf xs).map fun is => i :: is

noncomputable def lenOf (x : V) (H : HP) : Option Nat := (asBytes x).elim ((asList x).bind fun i => (H[i]?).map List.length) fun b => some b.length
noncomputable def biLen (args : List V) (H : HP) : Option (V × HP) := (one args).bind fun x => (lenOf x H).bind fun n => if lenOk n then some (.int n, H) else none
noncomputable def rng (a b c : Int) (H : HP) : Option (V × HP) := if okR a && okR b && okR c && decide (c ≠ 0) then some (.range a b c, H) else none
noncomputable def biRange (args : List V) (H : HP) : Option (V × HP) := (intsOf args).bind fun l => match l with
  | [] => none
  | a :: l => (match l with
    | [] => rng 0 a 1 H
    | b :: l => (match l with
      | [] => rng a b 1 H
      | c :: l => if l.isEmpty then rng a b c H else none))
noncomputable def biInt (args : List V) (H : HP) : Option (V × HP) := (one args).bind fun x => (intOf x).map fun a => (.int a, H)
noncomputable def biAbs (args : List V) (H : HP) : Option (V × HP) := (one args).bind fun x => (intOf x).map fun a => (.int (a.natAbs : Int), H)
noncomputable def biDivmod (args : List V) (H : HP) : Option (V × HP) := (two args).bind fun p => (intOf p.1).bind fun a => (intOf p.2).bind fun b =>
  if decide (b ≠ 0) && mid b then some (.tup [.int (a.fdiv b), .int (a.fmod b)], H) else none
noncomputable def isBy : V → Bool
  | .bi b => b.isBytes
  | _ => false
noncomputable def biIsinstance (args : List V) (H : HP) : Option (V × HP) := (two args).bind fun p => (asBytes p.1).bind fun _ => if isBy p.2 then some (.bool true, H) else none
noncomputable def biBytes (args : List V) (H : HP) : Option (V × HP) := (one args).bind fun x => (asList x).bind fun i => (H[i]?).bind fun xs => (intsOf xs).bind fun is => (bytesOf is).bind fun bs => if lenOk xs.length then some (.bytes bs, H) else none
noncomputable def rangeV (x : V) : Option (List V) := match x with
  | .range a b c => if lenOk (rangeL a b c).length && okR a && okR b && okR c && decide (c ≠ 0) then some (rangeL a b c) else none
  | _ => none
noncomputable def biList (args : List V) (H : HP) : Option (V × HP) := (one args).bind fun x => (asList x).elim ((rangeV x).map fun xs => (.list H.length, H ++ [xs]))
  fun i => (H[i]?).bind fun xs => if lenOk xs.length then some (.list H.length, H ++ [xs]) else none
noncomputable def minT (xs : List V) (H : HP) : Option (V × HP) := (tupsOf xs).bind fun ts => match ts with
  | [] => none
  | m :: ms => if lenOk xs.length && ms.all (fun t => t.length == m.length) then some (ofInts (minL m ms), H) else none
noncomputable def biMin (_ : List V) (_ : HP) : Option (V × HP) := none
noncomputable def biMax (_ : List V) (_ : HP) : Option (V × HP) := none
noncomputable def biSorted (_ : List V) (_ : HP) : Option (V × HP) := none
noncomputable def bi (b : Bi) (args : List V) (H : HP) : Option (V × HP) :=
  match b with
  | .len => biLen args H
  | .range => biRange args H
  | .int => biInt args H
  | .abs => biAbs args H
  | .divmod => biDivmod args H
  | .isinstance => biIsinstance args H
  | .bytes => biBytes args H
  | .list => biList args H
  | .min => biMin args H
  | .max => biMax args H
  | .sorted => biSorted args H

noncomputable def mtAppend (i : Nat) (xs vs : List V) (H : HP) : Option (V × HP) := (one vs).bind fun v => if lenOk xs.length then some (.none, H.set i (xs ++ [v])) else none
noncomputable def mtInsert (i : Nat) (xs vs : List V) (H : HP) : Option (V × HP) := (two vs).bind fun p => (intOf p.1).bind fun k =>
  if lenOk xs.length && decide (0 ≤ k) && decide (k ≤ xs.length) then some (.none, H.set i (xs.take k.toNat ++ p.2 :: xs.drop k.toNat)) else none
noncomputable def mtPop (i : Nat) (xs vs : List V) (H : HP) : Option (V × HP) := match vs with
  | [] => (xs[xs.length - 1]?).bind fun v => if lenOk xs.length then some (v, H.set i (xs.eraseIdx (xs.length - 1))) else none
  | x :: r => (one (x :: r)).bind fun x => (intOf x).bind fun k => (xs[k.toNat]?).bind fun v => if lenOk xs.length && decide (0 ≤ k) then some (v, H.set i (xs.eraseIdx k.toNat)) else none
noncomputable def mtRemove (_ : Nat) (_ _ : List V) (_ : HP) : Option (V × HP) := none
noncomputable def meth0 (m : Mt) : Nat → List V → List V → HP → Option (V × HP) :=
  match m with
  | .append => mtAppend
  | .insert => mtInsert
  | .pop => mtPop
  | .remove => mtRemove
/-- the first list of all is never changed -/
noncomputable def meth (m : Mt) (x : V) (vs : List V) (H : HP) : Option (V × HP) :=
  (asList x).bind fun i => (H[i]?).bind fun xs => if i ≠ 0 then meth0 m i xs vs H else none

/-! the evaluator -/
noncomputable abbrev FnT := Nat → List V → Option V → HP → Option (V × HP)
noncomputable def app (Φ : FnT) (f : V) (args : List V) (k : Option V) (H : HP) : Option (V × HP) :=
  match f with
  | .fn n => Φ n args k H
  | .bi b => if k.isNone then bi b args H else none
  | _ => none

inductive Src where
  | fixed (vs : List V)
  | lst (i : Nat)
noncomputable def srcOf (v : V) (H : HP) : Option Src :=
  match v with
  | .list i => (H[i]?).bind fun xs => if lenOk xs.length then some (.lst i) else none
  | .range a b c => (rangeV (.range a b c)).map .fixed
  | .bytes b => if lenOk b.length then some (.fixed (b.map fun x => .int x.toNat)) else none
  | _ => none
noncomputable def Src.items (s : Src) (H : HP) : Option (List V) :=
  match s with
  | .fixed vs => some vs
  | .lst i => H[i]?
noncomputable def Src.fuel (s : Src) (H : HP) : Nat := ((s.items H).getD []).length + 1

/-- the targets' values: one name, or a tuple's parts -/
noncomputable def partsOf (v : V) (H : HP) : Option (List V) := match v with
  | .tup xs => some xs
  | .list i => H[i]?
  | _ => none
noncomputable def parts (tp : Bool) (n : Nat) (v : V) (H : HP) : Option (List V) :=
  cond tp ((partsOf v H).bind fun xs => if xs.length = n then some xs else none) (if n = 1 then some [v] else none)

noncomputable def compGo (f : V → HP → Option (Option V × HP)) (src : Src) : Nat → Nat → HP → Option (List V × HP)
  | 0, _, _ => none
  | k + 1, i, H => (src.items H).bind fun xs => (xs[i]?).elim (some ([], H)) fun x => (f x H).bind fun r => (compGo f src k (i + 1) r.2).map fun q => (r.1.elim q.1 (· :: q.1), q.2)

mutual
noncomputable def ev (Φ : FnT) : Ex → Rho → HP → Option (V × HP)
  | .var i, ρ, H => (ρ[i]?).bind fun o => o.map fun v => (v, H)
  | .lit v, _, H => some (v, H)
  | .bin op a b, ρ, H => (ev Φ a ρ H).bind fun x => (ev Φ b ρ x.2).bind fun y => bin op x.1 y.1 y.2
  | .neg a, ρ, H => (ev Φ a ρ H).bind fun x => (intOf x.1).map fun i => (.int (-i), x.2)
  | .not a, ρ, H => (ev Φ a ρ H).bind fun x => (tr x.1).map fun c => (.bool (!c), x.2)
  | .and a b, ρ, H => (ev Φ a ρ H).bind fun x => (tr x.1).bind fun c => cond c (ev Φ b ρ x.2) (some x)
  | .or a b, ρ, H => (ev Φ a ρ H).bind fun x => (tr x.1).bind fun c => cond c (some x) (ev Φ b ρ x.2)
  | .cmp op a b, ρ, H => (ev Φ a ρ H).bind fun x => (ev Φ b ρ x.2).bind fun y => (cmpV op x.1 y.1 y.2).map fun c => (.bool c, y.2)
  | .ite c a b, ρ, H => (ev Φ c ρ H).bind fun x => (tr x.1).bind fun c => cond c (ev Φ a ρ x.2) (ev Φ b ρ x.2)
  | .call f args, ρ, H => (ev Φ f ρ H).bind fun g => (evs Φ args ρ g.2).bind fun vs => app Φ g.1 vs.1 none vs.2
  | .callK f args k, ρ, H => (ev Φ f ρ H).bind fun g => (evs Φ args ρ g.2).bind fun vs => (ev Φ k ρ vs.2).bind fun kv => app Φ g.1 vs.1 (some kv.1) kv.2
  | .meth m o args, ρ, H => (ev Φ o ρ H).bind fun x => (evs Φ args ρ x.2).bind fun vs => meth m x.1 vs.1 vs.2
  | .idx o i, ρ, H => (ev Φ o ρ H).bind fun x => (ev Φ i ρ x.2).bind fun y => (getI x.1 y.1 y.2).map fun v => (v, y.2)
  | .sl o lo hi st, ρ, H => (ev Φ o ρ H).bind fun x => (ev Φ lo ρ x.2).bind fun a => (ev Φ hi ρ a.2).bind fun b => (ev Φ st ρ b.2).bind fun c => slV x.1 a.1 b.1 c.1 c.2
  | .lst es, ρ, H => (evs Φ es ρ H).bind fun vs => if lenOk vs.1.length then some (.list vs.2.length, vs.2 ++ [vs.1]) else none
  | .tpl es, ρ, H => (evs Φ es ρ H).bind fun vs => if lenOk vs.1.length then some (.tup vs.1, vs.2) else none
  | .comp elt nt tp iter cnd, ρ, H => (ev Φ iter ρ H).bind fun x => (srcOf x.1 x.2).bind fun src => (compGo (fun v H => (parts tp nt v H).bind fun ps => (ev Φ cnd (ρ ++ ps.map some) H).bind fun c => (tr c.1).bind fun t =>
      cond t ((ev Φ elt (ρ ++ ps.map some) c.2).map fun y => (some y.1, y.2)) (some (none, c.2))) src (src.fuel x.2) 0 x.2).map fun r => (.list r.2.length, r.2 ++ [r.1])
noncomputable def evs (Φ : FnT) : Exs → Rho → HP → Option (List V × HP)
  | .nil, _, H => some ([], H)
  | .cons e es, ρ, H => (ev Φ e ρ H).bind fun v => (evs Φ es ρ v.2).map fun vs => (v.1 :: vs.1, vs.2)
end

noncomputable def evB (Φ : FnT) (e : Ex) (ρ : Rho) (H : HP) : Option (Bool × HP) := (ev Φ e ρ H).bind fun v => (tr v.1).map fun c => (c, v.2)

noncomputable def setAll (ρ : Rho) : List Nat → List V → Rho
  | [], _ => ρ
  | i :: is, vs => (match vs with
    | [] => ρ
    | v :: vs => setAll (ρ.set i (some v)) is vs)

noncomputable abbrev Cfg := Rho × HP
noncomputable def goOn (r : Fl × Cfg) (k : Cfg → Option (Fl × Cfg)) : Option (Fl × Cfg) := match r.1 with
  | .next => k r.2
  | .brk => some (.brk, r.2)
  | .ret v => some (.ret v, r.2)
noncomputable def loopOn (r : Fl × Cfg) (k : Cfg → Option (Fl × Cfg)) : Option (Fl × Cfg) := match r.1 with
  | .next => k r.2
  | .brk => some (.next, r.2)
  | .ret v => some (.ret v, r.2)
noncomputable def whileGo (test : Cfg → Option (Bool × HP)) (body : Cfg → Option (Fl × Cfg)) : Nat → Cfg → Option (Fl × Cfg)
  | 0, _ => none
  | k + 1, σ => (test σ).bind fun q => cond q.1 ((body (σ.1, q.2)).bind fun r => loopOn r (whileGo test body k)) (some (.next, (σ.1, q.2)))
noncomputable def forGo (is : List Nat) (tp : Bool) (body : Cfg → Option (Fl × Cfg)) (src : Src) : Nat → Nat → Cfg → Option (Fl × Cfg)
  | 0, _, _ => none
  | k + 1, i, σ => (src.items σ.2).bind fun xs => (xs[i]?).elim (some (.next, σ)) fun x => (parts tp is.length x σ.2).bind fun ps => (body (setAll σ.1 is ps, σ.2)).bind fun r => loopOn r (forGo is tp body src k (i + 1))

noncomputable def noRef : V → Bool
  | .none => true
  | .bool _ => true
  | .int _ => true
  | .bytes _ => true
  | _ => false

noncomputable def WF : Nat := 200

noncomputable def setL (ρ : Rho) (l k v : V) (H : HP) : Option (Fl × Cfg) := (asList l).bind fun j => (intOf k).bind fun i => (H[j]?).bind fun xs =>
  if decide (0 ≤ i) && decide (i < xs.length) && lenOk xs.length && decide (j ≠ 0) then some (.next, (ρ, H.set j (xs.set i.toNat v))) else none
noncomputable def run (Φ : FnT) : St → Cfg → Option (Fl × Cfg)
  | .skip, σ => some (.next, σ)
  | .seq a b, σ => (run Φ a σ).bind fun q => goOn q (run Φ b)
  | .asg i e, σ => (ev Φ e σ.1 σ.2).map fun q => (.next, (σ.1.set i (some q.1), q.2))
  | .unp is e, σ => (ev Φ e σ.1 σ.2).bind fun q => (parts true is.length q.1 q.2).map fun ps => (.next, (setAll σ.1 is ps, q.2))
  | .setI o i e, σ => (ev Φ e σ.1 σ.2).bind fun v => (ev Φ o σ.1 v.2).bind fun l => (ev Φ i σ.1 l.2).bind fun k => setL σ.1 l.1 k.1 v.1 k.2
  | .aug o i op e, σ => (ev Φ o σ.1 σ.2).bind fun l => (ev Φ i σ.1 l.2).bind fun k => (getI l.1 k.1 k.2).bind fun old => (ev Φ e σ.1 k.2).bind fun new =>
      (intOf old).bind fun a => (intOf new.1).bind fun b => (match op with | .add => setL σ.1 l.1 k.1 (.int (a + b)) new.2 | _ => none)
  | .exp e, σ => (ev Φ e σ.1 σ.2).bind fun q => if noRef q.1 then some (.next, (σ.1, q.2)) else none
  | .ite c a b, σ => (evB Φ c σ.1 σ.2).bind fun q => cond q.1 (run Φ a (σ.1, q.2)) (run Φ b (σ.1, q.2))
  | .whl c b, σ => whileGo (fun σ => evB Φ c σ.1 σ.2) (fun σ => run Φ b σ) WF σ
  | .fr is tp it b, σ => (ev Φ it σ.1 σ.2).bind fun q => (srcOf q.1 q.2).bind fun src => forGo is tp (fun σ => run Φ b σ) src (src.fuel q.2) 0 (σ.1, q.2)
  | .ret e, σ => (ev Φ e σ.1 σ.2).map fun q => (.ret q.1, (σ.1, q.2))
  | .brk, σ => some (.brk, σ)
  | .bad, _ => none

/-- a def: how many slots, its code -/
structure Fn where
  params : Nat
  key : Bool
  slots : Nat
  body : St

noncomputable def rhoF (n : Nat) (ls : List V) : Rho := ls.map some ++ List.replicate (n - ls.length) none
/-- the arguments laid into the slots: a def with a key takes two or four -/
noncomputable def bindV (f : Fn) (args : List V) (k : Option V) : Option Rho :=
  cond f.key (if args.length = 2 then some (rhoF f.slots (args ++ [.int 0, .none, k.getD .none])) else if args.length = 4 then some (rhoF f.slots (args ++ [k.getD .none])) else none)
    (if args.length = f.params ∧ k.isNone then some (rhoF f.slots args) else none)

noncomputable def retOf : Fl → Option V
  | .ret v => some v
  | .next => some .none
  | .brk => none
noncomputable def callF (Δ : Nat → Option Fn) : Nat → FnT
  | 0, _, _, _, _ => none
  | n + 1, k, args, key, H => (Δ k).bind fun f => (bindV f args key).bind fun ρ => (run (callF Δ n) f.body (ρ, H)).bind fun q => (retOf q.1).map fun v => (v, q.2.2)



set_option genInjectivity false in
/-- what the continuation is told -/
structure Res (fa : Nat → Option Addr) (μ : List Addr) (s : Shared) (l : V) (H : HP) where
  v : Value
  h : Heap
  tk : Tok
  μ' : List Addr
  vr : VR fa μ' h v l
  lh : LH fa μ' H h
  xt : Xt [] μ s.heap μ' h
@[reducible] noncomputable def stOf (s : Shared) (h : Heap) (tk : Tok) : Shared := { s with heap := h, toks := tk }
@[reducible] noncomputable def Res.st {fa : Nat → Option Addr} {μ : List Addr} {s : Shared} {l : V} {H : HP} (r : Res fa μ s l H) : Shared := stOf s r.h r.tk
noncomputable def Ok (fa : Nat → Option Addr) (μ : List Addr) (s : Shared) (l : V) (H : HP) (Q : Value → Shared → Prop) : Prop := ∀ r : Res fa μ s l H, Q r.v r.st

section
variable {prog : Program} {w : World} {A : Around} {E : Value → Shared → Prop} {s : Shared} {fa : Nat → Option Addr} {μ : List Addr} {H H' : HP} {Q : Value → Shared → Prop}

theorem Ok.pure {l : V} {v : Value} (k : Ok fa μ s l H Q) (hv : VR fa μ s.heap v l) (hl : LH fa μ H s.heap) (tk : Tok) : Q v { s with toks := tk } := k ⟨v, s.heap, tk, μ, hv, hl, .refl⟩
theorem Ok.here {l : V} {v : Value} (k : Ok fa μ s l H Q) (hv : VR fa μ s.heap v l) (hl : LH fa μ H s.heap) : Q v s := k.pure hv hl s.toks
theorem Ok.ext {l : V} {v : Value} (k : Ok fa μ s l H Q) {h' : Heap} (hk : ∀ b o, s.heap.get? b = some o → h'.get? b = some o) (hv : VR fa μ h' v l) (hl : LH fa μ H s.heap) (tk : Tok) : Q v { s with heap := h', toks := tk } :=
  k ⟨v, h', tk, μ, hv, hl.ext hk, .ext hk⟩
theorem Ok.new {xs : List V} {a : Addr} {vs : List Value} {n : Nat} (k : Ok fa μ s (.list H.length) (H ++ [xs]) Q) {h' : Heap} (hl : LH fa μ H s.heap) (hk : ∀ b o, s.heap.get? b = some o → h'.get? b = some o) (hn : s.heap.get? a = none)
    (ha : h'.get? a = some (Lobj vs n)) (hv : VRs fa μ s.heap vs xs) (tk : Tok) : Q (.ref a) { s with heap := h', toks := tk } :=
  let x := hl.new (FA := []) hk hn ha hv
  k ⟨_, h', tk, _, x.2.2, x.1, x.2.1⟩
theorem Ok.upd {l : V} {i : Nat} {a : Addr} {vs : List Value} {n : Nat} {xs : List V} {v : Value} (k : Ok fa μ s l (H.set i xs) Q) {h' : Heap} (hl : LH fa μ H s.heap) (hi : μ[i]? = some a) (hi0 : i ≠ 0)
    (hk : ∀ b o, b ≠ a → s.heap.get? b = some o → h'.get? b = some o) (ha : h'.get? a = some (Lobj vs n)) (hv : VRs fa μ s.heap vs xs) (hr : ∀ {μ' : List Addr} {h' : Heap}, Xt [] μ s.heap μ' h' → VR fa μ' h' v l) (tk : Tok) : Q v { s with heap := h', toks := tk } :=
  let x := hl.upd (FA := []) hi hi0 hk ha hv
  k ⟨v, h', tk, _, hr x.2, x.1, x.2⟩

theorem Ok.of {l l' : V} (k : Ok fa μ s l H Q) (e : some (l', H') = some (l, H)) : Ok fa μ s l' H' Q := by
  cases e; exact k
theorem Ok.of' {l l' : V} (k : Ok fa μ s l H Q) (e : (l', H') = (l, H)) : Ok fa μ s l' H' Q := by
  cases e; exact k
theorem vr_int {h : Heap} {v : Value} {x : V} {i : Int} (e : intOf x = some i) (r : VR fa μ h v x) : VR fa μ h v (.int i) := intOf_inv e ▸ r
theorem vr_bytes {h : Heap} {v : Value} {x : V} {i : List UInt8} (e : asBytes x = some i) (r : VR fa μ h v x) : VR fa μ h v (.bytes i) := asBytes_inv e ▸ r
theorem vr_list {h : Heap} {v : Value} {x : V} {i : Nat} (e : asList x = some i) (r : VR fa μ h v x) : VR fa μ h v (.list i) := asList_inv e ▸ r
theorem vr_tup {h : Heap} {v : Value} {x : V} {i : List V} (e : asTup x = some i) (r : VR fa μ h v x) : VR fa μ h v (.tup i) := asTup_inv e ▸ r
theorem vr_none {h : Heap} {v : Value} {x : V} (e : isNone x = true) (r : VR fa μ h v x) : VR fa μ h v .none := isNone_inv e ▸ r
theorem vr_bool {h : Heap} {v : Value} {x : V} {i : Bool} (e : boolOf x = some i) (r : VR fa μ h v x) : VR fa μ h v (.bool i) := boolOf_inv e ▸ r
theorem push_keeps (h : Heap) (o : Obj) : ∀ b x, h.get? b = some x → (h.push o).get? b = some x := fun _ _ e => Heap.get?_push_of_some o e
theorem get_size (h : Heap) : h.get? h.objs.size = none := by
  cases e : h.get? h.objs.size with
  | none => rfl
  | some o => exact absurd (Heap.lt_size e) (Nat.lt_irrefl _)
theorem lenOk_le {n : Nat} (h : lenOk n = true) : n ≤ 1048576 := of_decide_eq_true h
theorem isList_of {h : Heap} {a : Addr} {vs : List Value} {n : Nat} (e : h.get? a = some (Lobj vs n)) : h.IsList a vs.toArray := ⟨_, e, rfl, n, rfl⟩

theorem op2 {α β : Type} {a c : α} {b d : β} (h : some (a, b) = some (c, d)) : c = a ∧ d = b := ⟨(congrArg Prod.fst (Option.some.inj h)).symm, (congrArg Prod.snd (Option.some.inj h)).symm⟩
theorem op2' {α β : Type} {a c : α} {b d : β} (h : (a, b) = (c, d)) : c = a ∧ d = b := ⟨(congrArg Prod.fst h).symm, (congrArg Prod.snd h).symm⟩
theorem log_mid {n : Nat} (h : n < 2 ^ 250) : Nat.log2 n < 9000 := by
  by_cases h0 : n = 0
  · rw [h0]; decide +kernel
  · have := (Nat.log2_lt h0).mpr h
    (first | lia | omega)
/-! ints -/
noncomputable def Op.py : Op → Operator
  | .add => .Add | .sub => .Sub | .mul => .Mult | .div => .FloorDiv | .mod => .Mod | .pow => .Pow

theorem bin_int {op : Op} {a b c : Int} {t u : Tok} (e : binI op a b = some c) (h : Q (.int c s.toks) { s with toks := s.toks + 1 }) : wpAny (model prog w) A (binaryOp op.py (.int a t) (.int b u)) Q E s := by
  cases op with
  | add => rw [← Option.some.inj e] at h; exact PyProof.Rows.add_int h
  | sub => rw [← Option.some.inj e] at h; exact PyProof.Rows.sub_int h
  | mul =>
    refine oiK e fun hc e => ?_
    rw [← Option.some.inj e] at h
    refine PyProof.Rows.mul_int h ?_
    simp only [Bool.or_eq_true, Bool.and_eq_true, small, mid, decide_eq_true_eq] at hc
    rcases hc with (hc | hc) | ⟨h1, h2⟩
    · exact IntMulOk.of_left (intBits_le hc)
    · exact IntMulOk.of_right (intBits_le hc)
    · exact IntMulOk.of_bits (Nat.le_trans (intBits_le h1) (by decide)) (Nat.le_trans (intBits_le h2) (by decide))
  | div =>
    refine oiK e fun hc e => ?_
    obtain ⟨h1, h2⟩ := bAnd hc
    rw [← Option.some.inj e] at h
    exact PyProof.Rows.floordiv_int (of_decide_eq_true h1) h (Or.inl (PyProof.noPylong_of_log2 (log_mid (of_decide_eq_true h2))))
  | mod =>
    refine oiK e fun hc e => ?_
    rw [← Option.some.inj e] at h
    exact PyProof.Rows.mod_int (of_decide_eq_true hc) h
  | pow =>
    refine oiK e fun hc e => ?_
    rw [← Option.some.inj e] at h
    simp only [Bool.and_eq_true, decide_eq_true_eq] at hc
    obtain ⟨⟨h1, h2⟩, h3⟩ := hc
    refine PyProof.Rows.pow_int h2 ?_ h
    have := intBits_le h1
    have h5 : (Builtin.Int.intBits a : Int) * b ≤ 20 * 64 := Int.mul_le_mul (by (first | lia | omega)) h3 h2 (by (first | lia | omega))
    (first | lia | omega)

theorem add_bytes_ok {a b : List UInt8} {v₁ v₂ : Value} (hc : lenOk (a.length + b.length) = true) (r₁ : VR fa μ s.heap v₁ (.bytes a)) (r₂ : VR fa μ s.heap v₂ (.bytes b)) (hl : LH fa μ H s.heap) (k : Ok fa μ s (.bytes (a ++ b)) H Q) :
    wpAny (model prog w) A (binaryOp .Add v₁ v₂) Q E s := by
  refine r₁.bytesK fun t => ?_
  refine r₂.bytesK fun u => ?_
  have := lenOk_le hc
  refine PySem.W.KBy.add_bytes (by simp; (first | lia | omega)) fun t' k' => k.pure ?_ hl k'
  have := VR.bytes (fa := fa) (μ := μ) (h := s.heap) (a.toArray ++ b.toArray) t'
  simpa using this
theorem add_list_ok {i j : Nat} {xs ys : List V} {v₁ v₂ : Value} (hx : H[i]? = some xs) (hy : H[j]? = some ys) (hc : lenOk (xs.length + ys.length) = true) (r₁ : VR fa μ s.heap v₁ (.list i)) (r₂ : VR fa μ s.heap v₂ (.list j)) (hl : LH fa μ H s.heap)
    (k : Ok fa μ s (.list H.length) (H ++ [xs ++ ys]) Q) : wpAny (model prog w) A (binaryOp .Add v₁ v₂) Q E s := by
  have := lenOk_le hc
  refine hl.getK r₁ hx fun a vs n _ ha hvs => ?_
  refine hl.getK r₂ hy fun b ws m _ hb hws => ?_
  have e1 := hvs.length
  have e2 := hws.length
  refine concat_meets ⟨_, ha, rfl⟩ ⟨_, hb, rfl⟩ noFill_list_add seq_list_add PySem.F.slot_list_add PySem.F.entry_list_add (PySem.F.args_list_add_2 _ _)
    (AutoSeq1.list___add___list_list_0 a vs.toArray n b ws.toArray m (by simp only [List.size_toArray, sizeLine_eq]; (first | lia | omega))) ⟨ha, hb, ?_⟩
  refine k.new (vs := vs ++ ws) (n := 0) hl (push_keeps _ _) (get_size _) ?_ (hvs.append hws) s.toks
  rw [Heap.get?_push_size _ rfl]
  simp [Lobj]
theorem vrs_rep {h : Heap} {vs : List Value} {xs : List V} (hvs : VRs fa μ h vs xs) : ∀ n, VRs fa μ h (List.replicate n vs).flatten (List.replicate n xs).flatten
  | 0 => .nil
  | n + 1 => by rw [List.replicate_succ, List.replicate_succ, List.flatten_cons, List.flatten_cons]; exact hvs.append (vrs_rep hvs n)
theorem mul_list_ok {i : Nat} {x : Int} {xs : List V} {v₁ v₂ : Value} (hx : H[i]? = some xs) (h1 : 0 ≤ x) (h2 : x ≤ 1000) (h3 : xs.length ≤ 1000) (r₁ : VR fa μ s.heap v₁ (.list i)) (r₂ : VR fa μ s.heap v₂ (.int x)) (hl : LH fa μ H s.heap)
    (k : Ok fa μ s (.list H.length) (H ++ [(List.replicate x.toNat xs).flatten]) Q) : wpAny (model prog w) A (binaryOp .Mult v₁ v₂) Q E s := by
  refine hl.getK r₁ hx fun a vs n _ ha hvs => ?_
  refine r₂.intK fun u => ?_
  have e1 := hvs.length
  have hsz : vs.toArray.size * x.toNat ≤ 2 ^ 24 := by
    have h4 : x.toNat ≤ 1000 := by (first | lia | omega)
    have h5 : vs.toArray.size ≤ 1000 := by rw [List.size_toArray]; (first | lia | omega)
    exact Nat.le_trans (Nat.mul_le_mul h5 h4) (by decide)
  refine wpAny_binaryOp_repeat_ref (T := "list") (U := "int") (by decide) ⟨_, ha, rfl⟩ (fun s' => typeIs_int s' x u) noFill_list_mul F.fills_int_mul F.slot_int_rmul repeat_list F.slot_int_index.lookup
    (call_meets F.slot_int_rmul (typeIs_int s x u) F.entry_int_rmul (F.args_int_rmul_2 _ _) (int___rmul___int_list x u a vs.toArray n)
      ⟨ha, rfl, ⟨_, ha, rfl⟩, call_meets F.slot_list_mul ⟨_, ha, rfl⟩ F.entry_list_mul (F.args_list_mul_2 _ _)
        (AutoListH.list___mul___list_int_3 a vs.toArray n x u (by simp [Builtin.List.listFitsIndex]; (first | lia | omega)) (by (first | lia | omega)) (by simp [Builtin.List.listTooLong, sizeLine]; simp at hsz; (first | lia | omega)))
        ⟨ha, ?_⟩⟩)
  refine k.new (vs := (List.replicate x.toNat vs).flatten) (n := 0) hl (push_keeps _ _) (get_size _) ?_ (vrs_rep hvs _) s.toks
  rw [Heap.get?_push_size _ rfl, listMul_foldl_if]
theorem add_ok {x y r : V} {v₁ v₂ : Value} (e : addS x y H = some (r, H')) (r₁ : VR fa μ s.heap v₁ x) (r₂ : VR fa μ s.heap v₂ y) (hl : LH fa μ H s.heap) (k : Ok fa μ s r H' Q) : wpAny (model prog w) A (binaryOp .Add v₁ v₂) Q E s := by
  refine oeK e (fun _ e => ?_) fun a h1 e => ?_
  · refine obK e fun i h1 e => ?_
    refine obK e fun j h2 e => ?_
    refine obK e fun xs hx e => ?_
    refine obK e fun ys hy e => ?_
    refine oiK e fun hc e => ?_
    exact add_list_ok hx hy hc (vr_list h1 r₁) (vr_list h2 r₂) hl (k.of e)
  · refine obK e fun b h2 e => ?_
    refine oiK e fun hc e => ?_
    exact add_bytes_ok hc (vr_bytes h1 r₁) (vr_bytes h2 r₂) hl (k.of e)
theorem mul_ok {x y r : V} {v₁ v₂ : Value} (e : mulS x y H = some (r, H')) (r₁ : VR fa μ s.heap v₁ x) (r₂ : VR fa μ s.heap v₂ y) (hl : LH fa μ H s.heap) (k : Ok fa μ s r H' Q) : wpAny (model prog w) A (binaryOp .Mult v₁ v₂) Q E s := by
  refine obK e fun i h1 e => ?_
  refine obK e fun x h2 e => ?_
  refine obK e fun xs hx e => ?_
  refine oiK e fun hc e => ?_
  have h := bAnd hc
  have g := bAnd h.1
  exact mul_list_ok hx (of_decide_eq_true g.1) (of_decide_eq_true g.2) (of_decide_eq_true h.2) (vr_list h1 r₁) (vr_int h2 r₂) hl (k.of e)
theorem bin_ok {op : Op} {x y r : V} {v₁ v₂ : Value} (e : bin op x y H = some (r, H')) (r₁ : VR fa μ s.heap v₁ x) (r₂ : VR fa μ s.heap v₂ y) (hl : LH fa μ H s.heap) (k : Ok fa μ s r H' Q) :
    wpAny (model prog w) A (binaryOp op.py v₁ v₂) Q E s := by
  refine oeK e (fun _ e => ?_) fun a h1 e => ?_
  · cases op with
    | add => exact add_ok e r₁ r₂ hl k
    | mul => exact mul_ok e r₁ r₂ hl k
    | _ => exact no e
  · refine obK e fun b h2 e => ?_
    refine omK e fun c hc e => ?_
    refine (vr_int h1 r₁).intK fun t => ?_
    refine (vr_int h2 r₂).intK fun u => ?_
    exact bin_int hc ((k.of' e).pure (.int _ _) hl _)

theorem neg_ok {i : Int} {v : Value} (r : VR fa μ s.heap v (.int i)) (hl : LH fa μ H s.heap) (k : Ok fa μ s (.int (-i)) H Q) : wpAny (model prog w) A (unaryOp .USub v) Q E s := by
  obtain ⟨t, rfl⟩ := r.int_inv
  exact P.neg_int (k.pure (.int _ _) hl _)

theorem tr_ok {x : V} {b : Bool} {v : Value} {Q : Bool → Shared → Prop} (e : tr x = some b) (r : VR fa μ s.heap v x) (k : Q b s) : wpAny (model prog w) A (truthy v) Q E s := by
  cases x with
  | none => rw [r.none_inv]; exact truthy_none (Option.some.inj e ▸ k)
  | bool => rw [r.bool_inv]; exact wpAny_truthy_bool (Option.some.inj e ▸ k)
  | int =>
    obtain ⟨t, rfl⟩ := r.int_inv
    exact P.truthy_int (Option.some.inj e ▸ k)
  | _ => exact no e

/-! equality -/
open SeqAt in
theorem eqAt_bytes (a b : List UInt8) (t u : Tok) : EqAt A s (.bytes a.toArray t) (.bytes b.toArray u) (a == b) := fun prog w E Q h => by
  have e0 : (a == b) = (a.toArray.toList == b.toArray.toList) := by simp
  rw [e0] at h
  unfold eqBool
  refine wpAny_holding ?_
  refine wpAny_ite_split (fun hab => ?_) (fun hab => ?_)
  · have e : a.toArray = b.toArray := by have := eq_of_beq hab; injection this
    rw [e] at h
    exact wpAny_bind (wpAny_rule (wpAny_pure (by simpa using h)))
  · exact wpAny_bind (richCompare_gives (typeIs_bytes s a.toArray t) (typeIs_bytes s b.toArray u) FB.slot_bytes_eq FB.entry_bytes_eq (FB.args_bytes_eq_2 _ _) (gives_bytes_eq a.toArray b.toArray t u) (by simp [Made.takes]) (wpAny_truthy_bool h))
open SeqAt in
theorem eq0_at {x y : V} {v₁ v₂ : Value} {b : Bool} (e : eq0 x y = some b) (r₁ : VR fa μ s.heap v₁ x) (r₂ : VR fa μ s.heap v₂ y) : EqAt A s v₁ v₂ b := by
  refine oeK e (fun _ e => ?_) fun a h1 e => ?_
  · refine obK e fun a h1 e => ?_
    obtain ⟨c, h2, rfl⟩ := om e
    refine (vr_bytes h1 r₁).bytesK fun t => ?_
    refine (vr_bytes h2 r₂).bytesK fun u => ?_
    exact eqAt_bytes _ _ _ _
  · obtain ⟨c, h2, rfl⟩ := om e
    refine (vr_int h1 r₁).intK fun t => ?_
    refine (vr_int h2 r₂).intK fun u => ?_
    exact EqAt.int_int _ _ _ _
theorem eq0_same {x y : V} {v : Value} {b : Bool} (e : eq0 x y = some b) (r₁ : VR fa μ s.heap v x) (r₂ : VR fa μ s.heap v y) : b = true := by
  refine oeK e (fun _ e => ?_) fun a h1 e => ?_
  · refine obK e fun a h1 e => omK e fun c h2 e => ?_
    obtain ⟨t, h⟩ := (vr_bytes h1 r₁).bytes_inv
    obtain ⟨u, h'⟩ := (vr_bytes h2 r₂).bytes_inv
    injection h.symm.trans h' with e1
    rw [← e, List.toArray_inj e1]
    exact beq_self_eq_true _
  · refine omK e fun c h2 e => ?_
    obtain ⟨t, h⟩ := (vr_int h1 r₁).int_inv
    obtain ⟨u, h'⟩ := (vr_int h2 r₂).int_inv
    injection h.symm.trans h' with e1
    rw [← e, e1]
    exact beq_self_eq_true _
theorem eqs_nil {f : V → V → Option Bool} {ys : List V} {b : Bool} (h : eqs f [] ys = some b) : ys = [] ∧ b = true := let ⟨h1, h2⟩ := oi h; ⟨List.isEmpty_iff.mp h1, (Option.some.inj h2).symm⟩
theorem eqs_cons {f : V → V → Option Bool} {x : V} {xs ys : List V} {b : Bool} (h : eqs f (x :: xs) ys = some b) : ∃ y zs c d, ys = y :: zs ∧ f x y = some c ∧ eqs f xs zs = some d ∧ b = (c && d) := by
  cases ys with
  | nil => exact no h
  | cons y ys =>
    obtain ⟨c, h1, h⟩ := ob h
    obtain ⟨d, h2, h⟩ := om h
    exact ⟨y, ys, c, d, rfl, h1, h2, h.symm⟩
theorem eqs_all {f : V → V → Option Bool} : ∀ (xs : List V) {ys : List V} {b : Bool}, eqs f xs ys = some b →
    xs.length = ys.length ∧ ∃ e : Nat → Bool, (∀ j x y, xs[j]? = some x → ys[j]? = some y → f x y = some (e j)) ∧ b = (List.range xs.length).all e := by
  intro xs
  induction xs with
  | nil =>
    intro ys b h
    obtain ⟨rfl, rfl⟩ := eqs_nil h
    exact ⟨rfl, fun _ => true, fun j x y h => no h, rfl⟩
  | cons x xs ih =>
    intro ys b h
    obtain ⟨y, ys, c, d, rfl, h1, h2, rfl⟩ := eqs_cons h
    obtain ⟨hl, e, he, hd⟩ := ih h2
    refine ⟨congrArg (· + 1) hl, Nat.rec c fun j _ => e j, fun j p q hp hq => ?_, ?_⟩
    · cases j with
      | zero => rw [← Option.some.inj hp, ← Option.some.inj hq]; exact h1
      | succ j => exact he j p q hp hq
    · rw [hd, List.length_cons, List.range_succ_eq_map, List.all_cons, List.all_map]
      rfl
theorem eqs_len {f : V → V → Option Bool} {xs ys : List V} {b : Bool} (h : eqs f xs ys = some b) : xs.length = ys.length := (eqs_all xs h).1
theorem eqs_same {xs ys : List V} {vs : List Value} {b : Bool} (h : eqs eq0 xs ys = some b) (s₁ : VRs fa μ s.heap vs xs) (s₂ : VRs fa μ s.heap vs ys) : b = true := by
  obtain ⟨hl, e, he, rfl⟩ := eqs_all xs h
  refine List.all_eq_true.mpr fun j hj => ?_
  have hj := List.mem_range.mp hj
  have k1 := List.getElem?_eq_getElem hj
  have k2 := List.getElem?_eq_getElem (hl ▸ hj)
  obtain ⟨u, g1, g2⟩ := s₁.get k1
  obtain ⟨u', g3, g4⟩ := s₂.get k2
  rw [g1] at g3
  rw [← Option.some.inj g3] at g4
  exact eq0_same (he j _ _ k1 k2) g2 g4
/-- one place of two lists -/
theorem eq_place {P : Value → Value → Bool → Prop} {g : V → V → Option Bool} {xs ys : List V} {vs ws : List Value} {f : Nat → Bool} (hf : ∀ j x y, xs[j]? = some x → ys[j]? = some y → g x y = some (f j)) (s₁ : VRs fa μ s.heap vs xs) (s₂ : VRs fa μ s.heap ws ys)
    (hP : ∀ {x y v w b}, g x y = some b → VR fa μ s.heap v x → VR fa μ s.heap w y → P v w b) : ∀ j (h1 : j < vs.toArray.size) (h2 : j < ws.toArray.size), P vs.toArray[j] ws.toArray[j] (f j) := fun j j1 j2 => by
  have j1' : j < vs.length := by simpa using j1
  have j2' : j < ws.length := by simpa using j2
  have k1 := List.getElem?_eq_getElem (s₁.length ▸ j1' : j < xs.length)
  have k2 := List.getElem?_eq_getElem (s₂.length ▸ j2' : j < ys.length)
  obtain ⟨u₁, g1, g2⟩ := s₁.get k1
  obtain ⟨u₂, g3, g4⟩ := s₂.get k2
  rw [List.getElem?_eq_getElem j1'] at g1
  rw [List.getElem?_eq_getElem j2'] at g3
  rw [← Option.some.inj g1] at g2
  rw [← Option.some.inj g3] at g4
  exact hP (hf j _ _ k1 k2) g2 g4
theorem tobj_inj {vs ws : List Value} {n m : Nat} (h : Tobj vs n = Tobj ws m) : vs = ws := by
  have := congrArg Obj.data h
  simp only [Data.seq.injEq] at this
  exact List.toArray_inj this.1
open SeqAt in
theorem eq1_at {x y : V} {v₁ v₂ : Value} {b : Bool} (e : eq1 x y = some b) (r₁ : VR fa μ s.heap v₁ x) (r₂ : VR fa μ s.heap v₂ y) (hu : A.units < cLine) : EqAt A s v₁ v₂ b := by
  refine oeK e (fun _ e => ?_) fun p hp e => ?_
  · exact eq0_at e r₁ r₂
  · refine obK e fun q hq e => ?_
    obtain ⟨a₁, vs₁, n₁, rfl, h₁, s₁⟩ := (asTup_inv hp ▸ r₁ : VR fa μ s.heap v₁ (.tup p)).tup_inv
    obtain ⟨a₂, vs₂, n₂, rfl, h₂, s₂⟩ := (asTup_inv hq ▸ r₂ : VR fa μ s.heap v₂ (.tup q)).tup_inv
    by_cases hab : a₁ = a₂
    · rw [hab] at h₁ ⊢
      rw [h₁] at h₂
      rw [tobj_inj (Option.some.inj h₂)] at s₁
      rw [eqs_same e s₁ s₂]
      exact EqAt.same _
    · obtain ⟨l3, f, hf, hb⟩ := eqs_all p e
      have l1 := s₁.length
      have l2 := s₂.length
      have e1 : vs₁.toArray.size = vs₂.toArray.size := by rw [List.size_toArray, List.size_toArray, l1, l2, l3]
      have hb' : b = ((List.range (min vs₁.toArray.size vs₂.toArray.size)).all f && vs₁.toArray.size == vs₂.toArray.size) := by
        rw [hb, e1, Nat.min_self, beq_self_eq_true, Bool.and_true, List.size_toArray, l2, l3]
      rw [hb']
      exact EqAt.of_refs hab (RcAt.tuples ⟨_, h₁, rfl, _, rfl⟩ ⟨_, h₂, rfl, _, rfl⟩ hu (eq_place hf s₁ s₂ eq0_at))

open SeqAt in
theorem eqL_at {xs ys : List V} {b : Bool} {vs ws : List Value} (e : eqs eq1 xs ys = some b) (s₁ : VRs fa μ s.heap vs xs) (s₂ : VRs fa μ s.heap ws ys) (hu : A.units < cLine) :
    ∃ f : Nat → Bool, vs.toArray.size = ws.toArray.size ∧ b = (List.range vs.toArray.size).all f ∧ ∀ j (h1 : j < vs.toArray.size) (h2 : j < ws.toArray.size), EqAt A s vs.toArray[j] ws.toArray[j] (f j) := by
  obtain ⟨l3, f, hf, hb⟩ := eqs_all xs e
  have l1 := s₁.length
  have l2 := s₂.length
  exact ⟨f, by rw [List.size_toArray, List.size_toArray, l1, l2, l3], by rw [hb, List.size_toArray, l1], eq_place hf s₁ s₂ fun h1 h2 h3 => eq1_at h1 h2 h3 hu⟩

/-- two lists, compared -/
theorem eqL_ok {i j : Nat} {b : Bool} {v₁ v₂ : Value} {R : Value → Value → Prop} (e : eqL H i j = some b) (r₁ : VR fa μ s.heap v₁ (.list i)) (r₂ : VR fa μ s.heap v₂ (.list j)) (hl : LH fa μ H s.heap) (hu : A.units + 10 < cLine)
    (h1 : ∀ {a c : Addr} {xs ys : Array Value} {f : Nat → Bool}, s.heap.IsList a xs → s.heap.IsList c ys → xs.size = ys.size → b = (List.range xs.size).all f → (∀ j (h1 : j < xs.size) (h2 : j < ys.size), SeqAt.EqAt A.in1 s xs[j] ys[j] (f j)) → R (.ref a) (.ref c))
    (h2 : ∀ {a c : Addr} {xs ys : Array Value}, s.heap.IsList a xs → s.heap.IsList c ys → (xs.size != ys.size) = true → b = false → R (.ref a) (.ref c)) : R v₁ v₂ := by
  refine obK e fun xs hx e => ?_
  refine obK e fun ys hy e => ?_
  refine hl.getK r₁ hx fun a vs n _ ha hvs => ?_
  refine hl.getK r₂ hy fun c ws m _ hb hws => ?_
  have l1 := hvs.length
  have l2 := hws.length
  by_cases hc : xs.length = ys.length
  · rw [if_pos hc] at e
    by_cases hij : i = j
    · rw [if_pos hij] at e; exact no e
    · rw [if_neg hij] at e
      obtain ⟨f, g1, g2, g3⟩ := eqL_at (A := A.in1) e hvs hws (by rw [Around.in1_units]; (first | lia | omega))
      exact h1 (isList_of ha) (isList_of hb) g1 g2 g3
  · rw [if_neg hc] at e
    exact h2 (isList_of ha) (isList_of hb) (bne_iff_ne.mpr (by rw [List.size_toArray, List.size_toArray, l1, l2]; exact hc)) (Option.some.inj e).symm

theorem eqV_ok {x y : V} {b : Bool} {v₁ v₂ : Value} (e : eqV H x y = some b) (r₁ : VR fa μ s.heap v₁ x) (r₂ : VR fa μ s.heap v₂ y) (hl : LH fa μ H s.heap) (hu : A.units + 10 < cLine) (k : Q (.bool b) s) : wpAny (model prog w) A (compareOp .Eq v₁ v₂) Q E s := by
  refine oeK e (fun _ e => ?_) fun i hi e => ?_
  · refine oeK e (fun _ e => ?_) fun a h1 e => ?_
    · refine obK e fun a h1 e => ?_
      obtain ⟨c, h2, rfl⟩ := om e
      refine (vr_bytes h1 r₁).bytesK fun t => ?_
      refine (vr_bytes h2 r₂).bytesK fun u => ?_
      exact PySem.W.eq_bytes (by simpa using k)
    · obtain ⟨c, h2, rfl⟩ := om e
      refine (vr_int h1 r₁).intK fun t => ?_
      refine (vr_int h2 r₂).intK fun u => ?_
      exact PyProof.Rows.eq_int k
  · refine obK e fun j hj e => ?_
    exact eqL_ok (R := fun v₁ v₂ => wpAny (model prog w) A (compareOp .Eq v₁ v₂) Q E s) e (vr_list hi r₁) (vr_list hj r₂) hl hu (fun g1 g2 g3 g4 g5 => SeqAt.eq_listAt g1 g2 g3 (Nat.lt_of_le_of_lt (Nat.le_add_right _ 10) hu) g5 (g4 ▸ k))
      fun g1 g2 g3 g4 => SeqAt.eq_list_lengthsAt g1 g2 g3 (Nat.lt_of_le_of_lt (Nat.le_add_right _ 10) hu) (g4 ▸ k)
theorem neV_ok {x y : V} {b : Bool} {v₁ v₂ : Value} (e : eqV H x y = some b) (r₁ : VR fa μ s.heap v₁ x) (r₂ : VR fa μ s.heap v₂ y) (hl : LH fa μ H s.heap) (hu : A.units + 10 < cLine) (k : Q (.bool (!b)) s) : wpAny (model prog w) A (compareOp .NotEq v₁ v₂) Q E s := by
  refine oeK e (fun _ e => ?_) fun i hi e => ?_
  · refine oeK e (fun _ e => ?_) fun a h1 e => ?_
    · refine obK e fun a h1 e => ?_
      obtain ⟨c, h2, rfl⟩ := om e
      refine (vr_bytes h1 r₁).bytesK fun t => ?_
      refine (vr_bytes h2 r₂).bytesK fun u => ?_
      exact PySem.W.ne_bytes (by simpa [bne] using k)
    · obtain ⟨c, h2, rfl⟩ := om e
      refine (vr_int h1 r₁).intK fun t => ?_
      refine (vr_int h2 r₂).intK fun u => ?_
      exact PyProof.Rows.ne_int k
  · refine obK e fun j hj e => ?_
    exact eqL_ok (R := fun v₁ v₂ => wpAny (model prog w) A (compareOp .NotEq v₁ v₂) Q E s) e (vr_list hi r₁) (vr_list hj r₂) hl hu (fun g1 g2 g3 g4 g5 => SeqAt.RcNeAt.lists g1 g2 g3 (Nat.lt_of_le_of_lt (Nat.le_add_right _ 10) hu) g5 prog w E Q (g4 ▸ k))
      fun g1 g2 g3 g4 => SeqAt.RcNeAt.lists_lengths g1 g2 g3 (Nat.lt_of_le_of_lt (Nat.le_add_right _ 10) hu) prog w E Q (by rw [g4] at k; exact k)
end



section
variable {prog : Program} {w : World} {A : Around} {E : Value → Shared → Prop} {s : Shared} {fa : Nat → Option Addr} {μ : List Addr} {H H' : HP} {Q : Value → Shared → Prop}

noncomputable def Cm.py : Cm → CmpOp
  | .lt => .Lt | .le => .LtE | .gt => .Gt | .ge => .GtE | .eq => .Eq | .ne => .NotEq | .is => .Is | .isn => .IsNot | .isin => .In | .nin => .NotIn

theorem vr_isN {h : Heap} {v : Value} {x : V} {b : Bool} (e : isN x = some b) (r : VR fa μ h v x) : plainIs v .none = true ∧ (v == .none) = b := by
  cases x with
  | none => rw [r.none_inv, ← Option.some.inj e]; exact ⟨rfl, rfl⟩
  | bool => rw [r.bool_inv, ← Option.some.inj e]; exact ⟨rfl, rfl⟩
  | int => rw [← Option.some.inj e]; exact r.intK fun t => ⟨rfl, rfl⟩
  | fn => rw [← Option.some.inj e]; exact r.fnK fun a _ => ⟨rfl, rfl⟩
  | list => rw [← Option.some.inj e]; exact r.listK fun a _ => ⟨rfl, rfl⟩
  | _ => exact no e
theorem is_pair {x y : V} {b : Bool} {v₁ v₂ : Value} (e : isV' x y = some b) (r₁ : VR fa μ s.heap v₁ x) (r₂ : VR fa μ s.heap v₂ y) : plainIs v₁ v₂ = true ∧ (v₁ == v₂) = b := by
  refine oeK e (fun _ e => oiK e fun h1 e => ?_) fun b h1 e => oeK e (fun _ e => oiK e fun h2 e => ?_) fun a h2 e => ?_
  · rw [(vr_none h1 r₂).none_inv]; exact vr_isN e r₁
  · rw [(vr_none h2 r₁).none_inv, (vr_bool h1 r₂).bool_inv, ← Option.some.inj e]; exact ⟨rfl, rfl⟩
  · rw [(vr_bool h2 r₁).bool_inv, (vr_bool h1 r₂).bool_inv, ← Option.some.inj e]
    exact ⟨rfl, by cases a <;> cases b <;> rfl⟩

noncomputable def isI (a : Int) : Value → Bool
  | .int i _ => i == a
  | _ => false
theorem intsOf_cons {x : V} {xs : List V} {is : List Int} (e : intsOf (x :: xs) = some is) : ∃ i js, x = .int i ∧ intsOf xs = some js ∧ is = i :: js :=
  obK e fun i h1 e => omK e fun js h2 e => ⟨i, js, intOf_inv h1, h2, e.symm⟩
theorem intsAre_of : ∀ {vs : List Value} (xs : List V) {is : List Int}, VRs fa μ s.heap vs xs → intsOf xs = some is → IntsAre vs is := by
  intro vs xs
  induction xs generalizing vs with
  | nil => intro is r e; cases r; rw [← Option.some.inj e]; exact .nil
  | cons x xs ih =>
    intro is r e
    obtain ⟨i, js, rfl, h2, rfl⟩ := intsOf_cons e
    cases r with
    | cons r rs => exact r.intK fun u => .cons _ _ (ih rs h2)
theorem isI_ok {a : Int} {t : Tok} {vs : List Value} {is : List Int} (h : IntsAre vs is) : (∀ y ∈ vs, MeetsSeq.EqGives y (.int a t) (isI a y)) ∧ vs.any (isI a) = is.contains a := by
  induction h with
  | nil => exact ⟨fun _ h => (List.not_mem_nil h).elim, rfl⟩
  | cons n u _ ih =>
    refine ⟨fun y hy => ?_, ?_⟩
    · rcases List.mem_cons.mp hy with hy | hy
      · rw [hy]; exact MeetsSeq.EqGives.int _ _ _ _
      · exact ih.1 y hy
    · rw [List.any_cons, ih.2, List.contains_cons]
      exact congrArg (· || _) BEq.comm

theorem cmpI_ok {f : Int → Int → Bool} {x y : V} {b : Bool} {v₁ v₂ : Value} {P : Value → Value → Bool → Prop} (e : cmpI f x y = some b) (r₁ : VR fa μ s.heap v₁ x) (r₂ : VR fa μ s.heap v₂ y) (k : ∀ i j t u, P (.int i t) (.int j u) (f i j)) : P v₁ v₂ b := by
  refine obK e fun i h1 e => omK e fun j h2 e => ?_
  rw [← e]
  exact (vr_int h1 r₁).intK fun t => (vr_int h2 r₂).intK fun u => k i j t u
theorem in_ok {x y : V} {b : Bool} {v₁ v₂ : Value} {P : Value → Value → Bool → Prop} (e : inV H x y = some b) (r₁ : VR fa μ s.heap v₁ x) (r₂ : VR fa μ s.heap v₂ y) (hl : LH fa μ H s.heap)
    (k : ∀ a t c ws m, (∀ y ∈ ws, MeetsSeq.EqGives y (.int a t) (isI a y)) → s.heap.get? c = some (Lobj ws m) → P (.int a t) (.ref c) (ws.any (isI a))) : P v₁ v₂ b := by
  refine obK e fun a h1 e => obK e fun j h2 e => obK e fun ys hy e => omK e fun is hi e => ?_
  refine (vr_int h1 r₁).intK fun t => hl.getK (vr_list h2 r₂) hy fun c ws m _ hb hws => ?_
  have g := isI_ok (a := a) (t := t) (intsAre_of (s := s) ys hws hi)
  rw [← e, ← g.2]
  exact k a t c ws m g.1 hb

theorem cmp_ok {op : Cm} {x y : V} {b : Bool} {v₁ v₂ : Value} (e : cmpV op x y H = some b) (r₁ : VR fa μ s.heap v₁ x) (r₂ : VR fa μ s.heap v₂ y) (hl : LH fa μ H s.heap) (hu : A.units + 10 < cLine) (k : Q (.bool b) s) :
    wpAny (model prog w) A (compareOp op.py v₁ v₂) Q E s := by
  cases op with
  | lt => exact cmpI_ok (P := fun v₁ v₂ b => Q (.bool b) s → wpAny (model prog w) A (compareOp .Lt v₁ v₂) Q E s) e r₁ r₂ (fun _ _ _ _ => PyProof.Rows.lt_int) k
  | le => exact cmpI_ok (P := fun v₁ v₂ b => Q (.bool b) s → wpAny (model prog w) A (compareOp .LtE v₁ v₂) Q E s) e r₁ r₂ (fun _ _ _ _ => P.le_int) k
  | gt => exact cmpI_ok (P := fun v₁ v₂ b => Q (.bool b) s → wpAny (model prog w) A (compareOp .Gt v₁ v₂) Q E s) e r₁ r₂ (fun _ _ _ _ => PyProof.Rows.gt_int) k
  | ge => exact cmpI_ok (P := fun v₁ v₂ b => Q (.bool b) s → wpAny (model prog w) A (compareOp .GtE v₁ v₂) Q E s) e r₁ r₂ (fun _ _ _ _ => P.ge_int) k
  | eq => exact eqV_ok e r₁ r₂ hl hu k
  | ne => exact omK e fun c h e => neV_ok h r₁ r₂ hl hu (e ▸ k)
  | is => exact wpAny_is_plain (is_pair e r₁ r₂).1 ((is_pair e r₁ r₂).2 ▸ k)
  | isn => exact omK e fun c h e => wpAny_isNot_plain (is_pair h r₁ r₂).1 (by rw [(is_pair h r₁ r₂).2, e]; exact k)
  | isin => exact in_ok (P := fun v₁ v₂ b => Q (.bool b) s → wpAny (model prog w) A (compareOp .In v₁ v₂) Q E s) e r₁ r₂ hl (fun a t c ws m g1 hb k => SeqRoads2.in_list (isI a) (fun y hy => g1 y (by simpa using hy)) hb (by simpa using k)) k
  | nin => exact omK e fun c h e => in_ok (P := fun v₁ v₂ b => Q (.bool (!b)) s → wpAny (model prog w) A (compareOp .NotIn v₁ v₂) Q E s) h r₁ r₂ hl (fun a t c ws m g1 hb k => SeqRoads2.notIn_list (isI a) (fun y hy => g1 y (by simpa using hy)) hb (by simpa using k)) (e ▸ k)

/-! items -/
theorem isTup_of {h : Heap} {a : Addr} {vs : List Value} {n : Nat} (e : h.get? a = some (Tobj vs n)) : IsTup h a vs.toArray := ⟨_, e, rfl, n, rfl⟩
theorem lt_of_get {α : Type} {l : List α} {i : Nat} {x : α} (e : l[i]? = some x) : i < l.length := by
  rcases Nat.lt_or_ge i l.length with h | h
  · exact h
  · exact no ((List.getElem?_eq_none h).symm.trans e)
theorem getL_ok {i : Nat} {k : Int} {xs : List V} {r : V} {v₁ v₂ : Value} (hx : H[i]? = some xs) (e : getL xs k = some r) (r₁ : VR fa μ s.heap v₁ (.list i)) (r₂ : VR fa μ s.heap v₂ (.int k)) (hl : LH fa μ H s.heap) (q : ∀ v tk, VR fa μ s.heap v r → Q v { s with toks := tk }) :
    wpAny (model prog w) A (getItem v₁ v₂) Q E s := by
  refine hl.getK r₁ hx fun a vs n _ ha hvs => r₂.intK fun t => ?_
  have l1 := hvs.length
  unfold getL at e
  by_cases h0 : 0 ≤ k
  · rw [if_pos h0] at e
    refine oiK e fun h1 e => ?_
    obtain ⟨v, g1, g2⟩ := hvs.get e
    exact wpAny_getItem_list (isList_of ha) h0 (by (first | lia | omega)) (by rw [List.getElem?_toArray]; exact g1) (q v s.toks g2)
  · rw [if_neg h0] at e
    refine oiK e fun h1 e => ?_
    obtain ⟨v, g1, g2⟩ := hvs.get e
    exact wpAny_getItem_list_neg (isList_of ha) (by (first | lia | omega)) (by rw [List.size_toArray]; (first | lia | omega)) (by (first | lia | omega)) (by rw [List.getElem?_toArray, List.size_toArray, l1]; exact g1) (q v s.toks g2)
theorem getI_ok {x y r : V} {v₁ v₂ : Value} (e : getI x y H = some r) (r₁ : VR fa μ s.heap v₁ x) (r₂ : VR fa μ s.heap v₂ y) (hl : LH fa μ H s.heap) (k : ∀ v tk, VR fa μ s.heap v r → Q v { s with toks := tk }) :
    wpAny (model prog w) A (getItem v₁ v₂) Q E s := by
  refine obK e fun j h1 e => ?_
  have r₂ := vr_int h1 r₂
  cases x with
  | list i => exact obK e fun xs hx e => getL_ok hx e r₁ r₂ hl k
  | tup xs =>
    refine oiK e fun hc e => r₁.tupK fun a vs n ha hvs => r₂.intK fun t => ?_
    obtain ⟨v, g1, g2⟩ := hvs.get e
    refine getItem_tuple (j := j.toNat) (isTup_of ha) (by (first | lia | omega)) (by (first | lia | omega)) ?_ (by rw [List.getElem?_toArray]; exact g1) (k v s.toks g2)
    have hlt := lt_of_get g1
    unfold seqIndex?
    have : ¬ j < 0 := by (first | lia | omega)
    simp [this]
    (first | lia | omega)
  | bytes b =>
    refine oiK e fun hc e => r₁.bytesK fun t => r₂.intK fun u => ?_
    exact PySem.W.getItem_bytes (by (first | lia | omega)) hc.1 hc.2.1 (k _ _ (Option.some.inj e ▸ .int _ _))
  | _ => exact no e

/-! slices -/
theorem hi_part {x : V} {v : Value} {n m : Nat} (e : hiOf m x = some n) (r : VR fa μ s.heap v x) : ∃ p, IsPart v p ∧ ∀ q, (m ≤ q → p.elim q (clipAt q) = min (if p.isNone then q else n) q) ∧ (p = none → n = m) := by
  unfold hiOf at e
  split at e
  · rename_i h
    rw [(vr_none h r).none_inv]
    exact ⟨none, .none, fun q => ⟨fun _ => (Nat.min_self q).symm, fun _ => (Option.some.inj e).symm⟩⟩
  · refine obK e fun i h1 e => oiK e fun hi e => (vr_int h1 r).intK fun t => ⟨some i, .int i t, fun q => ⟨fun _ => ?_, fun h => no h.symm⟩⟩
    have := clipAt_nat q i.toNat
    rw [Int.toNat_of_nonneg hi] at this
    rw [← Option.some.inj e]
    exact this
theorem cut_eq {α : Type} (l : List α) (a b : Nat) : (l.drop (min a l.length)).take (min b l.length - min a l.length) = (l.drop a).take (b - a) := by
  by_cases h : a ≤ l.length
  · rw [Nat.min_eq_left h]
    by_cases h2 : b ≤ l.length
    · rw [Nat.min_eq_left h2]
    · rw [Nat.min_eq_right (show l.length ≤ b by (first | lia | omega)), List.take_of_length_le (by simp), List.take_of_length_le (by simp; (first | lia | omega))]
  · rw [Nat.min_eq_right (show l.length ≤ a by (first | lia | omega)), List.drop_of_length_le (Nat.le_refl _), List.drop_of_length_le (show l.length ≤ a by (first | lia | omega))]
    simp
theorem cut_inv {α : Type} {xs ys : List α} {lo hi : V} (e : cutG xs lo hi = some ys) : ∃ a b, hiOf 0 lo = some a ∧ hiOf xs.length hi = some b ∧ ys = (xs.drop a).take (b - a) :=
  obK e fun a h1 e => omK e fun b h2 e => ⟨a, b, h1, h2, e.symm⟩
theorem cut_parts {α : Type} {xs ys : List α} {lo hi : V} {vl vu : Value} (e : cutG xs lo hi = some ys) (rl : VR fa μ s.heap vl lo) (ru : VR fa μ s.heap vu hi) :
    ∃ p q, IsPart vl p ∧ IsPart vu q ∧ (xs.drop (p.elim 0 (clipAt xs.length))).take (q.elim xs.length (clipAt xs.length) - p.elim 0 (clipAt xs.length)) = ys := by
  obtain ⟨a, b, h1, h2, rfl⟩ := cut_inv e
  obtain ⟨p, hp, ep⟩ := hi_part h1 rl
  obtain ⟨q, hq, eq⟩ := hi_part h2 ru
  refine ⟨p, q, hp, hq, ?_⟩
  have e1 : p.elim 0 (clipAt xs.length) = min a xs.length := by
    cases p with
    | none => rw [(ep 0).2 rfl]; exact (Nat.zero_min _).symm
    | some i => exact (ep xs.length).1 (Nat.zero_le _)
  have e2 : q.elim xs.length (clipAt xs.length) = min b xs.length := by
    cases q with
    | none => rw [(eq 0).2 rfl]; exact (Nat.min_self _).symm
    | some i => exact (eq xs.length).1 (Nat.le_refl _)
  rw [e1, e2, cut_eq]
theorem cut_vrs {xs ys : List V} {vs : List Value} {lo hi : V} (e : cutG xs lo hi = some ys) (hv : VRs fa μ s.heap vs xs) : ∃ ws, cutG vs lo hi = some ws ∧ VRs fa μ s.heap ws ys := by
  obtain ⟨a, b, h1, h2, rfl⟩ := cut_inv e
  unfold cutG
  rw [hv.length, h1, h2]
  exact ⟨_, rfl, (hv.drop a).take _⟩
theorem none_part {v : Value} {x : V} (h : isNone x = true) (r : VR fa μ s.heap v x) : IsPart v none := by rw [(vr_none h r).none_inv]; exact .none

theorem sl_list_ok {i : Nat} {xs ys : List V} {lo hi st : V} {v₁ vl vu vs' : Value} {o : Addr} (hx : H[i]? = some xs) (hy : slG xs lo hi st = some ys) (hc : lenOk xs.length = true) (r₁ : VR fa μ s.heap v₁ (.list i)) (rl : VR fa μ s.heap vl lo) (ru : VR fa μ s.heap vu hi) (rs : VR fa μ s.heap vs' st)
    (hs : s.heap.IsSliceOf o vl vu vs') (hl : LH fa μ H s.heap) (k : Ok fa μ s (.list H.length) (H ++ [ys]) Q) : wpAny (model prog w) A (getItem v₁ (.ref o)) Q E s := by
  have hc := lenOk_le hc
  refine hl.getK r₁ hx fun a vs n _ ha hvs => ?_
  have l1 := hvs.length
  have fin : ∀ {p q t : Option Int} {ws : List Value}, VRs fa μ s.heap ws ys → IsPart vl p → IsPart vu q → IsPart vs' t → t ≠ some 0 → slicePick vs.toArray p q t = ws.toArray → wpAny (model prog w) A (getItem (.ref a) (.ref o)) Q E s := fun hws h1 h2 h3 h4 h5 =>
    wpAny_getItem_list_slice (isList_of ha) hs h1 h2 h3 h4 (h5 ▸ k.new (n := 0) hl (push_keeps _ _) (get_size _) (Heap.get?_push_size _ rfl) hws s.toks) (by rw [List.size_toArray, sizeLine_eq]; (first | lia | omega))
  unfold slG at hy
  split at hy
  · rename_i h
    obtain ⟨ws, hw, hws⟩ := cut_vrs hy hvs
    obtain ⟨p, q, hp, hq, e⟩ := cut_parts hw rl ru
    refine fin hws hp hq (none_part h rs) (fun e => no e) ?_
    rw [slicePick_plain, List.size_toArray, e]
  · refine obK hy fun j h1 e => oiK e fun h2 e => (vr_int h1 rs).intK (P := fun v => VR fa μ s.heap v st → s.heap.IsSliceOf o vl vu v → _) (fun t rs hs => ?_) rs hs
    rename_i e
    have hr := Option.some.inj e
    obtain ⟨h1, h2, h3⟩ := h2
    subst h1
    refine wpAny_getItem_list_slice (isList_of ha) hs (none_part h2 rl) (none_part h3 ru) (.int _ _) (by decide) ?_ (by rw [List.size_toArray, sizeLine_eq]; (first | lia | omega))
    rw [krv_pick]
    exact k.new (n := 0) hl (push_keeps _ _) (get_size _) (Heap.get?_push_size _ rfl) (hr ▸ hvs.reverse) s.toks
theorem sl_bytes_ok {b ys : List UInt8} {lo hi st : V} {v₁ vl vu vs' : Value} {o : Addr} (hst : isNone st = true) (hy : cutG b lo hi = some ys) (hc : lenOk b.length = true) (r₁ : VR fa μ s.heap v₁ (.bytes b)) (rl : VR fa μ s.heap vl lo) (ru : VR fa μ s.heap vu hi) (rs : VR fa μ s.heap vs' st)
    (hs : s.heap.IsSliceOf o vl vu vs') (hl : LH fa μ H s.heap) (k : Ok fa μ s (.bytes ys) H Q) : wpAny (model prog w) A (getItem v₁ (.ref o)) Q E s := by
  have hc := lenOk_le hc
  refine r₁.bytesK fun t => ?_
  obtain ⟨p, q, hp, hq, e⟩ := cut_parts hy rl ru
  rw [(vr_none hst rs).none_inv] at hs
  refine getItem_meets (typeIs_bytes _ _ _) (by decide) FB.slot_bytes_getitem FB.entry_bytes_getitem (FB.args_bytes_getitem_2 _ _) (KBc.meets_slice2 b.toArray t o hp hq)
    ⟨hs, Nat.le_trans (KBc.size_picked_le _ _ _) (by rw [List.size_toArray, sizeLine_eq]; (first | lia | omega)), fun t' k' => ?_⟩
  rw [KBc.picked_eq, List.size_toArray, e]
  have := VR.bytes (fa := fa) (μ := μ) (h := s.heap) ys.toArray t'
  exact k.pure (by simpa using this) hl k'
theorem sl_ok {x lo hi st r : V} {v₁ vl vu vs' : Value} {o : Addr} (e : slV x lo hi st H = some (r, H')) (r₁ : VR fa μ s.heap v₁ x) (rl : VR fa μ s.heap vl lo) (ru : VR fa μ s.heap vu hi) (rs : VR fa μ s.heap vs' st)
    (hs : s.heap.IsSliceOf o vl vu vs') (hl : LH fa μ H s.heap) (k : Ok fa μ s r H' Q) :
    wpAny (model prog w) A (getItem v₁ (.ref o)) Q E s :=
  oeK e (fun _ e => obK e fun i h1 e => obK e fun xs hx e => obK e fun ys hy e => oiK e fun hc e => sl_list_ok hx hy hc (vr_list h1 r₁) rl ru rs hs hl (k.of e))
    fun b h1 e => oiK e fun h2 e => obK e fun ys hy e => oiK e fun hc e => sl_bytes_ok h2 hy hc (vr_bytes h1 r₁) rl ru rs hs hl (k.of e)
end


section
variable {prog : Program} {w : World} {A : Around} {E : Value → Shared → Prop} {s : Shared} {fa : Nat → Option Addr} {μ : List Addr} {H H' : HP} {Q : Value → Shared → Prop}

noncomputable def Mt.name : Mt → Str
  | .append => "append" | .insert => "insert" | .pop => "pop" | .remove => "remove"
noncomputable def Mt.id : Mt → String
  | .append => "list.append" | .insert => "list.insert" | .pop => "list.pop" | .remove => "list.remove"

theorem mapSeq_at {h : Heap} {a : Addr} {vs ws : List Value} {n : Nat} {f : Array Value → Array Value} (e : h.get? a = some (Lobj vs n)) (hf : f vs.toArray = ws.toArray) :
    ∃ n', (h.update a (Obj.mapSeq f)).get? a = some (Lobj ws n') := by
  have e2 : Obj.mapSeq f (Lobj vs n) = Lobj ws (if ws.toArray.size == vs.toArray.size then n else n + 1) := by
    simp only [Obj.mapSeq, Lobj, hf]
  exact ⟨_, by rw [Heap.get?_update_self _ e (by rw [e2]; rfl), e2]⟩
theorem update_keeps {h : Heap} {a : Addr} {f : Obj → Obj} : ∀ b o, b ≠ a → h.get? b = some o → (h.update a f).get? b = some o := fun _ _ hb e => (Heap.get?_update_ne _ _ _ _ hb).trans e

theorem ins_arr (ws : List Value) (y : Value) (k : Nat) : (ws.toArray.extract 0 k).push y ++ ws.toArray.extract k = (ws.take k ++ y :: ws.drop k).toArray := by
  apply Array.toList_inj.mp
  simp [List.take_of_length_le]
theorem xt_none {μ' : List Addr} {h' : Heap} : VR fa μ' h' .none .none := .none

theorem eraseIdx_arr {vs : List Value} {j : Nat} (h : j < vs.length) : vs.toArray.eraseIdxIfInBounds j = (vs.eraseIdx j).toArray := by
  unfold Array.eraseIdxIfInBounds
  have h' : j < vs.toArray.size := by simpa using h
  rw [dif_pos h']
  simp

theorem contains_idx : ∀ {is : List Int} {x : Int}, is.contains x = true → is.idxOf x < is.length ∧ is[is.idxOf x]? = some x ∧ ∀ m, m < is.idxOf x → ∀ y, is[m]? = some y → y ≠ x
  | [], x, h => by simp at h
  | a :: is, x, h => by
    by_cases hax : a = x
    · subst hax
      have e : (a :: is).idxOf a = 0 := List.idxOf_cons_self
      rw [e]
      exact ⟨by simp, by simp, fun m hm => absurd hm (Nat.not_lt_zero _)⟩
    · have hc : is.contains x = true := by
        simp only [List.contains_cons, Bool.or_eq_true, beq_iff_eq] at h
        rcases h with h | h
        · exact absurd h.symm hax
        · exact h
      obtain ⟨h1, h2, h3⟩ := contains_idx hc
      have e : (a :: is).idxOf x = is.idxOf x + 1 := by
        have hb : (a == x) = false := by simpa using hax
        simp only [List.idxOf, List.findIdx_cons, hb, cond_false]
      rw [e]
      refine ⟨by simpa using h1, by simpa using h2, fun m hm y hy => ?_⟩
      cases m with
      | zero => simp at hy; subst hy; exact hax
      | succ m => simp at hy; exact h3 m (by (first | lia | omega)) y hy

theorem ints_get : ∀ {vs : List Value} {is : List Int} {j : Nat} {v : Value}, IntsAre vs is → vs[j]? = some v → ∃ i t, is[j]? = some i ∧ v = .int i t
  | _, _, j, v, .nil, e => by simp at e
  | _, _, 0, v, .cons n t h, e => by simp at e; subst e; exact ⟨n, t, rfl, rfl⟩
  | _, _, j + 1, v, .cons n t h, e => by
    simp at e
    obtain ⟨i, u, h1, h2⟩ := ints_get h e
    exact ⟨i, u, by simpa using h1, h2⟩

theorem meth_append_ok {i : Nat} {xs : List V} {r : V} {args : List V} {v : Value} {vs : List Value} (h0 : i ≠ 0) (hx : H[i]? = some xs) (e : mtAppend i xs args H = some (r, H')) (r₁ : VR fa μ s.heap v (.list i)) (r₂ : VRs fa μ s.heap vs args) (hl : LH fa μ H s.heap) (k : Ok fa μ s r H' Q) :
    wpAny (model prog w) A (call (.builtin Mt.append.id) (v :: vs)) Q E s := by
  refine obK e fun x h1 e => oiK e fun hc e => hl.getK r₁ hx fun a ws n hi ha hws => (one_inv h1 ▸ r₂).oneK fun u r₂ => ?_
  have := lenOk_le hc
  have l1 := hws.length
  refine wpAny_list_append_plain ⟨n, ha⟩ (fun h' hp hs => ?_) (by rw [List.size_toArray, sizeLine_eq]; (first | lia | omega))
  obtain ⟨n', hn'⟩ := hp
  exact (k.of e).upd (n := n') hl hi h0 (fun b o hb e => (hs.2 b hb).trans e) (by rw [hn']; simp [Lobj]) (hws.append (.cons r₂ .nil)) (fun _ => .none) s.toks
theorem meth_insert_ok {i : Nat} {xs : List V} {r : V} {args : List V} {v : Value} {vs : List Value} (h0 : i ≠ 0) (hx : H[i]? = some xs) (e : mtInsert i xs args H = some (r, H')) (r₁ : VR fa μ s.heap v (.list i)) (r₂ : VRs fa μ s.heap vs args) (hl : LH fa μ H s.heap) (k : Ok fa μ s r H' Q) :
    wpAny (model prog w) A (call (.builtin Mt.insert.id) (v :: vs)) Q E s := by
  refine obK e fun p h1 e => obK e fun j h2 e => oiK e fun hc e => hl.getK r₁ hx fun a ws n hi ha hws => (two_inv h1 ▸ r₂).twoK fun u y r₂ r₃ => (vr_int h2 r₂).intK fun t => ?_
  have g1 := bAnd hc
  have g2 := bAnd g1.1
  have c1 := lenOk_le g2.1
  have c2 := of_decide_eq_true g2.2
  have c3 := of_decide_eq_true g1.2
  have l1 := hws.length
  refine call_meets F.slot_list_insert ⟨_, ha, rfl⟩ F.entry_list_insert (F.args_list_insert_3 _ _ _)
    (AutoSeq1.list_insert_list_int_val_1 a ws.toArray n j t _ (by simp [Builtin.List.listFitsIndex]; (first | lia | omega)) (by rw [List.size_toArray, sizeLine_eq]; (first | lia | omega))) ⟨ha, ?_⟩
  obtain ⟨n', hn'⟩ := mapSeq_at (f := fun xs => have k := if j < 0 then (j + (xs.size : Int)).toNat else min j.toNat xs.size; (xs.extract 0 k).push y ++ xs.extract k) (ws := ws.take j.toNat ++ y :: ws.drop j.toNat) ha (by
    have e2 : min j.toNat ws.toArray.size = j.toNat := by rw [List.size_toArray]; (first | lia | omega)
    simp only [if_neg (Int.not_lt.mpr c2), e2]
    exact ins_arr ws y j.toNat)
  exact (k.of e).upd (n := n') hl hi h0 update_keeps hn' ((hws.take _).append (.cons r₃ (hws.drop _))) (fun _ => .none) s.toks
theorem pop_at {i j : Nat} {xs : List V} {y : V} {v : Value} {vs : List Value} (h0 : i ≠ 0) (hx : H[i]? = some xs) (hy : xs[j]? = some y) (hc : lenOk xs.length = true) (r₁ : VR fa μ s.heap v (.list i)) (hl : LH fa μ H s.heap) (k : Ok fa μ s y (H.set i (xs.eraseIdx j)) Q)
    (h : ∀ a (ws : List Value) n u, s.heap.get? a = some (Lobj ws n) → ws.length = xs.length → ws.length ≤ 1048576 → j < ws.length → ws.toArray[j]? = some u → Q u { s with heap := s.heap.update a (Obj.mapSeq fun xs => xs.eraseIdxIfInBounds j) } → wpAny (model prog w) A (call (.builtin Mt.pop.id) (.ref a :: vs)) Q E s) :
    wpAny (model prog w) A (call (.builtin Mt.pop.id) (v :: vs)) Q E s := by
  refine hl.getK r₁ hx fun a ws n hi ha hws => ?_
  obtain ⟨u, g1, g2⟩ := hws.get hy
  have hlt := lt_of_get g1
  obtain ⟨n', hn'⟩ := mapSeq_at (f := fun xs => xs.eraseIdxIfInBounds j) (ws := ws.eraseIdx j) ha (eraseIdx_arr hlt)
  exact h a ws n u ha hws.length (hws.length ▸ lenOk_le hc) hlt (List.getElem?_toArray.trans g1) (k.upd (n := n') hl hi h0 update_keeps hn' (hws.eraseIdx _) (fun x => x.vr g2) s.toks)
theorem meth_pop_ok {i : Nat} {xs : List V} {r : V} {args : List V} {v : Value} {vs : List Value} (h0 : i ≠ 0) (hx : H[i]? = some xs) (e : mtPop i xs args H = some (r, H')) (r₁ : VR fa μ s.heap v (.list i)) (r₂ : VRs fa μ s.heap vs args) (hl : LH fa μ H s.heap) (k : Ok fa μ s r H' Q) :
    wpAny (model prog w) A (call (.builtin Mt.pop.id) (v :: vs)) Q E s := by
  cases args with
  | nil =>
    refine obK e fun y hy e => oiK e fun hc e => ?_
    cases r₂
    refine pop_at h0 hx hy hc r₁ hl (k.of e) fun a ws n u ha l1 l2 hlt g1 q => ?_
    rw [← l1] at g1 q hlt
    exact call_meets F.slot_list_pop ⟨_, ha, rfl⟩ F.entry_list_pop (F.args_list_pop_1 _) (MeetsSeq.list_pop_last a ws.toArray n u (by rw [List.size_toArray]; exact g1) (by rw [List.size_toArray, sizeLine_eq]; (first | lia | omega))) ⟨ha, by rw [List.size_toArray]; exact q⟩
  | cons x args =>
    refine obK e fun x h1 e => obK e fun j h2 e => obK e fun y hy e => oiK e fun hc e => (one_inv h1 ▸ r₂).oneK fun u r₂ => (vr_int h2 r₂).intK fun t => ?_
    have hc := bAnd hc
    have c2 := of_decide_eq_true hc.2
    refine pop_at h0 hx hy hc.1 r₁ hl (k.of e) fun a ws n u ha l1 l2 hlt g1 q => ?_
    refine call_meets F.slot_list_pop ⟨_, ha, rfl⟩ F.entry_list_pop (F.args_list_pop_2 _ _)
      (MeetsSeq.list_pop_at a ws.toArray n j t j.toNat u (by simp [Builtin.List.listFitsIndex]; (first | lia | omega)) (by
        unfold seqIndex?
        have : ¬ j < 0 := Int.not_lt.mpr c2
        simp [this]
        (first | lia | omega)) g1 (by rw [List.size_toArray, sizeLine_eq]; (first | lia | omega))) ⟨ha, q⟩
theorem isI_inv {j i : Int} {u : Tok} : isI j (.int i u) = (i == j) := rfl
theorem meth_remove_ok {i : Nat} {xs : List V} {r : V} {args : List V} {v : Value} {vs : List Value} (h0 : i ≠ 0) (hx : H[i]? = some xs) (e : mtRemove i xs args H = some (r, H')) (r₁ : VR fa μ s.heap v (.list i)) (r₂ : VRs fa μ s.heap vs args) (hl : LH fa μ H s.heap) (k : Ok fa μ s r H' Q) :
    wpAny (model prog w) A (call (.builtin Mt.remove.id) (v :: vs)) Q E s :=
  no e
theorem meth_ok {m : Mt} {x r : V} {args : List V} {v : Value} {vs : List Value} (e : meth m x args H = some (r, H')) (r₁ : VR fa μ s.heap v x) (r₂ : VRs fa μ s.heap vs args) (hl : LH fa μ H s.heap) (k : Ok fa μ s r H' Q) :
    wpAny (model prog w) A (call (.builtin m.id) (v :: vs)) Q E s := by
  refine obK e fun i h1 e => obK e fun xs hx e => oiK e fun h0 e => ?_
  have r₁ := vr_list h1 r₁
  cases m with
  | append => exact meth_append_ok h0 hx e r₁ r₂ hl k
  | insert => exact meth_insert_ok h0 hx e r₁ r₂ hl k
  | pop => exact meth_pop_ok h0 hx e r₁ r₂ hl k
  | remove => exact meth_remove_ok h0 hx e r₁ r₂ hl k
end


section
variable {prog : Program} {w : World} {A : Around} {E : Value → Shared → Prop} {s : Shared} {fa : Nat → Option Addr} {μ : List Addr} {H H' : HP} {Q : Value → Shared → Prop}

theorem bytesOf_in : ∀ (is : List Int) {bs : List UInt8}, bytesOf is = some bs → (∀ n ∈ is, 0 ≤ n ∧ n < 256) ∧ byteArr is = bs.toArray := by
  intro is
  induction is with
  | nil => intro bs e; rw [← Option.some.inj e]; exact ⟨fun _ h => (List.not_mem_nil h).elim, rfl⟩
  | cons x xs ih =>
    intro bs e
    refine obK e fun c h1 e => omK e fun cs h2 e => oiK h1 fun hc h1 => ?_
    obtain ⟨g1, g2⟩ := ih h2
    refine ⟨fun n hn => (List.mem_cons.mp hn).elim (fun h => h ▸ hc) (g1 n), ?_⟩
    have g3 := congrArg Array.toList g2
    apply Array.toList_inj.mp
    rw [← e, ← Option.some.inj h1]
    simp only [byteArr] at g3 ⊢
    simp at g3 ⊢
    rw [← g3]

theorem small_range {a b c : Int} (ha : okR a = true) (hb : okR b = true) (hc : okR c = true) : Builtin.Range.small a b c = true := by
  simp only [okR, Bool.and_eq_true, decide_eq_true_eq] at ha hb hc
  have e := rangeSize_toNat a b c
  have l := rangeSize_toNat_le a b c
  unfold Builtin.Range.small
  simp only [Builtin.Range.rangeFitsLong, Bool.and_eq_true, Bool.or_eq_true, decide_eq_true_eq, beq_iff_eq]
  refine ⟨⟨⟨⟨⟨by (first | lia | omega), by (first | lia | omega)⟩, ⟨by (first | lia | omega), by (first | lia | omega)⟩⟩, ⟨by (first | lia | omega), by (first | lia | omega)⟩⟩, ⟨by (first | lia | omega), by (first | lia | omega)⟩⟩, Or.inr ?_⟩
  split <;> simp only [Bool.and_eq_true, decide_eq_true_eq] <;> (first | lia | omega)

theorem range_vrs {vs : List Value} : ∀ (is : List Int), vs.length = is.length → (∀ (i : Nat) (v : Value), vs[i]? = some v → ∃ t n, is[i]? = some n ∧ v = Value.int n t) → VRs fa μ s.heap vs (is.map V.int) := by
  induction vs with
  | nil => intro is hl h; rw [List.eq_nil_of_length_eq_zero hl.symm]; exact .nil
  | cons v vs ih =>
    intro is hl h
    obtain ⟨t, n, h1, h2⟩ := h 0 v rfl
    cases is with
    | nil => exact no h1
    | cons m is =>
      rw [h2, ← Option.some.inj h1]
      exact .cons (.int _ _) (ih is (Nat.succ.inj hl) fun i u hu => h (i + 1) u hu)

theorem bi_len_ok {args : List V} {r : V} {vs : List Value} (hA : A.handled = none) (hu : A.units + 10 < cLine) (e : biLen args H = some (r, H')) (rs : VRs fa μ s.heap vs args) (hl : LH fa μ H s.heap) (k : Ok fa μ s r H' Q) :
    wpAny (model prog w) A (call Bi.len.val vs) Q E s := by
  refine obK e fun x h1 e => obK e fun n h2 e => oiK e fun hc e => (one_inv h1 ▸ rs).oneK fun v r₁ => ?_
  have hc := lenOk_le hc
  refine oeK h2 (fun _ e1 => obK e1 fun i h3 e1 => omK e1 fun xs hx e1 => ?_) fun b h3 e1 => ?_
  · refine hl.getK (vr_list h3 r₁) hx fun a ws _ _ ha hws => PySem.Calls.call_len_list (isList_of ha) (by rw [List.size_toArray, hws.length, e1]; (first | lia | omega)) ?_
    rw [List.size_toArray, hws.length, e1]
    exact (k.of e).pure (.int _ _) hl _
  · refine (vr_bytes h3 r₁).bytesK fun t => PySem.W.len_bytes (by rw [List.size_toArray, Option.some.inj e1]; (first | lia | omega)) ?_
    rw [List.size_toArray, Option.some.inj e1]
    exact (k.of e).pure (.int _ _) hl _
theorem pylong_ok {a b : Int} (h : okR b = true) : Builtin.divisionGoesByPylong a b = false := by
  refine PyProof.noPylong_of_log2 (log_mid ?_)
  simp only [okR, Bool.and_eq_true, decide_eq_true_eq] at h
  (first | lia | omega)
theorem bi_range_ok {args : List V} {r : V} {vs : List Value} (hA : A.handled = none) (hu : A.units + 10 < cLine) (e : biRange args H = some (r, H')) (rs : VRs fa μ s.heap vs args) (hl : LH fa μ H s.heap) (k : Ok fa μ s r H' Q) :
    wpAny (model prog w) A (call Bi.range.val vs) Q E s := by
  refine obK e fun l h1 e => ?_
  have hI := intsAre_of args rs h1
  have fin : ∀ {a b c : Int} {t u t' : Tok} {tk : Tok}, rng a b c H = some (r, H') → Q (.ref s.heap.objs.size) { s with heap := s.heap.push { cls := .type "range", data := .fields #[.int a t, .int b u, .int c t'] }, toks := tk } := fun e =>
    oiK e fun _ e => (k.of e).ext (push_keeps _ _) (.range (Heap.get?_push_size _ rfl)) hl _
  cases hI with
  | nil => exact no e
  | cons a t hI =>
    cases hI with
    | nil => exact call_range_1 (fin e)
    | cons b u hI =>
      cases hI with
      | nil => exact call_range_2 (fin e)
      | cons c t' hI =>
        refine oiK e fun hn e => ?_
        cases hI with
        | cons => exact nf hn
        | nil =>
          refine oiK (show (if (okR a && okR b && okR c && decide (c ≠ 0)) = true then some (V.range a b c, H) else none) = some (r, H') from e) fun hc _ => ?_
          have hc := bAnd hc
          exact call_range_3 (of_decide_eq_true hc.2) (fin e) (Or.inl (pylong_ok (bAnd hc.1).2))
theorem bi_int_ok {args : List V} {r : V} {vs : List Value} (hA : A.handled = none) (hu : A.units + 10 < cLine) (e : biInt args H = some (r, H')) (rs : VRs fa μ s.heap vs args) (hl : LH fa μ H s.heap) (k : Ok fa μ s r H' Q) :
    wpAny (model prog w) A (call Bi.int.val vs) Q E s :=
  obK e fun x h1 e => omK e fun a h2 e => (one_inv h1 ▸ rs).oneK fun v r₁ => (vr_int h2 r₁).intK fun t => call_int_int ((k.of' e).here (.int _ _) hl)
theorem bi_abs_ok {args : List V} {r : V} {vs : List Value} (hA : A.handled = none) (hu : A.units + 10 < cLine) (e : biAbs args H = some (r, H')) (rs : VRs fa μ s.heap vs args) (hl : LH fa μ H s.heap) (k : Ok fa μ s r H' Q) :
    wpAny (model prog w) A (call Bi.abs.val vs) Q E s :=
  obK e fun x h1 e => omK e fun a h2 e => (one_inv h1 ▸ rs).oneK fun v r₁ => (vr_int h2 r₁).intK fun t => by
    refine call_abs_int fun u tk => ?_
    have e1 : (if a < 0 then -a else a) = (a.natAbs : Int) := by split <;> (first | lia | omega)
    rw [e1]
    exact (k.of' e).pure (.int _ _) hl tk
theorem bi_divmod_ok {args : List V} {r : V} {vs : List Value} (hA : A.handled = none) (hu : A.units + 10 < cLine) (e : biDivmod args H = some (r, H')) (rs : VRs fa μ s.heap vs args) (hl : LH fa μ H s.heap) (k : Ok fa μ s r H' Q) :
    wpAny (model prog w) A (call Bi.divmod.val vs) Q E s :=
  obK e fun p h1 e => obK e fun a h2 e => obK e fun b h3 e => oiK e fun hc e => (two_inv h1 ▸ rs).twoK fun v v' r₁ r₂ => (vr_int h2 r₁).intK fun t => (vr_int h3 r₂).intK fun u => by
    have hc := bAnd hc
    exact divmod_int (of_decide_eq_true hc.1) ((k.of e).ext (push_keeps _ _) (.tup (n := 0) (vs := [.int (a.fdiv b) s.toks, .int (a.fmod b) (s.toks + 1)]) (Heap.get?_push_size _ rfl) (.cons (.int _ _) (.cons (.int _ _) .nil))) hl _) (Or.inl (PyProof.noPylong_of_log2 (log_mid (of_decide_eq_true hc.2))))
theorem isBy_inv {x : V} (h : isBy x = true) : x = .bi .bytes := by
  cases x with
  | bi b => cases b with
    | bytes => rfl
    | _ => exact nf h
  | _ => exact nf h
theorem bi_isinstance_ok {args : List V} {r : V} {vs : List Value} (hA : A.handled = none) (hu : A.units + 10 < cLine) (e : biIsinstance args H = some (r, H')) (rs : VRs fa μ s.heap vs args) (hl : LH fa μ H s.heap) (k : Ok fa μ s r H' Q) :
    wpAny (model prog w) A (call Bi.isinstance.val vs) Q E s :=
  obK e fun p h1 e => obK e fun a h2 e => oiK e fun hc e => (two_inv h1 ▸ rs).twoK fun v v' r₁ r₂ => (vr_bytes h2 r₁).bytesK fun t => by
    rw [(isBy_inv hc ▸ r₂ : VR fa μ s.heap v' (.bi .bytes)).bi_inv]
    exact call_function_meets F.kind_isinstance F.plain_isinstance F.entry_isinstance (F.args_isinstance_2 _ _) (isinstance_true (T := "bytes") (by kernel_rfl) F.bm_sub) ⟨typeIs_bytes _ _ _, (k.of e).here (.bool _) hl⟩
theorem bi_bytes_ok {args : List V} {r : V} {vs : List Value} (hA : A.handled = none) (hu : A.units + 10 < cLine) (e : biBytes args H = some (r, H')) (rs : VRs fa μ s.heap vs args) (hl : LH fa μ H s.heap) (k : Ok fa μ s r H' Q) :
    wpAny (model prog w) A (call Bi.bytes.val vs) Q E s :=
  obK e fun x h1 e => obK e fun i h2 e => obK e fun xs hx e => obK e fun is hy e => obK e fun bs hz e => oiK e fun hc e => (one_inv h1 ▸ rs).oneK fun v r₁ => hl.getK (vr_list h2 r₁) hx fun a ws n _ ha hws => by
    have hc := lenOk_le hc
    have l1 := hws.length
    have hI := intsAre_of xs hws hy
    have l2 := hI.length
    obtain ⟨g1, g2⟩ := bytesOf_in is hz
    refine call_bytes_ints (isList_of ha) hI g1 (by rw [sizeLine_eq]; (first | lia | omega)) hA fun h' t kk hk => ?_
    rw [g2]
    have := VR.bytes (fa := fa) (μ := μ) (h := h') bs.toArray t
    exact (k.of e).ext hk (by simpa using this) hl kk
theorem rangeV_inv {x : V} {xs : List V} (h : rangeV x = some xs) : ∃ a b c, x = .range a b c ∧ xs = rangeL a b c ∧ lenOk (rangeL a b c).length = true ∧ okR a = true ∧ okR b = true ∧ okR c = true ∧ c ≠ 0 := by
  cases x with
  | range a b c =>
    refine oiK h fun hc h => ?_
    have c1 := bAnd hc
    have c2 := bAnd c1.1
    have c3 := bAnd c2.1
    have c4 := bAnd c3.1
    exact ⟨a, b, c, rfl, (Option.some.inj h).symm, c4.1, c4.2, c3.2, c2.2, of_decide_eq_true c1.2⟩
  | _ => exact no h
theorem bi_list_ok {args : List V} {r : V} {vs : List Value} (hA : A.handled = none) (hu : A.units + 10 < cLine) (e : biList args H = some (r, H')) (rs : VRs fa μ s.heap vs args) (hl : LH fa μ H s.heap) (k : Ok fa μ s r H' Q) :
    wpAny (model prog w) A (call Bi.list.val vs) Q E s := by
  refine obK e fun x h1 e => (one_inv h1 ▸ rs).oneK fun v r₁ => oeK e (fun _ e => omK e fun xs hx e => ?_) fun i h2 e => obK e fun xs hx e => oiK e fun hc e => ?_
  · obtain ⟨a, b, c, rfl, rfl, g1, h2, h3, h4, h5⟩ := rangeV_inv hx
    refine r₁.rangeK fun p t u u' hr => ?_
    have := lenOk_le g1
    have hn : Builtin.Range.rangeSize a b c = ((Builtin.Range.rangeSize a b c).toNat : Nat) := rangeSize_toNat a b c
    have hlen : (rangeL a b c).length = (Builtin.Range.rangeSize a b c).toNat := by simp [rangeL, rangeInts_length]
    refine call_list_range hA hr (small_range h2 h3 h4) hn (by (first | lia | omega)) fun h' tk acc' c' hk hS hacc => ?_
    refine (k.of' e).new (vs := acc'.toList) (n := c') hl hk (get_size _) (by simpa [Lobj] using hS) ?_ tk
    refine range_vrs _ (by simp [hacc.1, rangeInts_length]) fun i v hv => ?_
    obtain ⟨t, ht⟩ := hacc.2 i v (by simpa using hv)
    refine ⟨t, _, rangeInts_get ?_, ht⟩
    have := lt_of_get hv
    simp [hacc.1] at this
    (first | lia | omega)
  · have := lenOk_le hc
    refine hl.getK (vr_list h2 r₁) hx fun a ws n _ ha hws => ?_
    have l1 := hws.length
    exact call_list_seq a (Or.inl rfl) ha rfl rfl (fun h' c' hk hS => (k.of e).new (vs := ws) (n := c') hl hk (get_size _) hS hws s.toks) (by rw [List.size_toArray, sizeLine_eq]; (first | lia | omega))
theorem bi_min_ok {args : List V} {r : V} {vs : List Value} (hA : A.handled = none) (hu : A.units + 10 < cLine) (e : biMin args H = some (r, H')) (rs : VRs fa μ s.heap vs args) (hl : LH fa μ H s.heap) (k : Ok fa μ s r H' Q) :
    wpAny (model prog w) A (call Bi.min.val vs) Q E s :=
  no e
theorem bi_max_ok {args : List V} {r : V} {vs : List Value} (hA : A.handled = none) (hu : A.units + 10 < cLine) (e : biMax args H = some (r, H')) (rs : VRs fa μ s.heap vs args) (hl : LH fa μ H s.heap) (k : Ok fa μ s r H' Q) :
    wpAny (model prog w) A (call Bi.max.val vs) Q E s :=
  no e
theorem bi_sorted_ok {args : List V} {r : V} {vs : List Value} (hA : A.handled = none) (hu : A.units + 10 < cLine) (e : biSorted args H = some (r, H')) (rs : VRs fa μ s.heap vs args) (hl : LH fa μ H s.heap) (k : Ok fa μ s r H' Q) :
    wpAny (model prog w) A (call Bi.sorted.val vs) Q E s :=
  no e
theorem bi_ok {b : Bi} {args : List V} {r : V} {vs : List Value} (hA : A.handled = none) (hu : A.units + 10 < cLine) (e : bi b args H = some (r, H')) (rs : VRs fa μ s.heap vs args) (hl : LH fa μ H s.heap) (k : Ok fa μ s r H' Q) :
    wpAny (model prog w) A (call b.val vs) Q E s := by
  cases b with
  | len => exact bi_len_ok hA hu e rs hl k
  | range => exact bi_range_ok hA hu e rs hl k
  | int => exact bi_int_ok hA hu e rs hl k
  | abs => exact bi_abs_ok hA hu e rs hl k
  | divmod => exact bi_divmod_ok hA hu e rs hl k
  | isinstance => exact bi_isinstance_ok hA hu e rs hl k
  | bytes => exact bi_bytes_ok hA hu e rs hl k
  | list => exact bi_list_ok hA hu e rs hl k
  | min => exact bi_min_ok hA hu e rs hl k
  | max => exact bi_max_ok hA hu e rs hl k
  | sorted => exact bi_sorted_ok hA hu e rs hl k
end


/-! the text made into the small language -/
structure Sc where
  n : Nat
  kind : Str → Option NameKind
  slot : Str → Option Nat
  gl : Str → Option V

noncomputable def mtOf (x : Str) : Option Mt := if x == Mt.append.name then some .append else if x == Mt.insert.name then some .insert else if x == Mt.pop.name then some .pop else if x == Mt.remove.name then some .remove else none
noncomputable def opOf : Operator → Option Op
  | .Add => some .add | .Sub => some .sub | .Mult => some .mul | .FloorDiv => some .div | .Mod => some .mod | .Pow => some .pow | _ => none
noncomputable def cmOf : CmpOp → Cm
  | .Lt => .lt | .LtE => .le | .Gt => .gt | .GtE => .ge | .Eq => .eq | .NotEq => .ne | .Is => .is | .IsNot => .isn | .In => .isin | .NotIn => .nin

noncomputable def cL (f : Expr → Option Ex) : List Expr → Option Exs
  | [] => some .nil
  | e :: es => (f e).bind fun m => (cL f es).map (.cons m)
noncomputable def cAnd (f : Expr → Option Ex) : List Expr → Option Ex
  | [] => none
  | e :: es => cond es.isEmpty (f e) ((f e).bind fun m => (cAnd f es).map (.and m))
noncomputable def cOr (f : Expr → Option Ex) : List Expr → Option Ex
  | [] => none
  | e :: es => cond es.isEmpty (f e) ((f e).bind fun m => (cOr f es).map (.or m))
noncomputable def cOpt (f : Expr → Option Ex) : Option Expr → Option Ex
  | none => some (.lit .none)
  | some e => f e
noncomputable def grd {α : Type} (b : Bool) (x : Option α) : Option α := cond b x none
theorem og {α : Type} {b : Bool} {x : Option α} {r : α} (h : grd b x = some r) : b = true ∧ x = some r := by
  cases b with
  | true => exact ⟨rfl, h⟩
  | false => exact no h

noncomputable def isC (n : Nat) (e : Expr) : Bool := Nat.beq e.ctorIdx n
noncomputable def plainBase (e : Expr) : Bool := isC 23 e || isC 21 e
inductive View where
  | name (x : Str)
  | attr (o : Expr) (x : Str) (p : Pos)
  | slice (l u s : Option Expr)
  | sub (o i : Expr)
  | tup (es : List Expr)
  | other
noncomputable def view : Expr → View
  | .Name x _ => .name x
  | .Attribute o x p => .attr o x p
  | .Slice l u s _ => .slice l u s
  | .Subscript o i _ => .sub o i
  | .Tuple es _ _ => .tup es
  | _ => .other
noncomputable def View.of (e : Expr) : View → Prop
  | .name x => ∃ p, e = .Name x p
  | .attr o x p => e = .Attribute o x p
  | .slice l u s => ∃ p, e = .Slice l u s p
  | .sub o i => ∃ p, e = .Subscript o i p
  | .tup es => ∃ j p, e = .Tuple es j p
  | .other => ∀ o x p, e ≠ .Attribute o x p
theorem view_of (e : Expr) : (view e).of e := by
  cases e <;> first | exact fun _ _ _ h => Expr.noConfusion h | exact ⟨_, rfl⟩ | exact ⟨_, _, rfl⟩ | exact rfl
noncomputable def nameOf (e : Expr) : Option Str := match view e with
  | .name x => some x
  | _ => none
theorem nameOf_inv {e : Expr} {x : Str} (h : nameOf e = some x) : ∃ p, e = .Name x p := by
  have v := view_of e
  unfold nameOf at h
  cases hv : view e with
  | name y => rw [hv] at h v; exact Option.some.inj h ▸ v
  | _ => rw [hv] at h; exact no h
noncomputable def namesIn : List Expr → Option (List Str)
  | [] => some []
  | e :: es => (nameOf e).bind fun x => (namesIn es).map (x :: ·)
noncomputable def targetsOf (e : Expr) : Option (List Str × Bool) := match view e with
  | .name x => some ([x], false)
  | .tup es => (namesIn es).map (·, true)
  | _ => none
noncomputable def scopeOk (S : Sc) (sc : Scope) (ts : List Str) : Bool :=
  sc.kind == .function && sc.names.all (fun x => x.2 != .cell && (x.2 != .local || sc.names.lookup x.1 == some .local) && (x.2 != .free || S.kind x.1 == some .cell)) && ts.all (fun x => sc.names.lookup x == some .local) && decide ts.Nodup
noncomputable def kFree : NameKind → NameKind
  | .free => .cell
  | k => k
noncomputable def inner (S : Sc) (sc : Scope) (ts : List Str) : Sc where
  n := S.n + ts.length
  kind := fun x => (sc.names.lookup x).map kFree
  slot := fun x => (sc.names.lookup x).bind fun k => cond (k == .local) (grd (ts.contains x) (some (S.n + ts.idxOf x))) (grd (k == .free) (S.slot x))
  gl := S.gl

noncomputable def cConst : Const → Option Ex
  | .none => some (.lit .none)
  | .bool b => some (.lit (.bool b))
  | .int i => some (.lit (.int i))
  | .bytes b => some (.lit (.bytes b))
  | _ => none
noncomputable def cName (S : Sc) (x : Str) : Option Ex :=
  grd (!(x == ("__debug__" : Str))) ((S.slot x).elim (grd (S.kind x == some .globalImplicit) ((S.gl x).map .lit)) fun i => some (.var i))
noncomputable def cUn (op : UnaryOp) (a : Option Ex) : Option Ex := match op with
  | .USub => a.map .neg
  | .Not => a.map .not
  | _ => none
noncomputable def cCmp (f : Expr → Option Ex) (l : Expr) : List CmpOp → List Expr → Option Ex
  | [op], [r] => (f l).bind fun a => (f r).map (.cmp (cmOf op) a)
  | _, _ => none
noncomputable def cKws (f : Expr → Option Ex) (g : Ex) (ms : Exs) : List Keyword → Option Ex
  | [] => some (.call g ms)
  | k :: r => grd (r.isEmpty && k.arg == some ("key" : Str)) ((f k.value).map (.callK g ms))
noncomputable def cCall (f : Expr → Option Ex) (g : Expr) (args : List Expr) (kws : List Keyword) (pos : Pos) : Option Ex :=
  grd (decide (args.length < 20)) ((cL f args).bind fun ms => match view g with
    | .attr o x p => grd (kws.isEmpty && p.endLine == pos.line && plainBase o) ((mtOf x).bind fun mt => (f o).map fun a => .meth mt a ms)
    | _ => (f g).bind fun m => cKws f m ms kws)
noncomputable def cSub (f : Expr → Option Ex) (o i : Expr) : Option Ex :=
  (f o).bind fun a => match view i with
    | .slice l u s => (cOpt f l).bind fun l => (cOpt f u).bind fun u => (cOpt f s).map (.sl a l u)
    | _ => (f i).map (.idx a)
noncomputable def cIfs (f : Expr → Option Ex) : List Expr → Option Ex
  | [] => some (.lit (.bool true))
  | e :: r => grd r.isEmpty (f e)
noncomputable def cComp (f : Sc → Expr → Option Ex) (S : Sc) (elt : Expr) (gens : List Comprehension) (sc : Scope) : Option Ex := match gens with
  | [] => none
  | g :: r => grd (r.isEmpty && g.is_async == 0) ((targetsOf g.target).bind fun t => grd (scopeOk S sc t.1) ((f (inner S sc t.1) elt).bind fun m => (f S g.iter).bind fun it =>
      (cIfs (f (inner S sc t.1)) g.ifs).map (.comp m t.1.length t.2 it)))

noncomputable def cEo (f : Sc → Expr → Option Ex) (S : Sc) (e : Expr) : Option Ex := match e with
  | .Constant c _ _ => cConst c
  | .Name x _ => cName S x
  | .BinOp l op r _ => (opOf op).bind fun o => (f S l).bind fun a => (f S r).map (.bin o a)
  | .UnaryOp op x _ => cUn op (f S x)
  | .BoolOp op vs _ => (match op with
    | .And => cAnd (f S) vs
    | .Or => cOr (f S) vs)
  | .Compare l ops rs _ => cCmp (f S) l ops rs
  | .IfExp c a b _ => (f S c).bind fun c => (f S a).bind fun a => (f S b).map (.ite c a)
  | .Call g args kws pos => cCall (f S) g args kws pos
  | .Subscript o i _ => cSub (f S) o i
  | .List es _ => (cL (f S) es).map .lst
  | .Tuple es _ _ => (cL (f S) es).map .tpl
  | .ListComp elt gens sc _ => cComp f S elt gens sc
  | _ => none
noncomputable def cE : Nat → Sc → Expr → Option Ex
  | 0, _, _ => none
  | k + 1, S, e => cEo (cE k) S e

/-! statements -/
noncomputable def slots (S : Sc) : List Str → Option (List Nat)
  | [] => some []
  | x :: xs => (S.slot x).bind fun i => (slots S xs).map (i :: ·)
noncomputable def isComp (e : Expr) : Bool := isC 8 e
noncomputable def isTup (e : Expr) : Bool := isC 25 e || isC 24 e
noncomputable def isSl (e : Expr) : Bool := isC 26 e

noncomputable def cB (f : Stmt → St) : List Stmt → St
  | [] => .skip
  | s :: r => .seq (f s) (cB f r)
noncomputable def cFor (f : Expr → Option Ex) (S : Sc) (t it : Expr) (b : St) : Option St :=
  (targetsOf t).bind fun q => (slots S q.1).bind fun is => (f it).map fun m => .fr is q.2 m b
noncomputable def cTgt (f : Expr → Option Ex) (S : Sc) (t v : Expr) : Option St := match view t with
  | .name x => (S.slot x).bind fun i => (f v).map (.asg i)
  | .sub o i => grd (!isSl i && !isComp v) ((f o).bind fun o => (f i).bind fun i => (f v).map (.setI o i))
  | .tup es => grd (!isTup v && !isComp v) ((namesIn es).bind fun xs => (slots S xs).bind fun is => (f v).map (.unp is))
  | _ => none
noncomputable def cAug (f : Expr → Option Ex) (t : Expr) (op : Operator) (v : Expr) : Option St := match view t with
  | .sub o i => grd (op == .Add && !isSl i) ((f o).bind fun o => (f i).bind fun i => (f v).map (.aug o i .add))
  | _ => none
noncomputable def cSo (f : Expr → Option Ex) (g : Stmt → St) (S : Sc) (s : Stmt) : Option St := match s with
  | .Pass _ => some .skip
  | .Break _ => some .brk
  | .Return v _ => v.bind fun e => (f e).map .ret
  | .Expr e _ => grd (!isComp e) ((f e).map .exp)
  | .If t b o _ => (f t).map fun m => .ite m (cB (g) b) (cB (g) o)
  | .While t b o _ => grd o.isEmpty ((f t).map fun m => .whl m (cB (g) b))
  | .For t it b o _ => grd o.isEmpty (cFor (f) S t it (cB (g) b))
  | .Assign ts v _ => (match ts with
    | [] => none
    | t :: r => grd r.isEmpty (cTgt (f) S t v))
  | .AugAssign t op v _ => cAug (f) t op v
  | _ => none

noncomputable def cS : Nat → Sc → Stmt → St
  | 0, _, _ => .bad
  | k + 1, S, s => Option.getD (cSo (cE k S) (cS k S) S s) .bad



/-! names -/
noncomputable def Ld (env : Env) (h : Heap) (x : Str) (v : Value) : Prop :=
  (env.kindOf x = some .local ∧ ∃ m, h.Ns env.locals m ∧ m x = some v) ∨ (env.kindOf x = some .cell ∧ ∃ c, env.cells.lookup x = some c ∧ h.IsCell c (some v))

structure EnvOk (S : Sc) (env : Env) : Prop where
  fn : env.scope.kind = .function
  gl : env.globals = mainGlobals
  bi : env.builtins = builtinsNs
  kind : ∀ x, env.kindOf x = S.kind x
  cell : ∀ x, env.kindOf x = some .cell → ∃ c, env.cells.lookup x = some c
  sl : ∀ x i, S.slot x = some i → i < S.n ∧ (S.kind x = some .local ∨ S.kind x = some .cell)

/-- room for n calls more -/
noncomputable def Rm (A : Around) (n : Nat) : Prop := A.handled = none ∧ A.depth + n < 1000 ∧ A.units + 4 * n + 100 < 9900
theorem Rm.mono {A : Around} {n m : Nat} (x : Rm A n) (h : m ≤ n) : Rm A m := ⟨x.1, by have := x.2.1; (first | lia | omega), by have := x.2.2; (first | lia | omega)⟩
theorem Rm.u {A : Around} {n : Nat} (x : Rm A n) : A.units + 10 < cLine := by have := x.2.2; have := cLine_is; (first | lia | omega)
theorem Rm.deeper {A : Around} {n : Nat} (x : Rm A (n + 1)) (env : Env) : Rm (A.deeper env) n := ⟨x.1, by have := x.2.1; show A.depth + 1 + n < 1000; (first | lia | omega), by have := x.2.2; show A.units + 3 + 4 * n + 100 < 9900; (first | lia | omega)⟩

structure Wd (fa : Nat → Option Addr) (h₀ : Heap) (μ : List Addr) (H : HP) (h : Heap) : Prop where
  lh : LH fa μ H h
  base : ∀ b o, h₀.get? b = some o → h.get? b = some o
  fr : ∀ a ∈ μ, h₀.get? a = none

noncomputable def VarsOk (fa : Nat → Option Addr) (S : Sc) (env : Env) (ρ : Rho) (μ : List Addr) (h : Heap) : Prop :=
  ρ.length = S.n ∧ ∀ x i v, S.slot x = some i → ρ[i]? = some (some v) → ∃ u, Ld env h x u ∧ VR fa μ h u v

section
variable {fa : Nat → Option Addr} {h₀ h h' : Heap} {μ μ' : List Addr} {H H' : HP} {FA : List Addr}

theorem not_list_dict {o : Obj} {es : Array DictEntry} {ep : Nat} (hd : o.data = .dict es ep) : ∀ vs n, o ≠ Lobj vs n := fun vs n e => by rw [e] at hd; cases hd
theorem not_list_cell {o : Obj} {v : Option Value} (hd : o.data = .cell v) : ∀ vs n, o ≠ Lobj vs n := fun vs n e => by rw [e] at hd; cases hd
theorem ns_not_mem {L : Addr} {m : Str → Option Value} (l : LH fa μ H h) (n : h.Ns L m) : L ∉ μ := by
  obtain ⟨o, es, ep, ho, hd, _⟩ := n
  exact l.not_mem_of ho (not_list_dict hd)
theorem cell_not_mem {c : Addr} {v : Option Value} (l : LH fa μ H h) (n : h.IsCell c v) : c ∉ μ := by
  obtain ⟨o, ho, hd⟩ := n
  exact l.not_mem_of ho (not_list_cell hd)
theorem Ld.xt {env : Env} {x : Str} {v : Value} (l : LH fa μ H h) (t : Xt [] μ h μ' h') (d : Ld env h x v) : Ld env h' x v := by
  rcases d with ⟨h1, m, h2, h3⟩ | ⟨h1, c, h2, h3⟩
  · exact Or.inl ⟨h1, m, h2.at' fun o e => t.keep _ _ e (ns_not_mem l h2) (List.not_mem_nil), h3⟩
  · refine Or.inr ⟨h1, c, h2, ?_⟩
    have := cell_not_mem l h3
    obtain ⟨o, ho, hd⟩ := h3
    exact ⟨o, t.keep _ _ ho this (List.not_mem_nil), hd⟩
theorem VarsOk.xt {S : Sc} {env : Env} {ρ : Rho} (l : LH fa μ H h) (t : Xt [] μ h μ' h') (d : VarsOk fa S env ρ μ h) : VarsOk fa S env ρ μ' h' :=
  ⟨d.1, fun x i v h1 h2 => let ⟨u, g1, g2⟩ := d.2 x i v h1 h2; ⟨u, g1.xt l t, t.vr g2⟩⟩
theorem Wd.xt (d : Wd fa h₀ μ H h) (l : LH fa μ' H' h') (t : Xt FA μ h μ' h') (hF : ∀ a ∈ FA, h₀.get? a = none) : Wd fa h₀ μ' H' h' where
  lh := l
  base := fun b o e => t.keep b o (d.base b o e) (fun hm => by rw [d.fr b hm] at e; cases e) (fun hm => by rw [hF b hm] at e; cases e)
  fr := fun a ha => by
    by_cases hm : a ∈ μ
    · exact d.fr a hm
    · cases e : h₀.get? a with
      | none => rfl
      | some o =>
        have := d.base a o e
        rw [t.new a ha hm] at this
        cases this
end

section
variable {M : Model} {A : Around} {E : Value → Shared → Prop} {s : Shared} {env : Env} {Q : Value → Shared → Prop}
theorem ld_wp {x : Str} {v : Value} (hf : env.scope.kind = .function) (d : Ld env s.heap x v) (k : Q v s) : wpAny M A (loadName env x) Q E s := by
  rcases d with ⟨h1, m, h2, h3⟩ | ⟨h1, c, h2, h3⟩
  · exact wpAny_loadName_local hf h1 h2 h3 k
  · exact wpAny_loadName_cell hf h1 h2 h3 k
end

/-- the global names -/
noncomputable def GlobOk (fa : Nat → Option Addr) (h₀ : Heap) (gl : Str → Option V) : Prop :=
  ∀ x V, gl x = some V → ∃ u, (∀ (M : Model) (A : Around) (E : Value → Shared → Prop) (s : Shared) (Q : Value → Shared → Prop) (env : Env), (∀ b o, h₀.get? b = some o → s.heap.get? b = some o) → env.globals = mainGlobals → env.builtins = builtinsNs → Q u s →
      wpAny M A (loadGlobal env x) Q E s) ∧ ∀ (μ : List Addr) (h : Heap), (∀ b o, h₀.get? b = some o → h.get? b = some o) → VR fa μ h u V

noncomputable def FaOk (fa : Nat → Option Addr) (h₀ : Heap) : Prop := ∀ k a, fa k = some a → ∃ o fd, h₀.get? a = some o ∧ o.data = .func fd

noncomputable def OkR (fa : Nat → Option Addr) (μ : List Addr) (s : Shared) (l : V) (H : HP) (R : Result → Shared → Prop) : Prop := Ok fa μ s l H (fun v s' => R (.ok (.ret v)) s')

noncomputable def KwOk (fa : Nat → Option Addr) (μ : List Addr) (h : Heap) (key : Option V) (kws : List (Str × Value)) : Prop :=
  match key with
  | none => kws = []
  | some kv => ∃ u, kws = [(("key" : Str), u)] ∧ VR fa μ h u kv

set_option genInjectivity false in
/-- what stays the same all through a walk -/
structure Cx where
  prog : Program
  w : World
  fa : Nat → Option Addr
  h₀ : Heap
  Φ : FnT
  n : Nat
@[reducible] noncomputable def Cx.M (c : Cx) : Model := model c.prog c.w

/-- the calls of the text's own defs -/
noncomputable def FnOk (c : Cx) : Prop :=
  ∀ k args key H q, c.Φ k args key H = some q → ∀ (A : Around) (s : Shared) (μ : List Addr) (a : Addr) (vs : List Value) (kws : List (Str × Value)) (R : Result → Shared → Prop),
    Rm A c.n → Wd c.fa c.h₀ μ H s.heap → c.fa k = some a → VRs c.fa μ s.heap vs args → KwOk c.fa μ s.heap key kws → OkR c.fa μ s q.1 q.2 R →
    codeAny c.M A (.call (.ref a) ⟨vs, kws⟩) R s

set_option genInjectivity false in
structure ResB (fa : Nat → Option Addr) (μ : List Addr) (s : Shared) (H : HP) where
  h : Heap
  tk : Tok
  μ' : List Addr
  lh : LH fa μ' H h
  xt : Xt [] μ s.heap μ' h
@[reducible] noncomputable def ResB.st {fa : Nat → Option Addr} {μ : List Addr} {s : Shared} {H : HP} (r : ResB fa μ s H) : Shared := stOf s r.h r.tk
noncomputable def OkB (fa : Nat → Option Addr) (μ : List Addr) (s : Shared) (H : HP) (K : Shared → Prop) : Prop := ∀ r : ResB fa μ s H, K r.st

/-- a place in the walk -/
structure Pt (c : Cx) (S : Sc) (A : Around) (env : Env) (ρ : Rho) (H : HP) (μ : List Addr) (s : Shared) : Prop where
  rm : Rm A c.n
  eo : EnvOk S env
  vars : VarsOk c.fa S env ρ μ s.heap
  wd : Wd c.fa c.h₀ μ H s.heap

/-- the small language's answer is the model's -/
noncomputable def Sd (c : Cx) (S : Sc) (e : Expr) (m : Ex) : Prop :=
  ∀ (A : Around) (env : Env) (ρ : Rho) (H : HP) (μ : List Addr) (s : Shared), Pt c S A env ρ H μ s →
    (∀ q Q E, ev c.Φ m ρ H = some q → Ok c.fa μ s q.1 q.2 Q → wpAny c.M A (eval e env) Q E s) ∧
    (∀ q (Q : Bool → Shared → Prop) E, evB c.Φ m ρ H = some q → OkB c.fa μ s q.2 (Q q.1) → wpAny c.M A (isTrue e env (eval e env)) Q E s)

/-- expressions whose truth is asked of their value -/
noncomputable def PlainT (e : Expr) : Prop := ∀ (env : Env) (whole : Sem Value), isTrue e env whole = (do let v ← whole; standAt e.pos; holding [v] (truthy v))

section
variable {c : Cx} {S : Sc} {A : Around} {env : Env} {ρ : Rho} {H : HP} {μ μ' : List Addr} {s : Shared} {e : Expr} {m : Ex} {h' : Heap} {tk : Tok}

theorem Sd.val (d : Sd c S e m) (p : Pt c S A env ρ H μ s) {q : V × HP} {Q E : Value → Shared → Prop} (x : ev c.Φ m ρ H = some q) (k : Ok c.fa μ s q.1 q.2 Q) : wpAny c.M A (eval e env) Q E s := (d A env ρ H μ s p).1 q Q E x k
theorem Sd.tru (d : Sd c S e m) (p : Pt c S A env ρ H μ s) {q : Bool × HP} {Q : Bool → Shared → Prop} {E : Value → Shared → Prop} (x : evB c.Φ m ρ H = some q) (k : OkB c.fa μ s q.2 (Q q.1)) : wpAny c.M A (isTrue e env (eval e env)) Q E s := (d A env ρ H μ s p).2 q Q E x k
theorem Pt.next (p : Pt c S A env ρ H μ s) {H' : HP} (l : LH c.fa μ' H' h') (t : Xt [] μ s.heap μ' h') : Pt c S A env ρ H' μ' (stOf s h' tk) :=
  ⟨p.rm, p.eo, p.vars.xt p.wd.lh t, p.wd.xt l t fun _ h => (List.not_mem_nil h).elim⟩
theorem Pt.after (p : Pt c S A env ρ H μ s) {l : V} {H' : HP} (r : Res c.fa μ s l H') : Pt c S A env ρ H' r.μ' r.st := p.next r.lh r.xt
theorem Pt.afterB (p : Pt c S A env ρ H μ s) {H' : HP} (r : ResB c.fa μ s H') : Pt c S A env ρ H' r.μ' r.st := p.next r.lh r.xt

theorem evB_of {Φ : FnT} {q : Bool × HP} (h : evB Φ m ρ H = some q) : ∃ v, ev Φ m ρ H = some (v, q.2) ∧ tr v = some q.1 :=
  obK h fun v h1 h => omK h fun b h2 h => ⟨v.1, by rw [h1, ← h], by rw [h2, ← h]⟩
theorem evB_mk {Φ : FnT} {q : V × HP} {b : Bool} (h1 : ev Φ m ρ H = some q) (h2 : tr q.1 = some b) : evB Φ m ρ H = some (b, q.2) := by
  unfold evB
  rw [h1, Option.bind_some, h2]
  rfl

theorem OkB.here {K : Shared → Prop} (k : OkB c.fa μ s H K) (l : LH c.fa μ H s.heap) : K s := k ⟨s.heap, s.toks, μ, l, .refl⟩
theorem OkB.step {K : Shared → Prop} (k : OkB c.fa μ s H K) (t : Xt [] μ s.heap μ' h') : OkB c.fa μ' (stOf s h' tk) H K := fun r => k ⟨r.h, r.tk, r.μ', r.lh, t.trans r.xt⟩
theorem Ok.step {fa : Nat → Option Addr} {l : V} {Q : Value → Shared → Prop} (k : Ok fa μ s l H Q) (t : Xt [] μ s.heap μ' h') : Ok fa μ' (stOf s h' tk) l H Q := fun r => k ⟨r.v, r.h, r.tk, r.μ', r.vr, r.lh, t.trans r.xt⟩

/-- from the value to the truth -/
theorem Sd.of_val (hp : PlainT e)
    (h : ∀ (A : Around) (env : Env) (ρ : Rho) (H : HP) (μ : List Addr) (s : Shared), Pt c S A env ρ H μ s → ∀ q Q E, ev c.Φ m ρ H = some q → Ok c.fa μ s q.1 q.2 Q → wpAny c.M A (eval e env) Q E s) : Sd c S e m := fun A env ρ H μ s p =>
  ⟨h A env ρ H μ s p, fun q Q E hb k => by
    obtain ⟨v, h1, h2⟩ := evB_of hb
    rw [hp]
    exact wpAny_bind (h A env ρ H μ s p _ _ E h1 fun r => wpAny_bind (wpAny_standAt (wpAny_holding (tr_ok h2 r.vr (k ⟨r.h, r.tk, r.μ', r.lh, r.xt⟩)))))⟩

theorem sd_lit {v : V} (hp : PlainT e)
    (h : ∀ (M : Model) (A : Around) (env : Env) (s : Shared) (Q : Value → Shared → Prop) (E : Value → Shared → Prop), EnvOk S env → (∀ b o, c.h₀.get? b = some o → s.heap.get? b = some o) → (∀ u tk, (∀ μ, VR c.fa μ s.heap u v) → Q u { s with toks := tk }) → wpAny M A (eval e env) Q E s) :
    Sd c S e (.lit v) := Sd.of_val hp fun A env ρ H μ s p q Q E e1 k =>
  h _ A env s Q E p.eo p.wd.base fun u tk hu => (k.of e1).pure (hu μ) p.wd.lh tk

theorem sd_none {k : Nat} {p : Pos} : Sd c S (.Constant .none k p) (.lit .none) := sd_lit (fun _ _ => rfl) fun _ _ _ s _ _ _ _ q => Constant_none (q _ s.toks fun _ => .none)
theorem sd_bool {b : Bool} {k : Nat} {p : Pos} : Sd c S (.Constant (.bool b) k p) (.lit (.bool b)) := sd_lit (fun _ _ => rfl) fun _ _ _ s _ _ _ _ q => Constant_bool (q _ s.toks fun _ => .bool b)
theorem sd_int {i : Int} {k : Nat} {p : Pos} : Sd c S (.Constant (.int i) k p) (.lit (.int i)) := sd_lit (fun _ _ => rfl) fun _ _ _ _ _ _ _ _ q => wpAny_Constant_int (q _ _ fun _ => .int _ _)
theorem sd_bytes {b : List UInt8} {k : Nat} {p : Pos} : Sd c S (.Constant (.bytes b) k p) (.lit (.bytes b)) := sd_lit (fun _ _ => rfl) fun _ _ _ s _ _ _ _ q => PySem.W.Constant_bytes (q _ _ fun μ => by
  have := VR.bytes (fa := c.fa) (μ := μ) (h := s.heap) b.toArray s.toks
  simpa using this)
theorem sd_global {x : Str} {p : Pos} {v : V} (hG : GlobOk c.fa c.h₀ S.gl) (hx : (x == ("__debug__" : Str)) = false) (hk : S.kind x = some .globalImplicit) (hg : S.gl x = some v) : Sd c S (.Name x p) (.lit v) :=
  sd_lit (fun _ _ => rfl) fun M A env s Q E hE hb q => by
    obtain ⟨u, g1, g2⟩ := hG x v hg
    exact Calls.Name_function_global hE.fn ((hE.kind x).trans hk) (g1 M A E s Q env hb hE.gl hE.bi (q u s.toks fun μ => g2 μ _ hb)) hx
theorem sd_var {x : Str} {p : Pos} {i : Nat} (hx : (x == ("__debug__" : Str)) = false) (hs : S.slot x = some i) : Sd c S (.Name x p) (.var i) :=
  Sd.of_val (fun _ _ => rfl) fun A env ρ H μ s p q Q E e k => obK e fun o h1 e => omK e fun v h2 e => by
    obtain ⟨u, g1, g2⟩ := p.vars.2 x i v hs (h1.trans (congrArg some h2))
    exact wpAny_Name (ld_wp p.eo.fn g1 ((k.of' e).here g2 p.wd.lh)) hx

theorem sd_bin {l r : Expr} {op : Operator} {o : Op} {p : Pos} {a b : Ex} (ho : o.py = op) (h1 : Sd c S l a) (h2 : Sd c S r b) : Sd c S (.BinOp l op r p) (.bin o a b) :=
  Sd.of_val (fun _ _ => rfl) fun A env ρ H μ s p q Q E e k => obK e fun x ex e => obK e fun y ey e => ho ▸ wpAny_BinOp (h1.val p ex fun r => h2.val (p.after r) ey fun r' => bin_ok e (r'.xt.vr r.vr) r'.vr r'.lh (k.step (r.xt.trans r'.xt)))
end


section
variable {c : Cx} {S : Sc} {A : Around} {env : Env} {ρ : Rho} {H H₁ : HP} {μ μ' : List Addr} {s : Shared} {h' : Heap} {tk : Tok}

theorem sd_neg {x : Expr} {p : Pos} {a : Ex} (h1 : Sd c S x a) : Sd c S (.UnaryOp .USub x p) (.neg a) :=
  Sd.of_val (fun _ _ => rfl) fun A env ρ H μ s p q Q E e k => obK e fun y ex e => omK e fun i hi e => UnaryOp_ (h1.val p ex fun r => neg_ok (vr_int hi r.vr) r.lh ((k.of' e).step r.xt))

theorem sd_not {x : Expr} {p : Pos} {a : Ex} (h1 : Sd c S x a) : Sd c S (.UnaryOp .Not x p) (.not a) := fun A env ρ H μ s p =>
  ⟨fun q Q E e k => obK e fun y ex e => omK e fun d hd e => UnaryOp_ (h1.val p ex fun r => not_of (tr_ok hd r.vr (((k.of' e).step r.xt).here (.bool _) r.lh))),
   fun q Q E hb k => by
    obtain ⟨v, h2, h3⟩ := evB_of hb
    refine obK h2 fun y ex e => omK e fun d hd e => isTrue_not (h1.tru p (evB_mk ex hd) fun r => ?_)
    have e2 := congrArg Prod.snd e
    rw [show v = .bool (!d) from (congrArg Prod.fst e).symm] at h3
    rw [← Option.some.inj (show some (!d) = some q.1 from h3)] at k
    exact k ⟨r.h, r.tk, r.μ', e2 ▸ r.lh, r.xt⟩⟩

theorem ite_part {x y : Expr} {a b : Ex} (h1 : Sd c S x a) (h2 : Sd c S y b) (p : Pt c S A env ρ H μ s) (t : Bool) {q : V × HP} {Q E : Value → Shared → Prop} (e : cond t (ev c.Φ a ρ H) (ev c.Φ b ρ H) = some q) (k : Ok c.fa μ s q.1 q.2 Q) :
    (if t = true then wpAny c.M A (eval x env) Q E s else wpAny c.M A (eval y env) Q E s) := by
  cases t with
  | true => exact (if_pos rfl).symm ▸ h1.val p e k
  | false => exact (if_neg Bool.false_ne_true).symm ▸ h2.val p e k
theorem ite_partB {x y : Expr} {a b : Ex} (h1 : Sd c S x a) (h2 : Sd c S y b) (p : Pt c S A env ρ H μ s) (t : Bool) {v : V} {q : Bool × HP} {Q : Bool → Shared → Prop} {E : Value → Shared → Prop} (e : cond t (ev c.Φ a ρ H) (ev c.Φ b ρ H) = some (v, q.2)) (hv : tr v = some q.1) (k : OkB c.fa μ s q.2 (Q q.1)) :
    (if t = true then wpAny c.M A (isTrue x env (eval x env)) Q E s else wpAny c.M A (isTrue y env (eval y env)) Q E s) := by
  cases t with
  | true => exact (if_pos rfl).symm ▸ h1.tru p (evB_mk e hv) k
  | false => exact (if_neg Bool.false_ne_true).symm ▸ h2.tru p (evB_mk e hv) k

theorem sd_ite {g x y : Expr} {p : Pos} {m a b : Ex} (h0 : Sd c S g m) (h1 : Sd c S x a) (h2 : Sd c S y b) : Sd c S (.IfExp g x y p) (.ite m a b) := fun A env ρ H μ s p =>
  ⟨fun q Q E e k => obK e fun z ez e => obK e fun t ht e => IfExp_ (h0.tru p (evB_mk ez ht) fun r => ite_part h1 h2 (p.afterB r) t e (k.step r.xt)),
   fun q Q E hb k => by
    obtain ⟨v, e, h3⟩ := evB_of hb
    exact obK e fun z ez e => obK e fun t ht e => isTrue_IfExp (h0.tru p (evB_mk ez ht) fun r => ite_partB h1 h2 (p.afterB r) t e h3 (k.step r.xt))⟩

theorem sd_cmp {l r : Expr} {op : CmpOp} {o : Cm} {p : Pos} {a b : Ex} (ho : o.py = op) (hb : behindInMarks op r = false) (h1 : Sd c S l a) (h2 : Sd c S r b) : Sd c S (.Compare l [op] [r] p) (.cmp o a b) := by
  subst ho
  have main : ∀ {A env ρ H μ s} {q} {Q E : Value → Shared → Prop}, Pt c S A env ρ H μ s → ev c.Φ (.cmp o a b) ρ H = some q → (∀ d, q.1 = .bool d → OkB c.fa μ s q.2 (Q (.bool d))) →
      wpAny c.M A (eval l env) (fun x s₁ => wpAny c.M A (eval r env) (fun y s₂ => wpAny c.M A (compareOp o.py x y) Q E s₂) E s₁) E s := fun p e k =>
    obK e fun x ex e => obK e fun y ey e => omK e fun d hd e => h1.val p ex fun r => h2.val (p.after r) ey fun r' =>
      cmp_ok hd (r'.xt.vr r.vr) r'.vr r'.lh p.rm.u (k d (congrArg Prod.fst e).symm ⟨r'.h, r'.tk, r'.μ', congrArg Prod.snd e ▸ r'.lh, r.xt.trans r'.xt⟩)
  intro A env ρ H μ s p
  refine ⟨fun q Q E e k => wpAny_Compare1 (main p e fun d hd r => k ⟨_, r.h, r.tk, r.μ', hd ▸ .bool d, r.lh, r.xt⟩) hb, fun q Q E hd k => ?_⟩
  obtain ⟨v, e, h3⟩ := evB_of hd
  refine wpAny_isTrue_Compare1 (main (Q := fun z s₃ => wpAny c.M A (truthy z) Q E s₃) p e fun d hv r => wpAny_truthy_bool ?_) hb
  rw [show v = .bool d from hv] at h3
  rw [Option.some.inj (show some d = some q.1 from h3)]
  exact k ⟨r.h, r.tk, r.μ', r.lh, r.xt⟩

/-! and, or -/
theorem sd_bool1 {op : BoolOp} {x : Expr} {p : Pos} {a : Ex} (h1 : Sd c S x a) : Sd c S (.BoolOp op [x] p) a := fun A env ρ H μ s p =>
  ⟨fun q Q E e k => BoolOp_one (h1.val p e k), fun q Q E hb k => by
    obtain ⟨b, H'⟩ := q
    cases op with
    | And => exact isTrue_and (h1.tru p hb fun r => by cases b with
      | true => exact isTrue_and_nil (k r)
      | false => exact k r)
    | Or => exact isTrue_or (h1.tru p hb fun r => by cases b with
      | true => exact k r
      | false => exact isTrue_or_nil (k r))⟩

theorem sd_and {x y : Expr} {r : List Expr} {p : Pos} {a b : Ex} (h1 : Sd c S x a) (h2 : Sd c S (.BoolOp .And (y :: r) p) b) : Sd c S (.BoolOp .And (x :: y :: r) p) (.and a b) := fun A env ρ H μ s p =>
  ⟨fun q Q E e k => obK e fun z ez e => obK e fun t ht e => BoolOp_and (h1.val p ez fun r => tr_ok ht r.vr (by cases t with
      | true => exact h2.val (p.after r) e (k.step r.xt)
      | false => exact ((k.of e).step r.xt).here r.vr r.lh)),
   fun q Q E hb k => by
    obtain ⟨v, e, h3⟩ := evB_of hb
    refine obK e fun z ez e => obK e fun t ht e => isTrue_and (h1.tru p (evB_mk ez ht) fun r => ?_)
    cases t with
    | true => exact h2.tru (p.afterB r) (evB_mk e h3) (k.step r.xt)
    | false =>
      have e := Option.some.inj (show some z = some (v, q.2) from e)
      rw [e] at ht
      rw [Option.some.inj (h3.symm.trans ht)] at k
      exact k ⟨r.h, r.tk, r.μ', congrArg Prod.snd e ▸ r.lh, r.xt⟩⟩

theorem sd_or {x y : Expr} {r : List Expr} {p : Pos} {a b : Ex} (h1 : Sd c S x a) (h2 : Sd c S (.BoolOp .Or (y :: r) p) b) : Sd c S (.BoolOp .Or (x :: y :: r) p) (.or a b) := fun A env ρ H μ s p =>
  ⟨fun q Q E e k => obK e fun z ez e => obK e fun t ht e => BoolOp_or (h1.val p ez fun r => tr_ok ht r.vr (by cases t with
      | false => exact h2.val (p.after r) e (k.step r.xt)
      | true => exact ((k.of e).step r.xt).here r.vr r.lh)),
   fun q Q E hb k => by
    obtain ⟨v, e, h3⟩ := evB_of hb
    refine obK e fun z ez e => obK e fun t ht e => isTrue_or (h1.tru p (evB_mk ez ht) fun r => ?_)
    cases t with
    | false => exact h2.tru (p.afterB r) (evB_mk e h3) (k.step r.xt)
    | true =>
      have e := Option.some.inj (show some z = some (v, q.2) from e)
      rw [e] at ht
      rw [Option.some.inj (h3.symm.trans ht)] at k
      exact k ⟨r.h, r.tk, r.μ', congrArg Prod.snd e ▸ r.lh, r.xt⟩⟩

/-! lists of expressions -/
noncomputable def noStar (e : Expr) : Bool := !isC 22 e
inductive SdL (c : Cx) (S : Sc) : List Expr → Exs → Prop
  | nil : SdL c S [] .nil
  | cons {e : Expr} {m : Ex} {es : List Expr} {ms : Exs} : Sd c S e m → noStar e = true → SdL c S es ms → SdL c S (e :: es) (.cons m ms)

set_option genInjectivity false in
structure ResL (fa : Nat → Option Addr) (μ : List Addr) (s : Shared) (ls : List V) (H : HP) where
  vs : List Value
  h : Heap
  tk : Tok
  μ' : List Addr
  vr : VRs fa μ' h vs ls
  lh : LH fa μ' H h
  xt : Xt [] μ s.heap μ' h
@[reducible] noncomputable def ResL.st {fa : Nat → Option Addr} {μ : List Addr} {s : Shared} {ls : List V} {H : HP} (r : ResL fa μ s ls H) : Shared := stOf s r.h r.tk
noncomputable def OkL (fa : Nat → Option Addr) (μ : List Addr) (s : Shared) (ls : List V) (H : HP) (Q : List Value → Shared → Prop) : Prop := ∀ r : ResL fa μ s ls H, Q r.vs r.st
theorem Pt.afterL (p : Pt c S A env ρ H μ s) {ls : List V} {H' : HP} (r : ResL c.fa μ s ls H') : Pt c S A env ρ H' r.μ' r.st := p.next r.lh r.xt

theorem starEach_cons {e : Expr} {es : List Expr} {env : Env} (h : noStar e = true) : starEach (e :: es) env = (false, eval e env) :: starEach es env := by
  cases e <;> first | rfl | exact nf h
theorem backTo_cons {e : Sem Value} {es : List (Bool × Sem Value)} {pos : Pos} : backTo pos ((false, e) :: es) = (false, e) :: backTo pos es := rfl

theorem sdl_wp {es : List Expr} {ms : Exs} (h : SdL c S es ms) : ∀ {pos : Pos} {A : Around} {env : Env} {ρ : Rho} {H : HP} {μ : List Addr} {s : Shared}, Pt c S A env ρ H μ s →
    ∀ {q : List V × HP} {Q : List Value → Shared → Prop} {E : Value → Shared → Prop}, evs c.Φ ms ρ H = some q → OkL c.fa μ s q.1 q.2 Q → wpAny c.M A (spliced (backTo pos (starEach es env))) Q E s := by
  induction h with
  | nil =>
    intro pos A env ρ H μ s p q Q E e k
    cases Option.some.inj e
    exact Calls.spliced_nil (k ⟨[], s.heap, s.toks, μ, .nil, p.wd.lh, .refl⟩)
  | cons h1 hs _ ih =>
    intro pos A env ρ H μ s p q Q E e k
    refine obK e fun v e1 e => omK e fun vs e2 e => ?_
    rw [starEach_cons hs, backTo_cons]
    rw [← e] at k
    exact Calls.spliced_cons (h1.val p e1 fun r => ih (p.after r) e2 fun r' => k ⟨r.v :: r'.vs, r'.h, r'.tk, r'.μ', .cons (r'.xt.vr r.vr) r'.vr, r'.lh, r.xt.trans r'.xt⟩)

theorem sdl_plain {es : List Expr} {ms : Exs} (h : SdL c S es ms) (pos : Pos) (env : Env) : (backTo pos (starEach es env)).any (·.1) = false ∧ (backTo pos (starEach es env)).all (fun x => !x.1) = true := by
  induction h with
  | nil => exact ⟨rfl, rfl⟩
  | cons h1 hs _ ih =>
    rw [starEach_cons hs, backTo_cons]
    exact ih

theorem sd_lst {es : List Expr} {ms : Exs} {p : Pos} (h : SdL c S es ms) : Sd c S (.List es p) (.lst ms) :=
  Sd.of_val (fun _ _ => rfl) fun A env ρ H μ s p q Q E e k => obK e fun vs e1 e => oiK e fun hc e => List_ (sdl_wp h p e1 fun r => by
    have := lenOk_le hc
    have hl := r.vr.length
    exact wpAny_newList (((k.of e).step r.xt).new (vs := r.vs) (n := 0) r.lh (push_keeps _ _) (get_size _) (Heap.get?_push_size _ rfl) r.vr r.tk) (by rw [sizeLine_eq]; (first | lia | omega)))
theorem sd_tpl {es : List Expr} {ms : Exs} {j : Nat} {p : Pos} (h : SdL c S es ms) : Sd c S (.Tuple es j p) (.tpl ms) :=
  Sd.of_val (fun _ _ => rfl) fun A env ρ H μ s p q Q E e k => obK e fun vs e1 e => oiK e fun hc e => Tuple_ (sdl_wp h p e1 fun r => by
    have := lenOk_le hc
    have hl := r.vr.length
    exact wpAny_newTuple (((k.of e).step r.xt).ext (push_keeps _ _) (.tup (n := 0) (vs := r.vs) (Heap.get?_push_size _ rfl) (r.vr.mono (List.prefix_refl _) fun b o e _ => push_keeps _ _ b o e)) r.lh r.tk) (by rw [sizeLine_eq]; (first | lia | omega)))
end


section
variable {c : Cx} {S : Sc} {A : Around} {env : Env} {ρ : Rho} {H H' : HP} {μ μ' : List Addr} {s : Shared} {h' : Heap} {tk : Tok}

/-! items and slices -/
noncomputable def sq : V → Bool
  | .list _ => true
  | .tup _ => true
  | .bytes _ => true
  | _ => false
theorem getI_sq {x y r : V} (e : getI x y H = some r) : sq x = true := by
  refine obK e fun k _ e => ?_
  cases x <;> first | rfl | exact no e
theorem slV_sq {x a b c : V} {r : V × HP} (e : slV x a b c H = some r) : sq x = true :=
  oeK e (fun _ e => obK e fun i h _ => by rw [asList_inv h]; rfl) fun b h _ => by rw [asBytes_inv h]; rfl

theorem sub_tail {x : V} {v i : Value} {E Q : Value → Shared → Prop} {value slice : Expr} {ops : List Value} (hx : sq x = true) (r : VR c.fa μ s.heap v x) (l : LH c.fa μ H s.heap)
    (hs : subscripted slice false v i = operate ops (getItem v i)) (h : wpAny c.M A (getItem v i) Q E s) : wpAny c.M A (subscriptTail value slice v i) Q E s := by
  cases x with
  | list =>
    obtain ⟨a, h1, hi⟩ := r.list_inv
    obtain ⟨vs, k, ha⟩ := l.mem (List.mem_of_getElem? hi)
    rw [h1] at h hs ⊢
    exact tail_any (T := "list") ⟨_, ha, rfl⟩ slot_list_getitem.lookup h hs
  | tup =>
    obtain ⟨a, vs, k, h1, ha, _⟩ := r.tup_inv
    rw [h1] at h hs ⊢
    exact tail_any (T := "tuple") ⟨_, ha, rfl⟩ slot_tuple_getitem.lookup h hs
  | bytes =>
    obtain ⟨t, h1⟩ := r.bytes_inv
    rw [h1] at h hs ⊢
    exact tail_any (T := "bytes") (typeIs_bytes _ _ _) FB.slot_bytes_getitem.lookup h hs
  | _ => exact nf hx

theorem subscripted_plain {slice : Expr} {o i : Value} (h : isSl slice = false) : subscripted slice false o i = operate [o, i] (getItem o i) := by
  cases slice <;> first | rfl | exact nt h
theorem subscripted_slice {l u s : Option Expr} {p : Pos} {o i : Value} : ∃ ops, subscripted (.Slice l u s p) false o i = operate ops (getItem o i) := by
  cases s with
  | none => exact ⟨_, rfl⟩
  | some _ => exact ⟨_, rfl⟩

theorem sd_idx {o i : Expr} {p : Pos} {a b : Ex} (hi : isSl i = false) (h1 : Sd c S o a) (h2 : Sd c S i b) : Sd c S (.Subscript o i p) (.idx a b) :=
  Sd.of_val (fun _ _ => rfl) fun A env ρ H μ s p q Q E e k => obK e fun x ex e => obK e fun y ey e => omK e fun v hg e => Subscript_ (h1.val p ex fun r => h2.val (p.after r) ey fun r' =>
    sub_tail (getI_sq hg) (r'.xt.vr r.vr) r'.lh (subscripted_plain hi) (getI_ok hg (r'.xt.vr r.vr) r'.vr r'.lh fun z tz rz => ((k.of' e).step (r.xt.trans r'.xt)).pure rz r'.lh tz))

inductive SdO (c : Cx) (S : Sc) : Option Expr → Ex → Prop
  | none : SdO c S none (.lit .none)
  | some {e : Expr} {m : Ex} : Sd c S e m → SdO c S (some e) m
theorem sdo_wp {x : Option Expr} {m : Ex} (h : SdO c S x m) (p : Pt c S A env ρ H μ s) {q : V × HP} {Q E : Value → Shared → Prop} (e : ev c.Φ m ρ H = some q) (k : Ok c.fa μ s q.1 q.2 Q) : wpAny c.M A (evalPart x env) Q E s := by
  cases h with
  | none => exact wpAny_evalPart_none ((k.of e).here .none p.wd.lh)
  | some h => exact wpAny_evalPart_some (h.val p e k)

theorem sd_sl {o : Expr} {l u t : Option Expr} {p p' : Pos} {a b d f : Ex} (h1 : Sd c S o a) (h2 : SdO c S l b) (h3 : SdO c S u d) (h4 : SdO c S t f) :
    Sd c S (.Subscript o (.Slice l u t p') p) (.sl a b d f) :=
  Sd.of_val (fun _ _ => rfl) fun A env ρ H μ s p q Q E e k => obK e fun x ex e => obK e fun y₁ e1 e => obK e fun y₂ e2 e => obK e fun y₃ e3 e => Subscript_ (h1.val p ex fun r₀ => wpAny_Slice (sdo_wp h2 (p.after r₀) e1 fun r₁ =>
    sdo_wp h3 ((p.after r₀).after r₁) e2 fun r₂ => sdo_wp h4 (((p.after r₀).after r₁).after r₂) e3 fun r₃ => by
      have t5 : Xt [] r₃.μ' r₃.h r₃.μ' (r₃.h.push { cls := .type "slice", data := .fields #[r₁.v, r₂.v, r₃.v] }) := .ext (push_keeps _ _)
      have l5 := r₃.lh.ext (push_keeps r₃.h { cls := .type "slice", data := .fields #[r₁.v, r₂.v, r₃.v] })
      have t35 := r₃.xt.trans t5
      have t25 := r₂.xt.trans t35
      have t15 := r₁.xt.trans t25
      obtain ⟨ops, ho⟩ := subscripted_slice (l := l) (u := u) (s := t) (p := p') (o := r₀.v) (i := Value.ref r₃.h.objs.size)
      exact sub_tail (slV_sq e) (t15.vr r₀.vr) l5 ho (sl_ok e (t15.vr r₀.vr) (t25.vr r₁.vr) (t35.vr r₂.vr) (t5.vr r₃.vr) (Heap.IsSliceOf.new _ _ _ _) l5 (k.step (r₀.xt.trans t15)))))

/-! calls -/
theorem eval_Call_plain {f : Expr} {args : List Expr} {kws : List Keyword} {pos : Pos} {env : Env} (h : ∀ o x p, f ≠ .Attribute o x p) :
    eval (.Call f args kws pos) env = (do let v ← eval f env; callWith pos v [] (backTo pos (starEach args env)) (backToKw pos (keywordEach kws env))) := by
  cases f <;> first | rfl | exact absurd rfl (h _ _ _)

theorem evalArgs_all {M : Model} {A : Around} {E : Value → Shared → Prop} {s : Shared} {f : Value} {args : List (Bool × Sem Value)} {keywords : List (Option Str × Sem Value)} {Q : Args → Shared → Prop} (ha : args.any (·.1) = false)
    (hall : keywords.all (·.1.isSome) = true)
    (h : wpAny M A (spliced args) (fun vs s₁ => wpAny M A (evalAll (keywords.map (·.2))) (fun kvs s₂ => Q ⟨vs, (keywords.filterMap (·.1)).zip kvs⟩ s₂) E s₁) E s) :
    wpAny M A (evalArgs f true args keywords) Q E s := by
  cases args with
  | nil =>
    unfold evalArgs
    show wpAny M A (spliced [] >>= _) Q E s
    refine wpAny_bind (wpAny_mono h (fun vs s' h' => ?_) fun _ _ x => x)
    refine wpAny_holding ?_
    rw [if_pos hall]
    refine wpAny_bind (wpAny_mono h' (fun kvs s₂ h₂ => ?_) fun _ _ x => x)
    exact wpAny_bind (wpAny_pure (wpAny_pure h₂))
  | cons a r =>
    obtain ⟨b, x⟩ := a
    have : b = false := by
      simp only [List.any_cons, Bool.or_eq_false_iff] at ha
      exact ha.1
    subst this
    exact evalArgs_kwB hall h

theorem callWith_mach {M : Model} {A : Around} {E : Value → Shared → Prop} {s : Shared} {pos : Pos} {b : Bi} {first : List Value} {args : List (Bool × Sem Value)} {Q : Value → Shared → Prop}
    (hplain : args.any (·.1) = false) (h : wpAny M A (spliced args) (fun vs s₁ => wpAny M A (call b.val (first ++ vs)) Q E s₁) E s) :
    wpAny M A (callWith pos b.val first args []) Q E s := by
  unfold callWith
  refine wpAny_bind (wpAny_holding (evalArgs_all hplain rfl (wpAny_mono h (fun vs s₁ h₁ => evalAll_nil (wpAny_bind (wpAny_standAt ?_))) fun _ _ x => x)))
  have e1 : keeperOf b.val = pure Keeper.machine := by cases b <;> rfl
  simp only [hplain, List.any_nil, Bool.or_false, e1]
  refine wpAny_bind (wpAny_pure ?_)
  exact wpAny_bind (wpAny_mono h₁ (fun r s₂ hr => wpAny_bind (wpAny_holding (wpAny_point (wpAny_pure hr)))) fun _ _ x => x)

theorem fn_wp {E Q : Value → Shared → Prop} {a : Addr} {k : Nat} {args : List V} {vs : List Value} {key : Option V} {kws : List (Str × Value)} {q : V × HP} (hΦ : FnOk c) (p : Pt c S A env ρ H μ s) (hf : c.fa k = some a)
    (e : c.Φ k args key H = some q) (rs : VRs c.fa μ s.heap vs args) (hk : KwOk c.fa μ s.heap key kws) (kk : Ok c.fa μ s q.1 q.2 Q) :
    wpAny c.M A (call (.ref a) vs kws) Q E s :=
  wpAny_call (hΦ k args key H q e A s μ a vs kws _ p.rm p.wd hf rs hk kk)

theorem sd_call {f : Expr} {args : List Expr} {pos : Pos} {a : Ex} {ms : Exs} (hA : ∀ o x p, f ≠ .Attribute o x p) (hΦ : FnOk c) (hF : FaOk c.fa c.h₀) (h1 : Sd c S f a) (h2 : SdL c S args ms) :
    Sd c S (.Call f args [] pos) (.call a ms) :=
  Sd.of_val (fun _ _ => rfl) fun A env ρ H μ s p q Q E e k => obK e fun g ef e => obK e fun vs ea e => by
    rw [eval_Call_plain hA]
    refine wpAny_bind (h1.val p ef fun r => ?_)
    have p1 := (sdl_plain h2 pos env).1
    have p' := p.after r
    obtain ⟨g, H₁⟩ := g
    cases g with
    | fn j =>
      obtain ⟨b, hb, hc⟩ := r.vr.fn_inv
      obtain ⟨o, fd, ho, hd⟩ := hF j b hc
      rw [hb]
      exact callWith_def_kw hd (evalArgs_all p1 rfl (sdl_wp h2 p' ea fun r' => evalAll_nil ⟨(p'.afterL r').wd.base _ _ ho, fn_wp hΦ (p'.afterL r') hc e r'.vr rfl (k.step (r.xt.trans r'.xt))⟩))
    | bi b =>
      rw [r.vr.bi_inv]
      exact callWith_mach p1 (sdl_wp h2 p' ea fun r' => bi_ok p.rm.1 p.rm.u (show bi b vs.1 vs.2 = some (q.1, q.2) from e) r'.vr r'.lh (k.step (r.xt.trans r'.xt)))
    | _ => exact no e

theorem app_biK {P : Prop} {Φ : FnT} {b : Bi} {args : List V} {k : V} {q : V × HP} (h : app Φ (.bi b) args (some k) H = some q) : P := nf (oi (show (if (some k).isNone = true then bi b args H else none) = some q from h)).1

theorem sd_callK {f : Expr} {args : List Expr} {pos : Pos} {kp : Pos} {e : Expr} {a m : Ex} {ms : Exs} (hA : ∀ o x p, f ≠ .Attribute o x p) (hΦ : FnOk c) (hF : FaOk c.fa c.h₀) (h1 : Sd c S f a) (h2 : SdL c S args ms)
    (h3 : Sd c S e m) : Sd c S (.Call f args [⟨some "key", e, kp⟩] pos) (.callK a ms m) :=
  Sd.of_val (fun _ _ => rfl) fun A env ρ H μ s p q Q E e k => obK e fun g ef e => obK e fun vs ea e => obK e fun kv ek e => by
    rw [eval_Call_plain hA]
    refine wpAny_bind (h1.val p ef fun r => ?_)
    have p1 := (sdl_plain h2 pos env).1
    have p' := p.after r
    obtain ⟨g, H₁⟩ := g
    cases g with
    | fn j =>
      obtain ⟨b, hb, hc⟩ := r.vr.fn_inv
      obtain ⟨o, fd, ho, hd⟩ := hF j b hc
      rw [hb]
      exact callWith_def_kw hd (evalArgs_all p1 rfl (sdl_wp h2 p' ea fun r' => kws_cons (h3.val (p'.afterL r') ek fun r₃ => kws_nil ⟨((p'.afterL r').after r₃).wd.base _ _ ho,
        fn_wp hΦ ((p'.afterL r').after r₃) hc e (r₃.xt.vrs r'.vr) ⟨r₃.v, rfl, r₃.vr⟩ (k.step ((r.xt.trans r'.xt).trans r₃.xt))⟩)))
    | bi b => exact app_biK e
    | _ => exact no e

/-! methods -/
theorem mt_facts (m : Mt) : PlainAttrs "list" ∧ Slot "list" m.name m.id ∧ typeOf (.builtin m.id) = pure (.type "method_descriptor") := by
  cases m with
  | append => exact ⟨F.plainAttrs_list, F.slot_list_append, F.type_list_append⟩
  | insert => exact ⟨F.plainAttrs_list, F.slot_list_insert, F.type_list_insert⟩
  | pop => exact ⟨F.plainAttrs_list, F.slot_list_pop, F.type_list_pop⟩
  | remove => exact ⟨F.plainAttrs_list, F.slot_list_remove, F.type_list_remove⟩
theorem attributeBase_plain {o : Expr} {name : Str} {env : Env} (h : plainBase o = true) : attributeBase o name env (eval o env) = eval o env := by
  cases o <;> first | rfl | exact nf h

theorem sd_meth {o : Expr} {args : List Expr} {apos pos : Pos} {a : Ex} {ms : Exs} (m : Mt) (hb : plainBase o = true) (hline : (apos.endLine == pos.line) = true) (hlen : args.length < 20) (h1 : Sd c S o a) (h2 : SdL c S args ms) :
    Sd c S (.Call (.Attribute o m.name apos) args [] pos) (.meth m a ms) :=
  Sd.of_val (fun _ _ => rfl) fun A env ρ H μ s p q Q E e k => obK e fun x ex e => obK e fun vs ea e => by
    obtain ⟨p1, p2⟩ := sdl_plain h2 pos env
    refine wpAny_Call_method_late (attributeBase_plain hb) (by simp [p2, backToKw, keywordEach]; (first | lia | omega)) hline rfl (h1.val p ex fun r => ?_)
    have p' := p.after r
    obtain ⟨f1, f2, f3⟩ := mt_facts m
    obtain ⟨i, hi, _⟩ := ob e
    obtain ⟨b, hv, hi⟩ := (vr_list hi r.vr).list_inv
    obtain ⟨ws, j, hc⟩ := r.lh.mem (List.mem_of_getElem? hi)
    refine ⟨"list", m.id, f1, f2, f3, hv ▸ ⟨_, hc, rfl⟩, fun b' hb' => ?_, ?_⟩
    · rw [hv] at hb'
      cases hb'
      exact ⟨_, hc, rfl⟩
    · exact Calls.callWith_builtin p1 (evalArgs_all p1 rfl (sdl_wp h2 p' ea fun r' => evalAll_nil (meth_ok e (r'.xt.vr r.vr) r'.vr r'.lh (k.step (r.xt.trans r'.xt)))))
end


/-! targets -/
section
variable {fa : Nat → Option Addr} {FA : List Addr} {μ : List Addr} {h h' h'' : Heap} {H : HP}
theorem Xt.any (x : Xt FA [] h [] h') (hz : ∀ a, μ[0]? = some a → a ∉ FA) : Xt FA μ h μ h' := ⟨List.prefix_refl _, fun _ a b => absurd a b, x.live, fun b o e _ h2 => x.keep b o e (List.not_mem_nil) h2, x.kv, fun a o e1 e2 => x.keep a o e2 (List.not_mem_nil) (hz a e1)⟩
theorem Xt.vr0 (x : Xt FA [] h [] h') {v : Value} {l : V} (r : VR fa μ h v l) : VR fa μ h' v l := r.mono (List.prefix_refl _) x.kv
theorem Xt.vrs0 (x : Xt FA [] h [] h') {v : List Value} {l : List V} (r : VRs fa μ h v l) : VRs fa μ h' v l := r.mono (List.prefix_refl _) x.kv
theorem Xt.sameBut {a : Addr} {o o' : Obj} (hs : Heap.SameBut a h h') (ha : a ∈ FA) (ho : h.get? a = some o) (hv : ¬ isV o) (ho' : h'.get? a = some o') : Xt FA [] h [] h' where
  pre := List.prefix_refl _
  new := fun _ a b => absurd a b
  live := fun b x e => by
    by_cases hb : b = a
    · subst hb; exact ⟨_, ho'⟩
    · exact ⟨x, (hs.2 b hb).trans e⟩
  keep := fun b x e _ h2 => (hs.2 b (fun hb => h2 (hb ▸ ha))).trans e
  kv := fun b x e hV => by
    by_cases hb : b = a
    · subst hb; rw [ho] at e; cases e; exact absurd hV hv
    · exact (hs.2 b hb).trans e
  zero := fun _ _ e => by simp at e
theorem not_isV_dict {o : Obj} {es : Array DictEntry} {ep : Nat} (hd : o.data = .dict es ep) : ¬ isV o := by
  rintro (⟨_, xs, n, e⟩ | ⟨_, fs, e⟩) <;> · rw [hd] at e; cases e
theorem not_isV_cell {o : Obj} {v : Option Value} (hd : o.data = .cell v) : ¬ isV o := by
  rintro (⟨_, xs, n, e⟩ | ⟨_, fs, e⟩) <;> · rw [hd] at e; cases e
end

structure Frm (M : Model) (A : Around) (env : Env) (FA : List Addr) (ts : List Str) (T : Heap → (Str → Option Value) → Prop) : Prop where
  store : ∀ x ∈ ts, ∀ (s : Shared) (v : Value) (f : Str → Option Value) (Q : Unit → Shared → Prop) (E : Value → Shared → Prop), T s.heap f →
    (∀ h' tk, T h' (fun y => if y = x then some v else f y) → Xt FA [] s.heap [] h' → Q () (stOf s h' tk)) → wpAny M A (storeName env x v) Q E s
  ext : ∀ h h' f, T h f → (∀ b o, h.get? b = some o → h'.get? b = some o) → T h' f

noncomputable def Upd (f : Str → Option Value) : List (Str × Value) → (Str → Option Value)
  | [] => f
  | p :: l => Upd (fun y => if y = p.1 then some p.2 else f y) l

section
variable {M : Model} {prog : Program} {w : World} {A : Around} {env : Env} {FA : List Addr} {ts : List Str} {T : Heap → (Str → Option Value) → Prop} {fa : Nat → Option Addr} {μ : List Addr} {H : HP}

theorem namesIn_cons {e : Expr} {es : List Expr} {xs : List Str} (h : namesIn (e :: es) = some xs) : ∃ x p ys, e = .Name x p ∧ namesIn es = some ys ∧ xs = x :: ys :=
  obK h fun x h1 h => omK h fun ys h2 h => let ⟨p, hp⟩ := nameOf_inv h1; ⟨x, p, ys, hp, h2, h.symm⟩
theorem namesIn_len : ∀ (es : List Expr) {xs : List Str}, namesIn es = some xs → (assignEach es env).length = xs.length ∧ (assignEach es env).findIdx? (·.1) = none := by
  intro es
  induction es with
  | nil => intro xs h; cases Option.some.inj h; exact ⟨rfl, rfl⟩
  | cons e es ih =>
    intro xs h
    obtain ⟨x, p, ys, rfl, h2, rfl⟩ := namesIn_cons h
    obtain ⟨g1, g2⟩ := ih h2
    refine ⟨congrArg (· + 1) g1, ?_⟩
    show List.findIdx? (·.1) ((false, assign (.Name x p) env) :: assignEach es env) = none
    rw [List.findIdx?_cons]
    simp [g2]

theorem names_wp (F : Frm M A env FA ts T) : ∀ (es : List Expr) {xs : List Str} {us : List Value} {s : Shared} {f : Str → Option Value} {Q : Unit → Shared → Prop} {E : Value → Shared → Prop}, namesIn es = some xs → (∀ x ∈ xs, x ∈ ts) → us.length = xs.length → T s.heap f →
    (∀ h' tk, T h' (Upd f (xs.zip us)) → Xt FA [] s.heap [] h' → Q () (stOf s h' tk)) → wpAny M A (assignInOrder ((assignEach es env).map (·.2)) us) Q E s := by
  intro es
  induction es with
  | nil =>
    intro xs us s f Q E h _ hl hT k
    cases Option.some.inj h
    rw [List.eq_nil_of_length_eq_zero hl] at k ⊢
    exact wpAny_pure (k s.heap s.toks hT .refl)
  | cons e es ih =>
    intro xs us s f Q E h hsub hl hT k
    obtain ⟨x, p, ys, rfl, h2, rfl⟩ := namesIn_cons h
    cases us with
    | nil => exact nomatch hl
    | cons u us =>
      show wpAny M A (do holding (u :: us |>.tail) (assign (.Name x p) env u); assignInOrder ((assignEach es env).map (·.2)) us) Q E s
      exact wpAny_bind (wpAny_holding (wpAny_assign_Name (F.store x (hsub x (List.mem_cons_self ..)) s u f _ E hT fun h' tk hT' xt =>
        ih (s := stOf s h' tk) h2 (fun y hy => hsub y (List.mem_cons_of_mem _ hy)) (Nat.succ.inj hl) hT' fun h'' tk' hT'' xt' => k h'' tk' hT'' (xt.trans xt'))))

set_option genInjectivity false in
/-- what a target's assigning leaves -/
structure ResT (fa : Nat → Option Addr) (μ : List Addr) (FA : List Addr) (ts : List Str) (T : Heap → (Str → Option Value) → Prop) (f : Str → Option Value) (s : Shared) (ps : List V) where
  us : List Value
  h : Heap
  tk : Tok
  vr : VRs fa μ h us ps
  len : us.length = ts.length
  t : T h (Upd f (ts.zip us))
  xt : Xt FA [] s.heap [] h
@[reducible] noncomputable def ResT.st {fa : Nat → Option Addr} {μ : List Addr} {FA : List Addr} {ts : List Str} {T : Heap → (Str → Option Value) → Prop} {f : Str → Option Value} {s : Shared} {ps : List V} (r : ResT fa μ FA ts T f s ps) : Shared := stOf s r.h r.tk

theorem tuple_wp (F : Frm (model prog w) A env FA ts T) (hA : A.handled = none) {es : List Expr} {j : Nat} {p : Pos} {x : V} {v : Value} {ps xs : List V} {s : Shared} {f : Str → Option Value} {Q : Unit → Shared → Prop} {E : Value → Shared → Prop} (hn : namesIn es = some ts) (hp : partsOf x H = some xs) (hl : xs.length = ts.length)
    (r : VR fa μ s.heap v x) (l : LH fa μ H s.heap) (hT : T s.heap f) (k : ∀ r : ResT fa μ FA ts T f s xs, Q () r.st) : wpAny (model prog w) A (assign (.Tuple es j p) env v) Q E s := by
  obtain ⟨g1, g2⟩ := namesIn_len (env := env) es hn
  have fin : ∀ (us : List Value) (h' : Heap), VRs fa μ s.heap us xs → Heap.ExtBut s.heap.objs.size s.heap h' → wpAny (model prog w) A (assignInOrder ((assignEach es env).map (·.2)) us) Q E { s with heap := h' } := fun us h' hv he => by
    have hk : ∀ b o, s.heap.get? b = some o → h'.get? b = some o := fun b o e => he b o (Nat.ne_of_lt (Heap.lt_size e)) e
    exact names_wp F es (s := { s with heap := h' }) hn (fun _ h => h) (hv.length.trans hl) (F.ext _ _ _ hT hk) fun h'' tk hT' xt =>
      have x2 : Xt FA [] s.heap [] h'' := (Xt.ext hk).trans xt
      k ⟨us, h'', tk, x2.vrs0 hv, hv.length.trans hl, hT', x2⟩
  cases x with
  | tup ys =>
    cases Option.some.inj hp
    refine r.tupK fun a vs j ha hvs => wpAny_assign_Tuple hA ⟨_, ha, rfl, j, rfl⟩ (by rw [g1, List.size_toArray, hvs.length, hl]) g2 fun h' he => fin vs h' hvs he
  | list i =>
    refine l.getK r hp fun a vs j _ ha hvs => ?_
    rw [arm_assign_Tuple]
    refine wpAny_bind (wpAny_standAt ?_)
    unfold unpack
    rw [g2, show (assignEach es env).length = vs.toArray.size by rw [g1, List.size_toArray, hvs.length, hl]]
    exact wpAny_bind (wpAny_holding (kun_itemsOf hA (isList_of ha) fun h' he => fin vs h' hvs he))
  | _ => exact no hp

theorem target_wp (F : Frm (model prog w) A env FA ts T) (hA : A.handled = none) {t : Expr} {tp : Bool} {x : V} {v : Value} {ps : List V} {s : Shared} {f : Str → Option Value} {Q : Unit → Shared → Prop} {E : Value → Shared → Prop} (ht : targetsOf t = some (ts, tp)) (hp : parts tp ts.length x H = some ps)
    (r : VR fa μ s.heap v x) (l : LH fa μ H s.heap) (hT : T s.heap f) (k : ∀ r : ResT fa μ FA ts T f s ps, Q () r.st) :
    wpAny (model prog w) A (assign t env v) Q E s := by
  have hv := view_of t
  unfold targetsOf at ht
  cases hw : view t with
  | name y =>
    rw [hw] at ht hv
    obtain ⟨p, rfl⟩ := hv
    cases Option.some.inj ht
    cases Option.some.inj (show some [x] = some ps from hp)
    exact wpAny_assign_Name (F.store y (List.mem_cons_self ..) s v f _ E hT fun h' tk hT' xt => k ⟨[v], h', tk, .cons (xt.vr0 r) .nil, rfl, hT', xt⟩)
  | tup es =>
    rw [hw] at ht hv
    obtain ⟨j, p, rfl⟩ := hv
    refine omK ht fun xs hn e => ?_
    cases e
    exact obK (show ((partsOf x H).bind fun xs => if xs.length = ts.length then some xs else none) = some ps from hp) fun ys hy e => oiK e fun hl e => by
      cases Option.some.inj e
      exact tuple_wp (ps := ps) F hA hn hy hl r l hT k
  | _ => rw [hw] at ht; exact no ht

/-! iterators -/
noncomputable def Kx (F : List Addr) (h h' : Heap) : Prop := ∀ b o, b ∉ F → h.get? b = some o → h'.get? b = some o
noncomputable def itTypes : List String := ["list_iterator", "range_iterator", "bytes_iterator"]
structure ItLive (I : Addr) (h : Heap) : Prop where
  ex : ∃ o c fs, h.get? I = some o ∧ o.cls = .type c ∧ o.data = .fields fs ∧ c ∈ itTypes
/-- an iterator -/
structure It (prog : Program) (w : World) (A : Around) (fa : Nat → Option Addr) (I : Addr) (src : Src) (μ₀ : List Addr) (T : Nat → Heap → Prop) : Prop where
  frame : ∀ i h h', T i h → (∀ o, h.get? I = some o → h'.get? I = some o) → T i h'
  live : ∀ i h, T i h → ItLive I h
  item : ∀ i (s : Shared) (μ : List Addr) (H : HP) (xs : List V) (x : V) (Q : Option Value → Shared → Prop) (E : Value → Shared → Prop), T i s.heap → LH fa μ H s.heap → μ₀ <+: μ → src.items H = some xs → xs[i]? = some x →
    (∀ v h' tk, VR fa μ h' v x → T (i + 1) h' → Kx [I] s.heap h' → Q (some v) (stOf s h' tk)) → wpAny (model prog w) A (pyNext (.ref I)) Q E s
  done : ∀ i (s : Shared) (μ : List Addr) (H : HP) (xs : List V) (Q : Option Value → Shared → Prop) (E : Value → Shared → Prop), T i s.heap → LH fa μ H s.heap → μ₀ <+: μ → src.items H = some xs → xs[i]? = none → (∀ vs, src = .fixed vs → i ≤ vs.length) →
    (∀ h' tk, Kx [I] s.heap h' → Q none (stOf s h' tk)) → wpAny (model prog w) A (pyNext (.ref I)) Q E s
  self : ∀ i (s : Shared) (Q : Value → Shared → Prop) (E : Value → Shared → Prop), T i s.heap → Q (.ref I) s → wpAny (model prog w) A (pyIter (.ref I)) Q E s

theorem ItLive.nv {I : Addr} {h : Heap} (x : ItLive I h) : ∀ o, h.get? I = some o → ¬ isV o := by
  obtain ⟨o', c, fs, q1, q2, q3, q4⟩ := x
  intro o e
  cases Option.some.inj (q1.symm.trans e)
  rintro (⟨e1, _⟩ | ⟨e1, _⟩) <;> · rw [q2] at e1; cases e1; exact absurd q4 (by decide)
theorem ItLive.mem {I : Addr} {h : Heap} (x : ItLive I h) (l : LH fa μ H h) : I ∉ μ := by
  obtain ⟨o', c, fs, q1, q2, q3, q4⟩ := x
  exact l.not_mem_of q1 fun vs n e => by rw [e] at q3; cases q3

theorem it_list (hA : A.handled = none) {I a : Addr} {id : Nat} {μ₀ : List Addr} (ha : μ₀[id]? = some a) : It prog w A fa I (.lst id) μ₀ (fun i h => h.IsListIter I a i) where
  frame := fun i h h' t k => t.at k
  live := fun i h t => let ⟨o, h1, h2, h3⟩ := t; ⟨o, _, _, h1, h2, h3, by decide⟩
  item := fun i s μ H xs x Q E t l hp hi hx k => by
    obtain ⟨vs, n, h1, h2⟩ := l.at' id a xs (prefix_get hp ha) hi
    obtain ⟨v, g1, g2⟩ := h2.get hx
    obtain ⟨oI, hI, hc, hd⟩ := (show s.heap.IsListIter I a i from t)
    refine wpAny_pyNext_list_item t (isList_of h1) (x := v) (by simpa using g1) fun h' ht hs => ?_
    have keep : ∀ b o, b ≠ I → s.heap.get? b = some o → h'.get? b = some o := fun b o hb e => (hs.2 b hb).trans e
    exact k v h' s.toks (g2.mono (List.prefix_refl _) fun b o e hV => keep b o (fun hb => ItLive.nv ⟨_, _, _, hI, hc, hd, by decide⟩ o (hb ▸ e) hV) e) ht fun b o hb e => keep b o (fun h => hb (h ▸ List.mem_cons_self ..)) e
  done := fun i s μ H xs Q E t l hp hi hx _ k => by
    obtain ⟨vs, n, h1, h2⟩ := l.at' id a xs (prefix_get hp ha) hi
    have hn : vs.toArray[i]? = none := by
      rw [List.getElem?_toArray, List.getElem?_eq_none_iff, h2.length]
      exact List.getElem?_eq_none_iff.mp hx
    exact wpAny_pyNext_list_end hA t (isList_of h1) hn fun h' hs => k h' s.toks fun b o hb e => hs b o (fun h => hb (h ▸ List.mem_cons_self ..)) e
  self := fun i s Q E t k => wpAny_pyIter_listiter t k

theorem it_walks {I : Addr} {vs : List V} {μ₀ : List Addr} {P : Nat → Value → Prop} {T : Nat → Heap → Prop} {n : Nat} (W : Walks prog w A I [I] [I] n P T) (hn : n = vs.length) (hP : ∀ i v x, P i v → vs[i]? = some x → ∀ μ h, VR fa μ h v x)
    (live : ∀ i h, T i h → ItLive I h) : It prog w A fa I (.fixed vs) μ₀ T where
  frame := fun i h h' t k => W.frame i h h' t fun b hb o e => by
    rw [List.mem_singleton.mp hb] at e ⊢; exact k o e
  live := live
  item := fun i s μ H xs x Q E t l hp hi hx k => by
    cases Option.some.inj hi
    exact W.item i s Q E (by rw [hn]; exact lt_of_get hx) t fun v h' tk hv ht hk => k v h' tk (hP i v x hv hx _ _) ht hk
  done := fun i s μ H xs Q E t l hp hi hx hle k => by
    cases Option.some.inj hi
    have e : i = n := hn ▸ Nat.le_antisymm (hle _ rfl) (List.getElem?_eq_none_iff.mp hx)
    subst e
    exact W.done s Q E t fun h' tk hk => k h' tk hk
  self := fun i s Q E t k => W.self i s Q E t k

set_option genInjectivity false in
/-- what starting an iterator leaves -/
structure ResI (prog : Program) (w : World) (A : Around) (fa : Nat → Option Addr) (μ : List Addr) (H : HP) (s : Shared) (src : Src) where
  I : Addr
  h : Heap
  tk : Tok
  T : Nat → Heap → Prop
  it : It prog w A fa I src μ T
  t0 : T 0 h
  keep : ∀ b o, s.heap.get? b = some o → h.get? b = some o
  new : s.heap.get? I = none
  items : ∃ xs, src.items H = some xs ∧ xs.length ≤ 1048576
@[reducible] noncomputable def ResI.st {prog : Program} {w : World} {A : Around} {fa : Nat → Option Addr} {μ : List Addr} {H : HP} {s : Shared} {src : Src} (r : ResI prog w A fa μ H s src) : Shared := stOf s r.h r.tk
theorem src_wp (hA : A.handled = none) {x : V} {v : Value} {src : Src} {s : Shared} {Q E : Value → Shared → Prop} (e : srcOf x H = some src) (r : VR fa μ s.heap v x) (l : LH fa μ H s.heap)
    (k : ∀ r : ResI prog w A fa μ H s src, Q (.ref r.I) r.st) : wpAny (model prog w) A (pyIter v) Q E s := by
  cases x with
  | list i =>
    refine obK e fun xs hx e => oiK e fun hc e => ?_
    cases Option.some.inj e
    exact l.getK r hx fun a vs n hi ha hvs => wpAny_pyIter_list (isList_of ha) (k ⟨s.heap.objs.size, _, s.toks, _, it_list hA hi, ⟨_, Heap.get?_push_size _ rfl, rfl, rfl⟩, push_keeps _ _, get_size _, xs, hx, lenOk_le hc⟩)
  | range a b d =>
    refine omK e fun xs hx e => ?_
    cases e
    obtain ⟨a', b', d', ⟨⟩, rfl, h1, h2, h3, h4, h5⟩ := rangeV_inv hx
    refine r.rangeK fun p t u u' hr => wpAny_pyIter_range hr (small_range h2 h3 h4) ?_
    have hlen : (rangeL a b d).length = (Builtin.Range.rangeSize a b d).toNat := by simp [rangeL, rangeInts_length]
    refine k ⟨s.heap.objs.size, _, s.toks, _, it_walks (Walks.range hA s.heap.objs.size a d (Builtin.Range.rangeSize a b d).toNat) hlen.symm (fun i v x hv hx μ h => ?_) fun i h t => ⟨_, _, _, t, rfl, rfl, by decide⟩, ?_, push_keeps _ _, get_size _, _, rfl, lenOk_le h1⟩
    · obtain ⟨t, rfl⟩ := hv
      have hi : i < (Builtin.Range.rangeSize a b d).toNat := by rw [← hlen]; exact lt_of_get hx
      simp only [rangeL, List.getElem?_map, rangeInts_get hi, Option.map_some] at hx
      cases hx
      exact .int _ _
    · have e1 : Builtin.Range.rangeSize a b d = ((Builtin.Range.rangeSize a b d).toNat : Int) := rangeSize_toNat a b d
      have : IsRangeIter (s.heap.push { cls := .type "range_iterator", data := .fields #[rawInt a, rawInt (Builtin.Range.rangeSize a b d), rawInt d] }) s.heap.objs.size a (Builtin.Range.rangeSize a b d) d := Heap.get?_push_size _ rfl
      have e2 : ((Builtin.Range.rangeSize a b d).toNat : Int) - ((0 : Nat) : Int) = Builtin.Range.rangeSize a b d := by (first | lia | omega)
      have e3 : a + ((0 : Nat) : Int) * d = a := by simp
      show IsRangeIter _ _ (a + ((0 : Nat) : Int) * d) (((Builtin.Range.rangeSize a b d).toNat : Int) - ((0 : Nat) : Int)) d
      rw [e2, e3]; exact this
  | bytes b =>
    refine oiK e fun hc e => ?_
    cases Option.some.inj e
    refine r.bytesK fun t => KBw.pyIter_bytes ?_
    refine k ⟨s.heap.objs.size, _, s.toks, _, it_walks (KBw.walks hA s.heap.objs.size b.toArray t) (by simp) (fun i v x hv hx μ h => ?_) fun i h t => ?_, ⟨_, Heap.get?_push_size _ rfl, rfl, rfl⟩, push_keeps _ _, get_size _, _, rfl, by simpa using lenOk_le hc⟩
    · obtain ⟨d, u, h1, rfl⟩ := hv
      have h1' : b[i]? = some d := by simpa using h1
      simp only [List.getElem?_map, h1', Option.map_some] at hx
      cases hx
      exact .int _ _
    · obtain ⟨o, h1, h2, h3⟩ := t
      exact ⟨o, _, _, h1, h2, h3, by decide⟩
  | _ => exact no e

theorem letOwned_wp {I : Addr} {t : Expr} {v : Value} {s : Shared} {Q : Unit → Shared → Prop} {E : Value → Shared → Prop} (live : ItLive I s.heap) (k : Q () s) :
    wpAny M A (letOwnedTupleGo t (.ref I) v) Q E s := by
  obtain ⟨⟨cl, d, da, sl⟩, c, fs, h1, h2, h3, h4⟩ := live
  simp only at h2 h3
  subst h2; subst h3
  have main : ∀ a, v = .ref a → wpAny M A (do
      let o ← load I
      match o.cls, o.data with
      | .type n, .fields vs =>
        if ["enumerate", "zip", "dict_itemiterator", "dict_reverseitemiterator", "odict_iterator", "itertools.zip_longest", "itertools.pairwise"].contains n && vs[0]? == some (rawInt a) then
          rule "for.unpacks-the-owned-tuple"
          updateField I 0 .none
      | _, _ => pure ()) Q E s := by
    intro a _
    refine wpAny_bind (wpAny_load h1 ?_)
    have : (["enumerate", "zip", "dict_itemiterator", "dict_reverseitemiterator", "odict_iterator", "itertools.zip_longest", "itertools.pairwise"].contains c) = false := by
      simp [itTypes] at h4
      rcases h4 with rfl | rfl | rfl <;> decide
    simp only [this, Bool.false_and, Bool.false_eq_true, if_false]
    exact wpAny_pure k
  cases t with
  | Tuple es x p =>
    cases v with
    | ref a => exact main a rfl
    | _ => exact wpAny_pure k
  | List es p =>
    cases v with
    | ref a => exact main a rfl
    | _ => exact wpAny_pure k
  | _ => exact wpAny_pure k
end


noncomputable def notSet (e : Expr) : Bool := !isC 7 e
theorem folded_of {e : Expr} (h : notSet e = true) (env : Env) (x : Value) : foldedSetIterable e env x = pure x := by
  cases e <;> first | rfl | exact nf h

theorem closure_go {env : Env} : ∀ (names : List (Str × NameKind)) (cs : List (Str × Addr)), (∀ x ∈ names, x.2 = .free → ∃ c, env.cells.lookup x.1 = some c) →
    ∃ cl, (forIn names cs (fun p r => if p.2 == .free then (do let a ← cellOf env p.1; pure (ForInStep.yield ((p.1, a) :: r))) else pure (ForInStep.yield r)) : Sem (List (Str × Addr))) = pure cl ∧
      ∀ x, ((x, NameKind.free) ∈ names → cl.lookup x = env.cells.lookup x) ∧ ((x, NameKind.free) ∉ names → cl.lookup x = cs.lookup x)
  | [], cs, _ => ⟨cs, by simp, fun x => ⟨fun h => by simp at h, fun _ => rfl⟩⟩
  | (y, k) :: names, cs, h => by
    by_cases hk : k = .free
    · subst hk
      obtain ⟨c, hc⟩ := h (y, .free) (List.mem_cons_self ..) rfl
      obtain ⟨cl, h1, h2⟩ := closure_go names ((y, c) :: cs) fun x hx => h x (List.mem_cons_of_mem _ hx)
      refine ⟨cl, ?_, fun x => ⟨fun hx => ?_, fun hx => ?_⟩⟩
      · rw [List.forIn_cons]
        simp only [cellOf, hc, beq_self_eq_true, if_true, pure_bind]
        exact h1
      · by_cases hm : (x, NameKind.free) ∈ names
        · exact (h2 x).1 hm
        · rw [(h2 x).2 hm]
          rcases List.mem_cons.mp hx with e | e
          · cases e
            simp [hc]
          · exact absurd e hm
      · have hm : (x, NameKind.free) ∉ names := fun e => hx (List.mem_cons_of_mem _ e)
        rw [(h2 x).2 hm]
        have hxy : (x == y) = false := by
          cases e : x == y with
          | false => rfl
          | true => exact absurd (by rw [eq_of_beq e]; exact List.mem_cons_self ..) hx
        simp [List.lookup_cons, hxy]
    · obtain ⟨cl, h1, h2⟩ := closure_go names cs fun x hx => h x (List.mem_cons_of_mem _ hx)
      have hkb : (k == NameKind.free) = false := by simpa using hk
      refine ⟨cl, ?_, fun x => ⟨fun hx => ?_, fun hx => (h2 x).2 fun e => hx (List.mem_cons_of_mem _ e)⟩⟩
      · rw [List.forIn_cons]
        simp only [hkb, Bool.false_eq_true, if_false, pure_bind]
        exact h1
      · rcases List.mem_cons.mp hx with e | e
        · cases e; exact absurd rfl hk
        · exact (h2 x).1 e

theorem closure_of {scope : Scope} {env : Env} (h : ∀ x ∈ scope.names, x.2 = .free → ∃ c, env.cells.lookup x.1 = some c) :
    ∃ cl, closureFor scope env = pure cl ∧ ∀ x, (x, NameKind.free) ∈ scope.names → cl.lookup x = env.cells.lookup x := by
  obtain ⟨cl, h1, h2⟩ := closure_go scope.names [] h
  refine ⟨cl, ?_, fun x => (h2 x).1⟩
  simp only [closureFor]
  have : (forIn scope.names [] (fun p r => if p.2 == .free then (do let a ← cellOf env p.1; pure (ForInStep.yield ((p.1, a) :: r))) else pure (ForInStep.yield r)) : Sem (List (Str × Addr))) >>= pure = pure cl := by
    rw [h1]; rfl
  exact this

theorem mem_of_lookup {α : Type} : ∀ {l : List (Str × α)} {x : Str} {a : α}, l.lookup x = some a → (x, a) ∈ l := by
  intro l
  induction l with
  | nil => intro x a h; exact no h
  | cons p l ih =>
    intro x a h
    cases e : x == p.1 with
    | true =>
      rw [show (p :: l).lookup x = some p.2 from by rw [List.lookup_cons, e]] at h
      rw [← Option.some.inj h, eq_of_beq e]
      exact List.mem_cons_self ..
    | false =>
      rw [show (p :: l).lookup x = l.lookup x from by rw [List.lookup_cons, e]] at h
      exact List.mem_cons_of_mem _ (ih h)

theorem lookup_relabel {env : Env} (names : List (Str × NameKind)) {x : Str} (h : ∀ y ∈ names, y.2 = .free → env.kindOf y.1 = some .cell) (hf : env.scope.kind = .function) :
    (names.map fun (n, k) => if (k == NameKind.free && env.scope.kind == .function && env.kindOf n == some .cell) then (n, NameKind.cell) else (n, k)).lookup x = (names.lookup x).map kFree := by
  induction names with
  | nil => rfl
  | cons p r ih =>
    obtain ⟨n, k⟩ := p
    have ih := ih fun y hy => h y (List.mem_cons_of_mem _ hy)
    have e1 : (if (k == NameKind.free && env.scope.kind == .function && env.kindOf n == some .cell) then (n, NameKind.cell) else (n, k)) = (n, kFree k) := by
      by_cases hk : k = .free
      · have h0 : env.kindOf n = some .cell := h (n, k) (List.mem_cons_self ..) hk
        rw [hk, hf, h0]; rfl
      · rw [show (k == NameKind.free) = false from beq_false_of_ne hk]
        cases k <;> first | rfl | exact absurd rfl hk
    rw [List.map_cons]
    refine (congrArg (fun p => List.lookup x (p :: _)) e1).trans ?_
    rw [List.lookup_cons, List.lookup_cons, ih]
    cases x == n <;> rfl

structure ScOk (S : Sc) (sc : Scope) (ts : List Str) : Prop where
  kind : sc.kind = .function
  cell : ∀ y ∈ sc.names, y.2 ≠ .cell
  loc : ∀ y ∈ sc.names, y.2 = .local → sc.names.lookup y.1 = some .local
  free : ∀ y ∈ sc.names, y.2 = .free → S.kind y.1 = some .cell
  tsl : ∀ x ∈ ts, sc.names.lookup x = some .local
  nd : ts.Nodup
theorem scOk_of {S : Sc} {sc : Scope} {ts : List Str} (h : scopeOk S sc ts = true) : ScOk S sc ts := by
  unfold scopeOk at h
  simp only [Bool.and_eq_true, List.all_eq_true, beq_iff_eq, bne_iff_ne, Bool.or_eq_true, decide_eq_true_eq] at h
  obtain ⟨⟨⟨h1, h2⟩, h3⟩, h4⟩ := h
  exact ⟨by simpa using h1, fun y hy => (h2 y hy).1.1, fun y hy e => ((h2 y hy).1.2).resolve_left (fun n => n e), fun y hy e => ((h2 y hy).2).resolve_left (fun n => n e), h3, h4⟩

section
variable {S : Sc} {sc : Scope} {ts : List Str} {env : Env} {cl : List (Str × Addr)} {C : Addr} {fa : Nat → Option Addr} {ρ : Rho} {μ : List Addr} {h : Heap}

theorem inner_kind (hE : EnvOk S env) (hS : ScOk S sc ts) (x : Str) : (compEnvC sc cl C env).kindOf x = (inner S sc ts).kind x :=
  lookup_relabel sc.names (fun y hy e => (hE.kind y.1).trans (hS.free y hy e)) hE.fn
theorem inner_cell {x : Str} (hE : EnvOk S env) (hS : ScOk S sc ts) (h : (compEnvC sc cl C env).kindOf x = some .cell) : sc.names.lookup x = some .free := by
  rw [inner_kind hE hS] at h
  refine omK h fun k h1 h => ?_
  cases k with
  | free => exact h1
  | cell => exact absurd rfl (hS.cell (x, .cell) (mem_of_lookup h1))
  | _ => exact nomatch h
theorem inner_slot {x : Str} {i : Nat} (h : (inner S sc ts).slot x = some i) : (sc.names.lookup x = some .local ∧ x ∈ ts ∧ i = S.n + ts.idxOf x) ∨ (sc.names.lookup x = some .free ∧ S.slot x = some i) := by
  refine obK h fun k h1 h => ?_
  by_cases hk : k = .local
  · subst hk
    obtain ⟨g1, g2⟩ := og (show grd (ts.contains x) (some (S.n + ts.idxOf x)) = some i from h)
    exact Or.inl ⟨h1, List.contains_iff_mem.mp g1, (Option.some.inj g2).symm⟩
  · rw [show (k == NameKind.local) = false from beq_false_of_ne hk] at h
    obtain ⟨g1, g2⟩ := og (show grd (k == .free) (S.slot x) = some i from h)
    exact Or.inr ⟨h1.trans (congrArg some (eq_of_beq g1)), g2⟩
theorem inner_ok (hE : EnvOk S env) (hS : ScOk S sc ts) (hcl : ∀ x, (x, NameKind.free) ∈ sc.names → cl.lookup x = env.cells.lookup x) : EnvOk (inner S sc ts) (compEnvC sc cl C env) where
  fn := hS.kind
  gl := hE.gl
  bi := hE.bi
  kind := inner_kind hE hS
  cell := fun x hx => by
    have h1 := inner_cell hE hS hx
    obtain ⟨c, hc⟩ := hE.cell x ((hE.kind x).trans (hS.free _ (mem_of_lookup h1) rfl))
    exact ⟨c, (hcl x (mem_of_lookup h1)).trans hc⟩
  sl := fun x i hx => by
    simp only [inner]
    rcases inner_slot hx with ⟨hl, hm, rfl⟩ | ⟨hl, h⟩
    · exact ⟨Nat.add_lt_add_left (List.idxOf_lt_length_of_mem hm) _, Or.inl (by rw [hl]; rfl)⟩
    · exact ⟨Nat.lt_of_lt_of_le (hE.sl x i h).1 (Nat.le_add_right _ _), Or.inr (by rw [hl]; rfl)⟩

theorem upd_other (ts : List Str) : ∀ (us : List Value) (f : Str → Option Value) {x : Str}, x ∉ ts → Upd f (ts.zip us) x = f x := by
  induction ts with
  | nil => intro us f x _; rfl
  | cons t ts ih =>
    intro us f x hm
    cases us with
    | nil => rfl
    | cons u us => exact (ih us _ fun h => hm (List.mem_cons_of_mem _ h)).trans (if_neg fun (e : _ = t) => hm (by rw [e]; exact List.mem_cons_self ..))
theorem upd_get (ts : List Str) : ∀ {us : List Value} {f : Str → Option Value} {x : Str}, ts.Nodup → us.length = ts.length → x ∈ ts → Upd f (ts.zip us) x = us[ts.idxOf x]? := by
  induction ts with
  | nil => intro us f x _ _ h; exact (List.not_mem_nil h).elim
  | cons t ts ih =>
    intro us f x hn hl hx
    obtain ⟨n1, n2⟩ := List.nodup_cons.mp hn
    cases us with
    | nil => exact nomatch hl
    | cons u us =>
      by_cases e : x = t
      · subst e
        rw [List.idxOf_cons_self]
        exact (upd_other ts us _ n1).trans (if_pos rfl)
      · have hb : (t == x) = false := beq_false_of_ne (Ne.symm e)
        rw [List.idxOf_cons, hb]
        exact ih n2 (Nat.succ.inj hl) ((List.mem_cons.mp hx).resolve_left e)

theorem VRs.get' {vs : List Value} {ls : List V} {i : Nat} {v : Value} (x : VRs fa μ h vs ls) (e : vs[i]? = some v) : ∃ l, ls[i]? = some l ∧ VR fa μ h v l := by
  have hi := lt_of_get e
  rw [x.length] at hi
  obtain ⟨v', h1, h2⟩ := x.get (List.getElem?_eq_getElem hi)
  rw [h1] at e; cases e
  exact ⟨_, List.getElem?_eq_getElem hi, h2⟩

theorem inner_vars {us : List Value} {ps : List V} {f : Str → Option Value} (hE : EnvOk S env) (hS : ScOk S sc ts) (hcl : ∀ x, (x, NameKind.free) ∈ sc.names → cl.lookup x = env.cells.lookup x) (hV : VarsOk fa S env ρ μ h)
    (hC : h.Ns C (Upd f (ts.zip us))) (hl : us.length = ts.length) (r : VRs fa μ h us ps) : VarsOk fa (inner S sc ts) (compEnvC sc cl C env) (ρ ++ ps.map some) μ h := by
  refine ⟨by rw [List.length_append, List.length_map, hV.1, ← r.length, hl]; rfl, fun x i v hs hv => ?_⟩
  have hk : (compEnvC sc cl C env).kindOf x = (sc.names.lookup x).map kFree := inner_kind (cl := cl) (C := C) hE hS x
  rcases inner_slot hs with ⟨hlk, hm, rfl⟩ | ⟨hlk, hs⟩
  · rw [List.getElem?_append_right (by rw [hV.1]; exact Nat.le_add_right _ _), hV.1, Nat.add_sub_cancel_left, List.getElem?_map] at hv
    refine omK hv fun q hp e => ?_
    rw [← Option.some.inj e]
    obtain ⟨u, g1, g2⟩ := r.get hp
    exact ⟨u, Or.inl ⟨by rw [hk, hlk]; rfl, _, hC, (upd_get ts hS.nd hl hm).trans g1⟩, g2⟩
  · obtain ⟨hi, _⟩ := hE.sl x i hs
    rw [List.getElem?_append_left (by rw [hV.1]; exact hi)] at hv
    obtain ⟨u, g1, g2⟩ := hV.2 x i v hs hv
    have hmem := mem_of_lookup hlk
    have hc : env.kindOf x = some .cell := (hE.kind x).trans (hS.free _ hmem rfl)
    rcases g1 with ⟨e, _⟩ | ⟨_, c, g3, g4⟩
    · exact nomatch hc.symm.trans e
    · exact ⟨u, Or.inr ⟨by rw [hk, hlk]; rfl, c, (hcl x hmem).trans g3, g4⟩, g2⟩
end


noncomputable def NoV (F : List Addr) (h : Heap) : Prop := ∀ a ∈ F, ∀ o, h.get? a = some o → ¬ isV o
section
variable {fa : Nat → Option Addr} {FA μ μ' : List Addr} {h h' h'' : Heap} {H : HP}
theorem Xt.off (x : Xt [] μ h μ' h') (k : Kx FA h' h'') (hF : ∀ a ∈ FA, h.get? a = none) : Xt [] μ h μ' h'' := by
  have hn : ∀ b o, h.get? b = some o → b ∉ FA := fun b o e hm => no ((hF b hm).symm.trans e)
  exact ⟨x.pre, x.new, fun a o e => let ⟨o', e'⟩ := x.live a o e; ⟨o', k a o' (hn a o e) e'⟩, fun b o e h1 h2 => k b o (hn b o e) (x.keep b o e h1 h2), fun b o e hv => k b o (hn b o e) (x.kv b o e hv), fun a o e1 e2 => k a o (hn a o e2) (x.zero a o e1 e2)⟩
theorem vrs_off {vs : List Value} {ls : List V} (r : VRs fa μ h vs ls) (k : Kx FA h h') (hV : NoV FA h) : VRs fa μ h' vs ls :=
  r.mono (List.prefix_refl _) fun b o e hv => k b o (fun hm => hV b hm o e hv) e
theorem vr_off {v : Value} {l : V} (r : VR fa μ h v l) (k : Kx FA h h') (hV : NoV FA h) : VR fa μ h' v l :=
  r.mono (List.prefix_refl _) fun b o e hv => k b o (fun hm => hV b hm o e hv) e
theorem LH.off (l : LH fa μ H h) (k : Kx FA h h') (hF : ∀ a ∈ FA, a ∉ μ) (hV : NoV FA h) : LH fa μ H h' :=
  ⟨l.len, l.nd, fun i a xs e1 e2 => let ⟨vs, n, h1, h2⟩ := l.at' i a xs e1 e2; ⟨vs, n, k a _ (fun hm => hF a hm (List.mem_of_getElem? e1)) h1, vrs_off h2 k hV⟩⟩
theorem Kx.one {a : Addr} (hs : Heap.SameBut a h h') : Kx [a] h h' := fun b o hb e => hs.extBut b o (fun e' => hb (e' ▸ List.mem_cons_self ..)) e
theorem Kx.mono {FB : List Addr} (k : Kx FA h h') (hs : ∀ a ∈ FA, a ∈ FB) : Kx FB h h' := fun b o hb e => k b o (fun hm => hb (hs b hm)) e
theorem Kx.at {a b : Addr} {o : Obj} (k : Kx [a] h h') (hb : b ≠ a) (e : h.get? b = some o) : h'.get? b = some o := k b o (fun hm => hb (List.mem_singleton.mp hm)) e
theorem Kx.ns {a C : Addr} (k : Kx [a] h h') (hb : C ≠ a) (n : ∃ m, h.Ns C m) : ∃ m, h'.Ns C m := let ⟨m, n⟩ := n; ⟨m, n.at' fun _ e => k.at hb e⟩
theorem NoV.one {a : Addr} (hv : NoV FA h) (ha : a ∈ FA) : NoV [a] h := fun b hb => hv b (List.mem_singleton.mp hb ▸ ha)
theorem all_one {P : Addr → Prop} {a : Addr} (h : P a) : ∀ b ∈ [a], P b := fun b hb => List.mem_singleton.mp hb ▸ h
theorem all3 {P : Addr → Prop} {a b c : Addr} (ha : P a) (hb : P b) (hc : P c) : ∀ x ∈ [a, b, c], P x := fun x hx =>
  (List.mem_cons.mp hx).elim (fun e => e ▸ ha) fun hx => (List.mem_cons.mp hx).elim (fun e => e ▸ hb) fun hx => List.mem_singleton.mp hx ▸ hc
theorem in1 {a b c : Addr} : ∀ x ∈ [a], x ∈ [a, b, c] := all_one (List.mem_cons_self ..)
theorem in2 {a b c : Addr} : ∀ x ∈ [b], x ∈ [a, b, c] := all_one (List.mem_cons_of_mem _ (List.mem_cons_self ..))
theorem in3 {a b c : Addr} : ∀ x ∈ [c], x ∈ [a, b, c] := all_one (List.mem_cons_of_mem _ (List.mem_cons_of_mem _ (List.mem_cons_self ..)))
theorem nov_ns {C : Addr} {m : Str → Option Value} (n : h.Ns C m) : NoV [C] h := all_one fun o e => by
  obtain ⟨o', es, ep, h1, h2, _⟩ := n
  cases Option.some.inj (h1.symm.trans e)
  exact not_isV_dict h2
end

section
variable {prog : Program} {w : World} {A : Around}
theorem compLoop_own {elt target iter : Expr} {ifs : List Expr} {scope : Scope} {pos : Pos} {it acc : Value} {env : Env} {R : Result → Shared → Prop} (I : Nat → Shared → Prop)
    (turn : ∀ n s E, I n s → wpAny (model prog w) A (pyNext it) (fun r s₁ => match r with
      | none => R (.ok .next) s₁
      | some v => wpAny (model prog w) A (letOwnedTupleGo target it v) (fun _ s₁' => wpAny (model prog w) A (assign target env v) (fun _ s₂ =>
          wpAny (model prog w) A (forIn ifs true fun c r => if r = true then do let ok ← isTrue c env (eval c env); pure (ForInStep.yield ok) else pure (ForInStep.yield r)) (fun ok s₃ =>
            if ok = true then wpAny (model prog w) A (eval elt env) (fun x s₄ =>
              wpAny (model prog w) A (call (.builtin "list.append") [acc, x]) (fun _ s₅ => ∃ m, m < n ∧ I m s₅) E s₄) E s₃
            else ∃ m, m < n ∧ I m s₃) E s₂) E s₁') E s₁) E s)
    (n : Nat) {s : Shared} (h : I n s) :
    codeAny (model prog w) A (.compLoop (.ListComp elt [⟨target, iter, ifs, 0⟩] scope pos) 0 it acc env) R s := by
  refine codeAny_loop rfl I (fun n s hI => ?_) n h
  show wpAny _ A ((compTurn (.ListComp elt [⟨target, iter, ifs, 0⟩] scope pos) 0 it acc env).onRaise (fun x => do noteFrame x env; theTreesLotGoes x)) _ _ s
  refine wpAny_noted ?_
  rw [compTurn_list]
  refine wpAny_bind (wpAny_standAt (wpAny_bind (wpAny_mono (turn n s _ hI) (fun r s₁ h₁ => ?_) fun _ _ h' => h')))
  cases r with
  | none => exact wpAny_pure h₁
  | some v =>
    refine wpAny_bind (wpAny_mono h₁ (fun _ s₁' h₁' => ?_) fun _ _ h' => h')
    refine wpAny_bind (wpAny_mono h₁' (fun _ s₂ h₂ => wpAny_bind (wpAny_mono h₂ (fun ok s₃ h₃ => ?_) fun _ _ h' => h')) fun _ _ h' => h')
    cases ok with
    | false => exact wpAny_pure ⟨rfl, h₃⟩
    | true =>
      exact wpAny_bind (wpAny_bind (wpAny_mono h₃ (fun x s₄ h₄ => wpAny_bind (wpAny_mono h₄ (fun _ s₅ h₅ => wpAny_pure (wpAny_pure ⟨rfl, h₅⟩)) fun _ _ h' => h')) fun _ _ h' => h'))

end

noncomputable def compStep (Φ : FnT) (elt : Ex) (nt : Nat) (tp : Bool) (cnd : Ex) (ρ : Rho) : V → HP → Option (Option V × HP) := fun v H => (parts tp nt v H).bind fun ps => (ev Φ cnd (ρ ++ ps.map some) H).bind fun c => (tr c.1).bind fun t =>
  cond t ((ev Φ elt (ρ ++ ps.map some) c.2).map fun y => (some y.1, y.2)) (some (none, c.2))

theorem compStep_inv {Φ : FnT} {elt cnd : Ex} {nt : Nat} {tp : Bool} {ρ : Rho} {H : HP} {v : V} {r : Option V × HP} (e : compStep Φ elt nt tp cnd ρ v H = some r) :
    ∃ ps Hb, parts tp nt v H = some ps ∧ ((evB Φ cnd (ρ ++ ps.map some) H = some (false, Hb) ∧ r = (none, Hb)) ∨ (evB Φ cnd (ρ ++ ps.map some) H = some (true, Hb) ∧ ∃ y, ev Φ elt (ρ ++ ps.map some) Hb = some y ∧ r = (some y.1, y.2))) :=
  obK e fun ps hp e => obK e fun d hd e => obK e fun t ht e => ⟨ps, d.2, hp, by
    cases t with
    | false => exact Or.inl ⟨evB_mk hd ht, (Option.some.inj e).symm⟩
    | true => exact Or.inr ⟨evB_mk hd ht, omK (show (ev Φ elt (ρ ++ ps.map some) d.2).map (fun y => (some y.1, y.2)) = some r from e) fun y hy e => ⟨y, hy, e.symm⟩⟩⟩

inductive CondOk (c : Cx) (S : Sc) : List Expr → Ex → Prop
  | nil : CondOk c S [] (.lit (.bool true))
  | one {e : Expr} {m : Ex} : Sd c S e m → CondOk c S [e] m

theorem cond_wp {c : Cx} {S : Sc} {ifs : List Expr} {cm : Ex} (hc : CondOk c S ifs cm) {A : Around} {env : Env} {ρ : Rho} {H : HP} {μ : List Addr} {s : Shared} (p : Pt c S A env ρ H μ s)
    {q : Bool × HP} {Q : Bool → Shared → Prop} {E : Value → Shared → Prop} (e : evB c.Φ cm ρ H = some q) (k : OkB c.fa μ s q.2 (Q q.1)) :
    wpAny c.M A (forIn ifs true fun e r => if r = true then do let ok ← isTrue e env (eval e env); pure (ForInStep.yield ok) else pure (ForInStep.yield r)) Q E s := by
  cases hc with
  | nil =>
    cases Option.some.inj (show some (true, H) = some q from e)
    exact wpAny_tests_nil (k.here p.wd.lh)
  | one h => exact wpAny_tests_one (h.tru p e k)

theorem frm_comp {S : Sc} {M : Model} {A : Around} {env : Env} {sc : Scope} {ts : List Str} {cl : List (Str × Addr)} {C : Addr} (hS : ScOk S sc ts) (hE : EnvOk S env) : Frm M A (compEnvC sc cl C env) [C] ts (fun h f => h.Ns C f) where
  store := fun x hx s v f Q E hT k => by
    refine wpAny_storeName_local ?_ hT (fun h' hn hs => ?_) (by simp [compEnvC, relabel, hS.kind])
    · rw [inner_kind hE hS]
      simp only [inner]
      rw [hS.tsl x hx]
      rfl
    · obtain ⟨o, es, ep, ho, hd, _⟩ := id hT
      obtain ⟨o', es', ep', ho', _⟩ := id hn
      exact k h' _ hn (Xt.sameBut hs (List.mem_singleton.mpr rfl) ho (not_isV_dict hd) ho')
  ext := fun h h' f hT hk => hT.at' fun o e => hk _ _ e

set_option genInjectivity false in
/-- all that a comprehension's turns share -/
structure CC where
  c : Cx
  S : Sc
  A : Around
  env : Env
  ρ : Rho
  μ : List Addr
  s : Shared
  H : HP
  elt : Expr
  target : Expr
  ifs : List Expr
  sc : Scope
  ts : List Str
  tp : Bool
  m : Ex
  cm : Ex
  cl : List (Str × Addr)
  D : Addr
  C : Addr
  I : Addr
  src : Src
  μ₀ : List Addr
  T : Nat → Heap → Prop
  vs : List V
  H₂ : HP
  R : Result → Shared → Prop
  p : Pt c S A env ρ H μ s
  ht : targetsOf target = some (ts, tp)
  hS : ScOk S sc ts
  h2 : Sd c (inner S sc ts) elt m
  h3 : CondOk c (inner S sc ts) ifs cm
  hcl : ∀ x, (x, NameKind.free) ∈ sc.names → cl.lookup x = env.cells.lookup x
  it : It c.prog c.w A c.fa I src μ₀ T
  dc : D ≠ C
  di : D ≠ I
  ci : C ≠ I
  nD : s.heap.get? D = none
  nC : s.heap.get? C = none
  nI : s.heap.get? I = none
  fin : ∀ h' tk μ' m', LH c.fa μ' (H₂ ++ [vs]) h' → Xt [] μ s.heap μ' h' → VR c.fa μ' h' (.ref D) (.list H₂.length) → h'.Ns C m' → R (.ok .next) (stOf s h' tk)
@[reducible] noncomputable def CC.e (X : CC) : Env := compEnvC X.sc X.cl X.C X.env

/-- what the loop holds -/
structure LC (X : CC) (μ' : List Addr) (h' : Heap) (Hc : HP) (i : Nat) (done : List Value) (vals : List V) : Prop where
  xt : Xt [] X.μ X.s.heap μ' h'
  lh : LH X.c.fa μ' Hc h'
  it : X.T i h'
  acc : ∃ n, h'.get? X.D = some (Lobj done n)
  vals : VRs X.c.fa μ' h' done vals
  dn : X.D ∉ μ'
  ns : ∃ m, h'.Ns X.C m

section
variable {X : CC} {μ' μ'' : List Addr} {h' h'' : Heap} {Hc H'' : HP} {i j : Nat} {done done' : List Value} {vals vals' : List V} {tk : Tok}
theorem LC.c_mem (x : LC X μ' h' Hc i done vals) : X.C ∉ μ' := let ⟨_, hm⟩ := x.ns; ns_not_mem x.lh hm
theorem LC.i_mem (x : LC X μ' h' Hc i done vals) : X.I ∉ μ' := (X.it.live i h' x.it).mem x.lh
theorem LC.step (x : LC X μ' h' Hc i done vals) (t : Xt [] μ' h' μ'' h'') (l : LH X.c.fa μ'' H'' h'') : LC X μ'' h'' H'' i done vals where
  xt := x.xt.trans t
  lh := l
  it := X.it.frame _ _ _ x.it fun o e => t.keep _ _ e x.i_mem List.not_mem_nil
  acc := let ⟨n, e⟩ := x.acc; ⟨n, t.keep _ _ e x.dn List.not_mem_nil⟩
  vals := t.vrs x.vals
  dn := fun hm => let ⟨_, e⟩ := x.acc; no ((t.new _ hm x.dn).symm.trans e)
  ns := let ⟨m, n⟩ := x.ns; ⟨m, n.at' fun o e => t.keep _ _ e x.c_mem List.not_mem_nil⟩
theorem LC.nv (x : LC X μ' h' Hc i done vals) : NoV [X.I, X.C, X.D] h' :=
  all3 (X.it.live i h' x.it).nv (let ⟨_, n⟩ := x.ns; nov_ns n _ (List.mem_cons_self ..)) (let ⟨_, e1⟩ := x.acc; fun o e => Option.some.inj (e1.symm.trans e) ▸ not_isV_list _ _)
theorem LC.off (x : LC X μ' h' Hc i done vals) (k : Kx [X.I, X.C, X.D] h' h'') (hT : X.T j h'') (hD : ∃ n, h''.get? X.D = some (Lobj done' n)) (hv : VRs X.c.fa μ' h'' done' vals') (hC : ∃ m, h''.Ns X.C m) : LC X μ' h'' Hc j done' vals' where
  xt := x.xt.off k (all3 X.nI X.nC X.nD)
  lh := x.lh.off k (all3 x.i_mem x.c_mem x.dn) x.nv
  it := hT
  acc := hD
  vals := hv
  dn := x.dn
  ns := hC
/-- the iterator goes on -/
theorem LC.itr (x : LC X μ' h' Hc i done vals) (k : Kx [X.I] h' h'') (hT : X.T j h'') : LC X μ' h'' Hc j done vals :=
  x.off (k.mono in1) hT (let ⟨n, e⟩ := x.acc; ⟨n, k.at X.di e⟩) (vrs_off x.vals k (x.nv.one (in1 _ (List.mem_cons_self ..)))) (k.ns X.ci x.ns)
/-- a name of the comprehension's own is laid -/
theorem LC.nam (x : LC X μ' h' Hc i done vals) (k : Kx [X.C] h' h'') {m : Str → Option Value} (hn : h''.Ns X.C m) : LC X μ' h'' Hc i done vals :=
  x.off (k.mono in2) (X.it.frame _ _ _ x.it fun o e => k.at (Ne.symm X.ci) e) (let ⟨n, e⟩ := x.acc; ⟨n, k.at X.dc e⟩) (vrs_off x.vals k (x.nv.one (in2 _ (List.mem_cons_self ..)))) ⟨m, hn⟩
/-- a thing is laid behind -/
theorem LC.put (x : LC X μ' h' Hc i done vals) (k : Kx [X.D] h' h'') {z : Value} {y : V} (r : VR X.c.fa μ' h' z y) (hD : ∃ n, h''.get? X.D = some (Lobj (done ++ [z]) n)) : LC X μ' h'' Hc i (done ++ [z]) (vals ++ [y]) :=
  x.off (k.mono in3) (X.it.frame _ _ _ x.it fun o e => k.at (Ne.symm X.di) e) hD (vrs_off (x.vals.append (.cons r .nil)) k (x.nv.one (in3 _ (List.mem_cons_self ..)))) (k.ns (Ne.symm X.dc) x.ns)
theorem LC.pt (x : LC X μ' h' Hc i done vals) : VarsOk X.c.fa X.S X.env X.ρ μ' h' ∧ Wd X.c.fa X.c.h₀ μ' Hc h' := ⟨X.p.vars.xt X.p.wd.lh x.xt, X.p.wd.xt x.lh x.xt fun _ h => (List.not_mem_nil h).elim⟩

structure LI (X : CC) (k : Nat) (h' : Heap) (μ' : List Addr) (Hc : HP) (i : Nat) (done : List Value) (vals rest : List V) : Prop where
  lc : LC X μ' h' Hc i done vals
  pre : X.μ₀ <+: μ'
  go : compGo (compStep X.c.Φ X.m X.ts.length X.tp X.cm X.ρ) X.src k i Hc = some (rest, X.H₂)
  all : vals ++ rest = X.vs
  fx : ∀ us, X.src = .fixed us → i ≤ us.length
  dl : done.length ≤ i
  ki : k + i ≤ 1048577
noncomputable def CInv (X : CC) (k : Nat) (s' : Shared) : Prop := ∃ h' tk μ' Hc i done vals rest, s' = stOf X.s h' tk ∧ LI X k h' μ' Hc i done vals rest

/-- the lists' heap with the new list -/
theorem LH.put {fa : Nat → Option Addr} {D : Addr} {n : Nat} (l : LH fa μ' Hc h') (hD : h'.get? D = some (Lobj done n)) (dn : D ∉ μ') (rv : VRs fa μ' h' done vals) : LH fa (μ' ++ [D]) (Hc ++ [vals]) h' ∧ VR fa (μ' ++ [D]) h' (.ref D) (.list Hc.length) := by
  have hm : ∀ {vs : List Value} {xs : List V}, VRs fa μ' h' vs xs → VRs fa (μ' ++ [D]) h' vs xs := fun r => r.mono (List.prefix_append _ _) fun _ _ e _ => e
  refine ⟨⟨by rw [List.length_append, List.length_append, l.len]; rfl, List.nodup_append.mpr ⟨l.nd, by simp, fun a ha b hb e => dn (List.mem_singleton.mp hb ▸ e ▸ ha)⟩, fun j a ys e1 e2 => ?_⟩, .list ?_⟩
  · rcases Nat.lt_or_ge j Hc.length with hlt | hge
    · rw [List.getElem?_append_left (by rw [l.len]; exact hlt)] at e1
      rw [List.getElem?_append_left hlt] at e2
      obtain ⟨ws, q, g1, g2⟩ := l.at' j a ys e1 e2
      exact ⟨ws, q, g1, hm g2⟩
    · have hj := lt_of_get e2
      rw [List.length_append] at hj
      have heq := Nat.le_antisymm (Nat.le_of_lt_succ hj) hge
      rw [heq, List.getElem?_append_right (Nat.le_of_eq l.len), l.len, Nat.sub_self] at e1
      rw [heq, List.getElem?_append_right (Nat.le_refl _), Nat.sub_self] at e2
      rw [← Option.some.inj e1, ← Option.some.inj e2]
      exact ⟨done, n, hD, hm rv⟩
  · rw [List.getElem?_append_right (Nat.le_of_eq l.len), l.len, Nat.sub_self]; rfl

theorem comp_done {k : Nat} {xs rest : List V} (x : LI X k h' μ' Hc i done vals rest) (hx : X.src.items Hc = some xs) (hnone : xs[i]? = none) (e : some (([] : List V), Hc) = some (rest, X.H₂)) (hk : Kx [X.I] h' h'') : X.R (.ok .next) (stOf X.s h'' tk) := by
  have l' := x.lc.lh.off hk (all_one x.lc.i_mem) (x.lc.nv.one (in1 _ (List.mem_cons_self ..)))
  have rv := vrs_off x.lc.vals hk (x.lc.nv.one (in1 _ (List.mem_cons_self ..)))
  obtain ⟨n, hn⟩ := x.lc.acc
  obtain ⟨m', hm⟩ := hk.ns X.ci x.lc.ns
  have e := Option.some.inj e
  have hv := x.all
  rw [show rest = [] from (congrArg Prod.fst e).symm, List.append_nil] at hv
  have g := l'.put (hk.at X.di hn) x.lc.dn rv
  rw [hv, show Hc = X.H₂ from congrArg Prod.snd e] at g
  have t' := x.lc.xt.off hk (all_one X.nI)
  exact X.fin h'' tk _ m' g.1 ⟨t'.pre.trans (List.prefix_append _ _), fun a ha hn => (List.mem_append.mp ha).elim (fun ha => t'.new a ha hn) (fun ha => List.mem_singleton.mp ha ▸ X.nD), t'.live, t'.keep, t'.kv, t'.zero⟩ g.2 hm

theorem comp_item {k : Nat} {xs rest : List V} {xv : V} {r : Option V × HP} {q : List V × HP} (x : LI X (k + 1) h' μ' Hc i done vals rest) (hx : X.src.items Hc = some xs) (hxv : xs[i]? = some xv) (hstep : compStep X.c.Φ X.m X.ts.length X.tp X.cm X.ρ xv Hc = some r)
    (hg : compGo (compStep X.c.Φ X.m X.ts.length X.tp X.cm X.ρ) X.src k (i + 1) r.2 = some q) (e : (r.1.elim q.1 (· :: q.1), q.2) = (rest, X.H₂)) {v : Value} {E : Value → Shared → Prop} (rv : VR X.c.fa μ' h'' v xv) (hT : X.T (i + 1) h'') (hk : Kx [X.I] h' h'') :
    wpAny X.c.M X.A (letOwnedTupleGo X.target (.ref X.I) v) (fun _ s₁' => wpAny X.c.M X.A (assign X.target X.e v) (fun _ s₂ =>
          wpAny X.c.M X.A (forIn X.ifs true fun c r => if r = true then do let ok ← isTrue c X.e (eval c X.e); pure (ForInStep.yield ok) else pure (ForInStep.yield r)) (fun ok s₃ =>
            if ok = true then wpAny X.c.M X.A (eval X.elt X.e) (fun x s₄ =>
              wpAny X.c.M X.A (call (.builtin "list.append") [.ref X.D, x]) (fun _ s₅ => ∃ m, m < k + 1 ∧ CInv X m s₅) E s₄) E s₃
            else ∃ m, m < k + 1 ∧ CInv X m s₃) E s₂) E s₁') E (stOf X.s h'' tk) := by
  have x₄ := x.lc.itr hk hT
  have hfx : ∀ us, X.src = .fixed us → i + 1 ≤ us.length := fun us hu => by
    rw [hu] at hx
    rw [Option.some.inj (show some us = some xs from hx)]
    exact lt_of_get hxv
  have hd := x.dl
  have hki := x.ki
  have e1 := congrArg Prod.fst e
  have e2 : q.2 = X.H₂ := congrArg Prod.snd e
  obtain ⟨ps, Hb, hps, hcase⟩ := compStep_inv hstep
  obtain ⟨m₄, hm₄⟩ := x₄.ns
  refine letOwned_wp (X.it.live _ _ hT) (target_wp (s := stOf X.s h'' tk) (frm_comp X.hS X.p.eo) X.p.rm.1 X.ht hps rv x₄.lh hm₄ fun r₅ => ?_)
  have hk₅ : Kx [X.C] h'' r₅.h := fun b o hb e => r₅.xt.keep b o e List.not_mem_nil hb
  have x₅ := x₄.nam hk₅ r₅.t
  have pt : Pt X.c (inner X.S X.sc X.ts) X.A X.e (X.ρ ++ ps.map some) Hc μ' r₅.st := ⟨X.p.rm, inner_ok X.p.eo X.hS X.hcl, inner_vars X.p.eo X.hS X.hcl x₅.pt.1 r₅.t r₅.len r₅.vr, x₅.pt.2⟩
  rcases hcase with ⟨hb, rfl⟩ | ⟨hb, y, hy, rfl⟩
  · refine cond_wp X.h3 pt hb fun r₆ => (if_neg Bool.false_ne_true).symm ▸ ⟨k, Nat.lt_succ_self _, r₆.h, r₆.tk, r₆.μ', _, i + 1, done, vals, q.1, rfl, x₅.step r₆.xt r₆.lh, x.pre.trans r₆.xt.pre, hg.trans ?_, ?_, hfx, Nat.le_succ_of_le hd, by (first | lia | omega)⟩
    · rw [← e2]
    · rw [← x.all, ← show q.1 = rest from e1]
  · refine cond_wp X.h3 pt hb fun r₆ => (if_pos rfl).symm ▸ X.h2.val (pt.afterB r₆) hy fun r₇ => ?_
    have x₇ := (x₅.step r₆.xt r₆.lh).step r₇.xt r₇.lh
    obtain ⟨n, hn⟩ := x₇.acc
    refine append_at (s := r₇.st) (hsz := by rw [List.size_toArray, sizeLine_eq]; (first | lia | omega)) hn fun h₈ hs₈ hD₈ => ?_
    refine ⟨k, Nat.lt_succ_self _, h₈, r₇.tk, r₇.μ', _, i + 1, done ++ [r₇.v], vals ++ [y.1], q.1, rfl, x₇.put (.one hs₈) r₇.vr ⟨n + 1, by rw [hD₈]; simp [Lobj]⟩, (x.pre.trans r₆.xt.pre).trans r₇.xt.pre, hg.trans ?_, ?_, hfx, by rw [List.length_append]; exact Nat.succ_le_succ hd, by (first | lia | omega)⟩
    · rw [← e2]
    · rw [← x.all, ← show y.1 :: q.1 = rest from e1, List.append_assoc]; rfl
end

theorem comp_wp {c : Cx} {S : Sc} {elt target iter : Expr} {ifs : List Expr} {sc : Scope} {pos pos' : Pos} {ts : List Str} {tp : Bool} {m it cm : Ex} {use : Option (Value → Sem Unit)} (ht : targetsOf target = some (ts, tp)) (hS : ScOk S sc ts) (hset : notSet iter = true)
    (h1 : Sd c S iter it) (h2 : Sd c (inner S sc ts) elt m) (h3 : CondOk c (inner S sc ts) ifs cm)
    {A : Around} {env : Env} {ρ : Rho} {H : HP} {μ : List Addr} {s : Shared} {q : V × HP} {Q E : Value → Shared → Prop} (p : Pt c S A env ρ H μ s) (e : ev c.Φ (.comp m ts.length tp it cm) ρ H = some q)
    (fin : ∀ D C m' (r : Res c.fa μ s q.1 q.2), r.v = .ref D → s.heap.get? C = none → r.h.Ns C m' → compPost c.M A E use Q (.ref D) C (.ok .next) r.st) :
    wpAny c.M A (comprehension (.ListComp elt [⟨target, iter, ifs, 0⟩] sc pos) sc env pos' (newList []) false (eval iter env) use) Q E s := by
  refine obK e fun x ex e => obK e fun src es e => omK e fun r eg e => ?_
  obtain ⟨cl, hcl, hcl'⟩ := closure_of (scope := sc) (env := env) fun y hy hf => p.eo.cell y.1 ((p.eo.kind y.1).trans (hS.free y hy hf))
  refine wpAny_comprehension_free (use := use) rfl (folded_of hset env) hcl hS.kind hS.loc (h1.val p ex fun r₁ => src_wp p.rm.1 es r₁.vr r₁.lh fun r₂ => ?_)
  refine wpAny_newObj_type (wpAny_newFunctionEnv hS.cell (fun _ hy => (List.not_mem_nil hy).elim) (fun g₃ hns hsb => ?_) hS.kind)
  dsimp only at hns hsb ⊢
  generalize hD : r₂.h.objs.size = D at hns hsb ⊢
  generalize hH2 : r₂.h.push { cls := .type "list", dict := none, data := .seq ([] : List Value).toArray } = G2 at hns hsb ⊢
  have hC : G2.objs.size = D + 1 := by rw [← hH2, Heap.size_push, hD]
  generalize hC' : G2.objs.size = C at hns hsb ⊢
  have hCD : C = D + 1 := hC'.symm.trans hC
  have below : ∀ b o, r₂.h.get? b = some o → b ≠ C ∧ b ≠ D := fun b o e => by
    have := Heap.lt_size e
    rw [hD] at this
    exact ⟨Nat.ne_of_lt (hCD ▸ Nat.lt_succ_of_lt this), Nat.ne_of_lt this⟩
  have old : ∀ b o, r₂.h.get? b = some o → g₃.get? b = some o := fun b o e => hsb.extBut b o (below b o e).1 (Heap.get?_push_of_some _ (hH2 ▸ Heap.get?_push_of_some _ e))
  have old1 : ∀ b o, s.heap.get? b = some o → ∃ o', r₂.h.get? b = some o' := fun b o e => let ⟨o', e'⟩ := r₁.xt.live b o e; ⟨o', r₂.keep b o' e'⟩
  have hDC : D ≠ C := hCD ▸ Nat.ne_of_lt (Nat.lt_succ_self _)
  obtain ⟨oI, cI, fI, hI1, _⟩ := r₂.it.live 0 r₂.h r₂.t0
  have gone : ∀ {a : Addr}, (∀ o', r₂.h.get? a ≠ some o') → s.heap.get? a = none := fun {a} hn => by
    cases e : s.heap.get? a with
    | none => rfl
    | some o => obtain ⟨o', e'⟩ := old1 a o e; exact absurd e' (hn o')
  have hacc : g₃.get? D = some (Lobj [] 0) := hsb.extBut _ _ hDC (Heap.get?_push_of_some _ (by rw [← hH2, ← hD]; exact Heap.get?_push_size _ rfl))
  let X : CC := { c, S, A, env, ρ, μ, s, H, elt, target, ifs, sc, ts, tp, m, cm, cl, D, C, I := r₂.I, src, μ₀ := r₁.μ', T := r₂.T, vs := r.1, H₂ := r.2, R := compPost c.M A E use Q (.ref D) C, p, ht, hS, h2, h3, hcl := hcl', it := r₂.it, dc := hDC, di := Ne.symm (below r₂.I oI hI1).2, ci := Ne.symm (below r₂.I oI hI1).1
                  nD := gone fun o' e' => (below D o' e').2 rfl
                  nC := gone fun o' e' => (below C o' e').1 rfl
                  nI := by
                    cases e : s.heap.get? r₂.I with
                    | none => rfl
                    | some o => obtain ⟨o', e'⟩ := r₁.xt.live _ o e; exact no (r₂.new.symm.trans e')
                  fin := fun h' tk μ' m' l t rv hn => fin D C m' ⟨.ref D, h', tk, μ', by rw [← e]; exact rv, by rw [← e]; exact l, t⟩ rfl (gone fun o' e' => (below C o' e').1 rfl) hn }
  have X₀ : LC X r₁.μ' g₃ x.2 0 [] [] := {
    xt := (r₁.xt.trans (.ext r₂.keep)).trans (.ext old)
    lh := (r₁.lh.ext r₂.keep).ext old
    it := r₂.it.frame _ _ _ r₂.t0 fun o e => old _ _ e
    acc := ⟨0, hacc⟩
    vals := .nil
    dn := fun hm => let ⟨_, _, e⟩ := r₁.lh.mem hm; (below D _ (r₂.keep _ _ e)).2 rfl
    ns := ⟨_, hns⟩ }
  have loop : ∀ tk, codeAny c.M A (.compLoop (.ListComp elt [⟨target, iter, ifs, 0⟩] sc pos) 0 (.ref r₂.I) (.ref D) (compEnvC sc cl C env)) (compPost c.M A E use Q (.ref D) C) (stOf s g₃ tk) := fun tk => by
    refine compLoop_own (CInv X) ?_ (src.fuel x.2) ⟨g₃, tk, r₁.μ', x.2, 0, [], [], r.1, rfl, X₀, List.prefix_refl _, eg, rfl, fun _ _ => Nat.zero_le _, Nat.le_refl _, ?_⟩
    · rintro k s' E' ⟨h', tk, μ', Hc, i, done, vals, rest, rfl, y⟩
      cases k with
      | zero => exact no y.go
      | succ k =>
        refine obK y.go fun xs hx g => oeK g (fun hnone g => ?_) fun xv hxv g => obK g fun r' hstep g => omK g fun q' hg e => ?_
        · exact r₂.it.done i (stOf s h' tk) μ' Hc xs _ _ y.lc.it y.lc.lh y.pre hx hnone (fun us hu => y.fx us hu) fun h'' tk' hk => comp_done y hx hnone g hk
        · exact r₂.it.item i (stOf s h' tk) μ' Hc xs xv _ _ y.lc.it y.lc.lh y.pre hx hxv fun v h'' tk' rv hT hk => comp_item (X := X) y hx hxv hstep hg e rv hT hk
    · obtain ⟨xs, hx1, hx2⟩ := r₂.items
      unfold Src.fuel
      rw [hx1]
      exact Nat.succ_le_succ hx2
  exact codeAny_compStart_list (loop _) (r₂.it.self 0 _ _ _ X₀.it (loop _))


section
variable {c : Cx} {S : Sc}

theorem sd_comp {elt target iter : Expr} {ifs : List Expr} {sc : Scope} {pos : Pos} {ts : List Str} {tp : Bool} {m it cm : Ex} (ht : targetsOf target = some (ts, tp)) (hS : ScOk S sc ts) (hset : notSet iter = true)
    (h1 : Sd c S iter it) (h2 : Sd c (inner S sc ts) elt m) (h3 : CondOk c (inner S sc ts) ifs cm) :
    Sd c S (.ListComp elt [⟨target, iter, ifs, 0⟩] sc pos) (.comp m ts.length tp it cm) :=
  Sd.of_val (fun _ _ => rfl) fun A env ρ H μ s p q Q E e k => by
    rw [eval_ListComp]
    refine comp_wp (use := none) ht hS hset h1 h2 h3 p e fun D C m' r hv hc hn => ⟨m', hn, fun h'' hs => ?_⟩
    have hk : Kx [C] r.h h'' := .one hs
    exact k ⟨.ref D, h'', r.tk, r.μ', vr_off (hv ▸ r.vr) hk (nov_ns hn), r.lh.off hk (all_one (ns_not_mem r.lh hn)) (nov_ns hn), r.xt.off hk (all_one hc)⟩

/-- what is made is none of the odd kinds -/
noncomputable def okKinds (e : Expr) : Bool := !(isC 26 e || isC 7 e || isC 22 e || isC 20 e || isC 9 e || isC 10 e)
theorem cE_kinds {k : Nat} {S : Sc} {e : Expr} {m : Ex} (h : cE k S e = some m) : okKinds e = true := by
  cases k with
  | zero => exact no h
  | succ k =>
    replace h : cEo (cE k) S e = some m := h
    cases e <;> first | rfl | exact no h
theorem bOr {a b : Bool} (h : (!(a || b)) = true) : (!a) = true ∧ b = false := by
  cases a with
  | true => exact nf h
  | false => cases b with
    | true => exact nf h
    | false => exact ⟨rfl, rfl⟩
theorem bNot {a : Bool} (h : (!a) = true) : a = false := by
  cases a with
  | true => exact nf h
  | false => rfl
structure Kinds (e : Expr) : Prop where
  sl : isSl e = false
  set : notSet e = true
  star : noStar e = true
  sc : isC 9 e = false ∧ isC 10 e = false
  attr : isC 20 e = false
theorem cE_form {k : Nat} {S : Sc} {e : Expr} {m : Ex} (h : cE k S e = some m) : Kinds e := by
  have g1 := bOr (cE_kinds h)
  have g2 := bOr g1.1
  have g3 := bOr g2.1
  have g4 := bOr g3.1
  have g5 := bOr g4.1
  exact ⟨bNot g5.1, congrArg not g5.2, congrArg not g4.2, ⟨g2.2, g1.2⟩, g3.2⟩
theorem Kinds.na {e : Expr} (k : Kinds e) : ∀ o x p, e ≠ .Attribute o x p := fun o x p h => nt (h ▸ k.attr : isC 20 (.Attribute o x p) = false)

theorem cL_sd {f : Expr → Option Ex} (hf : ∀ e m, f e = some m → Sd c S e m ∧ noStar e = true) : ∀ (es : List Expr) {ms : Exs}, cL f es = some ms → SdL c S es ms := by
  intro es
  induction es with
  | nil => intro ms h; cases Option.some.inj h; exact .nil
  | cons e es ih => exact fun h => obK h fun m hm h => omK h fun ms hms h => h ▸ .cons (hf _ _ hm).1 (hf _ _ hm).2 (ih hms)
theorem cAnd_sd {f : Expr → Option Ex} (hf : ∀ e m, f e = some m → Sd c S e m) {p : Pos} (es : List Expr) : ∀ {m : Ex}, cAnd f es = some m → Sd c S (.BoolOp .And es p) m := by
  induction es with
  | nil => exact fun h => no h
  | cons e es ih =>
    intro m h
    cases es with
    | nil => exact sd_bool1 (hf e m h)
    | cons e' es => exact obK (show ((f e).bind fun m => (cAnd f (e' :: es)).map (.and m)) = some m from h) fun a ha h => omK h fun b hb h => h ▸ sd_and (hf _ _ ha) (ih hb)
theorem cOr_sd {f : Expr → Option Ex} (hf : ∀ e m, f e = some m → Sd c S e m) {p : Pos} (es : List Expr) : ∀ {m : Ex}, cOr f es = some m → Sd c S (.BoolOp .Or es p) m := by
  induction es with
  | nil => exact fun h => no h
  | cons e es ih =>
    intro m h
    cases es with
    | nil => exact sd_bool1 (hf e m h)
    | cons e' es => exact obK (show ((f e).bind fun m => (cOr f (e' :: es)).map (.or m)) = some m from h) fun a ha h => omK h fun b hb h => h ▸ sd_or (hf _ _ ha) (ih hb)
theorem cOpt_sd {f : Expr → Option Ex} (hf : ∀ e m, f e = some m → Sd c S e m) {x : Option Expr} {m : Ex} (h : cOpt f x = some m) : SdO c S x m := by
  cases x with
  | none => cases Option.some.inj h; exact .none
  | some e => exact .some (hf e m h)

theorem opOf_py {op : Operator} {o : Op} (h : opOf op = some o) : o.py = op := by
  cases op <;> first | exact no h | (cases Option.some.inj h; rfl)
theorem cmOf_py (op : CmpOp) : (cmOf op).py = op := by cases op <;> rfl
theorem mtOf_name {x : Str} {m : Mt} (h : mtOf x = some m) : x = m.name := by
  unfold mtOf at h
  by_cases h1 : (x == Mt.append.name) = true
  · rw [if_pos h1] at h; cases Option.some.inj h; exact eq_of_beq h1
  rw [if_neg h1] at h
  by_cases h1 : (x == Mt.insert.name) = true
  · rw [if_pos h1] at h; cases Option.some.inj h; exact eq_of_beq h1
  rw [if_neg h1] at h
  by_cases h1 : (x == Mt.pop.name) = true
  · rw [if_pos h1] at h; cases Option.some.inj h; exact eq_of_beq h1
  rw [if_neg h1] at h
  obtain ⟨h1, h⟩ := oi h
  cases Option.some.inj h; exact eq_of_beq h1
theorem behind_of {op : CmpOp} {r : Expr} (h : notSet r = true) : behindInMarks op r = false := by
  cases r <;> first | rfl | exact nf h

theorem eq_single {α : Type} {x : α} {l : List α} (h : l.isEmpty = true) : x :: l = [x] := by rw [List.isEmpty_iff.mp h]
/-- a comprehension's parts -/
theorem cComp_inv {f : Sc → Expr → Option Ex} {elt : Expr} {gens : List Comprehension} {sc : Scope} {M : Ex} (h : cComp f S elt gens sc = some M) :
    ∃ target iter ifs ts tp m it cm, gens = [⟨target, iter, ifs, 0⟩] ∧ targetsOf target = some (ts, tp) ∧ scopeOk S sc ts = true ∧ f (inner S sc ts) elt = some m ∧ f S iter = some it ∧ cIfs (f (inner S sc ts)) ifs = some cm ∧ M = .comp m ts.length tp it cm := by
  cases gens with
  | nil => exact no h
  | cons g r =>
    obtain ⟨hc, h⟩ := og h
    have hc := bAnd hc
    refine obK h fun t ht h => ?_
    obtain ⟨hs, h⟩ := og h
    refine obK h fun m hm h => obK h fun it hit h => omK h fun cm hcm e => ?_
    obtain ⟨target, iter, ifs, a⟩ := g
    refine ⟨target, iter, ifs, t.1, t.2, m, it, cm, ?_, ht, hs, hm, hit, hcm, e.symm⟩
    rw [eq_single hc.1, show a = 0 from eq_of_beq hc.2]
theorem cIfs_ok {f : Expr → Option Ex} (hf : ∀ e m, f e = some m → Sd c S e m) {ifs : List Expr} {cm : Ex} (h : cIfs f ifs = some cm) : CondOk c S ifs cm := by
  cases ifs with
  | nil => cases Option.some.inj h; exact .nil
  | cons e r =>
    obtain ⟨hc, h⟩ := og h
    rw [eq_single hc]
    exact .one (hf e cm h)

section
variable (hΦ : FnOk c) (hF : FaOk c.fa c.h₀) (f : Expr → Option Ex) (ih : ∀ e m, f e = some m → Sd c S e m) (ik : ∀ e m, f e = some m → Kinds e)
include ih ik
theorem cL_ok {es : List Expr} {ms : Exs} (h : cL f es = some ms) : SdL c S es ms := cL_sd (fun e m h => ⟨ih e m h, (ik e m h).star⟩) es h
include hΦ hF
theorem cCall_sd {g : Expr} {args : List Expr} {kws : List Keyword} {pos : Pos} {m : Ex} (h : cCall f g args kws pos = some m) : Sd c S (.Call g args kws pos) m := by
  obtain ⟨hlen, h⟩ := og h
  refine obK h fun ms hms h => ?_
  have hv := view_of g
  have plain : ∀ {m : Ex}, ((f g).bind fun m => cKws f m ms kws) = some m → Sd c S (.Call g args kws pos) m := fun h => obK h fun a ha h => by
    cases kws with
    | nil => cases Option.some.inj h; exact sd_call (ik _ _ ha).na hΦ hF (ih _ _ ha) (cL_ok f ih ik hms)
    | cons k r =>
      obtain ⟨hc, h⟩ := og h
      have hc := bAnd hc
      obtain ⟨x, e, kp⟩ := k
      refine omK h fun m' hm' h => ?_
      rw [eq_single hc.1, show x = some "key" from eq_of_beq hc.2, ← h]
      exact sd_callK (ik _ _ ha).na hΦ hF (ih _ _ ha) (cL_ok f ih ik hms) (ih _ _ hm')
  cases hw : view g with
  | attr o x p =>
    rw [hw] at h hv
    obtain ⟨hc, h⟩ := og h
    have g1 := bAnd hc
    have g2 := bAnd g1.1
    refine obK h fun mt hm h => omK h fun a ha h => ?_
    rw [show g = .Attribute o x p from hv, mtOf_name hm, List.isEmpty_iff.mp g2.1, ← h]
    exact sd_meth mt g1.2 g2.2 (of_decide_eq_true hlen) (ih _ _ ha) (cL_ok f ih ik hms)
  | _ => rw [hw] at h; exact plain h
omit hΦ hF
theorem cSub_sd {o i : Expr} {p : Pos} {m : Ex} (h : cSub f o i = some m) : Sd c S (.Subscript o i p) m := by
  refine obK h fun a ha h => ?_
  have hv := view_of i
  have plain : ∀ {m : Ex}, (f i).map (.idx a) = some m → Sd c S (.Subscript o i p) m := fun h => omK h fun b hb h => h ▸ sd_idx (ik _ _ hb).sl (ih _ _ ha) (ih _ _ hb)
  cases hw : view i with
  | slice l u s =>
    rw [hw] at h hv
    obtain ⟨p', rfl⟩ := hv
    exact obK h fun l hl h => obK h fun u hu h => omK h fun t ht h => h ▸ sd_sl (ih _ _ ha) (cOpt_sd ih hl) (cOpt_sd ih hu) (cOpt_sd ih ht)
  | _ => rw [hw] at h; exact plain h
end

theorem cE_sd (hΦ : FnOk c) (hF : FaOk c.fa c.h₀) (k : Nat) : ∀ (S : Sc), GlobOk c.fa c.h₀ S.gl → ∀ (e : Expr) (m : Ex), cE k S e = some m → Sd c S e m := by
  induction k with
  | zero => exact fun S _ e m h => no h
  | succ k IH =>
    intro S hG e m h
    have ih := IH S hG
    have ik : ∀ e m, cE k S e = some m → Kinds e := fun e m h => cE_form h
    replace h : cEo (cE k) S e = some m := h
    generalize cE k = f at ih ik h IH
    cases e with
    | Constant d j p =>
      cases d <;> first | exact no h | (cases Option.some.inj h; first | exact sd_none | exact sd_bool | exact sd_int | exact sd_bytes)
    | Name x p =>
      obtain ⟨hx, h⟩ := og h
      refine oeK h (fun _ h => ?_) fun i hs h => ?_
      · obtain ⟨hk, h⟩ := og h
        exact omK h fun v hg h => h ▸ sd_global hG (bNot hx) (eq_of_beq hk) hg
      · cases Option.some.inj h; exact sd_var (bNot hx) hs
    | BinOp l op r p => exact obK h fun o ho h => obK h fun a ha h => omK h fun b hb h => h ▸ sd_bin (opOf_py ho) (ih _ _ ha) (ih _ _ hb)
    | UnaryOp op x p =>
      cases op with
      | USub => exact omK h fun a ha h => h ▸ sd_neg (ih _ _ ha)
      | Not => exact omK h fun a ha h => h ▸ sd_not (ih _ _ ha)
      | _ => exact no h
    | BoolOp op vs p =>
      cases op with
      | And => exact cAnd_sd ih vs h
      | Or => exact cOr_sd ih vs h
    | Compare l ops rs p =>
      cases ops with
      | nil => exact no h
      | cons op ops =>
        cases ops with
        | cons => exact no h
        | nil =>
          cases rs with
          | nil => exact no h
          | cons r rs =>
            cases rs with
            | cons => exact no h
            | nil => exact obK h fun a ha h => omK h fun b hb h => h ▸ sd_cmp (cmOf_py _) (behind_of (ik _ _ hb).set) (ih _ _ ha) (ih _ _ hb)
    | IfExp d a b p => exact obK h fun d hd h => obK h fun a ha h => omK h fun b hb h => h ▸ sd_ite (ih _ _ hd) (ih _ _ ha) (ih _ _ hb)
    | Call f args kws pos => exact cCall_sd hΦ hF _ ih ik h
    | Subscript o i p => exact cSub_sd _ ih ik h
    | List es p => exact omK h fun ms hms h => h ▸ sd_lst (cL_ok _ ih ik hms)
    | Tuple es j p => exact omK h fun ms hms h => h ▸ sd_tpl (cL_ok _ ih ik hms)
    | ListComp elt gens sc p =>
      obtain ⟨target, iter, ifs, ts, tp, m, it, cm, rfl, htg, hsc, hm, hit, hcm, rfl⟩ := cComp_inv h
      exact sd_comp htg (scOk_of hsc) (ik _ _ hit).set (ih _ _ hit) (IH (inner S sc ts) hG _ _ hm) (cIfs_ok (IH (inner S sc ts) hG) hcm)
    | _ => exact no h
end


/-! frames -/
noncomputable def FAof (env : Env) : List Addr := env.locals :: env.cells.filterMap (fun p => env.cells.lookup p.1)
structure Fm (env : Env) (h : Heap) (f : Str → Option Value) : Prop where
  ns : ∃ m, h.Ns env.locals m ∧ ∀ x, env.kindOf x = some .local → m x = f x
  cell : ∀ x c, env.cells.lookup x = some c → ∃ v, h.IsCell c v ∧ (env.kindOf x = some .cell → v = f x)
structure SEnv (S : Sc) (env : Env) (h₀ : Heap) : Prop where
  inj : ∀ x y i, S.slot x = some i → S.slot y = some i → x = y
  apart : ∀ x y c, env.cells.lookup x = some c → env.cells.lookup y = some c → x = y
  lc : ∀ x c, env.cells.lookup x = some c → c ≠ env.locals
  fr : ∀ a ∈ FAof env, h₀.get? a = none

noncomputable def FrameOk (fa : Nat → Option Addr) (S : Sc) (env : Env) (ρ : Rho) (μ : List Addr) (h : Heap) : Prop :=
  ∃ f, Fm env h f ∧ ρ.length = S.n ∧ ∀ x i v, S.slot x = some i → ρ[i]? = some (some v) → ∃ u, f x = some u ∧ VR fa μ h u v

section
variable {fa : Nat → Option Addr} {S : Sc} {env : Env} {ρ : Rho} {μ μ' : List Addr} {h h' h₀ : Heap} {H : HP} {f : Str → Option Value}

theorem mem_lookup {α : Type} : ∀ {l : List (Str × α)} {x : Str} {a : α}, l.lookup x = some a → ∃ b, (x, b) ∈ l := fun h => ⟨_, mem_of_lookup h⟩
theorem fa_cell {x : Str} {c : Addr} (h : env.cells.lookup x = some c) : c ∈ FAof env := by
  refine List.mem_cons_of_mem _ (List.mem_filterMap.mpr ⟨(x, c), mem_of_lookup h, h⟩)
theorem fa_mem {a : Addr} (h : a ∈ FAof env) : a = env.locals ∨ ∃ x, env.cells.lookup x = some a := by
  rcases List.mem_cons.mp h with e | h
  · exact Or.inl e
  · obtain ⟨p, _, hp⟩ := List.mem_filterMap.mp h
    exact Or.inr ⟨p.1, hp⟩
theorem Fm.live (F : Fm env h f) {a : Addr} (ha : a ∈ FAof env) : ∃ o, h.get? a = some o ∧ ¬ isV o ∧ ∀ vs n, o ≠ Lobj vs n := by
  rcases fa_mem ha with rfl | ⟨x, hx⟩
  · obtain ⟨m, ⟨o, es, ep, ho, hd, _⟩, _⟩ := F.ns
    exact ⟨o, ho, not_isV_dict hd, not_list_dict hd⟩
  · obtain ⟨v, ⟨o, ho, hd⟩, _⟩ := F.cell x a hx
    exact ⟨o, ho, not_isV_cell hd, not_list_cell hd⟩
theorem Fm.keep (F : Fm env h f) (k : ∀ a ∈ FAof env, ∀ o, h.get? a = some o → h'.get? a = some o) : Fm env h' f where
  ns := let ⟨m, h1, h2⟩ := F.ns; ⟨m, h1.at' fun o e => k _ (List.mem_cons_self ..) o e, h2⟩
  cell := fun x c hx => let ⟨v, ⟨o, ho, hd⟩, h2⟩ := F.cell x c hx; ⟨v, ⟨o, k _ (fa_cell hx) o ho, hd⟩, h2⟩
theorem Fm.not_mem (F : Fm env h f) (l : LH fa μ H h) {a : Addr} (ha : a ∈ FAof env) : a ∉ μ := by
  obtain ⟨o, ho, _, hn⟩ := F.live ha
  exact l.not_mem_of ho hn
theorem Fm.xt (F : Fm env h f) (l : LH fa μ H h) (t : Xt [] μ h μ' h') : Fm env h' f :=
  F.keep fun a ha o e => t.keep a o e (F.not_mem l ha) (List.not_mem_nil)
theorem FrameOk.xt (F : FrameOk fa S env ρ μ h) (l : LH fa μ H h) (t : Xt [] μ h μ' h') : FrameOk fa S env ρ μ' h' :=
  let ⟨f, h1, h2, h3⟩ := F
  ⟨f, h1.xt l t, h2, fun x i v hs hv => let ⟨u, g1, g2⟩ := h3 x i v hs hv; ⟨u, g1, t.vr g2⟩⟩
theorem FrameOk.vars (F : FrameOk fa S env ρ μ h) (hE : EnvOk S env) : VarsOk fa S env ρ μ h := by
  obtain ⟨f, h1, h2, h3⟩ := F
  refine ⟨h2, fun x i v hs hv => ?_⟩
  obtain ⟨u, g1, g2⟩ := h3 x i v hs hv
  refine ⟨u, ?_, g2⟩
  rcases (hE.sl x i hs).2 with hk | hk
  · have hk' := (hE.kind x).trans hk
    obtain ⟨m, n1, n2⟩ := h1.ns
    exact Or.inl ⟨hk', m, n1, (n2 x hk').trans g1⟩
  · have hk' := (hE.kind x).trans hk
    obtain ⟨c, hc⟩ := hE.cell x hk'
    obtain ⟨v', c1, c2⟩ := h1.cell x c hc
    rw [c2 hk', g1] at c1
    exact Or.inr ⟨hk', c, hc, c1⟩

theorem frm_env {M : Model} {A : Around} {ts : List Str} (hE : EnvOk S env) (hN : SEnv S env h₀) (ht : ∀ x ∈ ts, ∃ i, S.slot x = some i) : Frm M A env (FAof env) ts (Fm env) where
  store := fun x hx s v f Q E F k => by
    obtain ⟨i, hi⟩ := ht x hx
    rcases (hE.sl x i hi).2 with hk | hk
    · have hk' := (hE.kind x).trans hk
      obtain ⟨m, n1, n2⟩ := F.ns
      refine wpAny_storeName_local hk' n1 (fun h' hn hs => ?_) (by rw [hE.fn]; rfl)
      obtain ⟨o, es, ep, ho, hd, _⟩ := id n1
      obtain ⟨o', es', ep', ho', _⟩ := id hn
      refine k h' _ ⟨⟨_, hn, fun y hy => ?_⟩, fun y c hy => ?_⟩ (Xt.sameBut hs (List.mem_cons_self ..) ho (not_isV_dict hd) ho')
      · by_cases e : y = x
        · simp [e]
        · simp [e, n2 y hy]
      · obtain ⟨v', c1, c2⟩ := F.cell y c hy
        refine ⟨v', c1.sameBut hs (hN.lc y c hy), fun hyk => ?_⟩
        have : y ≠ x := fun e => by rw [e, hk'] at hyk; cases hyk
        simp only [this, if_false]
        exact c2 hyk
    · have hk' := (hE.kind x).trans hk
      obtain ⟨c, hc⟩ := hE.cell x hk'
      obtain ⟨v', c1, c2⟩ := F.cell x c hc
      refine wpAny_storeName_cell hE.fn hk' hc c1 fun h' hn hs => ?_
      obtain ⟨o, ho, hd⟩ := id c1
      obtain ⟨o', ho', _⟩ := id hn
      obtain ⟨m, n1, n2⟩ := F.ns
      refine k h' s.toks ⟨⟨m, n1.sameBut hs (Ne.symm (hN.lc x c hc)), fun y hy => ?_⟩, fun y c' hy => ?_⟩ (Xt.sameBut hs (fa_cell hc) ho (not_isV_cell hd) ho')
      · have : y ≠ x := fun e => by rw [e, hk'] at hy; cases hy
        simp only [this, if_false]
        exact n2 y hy
      · by_cases e : y = x
        · subst e
          rw [hc] at hy; cases hy
          exact ⟨_, hn, fun _ => by simp⟩
        · obtain ⟨v'', c3, c4⟩ := F.cell y c' hy
          refine ⟨v'', c3.sameBut hs fun e' => e (hN.apart y x c (e' ▸ hy) hc), fun hyk => ?_⟩
          simp only [e, if_false]
          exact c4 hyk
  ext := fun h h' f hT hk => hT.keep fun a _ o e => hk a o e

theorem slots_cons {x : Str} {xs : List Str} {is : List Nat} (h : slots S (x :: xs) = some is) : ∃ i js, S.slot x = some i ∧ slots S xs = some js ∧ is = i :: js := obK h fun i h1 h => omK h fun js h2 h => ⟨i, js, h1, h2, h.symm⟩
theorem slots_mem (xs : List Str) : ∀ {is : List Nat}, slots S xs = some is → ∀ x ∈ xs, ∃ i, S.slot x = some i := by
  induction xs with
  | nil => exact fun _ x hx => (List.not_mem_nil hx).elim
  | cons y ys ih =>
    intro is h x hx
    obtain ⟨i, js, h1, h2, _⟩ := slots_cons h
    exact (List.mem_cons.mp hx).elim (fun e => ⟨i, e ▸ h1⟩) (ih h2 x)
theorem slots_len (xs : List Str) : ∀ {is : List Nat}, slots S xs = some is → is.length = xs.length := by
  induction xs with
  | nil => intro is h; cases Option.some.inj h; rfl
  | cons y ys ih =>
    intro is h
    obtain ⟨i, js, h1, h2, rfl⟩ := slots_cons h
    exact congrArg (· + 1) (ih h2)

noncomputable def VarsR (fa : Nat → Option Addr) (S : Sc) (ρ : Rho) (μ : List Addr) (h : Heap) (f : Str → Option Value) : Prop :=
  ρ.length = S.n ∧ ∀ x i v, S.slot x = some i → ρ[i]? = some (some v) → ∃ u, f x = some u ∧ VR fa μ h u v
theorem VarsR.set {x : Str} {i : Nat} {v : V} {u : Value} (hE : EnvOk S env) (hN : SEnv S env h₀) (hs : S.slot x = some i) (R : VarsR fa S ρ μ h f) (r : VR fa μ h u v) : VarsR fa S (ρ.set i (some v)) μ h (fun y => if y = x then some u else f y) := by
  refine ⟨by simp [R.1], fun y j v' hy hv => ?_⟩
  by_cases e : y = x
  · subst e
    rw [hs] at hy; cases hy
    have hi : i < ρ.length := by rw [R.1]; exact (hE.sl _ _ hs).1
    rw [List.getElem?_set_self hi] at hv
    cases hv
    exact ⟨u, by simp, r⟩
  · have hij : i ≠ j := fun e' => e (hN.inj y x i (e' ▸ hy) hs)
    rw [List.getElem?_set_ne hij] at hv
    obtain ⟨u', g1, g2⟩ := R.2 y j v' hy hv
    exact ⟨u', by simp [e, g1], g2⟩
theorem VarsR.setAll (hE : EnvOk S env) (hN : SEnv S env h₀) (xs : List Str) : ∀ {is : List Nat} {us : List Value} {ps : List V} {ρ : Rho} {f : Str → Option Value}, slots S xs = some is → us.length = xs.length → VarsR fa S ρ μ h f → VRs fa μ h us ps → VarsR fa S (setAll ρ is ps) μ h (Upd f (xs.zip us)) := by
  induction xs with
  | nil => intro is us ps ρ f h _ R r; cases Option.some.inj h; exact R
  | cons x xs ih =>
    intro is us ps ρ f h hl R r
    obtain ⟨i, js, h1, h2, rfl⟩ := slots_cons h
    cases r with
    | nil => exact nomatch hl
    | cons r1 rs => exact (ih (is := js) h2 (Nat.succ.inj hl) (R.set hE hN h1 r1) rs :)
theorem VarsR.mono (R : VarsR fa S ρ μ h f) (hr : ∀ u v, VR fa μ h u v → VR fa μ' h' u v) : VarsR fa S ρ μ' h' f :=
  ⟨R.1, fun x i v hs hv => let ⟨u, g1, g2⟩ := R.2 x i v hs hv; ⟨u, g1, hr u v g2⟩⟩
end


inductive FlR (fa : Nat → Option Addr) (μ : List Addr) (h : Heap) : Flow → Fl → Prop
  | next : FlR fa μ h .next .next
  | brk : FlR fa μ h .brk .brk
  | ret {u : Value} {v : V} : VR fa μ h u v → FlR fa μ h (.ret u) (.ret v)

set_option genInjectivity false in
structure ResS (fa : Nat → Option Addr) (S : Sc) (env : Env) (μ : List Addr) (s : Shared) (q : Fl × Cfg) where
  fl : Flow
  h : Heap
  tk : Tok
  μ' : List Addr
  flr : FlR fa μ' h fl q.1
  lh : LH fa μ' q.2.2 h
  xt : Xt (FAof env) μ s.heap μ' h
  fr : FrameOk fa S env q.2.1 μ' h
@[reducible] noncomputable def ResS.st {fa : Nat → Option Addr} {S : Sc} {env : Env} {μ : List Addr} {s : Shared} {q : Fl × Cfg} (r : ResS fa S env μ s q) : Shared := stOf s r.h r.tk
noncomputable def OkS (fa : Nat → Option Addr) (S : Sc) (env : Env) (μ : List Addr) (s : Shared) (q : Fl × Cfg) (Q : Flow → Shared → Prop) : Prop := ∀ r : ResS fa S env μ s q, Q r.fl r.st

structure PtS (c : Cx) (S : Sc) (A : Around) (env : Env) (ρ : Rho) (H : HP) (μ : List Addr) (s : Shared) : Prop where
  rm : Rm A c.n
  eo : EnvOk S env
  sn : SEnv S env c.h₀
  fr : FrameOk c.fa S env ρ μ s.heap
  wd : Wd c.fa c.h₀ μ H s.heap
noncomputable def Sx (c : Cx) (S : Sc) (X : Env → Sem Flow) (m : St) : Prop :=
  ∀ (A : Around) (env : Env) (ρ : Rho) (H : HP) (μ : List Addr) (s : Shared), PtS c S A env ρ H μ s → ∀ q Q E, run c.Φ m (ρ, H) = some q → OkS c.fa S env μ s q Q → wpAny c.M A (X env) Q E s

section
variable {c : Cx} {S : Sc} {A : Around} {env : Env} {ρ : Rho} {H : HP} {μ μ' : List Addr} {s : Shared} {q : Fl × Cfg} {Q : Flow → Shared → Prop} {h' : Heap} {tk : Nat} {fa : Nat → Option Addr}

theorem PtS.pt (p : PtS c S A env ρ H μ s) : Pt c S A env ρ H μ s := ⟨p.rm, p.eo, p.fr.vars p.eo, p.wd⟩
theorem PtS.next (p : PtS c S A env ρ H μ s) {H' : HP} (l : LH c.fa μ' H' h') (t : Xt [] μ s.heap μ' h') : PtS c S A env ρ H' μ' (stOf s h' tk) := ⟨p.rm, p.eo, p.sn, p.fr.xt p.wd.lh t, p.wd.xt l t fun _ h => (List.not_mem_nil h).elim⟩
theorem PtS.after (p : PtS c S A env ρ H μ s) {l : V} {H' : HP} (r : Res c.fa μ s l H') : PtS c S A env ρ H' r.μ' r.st := p.next r.lh r.xt
theorem PtS.afterB (p : PtS c S A env ρ H μ s) {H' : HP} (r : ResB c.fa μ s H') : PtS c S A env ρ H' r.μ' r.st := p.next r.lh r.xt
theorem PtS.afterS (p : PtS c S A env ρ H μ s) (r : ResS c.fa S env μ s q) : PtS c S A env q.2.1 q.2.2 r.μ' r.st := ⟨p.rm, p.eo, p.sn, r.fr, p.wd.xt r.lh r.xt p.sn.fr⟩
theorem OkS.step (k : OkS fa S env μ s q Q) (t : Xt (FAof env) μ s.heap μ' h') : OkS fa S env μ' (stOf s h' tk) q Q := fun r => k ⟨r.fl, r.h, r.tk, r.μ', r.flr, r.lh, t.trans r.xt, r.fr⟩
theorem OkS.of {q' : Fl × Cfg} (k : OkS fa S env μ s q Q) (e : q' = q) : OkS fa S env μ s q' Q := e ▸ k
theorem OkS.here (k : OkS c.fa S env μ s q Q) (e : some (q.1, (ρ, H)) = some q) {fl : Flow} (r : FlR c.fa μ s.heap fl q.1) (p : PtS c S A env ρ H μ s) : Q fl s := by
  have e := Option.some.inj e
  exact k ⟨fl, s.heap, s.toks, μ, r, by rw [← e]; exact p.wd.lh, .refl, by rw [← e]; exact p.fr⟩

theorem sx_skip_execs : Sx c S (execs []) .skip := fun A env ρ H μ s p q Q E e k => by
  cases Option.some.inj (show some (Fl.next, (ρ, H)) = some q from e)
  exact wpAny_execs_nil (k.here rfl .next p)
theorem sx_pass {p : Pos} : Sx c S (exec (.Pass p)) .skip := fun A env ρ H μ s p q Q E e k => by
  cases Option.some.inj (show some (Fl.next, (ρ, H)) = some q from e)
  exact wpAny_Pass (k.here rfl .next p)
theorem sx_brk {p : Pos} : Sx c S (exec (.Break p)) .brk := fun A env ρ H μ s p q Q E e k => by
  cases Option.some.inj (show some (Fl.brk, (ρ, H)) = some q from e)
  exact wpAny_Break (k.here rfl .brk p)
theorem sx_seq {st : Stmt} {r : List Stmt} {a b : St} (h1 : Sx c S (exec st) a) (h2 : Sx c S (execs r) b) : Sx c S (execs (st :: r)) (.seq a b) := fun A env ρ H μ s p q Q E e k =>
  obK e fun q₁ e1 e => wpAny_execs_cons (h1 A env ρ H μ s p q₁ _ E e1 fun r₁ => by
    have hr := r₁.flr
    have e : goOn q₁ (run c.Φ b) = some q := e
    have p' := p.afterS r₁
    have k' := k.step (tk := r₁.tk) r₁.xt
    have lh := r₁.lh
    have fr := r₁.fr
    obtain ⟨f, ρ₁, H₁⟩ := q₁
    generalize r₁.fl = fl at hr ⊢
    cases hr with
    | next => exact h2 A env _ _ _ _ p' q Q E e k'
    | brk => exact k'.here (show some (q.1, (ρ₁, H₁)) = some q by cases Option.some.inj e; rfl) (show FlR c.fa _ _ _ q.1 by cases Option.some.inj e; exact .brk) p'
    | ret r => exact k'.here (show some (q.1, (ρ₁, H₁)) = some q by cases Option.some.inj e; rfl) (show FlR c.fa _ _ _ q.1 by cases Option.some.inj e; exact .ret r) p')

noncomputable def isSC (e : Expr) : Bool := isC 9 e || isC 10 e
theorem swaps_plain {e : Expr} {t : Option Expr} {n : Nat} {env : Env} (h : isComp e = false) (hs : isC 9 e = false ∧ isC 10 e = false) : swapsWith e t n env = pure false := by
  cases e <;> first | rfl | exact nt h | exact nt hs.1 | exact nt hs.2

theorem sx_ret {e : Expr} {p : Pos} {m : Ex} (h1 : Sd c S e m) : Sx c S (exec (.Return (some e) p)) (.ret m) := fun A env ρ H μ s p q Q E e k =>
  omK e fun v ev e => wpAny_Return_some (h1.val p.pt ev fun r => k ⟨.ret r.v, r.h, r.tk, r.μ', e ▸ .ret r.vr, e ▸ r.lh, r.xt.toF, e ▸ p.fr.xt p.wd.lh r.xt⟩)

theorem noRef_val {μ : List Addr} {h : Heap} {u : Value} {v : V} (r : VR fa μ h u v) (hn : noRef v = true) : ∀ a, u ≠ .ref a := by
  intro a e
  cases v with
  | none => exact nomatch r.none_inv.symm.trans e
  | bool => exact nomatch r.bool_inv.symm.trans e
  | int => obtain ⟨t, h⟩ := r.int_inv; exact nomatch h.symm.trans e
  | bytes => obtain ⟨t, h⟩ := r.bytes_inv; exact nomatch h.symm.trans e
  | _ => exact nf hn

theorem sx_exp {e : Expr} {p : Pos} {m : Ex} (hc : isComp e = false) (hcs : isC 9 e = false ∧ isC 10 e = false) (h1 : Sd c S e m) : Sx c S (exec (.Expr e p)) (.exp m) := fun A env ρ H μ s p q Q E e k =>
  obK e fun v ev e => oiK e fun hn e => wpAny_Expr (h1.val p.pt ev fun r => by
      have e := Option.some.inj e
      have hq : Q .next r.st := k ⟨.next, r.h, r.tk, r.μ', e ▸ .next, e ▸ r.lh, r.xt.toF, e ▸ p.fr.xt p.wd.lh r.xt⟩
      have hu := noRef_val r.vr hn
      generalize r.v = u at hu ⊢
      cases u <;> first | exact hq | exact absurd rfl (hu _)) (by simp [interactive, p.eo.fn]) (swaps_plain hc hcs)

theorem sx_ite {g : Expr} {a b : List Stmt} {p : Pos} {m : Ex} {x y : St} (h0 : Sd c S g m) (h1 : Sx c S (execs a) x) (h2 : Sx c S (execs b) y) : Sx c S (exec (.If g a b p)) (.ite m x y) := fun A env ρ H μ s p q Q E e k =>
  obK e fun t ec e => wpAny_If (h0.tru p.pt ec fun r => by
    obtain ⟨t, H₁⟩ := t
    cases t with
    | true => exact (if_pos rfl).symm ▸ h1 A env _ _ _ _ (p.afterB r) q Q E e (k.step r.xt.toF)
    | false => exact (if_neg Bool.false_ne_true).symm ▸ h2 A env _ _ _ _ (p.afterB r) q Q E e (k.step r.xt.toF))

/-- the frame's own objects may change -/
theorem LH.fxt (l : LH fa μ H s.heap) (F : FrameOk fa S env ρ μ s.heap) (t : Xt (FAof env) [] s.heap [] h') : LH fa μ H h' := by
  obtain ⟨g, hg, _⟩ := F
  refine l.off (fun b o hb e => t.keep b o e List.not_mem_nil hb) (fun a ha => hg.not_mem l ha) fun a ha o e => ?_
  obtain ⟨o', h1, h2, _⟩ := hg.live ha
  cases Option.some.inj (h1.symm.trans e)
  exact h2
theorem LH.fz (l : LH fa μ H s.heap) (F : FrameOk fa S env ρ μ s.heap) : ∀ a, μ[0]? = some a → a ∉ FAof env := fun a e hm => by
  obtain ⟨g, hg, _⟩ := F
  exact hg.not_mem l hm (List.mem_of_getElem? e)
/-- a target is laid -/
theorem PtS.laid (p : PtS c S A env ρ H μ s) {f : Str → Option Value} (g2 : VarsR c.fa S ρ μ s.heap f) {xs : List Str} {is : List Nat} {us : List Value} {ps : List V} (hs : slots S xs = some is) (hl : us.length = xs.length) (g1' : Fm env h' (Upd f (xs.zip us))) (r : VRs c.fa μ h' us ps) (t : Xt (FAof env) [] s.heap [] h') :
    LH c.fa μ H h' ∧ Xt (FAof env) μ s.heap μ h' ∧ FrameOk c.fa S env (setAll ρ is ps) μ h' :=
  ⟨p.wd.lh.fxt p.fr t, t.any (p.wd.lh.fz p.fr), _, g1', VarsR.setAll p.eo p.sn xs hs hl (g2.mono fun u v r => t.vr0 r) r⟩

noncomputable def Swaps (c : Cx) (S : Sc) (x : Str) (px : Pos) (e : Expr) (p : Pos) (i : Nat) (m : Ex) : Prop := ∀ A env ρ H μ s, PtS c S A env ρ H μ s →
  swapsWith e (some (.Name x px)) p.line env = pure false ∨ (swapsWith e (some (.Name x px)) p.line env = pure true ∧ ∀ v (Q : Flow → Shared → Prop) E, ev c.Φ m ρ H = some v → OkS c.fa S env μ s (.next, (ρ.set i (some v.1), v.2)) Q →
    wpAny c.M A (evalThenUse e env (assign (.Name x px) env)) (fun _ => Q .next) E s)
theorem asg_done {x : Str} {i : Nat} {v : V} {u : Value} {R : Unit → Shared → Prop} {E : Value → Shared → Prop} (hs : S.slot x = some i) (p : PtS c S A env ρ H μ s) (r : VR c.fa μ s.heap u v) (k : ∀ h' tk, LH c.fa μ H h' → Xt (FAof env) μ s.heap μ h' → FrameOk c.fa S env (ρ.set i (some v)) μ h' → (∀ a o, s.heap.get? a = some o → a ∉ FAof env → h'.get? a = some o) → R () (stOf s h' tk)) :
    wpAny c.M A (storeName env x u) R E s := by
  obtain ⟨g, g1, g2⟩ := p.fr
  refine (frm_env (ts := [x]) p.eo p.sn (fun y hy => ⟨i, List.mem_singleton.mp hy ▸ hs⟩)).store x (List.mem_singleton.mpr rfl) s u g _ E g1 fun h' tk g1' t => ?_
  obtain ⟨l', t', F'⟩ := p.laid (xs := [x]) (is := [i]) (us := [u]) (ps := [v]) g2 (by simp [slots, hs]) rfl g1' (.cons (t.vr0 r) .nil) t
  exact k h' tk l' t' F' fun a o e ha => t.keep a o e List.not_mem_nil ha
theorem asg_post {x : Str} {i : Nat} {v : V} {u : Value} {R : Unit → Shared → Prop} {px : Pos} {E : Value → Shared → Prop} (hs : S.slot x = some i) (p : PtS c S A env ρ H μ s) (r : VR c.fa μ s.heap u v) (k : ∀ h' tk, LH c.fa μ H h' → Xt (FAof env) μ s.heap μ h' → FrameOk c.fa S env (ρ.set i (some v)) μ h' → (∀ a o, s.heap.get? a = some o → a ∉ FAof env → h'.get? a = some o) → R () (stOf s h' tk)) :
    wpAny c.M A (assign (.Name x px) env u) R E s := wpAny_assign_Name (asg_done hs p r k)
theorem sx_asg {x : Str} {px p : Pos} {e : Expr} {i : Nat} {m : Ex} (hs : S.slot x = some i) (h1 : Sd c S e m) (hsw : Swaps c S x px e p i m) :
    Sx c S (exec (.Assign [.Name x px] e p)) (.asg i m) := fun A env ρ H μ s p q Q E e k => omK e fun v ev e => by
  rcases hsw A env ρ H μ s p with hsw | ⟨hsw, hu⟩
  · exact wpAny_Assign_Name (h1.val p.pt ev fun r => asg_done hs (p.after r) r.vr fun h' tk l' t' F' _ => k ⟨.next, h', tk, r.μ', e ▸ .next, e ▸ l', r.xt.toF.trans t', e ▸ F'⟩) hsw
  · rw [exec_Assign_Name_used _ _ _ _ hsw]
    exact wpAny_bind (wpAny_standAt (wpAny_bind (wpAny_mono (hu v Q E ev (k.of e)) (fun _ _ h => wpAny_pure h) fun _ _ x => x)))

theorem sx_unp {es : List Expr} {j : Nat} {tp p : Pos} {v : Expr} {xs : List Str} {is : List Nat} {m : Ex} (hn : namesIn es = some xs) (hs : slots S xs = some is) (ht : isTup v = false) (h1 : Sd c S v m) :
    Sx c S (exec (.Assign [.Tuple es j tp] v p)) (.unp is m) := fun A env ρ H μ s p q Q E e k => obK e fun x ev e => omK e fun ps hp e => by
  refine PyProof.Rows.Assign_Tuple (h1.val p.pt ev fun r => ?_) (by cases v <;> rfl) (by cases v <;> first | rfl | exact nt ht)
  have p' := p.after r
  obtain ⟨g, g1, g2⟩ := p'.fr
  rw [slots_len xs hs] at hp
  refine target_wp (ts := xs) (tp := true) (s := r.st) (frm_env p.eo p.sn (slots_mem xs hs)) p.rm.1 (show (namesIn es).map (·, true) = some (xs, true) by rw [hn]; rfl) hp r.vr r.lh g1 fun r' => ?_
  obtain ⟨l', t', F'⟩ := p'.laid g2 hs r'.len r'.t r'.vr r'.xt
  exact k ⟨.next, r'.h, r'.tk, r.μ', e ▸ .next, e ▸ l', r.xt.toF.trans t', e ▸ F'⟩
end


section
variable {c : Cx} {S : Sc} {A : Around} {env : Env} {ρ : Rho} {H : HP} {μ μ' : List Addr} {s : Shared} {q : Fl × Cfg} {Q : Flow → Shared → Prop} {h' : Heap} {tk : Nat}

theorem PtS.tok (p : PtS c S A env ρ H μ s) (tk : Tok) : PtS c S A env ρ H μ { s with toks := tk } := ⟨p.rm, p.eo, p.sn, p.fr, p.wd⟩
/-- an item laid into a list -/
theorem set_ok {E : Value → Shared → Prop} {v : V} {l k : V} {lv iv u : Value} (rl : VR c.fa μ s.heap lv l) (ri : VR c.fa μ s.heap iv k) (ru : VR c.fa μ s.heap u v) (p : PtS c S A env ρ H μ s) (e : setL ρ l k v H = some q) {μ₀ : List Addr} {s₀ : Shared} (t : Xt (FAof env) μ₀ s₀.heap μ s.heap) (ok : OkS c.fa S env μ₀ s₀ q Q) (hs : ∀ h tk, stOf s h tk = stOf s₀ h tk) :
    wpAny c.M A (setItem lv iv u) (fun _ => Q .next) E s := by
  refine obK e fun j hj e => obK e fun i hi e => obK e fun xs hx e => oiK e fun hc e => ?_
  have g1 := bAnd hc
  have g2 := bAnd g1.1
  have g3 := bAnd g2.1
  have c1 := of_decide_eq_true g3.1
  have c2 := of_decide_eq_true g3.2
  have c3 := lenOk_le g2.2
  refine p.wd.lh.getK (vr_list hj rl) hx fun a vs n hi' ha hvs => (vr_int hi ri).intK fun t' => ?_
  have hl := hvs.length
  refine PySem.W.ki_setAt (n := n) ha c1 (by (first | lia | omega)) (by rw [List.size_toArray, hl]; exact c2) ?_
  obtain ⟨n', hn'⟩ := mapSeq_at (ws := vs.set i.toNat u) (f := (·.setIfInBounds i.toNat u)) ha (by simp)
  obtain ⟨l', t'⟩ := p.wd.lh.upd hi' (of_decide_eq_true g1.2) update_keeps hn' (hvs.set ru i.toNat)
  have e := Option.some.inj e
  refine Eq.mp (congrArg (Q .next) (hs _ s.toks).symm) (ok ⟨.next, _, s.toks, μ, e ▸ .next, e ▸ l', t.trans t'.toF, e ▸ p.fr.xt p.wd.lh t'⟩)

theorem sx_setI {o i : Expr} {x : Expr} {tp p : Pos} {mo mi m : Ex} (hc : isComp x = false) (hcs : isC 9 x = false ∧ isC 10 x = false) (h1 : Sd c S x m) (h2 : Sd c S o mo) (h3 : Sd c S i mi) :
    Sx c S (exec (.Assign [.Subscript o i tp] x p)) (.setI mo mi m) := fun A env ρ H μ s p q Q E e k =>
  obK e fun v ev e => obK e fun l el e => obK e fun i ei e => wpAny_Assign_Subscript (h1.val p.pt ev fun r₁ => h2.val (p.after r₁).pt el fun r₂ => h3.val ((p.after r₁).after r₂).pt ei fun r₃ =>
    set_ok (r₃.xt.vr r₂.vr) r₃.vr ((r₂.xt.trans r₃.xt).vr r₁.vr) (((p.after r₁).after r₂).after r₃) e ((r₁.xt.trans r₂.xt).trans r₃.xt).toF k fun _ _ => rfl) (swaps_plain hc hcs)

theorem augStore_plain {i : Expr} {ov iv new : Value} (h : isSl i = false) : augStore i ov iv new = (do holding [new, ov, iv] (setItem ov iv new); release [new, ov, iv] []; pure .next) := by
  cases i <;> first | rfl | exact nt h

theorem sx_aug {o i x : Expr} {tp p : Pos} {mo mi m : Ex} (hi : isSl i = false) (h1 : Sd c S o mo) (h2 : Sd c S i mi) (h3 : Sd c S x m) :
    Sx c S (exec (.AugAssign (.Subscript o i tp) .Add x p)) (.aug mo mi .add m) := fun A env ρ H μ s p q Q E e k =>
  obK e fun l el e => obK e fun i ei e => obK e fun old hold e => obK e fun new en e => obK e fun a ha e => obK e fun b hb e =>
    wpAny_AugAssign_Subscript_any (h1.val p.pt el fun r₁ => h2.val (p.after r₁).pt ei fun r₂ => getI_ok hold (r₂.xt.vr r₁.vr) r₂.vr r₂.lh fun ov tk₂ ro =>
      h3.val (((p.after r₁).after r₂).tok tk₂).pt en fun r₃ => by
        obtain ⟨t1, e1⟩ := (vr_int ha ro).int_inv
        obtain ⟨t2, e2⟩ := (vr_int hb r₃.vr).int_inv
        rw [e1, e2]
        exact wpAny_iadd_int (set_ok (s := stOf r₃.st r₃.h (r₃.tk + 1)) (v := .int (a + b)) ((r₂.xt.trans r₃.xt).vr r₁.vr) (r₃.xt.vr r₂.vr) (.int _ _) (((((p.after r₁).after r₂).tok tk₂).after r₃).tok _) e ((r₁.xt.trans r₂.xt).trans r₃.xt).toF k fun _ _ => rfl)) (fun _ _ _ => augStore_plain hi)

/-- a place in a while loop: what is left of the run -/
structure LpI (c : Cx) (S : Sc) (env : Env) (μ : List Addr) (s : Shared) (q : Fl × Cfg) (go : Cfg → Option (Fl × Cfg)) (s' : Shared) : Prop where
  ex : ∃ h tk μ' ρ H, s' = stOf s h tk ∧ LH c.fa μ' H h ∧ FrameOk c.fa S env ρ μ' h ∧ Xt (FAof env) μ s.heap μ' h ∧ go (ρ, H) = some q
/-- what a loop's turn leaves, told by how its body ended -/
@[elab_as_elim] theorem turn_end {r₀ : Fl × Cfg} {go : Cfg → Option (Fl × Cfg)} {P : Flow → Prop} (t : Xt (FAof env) μ s.heap μ' h') (r : ResS c.fa S env μ' (stOf s h' tk) r₀) (e : loopOn r₀ go = some q) (k : OkS c.fa S env μ s q Q)
    (again : go r₀.2 = some q → P .next) (brk : Q .next (stOf s r.h r.tk) → P .brk) (ret : ∀ v, Q (.ret v) (stOf s r.h r.tk) → P (.ret v)) : P r.fl := by
  have t' := t.trans r.xt
  obtain ⟨f, σ⟩ := r₀
  obtain ⟨fl, h₁, tk₁, μ₁, flr, lh, xt, fr⟩ := r
  cases flr with
  | next => exact again e
  | brk =>
    have e := Option.some.inj (show some (Fl.next, σ) = some q from e)
    exact brk (k ⟨.next, h₁, tk₁, μ₁, e ▸ .next, e ▸ lh, t', e ▸ fr⟩)
  | ret r =>
    have e := Option.some.inj (show some (Fl.ret _, σ) = some q from e)
    exact ret _ (k ⟨.ret _, h₁, tk₁, μ₁, e ▸ .ret r, e ▸ lh, t', e ▸ fr⟩)
theorem PtS.far (p : PtS c S A env ρ H μ s) {ρ' : Rho} {H' : HP} (l : LH c.fa μ' H' h') (F : FrameOk c.fa S env ρ' μ' h') (t : Xt (FAof env) μ s.heap μ' h') : PtS c S A env ρ' H' μ' (stOf s h' tk) := ⟨p.rm, p.eo, p.sn, F, p.wd.xt l t p.sn.fr⟩

theorem sx_whl {g : Expr} {b : List Stmt} {p : Pos} {m : Ex} {x : St} (h0 : Sd c S g m) (h1 : Sx c S (execs b) x) : Sx c S (exec (.While g b [] p)) (.whl m x) := fun A env ρ H μ s p q Q E e k => by
  refine wpAny_While (codeAny_whileLoop (fun k s' => LpI c S env μ s q (whileGo (fun σ => evB c.Φ m σ.1 σ.2) (fun σ => run c.Φ x σ) k) s') ?_ WF ⟨s.heap, s.toks, μ, ρ, H, rfl, p.wd.lh, p.fr, .refl, e⟩)
  rintro j s' ⟨h', tk, μ', ρ₁, H₁, rfl, l, F, t, hg⟩
  have p' := p.far (tk := tk) l F t
  cases j with
  | zero => exact no hg
  | succ j =>
    refine obK hg fun d ed hg => h0.tru p'.pt ed fun r => ?_
    obtain ⟨d, H₂⟩ := d
    have p'' := p'.afterB r
    have t' := t.trans r.xt.toF
    cases d with
    | false =>
      have e := Option.some.inj (show some (Fl.next, (ρ₁, H₂)) = some q from hg)
      exact (if_neg Bool.false_ne_true).symm ▸ wpAny_execs_nil (k ⟨.next, r.h, r.tk, r.μ', e ▸ .next, e ▸ r.lh, t', e ▸ p''.fr⟩)
    | true =>
      refine (if_pos rfl).symm ▸ obK (show ((run c.Φ x (ρ₁, H₂)).bind fun r => loopOn r (whileGo (fun σ => evB c.Φ m σ.1 σ.2) (fun σ => run c.Φ x σ) j)) = some q from hg) fun r₀ eb hg => h1 A env _ _ _ _ p'' r₀ _ _ eb fun r' => ?_
      exact turn_end (s := s) t' r' hg k (fun e => ⟨j, Nat.lt_succ_self _, r'.h, r'.tk, r'.μ', _, _, rfl, r'.lh, r'.fr, t'.trans r'.xt, e⟩) (fun h => h) (fun v h => h)
end

set_option genInjectivity false in
/-- all that a for's turns share -/
structure FC where
  c : Cx
  S : Sc
  A : Around
  env : Env
  ρ₀ : Rho
  H₀ : HP
  μ : List Addr
  s : Shared
  target : Expr
  ts : List Str
  tp : Bool
  is : List Nat
  I : Addr
  src : Src
  μ₀ : List Addr
  T : Nat → Heap → Prop
  p : PtS c S A env ρ₀ H₀ μ s
  ht : targetsOf target = some (ts, tp)
  hs : slots S ts = some is
  it : It c.prog c.w A c.fa I src μ₀ T
  iF : I ∉ FAof env
  nI : s.heap.get? I = none
structure FK (X : FC) (h : Heap) (μ' : List Addr) (ρ : Rho) (H : HP) (i : Nat) : Prop where
  lh : LH X.c.fa μ' H h
  fr : FrameOk X.c.fa X.S X.env ρ μ' h
  xt : Xt (FAof X.env) X.μ X.s.heap μ' h
  t : X.T i h
  pre : X.μ₀ <+: μ'
  fx : ∀ us, X.src = .fixed us → i ≤ us.length
noncomputable def FInv (X : FC) (q : Fl × Cfg) (go : Nat → Nat → Cfg → Option (Fl × Cfg)) (k : Nat) (s' : Shared) : Prop := ∃ h tk μ' ρ H i, s' = stOf X.s h tk ∧ FK X h μ' ρ H i ∧ go k i (ρ, H) = some q

section
variable {X : FC} {i j : Nat} {h h' : Heap} {tk tk' : Tok} {μ' : List Addr} {ρ : Rho} {H : HP}
theorem FK.pt (y : FK X h μ' ρ H i) : PtS X.c X.S X.A X.env ρ H μ' (stOf X.s h tk) := X.p.far y.lh y.fr y.xt
theorem FK.live (y : FK X h μ' ρ H i) : ItLive X.I h := X.it.live i h y.t
/-- the iterator goes on -/
theorem FK.off (y : FK X h μ' ρ H i) (hk : Kx [X.I] h h') : LH X.c.fa μ' H h' ∧ FrameOk X.c.fa X.S X.env ρ μ' h' ∧ Xt (FAof X.env) X.μ X.s.heap μ' h' := by
  have hv : NoV [X.I] h := all_one y.live.nv
  have hn : ∀ b o, X.s.heap.get? b = some o → b ∉ [X.I] := fun b o e hb => no (X.nI.symm.trans (List.mem_singleton.mp hb ▸ e))
  have t := y.xt
  obtain ⟨g, g1, g2⟩ := y.fr
  exact ⟨y.lh.off hk (all_one (y.live.mem y.lh)) hv, ⟨g, g1.keep fun a ha o e => hk a o (fun hb => X.iF (List.mem_singleton.mp hb ▸ ha)) e, (show VarsR X.c.fa X.S ρ μ' h g from g2).mono fun u v r => vr_off r hk hv⟩,
    ⟨t.pre, t.new, fun a o e => let ⟨o', e'⟩ := t.live a o e; ⟨o', hk a o' (hn a o e) e'⟩, fun b o e h1 h2 => hk b o (hn b o e) (t.keep b o e h1 h2), fun b o e hv => hk b o (hn b o e) (t.kv b o e hv), fun a o e1 e2 => hk a o (hn a o e2) (t.zero a o e1 e2)⟩⟩
theorem FK.itr (y : FK X h μ' ρ H i) (hk : Kx [X.I] h h') (hT : X.T j h') (hj : ∀ us, X.src = .fixed us → j ≤ us.length) : FK X h' μ' ρ H j := let ⟨h1, h2, h3⟩ := y.off hk; ⟨h1, h2, h3, hT, y.pre, hj⟩
/-- the body has run -/
theorem FK.on {r₀ : Fl × Cfg} (y : FK X h μ' ρ H i) (r : ResS X.c.fa X.S X.env μ' (stOf X.s h tk) r₀) : FK X r.h r.μ' r₀.2.1 r₀.2.2 i :=
  ⟨r.lh, r.fr, y.xt.trans r.xt, X.it.frame _ _ _ y.t fun o e => r.xt.keep _ _ e (y.live.mem y.lh) X.iF, y.pre.trans r.xt.pre, y.fx⟩
theorem for_item {xv : V} {v : Value} {ps : List V} {Q : Unit → Shared → Prop} {E : Value → Shared → Prop} (y : FK X h μ' ρ H i) (hps : parts X.tp X.is.length xv H = some ps) (rv : VR X.c.fa μ' h v xv) (k : ∀ h' tk', FK X h' μ' (setAll ρ X.is ps) H i → Q () (stOf X.s h' tk')) :
    wpAny X.c.M X.A (letOwnedTupleGo X.target (.ref X.I) v) (fun _ s₁' => wpAny X.c.M X.A (assign X.target X.env v) Q E s₁') E (stOf X.s h tk) := by
  obtain ⟨g, g1, g2⟩ := y.fr
  rw [slots_len X.ts X.hs] at hps
  refine letOwned_wp y.live (target_wp (s := stOf X.s h tk) (frm_env X.p.eo X.p.sn (slots_mem X.ts X.hs)) X.p.rm.1 X.ht hps rv y.lh g1 fun r => ?_)
  obtain ⟨l', t', F'⟩ := (y.pt (tk := tk)).laid g2 X.hs r.len r.t r.vr r.xt
  exact k r.h r.tk ⟨l', F', y.xt.trans t', X.it.frame _ _ _ y.t fun o e => r.xt.keep _ _ e List.not_mem_nil X.iF, y.pre, y.fx⟩
end

theorem sx_fr {c : Cx} {S : Sc} {t it : Expr} {b : List Stmt} {p : Pos} {ts : List Str} {tp : Bool} {is : List Nat} {m : Ex} {x : St} (ht : targetsOf t = some (ts, tp)) (hs : slots S ts = some is) (hset : notSet it = true) (h0 : Sd c S it m) (h1 : Sx c S (execs b) x) :
    Sx c S (exec (.For t it b [] p)) (.fr is tp m x) := fun A env ρ H μ s p q Q E e k => obK e fun xv ex e => obK e fun src es e => by
  refine wpAny_For (h0.val p.pt ex fun r₁ => src_wp p.rm.1 es r₁.vr r₁.lh fun r₂ => ?_) (folded_of hset env)
  have p₁ := p.after r₁
  have hIF : r₂.I ∉ FAof env := fun hm => by
    obtain ⟨g, hg, _⟩ := p₁.fr
    obtain ⟨o, ho, _⟩ := hg.live hm
    exact no (r₂.new.symm.trans ho)
  have hIs : s.heap.get? r₂.I = none := by
    cases e : s.heap.get? r₂.I with
    | none => rfl
    | some o => obtain ⟨o', e'⟩ := r₁.xt.live _ o e; exact no (r₂.new.symm.trans e')
  let X : FC := { c, S, A, env, ρ₀ := ρ, H₀ := H, μ, s, target := t, ts, tp, is, I := r₂.I, src, μ₀ := r₁.μ', T := r₂.T, p, ht, hs, it := r₂.it, iF := hIF, nI := hIs }
  have y₀ : FK X r₂.h r₁.μ' ρ xv.2 0 := ⟨r₁.lh.ext r₂.keep, p₁.fr.xt r₁.lh (.ext r₂.keep), (r₁.xt.trans (.ext r₂.keep)).toF, r₂.t0, List.prefix_refl _, fun _ _ => Nat.zero_le _⟩
  refine codeAny_forLoop_any (FInv X q (forGo is tp (fun σ => run c.Φ x σ) src)) ?_ (src.fuel xv.2) ⟨r₂.h, r₂.tk, r₁.μ', ρ, xv.2, 0, rfl, y₀, e⟩
  rintro j s' ⟨h', tk, μ', ρ₁, Hc, i, rfl, y, g⟩
  cases j with
  | zero => exact no g
  | succ j =>
    refine obK g fun xs hx g => oeK g (fun hnone g => ?_) fun xv hxv g => obK g fun ps hps g => obK g fun r₀ eb g => ?_
    · refine r₂.it.done i (stOf s h' tk) μ' Hc xs _ _ y.t y.lh y.pre hx hnone (fun us hu => y.fx us hu) fun h'' tk' hk => wpAny_execs_nil ?_
      have e := Option.some.inj (show some (Fl.next, (ρ₁, Hc)) = some q from g)
      have z := y.off hk
      exact k ⟨.next, h'', tk', μ', e ▸ .next, e ▸ z.1, z.2.2, e ▸ z.2.1⟩
    · refine r₂.it.item i (stOf s h' tk) μ' Hc xs xv _ _ y.t y.lh y.pre hx hxv fun v h'' tk' rv hT hk => ?_
      have hfx : ∀ us, src = .fixed us → i + 1 ≤ us.length := fun us hu => by
        rw [hu] at hx
        rw [Option.some.inj (show some us = some xs from hx)]
        exact lt_of_get hxv
      exact for_item (X := X) (y.itr hk hT hfx) hps rv fun h₅ tk₅ z => h1 A env _ _ _ _ z.pt r₀ _ _ eb fun r' => turn_end (s := s) z.xt r' g k (fun e => ⟨j, Nat.lt_succ_self _, r'.h, r'.tk, r'.μ', _, _, i + 1, rfl, z.on r', e⟩) (fun h => h) (fun v h => h)


section
variable {c : Cx} {S : Sc}

theorem sx_asg_plain {x : Str} {px p : Pos} {e : Expr} {i : Nat} {m : Ex} (hs : S.slot x = some i) (hc : isComp e = false) (hcs : isC 9 e = false ∧ isC 10 e = false) (h1 : Sd c S e m) : Sx c S (exec (.Assign [.Name x px] e p)) (.asg i m) :=
  sx_asg hs h1 fun _ _ _ _ _ _ _ => Or.inl (swaps_plain hc hcs)

theorem sx_asg_comp {x : Str} {px p : Pos} {elt target iter : Expr} {ifs : List Expr} {sc : Scope} {pos : Pos} {ts : List Str} {tp : Bool} {i : Nat} {m it cm : Ex} (hs : S.slot x = some i) (ht : targetsOf target = some (ts, tp)) (hS : ScOk S sc ts) (hset : notSet iter = true)
    (h1 : Sd c S iter it) (h2 : Sd c (inner S sc ts) elt m) (h3 : CondOk c (inner S sc ts) ifs cm) :
    Sx c S (exec (.Assign [.Name x px] (.ListComp elt [⟨target, iter, ifs, 0⟩] sc pos) p)) (.asg i (.comp m ts.length tp it cm)) :=
  sx_asg hs (sd_comp ht hS hset h1 h2 h3) fun A env ρ H μ s p' => by
    have hsw : ∃ b, swapsWith (.ListComp elt [⟨target, iter, ifs, 0⟩] sc pos) (some (.Name x px)) p.line env = pure b := ⟨_, rfl⟩
    obtain ⟨b, hb⟩ := hsw
    cases b with
    | false => exact Or.inl hb
    | true =>
      refine Or.inr ⟨hb, fun v Q E ev k => ?_⟩
      show wpAny _ A (do let _ ← comprehension (.ListComp elt [⟨target, iter, ifs, 0⟩] sc pos) sc env _ (newList []) false (eval iter env) (some (assign (.Name x px) env))) _ _ s
      refine wpAny_bind (wpAny_mono (comp_wp (Q := fun _ s' => Q .next s') (use := some (assign (.Name x px) env)) ht hS hset h1 h2 h3 p'.pt ev fun D C m' r hv hc hn => ?_) (fun _ _ h => wpAny_pure h) fun _ _ x => x)
      have hCF : C ∉ FAof env := fun hm => by
        obtain ⟨g, hg, _⟩ := p'.fr
        obtain ⟨o, ho, _⟩ := hg.live hm
        exact no (hc.symm.trans ho)
      show wpAny _ A (assign (.Name x px) env (.ref D)) _ _ _
      refine asg_post hs (p'.after r) (hv ▸ r.vr) fun h' tk l' t' F' hk => ?_
      have hn' : h'.Ns C m' := hn.at' fun o e => hk _ _ e hCF
      refine ⟨m', hn', fun h'' hs3 => ?_⟩
      have hk3 : Kx [C] h' h'' := .one hs3
      have tt := r.xt.toF.trans t'
      have hne : ∀ b o, s.heap.get? b = some o → b ∉ [C] := fun b o e hm => no (hc.symm.trans (List.mem_singleton.mp hm ▸ e))
      obtain ⟨g, g1, g2⟩ := F'
      exact k ⟨.next, h'', tk, r.μ', .next, l'.off hk3 (all_one (ns_not_mem l' hn')) (nov_ns hn'),
        ⟨tt.pre, tt.new, fun a o e => let ⟨o', e'⟩ := tt.live a o e; ⟨o', hk3 a o' (hne a o e) e'⟩, fun b o e h1 h2 => hk3 b o (hne b o e) (tt.keep b o e h1 h2), fun b o e hv => hk3 b o (hne b o e) (tt.kv b o e hv), fun a o e1 e2 => hk3 a o (hne a o e2) (tt.zero a o e1 e2)⟩,
        ⟨g, g1.keep fun a ha o e => hk3 a o (fun hm => hCF (List.mem_singleton.mp hm ▸ ha)) e, (show VarsR c.fa S _ r.μ' h' g from g2).mono fun u v r => vr_off r hk3 (nov_ns hn')⟩⟩

theorem cB_sx {F : Stmt → St} (hF : ∀ st, Sx c S (exec st) (F st)) (b : List Stmt) : Sx c S (execs b) (cB F b) := by
  induction b with
  | nil => exact sx_skip_execs
  | cons st r ih => exact sx_seq (hF st) ih

theorem sx_bad {X : Env → Sem Flow} : Sx c S X .bad := fun A env ρ H μ s p q Q E e k => no e
theorem sx_getD {X : Env → Sem Flow} {o : Option St} (h : ∀ x, o = some x → Sx c S X x) : Sx c S X (Option.getD (α := St) o .bad) := by
  cases o with
  | none => exact sx_bad
  | some x => exact h x rfl

section
variable (f : Expr → Option Ex) (ih : ∀ e m, f e = some m → Sd c S e m) (ik : ∀ e m, f e = some m → Kinds e)
include ih ik
theorem cFor_sx {t it : Expr} {b : List Stmt} {p : Pos} {y x : St} (hb : Sx c S (execs b) y) (h : cFor f S t it y = some x) : Sx c S (exec (.For t it b [] p)) x :=
  obK h fun q hq h => obK h fun is his h => omK h fun m hm h => h ▸ sx_fr (ts := q.1) (tp := q.2) hq his (ik _ _ hm).set (ih _ _ hm) hb
theorem cAug_sx {t v : Expr} {op : Operator} {p : Pos} {x : St} (h : cAug f t op v = some x) : Sx c S (exec (.AugAssign t op v p)) x := by
  have hv := view_of t
  unfold cAug at h
  cases hw : view t with
  | sub o i =>
    rw [hw] at h hv
    obtain ⟨p', rfl⟩ := hv
    obtain ⟨hc, h⟩ := og h
    have hc := bAnd hc
    exact obK h fun o' ho h => obK h fun i' hi h => omK h fun m hm h => h ▸ eq_of_beq hc.1 ▸ sx_aug (bNot hc.2) (ih _ _ ho) (ih _ _ hi) (ih _ _ hm)
  | _ => rw [hw] at h; exact no h
theorem cTgt_sx (hcomp : ∀ {x i m px p v}, isComp v = true → S.slot x = some i → f v = some m → Sx c S (exec (.Assign [.Name x px] v p)) (.asg i m)) {t v : Expr} {p : Pos} {x : St} (h : cTgt f S t v = some x) : Sx c S (exec (.Assign [t] v p)) x := by
  have hv := view_of t
  unfold cTgt at h
  cases hw : view t with
  | name y =>
    rw [hw] at h hv
    obtain ⟨p', rfl⟩ := hv
    refine obK h fun i hi h => omK h fun m hm h => h ▸ ?_
    cases hc : isComp v with
    | true => exact hcomp hc hi hm
    | false => exact sx_asg_plain hi hc (ik _ _ hm).sc (ih _ _ hm)
  | sub o i =>
    rw [hw] at h hv
    obtain ⟨p', rfl⟩ := hv
    obtain ⟨hc, h⟩ := og h
    have hc := bAnd hc
    exact obK h fun o' ho h => obK h fun i' hi h => omK h fun m hm h => h ▸ sx_setI (bNot hc.2) (ik _ _ hm).sc (ih _ _ hm) (ih _ _ ho) (ih _ _ hi)
  | tup es =>
    rw [hw] at h hv
    obtain ⟨j, p', rfl⟩ := hv
    obtain ⟨hc, h⟩ := og h
    have hc := bAnd hc
    exact obK h fun xs hn h => obK h fun is his h => omK h fun m hm h => h ▸ sx_unp hn his (bNot hc.1) (ih _ _ hm)
  | _ => rw [hw] at h; exact no h
end

section
variable (hΦ : FnOk c) (hF : FaOk c.fa c.h₀) (hG : GlobOk c.fa c.h₀ S.gl)
include hΦ hF hG
theorem comp_asg {k : Nat} {x : Str} {i : Nat} {m : Ex} {px p : Pos} {v : Expr} (hc : isComp v = true) (hs : S.slot x = some i) (hm : cE k S v = some m) : Sx c S (exec (.Assign [.Name x px] v p)) (.asg i m) := by
  cases v with
  | ListComp elt gens sc pos =>
    cases k with
    | zero => exact no hm
    | succ k =>
      obtain ⟨target, iter, ifs, ts, tp, m, it, cm, rfl, htg, hsc, hm', hit, hcm, rfl⟩ := cComp_inv hm
      exact sx_asg_comp hs htg (scOk_of hsc) (cE_form hit).set (cE_sd hΦ hF k S hG _ _ hit) (cE_sd hΦ hF k (inner S sc ts) hG _ _ hm') (cIfs_ok (cE_sd hΦ hF k (inner S sc ts) hG) hcm)
  | _ => exact nf hc
omit hΦ hF hG
theorem cSo_sx {f : Expr → Option Ex} {g : Stmt → St} (ie : ∀ e m, f e = some m → Sd c S e m) (ik : ∀ e m, f e = some m → Kinds e) (ihb : ∀ b, Sx c S (execs b) (cB g b)) (hcomp : ∀ {x i m px p v}, isComp v = true → S.slot x = some i → f v = some m → Sx c S (exec (.Assign [.Name x px] v p)) (.asg i m)) {st : Stmt} {x : St} (h : cSo f g S st = some x) : Sx c S (exec st) x := by
  cases st with
  | Pass p => cases Option.some.inj h; exact sx_pass
  | Break p => cases Option.some.inj h; exact sx_brk
  | Return v p => exact obK h fun e hv h => omK h fun m hm h => h ▸ hv ▸ sx_ret (ie _ _ hm)
  | Expr e p =>
    obtain ⟨hc, h⟩ := og h
    exact omK h fun m hm h => h ▸ sx_exp (bNot hc) (ik _ _ hm).sc (ie _ _ hm)
  | If t b o p => exact omK h fun m hm h => h ▸ sx_ite (ie _ _ hm) (ihb b) (ihb o)
  | While t b o p =>
    obtain ⟨hc, h⟩ := og h
    rw [List.isEmpty_iff.mp hc]
    exact omK h fun m hm h => h ▸ sx_whl (ie _ _ hm) (ihb b)
  | For t it b o p =>
    obtain ⟨hc, h⟩ := og h
    rw [List.isEmpty_iff.mp hc]
    exact cFor_sx _ ie ik (ihb b) h
  | AugAssign t op v p => exact cAug_sx _ ie ik h
  | Assign ts v p =>
    cases ts with
    | nil => exact no h
    | cons t r =>
      obtain ⟨hc, h⟩ := og h
      rw [eq_single hc]
      exact cTgt_sx _ ie ik hcomp h
  | _ => exact no h
end

theorem cS_sx (hΦ : FnOk c) (hF : FaOk c.fa c.h₀) (hG : GlobOk c.fa c.h₀ S.gl) (k : Nat) : ∀ (st : Stmt), Sx c S (exec st) (cS k S st) := by
  induction k with
  | zero => exact fun st => sx_bad
  | succ k IH => exact fun st => sx_getD fun x h => cSo_sx (cE_sd hΦ hF k S hG) (fun e m h => cE_form h) (cB_sx IH) (fun h1 h2 h3 => comp_asg hΦ hF hG h1 h2 h3) h
end


/-! defs -/
noncomputable def nmOf (sc : Scope) : List Str := (sc.names.filter fun x => x.2 == .local || x.2 == .cell).map (·.1)
noncomputable def fnSc (gl : Str → Option V) (sc : Scope) : Sc := { n := (nmOf sc).length, kind := fun x => sc.names.lookup x, slot := fun x => if (nmOf sc).contains x then some ((nmOf sc).idxOf x) else none, gl }

theorem cells_mem : ∀ (names : List (Str × NameKind)) (n : Nat) (acc : List (Str × Addr)), (∀ p ∈ acc, p.2 < n) → acc.Pairwise (fun x y => x.2 ≠ y.2) →
    (cellsFrom n names acc).Pairwise (fun x y => x.2 ≠ y.2) ∧ ∀ p ∈ cellsFrom n names acc, p ∈ acc ∨ n ≤ p.2
  | [], n, acc, h1, h2 => ⟨h2, fun p hp => Or.inl hp⟩
  | (x, k) :: r, n, acc, h1, h2 => by
    unfold cellsFrom
    split
    · obtain ⟨g1, g2⟩ := cells_mem r (n + 1) ((x, n) :: acc) (fun p hp => by
        rcases List.mem_cons.mp hp with rfl | hp
        · exact Nat.lt_succ_self _
        · exact Nat.lt_succ_of_lt (h1 p hp)) (List.pairwise_cons.mpr ⟨fun p hp e => by
          have := h1 p hp
          have e' : n = p.2 := e
          rw [← e'] at this
          exact Nat.lt_irrefl _ this, h2⟩)
      refine ⟨g1, fun p hp => ?_⟩
      rcases g2 p hp with h | h
      · rcases List.mem_cons.mp h with rfl | h
        · exact Or.inr (Nat.le_refl _)
        · exact Or.inl h
      · exact Or.inr (Nat.le_of_succ_le h)
    · exact cells_mem r n acc h1 h2
theorem lookup_of_mem {α : Type} : ∀ {l : List (Str × α)} {x : Str} {a : α}, (x, a) ∈ l → ∃ b, l.lookup x = some b
  | (y, b) :: l, x, a, h => by
    cases e : x == y with
    | true => exact ⟨b, by simp [List.lookup_cons, e]⟩
    | false =>
      rcases List.mem_cons.mp h with h | h
      · cases h; simp at e
      · obtain ⟨b', hb⟩ := lookup_of_mem h
        exact ⟨b', by simp [List.lookup_cons, e, hb]⟩
theorem cells_has : ∀ (names : List (Str × NameKind)) (n : Nat) (acc : List (Str × Addr)) (x : Str), ((x, NameKind.cell) ∈ names ∨ ∃ c, (x, c) ∈ acc) → ∃ c, (x, c) ∈ cellsFrom n names acc
  | [], n, acc, x, h => by
    rcases h with h | h
    · simp at h
    · exact h
  | (y, k) :: r, n, acc, x, h => by
    unfold cellsFrom
    split
    · rename_i hk
      refine cells_has r (n + 1) _ x ?_
      rcases h with h | ⟨c, h⟩
      · rcases List.mem_cons.mp h with h | h
        · cases h; exact Or.inr ⟨n, List.mem_cons_self ..⟩
        · exact Or.inl h
      · exact Or.inr ⟨c, List.mem_cons_of_mem _ h⟩
    · rename_i hk
      refine cells_has r n _ x ?_
      rcases h with h | h
      · rcases List.mem_cons.mp h with h | h
        · cases h; exact absurd rfl hk
        · exact Or.inl h
      · exact Or.inr h
theorem cells_only : ∀ (names : List (Str × NameKind)) (n : Nat) (acc : List (Str × Addr)) (x : Str) (c : Addr), (x, c) ∈ cellsFrom n names acc → (x, NameKind.cell) ∈ names ∨ (x, c) ∈ acc
  | [], n, acc, x, c, h => Or.inr h
  | (y, k) :: r, n, acc, x, c, h => by
    unfold cellsFrom at h
    split at h
    · rename_i hk
      rcases cells_only r (n + 1) _ x c h with h | h
      · exact Or.inl (List.mem_cons_of_mem _ h)
      · rcases List.mem_cons.mp h with h | h
        · cases h; rw [eq_of_beq hk]; exact Or.inl (List.mem_cons_self ..)
        · exact Or.inr h
    · rcases cells_only r n _ x c h with h | h
      · exact Or.inl (List.mem_cons_of_mem _ h)
      · exact Or.inr h

theorem lookup_nodup {α : Type} : ∀ {l : List (Str × α)} {x : Str} {a : α}, (l.map (·.1)).Nodup → (x, a) ∈ l → l.lookup x = some a
  | (y, b) :: l, x, a, hn, h => by
    obtain ⟨n1, n2⟩ := List.nodup_cons.mp hn
    rcases List.mem_cons.mp h with h | h
    · cases h; simp
    · have : (x == y) = false := by
        cases e : x == y with
        | false => rfl
        | true => exact absurd (List.mem_map.mpr ⟨_, h, eq_of_beq e⟩) n1
      simp [List.lookup_cons, this, lookup_nodup n2 h]

section
variable {gl : Str → Option V} {sc : Scope} {env : Env} {L : Addr}

theorem nm_kind (hnd : (sc.names.map (·.1)).Nodup) {x : Str} (hx : x ∈ nmOf sc) : sc.names.lookup x = some .local ∨ sc.names.lookup x = some .cell := by
  obtain ⟨p, hp, rfl⟩ := List.mem_map.mp hx
  obtain ⟨h1, h2⟩ := List.mem_filter.mp hp
  obtain ⟨y, k⟩ := p
  simp only [Bool.or_eq_true, beq_iff_eq] at h2
  rw [lookup_nodup hnd h1]
  rcases h2 with rfl | rfl
  · exact Or.inl rfl
  · exact Or.inr rfl
theorem nm_nodup (hnd : (sc.names.map (·.1)).Nodup) : (nmOf sc).Nodup := by
  have : List.Sublist (nmOf sc) (sc.names.map (·.1)) := List.Sublist.map _ List.filter_sublist
  exact this.nodup hnd

theorem slot_inv {x : Str} {i : Nat} (h : (fnSc gl sc).slot x = some i) : x ∈ nmOf sc ∧ i = (nmOf sc).idxOf x ∧ i < (nmOf sc).length := by
  simp only [fnSc] at h
  split at h
  · rename_i hm
    cases h
    have hm' : x ∈ nmOf sc := by simpa using hm
    exact ⟨hm', rfl, List.idxOf_lt_length_of_mem hm'⟩
  · cases h

theorem entry_env (h1 : env.scope = sc) (h3 : env.cells = cellsFrom (L + 1) sc.names []) (h4 : env.globals = mainGlobals) (h5 : env.builtins = builtinsNs) (hk : sc.kind = .function) (hnd : (sc.names.map (·.1)).Nodup) : EnvOk (fnSc gl sc) env where
  fn := by rw [h1]; exact hk
  gl := h4
  bi := h5
  kind := fun x => by simp only [Env.kindOf, h1, fnSc]
  cell := fun x hx => by
    simp only [Env.kindOf, h1] at hx
    rw [h3]
    obtain ⟨c, hc⟩ := cells_has sc.names (L + 1) [] x (Or.inl (mem_of_lookup hx))
    exact lookup_of_mem hc
  sl := fun x i hx => by
    obtain ⟨a, b, c⟩ := slot_inv hx
    exact ⟨c, nm_kind hnd a⟩
theorem idx_inj {l : List Str} {x y : Str} (hx : x ∈ l) (hy : y ∈ l) (h : l.idxOf x = l.idxOf y) : x = y := by
  have h1 := List.getElem?_eq_getElem (List.idxOf_lt_length_of_mem hx)
  have h2 := List.getElem?_eq_getElem (List.idxOf_lt_length_of_mem hy)
  rw [List.getElem_idxOf] at h1 h2
  rw [h, h2] at h1
  exact (Option.some.inj h1).symm
theorem entry_senv {h₀ : Heap} (h2 : env.locals = L) (h3 : env.cells = cellsFrom (L + 1) sc.names []) (hf : ∀ a, L ≤ a → h₀.get? a = none) : SEnv (fnSc gl sc) env h₀ := by
  obtain ⟨g1, g2⟩ := cells_mem sc.names (L + 1) [] (fun p hp => by simp at hp) List.Pairwise.nil
  have up : ∀ x c, env.cells.lookup x = some c → L + 1 ≤ c := fun x c e => by
    rw [h3] at e
    rcases g2 _ (mem_of_lookup e) with h | h
    · simp at h
    · exact h
  refine ⟨fun x y i hx hy => ?_, fun x y c hx hy => ?_, fun x c hx => ?_, fun a ha => ?_⟩
  · obtain ⟨a1, b1, _⟩ := slot_inv hx
    obtain ⟨a2, b2, _⟩ := slot_inv hy
    exact idx_inj a1 a2 (b1.symm.trans b2)
  · rw [h3] at hx hy
    exact PySem.name_of_addr g1 (mem_of_lookup hx) (mem_of_lookup hy)
  · rw [h2]; exact Nat.ne_of_gt (up x c hx)
  · rcases fa_mem ha with rfl | ⟨x, hx⟩
    · exact hf _ (by rw [h2]; exact Nat.le_refl _)
    · exact hf _ (Nat.le_of_succ_le (up x a hx))

/-- the names bound, and what each holds -/
noncomputable def BoundTo (pn : List Str) (us : List Value) (m : Str → Option Value) (x : Str) : Prop := ∀ (i : Nat) (u : Value), pn[i]? = some x → us[i]? = some u → m x = some u
theorem bindL_other {kindOf : Str → Option NameKind} (pn : List Str) : ∀ {us : List Value} {m : Str → Option Value} {x : Str}, x ∉ pn → bindL kindOf (pn.zip us) m x = m x := by
  induction pn with
  | nil => intro us m x _; rfl
  | cons p pn ih =>
    intro us m x h
    cases us with
    | nil => rfl
    | cons u us =>
      refine (ih fun hm => h (List.mem_cons_of_mem _ hm)).trans ?_
      by_cases hk : kindOf p = some .local
      · rw [if_pos hk]; exact if_neg fun (e : x = p) => h (e ▸ List.mem_cons_self ..)
      · rw [if_neg hk]
theorem bindC_other {kindOf : Str → Option NameKind} (pn : List Str) : ∀ {us : List Value} {m : Str → Option Value} {x : Str}, x ∉ pn → bindC kindOf (pn.zip us) m x = m x := by
  induction pn with
  | nil => intro us m x _; rfl
  | cons p pn ih =>
    intro us m x h
    cases us with
    | nil => rfl
    | cons u us =>
      refine (ih fun hm => h (List.mem_cons_of_mem _ hm)).trans ?_
      by_cases hk : kindOf p = some .local
      · rw [if_pos hk]
      · rw [if_neg hk]; exact if_neg fun (e : x = p) => h (e ▸ List.mem_cons_self ..)
theorem bindL_at {kindOf : Str → Option NameKind} {x : Str} (hk : kindOf x = some .local) (pn : List Str) : ∀ {us : List Value} {m : Str → Option Value}, pn.Nodup → BoundTo pn us (bindL kindOf (pn.zip us) m) x := by
  induction pn with
  | nil => intro us m _ i u h; exact no h
  | cons p pn ih =>
    intro us m hn i u h1 h2
    cases us with
    | nil => exact no h2
    | cons v us =>
      cases i with
      | zero =>
        have h1 := Option.some.inj h1
        rw [← Option.some.inj h2]
        refine (bindL_other pn (h1 ▸ (List.nodup_cons.mp hn).1)).trans ?_
        rw [h1, if_pos hk]; exact if_pos rfl
      | succ i => exact ih (List.nodup_cons.mp hn).2 i u h1 h2
theorem bindC_at {kindOf : Str → Option NameKind} {x : Str} (hk : kindOf x ≠ some .local) (pn : List Str) : ∀ {us : List Value} {m : Str → Option Value}, pn.Nodup → BoundTo pn us (bindC kindOf (pn.zip us) m) x := by
  induction pn with
  | nil => intro us m _ i u h; exact no h
  | cons p pn ih =>
    intro us m hn i u h1 h2
    cases us with
    | nil => exact no h2
    | cons v us =>
      cases i with
      | zero =>
        have h1 := Option.some.inj h1
        rw [← Option.some.inj h2]
        refine (bindC_other pn (h1 ▸ (List.nodup_cons.mp hn).1)).trans ?_
        rw [h1, if_neg hk]; exact if_pos rfl
      | succ i => exact ih (List.nodup_cons.mp hn).2 i u h1 h2

/-- the slots of a call's beginning -/
noncomputable def rho0 (sc : Scope) (ls : List V) : Rho := rhoF (nmOf sc).length ls
theorem entry_frame {fa : Nat → Option Addr} {μ : List Addr} {h : Heap} {us : List Value} {ls : List V} {pn : List Str} (h1 : env.scope = sc) (hnd : (sc.names.map (·.1)).Nodup) (hpn : pn <+: nmOf sc) (hl : us.length = pn.length)
    (hns : h.Ns env.locals (bindL env.kindOf (pn.zip us) fun _ => none)) (hc : ∀ n c, env.cells.lookup n = some c → h.IsCell c (bindC env.kindOf (pn.zip us) (fun _ => none) n)) (r : VRs fa μ h us ls) :
    FrameOk fa (fnSc gl sc) env (rho0 sc ls) μ h := by
  have hlen : ls.length = pn.length := r.length.symm.trans hl
  have hpl : pn.length ≤ (nmOf sc).length := hpn.length_le
  have hpd : pn.Nodup := hpn.sublist.nodup (nm_nodup hnd)
  refine ⟨fun x => if env.kindOf x = some .local then bindL env.kindOf (pn.zip us) (fun _ => none) x else bindC env.kindOf (pn.zip us) (fun _ => none) x, ⟨⟨_, hns, fun x hx => (if_pos hx).symm⟩, fun x c hx => ⟨_, hc x c hx, fun hk => (if_neg (show ¬ env.kindOf x = some .local from fun e => by rw [hk] at e; cases e)).symm⟩⟩, ?_, fun x i v hs hv => ?_⟩
  · unfold rho0 rhoF
    rw [List.length_append, List.length_map, List.length_replicate, hlen]
    exact Nat.add_sub_cancel' hpl
  obtain ⟨a1, rfl, a3⟩ := slot_inv hs
  unfold rho0 rhoF at hv
  rcases Nat.lt_or_ge ((nmOf sc).idxOf x) ls.length with hi | hi
  · rw [List.getElem?_append_left (by rw [List.length_map]; exact hi), List.getElem?_map] at hv
    refine omK hv fun q hq e => ?_
    rw [← Option.some.inj e]
    obtain ⟨u, g1, g2⟩ := r.get hq
    refine ⟨u, ?_, g2⟩
    have hx : pn[(nmOf sc).idxOf x]? = some x := by
      obtain ⟨t, ht⟩ := hpn
      have h1 := List.getElem?_eq_getElem (List.idxOf_lt_length_of_mem a1)
      rw [List.getElem_idxOf] at h1
      rw [← ht, List.getElem?_append_left (by rw [ht]; exact hlen ▸ hi)] at h1
      rw [← ht]; exact h1
    by_cases hk : env.kindOf x = some .local
    · exact (if_pos hk).trans (bindL_at hk pn hpd _ u hx g1)
    · exact (if_neg hk).trans (bindC_at hk pn hpd _ u hx g1)
  · rw [List.getElem?_append_right (by rw [List.length_map]; exact hi), List.getElem?_replicate] at hv
    exact oiK hv fun _ e => nomatch Option.some.inj e
end

/-- what the arguments bind -/
structure BindR (fa : Nat → Option Addr) (h₀ : Heap) (fd : FuncData) (ρ : Rho) (μ : List Addr) (h : Heap) (vs : List Value) (kws : List (Str × Value)) : Prop where
  ex : ∃ us ls pn, (∀ s : Shared, (∀ b o, h₀.get? b = some o → s.heap.get? b = some o) → BindsTo s fd ⟨vs, kws⟩ (pn.zip us)) ∧ pn <+: nmOf fd.scope ∧ us.length = pn.length ∧ VRs fa μ h us ls ∧ ρ = rho0 fd.scope ls
/-- what is known of a def -/
structure FnD (fa : Nat → Option Addr) (h₀ : Heap) (gl : Str → Option V) (a : Addr) (f : Fn) (o : Obj) (fd : FuncData) (body : List Stmt) (fuel : Nat) : Prop where
  ho : h₀.get? a = some o
  hd : o.data = .func fd
  co : fd.scope.isCoroutine = false
  gen : fd.scope.isGenerator = false
  kind : fd.scope.kind = .function
  bd : fd.body = .stmts body
  cd : h₀.CodeRec fd.code fd.qualname
  clo : fd.closure = []
  glob : fd.globals = mainGlobals
  bi : fd.builtins = builtinsNs
  nd : (fd.scope.names.map (·.1)).Nodup
  fb : f.body = cB (cS fuel (fnSc gl fd.scope)) body
  bind : ∀ args key ρ, bindV f args key = some ρ → ∀ (μ : List Addr) (h : Heap) (vs : List Value) (kws : List (Str × Value)), VRs fa μ h vs args → KwOk fa μ h key kws → (∀ b o, h₀.get? b = some o → h.get? b = some o) → BindR fa h₀ fd ρ μ h vs kws

theorem Xt.drop {FA μ μ' : List Addr} {h h' : Heap} (x : Xt FA μ h μ' h') (hF : ∀ a ∈ FA, h.get? a = none) : Xt [] μ h μ' h' :=
  ⟨x.pre, x.new, x.live, fun b o e h1 _ => x.keep b o e h1 (fun hm => no ((hF b hm).symm.trans e)), x.kv, x.zero⟩

noncomputable def DefsOk (fa : Nat → Option Addr) (h₀ : Heap) (gl : Str → Option V) (Δ : Nat → Option Fn) : Prop := ∀ k a f, fa k = some a → Δ k = some f → ∃ o fd body fuel, FnD fa h₀ gl a f o fd body fuel

section
variable {prog : Program} {w : World} {fa : Nat → Option Addr} {h₀ : Heap} {gl : Str → Option V} {Δ : Nat → Option Fn}

theorem no_above (h : Heap) : ∀ x, h.objs.size ≤ x → h.get? x = none := fun x hx => by
  cases e : h.get? x with
  | none => rfl
  | some o' => exact absurd (Heap.lt_size e) (Nat.not_lt.mpr hx)

/-- how a call ends -/
theorem call_end {S : Sc} {env : Env} {μ : List Addr} {s : Shared} {h' : Heap} {tk : Tok} {q : Fl × Cfg} {v : V} {R : Result → Shared → Prop} (hN : SEnv S env s.heap) (hv : retOf q.1 = some v) (t₀ : Xt [] μ s.heap μ h') (hq : OkR fa μ s v q.2.2 R)
    (r : ResS fa S env μ (stOf s h' tk) q) : R (.ok (.ret (match r.fl with | .ret v => v | _ => .none))) r.st := by
  have t := ((t₀.toF (FA := FAof env)).trans r.xt).drop hN.fr
  obtain ⟨f, σ⟩ := q
  obtain ⟨fl, h₁, tk₁, μ₁, flr, lh, xt, fr⟩ := r
  cases flr with
  | next => exact hq ⟨.none, h₁, tk₁, μ₁, Option.some.inj hv ▸ .none, lh, t⟩
  | brk => exact no hv
  | ret r => exact hq ⟨_, h₁, tk₁, μ₁, Option.some.inj hv ▸ r, lh, t⟩

theorem callF_sound (hF : FaOk fa h₀) (hG : GlobOk fa h₀ gl) (hlim : h₀.NoLimit) (hD : DefsOk fa h₀ gl Δ) (n : Nat) : FnOk ⟨prog, w, fa, h₀, callF Δ n, n⟩ := by
  induction n with
  | zero => exact fun k args key H q e => no e
  | succ n ih =>
    refine fun k args key H q e A s μ a vs kws R hR hW hfa rs hk hq => obK e fun f hf e => obK e fun ρ hρ e => obK e fun p hrun e => omK e fun v hv e => ?_
    obtain ⟨o, fd, body, fuel, D⟩ := hD k a f hfa hf
    obtain ⟨us, ls, pn, hbind, hpn, hul, rus, hρ'⟩ := (D.bind args key ρ hρ μ s.heap vs kws rs hk hW.base).ex
    have hcd' : s.heap.CodeRec fd.code fd.qualname := by
      obtain ⟨c, oc, vs', tq, g1, g2, g3, g4⟩ := D.cd
      exact ⟨c, oc, vs', tq, g1, hW.base _ _ g2, g3, g4⟩
    refine PySem.codeAny_call_function (Nat.lt_of_le_of_lt (Nat.le_add_right _ _) hR.2.1) (hW.base _ _ D.ho) D.hd D.co D.gen D.bd hcd' (hbind s hW.base _ _ _ _ ?_)
    rw [D.clo]
    refine wpAny_newFunctionEnv_cells D.kind (fun x hx => ?_) fun env he s' X => ?_
    · rcases nm_kind D.nd (hpn.subset (List.of_mem_zip hx).1) with h | h
      · exact Or.inl h
      · refine Or.inr ⟨h, ?_⟩
        obtain ⟨c, hc⟩ := cells_has fd.scope.names (s.heap.objs.size + 1) [] x.1 (Or.inl (mem_of_lookup h))
        obtain ⟨c', hc'⟩ := lookup_of_mem hc
        rw [hc']; rfl
    obtain ⟨h', tk, hs', hkeep⟩ := X.done
    have e1 : env.scope = fd.scope := by rw [he]; rfl
    have e2 : env.locals = s.heap.objs.size := by rw [he]; rfl
    have e3 : env.cells = cellsFrom (s.heap.objs.size + 1) fd.scope.names [] := by rw [he]; rfl
    have hE : EnvOk (fnSc gl fd.scope) env := entry_env e1 e3 (by rw [he]; exact D.glob) (by rw [he]; exact D.bi) D.kind D.nd
    have hN : SEnv (fnSc gl fd.scope) env h₀ := entry_senv e2 e3 fun x hx => by
      cases e : h₀.get? x with
      | none => rfl
      | some o' => exact no ((no_above s.heap x hx).symm.trans (hW.base _ _ e))
    have hN' : SEnv (fnSc gl fd.scope) env s.heap := entry_senv e2 e3 (no_above s.heap)
    rw [hs'] at X ⊢
    have hFr : FrameOk fa (fnSc gl fd.scope) env (rho0 fd.scope ls) μ h' := entry_frame (env := env) e1 D.nd hpn hul X.toInCall.ns X.cell (rus.mono (List.prefix_refl _) fun b o e _ => hkeep b o e)
    have t₀ : Xt [] μ s.heap μ h' := .ext hkeep
    have l' : LH fa μ H h' := hW.lh.ext hkeep
    have main := cB_sx (fun st => cS_sx (S := fnSc gl fd.scope) ih hF hG fuel st) body
    rw [← D.fb] at main
    rw [hρ'] at hrun
    rw [← e] at hq
    exact ⟨(hlim.keeps hW.base).keeps hkeep, codeAny_func (main (A.deeper env) env _ H μ (stOf s h' tk) ⟨hR.deeper env, hE, hN, hFr, hW.xt l' t₀ fun a h => (List.not_mem_nil h).elim⟩ p _ _ hrun fun r => call_end hN' hv t₀ hq r)⟩
end


/-! the text's objects, read from the fragment -/
noncomputable def biTab : List (Str × Bi) := [("len", .len), ("range", .range), ("int", .int), ("abs", .abs), ("divmod", .divmod), ("isinstance", .isinstance), ("bytes", .bytes), ("list", .list)]
noncomputable def biOf (x : Str) : Option Bi := biTab.lookup x
noncomputable def BiFact (p : Str × Bi) : Prop := p.1 ≠ "__name__" ∧ bootBuiltins p.1 = some p.2.val
theorem fa_cons {α : Type} {P : α → Prop} {a : α} {l : List α} (h : P a) (hl : ∀ x ∈ l, P x) : ∀ x ∈ a :: l, P x := List.forall_mem_cons.mpr ⟨h, hl⟩
theorem bf_len : BiFact ("len", .len) := ⟨by decide +kernel, by kernel_rfl⟩
theorem bf_range : BiFact ("range", .range) := ⟨by decide +kernel, by kernel_rfl⟩
theorem bf_int : BiFact ("int", .int) := ⟨by decide +kernel, by kernel_rfl⟩
theorem bf_abs : BiFact ("abs", .abs) := ⟨by decide +kernel, by kernel_rfl⟩
theorem bf_divmod : BiFact ("divmod", .divmod) := ⟨by decide +kernel, by kernel_rfl⟩
theorem bf_isinstance : BiFact ("isinstance", .isinstance) := ⟨by decide +kernel, by kernel_rfl⟩
theorem bf_bytes : BiFact ("bytes", .bytes) := ⟨by decide +kernel, by kernel_rfl⟩
theorem bf_list : BiFact ("list", .list) := ⟨by decide +kernel, by kernel_rfl⟩
theorem biOf_val {x : Str} {b : Bi} (h : biOf x = some b) : BiFact (x, b) :=
  fa_cons bf_len (fa_cons bf_range (fa_cons bf_int (fa_cons bf_abs (fa_cons bf_divmod (fa_cons bf_isinstance (fa_cons bf_bytes (fa_cons bf_list fun _ h => (List.not_mem_nil h).elim))))))) (x, b) (mem_of_lookup h)
noncomputable def addrV : Option Value → Option Addr
  | none => none
  | some v => (match v with
    | .ref a => some a
    | _ => none)
noncomputable def addrK (K : Frag) (x : Str) : Option Addr := (nsIn K mainGlobals x).bind addrV
noncomputable def faK (K : Frag) (ns : List Str) (k : Nat) : Option Addr := (ns[k]?).bind (addrK K)
noncomputable def glV (ns : List Str) (x : Str) : Option Value → Option V
  | none => (biOf x).map .bi
  | some v => (match v with
    | .ref _ => if ns.contains x then some (.fn (ns.idxOf x)) else none
    | .int i _ => some (.int i)
    | _ => none)
noncomputable def glK (K : Frag) (ns : List Str) (x : Str) : Option V := (nsIn K mainGlobals x).bind (glV ns x)
noncomputable def funcOf (o : Obj) : Option FuncData := match o.data with
  | .func fd => some fd
  | _ => none
noncomputable def fdK (K : Frag) (ns : List Str) (k : Nat) : Option FuncData := (faK K ns k).bind fun a => (K.lookup a).bind funcOf
noncomputable def bodyOf (fd : FuncData) : List Stmt := match fd.body with
  | .stmts b => b
  | _ => []
noncomputable def isStmts (fd : FuncData) : Bool := match fd.body with
  | .stmts _ => true
  | _ => false
theorem body_of {fd : FuncData} (h : isStmts fd = true) : fd.body = .stmts (bodyOf fd) := by
  unfold isStmts at h
  unfold bodyOf
  cases hb : fd.body with
  | stmts b => rfl
  | _ => rw [hb] at h; exact nf h
noncomputable def pnOf (fd : FuncData) : List Str := fd.params.args.map (·.arg) ++ fd.params.kwonlyargs.map (·.arg)
noncomputable def fnK (gl : Str → Option V) (fd : FuncData) : Fn :=
  { params := fd.params.args.length, key := !fd.params.kwonlyargs.isEmpty, slots := (nmOf fd.scope).length, body := cB (cS 40 (fnSc gl fd.scope)) (bodyOf fd) }
noncomputable def deltaK (K : Frag) (ns : List Str) (k : Nat) : Option Fn := (fdK K ns k).map (fnK (glK K ns))
noncomputable def fdOk (K : Frag) (fd : FuncData) : Bool :=
  !fd.scope.isCoroutine && !fd.scope.isGenerator && fd.scope.kind == .function && isStmts fd && codeIn K fd.code fd.qualname && fd.closure.isEmpty && Nat.beq fd.globals mainGlobals && Nat.beq fd.builtins builtinsNs &&
    decide ((fd.scope.names.map (·.1)).Nodup) && (pnOf fd).isPrefixOf (nmOf fd.scope)
noncomputable def dtok (K : Frag) (fd : FuncData) : Nat := match fd.defaults with
  | .ref a => (match K.lookup a with
    | some ⟨_, _, .seq xs _, _⟩ => (match xs.toList with | .int _ t :: _ => t | _ => 0)
    | _ => 0)
  | _ => 0
/-- what a call's arguments bind, in the fragment -/
noncomputable def PeekTo (K : Frag) (fd : FuncData) (vs : List Value) (kws : List (Str × Value)) (us : List Value) : Prop := ∀ S : Setting, peek K S (bindArgs fd ⟨vs, kws⟩) = some ((pnOf fd).zip us)
noncomputable def BindP (K : Frag) (fd : FuncData) : Prop := fd.params.kwonlyargs = [] ∧ ∀ (vs : List Value), vs.length = fd.params.args.length → PeekTo K fd vs [] vs
noncomputable def BindD (K : Frag) (fd : FuncData) : Prop := fd.params.kwonlyargs.length = 1 ∧ fd.params.args.length = 4 ∧
  (∀ v1 v2, PeekTo K fd [v1, v2] [] [v1, v2, .int 0 (dtok K fd), .none, .none]) ∧ (∀ v1 v2 vk, PeekTo K fd [v1, v2] [("key", vk)] [v1, v2, .int 0 (dtok K fd), .none, vk]) ∧
  (∀ v1 v2 v3 v4, PeekTo K fd [v1, v2, v3, v4] [] [v1, v2, v3, v4, .none]) ∧ (∀ v1 v2 v3 v4 vk, PeekTo K fd [v1, v2, v3, v4] [("key", vk)] [v1, v2, v3, v4, vk])

section
variable {K : Frag} {h₀ : Heap} {ns : List Str} {fa : Nat → Option Addr} {gl : Str → Option V}

theorem binds_of {fd : FuncData} {vs : List Value} {kws : List (Str × Value)} {us : List Value} (X : K.In h₀) (e : PeekTo K fd vs kws us) : ∀ s : Shared, (∀ b o, h₀.get? b = some o → s.heap.get? b = some o) → BindsTo s fd ⟨vs, kws⟩ ((pnOf fd).zip us) :=
  fun _ hk M _ _ _ q => (Looks.of_peek (M := M) (X.keeps hk) (e ⟨M.prog, M.w.params⟩)).here q
theorem pn_len (fd : FuncData) : (pnOf fd).length = fd.params.args.length + fd.params.kwonlyargs.length := by
  unfold pnOf
  rw [List.length_append, List.length_map, List.length_map]
theorem key_of {μ : List Addr} {h : Heap} {key : Option V} {kws : List (Str × Value)} (hk : KwOk fa μ h key kws) : ∃ uk, VR fa μ h uk (key.getD .none) ∧ ((kws = [] ∧ uk = .none) ∨ kws = [(("key" : Str), uk)]) := by
  cases key with
  | none => exact ⟨.none, .none, Or.inl ⟨hk, rfl⟩⟩
  | some kv => obtain ⟨u, h1, h2⟩ := hk; exact ⟨u, h2, Or.inr h1⟩
theorem len2 {α : Type} {l : List α} (h : l.length = 2) : ∃ a b, l = [a, b] := by
  obtain ⟨a, l, rfl⟩ := List.exists_cons_of_length_eq_add_one h
  obtain ⟨b, l, rfl⟩ := List.exists_cons_of_length_eq_add_one (Nat.succ.inj h)
  exact ⟨a, b, by rw [List.eq_nil_of_length_eq_zero (Nat.succ.inj (Nat.succ.inj h))]⟩
theorem len4 {α : Type} {l : List α} (h : l.length = 4) : ∃ a b c d, l = [a, b, c, d] := by
  obtain ⟨a, l, rfl⟩ := List.exists_cons_of_length_eq_add_one h
  obtain ⟨b, l, rfl⟩ := List.exists_cons_of_length_eq_add_one (Nat.succ.inj h)
  obtain ⟨c, d, rfl⟩ := len2 (Nat.succ.inj (Nat.succ.inj h))
  exact ⟨a, b, c, d, rfl⟩

theorem fn_binds {fd : FuncData} (X : K.In h₀) (hb : BindP K fd ∨ BindD K fd) (hp : pnOf fd <+: nmOf fd.scope) {args : List V} {key : Option V} {ρ : Rho} (hρ : bindV (fnK gl fd) args key = some ρ) {μ : List Addr} {h : Heap} {vs : List Value} {kws : List (Str × Value)}
    (rs : VRs fa μ h vs args) (hk : KwOk fa μ h key kws) : BindR fa h₀ fd ρ μ h vs kws := by
  have fin : ∀ {us : List Value} {ls : List V}, PeekTo K fd vs kws us → us.length = (pnOf fd).length → VRs fa μ h us ls → rho0 fd.scope ls = ρ → BindR fa h₀ fd ρ μ h vs kws := fun h1 h2 h3 h4 => ⟨_, _, pnOf fd, binds_of X h1, hp, h2, h3, h4.symm⟩
  have hl := rs.length
  rcases hb with ⟨p1, p2⟩ | ⟨d1, d2, d3, d4, d5, d6⟩
  · have hkey : (fnK gl fd).key = false := by unfold fnK; rw [p1]; rfl
    unfold bindV at hρ
    rw [hkey] at hρ
    obtain ⟨⟨hc1, hc2⟩, e⟩ := oi (show (if args.length = fd.params.args.length ∧ key.isNone = true then some (rho0 fd.scope args) else none) = some ρ from hρ)
    rw [Option.isNone_iff_eq_none.mp hc2] at hk
    have e1 := hl.trans hc1
    have hk : kws = [] := hk
    rw [hk] at fin ⊢
    exact fin (p2 vs e1) (by rw [pn_len, p1, e1]; rfl) rs (Option.some.inj e)
  · have hkey : (fnK gl fd).key = true := by
      unfold fnK
      cases hkw : fd.params.kwonlyargs with
      | nil => rw [hkw] at d1; exact nomatch d1
      | cons _ _ => rfl
    have hpl : (pnOf fd).length = 5 := by rw [pn_len, d1, d2]
    unfold bindV at hρ
    rw [hkey] at hρ
    replace hρ : (if args.length = 2 then some (rho0 fd.scope (args ++ [.int 0, .none, key.getD .none])) else if args.length = 4 then some (rho0 fd.scope (args ++ [key.getD .none])) else none) = some ρ := hρ
    obtain ⟨uk, hu1, hu2⟩ := key_of hk
    have hlast : VRs fa μ h [uk] [key.getD .none] := .cons hu1 .nil
    by_cases h2 : args.length = 2
    · rw [if_pos h2] at hρ
      obtain ⟨v1, v2, rfl⟩ := len2 (hl.trans h2)
      refine fin (us := [v1, v2, .int 0 (dtok K fd), .none, uk]) ?_ hpl.symm (rs.append (.cons (.int _ _) (.cons .none hlast))) (Option.some.inj hρ)
      rcases hu2 with ⟨h1, h2⟩ | h1
      · rw [h1, h2]; exact d3 v1 v2
      · rw [h1]; exact d4 v1 v2 uk
    · rw [if_neg h2] at hρ
      obtain ⟨h4, e⟩ := oi hρ
      obtain ⟨v1, v2, v3, v4, rfl⟩ := len4 (hl.trans h4)
      refine fin (us := [v1, v2, v3, v4, uk]) ?_ hpl.symm (rs.append hlast) (Option.some.inj e)
      rcases hu2 with ⟨h1, h2⟩ | h1
      · rw [h1, h2]; exact d5 v1 v2 v3 v4
      · rw [h1]; exact d6 v1 v2 v3 v4 uk

theorem fnD_of {a : Addr} {oc : Value} {od : Option Addr} {osl : Array (Option Value)} {fd : FuncData} (X : K.In h₀) (ho : K.lookup a = some ⟨oc, od, .func fd, osl⟩) (hk : fdOk K fd = true) (hb : BindP K fd ∨ BindD K fd) : FnD fa h₀ gl a (fnK gl fd) ⟨oc, od, .func fd, osl⟩ fd (bodyOf fd) 40 := by
  have k10 := bAnd hk
  have k9 := bAnd k10.1
  have k8 := bAnd k9.1
  have k7 := bAnd k8.1
  have k6 := bAnd k7.1
  have k5 := bAnd k6.1
  have k4 := bAnd k5.1
  have k3 := bAnd k4.1
  have k2 := bAnd k3.1
  exact { ho := X _ _ ho, hd := rfl, co := bNot k2.1, gen := bNot k2.2, kind := eq_of_beq k3.2, bd := body_of k4.2, cd := codeRec_of X k5.2, clo := List.isEmpty_iff.mp k6.2, glob := Nat.eq_of_beq_eq_true k7.2, bi := Nat.eq_of_beq_eq_true k8.2, nd := of_decide_eq_true k9.2, fb := rfl
          bind := fun args key ρ hρ μ h vs kws rs hkw _ => fn_binds X hb (List.isPrefixOf_iff_prefix.mp k10.2) hρ rs hkw }

theorem fdK_inv {k : Nat} {a : Addr} {fd : FuncData} (e : faK K ns k = some a) (h : fdK K ns k = some fd) : ∃ oc od osl, K.lookup a = some ⟨oc, od, .func fd, osl⟩ := by
  unfold fdK at h
  rw [e] at h
  refine obK (show ((K.lookup a).bind funcOf) = some fd from h) fun o ho h => ?_
  obtain ⟨oc, od, d, osl⟩ := o
  cases d with
  | func f => rw [← Option.some.inj h]; exact ⟨oc, od, osl, ho⟩
  | _ => exact no h
theorem faK_ok (X : K.In h₀) (h : ∀ k a, faK K ns k = some a → ∃ fd, fdK K ns k = some fd) : FaOk (faK K ns) h₀ := fun k a e =>
  let ⟨_, hf⟩ := h k a e
  let ⟨_, _, _, ho⟩ := fdK_inv e hf
  ⟨_, _, X _ _ ho, rfl⟩

theorem globOk_K {p : Program} {loose : List Str} {mg mb : Str → Option Value} (X : K.In h₀) (T : TopRead p loose mg mb h₀) : GlobOk (faK K ns) h₀ (glK K ns) := fun x V e => by
  unfold glK at e
  cases hv : nsIn K mainGlobals x with
  | none => rw [hv] at e; exact no e
  | some v =>
    rw [hv] at e
    have gl : ∀ {u : Value}, v = some u → ∀ (M : Model) (A : Around) (E : Value → Shared → Prop) (s : Shared) (Q : Value → Shared → Prop) (env : Env), (∀ b o, h₀.get? b = some o → s.heap.get? b = some o) → env.globals = mainGlobals → env.builtins = builtinsNs → Q u s → wpAny M A (loadGlobal env x) Q E s :=
      fun hu M A E s Q env hk h1 h2 hq => Calls.loadGlobal_global (mg := mg) (h1 ▸ T.g.keeps hk) (mg_of X T.g (hu ▸ hv)) hq
    cases v with
    | none =>
      refine omK (show (biOf x).map .bi = some V from e) fun b hb e => ?_
      obtain ⟨h3, h4⟩ := biOf_val hb
      exact ⟨b.val, fun M A E s Q env hk h1 h2 hq => Calls.loadGlobal_builtin (mg := mg) (mb := mb) (h1 ▸ T.g.keeps hk) (mg_none_of X T.g hv) (h2 ▸ T.b.keeps hk) ((T.builtins x h3).trans h4) hq, fun μ h _ => e ▸ .bi b⟩
    | some u =>
      cases u with
      | ref a =>
        obtain ⟨hm, e⟩ := oi (show (if ns.contains x then some (.fn (ns.idxOf x)) else none) = some V from e)
        refine ⟨.ref a, gl rfl, fun μ h _ => Option.some.inj e ▸ .fn ?_⟩
        have h1 := List.getElem?_eq_getElem (List.idxOf_lt_length_of_mem (List.contains_iff_mem.mp hm))
        rw [List.getElem_idxOf] at h1
        unfold faK
        rw [h1]
        show addrK K x = some a
        unfold addrK
        rw [hv]; rfl
      | int i t => exact ⟨_, gl rfl, fun μ h _ => Option.some.inj (show some (Mp.V.int i) = some V from e) ▸ .int _ _⟩
      | _ => exact no e

theorem deltaK_ok (X : K.In h₀) (hk : ∀ k fd, fdK K ns k = some fd → fdOk K fd = true ∧ (BindP K fd ∨ BindD K fd)) : DefsOk (faK K ns) h₀ (glK K ns) (deltaK K ns) := fun k a f e1 e2 =>
  omK e2 fun fd hf e => by
    obtain ⟨h1, h2⟩ := hk k fd hf
    obtain ⟨oc, od, osl, ho⟩ := fdK_inv e1 hf
    exact ⟨_, fd, _, 40, e ▸ fnD_of X ho h1 h2⟩
end


noncomputable def notL (o : Obj) : Bool := match o.cls with
  | .type n => n != "list"
  | _ => true

theorem mem_of_lookupA {K : Frag} {a : Addr} {o : Obj} (h : K.lookup a = some o) : (a, o) ∈ K := by
  induction K with
  | nil => exact no h
  | cons p r ih =>
    cases e : a == p.1 with
    | true =>
      rw [show List.lookup a (p :: r) = some p.2 from by rw [List.lookup_cons, e]] at h
      rw [← Option.some.inj h, eq_of_beq e]
      exact List.mem_cons_self ..
    | false =>
      rw [show List.lookup a (p :: r) = r.lookup a from by rw [List.lookup_cons, e]] at h
      exact List.mem_cons_of_mem _ (ih h)
theorem ns_hide {h : Heap} {L a : Addr} {m : Str → Option Value} {vs : List Value} {n : Nat} (x : h.Ns L m) (ha : h.get? a = some (Lobj vs n)) : (h.hide a).Ns L m :=
  x.at' fun o e => by
    refine (Heap.hide_ne h ?_).trans e
    intro hla
    obtain ⟨o', es, ep, ho, hd, _⟩ := x
    rw [hla, ha] at ho
    exact not_list_dict hd _ _ (Option.some.inj ho).symm
theorem vrs_ints {fa : Nat → Option Addr} {μ : List Addr} {h : Heap} {vs : List Value} {xs : List Int} (x : IntsAre vs xs) : VRs fa μ h vs (xs.map .int) := by
  induction x with
  | nil => exact .nil
  | cons n t _ ih => exact .cons (.int n t) ih

theorem well_ints {P : Params} {h : Heap} {a : Addr} {vs : List Value} {xs : List Int} (x : Well P h (.ref a) (ofPy (.list (xs.map .int)))) (hl : h.IsList a vs.toArray) : h.get? a = some (Lobj vs 0) := by
  generalize hd : ofPy (.list (xs.map .int)) = d at x
  cases x with
  | list ho _ =>
    obtain ⟨o, h1, h2, n, h3⟩ := hl
    rw [ho] at h1
    cases h1
    simp only [Data.seq.injEq] at h3
    rw [ho, h3.1]
  | _ => simp [ofPy] at hd

theorem law_end {prog : Program} {w : World} {K : Frag} {ns : List Str} {p : Program} {loose : List Str} {mg mb : Str → Option Value} {s₁ : Shared} {a : Addr} {vs : List Value} {xs : List Int} {env : Env} {sc : Scope} {h₁ : Heap} {tk : Tok}
    {body : List Stmt} {x : Str} {A : Around} {Q : Flow → Shared → Prop} {E : Value → Shared → Prop} {σ : Cfg}
    (X : K.In s₁.heap) (T : TopRead p loose mg mb s₁.heap) (hK : K.all (fun q => notL q.2) = true) (hfd : ∀ k fd, fdK K ns k = some fd → fdOk K fd = true ∧ (BindP K fd ∨ BindD K fd)) (hfa : ∀ k a, faK K ns k = some a → ∃ fd, fdK K ns k = some fd)
    (ha : s₁.heap.get? a = some (Lobj vs 0)) (hI : IntsAre vs xs) (hk : ∀ b o, s₁.heap.get? b = some o → h₁.get? b = some o)
    (e1 : env.scope = sc) (e2 : env.locals = s₁.heap.objs.size) (e3 : env.cells = cellsFrom (s₁.heap.objs.size + 1) sc.names []) (e4 : env.globals = mainGlobals) (e5 : env.builtins = builtinsNs) (hkind : sc.kind = .function) (hnd : (sc.names.map (·.1)).Nodup)
    (hpn : [x] <+: nmOf sc) (hns : h₁.Ns env.locals (bindL env.kindOf [(x, .ref a)] fun _ => none)) (hc : ∀ n c, env.cells.lookup n = some c → h₁.IsCell c (bindC env.kindOf [(x, .ref a)] (fun _ => none) n)) (hR : Rm A 11)
    (hrun : run (callF (deltaK K ns) 11) (cB (cS 40 (fnSc (glK K ns) sc)) body) (some (.list 0) :: List.replicate ((nmOf sc).length - 1) none, [xs.map .int]) = some (.ret (.bool true), σ))
    (hQ : ∀ h' tk', (∀ b o, s₁.heap.get? b = some o → h'.get? b = some o) → Q (.ret (.bool true)) { s₁ with heap := h', toks := tk' }) :
    wpAny (model prog w) A (execs body env) Q E { s₁ with heap := h₁, toks := tk } := by
  have hb₀ : ∀ b o, (s₁.heap.hide a).get? b = some o → h₁.get? b = some o := fun b o e => hk b o (Heap.of_hide e)
  have X₀ : K.In (s₁.heap.hide a) := fun b o e => by
    refine (Heap.hide_ne s₁.heap ?_).trans (X b o e)
    intro hba
    have h1 := List.all_eq_true.mp hK _ (mem_of_lookupA e)
    have h2 := X b o e
    rw [hba, ha] at h2
    cases h2
    simp [notL] at h1
  have T₀ : TopRead p loose mg mb (s₁.heap.hide a) := { g := ns_hide T.g ha, b := ns_hide T.b ha, nolimit := let ⟨mc, h1, h2⟩ := T.nolimit; ⟨mc, ns_hide h1 ha, h2⟩, builtins := T.builtins, free := T.free }
  have hF : FaOk (faK K ns) (s₁.heap.hide a) := faK_ok X₀ hfa
  have hG : GlobOk (faK K ns) (s₁.heap.hide a) (glK K ns) := globOk_K X₀ T₀
  have hΦ := callF_sound (prog := prog) (w := w) hF hG T₀.nolimit (deltaK_ok X₀ hfd) 11
  have main := cB_sx (fun st => cS_sx (S := fnSc (glK K ns) sc) hΦ hF hG 40 st) body
  have hE : EnvOk (fnSc (glK K ns) sc) env := entry_env e1 e3 e4 e5 hkind hnd
  have hN : SEnv (fnSc (glK K ns) sc) env (s₁.heap.hide a) := entry_senv e2 e3 fun x hx => by
    cases e : (s₁.heap.hide a).get? x with
    | none => rfl
    | some o' => exact no ((no_above s₁.heap x hx).symm.trans (Heap.of_hide e))
  have hN' : SEnv (fnSc (glK K ns) sc) env s₁.heap := entry_senv e2 e3 (no_above s₁.heap)
  have l : LH (faK K ns) [a] [xs.map .int] h₁ := by
    refine ⟨rfl, by simp, fun i b ys h1 h2 => ?_⟩
    cases i with
    | succ i => exact no h1
    | zero =>
      rw [← Option.some.inj h1, ← Option.some.inj h2]
      exact ⟨vs, 0, hk _ _ ha, vrs_ints hI⟩
  have hFr : FrameOk (faK K ns) (fnSc (glK K ns) sc) env (rho0 sc [.list 0]) [a] h₁ :=
    entry_frame (us := [.ref a]) (ls := [.list 0]) (pn := [x]) e1 hnd hpn rfl hns hc (.cons (.list rfl) .nil)
  refine main A env _ _ [a] (stOf s₁ h₁ tk) ⟨hR, hE, hN, hFr, l, hb₀, fun b hb => by rw [List.mem_singleton.mp hb]; exact Heap.hide_self ..⟩ _ Q E hrun fun r => ?_
  obtain ⟨fl, h', tk', μ', flr, lh, t, fr⟩ := r
  have hfl : fl = .ret (.bool true) := by
    cases flr with
    | ret r => rw [r.bool_inv]
  show Q fl (stOf s₁ h' tk')
  rw [hfl]
  refine hQ h' tk' fun b o e => ?_
  by_cases hba : b = a
  · rw [hba] at e ⊢
    exact t.zero a o rfl (hk _ _ e)
  · exact t.keep b o (hk _ _ e) (fun hm => hba (List.mem_singleton.mp hm)) fun hm => no ((hN'.fr b hm).symm.trans e)


noncomputable def okB (K : Frag) (ns : List Str) (k a kw : Nat) : Bool := match fdK K ns k with
  | some fd => fdOk K fd && Nat.beq fd.params.args.length a && Nat.beq fd.params.kwonlyargs.length kw
  | none => false
noncomputable def peekB (K : Frag) (ns : List Str) (k : Nat) (S : Setting) (args : Args) : Option (List (Str × Value)) := match fdK K ns k with
  | some fd => peek K S (bindArgs fd args)
  | none => none
noncomputable def zipB (K : Frag) (ns : List Str) (k : Nat) (us : List Value) : Option (List (Str × Value)) := match fdK K ns k with
  | some fd => some ((pnOf fd).zip us)
  | none => none
noncomputable def tokB (K : Frag) (ns : List Str) (k : Nat) : Nat := match fdK K ns k with
  | some fd => dtok K fd
  | none => 0

section
variable {K : Frag} {ns : List Str} {k a kw : Nat} {fd : FuncData}
theorem has_of (h : okB K ns k a kw = true) : ∃ fd, fdK K ns k = some fd := by
  unfold okB at h
  split at h
  · exact ⟨_, by assumption⟩
  · cases h
theorem okB_inv (h : okB K ns k a kw = true) (e : fdK K ns k = some fd) : fdOk K fd = true ∧ fd.params.args.length = a ∧ fd.params.kwonlyargs.length = kw := by
  unfold okB at h
  rw [e] at h
  simp only [Bool.and_eq_true] at h
  exact ⟨h.1.1, Nat.eq_of_beq_eq_true h.1.2, Nat.eq_of_beq_eq_true h.2⟩
theorem peek_to {vs us : List Value} {kws : List (Str × Value)} (hb : ∀ S, peekB K ns k S ⟨vs, kws⟩ = zipB K ns k us) (e : fdK K ns k = some fd) : PeekTo K fd vs kws us := fun S => by
  have := hb S
  unfold peekB zipB at this
  rw [e] at this
  exact this
theorem okP_of (h : okB K ns k a 0 = true) (hb : ∀ S vs, vs.length = a → peekB K ns k S ⟨vs, []⟩ = zipB K ns k vs) (e : fdK K ns k = some fd) : fdOk K fd = true ∧ (BindP K fd ∨ BindD K fd) := by
  obtain ⟨h1, h2, h3⟩ := okB_inv h e
  exact ⟨h1, Or.inl ⟨List.length_eq_zero_iff.mp h3, fun vs hv => peek_to (fun S => hb S vs (hv.trans h2)) e⟩⟩
theorem okP1 (h : okB K ns k 1 0 = true) (hb : ∀ (S : Setting) (v0 : Value), peekB K ns k S ⟨[v0], []⟩ = zipB K ns k [v0]) (e : fdK K ns k = some fd) : fdOk K fd = true ∧ (BindP K fd ∨ BindD K fd) :=
  okP_of h (fun S vs hv => by obtain ⟨v0, rfl⟩ := List.length_eq_one_iff.mp hv; exact hb S v0) e
theorem okP2 (h : okB K ns k 2 0 = true) (hb : ∀ (S : Setting) (v0 v1 : Value), peekB K ns k S ⟨[v0, v1], []⟩ = zipB K ns k [v0, v1]) (e : fdK K ns k = some fd) : fdOk K fd = true ∧ (BindP K fd ∨ BindD K fd) :=
  okP_of h (fun S vs hv => by obtain ⟨v0, v1, rfl⟩ := len2 hv; exact hb S v0 v1) e
theorem okP3 (h : okB K ns k 3 0 = true) (hb : ∀ (S : Setting) (v0 v1 v2 : Value), peekB K ns k S ⟨[v0, v1, v2], []⟩ = zipB K ns k [v0, v1, v2]) (e : fdK K ns k = some fd) : fdOk K fd = true ∧ (BindP K fd ∨ BindD K fd) :=
  okP_of h (fun S vs hv => by
    obtain ⟨v0, l, rfl⟩ := List.exists_cons_of_length_eq_add_one hv
    obtain ⟨v1, v2, rfl⟩ := len2 (Nat.succ.inj hv)
    exact hb S v0 v1 v2) e
theorem okP4 (h : okB K ns k 4 0 = true) (hb : ∀ (S : Setting) (v0 v1 v2 v3 : Value), peekB K ns k S ⟨[v0, v1, v2, v3], []⟩ = zipB K ns k [v0, v1, v2, v3]) (e : fdK K ns k = some fd) : fdOk K fd = true ∧ (BindP K fd ∨ BindD K fd) :=
  okP_of h (fun S vs hv => by obtain ⟨v0, v1, v2, v3, rfl⟩ := len4 hv; exact hb S v0 v1 v2 v3) e
theorem okD_of (h : okB K ns k 4 1 = true) (h1 : ∀ (S : Setting) (v1 v2 : Value), peekB K ns k S ⟨[v1, v2], []⟩ = zipB K ns k [v1, v2, .int 0 (tokB K ns k), .none, .none])
    (h2 : ∀ (S : Setting) (v1 v2 vk : Value), peekB K ns k S ⟨[v1, v2], [(("key" : Str), vk)]⟩ = zipB K ns k [v1, v2, .int 0 (tokB K ns k), .none, vk])
    (h3 : ∀ (S : Setting) (v1 v2 v3 v4 : Value), peekB K ns k S ⟨[v1, v2, v3, v4], []⟩ = zipB K ns k [v1, v2, v3, v4, .none])
    (h4 : ∀ (S : Setting) (v1 v2 v3 v4 vk : Value), peekB K ns k S ⟨[v1, v2, v3, v4], [(("key" : Str), vk)]⟩ = zipB K ns k [v1, v2, v3, v4, vk]) (e : fdK K ns k = some fd) : fdOk K fd = true ∧ (BindP K fd ∨ BindD K fd) := by
  obtain ⟨g1, g2, g3⟩ := okB_inv h e
  have ht : tokB K ns k = dtok K fd := by unfold tokB; rw [e]
  rw [ht] at h1 h2
  exact ⟨g1, Or.inr ⟨g3, g2, fun _ _ => peek_to (fun S => h1 S _ _) e, fun _ _ _ => peek_to (fun S => h2 S _ _ _) e, fun _ _ _ _ => peek_to (fun S => h3 S _ _ _ _) e, fun _ _ _ _ _ => peek_to (fun S => h4 S _ _ _ _ _) e⟩⟩
end

theorem rm_law (env : Env) : Rm (callerA.deeper env) 11 := Rm.deeper (n := 11) ⟨rfl, by decide, by decide⟩ env
theorem cells_are {cm : Str → Option Value} {cs : List (Str × Addr)} {cells : List (Addr × Obj)} (x : CellsAre cm cs cells) {n : Str} {c : Addr} (h : cs.lookup n = some c) : ∃ o, (c, o) ∈ cells ∧ o.data = .cell (cm n) := by
  induction x with
  | nil => simp at h
  | @cons n' c' o cs cells hd _ ih =>
    cases e : n == n' with
    | true =>
      simp only [List.lookup_cons, e] at h
      cases h
      rw [eq_of_beq e]
      exact ⟨o, List.mem_cons_self .., hd⟩
    | false =>
      simp only [List.lookup_cons, e] at h
      obtain ⟨o', h1, h2⟩ := ih h
      exact ⟨o', List.mem_cons_of_mem _ h1, h2⟩
theorem good_true {c : ClaimW} {cl : Str → Option Addr} {mean : ExcName → Option Value} {args : List WData} {s₁ : Shared} {h' : Heap} {tk : Tok} (hk : ∀ b o, s₁.heap.get? b = some o → h'.get? b = some o) (hg : s₁.gens = #[]) (hn : ∀ cls, c.raises args cls = false)
    (hp : c.post args (.bool true) args = true) : GoodW c cl mean args s₁ (.ok (.ret (.bool true))) { s₁ with heap := h', toks := tk } :=
  ⟨.inl ⟨.bool true, .bool true, [], rfl, hn, .bool true, hp, unshared_nil⟩, hk, rfl, hg⟩

open_top hd03 for PySem.Challenge.rw_ul0001_03

noncomputable def ns03 : List Str := ["ISTERMINAL", "ISNONTERMINAL", "ISEOF", "insort_right", "bisect_right", "insort_left", "bisect_left", "Int2AP", "_law_cells", "_law_number", "_law_letters", "_law_order", "_law_from", "_law_laid", "_law_gone", "_law_home", "_law_holds", "law"]
theorem notL03 (p : Params) : (hd03.heap_39 p).all (fun q => notL q.2) = true := by kernel_rfl

theorem ok03_0 (p : Params) : okB (hd03.heap_39 p) ns03 0 1 0 = true := by kernel_rfl
theorem bd03_0 (p : Params) (S : Setting) (v0 : Value) : peekB (hd03.heap_39 p) ns03 0 S ⟨[v0], []⟩ = zipB (hd03.heap_39 p) ns03 0 [v0] := by kernel_rfl
theorem ok03_1 (p : Params) : okB (hd03.heap_39 p) ns03 1 1 0 = true := by kernel_rfl
theorem bd03_1 (p : Params) (S : Setting) (v0 : Value) : peekB (hd03.heap_39 p) ns03 1 S ⟨[v0], []⟩ = zipB (hd03.heap_39 p) ns03 1 [v0] := by kernel_rfl
theorem ok03_2 (p : Params) : okB (hd03.heap_39 p) ns03 2 1 0 = true := by kernel_rfl
theorem bd03_2 (p : Params) (S : Setting) (v0 : Value) : peekB (hd03.heap_39 p) ns03 2 S ⟨[v0], []⟩ = zipB (hd03.heap_39 p) ns03 2 [v0] := by kernel_rfl
theorem ok03_3 (p : Params) : okB (hd03.heap_39 p) ns03 3 4 1 = true := by kernel_rfl
theorem bd03_3_2_0 (p : Params) (S : Setting) (v0 v1 : Value) : peekB (hd03.heap_39 p) ns03 3 S ⟨[v0, v1], []⟩ = zipB (hd03.heap_39 p) ns03 3 [v0, v1, .int 0 (tokB (hd03.heap_39 p) ns03 3), .none, .none] := by kernel_rfl
theorem bd03_3_2_1 (p : Params) (S : Setting) (v0 v1 vk : Value) : peekB (hd03.heap_39 p) ns03 3 S ⟨[v0, v1], [(("key" : Str), vk)]⟩ = zipB (hd03.heap_39 p) ns03 3 [v0, v1, .int 0 (tokB (hd03.heap_39 p) ns03 3), .none, vk] := by kernel_rfl
theorem bd03_3_4_0 (p : Params) (S : Setting) (v0 v1 v2 v3 : Value) : peekB (hd03.heap_39 p) ns03 3 S ⟨[v0, v1, v2, v3], []⟩ = zipB (hd03.heap_39 p) ns03 3 [v0, v1, v2, v3, .none] := by kernel_rfl
theorem bd03_3_4_1 (p : Params) (S : Setting) (v0 v1 v2 v3 vk : Value) : peekB (hd03.heap_39 p) ns03 3 S ⟨[v0, v1, v2, v3], [(("key" : Str), vk)]⟩ = zipB (hd03.heap_39 p) ns03 3 [v0, v1, v2, v3, vk] := by kernel_rfl
theorem ok03_4 (p : Params) : okB (hd03.heap_39 p) ns03 4 4 1 = true := by kernel_rfl
theorem bd03_4_2_0 (p : Params) (S : Setting) (v0 v1 : Value) : peekB (hd03.heap_39 p) ns03 4 S ⟨[v0, v1], []⟩ = zipB (hd03.heap_39 p) ns03 4 [v0, v1, .int 0 (tokB (hd03.heap_39 p) ns03 4), .none, .none] := by kernel_rfl
theorem bd03_4_2_1 (p : Params) (S : Setting) (v0 v1 vk : Value) : peekB (hd03.heap_39 p) ns03 4 S ⟨[v0, v1], [(("key" : Str), vk)]⟩ = zipB (hd03.heap_39 p) ns03 4 [v0, v1, .int 0 (tokB (hd03.heap_39 p) ns03 4), .none, vk] := by kernel_rfl
theorem bd03_4_4_0 (p : Params) (S : Setting) (v0 v1 v2 v3 : Value) : peekB (hd03.heap_39 p) ns03 4 S ⟨[v0, v1, v2, v3], []⟩ = zipB (hd03.heap_39 p) ns03 4 [v0, v1, v2, v3, .none] := by kernel_rfl
theorem bd03_4_4_1 (p : Params) (S : Setting) (v0 v1 v2 v3 vk : Value) : peekB (hd03.heap_39 p) ns03 4 S ⟨[v0, v1, v2, v3], [(("key" : Str), vk)]⟩ = zipB (hd03.heap_39 p) ns03 4 [v0, v1, v2, v3, vk] := by kernel_rfl
theorem ok03_5 (p : Params) : okB (hd03.heap_39 p) ns03 5 4 1 = true := by kernel_rfl
theorem bd03_5_2_0 (p : Params) (S : Setting) (v0 v1 : Value) : peekB (hd03.heap_39 p) ns03 5 S ⟨[v0, v1], []⟩ = zipB (hd03.heap_39 p) ns03 5 [v0, v1, .int 0 (tokB (hd03.heap_39 p) ns03 5), .none, .none] := by kernel_rfl
theorem bd03_5_2_1 (p : Params) (S : Setting) (v0 v1 vk : Value) : peekB (hd03.heap_39 p) ns03 5 S ⟨[v0, v1], [(("key" : Str), vk)]⟩ = zipB (hd03.heap_39 p) ns03 5 [v0, v1, .int 0 (tokB (hd03.heap_39 p) ns03 5), .none, vk] := by kernel_rfl
theorem bd03_5_4_0 (p : Params) (S : Setting) (v0 v1 v2 v3 : Value) : peekB (hd03.heap_39 p) ns03 5 S ⟨[v0, v1, v2, v3], []⟩ = zipB (hd03.heap_39 p) ns03 5 [v0, v1, v2, v3, .none] := by kernel_rfl
theorem bd03_5_4_1 (p : Params) (S : Setting) (v0 v1 v2 v3 vk : Value) : peekB (hd03.heap_39 p) ns03 5 S ⟨[v0, v1, v2, v3], [(("key" : Str), vk)]⟩ = zipB (hd03.heap_39 p) ns03 5 [v0, v1, v2, v3, vk] := by kernel_rfl
theorem ok03_6 (p : Params) : okB (hd03.heap_39 p) ns03 6 4 1 = true := by kernel_rfl
theorem bd03_6_2_0 (p : Params) (S : Setting) (v0 v1 : Value) : peekB (hd03.heap_39 p) ns03 6 S ⟨[v0, v1], []⟩ = zipB (hd03.heap_39 p) ns03 6 [v0, v1, .int 0 (tokB (hd03.heap_39 p) ns03 6), .none, .none] := by kernel_rfl
theorem bd03_6_2_1 (p : Params) (S : Setting) (v0 v1 vk : Value) : peekB (hd03.heap_39 p) ns03 6 S ⟨[v0, v1], [(("key" : Str), vk)]⟩ = zipB (hd03.heap_39 p) ns03 6 [v0, v1, .int 0 (tokB (hd03.heap_39 p) ns03 6), .none, vk] := by kernel_rfl
theorem bd03_6_4_0 (p : Params) (S : Setting) (v0 v1 v2 v3 : Value) : peekB (hd03.heap_39 p) ns03 6 S ⟨[v0, v1, v2, v3], []⟩ = zipB (hd03.heap_39 p) ns03 6 [v0, v1, v2, v3, .none] := by kernel_rfl
theorem bd03_6_4_1 (p : Params) (S : Setting) (v0 v1 v2 v3 vk : Value) : peekB (hd03.heap_39 p) ns03 6 S ⟨[v0, v1, v2, v3], [(("key" : Str), vk)]⟩ = zipB (hd03.heap_39 p) ns03 6 [v0, v1, v2, v3, vk] := by kernel_rfl
theorem ok03_7 (p : Params) : okB (hd03.heap_39 p) ns03 7 1 0 = true := by kernel_rfl
theorem bd03_7 (p : Params) (S : Setting) (v0 : Value) : peekB (hd03.heap_39 p) ns03 7 S ⟨[v0], []⟩ = zipB (hd03.heap_39 p) ns03 7 [v0] := by kernel_rfl
theorem ok03_8 (p : Params) : okB (hd03.heap_39 p) ns03 8 1 0 = true := by kernel_rfl
theorem bd03_8 (p : Params) (S : Setting) (v0 : Value) : peekB (hd03.heap_39 p) ns03 8 S ⟨[v0], []⟩ = zipB (hd03.heap_39 p) ns03 8 [v0] := by kernel_rfl
theorem ok03_9 (p : Params) : okB (hd03.heap_39 p) ns03 9 1 0 = true := by kernel_rfl
theorem bd03_9 (p : Params) (S : Setting) (v0 : Value) : peekB (hd03.heap_39 p) ns03 9 S ⟨[v0], []⟩ = zipB (hd03.heap_39 p) ns03 9 [v0] := by kernel_rfl
theorem ok03_10 (p : Params) : okB (hd03.heap_39 p) ns03 10 1 0 = true := by kernel_rfl
theorem bd03_10 (p : Params) (S : Setting) (v0 : Value) : peekB (hd03.heap_39 p) ns03 10 S ⟨[v0], []⟩ = zipB (hd03.heap_39 p) ns03 10 [v0] := by kernel_rfl
theorem ok03_11 (p : Params) : okB (hd03.heap_39 p) ns03 11 1 0 = true := by kernel_rfl
theorem bd03_11 (p : Params) (S : Setting) (v0 : Value) : peekB (hd03.heap_39 p) ns03 11 S ⟨[v0], []⟩ = zipB (hd03.heap_39 p) ns03 11 [v0] := by kernel_rfl
theorem ok03_12 (p : Params) : okB (hd03.heap_39 p) ns03 12 1 0 = true := by kernel_rfl
theorem bd03_12 (p : Params) (S : Setting) (v0 : Value) : peekB (hd03.heap_39 p) ns03 12 S ⟨[v0], []⟩ = zipB (hd03.heap_39 p) ns03 12 [v0] := by kernel_rfl
theorem ok03_13 (p : Params) : okB (hd03.heap_39 p) ns03 13 3 0 = true := by kernel_rfl
theorem bd03_13 (p : Params) (S : Setting) (v0 v1 v2 : Value) : peekB (hd03.heap_39 p) ns03 13 S ⟨[v0, v1, v2], []⟩ = zipB (hd03.heap_39 p) ns03 13 [v0, v1, v2] := by kernel_rfl
theorem ok03_14 (p : Params) : okB (hd03.heap_39 p) ns03 14 3 0 = true := by kernel_rfl
theorem bd03_14 (p : Params) (S : Setting) (v0 v1 v2 : Value) : peekB (hd03.heap_39 p) ns03 14 S ⟨[v0, v1, v2], []⟩ = zipB (hd03.heap_39 p) ns03 14 [v0, v1, v2] := by kernel_rfl
theorem ok03_15 (p : Params) : okB (hd03.heap_39 p) ns03 15 3 0 = true := by kernel_rfl
theorem bd03_15 (p : Params) (S : Setting) (v0 v1 v2 : Value) : peekB (hd03.heap_39 p) ns03 15 S ⟨[v0, v1, v2], []⟩ = zipB (hd03.heap_39 p) ns03 15 [v0, v1, v2] := by kernel_rfl
theorem ok03_16 (p : Params) : okB (hd03.heap_39 p) ns03 16 4 0 = true := by kernel_rfl
theorem bd03_16 (p : Params) (S : Setting) (v0 v1 v2 v3 : Value) : peekB (hd03.heap_39 p) ns03 16 S ⟨[v0, v1, v2, v3], []⟩ = zipB (hd03.heap_39 p) ns03 16 [v0, v1, v2, v3] := by kernel_rfl
theorem ok03_17 (p : Params) : okB (hd03.heap_39 p) ns03 17 1 0 = true := by kernel_rfl
theorem bd03_17 (p : Params) (S : Setting) (v0 : Value) : peekB (hd03.heap_39 p) ns03 17 S ⟨[v0], []⟩ = zipB (hd03.heap_39 p) ns03 17 [v0] := by kernel_rfl
theorem fds03 (p : Params) (k : Nat) (fd : FuncData) (h : fdK (hd03.heap_39 p) ns03 k = some fd) : fdOk (hd03.heap_39 p) fd = true ∧ (BindP (hd03.heap_39 p) fd ∨ BindD (hd03.heap_39 p) fd) := by
  rcases k with _ | _ | _ | _ | _ | _ | _ | _ | _ | _ | _ | _ | _ | _ | _ | _ | _ | _ | k
  · exact okP1 (ok03_0 p) (bd03_0 p) h
  · exact okP1 (ok03_1 p) (bd03_1 p) h
  · exact okP1 (ok03_2 p) (bd03_2 p) h
  · exact okD_of (ok03_3 p) (bd03_3_2_0 p) (bd03_3_2_1 p) (bd03_3_4_0 p) (bd03_3_4_1 p) h
  · exact okD_of (ok03_4 p) (bd03_4_2_0 p) (bd03_4_2_1 p) (bd03_4_4_0 p) (bd03_4_4_1 p) h
  · exact okD_of (ok03_5 p) (bd03_5_2_0 p) (bd03_5_2_1 p) (bd03_5_4_0 p) (bd03_5_4_1 p) h
  · exact okD_of (ok03_6 p) (bd03_6_2_0 p) (bd03_6_2_1 p) (bd03_6_4_0 p) (bd03_6_4_1 p) h
  · exact okP1 (ok03_7 p) (bd03_7 p) h
  · exact okP1 (ok03_8 p) (bd03_8 p) h
  · exact okP1 (ok03_9 p) (bd03_9 p) h
  · exact okP1 (ok03_10 p) (bd03_10 p) h
  · exact okP1 (ok03_11 p) (bd03_11 p) h
  · exact okP1 (ok03_12 p) (bd03_12 p) h
  · exact okP3 (ok03_13 p) (bd03_13 p) h
  · exact okP3 (ok03_14 p) (bd03_14 p) h
  · exact okP3 (ok03_15 p) (bd03_15 p) h
  · exact okP4 (ok03_16 p) (bd03_16 p) h
  · exact okP1 (ok03_17 p) (bd03_17 p) h
  · exact no h
theorem fas03 (p : Params) (k : Nat) (a : Addr) (h : faK (hd03.heap_39 p) ns03 k = some a) : ∃ fd, fdK (hd03.heap_39 p) ns03 k = some fd := by
  rcases k with _ | _ | _ | _ | _ | _ | _ | _ | _ | _ | _ | _ | _ | _ | _ | _ | _ | _ | k
  · exact has_of (ok03_0 p)
  · exact has_of (ok03_1 p)
  · exact has_of (ok03_2 p)
  · exact has_of (ok03_3 p)
  · exact has_of (ok03_4 p)
  · exact has_of (ok03_5 p)
  · exact has_of (ok03_6 p)
  · exact has_of (ok03_7 p)
  · exact has_of (ok03_8 p)
  · exact has_of (ok03_9 p)
  · exact has_of (ok03_10 p)
  · exact has_of (ok03_11 p)
  · exact has_of (ok03_12 p)
  · exact has_of (ok03_13 p)
  · exact has_of (ok03_14 p)
  · exact has_of (ok03_15 p)
  · exact has_of (ok03_16 p)
  · exact has_of (ok03_17 p)
  · exact no h

theorem head03 (hP : ∀ (p : Params) (xs : List Int), xs.length ≤ 63 → ∃ (f : Fn) (σ : Cfg), deltaK (hd03.heap_39 p) ns03 17 = some f ∧ run (callF (deltaK (hd03.heap_39 p) ns03) 11) f.body (some (.list 0) :: List.replicate (f.slots - 1) none, [xs.map .int]) = some (.ret (.bool true), σ)) :
    PySem.Challenge.rw_ul0001_03.Holds := by
  refine hd03 ?_
  k_go0
  all_goals try k_fold
  rename (hd03.heap_39 _).In _ => X
  rename Top _ _ _ _ _ _ => T
  rename Well _ _ _ _ => W1
  rename Heap.IsList _ _ _ => hL
  rename IntsAre _ _ => hI
  rename Fr _ _ _ _ => F
  rename CellsAre _ _ _ => C
  rename News _ _ _ _ => N
  rename _ = #[] => hg
  rename ¬ _ < _ => hcond
  obtain ⟨f, σ, hf, hrun⟩ := hP _ _ (Int.ofNat_le.mp (Int.not_lt.mp hcond))
  obtain rfl := Option.some.inj hf
  refine law_end (x := "script") (σ := σ) X (topRead_of T) (notL03 _) (fds03 _) (fas03 _) (well_ints W1 hL) hI F.keep rfl rfl rfl rfl rfl rfl (of_decide_eq_true (by kernel_rfl)) (List.isPrefixOf_iff_prefix.mp (by kernel_rfl)) F.ns (fun n c hc => ?_) (rm_law _) hrun fun h' tk' hk => ?_
  · obtain ⟨o, h1, h2⟩ := cells_are C hc
    exact ⟨o, (N _ h1).1, h2⟩
  · exact good_true hk hg (raisesW_false (by wrow_none_raised)) (by wrow_post)


theorem nd {α : Sort _} {a b : α} (h : a = b) : a = b := h

/-! stepping -/
section
variable {Φ : FnT} {a b : St} {c e o i : Ex} {σ : Cfg} {ρ : Rho} {H : HP} {k : Nat} {is : List Nat}
theorem r_skip : run Φ .skip σ = some (.next, σ) := nd rfl
theorem r_brk : run Φ .brk σ = some (.brk, σ) := nd rfl
theorem r_seq : run Φ (.seq a b) σ = (run Φ a σ).bind fun q => goOn q (run Φ b) := nd rfl
theorem r_asg : run Φ (.asg k e) (ρ, H) = (ev Φ e ρ H).map fun q => (.next, (ρ.set k (some q.1), q.2)) := nd rfl
theorem r_unp : run Φ (.unp is e) (ρ, H) = (ev Φ e ρ H).bind fun q => (parts true is.length q.1 q.2).map fun ps => (.next, (setAll ρ is ps, q.2)) := nd rfl
theorem r_exp : run Φ (.exp e) (ρ, H) = (ev Φ e ρ H).bind fun q => if noRef q.1 then some (.next, (ρ, q.2)) else none := nd rfl
theorem r_ite : run Φ (.ite c a b) (ρ, H) = (evB Φ c ρ H).bind fun q => cond q.1 (run Φ a (ρ, q.2)) (run Φ b (ρ, q.2)) := nd rfl
theorem r_ret : run Φ (.ret e) (ρ, H) = (ev Φ e ρ H).map fun q => (.ret q.1, (ρ, q.2)) := nd rfl
@[simp] theorem goOn_next {f : Cfg → Option (Fl × Cfg)} : goOn (.next, σ) f = f σ := rfl
@[simp] theorem goOn_brk {f : Cfg → Option (Fl × Cfg)} : goOn (.brk, σ) f = some (.brk, σ) := rfl
@[simp] theorem goOn_ret {f : Cfg → Option (Fl × Cfg)} {v : V} : goOn (.ret v, σ) f = some (.ret v, σ) := rfl
end
@[simp] theorem intOf_int {i : Int} : intOf (.int i) = some i := rfl
@[simp] theorem intOf_list {i : Nat} : intOf (.list i) = none := rfl
@[simp] theorem intOf_bytes {i : List UInt8} : intOf (.bytes i) = none := rfl
@[simp] theorem intOf_tup {i : List V} : intOf (.tup i) = none := rfl
@[simp] theorem intOf_none : intOf .none = none := rfl
@[simp] theorem intOf_bool {b : Bool} : intOf (.bool b) = none := rfl
@[simp] theorem asBytes_bytes {i : List UInt8} : asBytes (.bytes i) = some i := rfl
@[simp] theorem asBytes_list {i : Nat} : asBytes (.list i) = none := rfl
@[simp] theorem asBytes_none : asBytes .none = none := rfl
@[simp] theorem asBytes_tup {i : List V} : asBytes (.tup i) = none := rfl
@[simp] theorem asList_list {i : Nat} : asList (.list i) = some i := rfl
@[simp] theorem asList_int {i : Int} : asList (.int i) = none := rfl
@[simp] theorem asList_bytes {i : List UInt8} : asList (.bytes i) = none := rfl
@[simp] theorem asList_none : asList .none = none := rfl
@[simp] theorem asList_tup {i : List V} : asList (.tup i) = none := rfl
@[simp] theorem asTup_tup {i : List V} : asTup (.tup i) = some i := rfl
@[simp] theorem asTup_int {i : Int} : asTup (.int i) = none := rfl
@[simp] theorem asTup_bytes {i : List UInt8} : asTup (.bytes i) = none := rfl
@[simp] theorem isNone_none : isNone .none = true := rfl
@[simp] theorem isNone_int {i : Int} : isNone (.int i) = false := rfl
@[simp] theorem isNone_bool {i : Bool} : isNone (.bool i) = false := rfl
@[simp] theorem isNone_fn {i : Nat} : isNone (.fn i) = false := rfl
@[simp] theorem isNone_list {i : Nat} : isNone (.list i) = false := rfl
@[simp] theorem boolOf_bool {i : Bool} : boolOf (.bool i) = some i := rfl
@[simp] theorem boolOf_none : boolOf .none = none := rfl
@[simp] theorem one_one {x : V} : one [x] = some x := rfl
@[simp] theorem two_two {x y : V} : two [x, y] = some (x, y) := rfl

section
variable {Φ : FnT} {ρ : Rho} {H : HP}
@[simp] theorem e_var {i : Nat} : ev Φ (.var i) ρ H = (ρ[i]?).bind fun o => o.map fun v => (v, H) := nd rfl
@[simp] theorem e_lit {v : V} : ev Φ (.lit v) ρ H = some (v, H) := nd rfl
@[simp] theorem e_bin {op : Op} {a b : Ex} : ev Φ (.bin op a b) ρ H = (ev Φ a ρ H).bind fun x => (ev Φ b ρ x.2).bind fun y => bin op x.1 y.1 y.2 := nd rfl
@[simp] theorem e_neg {a : Ex} : ev Φ (.neg a) ρ H = (ev Φ a ρ H).bind fun x => (intOf x.1).map fun i => (.int (-i), x.2) := nd rfl
@[simp] theorem e_not {a : Ex} : ev Φ (.not a) ρ H = (ev Φ a ρ H).bind fun x => (tr x.1).map fun c => (.bool (!c), x.2) := nd rfl
@[simp] theorem e_and {a b : Ex} : ev Φ (.and a b) ρ H = (ev Φ a ρ H).bind fun x => (tr x.1).bind fun c => cond c (ev Φ b ρ x.2) (some x) := nd rfl
@[simp] theorem e_or {a b : Ex} : ev Φ (.or a b) ρ H = (ev Φ a ρ H).bind fun x => (tr x.1).bind fun c => cond c (some x) (ev Φ b ρ x.2) := nd rfl
@[simp] theorem e_cmp {op : Cm} {a b : Ex} : ev Φ (.cmp op a b) ρ H = (ev Φ a ρ H).bind fun x => (ev Φ b ρ x.2).bind fun y => (cmpV op x.1 y.1 y.2).map fun c => (.bool c, y.2) := nd rfl
@[simp] theorem e_ite {c a b : Ex} : ev Φ (.ite c a b) ρ H = (ev Φ c ρ H).bind fun x => (tr x.1).bind fun c => cond c (ev Φ a ρ x.2) (ev Φ b ρ x.2) := nd rfl
@[simp] theorem e_call {f : Ex} {as : Exs} : ev Φ (.call f as) ρ H = (ev Φ f ρ H).bind fun g => (evs Φ as ρ g.2).bind fun vs => app Φ g.1 vs.1 none vs.2 := nd rfl
@[simp] theorem e_callK {f k : Ex} {as : Exs} : ev Φ (.callK f as k) ρ H = (ev Φ f ρ H).bind fun g => (evs Φ as ρ g.2).bind fun vs => (ev Φ k ρ vs.2).bind fun kv => app Φ g.1 vs.1 (some kv.1) kv.2 := nd rfl
@[simp] theorem e_meth {m : Mt} {o : Ex} {as : Exs} : ev Φ (.meth m o as) ρ H = (ev Φ o ρ H).bind fun x => (evs Φ as ρ x.2).bind fun vs => meth m x.1 vs.1 vs.2 := nd rfl
@[simp] theorem e_idx {o i : Ex} : ev Φ (.idx o i) ρ H = (ev Φ o ρ H).bind fun x => (ev Φ i ρ x.2).bind fun y => (getI x.1 y.1 y.2).map fun v => (v, y.2) := nd rfl
@[simp] theorem e_sl {o l u s : Ex} : ev Φ (.sl o l u s) ρ H = (ev Φ o ρ H).bind fun x => (ev Φ l ρ x.2).bind fun a => (ev Φ u ρ a.2).bind fun b => (ev Φ s ρ b.2).bind fun c => slV x.1 a.1 b.1 c.1 c.2 := nd rfl
@[simp] theorem e_lst {es : Exs} : ev Φ (.lst es) ρ H = (evs Φ es ρ H).bind fun vs => if lenOk vs.1.length then some (.list vs.2.length, vs.2 ++ [vs.1]) else none := nd rfl
@[simp] theorem e_tpl {es : Exs} : ev Φ (.tpl es) ρ H = (evs Φ es ρ H).bind fun vs => if lenOk vs.1.length then some (.tup vs.1, vs.2) else none := nd rfl
@[simp] theorem es_nil : evs Φ .nil ρ H = some ([], H) := nd rfl
@[simp] theorem es_cons {e : Ex} {es : Exs} : evs Φ (.cons e es) ρ H = (ev Φ e ρ H).bind fun v => (evs Φ es ρ v.2).map fun vs => (v.1 :: vs.1, vs.2) := nd rfl
@[simp] theorem tr_bool {b : Bool} : tr (.bool b) = some b := nd rfl
@[simp] theorem tr_int {i : Int} : tr (.int i) = some (i != 0) := nd rfl
@[simp] theorem tr_none : tr .none = some false := nd rfl
@[simp] theorem isN_none : isN .none = some true := nd rfl
@[simp] theorem isN_bool {b : Bool} : isN (.bool b) = some false := nd rfl
@[simp] theorem isN_int {b : Int} : isN (.int b) = some false := nd rfl
@[simp] theorem isN_fn {b : Nat} : isN (.fn b) = some false := nd rfl
@[simp] theorem isN_list {b : Nat} : isN (.list b) = some false := nd rfl
@[simp] theorem app_fn {k : Nat} {as : List V} {key : Option V} : app Φ (.fn k) as key H = Φ k as key H := nd rfl
@[simp] theorem app_bi {b : Bi} {as : List V} : app Φ (.bi b) as none H = bi b as H := nd rfl
@[simp] theorem rhoF_eq {n : Nat} {ls : List V} : rhoF n ls = ls.map some ++ List.replicate (n - ls.length) none := nd rfl
@[simp] theorem partsOf_tup {xs : List V} : partsOf (.tup xs) H = some xs := nd rfl
@[simp] theorem partsOf_list {i : Nat} : partsOf (.list i) H = H[i]? := nd rfl
@[simp] theorem setAll_nil {vs : List V} : setAll ρ [] vs = ρ := nd rfl
@[simp] theorem setAll_cons {i : Nat} {is : List Nat} {v : V} {vs : List V} : setAll ρ (i :: is) (v :: vs) = setAll (ρ.set i (some v)) is vs := nd rfl
@[simp] theorem noRef_none : noRef .none = true := nd rfl
@[simp] theorem bin_ii {op : Op} {a b : Int} : bin op (.int a) (.int b) H = (binI op a b).map fun c => (.int c, H) := nd rfl
@[simp] theorem bin_bb {a b : List UInt8} : bin .add (.bytes a) (.bytes b) H = if lenOk (a.length + b.length) then some (.bytes (a ++ b), H) else none := nd rfl
@[simp] theorem bin_ll {i j : Nat} : bin .add (.list i) (.list j) H = (H[i]?).bind fun xs => (H[j]?).bind fun ys => if lenOk (xs.length + ys.length) then some (.list H.length, H ++ [xs ++ ys]) else none := nd rfl
@[simp] theorem bin_li {i : Nat} {k : Int} : bin .mul (.list i) (.int k) H = (H[i]?).bind fun xs => if decide (0 ≤ k) && decide (k ≤ 1000) && decide (xs.length ≤ 1000) then some (.list H.length, H ++ [(List.replicate k.toNat xs).flatten]) else none := nd rfl
theorem r_aug0 {o i e : Ex} : run Φ (.aug o i .add e) (ρ, H) = (ev Φ o ρ H).bind fun l => (ev Φ i ρ l.2).bind fun k => (getI l.1 k.1 k.2).bind fun old => (ev Φ e ρ k.2).bind fun new =>
      (intOf old).bind fun a => (intOf new.1).bind fun b => setL ρ l.1 k.1 (.int (a + b)) new.2 := nd rfl
theorem r_setI {o i e : Ex} : run Φ (.setI o i e) (ρ, H) = (ev Φ e ρ H).bind fun v => (ev Φ o ρ v.2).bind fun l => (ev Φ i ρ l.2).bind fun k => setL ρ l.1 k.1 v.1 k.2 := nd rfl
theorem setL_of {j : Nat} {k : Int} {v : V} {xs : List V} (h5 : H[j]? = some xs) (c1 : 0 ≤ k) (c2 : k < xs.length) (c3 : xs.length ≤ 1048576) (c4 : j ≠ 0) : setL ρ (.list j) (.int k) v H = some (.next, (ρ, H.set j (xs.set k.toNat v))) := by
  have c3' : lenOk xs.length = true := decide_eq_true c3
  simp only [setL, asList_list, intOf_int, Option.bind_some, h5, decide_eq_true c1, decide_eq_true c2, decide_eq_true c4, c3', Bool.and_self, if_true]
theorem getI_tupE {xs : List V} {k : Int} : getI (.tup xs) (.int k) H = if 0 ≤ k ∧ k < 2 ^ 62 then xs[k.toNat]? else none := nd rfl
theorem var_of {i : Nat} {v : V} (h : ρ[i]? = some (some v)) : ev Φ (.var i) ρ H = some (v, H) := by rw [e_var, h]; rfl
theorem idx_of {o i : Ex} {x y v : V} {H₁ H₂ : HP} (h1 : ev Φ o ρ H = some (x, H₁)) (h2 : ev Φ i ρ H₁ = some (y, H₂)) (h3 : getI x y H₂ = some v) : ev Φ (.idx o i) ρ H = some (v, H₂) := by
  rw [e_idx, h1, Option.bind_some, h2, Option.bind_some, h3, Option.map_some]
theorem bin_of {op : Op} {a b : Ex} {x y : V} {r : V × HP} {H₁ H₂ : HP} (h1 : ev Φ a ρ H = some (x, H₁)) (h2 : ev Φ b ρ H₁ = some (y, H₂)) (h3 : bin op x y H₂ = some r) : ev Φ (.bin op a b) ρ H = some r := by
  rw [e_bin, h1, Option.bind_some, h2, Option.bind_some, h3]
theorem int_of {op : Op} {a b : Ex} {x y z : Int} {H₁ H₂ : HP} (h1 : ev Φ a ρ H = some (.int x, H₁)) (h2 : ev Φ b ρ H₁ = some (.int y, H₂)) (h3 : binI op x y = some z) : ev Φ (.bin op a b) ρ H = some (.int z, H₂) :=
  bin_of h1 h2 (by rw [bin_ii, h3, Option.map_some])
theorem cmp_of {op : Cm} {a b : Ex} {x y : V} {t : Bool} {H₁ H₂ : HP} (h1 : ev Φ a ρ H = some (x, H₁)) (h2 : ev Φ b ρ H₁ = some (y, H₂)) (h3 : cmpV op x y H₂ = some t) : ev Φ (.cmp op a b) ρ H = some (.bool t, H₂) := by
  rw [e_cmp, h1, Option.bind_some, h2, Option.bind_some, h3, Option.map_some]
theorem es0 : evs Φ .nil ρ H = some ([], H) := es_nil
theorem es1 {e : Ex} {es : Exs} {v : V} {vs : List V} {H₁ H₂ : HP} (h1 : ev Φ e ρ H = some (v, H₁)) (h2 : evs Φ es ρ H₁ = some (vs, H₂)) : evs Φ (.cons e es) ρ H = some (v :: vs, H₂) := by
  rw [es_cons, h1, Option.bind_some, h2, Option.map_some]
theorem fn_of {k : Nat} {as : Exs} {vs : List V} {r : V × HP} {H₁ : HP} (h1 : evs Φ as ρ H = some (vs, H₁)) (h2 : Φ k vs none H₁ = some r) : ev Φ (.call (.lit (.fn k)) as) ρ H = some r := by
  rw [e_call, e_lit, Option.bind_some, h1, Option.bind_some, app_fn, h2]
theorem bi_of {b : Bi} {as : Exs} {vs : List V} {r : V × HP} {H₁ : HP} (h1 : evs Φ as ρ H = some (vs, H₁)) (h2 : bi b vs H₁ = some r) : ev Φ (.call (.lit (.bi b)) as) ρ H = some r := by
  rw [e_call, e_lit, Option.bind_some, h1, Option.bind_some, app_bi, h2]
theorem fnK_of {k : Nat} {as : Exs} {key : Ex} {kv : V} {vs : List V} {r : V × HP} {H₁ H₂ : HP} (h1 : evs Φ as ρ H = some (vs, H₁)) (hk : ev Φ key ρ H₁ = some (kv, H₂)) (h2 : Φ k vs (some kv) H₂ = some r) : ev Φ (.callK (.lit (.fn k)) as key) ρ H = some r := by
  rw [e_callK, e_lit, Option.bind_some, h1, Option.bind_some, hk, Option.bind_some, app_fn, h2]
theorem meth_of {m : Mt} {o : Ex} {as : Exs} {x : V} {vs : List V} {r : V × HP} {H₁ H₂ : HP} (h0 : ev Φ o ρ H = some (x, H₁)) (h1 : evs Φ as ρ H₁ = some (vs, H₂)) (h2 : meth m x vs H₂ = some r) : ev Φ (.meth m o as) ρ H = some r := by
  rw [e_meth, h0, Option.bind_some, h1, Option.bind_some, h2]
theorem sl_of {o l u s : Ex} {x a b c : V} {r : V × HP} {H₁ H₂ H₃ H₄ : HP} (h1 : ev Φ o ρ H = some (x, H₁)) (h2 : ev Φ l ρ H₁ = some (a, H₂)) (h3 : ev Φ u ρ H₂ = some (b, H₃)) (h4 : ev Φ s ρ H₃ = some (c, H₄)) (h5 : slV x a b c H₄ = some r) : ev Φ (.sl o l u s) ρ H = some r := by
  rw [e_sl, h1, Option.bind_some, h2, Option.bind_some, h3, Option.bind_some, h4, Option.bind_some, h5]
theorem lst_of {es : Exs} {vs : List V} {H₁ : HP} (h1 : evs Φ es ρ H = some (vs, H₁)) (hl : vs.length ≤ 1048576) : ev Φ (.lst es) ρ H = some (.list H₁.length, H₁ ++ [vs]) := by
  rw [e_lst, h1, Option.bind_some, if_pos (show lenOk vs.length = true from decide_eq_true hl)]
theorem tpl_of {es : Exs} {vs : List V} {H₁ : HP} (h1 : evs Φ es ρ H = some (vs, H₁)) (hl : vs.length ≤ 1048576) : ev Φ (.tpl es) ρ H = some (.tup vs, H₁) := by
  rw [e_tpl, h1, Option.bind_some, if_pos (show lenOk vs.length = true from decide_eq_true hl)]
theorem evB_of' {e : Ex} {v : V} {t : Bool} {H₁ : HP} (h1 : ev Φ e ρ H = some (v, H₁)) (h2 : tr v = some t) : evB Φ e ρ H = some (t, H₁) := by
  unfold evB
  rw [h1, Option.bind_some, h2, Option.map_some]
@[simp] theorem okR_0 : okR 0 = true := by decide
@[simp] theorem okR_1 : okR 1 = true := by decide
@[simp] theorem biRange_1 {a : Int} : biRange [.int a] H = rng 0 a 1 H := nd rfl
@[simp] theorem biRange_2 {a b : Int} : biRange [.int a, .int b] H = rng a b 1 H := nd rfl
@[simp] theorem biRange_3 {a b c : Int} : biRange [.int a, .int b, .int c] H = rng a b c H := nd rfl
@[simp] theorem bi_len {as : List V} : bi .len as H = biLen as H := nd rfl
@[simp] theorem bi_range {as : List V} : bi .range as H = biRange as H := nd rfl
@[simp] theorem bi_int {as : List V} : bi .int as H = biInt as H := nd rfl
@[simp] theorem bi_abs {as : List V} : bi .abs as H = biAbs as H := nd rfl
@[simp] theorem bi_divmod {as : List V} : bi .divmod as H = biDivmod as H := nd rfl
@[simp] theorem bi_isinstance {as : List V} : bi .isinstance as H = biIsinstance as H := nd rfl
@[simp] theorem bi_bytes {as : List V} : bi .bytes as H = biBytes as H := nd rfl
@[simp] theorem bi_list {as : List V} : bi .list as H = biList as H := nd rfl
@[simp] theorem bi_min {as : List V} : bi .min as H = biMin as H := nd rfl
@[simp] theorem bi_max {as : List V} : bi .max as H = biMax as H := nd rfl
@[simp] theorem bi_sorted {as : List V} : bi .sorted as H = biSorted as H := nd rfl
@[simp] theorem eqV_i {a b : Int} : eqV H (.int a) (.int b) = some (a == b) := nd rfl
@[simp] theorem eqV_b {a b : List UInt8} : eqV H (.bytes a) (.bytes b) = some (a == b) := nd rfl
@[simp] theorem eqV_l {a b : Nat} : eqV H (.list a) (.list b) = eqL H a b := nd rfl
@[simp] theorem hiOf_none {n : Nat} : hiOf n .none = some n := nd rfl
theorem hiOf_int {n : Nat} {k : Int} (h : 0 ≤ k) : hiOf n (.int k) = some k.toNat := (nd rfl : hiOf n (.int k) = if 0 ≤ k then some k.toNat else none).trans (if_pos h)
@[simp] theorem hiOf_nat {n k : Nat} : hiOf n (.int (k : Int)) = some k := hiOf_int (Int.natCast_nonneg k)
theorem slV_b {b ys : List UInt8} {lo hi : V} (h : cutG b lo hi = some ys) (hl : b.length ≤ 1048576) : slV (.bytes b) lo hi .none H = some (.bytes ys, H) := by
  show ((cutG b lo hi).bind fun ys => if lenOk b.length then some (V.bytes ys, H) else none) = _
  rw [h, Option.bind_some, if_pos (show lenOk b.length = true from decide_eq_true hl)]
theorem slV_l {i : Nat} {xs ys : List V} {lo hi : V} (hx : H[i]? = some xs) (h : cutG xs lo hi = some ys) (hl : xs.length ≤ 1048576) : slV (.list i) lo hi .none H = some (.list H.length, H ++ [ys]) := by
  show ((H[i]?).bind fun xs => (cutG xs lo hi).bind fun ys => if lenOk xs.length then some (V.list H.length, H ++ [ys]) else none) = _
  rw [hx, Option.bind_some, h, Option.bind_some, if_pos (show lenOk xs.length = true from decide_eq_true hl)]
theorem slV_rev {i : Nat} {xs : List V} (hx : H[i]? = some xs) (hl : xs.length ≤ 1048576) : slV (.list i) .none .none (.int (-1)) H = some (.list H.length, H ++ [xs.reverse]) := by
  show ((H[i]?).bind fun xs => (some xs.reverse).bind fun ys => if lenOk xs.length then some (V.list H.length, H ++ [ys]) else none) = _
  rw [hx, Option.bind_some, Option.bind_some, if_pos (show lenOk xs.length = true from decide_eq_true hl)]
theorem cut_nn {α : Type} {xs : List α} {a b : Nat} : cutG xs (.int (a : Int)) (.int (b : Int)) = some ((xs.drop a).take (b - a)) := by
  unfold cutG; rw [hiOf_nat, hiOf_nat]; rfl
theorem cut_xn {α : Type} {xs : List α} {b : Nat} : cutG xs .none (.int (b : Int)) = some (xs.take b) := by
  unfold cutG; rw [hiOf_nat, hiOf_none]; rfl
theorem cut_nx {α : Type} {xs : List α} {a : Nat} : cutG xs (.int (a : Int)) .none = some (xs.drop a) := by
  unfold cutG; rw [hiOf_nat, hiOf_none, Option.bind_some, Option.map_some, List.take_of_length_le (by simp)]
theorem bytes_of {i : Nat} {xs : List V} {is : List Int} {bs : List UInt8} (h : H[i]? = some xs) (hi : intsOf xs = some is) (hb : bytesOf is = some bs) (hl : xs.length ≤ 1048576) : bi .bytes [.list i] H = some (.bytes bs, H) := by
  show ((H[i]?).bind fun xs => (intsOf xs).bind fun is => (bytesOf is).bind fun bs => if lenOk xs.length then some (V.bytes bs, H) else none) = _
  rw [h, Option.bind_some, hi, Option.bind_some, hb, Option.bind_some, if_pos (show lenOk xs.length = true from decide_eq_true hl)]
theorem len_l {i : Nat} {xs : List V} (h : H[i]? = some xs) (hl : xs.length ≤ 1048576) : bi .len [.list i] H = some (.int (xs.length : Int), H) := by
  show (((H[i]?).map List.length).bind fun n => if lenOk n then some (V.int (n : Int), H) else none) = _
  rw [h, Option.map_some, Option.bind_some, if_pos (show lenOk xs.length = true from decide_eq_true hl)]
theorem len_b {b : List UInt8} (hl : b.length ≤ 1048576) : bi .len [.bytes b] H = some (.int (b.length : Int), H) := by
  show (if lenOk b.length then some (V.int (b.length : Int), H) else none) = _
  rw [if_pos (show lenOk b.length = true from decide_eq_true hl)]
theorem isi_by {w : List UInt8} : bi .isinstance [.bytes w, .bi .bytes] H = some (.bool true, H) := nd rfl
theorem abs_i {i : Int} : bi .abs [.int i] H = some (.int (i.natAbs : Int), H) := nd rfl
theorem int_i {i : Int} : bi .int [.int i] H = some (.int i, H) := nd rfl
theorem range_1 {n : Nat} (h : n ≤ 100000) : bi .range [.int (n : Int)] H = some (.range ((0 : Nat) : Int) (n : Int) 1, H) := by
  have ho : okR (n : Int) = true := by simp [okR]; (first | lia | omega)
  rw [bi_range, biRange_1]
  unfold rng
  rw [ho]; rfl
theorem not_of {a : Ex} {v : V} {t : Bool} {H₁ : HP} (h1 : ev Φ a ρ H = some (v, H₁)) (h2 : tr v = some t) : ev Φ (.not a) ρ H = some (.bool (!t), H₁) := by
  rw [e_not, h1, Option.bind_some, h2, Option.map_some]
theorem neg_of {a : Ex} {i : Int} {H₁ : HP} (h1 : ev Φ a ρ H = some (.int i, H₁)) : ev Φ (.neg a) ρ H = some (.int (-i), H₁) := by
  rw [e_neg, h1, Option.bind_some, intOf_int, Option.map_some]
theorem cmp_ne {x y : V} {t : Bool} (h : eqV H x y = some t) : cmpV .ne x y H = some (!t) := (congrArg (Option.map (!·)) h : _)
theorem cmp_isn {x y : V} {t : Bool} (h : isV' x y = some t) : cmpV .isn x y H = some (!t) := (congrArg (Option.map (!·)) h : _)
theorem evB_eq {e : Ex} : evB Φ e ρ H = (ev Φ e ρ H).bind fun v => (tr v.1).map fun c => (c, v.2) := nd rfl
end

theorem seq_of {Φ : FnT} {a b : St} {σ σ' : Cfg} {r : Option (Fl × Cfg)} (h1 : run Φ a σ = some (.next, σ')) (h2 : run Φ b σ' = r) : run Φ (.seq a b) σ = r := by
  rw [r_seq, h1]; exact h2
theorem asg_of {Φ : FnT} {k : Nat} {e : Ex} {ρ : Rho} {H H' : HP} {v : V} (h : ev Φ e ρ H = some (v, H')) : run Φ (.asg k e) (ρ, H) = some (.next, (ρ.set k (some v), H')) := by
  rw [r_asg, h, Option.map_some]
theorem exp_of {Φ : FnT} {e : Ex} {ρ : Rho} {H H' : HP} (h : ev Φ e ρ H = some (.none, H')) : run Φ (.exp e) (ρ, H) = some (.next, (ρ, H')) := by
  rw [r_exp, h]; rfl
theorem ret_of {Φ : FnT} {e : Ex} {ρ : Rho} {H H' : HP} {v : V} (h : ev Φ e ρ H = some (v, H')) : run Φ (.ret e) (ρ, H) = some (.ret v, (ρ, H')) := by
  rw [r_ret, h, Option.map_some]
theorem seq_ret {Φ : FnT} {a b : St} {σ σ' : Cfg} {v : V} (h1 : run Φ a σ = some (.ret v, σ')) : run Φ (.seq a b) σ = some (.ret v, σ') := by
  rw [r_seq, h1]; rfl

theorem set_last {α : Type} {H : List α} {x y : α} : (H ++ [x]).set H.length y = H ++ [y] := by simp
theorem get_last {α : Type} {H : List α} {x : α} : (H ++ [x])[H.length]? = some x := by simp


theorem call_of {Δ : Nat → Option Fn} {n k : Nat} {f : Fn} {args : List V} {key : Option V} {H H' : HP} {v : V} {ρ ρ' : Rho} (h1 : Δ k = some f) (h2 : bindV f args key = some ρ) (h3 : run (callF Δ n) f.body (ρ, H) = some (.ret v, (ρ', H'))) : callF Δ (n + 1) k args key H = some (v, H') := by
  simp only [callF, h1, h2, h3, Option.bind_some, retOf, Option.map_some]
theorem call_of_none {Δ : Nat → Option Fn} {n k : Nat} {f : Fn} {args : List V} {key : Option V} {H H' : HP} {ρ ρ' : Rho} (h1 : Δ k = some f) (h2 : bindV f args key = some ρ) (h3 : run (callF Δ n) f.body (ρ, H) = some (.next, (ρ', H'))) : callF Δ (n + 1) k args key H = some (.none, H') := by
  simp only [callF, h1, h2, h3, Option.bind_some, retOf, Option.map_some]

/-! counts in sorted lists -/
noncomputable def cLe (ks : List Int) (x : Int) : Nat := (ks.filter fun k => decide (k ≤ x)).length
noncomputable def cLt (ks : List Int) (x : Int) : Nat := (ks.filter fun k => decide (k < x)).length
theorem cLe_le (ks : List Int) (x : Int) : cLe ks x ≤ ks.length := List.length_filter_le ..
theorem cLt_le (ks : List Int) (x : Int) : cLt ks x ≤ ks.length := List.length_filter_le ..
theorem cLe_iff : ∀ {ks : List Int} {x : Int}, ks.Pairwise (· ≤ ·) → ∀ {i : Nat} {k : Int}, ks[i]? = some k → (k ≤ x ↔ i < cLe ks x)
  | [], x, _, i, k, e => by simp at e
  | y :: ks, x, hs, 0, k, e => by
    simp at e; subst e
    obtain ⟨h1, h2⟩ := List.pairwise_cons.mp hs
    by_cases h : y ≤ x
    · simp [cLe, List.filter_cons, h]
    · have : ks.filter (fun k => decide (k ≤ x)) = [] := List.filter_eq_nil_iff.mpr fun z hz => by
        have := h1 z hz
        simp; (first | lia | omega)
      simp [cLe, List.filter_cons, h, this]
  | y :: ks, x, hs, i + 1, k, e => by
    simp at e
    obtain ⟨h1, h2⟩ := List.pairwise_cons.mp hs
    have ih := cLe_iff (x := x) h2 e
    by_cases h : y ≤ x
    · have : cLe (y :: ks) x = cLe ks x + 1 := by simp [cLe, List.filter_cons, h]
      rw [this, ih]; (first | lia | omega)
    · have hk : ¬ k ≤ x := fun hk => h (Int.le_trans (h1 k (List.mem_of_getElem? e)) hk)
      have : ks.filter (fun k => decide (k ≤ x)) = [] := List.filter_eq_nil_iff.mpr fun z hz => by
        have := h1 z hz
        simp; (first | lia | omega)
      simp [cLe, List.filter_cons, h, this, hk]
theorem cLt_iff {ks : List Int} {x : Int} (hs : ks.Pairwise (· ≤ ·)) {i : Nat} {k : Int} (e : ks[i]? = some k) : (k < x ↔ i < cLt ks x) := by
  have h := cLe_iff (x := x - 1) hs e
  have e1 : cLt ks x = cLe ks (x - 1) := by
    simp only [cLt, cLe]
    congr 2
    funext k
    by_cases hk : k < x
    · simp [hk]; (first | lia | omega)
    · simp [hk]; (first | lia | omega)
  rw [e1, ← h]; (first | lia | omega)

/-! bisect -/
noncomputable def brW : Ex := .cmp .lt (.var 2) (.var 3)
noncomputable def brK : St := .seq (.asg 5 (.bin .div (.bin .add (.var 2) (.var 3)) (.lit (.int 2)))) (.seq (.ite (.cmp .lt (.var 1) (.call (.var 4) (.cons (.idx (.var 0) (.var 5)) .nil))) (.seq (.asg 3 (.var 5)) .skip) (.seq (.asg 2 (.bin .add (.var 5) (.lit (.int 1)))) .skip)) .skip)
noncomputable def brN : St := .seq (.asg 5 (.bin .div (.bin .add (.var 2) (.var 3)) (.lit (.int 2)))) (.seq (.ite (.cmp .lt (.var 1) (.idx (.var 0) (.var 5))) (.seq (.asg 3 (.var 5)) .skip) (.seq (.asg 2 (.bin .add (.var 5) (.lit (.int 1)))) .skip)) .skip)
noncomputable def blK : St := .seq (.asg 5 (.bin .div (.bin .add (.var 2) (.var 3)) (.lit (.int 2)))) (.seq (.ite (.cmp .lt (.call (.var 4) (.cons (.idx (.var 0) (.var 5)) .nil)) (.var 1)) (.seq (.asg 2 (.bin .add (.var 5) (.lit (.int 1)))) .skip) (.seq (.asg 3 (.var 5)) .skip)) .skip)
noncomputable def blN : St := .seq (.asg 5 (.bin .div (.bin .add (.var 2) (.var 3)) (.lit (.int 2)))) (.seq (.ite (.cmp .lt (.idx (.var 0) (.var 5)) (.var 1)) (.seq (.asg 2 (.bin .add (.var 5) (.lit (.int 1)))) .skip) (.seq (.asg 3 (.var 5)) .skip)) .skip)
noncomputable def bsT (k n : St) : Fn := { params := 4, key := true, slots := 6, body := .seq (.ite (.cmp .lt (.var 2) (.lit (.int 0))) (.seq .bad .skip) .skip) (.seq (.ite (.cmp .is (.var 3) (.lit .none)) (.seq (.asg 3 (.call (.lit (.bi .len)) (.cons (.var 0) .nil))) .skip) .skip) (.seq (.ite (.cmp .is (.var 4) (.lit .none)) (.seq (.whl brW n) .skip) (.seq (.whl brW k) .skip)) (.seq (.ret (.var 2)) .skip))) }
noncomputable def fBr : Fn := bsT brK brN
noncomputable def fBl : Fn := bsT blK blN

/-- a list's items under a key: the key's answers are ks -/
structure Keyed (Φ : FnT) (H : HP) (a : Nat) (key : V) (xs : List V) (ks : List Int) : Prop where
  at' : H[a]? = some xs
  len : xs.length = ks.length
  ans : ∀ (i : Nat) (v : V), xs[i]? = some v → ∃ k, ks[i]? = some k ∧ app Φ key [v] none H = some (.int k, H)

theorem while_step {test : Cfg → Option (Bool × HP)} {body : Cfg → Option (Fl × Cfg)} {k : Nat} {σ σ' : Cfg} {H : HP} {r : Option (Fl × Cfg)} (h1 : test σ = some (true, H)) (h2 : body (σ.1, H) = some (.next, σ')) (h3 : whileGo test body k σ' = r) : whileGo test body (k + 1) σ = r := by
  simp only [whileGo, h1, h2, Option.bind_some, loopOn, h3, cond_true]
theorem while_end {test : Cfg → Option (Bool × HP)} {body : Cfg → Option (Fl × Cfg)} {k : Nat} {σ : Cfg} {H : HP} (h1 : test σ = some (false, H)) : whileGo test body (k + 1) σ = some (.next, (σ.1, H)) := by
  simp only [whileGo, h1, Option.bind_some, cond_false]
theorem mid_eq (lo hi : Nat) : Int.fdiv ((lo : Int) + (hi : Int)) 2 = (((lo + hi) / 2 : Nat) : Int) := by
  rw [Int.fdiv_eq_ediv_of_nonneg _ (by (first | lia | omega))]; (first | lia | omega)
theorem big62 {i : Nat} (h : i < 2 ^ 20) : (i : Int) < 2 ^ 62 := Int.lt_trans (show (i : Int) < 1048576 by (first | lia | omega)) (by decide)
theorem getL_nat {xs : List V} {i : Nat} (hi : (i : Int) < 2 ^ 62) : getL xs (i : Int) = xs[i]? := by
  unfold getL
  rw [if_pos (Int.natCast_nonneg i), if_pos hi, Int.toNat_natCast]
theorem getI_list {a : Nat} {H : HP} {k : Int} : getI (.list a) (.int k) H = (H[a]?).bind fun xs => getL xs k := nd rfl
theorem getI_at {a : Nat} {xs : List V} {H : HP} {i : Nat} {v : V} (h : H[a]? = some xs) (hi : i < 2 ^ 20) (e : xs[i]? = some v) : getI (.list a) (.int (i : Int)) H = some v := by
  rw [getI_list, h, Option.bind_some, getL_nat (big62 hi), e]
theorem lt_of_get' {α : Type} {l : List α} {i : Nat} {a : α} (h : l[i]? = some a) : i < l.length := by
  rcases Nat.lt_or_ge i l.length with hlt | hge
  · exact hlt
  · rw [List.getElem?_eq_none hge] at h; cases h

section
variable {Φ : FnT} {H : HP} {a : Nat} {key : V} {xs : List V} {ks : List Int} {x : Int}
noncomputable abbrev bsS (a : Nat) (x : Int) (lo hi : Nat) (key : V) (m : Option V) : Rho := [some (.list a), some (.int x), some (.int lo), some (.int hi), some key, m]
theorem bs_test {lo hi : Nat} {m : Option V} : evB Φ brW (bsS a x lo hi key m) H = some (decide (lo < hi), H) := by
  simp [evB_eq, brW, cmpV, cmpI, bsS]

structure BsBody (Φ : FnT) (H : HP) (a : Nat) (key : V) (xs : List V) (ks : List Int) (x : Int) (b : St) (c : Nat) : Prop where
  le : c ≤ ks.length
  run : ∀ (lo hi : Nat) (m : Option V), lo < hi → hi ≤ ks.length → ∃ k, ks[(lo + hi) / 2]? = some k ∧ ((c ≤ (lo + hi) / 2 ∧ Mp.run Φ b (bsS a x lo hi key m, H) = some (.next, (bsS a x lo ((lo + hi) / 2) key (some (.int (((lo + hi) / 2 : Nat) : Int))), H))) ∨
    ((lo + hi) / 2 < c ∧ Mp.run Φ b (bsS a x lo hi key m, H) = some (.next, (bsS a x ((lo + hi) / 2 + 1) hi key (some (.int (((lo + hi) / 2 : Nat) : Int))), H))))

theorem bs_loop {b : St} {c : Nat} (B : BsBody Φ H a key xs ks x b c) : ∀ (fuel lo hi : Nat) (m : Option V), hi - lo < fuel → lo ≤ c → c ≤ hi → hi ≤ ks.length →
    ∃ m', whileGo (fun σ => evB Φ brW σ.1 σ.2) (fun σ => Mp.run Φ b σ) fuel (bsS a x lo hi key m, H) = some (.next, (bsS a x c c key m', H))
  | 0, lo, hi, m, h, _, _, _ => by (first | lia | omega)
  | fuel + 1, lo, hi, m, h, h1, h2, h3 => by
    by_cases hlt : lo < hi
    · obtain ⟨k, _, hr⟩ := B.run lo hi m hlt h3
      rcases hr with ⟨hc, hr⟩ | ⟨hc, hr⟩
      · obtain ⟨m', ih⟩ := bs_loop B fuel lo ((lo + hi) / 2) _ (by (first | lia | omega)) h1 hc (by (first | lia | omega))
        exact ⟨m', while_step (by rw [bs_test, decide_eq_true hlt]) hr ih⟩
      · obtain ⟨m', ih⟩ := bs_loop B fuel ((lo + hi) / 2 + 1) hi _ (by (first | lia | omega)) hc h2 h3
        exact ⟨m', while_step (by rw [bs_test, decide_eq_true hlt]) hr ih⟩
    · have e1 : lo = c := by (first | lia | omega)
      have e2 : hi = c := by (first | lia | omega)
      subst e1; subst e2
      exact ⟨m, while_end (by rw [bs_test, decide_eq_false hlt])⟩

theorem br_body (K : Keyed Φ H a key xs ks) (hs : ks.Pairwise (· ≤ ·)) (hl : ks.length ≤ 1000) : BsBody Φ H a key xs ks x brK (cLe ks x) where
  le := cLe_le ..
  run := fun lo hi m hlt h3 => by
    have hmid' := mid_eq lo hi
    generalize hmid : (lo + hi) / 2 = c at hmid' ⊢
    have hmh : c < hi := by (first | lia | omega)
    have hml : lo ≤ c := by (first | lia | omega)
    obtain ⟨k, hk⟩ : ∃ k, ks[c]? = some k := ⟨_, List.getElem?_eq_getElem (by (first | lia | omega))⟩
    obtain ⟨v, hv⟩ : ∃ v, xs[c]? = some v := ⟨_, List.getElem?_eq_getElem (by rw [K.len]; (first | lia | omega))⟩
    obtain ⟨k', hk', happ⟩ := K.ans c v hv
    rw [hk] at hk'; cases hk'
    have hiff := cLe_iff (x := x) hs hk
    have hg := getI_at K.at' (show c < 2 ^ 20 by (first | lia | omega)) hv
    refine ⟨k, hk, ?_⟩
    by_cases hx : x < k
    · refine Or.inl ⟨by (first | lia | omega), ?_⟩
      simp [brK, bsS, r_seq, r_asg, r_ite, r_skip, evB_eq, binI, Mp.mid, hmid', hg, happ, cmpV, cmpI, hx]
    · refine Or.inr ⟨by (first | lia | omega), ?_⟩
      simp [brK, bsS, r_seq, r_asg, r_ite, r_skip, evB_eq, binI, Mp.mid, hmid', hg, happ, cmpV, cmpI, hx]
theorem bl_body (K : Keyed Φ H a key xs ks) (hs : ks.Pairwise (· ≤ ·)) (hl : ks.length ≤ 1000) : BsBody Φ H a key xs ks x blK (cLt ks x) where
  le := cLt_le ..
  run := fun lo hi m hlt h3 => by
    have hmid' := mid_eq lo hi
    generalize hmid : (lo + hi) / 2 = c at hmid' ⊢
    have hmh : c < hi := by (first | lia | omega)
    have hml : lo ≤ c := by (first | lia | omega)
    obtain ⟨k, hk⟩ : ∃ k, ks[c]? = some k := ⟨_, List.getElem?_eq_getElem (by (first | lia | omega))⟩
    obtain ⟨v, hv⟩ : ∃ v, xs[c]? = some v := ⟨_, List.getElem?_eq_getElem (by rw [K.len]; (first | lia | omega))⟩
    obtain ⟨k', hk', happ⟩ := K.ans c v hv
    rw [hk] at hk'; cases hk'
    have hiff := cLt_iff (x := x) hs hk
    have hg := getI_at K.at' (show c < 2 ^ 20 by (first | lia | omega)) hv
    refine ⟨k, hk, ?_⟩
    by_cases hx : k < x
    · refine Or.inr ⟨by (first | lia | omega), ?_⟩
      simp [blK, bsS, r_seq, r_asg, r_ite, r_skip, evB_eq, binI, Mp.mid, hmid', hg, happ, cmpV, cmpI, hx]
    · refine Or.inl ⟨by (first | lia | omega), ?_⟩
      simp [blK, bsS, r_seq, r_asg, r_ite, r_skip, evB_eq, binI, Mp.mid, hmid', hg, happ, cmpV, cmpI, hx]
end

section
variable {Φ : FnT} {H : HP} {a : Nat} {xs : List V} {ks : List Int} {x : Int}
/-- the whole of bisect, with a key -/
theorem bs_run {k n : St} {c j : Nat} (B : BsBody Φ H a (.fn j) xs ks x k c) (hx : H[a]? = some xs) (hlen : xs.length = ks.length) (hl : ks.length < 190) :
    ∃ ρ', run Φ (bsT k n).body ([some (.list a), some (.int x), some (.int 0), some .none, some (.fn j), none], H) = some (.ret (.int (c : Int)), (ρ', H)) := by
  obtain ⟨m', hm⟩ := bs_loop B WF 0 ks.length none (by simp only [WF]; (first | lia | omega)) (Nat.zero_le _) B.le (Nat.le_refl _)
  have hm2 : run Φ (.whl brW k) ([some (.list a), some (.int x), some (.int 0), some (.int (xs.length : Int)), some (.fn j), none], H) = some (.next, (bsS a x c c (.fn j) m', H)) := by
    rw [hlen]; exact hm
  refine ⟨bsS a x c c (.fn j) m', ?_⟩
  have hlo : lenOk xs.length = true := by simp [lenOk]; (first | lia | omega)
  simp [bsT, r_seq, r_asg, r_ite, r_ret, r_skip, evB_eq, cmpV, cmpI, isV', lenOf, biLen, lenOf, rng, biInt, biAbs, biDivmod, biIsinstance, isBy, Bi.isBytes, biBytes, hx, hlo, hm2, bsS]
end


noncomputable def fIns (b : Nat) : Fn := { params := 4, key := true, slots := 5, body := .seq (.ite (.cmp .is (.var 4) (.lit .none)) (.seq (.asg 2 (.call (.lit (.fn b)) (.cons (.var 0) (.cons (.var 1) (.cons (.var 2) (.cons (.var 3) .nil)))))) .skip) (.seq (.asg 2 (.callK (.lit (.fn b)) (.cons (.var 0) (.cons (.call (.var 4) (.cons (.var 1) .nil)) (.cons (.var 2) (.cons (.var 3) .nil)))) (.var 4))) .skip)) (.seq (.exp (.meth .insert (.var 0) (.cons (.var 2) (.cons (.var 1) .nil)))) .skip) }

section
variable {Δ : Nat → Option Fn} {n i b j : Nat} {H : HP} {a : Nat} {xs : List V} {ks : List Int} {x : Int} {xv : V} {k nn : St} {c : Nat}

theorem bs_call4 (hb : Δ b = some (bsT k nn)) (B : BsBody (callF Δ n) H a (.fn j) xs ks x k c) (hx : H[a]? = some xs) (hlen : xs.length = ks.length) (hl : ks.length < 190) :
    callF Δ (n + 1) b [.list a, .int x, .int 0, .none] (some (.fn j)) H = some (.int (c : Int), H) := by
  obtain ⟨ρ', h⟩ := bs_run (k := k) (n := nn) B hx hlen hl
  exact call_of hb rfl h
theorem bs_call2 (hb : Δ b = some (bsT k nn)) (B : BsBody (callF Δ n) H a (.fn j) xs ks x k c) (hx : H[a]? = some xs) (hlen : xs.length = ks.length) (hl : ks.length < 190) :
    callF Δ (n + 1) b [.list a, .int x] (some (.fn j)) H = some (.int (c : Int), H) := by
  obtain ⟨ρ', h⟩ := bs_run (k := k) (n := nn) B hx hlen hl
  exact call_of hb rfl h

theorem ins_call (hi : Δ i = some (fIns b)) (hb : Δ b = some (bsT k nn)) (hk : callF Δ (n + 1) j [xv] none H = some (.int x, H)) (B : BsBody (callF Δ n) H a (.fn j) xs ks x k c) (hx : H[a]? = some xs) (hlen : xs.length = ks.length) (hl : ks.length < 190) (ha : a ≠ 0) :
    callF Δ (n + 2) i [.list a, xv] (some (.fn j)) H = some (.none, H.set a (xs.take c ++ xv :: xs.drop c)) := by
  have hbs := bs_call4 hb B hx hlen hl
  have hc := B.le
  have hm : meth .insert (.list a) [.int (c : Int), xv] H = some (.none, H.set a (xs.take c ++ xv :: xs.drop c)) := by
    have hlo : lenOk xs.length = true := by simp [lenOk]; (first | lia | omega)
    simp [meth, ha, meth0, mtInsert, hx, hlo]
    (first | lia | omega)
  refine call_of_none (ρ' := [some (.list a), some xv, some (.int c), some .none, some (.fn j)]) hi rfl ?_
  simp [fIns, bindV, r_seq, r_asg, r_ite, r_exp, r_skip, evB_eq, cmpV, isV', hk, hbs, hm, cmpI]
end

/-! Int2AP -/
noncomputable def dg (n : Nat) : List Nat := if h : n = 0 then [] else dg (n / 16) ++ [n % 16]
termination_by n
decreasing_by (first | lia | omega)
noncomputable def let8 (d : Nat) : UInt8 := UInt8.ofNat (65 + d)
noncomputable def ap (n : Nat) : List UInt8 := (dg n).map let8
theorem dg_zero : dg 0 = [] := by rw [dg]; simp
theorem dg_pos {n : Nat} (h : n ≠ 0) : dg n = dg (n / 16) ++ [n % 16] := by rw [dg]; simp [h]
theorem ap_zero : ap 0 = [] := by simp [ap, dg_zero]
theorem ap_pos {n : Nat} (h : n ≠ 0) : ap n = ap (n / 16) ++ [let8 (n % 16)] := by simp [ap, dg_pos h]
noncomputable def apC : Ex := .var 0
noncomputable def apB : St := .seq (.unp [0, 3] (.call (.lit (.bi .divmod)) (.cons (.var 0) (.cons (.lit (.int 16)) .nil)))) (.seq (.asg 1 (.bin .add (.sl (.var 2) (.var 3) (.bin .add (.var 3) (.lit (.int 1))) (.lit .none)) (.var 1))) .skip)
noncomputable def apW : List UInt8 := [65, 66, 67, 68, 69, 70, 71, 72, 73, 74, 75, 76, 77, 78, 79, 80]
noncomputable def fAp : Fn := { params := 1, key := false, slots := 4, body := .seq (.asg 1 (.lit (.bytes []))) (.seq (.asg 2 (.lit (.bytes apW))) (.seq (.asg 0 (.call (.lit (.bi .int)) (.cons (.call (.lit (.bi .abs)) (.cons (.var 0) .nil)) .nil))) (.seq (.whl apC apB) (.seq (.ret (.var 1)) .skip)))) }
theorem ap_letter : ∀ m, m < 16 → (apW.drop m).take 1 = [let8 m] := by decide
theorem ap_step {Φ : FnT} {H : HP} {n : Nat} {w : List UInt8} {m : Option V} (hw : w.length ≤ 1000) : run Φ apB ([some (.int (n : Int)), some (.bytes w), some (.bytes apW), m], H) =
    some (.next, ([some (.int ((n / 16 : Nat) : Int)), some (.bytes (let8 (n % 16) :: w)), some (.bytes apW), some (.int ((n % 16 : Nat) : Int))], H)) := by
  have e1 : Int.fdiv (n : Int) 16 = ((n / 16 : Nat) : Int) := by rw [Int.fdiv_eq_ediv_of_nonneg _ (by (first | lia | omega))]; (first | lia | omega)
  have e2 : Int.fmod (n : Int) 16 = ((n % 16 : Nat) : Int) := by rw [Int.fmod_eq_emod_of_nonneg _ (by (first | lia | omega))]; (first | lia | omega)
  have e3 := ap_letter (n % 16) (Nat.mod_lt _ (by decide))
  have e4 : ((((n % 16 : Nat) : Int) + 1).toNat - ((n % 16 : Nat) : Int).toNat) = 1 := by (first | lia | omega)
  have h0 : (0 : Int) ≤ ((n % 16 : Nat) : Int) := Int.natCast_nonneg _
  have h1 : (0 : Int) ≤ ((n % 16 : Nat) : Int) + 1 := by (first | lia | omega)
  have e5 : ((n % 16 : Nat) : Int).toNat = n % 16 := Int.toNat_natCast _
  have hsl : slV (.bytes apW) (.int ((n % 16 : Nat) : Int)) (.int (((n % 16 : Nat) : Int) + 1)) .none H = some (.bytes [let8 (n % 16)], H) := by
    simp only [slV, asBytes_bytes, Option.elim_some, isNone_none, if_true, cutG, hiOf, isNone_int, Bool.false_eq_true, if_false, intOf_int, if_pos h0, if_pos h1, Option.bind_some, Option.map_some, e4]
    rw [e5, e3]
    rfl
  have hl : lenOk (1 + w.length) = true := by simp [lenOk]; (first | lia | omega)
  have hd : bi .divmod [.int (n : Int), .int 16] H = some (.tup [.int ((n / 16 : Nat) : Int), .int ((n % 16 : Nat) : Int)], H) := by
    simp [biLen, lenOf, rng, biInt, biAbs, biDivmod, biIsinstance, isBy, Bi.isBytes, biBytes, Mp.mid, e1, e2]
  generalize n / 16 = q at *
  generalize n % 16 = r at *
  simp [apB, r_seq, r_unp, r_asg, r_skip, hd, parts, binI, hsl, hl]
theorem ap_loop {Φ : FnT} {H : HP} : ∀ (fuel n : Nat) (w : List UInt8) (m : Option V), n < 16 ^ fuel → w.length + fuel ≤ 1000 →
    ∃ m', whileGo (fun σ => evB Φ apC σ.1 σ.2) (fun σ => run Φ apB σ) (fuel + 1) ([some (.int (n : Int)), some (.bytes w), some (.bytes apW), m], H) = some (.next, ([some (.int 0), some (.bytes (ap n ++ w)), some (.bytes apW), m'], H))
  | 0, n, w, m, h, hw => by
    have e : n = 0 := by (first | lia | omega)
    subst e
    refine ⟨m, ?_⟩
    rw [ap_zero]
    exact while_end (by simp [evB_eq, apC])
  | fuel + 1, n, w, m, h, hw => by
    by_cases hn : n = 0
    · subst hn
      refine ⟨m, ?_⟩
      rw [ap_zero]
      exact while_end (by simp [evB_eq, apC])
    · obtain ⟨m', ih⟩ := ap_loop fuel (n / 16) (let8 (n % 16) :: w) (some (.int ((n % 16 : Nat) : Int))) (by rw [Nat.pow_succ] at h; (first | lia | omega)) (by simp; (first | lia | omega))
      refine ⟨m', ?_⟩
      rw [ap_pos hn, List.append_assoc]
      refine while_step ?_ (ap_step (by (first | lia | omega))) ih
      have : ((n : Int) != 0) = true := by simp; (first | lia | omega)
      simp [evB_eq, apC]; (first | lia | omega)
theorem ap_call {Δ : Nat → Option Fn} {n k : Nat} {H : HP} {i : Int} (hd : Δ k = some fAp) (hi : i.natAbs < 16 ^ 199) : callF Δ (n + 1) k [.int i] none H = some (.bytes (ap i.natAbs), H) := by
  obtain ⟨m', h⟩ := ap_loop (Φ := callF Δ n) (H := H) 199 i.natAbs [] none hi (by simp)
  have h2 : run (callF Δ n) (.whl apC apB) ([some (.int (i.natAbs : Int)), some (.bytes []), some (.bytes apW), none], H) = some (.next, ([some (.int 0), some (.bytes (ap i.natAbs)), some (.bytes apW), m'], H)) := by
    rw [List.append_nil] at h; exact h
  refine call_of (ρ' := [some (.int 0), some (.bytes (ap i.natAbs)), some (.bytes apW), m']) hd rfl ?_
  simp [fAp, r_seq, r_asg, r_ret, r_skip, biLen, lenOf, rng, biInt, biAbs, biDivmod, biIsinstance, isBy, Bi.isBytes, biBytes, h2]


theorem for_go {is : List Nat} {tp : Bool} {body : Cfg → Option (Fl × Cfg)} {src : Src} {vs : List V} (P : Nat → Cfg → Prop) (hi : ∀ i σ, P i σ → src.items σ.2 = some vs)
    (hb : ∀ i x σ, vs[i]? = some x → P i σ → ∃ ps σ', parts tp is.length x σ.2 = some ps ∧ body (setAll σ.1 is ps, σ.2) = some (.next, σ') ∧ P (i + 1) σ') :
    ∀ (fuel i : Nat) (σ : Cfg), fuel + i = vs.length + 1 → P i σ → i ≤ vs.length → ∃ σ', forGo is tp body src fuel i σ = some (.next, σ') ∧ P vs.length σ'
  | 0, i, σ, h, hp, hle => by (first | lia | omega)
  | fuel + 1, i, σ, h, hp, hle => by
    simp only [forGo, hi i σ hp, Option.bind_some]
    cases e : vs[i]? with
    | none =>
      have := List.getElem?_eq_none_iff.mp e
      have hi' : i = vs.length := by (first | lia | omega)
      subst hi'
      exact ⟨σ, rfl, hp⟩
    | some x =>
      obtain ⟨ps, σ', h1, h2, h3⟩ := hb i x σ e hp
      have hlt := lt_of_get' e
      obtain ⟨σ'', g1, g2⟩ := for_go P hi hb fuel (i + 1) σ' (by (first | lia | omega)) h3 hlt
      refine ⟨σ'', ?_, g2⟩
      simp only [Option.elim_some, h1, h2, Option.bind_some, loopOn]
      exact g1
theorem for_run {Φ : FnT} {is : List Nat} {tp : Bool} {it : Ex} {b : St} {src : Src} {vs : List V} {ρ : Rho} {H H' : HP} {x : V} (e1 : ev Φ it ρ H = some (x, H')) (e2 : srcOf x H' = some src) (P : Nat → Cfg → Prop) (hi : ∀ i σ, P i σ → src.items σ.2 = some vs)
    (h0 : P 0 (ρ, H')) (hb : ∀ i x σ, vs[i]? = some x → P i σ → ∃ ps σ', parts tp is.length x σ.2 = some ps ∧ run Φ b (setAll σ.1 is ps, σ.2) = some (.next, σ') ∧ P (i + 1) σ') :
    ∃ σ', run Φ (.fr is tp it b) (ρ, H) = some (.next, σ') ∧ P vs.length σ' := by
  have hf : src.fuel H' = vs.length + 1 := by
    have := hi 0 (ρ, H') h0
    simp only at this
    simp [Src.fuel, this]
  obtain ⟨σ', g1, g2⟩ := for_go P hi hb (src.fuel H') 0 (ρ, H') (by rw [hf]) h0 (Nat.zero_le _)
  refine ⟨σ', ?_, g2⟩
  simp only [run, e1, e2, Option.bind_some]
  exact g1

/-! lists made by comprehensions -/
noncomputable def cstp (Φ : FnT) (elt : Ex) (nt : Nat) (tp : Bool) (cnd : Ex) (ρ : Rho) : V → HP → Option (Option V × HP) := fun v H => (parts tp nt v H).bind fun ps => (ev Φ cnd (ρ ++ ps.map some) H).bind fun c => (tr c.1).bind fun t =>
  cond t ((ev Φ elt (ρ ++ ps.map some) c.2).map fun y => (some y.1, y.2)) (some (none, c.2))
theorem ev_comp_eq {Φ : FnT} {elt it cnd : Ex} {nt : Nat} {tp : Bool} {ρ : Rho} {H : HP} : ev Φ (.comp elt nt tp it cnd) ρ H = (ev Φ it ρ H).bind fun x => (srcOf x.1 x.2).bind fun src => (compGo (cstp Φ elt nt tp cnd ρ) src (src.fuel x.2) 0 x.2).map fun r => (.list r.2.length, r.2 ++ [r.1]) := nd rfl
theorem cstp_one {Φ : FnT} {elt cnd : Ex} {ρ : Rho} {v : V} {H : HP} : cstp Φ elt 1 false cnd ρ v H = (evB Φ cnd (ρ ++ [some v]) H).bind fun t => cond t.1 ((ev Φ elt (ρ ++ [some v]) t.2).map fun y => (some y.1, y.2)) (some (none, t.2)) := by
  show ((ev Φ cnd (ρ ++ [some v]) H).bind fun c => (tr c.1).bind fun t => _) = ((ev Φ cnd (ρ ++ [some v]) H).bind fun c => (tr c.1).map fun t => (t, c.2)).bind _
  cases ev Φ cnd (ρ ++ [some v]) H with
  | none => rfl
  | some c =>
    show ((tr c.1).bind fun t => _) = ((tr c.1).map fun t => (t, c.2)).bind _
    cases tr c.1 <;> rfl
theorem comp_go {f : V → HP → Option (Option V × HP)} {g : V → Option V} {src : Src} {vs : List V} {H : HP} (hi : src.items H = some vs) (hf : ∀ x ∈ vs, f x H = some (g x, H)) :
    ∀ (fuel i : Nat), fuel + i = vs.length + 1 → i ≤ vs.length → compGo f src fuel i H = some ((vs.drop i).filterMap g, H)
  | 0, i, h, hle => by (first | lia | omega)
  | fuel + 1, i, h, hle => by
    simp only [compGo, hi, Option.bind_some]
    cases e : vs[i]? with
    | none =>
      have := List.getElem?_eq_none_iff.mp e
      have hi' : i = vs.length := by (first | lia | omega)
      subst hi'
      simp
    | some x =>
      have hlt := lt_of_get' e
      simp only [Option.elim_some, hf x (List.mem_of_getElem? e), Option.bind_some, comp_go hi hf fuel (i + 1) (by (first | lia | omega)) hlt, Option.map_some]
      have hd : vs.drop i = x :: vs.drop (i + 1) := by
        rw [List.drop_eq_getElem_cons hlt]
        congr 1
        rw [List.getElem?_eq_getElem hlt] at e
        exact Option.some.inj e
      rw [hd, List.filterMap_cons]
      cases g x <;> rfl
theorem comp_ev {Φ : FnT} {elt it cond : Ex} {nt : Nat} {tp : Bool} {ρ : Rho} {H H₁ : HP} {x : V} {src : Src} {vs : List V} (g : V → Option V) (e1 : ev Φ it ρ H = some (x, H₁)) (e2 : srcOf x H₁ = some src) (e3 : src.items H₁ = some vs)
    (hf : ∀ x ∈ vs, cstp Φ elt nt tp cond ρ x H₁ = some (g x, H₁)) : ev Φ (.comp elt nt tp it cond) ρ H = some (.list H₁.length, H₁ ++ [vs.filterMap g]) := by
  rw [ev_comp_eq]
  have h := comp_go (f := cstp Φ elt nt tp cond ρ) e3 hf (src.fuel H₁) 0 (by simp [Src.fuel, e3]) (Nat.zero_le _)
  simp only [e1, e2, h, List.drop_zero, Option.bind_some, Option.map_some]
theorem comp_map {Φ : FnT} {elt it : Ex} {ρ : Rho} {H H₁ : HP} {x : V} {src : Src} {vs : List V} (g : V → V) (e1 : ev Φ it ρ H = some (x, H₁)) (e2 : srcOf x H₁ = some src) (e3 : src.items H₁ = some vs)
    (hf : ∀ x ∈ vs, ev Φ elt (ρ ++ [some x]) H₁ = some (g x, H₁)) : ev Φ (.comp elt 1 false it (.lit (.bool true))) ρ H = some (.list H₁.length, H₁ ++ [vs.map g]) := by
  rw [comp_ev (fun x => some (g x)) e1 e2 e3 fun x hx => by rw [cstp_one, evB_eq]; simp [hf x hx]]
  congr 4
  clear hf e3
  induction vs with
  | nil => rfl
  | cons y ys ih => simp [ih]
theorem comp_filter {Φ : FnT} {elt it cond : Ex} {ρ : Rho} {H H₁ : HP} {x : V} {src : Src} {vs : List V} (g : V → V) (p : V → Bool) (e1 : ev Φ it ρ H = some (x, H₁)) (e2 : srcOf x H₁ = some src) (e3 : src.items H₁ = some vs)
    (hc : ∀ x ∈ vs, evB Φ cond (ρ ++ [some x]) H₁ = some (p x, H₁)) (hf : ∀ x ∈ vs, p x = true → ev Φ elt (ρ ++ [some x]) H₁ = some (g x, H₁)) : ev Φ (.comp elt 1 false it cond) ρ H = some (.list H₁.length, H₁ ++ [(vs.filter p).map g]) := by
  rw [comp_ev (fun x => if p x then some (g x) else none) e1 e2 e3 fun x hx => ?_]
  · congr 4
    clear hc hf e3
    induction vs with
    | nil => rfl
    | cons y ys ih =>
      rw [List.filterMap_cons, List.filter_cons]
      cases p y <;> simp [ih]
  · rw [cstp_one, hc x hx, Option.bind_some]
    cases hb : p x with
    | false => rfl
    | true => simp only [cond_true, hf x hx hb, Option.map_some, if_true]

theorem rng_len (a b : Nat) : (PySem.Builtin.Range.rangeSize (a : Int) (b : Int) 1) = ((b - a : Nat) : Int) := by
  unfold PySem.Builtin.Range.rangeSize
  rw [if_pos (by (first | lia | omega))]
  split <;> (first | lia | omega)
theorem rangeL_nat (a b : Nat) : rangeL (a : Int) (b : Int) 1 = (List.range (b - a)).map fun i => V.int ((a + i : Nat) : Int) := by
  simp only [rangeL, rng_len, Int.toNat_natCast, PyProof.Rows.rangeInts, List.map_map]
  refine List.map_congr_left fun i _ => ?_
  simp
theorem rng_src (a b : Nat) (H : HP) (h : b ≤ 100000) (ha : a ≤ 100000) : srcOf (.range a b 1) H = some (.fixed ((List.range (b - a)).map fun i => V.int ((a + i : Nat) : Int))) := by
  have h1 : lenOk (rangeL (a : Int) (b : Int) 1).length = true := by rw [rangeL_nat]; simp [lenOk]; (first | lia | omega)
  have h2 : okR (a : Int) = true := by simp [okR]; (first | lia | omega)
  have h3 : okR (b : Int) = true := by simp [okR]; (first | lia | omega)
  have h4 : okR 1 = true := by decide
  have h5 : decide ((1 : Int) ≠ 0) = true := by decide
  simp only [srcOf, rangeV, h1, h2, h3, h4, h5, Bool.and_self, if_true, Option.map_some]
  rw [rangeL_nat]

noncomputable def fTerm : Fn := { params := 1, key := false, slots := 1, body := .seq (.ret (.cmp .lt (.var 0) (.lit (.int 256)))) .skip }
noncomputable def fNont : Fn := { params := 1, key := false, slots := 1, body := .seq (.ret (.cmp .ge (.var 0) (.lit (.int 256)))) .skip }
noncomputable def fEof : Fn := { params := 1, key := false, slots := 1, body := .seq (.ret (.cmp .eq (.var 0) (.lit (.int 0)))) .skip }
theorem term_call {Δ : Nat → Option Fn} {n k : Nat} {H : HP} {i : Int} (h : Δ k = some fTerm) : callF Δ (n + 1) k [.int i] none H = some (.bool (decide (i < 256)), H) :=
  call_of (ρ' := [some (.int i)]) h rfl (by simp [fTerm, r_seq, r_ret, cmpV, cmpI])
theorem nont_call {Δ : Nat → Option Fn} {n k : Nat} {H : HP} {i : Int} (h : Δ k = some fNont) : callF Δ (n + 1) k [.int i] none H = some (.bool (decide (256 ≤ i)), H) :=
  call_of (ρ' := [some (.int i)]) h rfl (by simp [fNont, r_seq, r_ret, cmpV, cmpI])
theorem eof_call {Δ : Nat → Option Fn} {n k : Nat} {H : HP} {i : Int} (h : Δ k = some fEof) : callF Δ (n + 1) k [.int i] none H = some (.bool (i == 0), H) :=
  call_of (ρ' := [some (.int i)]) h rfl (by simp [fEof, r_seq, r_ret, cmpV, eqV, eq0, cmpI])

noncomputable def dval (ds : List Nat) : Nat := ds.foldl (fun v d => 16 * v + d) 0
theorem dval_snoc (ds : List Nat) (d : Nat) : dval (ds ++ [d]) = 16 * dval ds + d := by simp [dval]
theorem dval_dg : ∀ n, dval (dg n) = n := by
  intro n
  induction n using Nat.strongRecOn with
  | ind n ih =>
    by_cases h : n = 0
    · subst h; rw [dg_zero]; rfl
    · rw [dg_pos h, dval_snoc, ih (n / 16) (by (first | lia | omega))]; (first | lia | omega)

theorem dg_lt : ∀ n, ∀ d ∈ dg n, d < 16 := by
  intro n
  induction n using Nat.strongRecOn with
  | ind n ih =>
    by_cases h : n = 0
    · subst h; rw [dg_zero]; simp
    · rw [dg_pos h]
      intro d hd
      rcases List.mem_append.mp hd with hd | hd
      · exact ih (n / 16) (by (first | lia | omega)) d hd
      · rw [List.mem_singleton.mp hd]; (first | lia | omega)
theorem let8_nat {d : Nat} (h : d < 16) : (let8 d).toNat = 65 + d := by
  simp only [let8, UInt8.toNat_ofNat']
  (first | lia | omega)

/-! _law_power -/
theorem ap_ints (n : Nat) : (ap n).map (fun x => V.int (x.toNat : Int)) = (dg n).map fun d => V.int ((65 + d : Nat) : Int) := by
  simp only [ap, List.map_map]
  refine List.map_congr_left fun d hd => ?_
  simp [let8_nat (dg_lt n d hd)]
theorem dg_len : ∀ k n, n < 16 ^ k → (dg n).length ≤ k
  | 0, n, h => by
    have : n = 0 := by (first | lia | omega)
    subst this; simp [dg_zero]
  | k + 1, n, h => by
    by_cases hn : n = 0
    · subst hn; simp [dg_zero]
    · rw [dg_pos hn]
      have := dg_len k (n / 16) (by rw [Nat.pow_succ] at h; (first | lia | omega))
      simp; (first | lia | omega)
theorem ap_len {k n : Nat} (h : n < 16 ^ k) : (ap n).length ≤ k := by rw [ap, List.length_map]; exact dg_len k n h
theorem r_aug {Φ : FnT} {o i e : Ex} {ρ : Rho} {H H₁ H₂ H₃ : HP} {j : Nat} {k : Int} {old new : Int} {xs : List V} (h1 : ev Φ o ρ H = some (.list j, H₁)) (h2 : ev Φ i ρ H₁ = some (.int k, H₂)) (h3 : getI (.list j) (.int k) H₂ = some (.int old)) (h4 : ev Φ e ρ H₂ = some (.int new, H₃))
    (h5 : H₃[j]? = some xs) (c1 : 0 ≤ k) (c2 : k < xs.length) (c3 : xs.length ≤ 1048576) (c4 : j ≠ 0) : run Φ (.aug o i .add e) (ρ, H) = some (.next, (ρ, H₃.set j (xs.set k.toNat (.int (old + new))))) := by
  simp only [r_aug0, h1, h2, h3, h4, Option.bind_some, intOf_int]
  exact setL_of h5 c1 c2 c3 c4

theorem getI_tup {l : List V} {H : HP} {i : Nat} {v : V} (hi : i < 2 ^ 20) (e : l[i]? = some v) : getI (.tup l) (.int (i : Int)) H = some v := by
  have h1 : (0 : Int) ≤ (i : Int) := Int.natCast_nonneg i
  have h2 := big62 hi
  rw [getI_tupE, if_pos (And.intro h1 h2), Int.toNat_natCast, e]
theorem getI_tup0 {a : V} {l : List V} {H : HP} : getI (.tup (a :: l)) (.int 0) H = some a := by
  rw [show (0 : Int) = ((0 : Nat) : Int) from rfl]; exact getI_tup (by decide) rfl
theorem getI_tup1 {a b : V} {l : List V} {H : HP} : getI (.tup (a :: b :: l)) (.int 1) H = some b := by
  rw [show (1 : Int) = ((1 : Nat) : Int) from rfl]; exact getI_tup (by decide) rfl

theorem getI_lst0 {j : Nat} {a : V} {l : List V} {H : HP} (h : H[j]? = some (a :: l)) : getI (.list j) (.int 0) H = some a := by
  rw [show (0 : Int) = ((0 : Nat) : Int) from rfl]; exact getI_at h (by decide) rfl
theorem getI_lst1 {j : Nat} {a b : V} {l : List V} {H : HP} (h : H[j]? = some (a :: b :: l)) : getI (.list j) (.int 1) H = some b := by
  rw [show (1 : Int) = ((1 : Nat) : Int) from rfl]; exact getI_at h (by decide) rfl

theorem range_one {p : Nat → Bool} {m : Nat} : ∀ {n : Nat}, (∀ i, i < n → (p i = true ↔ i = m)) → m < n → (List.range n).filter p = [m]
  | 0, _, h => by (first | lia | omega)
  | n + 1, h, hm => by
    rw [List.range_succ, List.filter_append]
    by_cases e : m = n
    · subst e
      have : (List.range m).filter p = [] := List.filter_eq_nil_iff.mpr fun i hi => by
        have hi' := List.mem_range.mp hi
        rw [h i (by (first | lia | omega))]; (first | lia | omega)
      rw [this]
      have : p m = true := (h m (by (first | lia | omega))).mpr rfl
      simp [this]
    · rw [range_one (fun i hi => h i (by (first | lia | omega))) (by (first | lia | omega))]
      have : p n = false := by
        cases hp : p n with
        | false => rfl
        | true => exact absurd ((h n (by (first | lia | omega))).mp hp).symm e
      simp [this]

noncomputable def natV (f : Nat → V) (v : V) : V := match v with
  | .int i => f i.toNat
  | _ => .none
noncomputable def natB (f : Nat → Bool) (v : V) : Bool := match v with
  | .int i => f i.toNat
  | _ => false
theorem map_natV {f : Nat → V} {n : Nat} : ((List.range (n - 0)).map fun i => V.int ((0 + i : Nat) : Int)).map (natV f) = (List.range n).map f := by
  rw [List.map_map, Nat.sub_zero]
  refine List.map_congr_left fun i _ => ?_
  simp [natV]
theorem filter_natB {f : Nat → Bool} {n : Nat} : (((List.range (n - 0)).map fun i => V.int ((0 + i : Nat) : Int)).filter (natB f)).map id = ((List.range n).filter f).map fun (i : Nat) => V.int (i : Int) := by
  rw [List.filter_map, List.map_map, Nat.sub_zero]
  have : (natB f ∘ fun i => V.int ((0 + i : Nat) : Int)) = f := by funext i; simp [natB]
  rw [this]
  refine List.map_congr_left fun i _ => ?_
  simp
theorem mem_rng {n : Nat} {x : V} (h : x ∈ (List.range (n - 0)).map fun i => V.int ((0 + i : Nat) : Int)) : ∃ i, i < n ∧ x = .int (i : Int) := by
  obtain ⟨i, hi, rfl⟩ := List.mem_map.mp h
  exact ⟨i, by simpa using hi, by simp⟩

theorem app_get {H K : HP} {a : Nat} {xs : List V} (h : H[a]? = some xs) : (H ++ K)[a]? = some xs := by
  rw [List.getElem?_append_left (lt_of_get' h)]; exact h

theorem eqs_one {a : Int} : eqs eq1 [V.int a] [V.int a] = some true := by simp [eqs, eq1, eq0]
theorem eqs_two {a b : Int} : eqs eq1 [V.int a, V.int b] [V.int a, V.int b] = some true := by simp [eqs, eq1, eq0]

theorem getA {H K : HP} {i : Nat} : (H ++ K)[H.length + i]? = K[i]? := by
  rw [List.getElem?_append_right (by (first | lia | omega))]; congr 1; (first | lia | omega)
theorem rng_ev {Φ : FnT} {ρ : Rho} {H : HP} {n : Nat} {z : Int} (hz : z = (n : Int)) (hn : n ≤ 100000) : ev Φ (.call (.lit (.bi .range)) (.cons (.lit (.int z)) .nil)) ρ H = some (.range ((0 : Nat) : Int) (n : Int) 1, H) := by
  subst hz
  have ho : okR (n : Int) = true := by simp [okR]; (first | lia | omega)
  simp [ho, biLen, lenOf, rng, biInt, biAbs, biDivmod, biIsinstance, isBy, Bi.isBytes, biBytes]
theorem ite_false {Φ : FnT} {c : Ex} {a : St} {ρ : Rho} {H H' : HP} (h : evB Φ c ρ H = some (false, H')) : run Φ (.ite c a .skip) (ρ, H) = some (.next, (ρ, H')) := by
  rw [r_ite, h, Option.bind_some, cond_false]; exact r_skip
theorem or_ff {Φ : FnT} {a b : Ex} {ρ : Rho} {H H₁ H₂ : HP} (h1 : ev Φ a ρ H = some (.bool false, H₁)) (h2 : ev Φ b ρ H₁ = some (.bool false, H₂)) : evB Φ (.or a b) ρ H = some (false, H₂) := by
  simp [evB_eq, h1, h2]
theorem or_ff' {Φ : FnT} {a b : Ex} {ρ : Rho} {H H₁ H₂ : HP} (h1 : ev Φ a ρ H = some (.bool false, H₁)) (h2 : ev Φ b ρ H₁ = some (.bool false, H₂)) : ev Φ (.or a b) ρ H = some (.bool false, H₂) := by
  simp [h1, h2]
theorem unp_of {Φ : FnT} {is : List Nat} {e : Ex} {ρ : Rho} {H H' : HP} {v : V} {ps : List V} (h : ev Φ e ρ H = some (v, H')) (hp : parts true is.length v H' = some ps) : run Φ (.unp is e) (ρ, H) = some (.next, (setAll ρ is ps, H')) := by
  rw [r_unp, h, Option.bind_some]; simp only [hp, Option.map_some]
theorem ap_pad : ∀ k n, n < 16 ^ k → List.replicate (k - (ap n).length) 65 ++ ap n = (List.range k).reverse.map fun i => let8 (n / 16 ^ i % 16)
  | 0, n, h => by
    have : n = 0 := by (first | lia | omega)
    subst this
    rw [ap_zero]; rfl
  | k + 1, n, h => by
    have hr : (List.range (k + 1)).reverse = ((List.range k).reverse.map (· + 1)) ++ [0] := by
      rw [List.range_succ_eq_map, List.reverse_cons, List.map_reverse]
    rw [hr, List.map_append, List.map_map]
    by_cases hn : n = 0
    · subst hn
      rw [ap_zero, List.append_nil, List.length_nil, Nat.sub_zero, List.replicate_succ']
      congr 1
      symm
      rw [List.eq_replicate_iff]
      refine ⟨by simp, fun b hb => ?_⟩
      obtain ⟨i, _, rfl⟩ := List.mem_map.mp hb
      simp [Nat.zero_div]; rfl
    · have ih := ap_pad k (n / 16) (by rw [Nat.pow_succ] at h; (first | lia | omega))
      rw [ap_pos hn, List.length_append, List.length_singleton, Nat.add_sub_add_right, ← List.append_assoc, ih]
      congr 1
      · refine List.map_congr_left fun i _ => ?_
        simp only [Function.comp]
        rw [Nat.div_div_eq_div_mul, Nat.pow_succ, Nat.mul_comm]
      · simp
theorem ap_lead : ∀ n, n ≠ 0 → ∃ d t, ap n = let8 d :: t ∧ 0 < d ∧ d < 16 := by
  intro n
  induction n using Nat.strongRecOn with
  | ind n ih =>
    intro hn
    by_cases h : n / 16 = 0
    · refine ⟨n % 16, [], ?_, by (first | lia | omega), by (first | lia | omega)⟩
      rw [ap_pos hn, h, ap_zero]; rfl
    · obtain ⟨d, t, e, h1, h2⟩ := ih (n / 16) (by (first | lia | omega)) h
      exact ⟨d, t ++ [let8 (n % 16)], by rw [ap_pos hn, e]; rfl, h1, h2⟩
theorem let8_inj : ∀ d, d < 16 → 0 < d → let8 d ≠ 65 := by decide
theorem ap_head (n : Nat) : ((ap n).take 1 == [65]) = false := by
  by_cases hn : n = 0
  · subst hn; rw [ap_zero]; rfl
  · obtain ⟨d, t, e, h1, h2⟩ := ap_lead n hn
    have := let8_inj d h2 h1
    rw [e]
    simp [this]
theorem byteOf_let {d : Nat} (h : d < 16) : byteOf ((65 + d : Nat) : Int) = some (let8 d) := by
  have h1 : (0 : Int) ≤ ((65 + d : Nat) : Int) ∧ ((65 + d : Nat) : Int) < 256 := by (first | lia | omega)
  simp only [byteOf, if_pos h1, let8, Int.toNat_natCast]
theorem bytesOf_let : ∀ {ds : List Nat}, (∀ d ∈ ds, d < 16) → bytesOf (ds.map fun d => ((65 + d : Nat) : Int)) = some (ds.map let8)
  | [], _ => rfl
  | d :: ds, h => by
    simp only [List.map_cons, bytesOf, byteOf_let (h d (List.mem_cons_self ..)), bytesOf_let fun x hx => h x (List.mem_cons_of_mem _ hx), Option.bind_some, Option.map_some]
theorem intsOf_map : ∀ (l : List Int), intsOf (l.map .int) = some l
  | [] => rfl
  | x :: l => by simp only [List.map_cons, intsOf, intsOf_map l, Option.bind_some, e_var, e_lit, e_bin, e_neg, e_not, e_and, e_or, e_cmp, e_ite, e_call, e_callK, e_meth, e_idx, e_sl, e_lst, e_tpl, es_nil, es_cons, Option.map_some, Option.elim_some, Option.elim_none, cond_true, cond_false, intOf_int, intOf_list, intOf_bytes, intOf_tup, intOf_none, intOf_bool, asBytes_bytes, asBytes_list, asList_list, asList_int, asTup_tup, one_one, two_two, tr_bool, tr_int, isNone_none, isNone_int, isNone_bool, boolOf_bool, boolOf_none, app_fn, app_bi, cmpI, setAll_cons, setAll_nil, partsOf_tup, partsOf_list, bin_ii, bin_bb, bin_ll, bin_li]

theorem head_ev {Φ : FnT} {ρ : Rho} {H : HP} {k n : Nat} (hk : ρ[k]? = some (some (.bytes (ap n)))) (hn : n < 16 ^ 100) : ev Φ (.cmp .eq (.sl (.var k) (.lit .none) (.lit (.int 1)) (.lit .none)) (.lit (.bytes [65]))) ρ H = some (.bool false, H) := by
  have hl : lenOk (ap n).length = true := by have := ap_len hn; simp [lenOk]; (first | lia | omega)
  have hs : slV (.bytes (ap n)) .none (.int 1) .none H = some (.bytes ((ap n).take 1), H) := slV_b (cut_xn (b := 1)) (of_decide_eq_true hl)
  exact cmp_of (sl_of (var_of hk) e_lit e_lit e_lit hs) e_lit (eqV_b.trans (congrArg some (ap_head n)))
theorem pad_ev {Φ : FnT} {ρ : Rho} {H : HP} {k n w : Nat} (hk : ρ[k]? = some (some (.bytes (ap n)))) (hn : n < 16 ^ w) (hw : w ≤ 50) : ev Φ (.bin .add (.sl (.lit (.bytes (List.replicate w 65))) (.call (.lit (.bi .len)) (.cons (.var k) .nil)) (.lit .none) (.lit .none)) (.var k)) ρ H = some (.bytes ((List.range w).reverse.map fun i => let8 (n / 16 ^ i % 16)), H) := by
  have hlen := ap_len hn
  have hl : lenOk (ap n).length = true := by simp [lenOk]; (first | lia | omega)
  have hs : slV (.bytes (List.replicate w 65)) (.int ((ap n).length : Int)) .none .none H = some (.bytes (List.replicate (w - (ap n).length) 65), H) := by
    have := slV_b (H := H) (cut_nx (xs := List.replicate w (65 : UInt8)) (a := (ap n).length)) (by simp; (first | lia | omega))
    rwa [List.drop_replicate] at this
  have hlen2 : bi .len [.bytes (ap n)] H = some (.int ((ap n).length : Int), H) := by simp [biLen, lenOf, hl]
  refine bin_of (sl_of e_lit (bi_of (es1 (var_of hk) es0) hlen2) e_lit e_lit hs) (var_of hk) ?_
  rw [bin_bb, if_pos (show lenOk _ = true from decide_eq_true (by simp; (first | lia | omega))), ap_pad w n hn]
theorem call2 {Φ : FnT} {k : Nat} {a b : Ex} {ρ : Rho} {H H₁ H₂ : HP} {x y : V} {r : Option (V × HP)} (h1 : ev Φ a ρ H = some (x, H₁)) (h2 : ev Φ b ρ H₁ = some (y, H₂)) (h : Φ k [x, y] none H₂ = r) : ev Φ (.call (.lit (.fn k)) (.cons a (.cons b .nil))) ρ H = r := by
  rw [e_call, e_lit, Option.bind_some, es_cons, h1, Option.bind_some, es_cons, h2, Option.bind_some, es_nil, Option.map_some, Option.map_some, Option.bind_some, app_fn, h]
theorem bytes_bi {H : HP} {id : Nat} {ds : List Nat} (hd : ∀ d ∈ ds, d < 16) (hl : ds.length ≤ 1000) (h : H[id]? = some (ds.map fun d => V.int ((65 + d : Nat) : Int))) : bi .bytes [.list id] H = some (.bytes (ds.map let8), H) := by
  have e1 : ds.map (fun d => V.int ((65 + d : Nat) : Int)) = (ds.map fun d => ((65 + d : Nat) : Int)).map .int := by rw [List.map_map]; rfl
  have e2 : lenOk (ds.map fun d => V.int ((65 + d : Nat) : Int)).length = true := by simp [lenOk]; (first | lia | omega)
  exact bytes_of h (by rw [e1, intsOf_map]) (bytesOf_let hd) (by simp; (first | lia | omega))

theorem src_list {H : HP} {id : Nat} {xs : List V} (h : H[id]? = some xs) (hl : xs.length ≤ 1000) : srcOf (.list id) H = some (.lst id) := by
  have : lenOk xs.length = true := by simp [lenOk]; (first | lia | omega)
  show ((H[id]?).bind fun xs => if lenOk xs.length then some (Src.lst id) else none) = _
  rw [h, Option.bind_some, if_pos this]

theorem mul_s {a b : Int} (h : a.natAbs < 2 ^ 64) : binI .mul a b = some (a * b) := by
  have : small a = true := decide_eq_true h
  show (if (small a || small b || (mid a && mid b)) = true then some (a * b) else none) = _
  rw [this, Bool.true_or, Bool.true_or, if_pos rfl]
theorem mod_p {a b : Int} (h : 0 < b) : binI .mod a b = some (a % b) := by
  show (if decide (b ≠ 0) = true then some (a.fmod b) else none) = _
  rw [if_pos (decide_eq_true (Int.ne_of_gt h)), Int.fmod_eq_emod_of_nonneg _ (Int.le_of_lt h)]
theorem div_p {a b : Int} (h : 0 < b) (hb : b < 1000000) : binI .div a b = some (a / b) := by
  have hm : mid b = true := decide_eq_true (Nat.lt_of_lt_of_le (show b.natAbs < 1000000 by (first | lia | omega)) (by decide))
  show (if (decide (b ≠ 0) && mid b) = true then some (a.fdiv b) else none) = _
  rw [decide_eq_true (Int.ne_of_gt h), hm, Bool.true_and, if_pos rfl, Int.fdiv_eq_ediv_of_nonneg _ (Int.le_of_lt h)]

/- _law_cells: [script, cells, place] -/
noncomputable def f03__law_cells : Fn := { params := 1, key := false, slots := 3, body := .seq (.asg 1 (.lst (.cons (.lit (.int 34596)) (.cons (.neg (.lit (.int 1))) (.cons (.lit (.int 18)) .nil))))) (.seq (.fr [2] false (.call (.lit (.bi .range)) (.cons (.call (.lit (.bi .len)) (.cons (.var 0) .nil)) .nil)) (.seq (.aug (.var 1) (.bin .mod (.var 2) (.lit (.int 3))) .add (.idx (.var 0) (.var 2))) .skip)) (.seq (.ret (.var 1)) .skip)) }
/- _law_number: [figures, number, figure] -/
noncomputable def f03__law_number : Fn := { params := 1, key := false, slots := 3, body := .seq (.asg 1 (.lit (.int 0))) (.seq (.fr [2] false (.var 0) (.seq (.asg 1 (.bin .add (.bin .mul (.lit (.int 16)) (.var 1)) (.var 2))) .skip)) (.seq (.ret (.var 1)) .skip)) }
/- _law_letters: [number, word] -/
noncomputable def f03__law_letters : Fn := { params := 1, key := false, slots := 2, body := .seq (.asg 1 (.call (.lit (.fn 7)) (.cons (.var 0) .nil))) (.seq (.ite (.or (.not (.call (.lit (.bi .isinstance)) (.cons (.var 1) (.cons (.lit (.bi .bytes)) .nil)))) (.or (.cmp .eq (.sl (.var 1) (.lit .none) (.lit (.int 1)) (.lit .none)) (.lit (.bytes [65]))) (.cmp .gt (.call (.lit (.bi .len)) (.cons (.var 1) .nil)) (.lit (.int 8))))) (.seq (.ret (.lst .nil)) .skip) .skip) (.seq (.ret (.bin .add (.bin .mul (.lst (.cons (.lit (.int 0)) .nil)) (.bin .sub (.lit (.int 8)) (.call (.lit (.bi .len)) (.cons (.var 1) .nil)))) (.comp (.bin .sub (.var 2) (.lit (.int 65))) 1 false (.var 1) (.lit (.bool true))))) .skip)) }
/- _law_order: [draw, pool, order, size] -/
noncomputable def f03__law_order : Fn := { params := 1, key := false, slots := 4, body := .seq (.asg 1 (.call (.lit (.bi .list)) (.cons (.call (.lit (.bi .range)) (.cons (.lit (.int 8)) .nil)) .nil))) (.seq (.asg 2 (.lst .nil)) (.seq (.fr [3] false (.call (.lit (.bi .range)) (.cons (.lit (.int 8)) (.cons (.lit (.int 0)) (.cons (.neg (.lit (.int 1))) .nil)))) (.seq (.exp (.meth .append (.var 2) (.cons (.meth .pop (.var 1) (.cons (.bin .mod (.var 0) (.var 3)) .nil)) .nil))) (.seq (.asg 0 (.bin .div (.var 0) (.var 3))) .skip))) (.seq (.ret (.var 2)) .skip))) }
/- _law_from: [thing] -/
noncomputable def f03__law_from : Fn := { params := 1, key := false, slots := 1, body := .seq (.ret (.bin .add (.bin .mul (.lit (.int 16)) (.idx (.idx (.var 0) (.lit (.int 1))) (.lit (.int 0)))) (.idx (.idx (.var 0) (.lit (.int 1))) (.lit (.int 1))))) .skip }
/- _law_laid: [ways, turn, end, row, thing, number] -/
noncomputable def f03__law_laid : Fn := { params := 3, key := false, slots := 6, body := .seq (.asg 3 (.lst .nil)) (.seq (.fr [4, 5] true (.bin .add (.comp (.tpl (.cons (.var 6) (.cons (.bin .add (.lit (.int 256)) (.var 6)) .nil))) 1 false (.var 0) (.lit (.bool true))) (.lst (.cons (.tpl (.cons (.var 2) (.cons (.lit (.int 512)) .nil))) .nil))) (.seq (.ite (.cmp .eq (.var 1) (.lit (.int 1))) (.seq (.exp (.callK (.lit (.fn 3)) (.cons (.var 3) (.cons (.tpl (.cons (.var 4) (.cons (.call (.lit (.fn 7)) (.cons (.var 5) .nil)) .nil))) .nil)) (.lit (.fn 12)))) .skip) (.seq (.exp (.callK (.lit (.fn 5)) (.cons (.var 3) (.cons (.tpl (.cons (.var 4) (.cons (.call (.lit (.fn 7)) (.cons (.neg (.var 5)) .nil)) .nil))) .nil)) (.lit (.fn 12)))) .skip)) .skip)) (.seq (.ret (.var 3)) .skip)) }
/- _law_gone: [row, start, turn, here, points, told, step, spot] -/
noncomputable def f03__law_gone : Fn := { params := 3, key := false, slots := 8, body := .seq (.asg 3 (.var 1)) (.seq (.asg 4 (.lst .nil)) (.seq (.asg 5 (.lit .none)) (.seq (.fr [6] false (.call (.lit (.bi .range)) (.cons (.lit (.int 9)) .nil)) (.seq (.asg 7 (.callK (.lit (.fn 6)) (.cons (.var 0) (.cons (.bin .add (.bin .add (.bin .mul (.lit (.int 16)) (.lit (.int 66))) (.lit (.int 65))) (.var 3)) .nil)) (.lit (.fn 12)))) (.seq (.asg 5 (.call (.lit (.fn 2)) (.cons (.bin .mul (.var 2) (.bin .sub (.bin .div (.idx (.idx (.var 0) (.var 7)) (.lit (.int 0))) (.lit (.int 16))) (.var 3))) .nil))) (.seq (.ite (.cmp .isn (.var 5) (.lit (.bool true))) (.seq .brk .skip) .skip) (.seq (.exp (.meth .append (.var 4) (.cons (.var 3) .nil))) (.seq (.asg 3 (.bin .mod (.idx (.meth .pop (.var 0) (.cons (.var 7) .nil)) (.lit (.int 0))) (.lit (.int 16)))) .skip)))))) (.seq (.ret (.tpl (.cons (.var 4) (.cons (.and (.cmp .ne (.var 4) (.lst .nil)) (.and (.cmp .eq (.var 3) (.var 1)) (.cmp .is (.var 5) (.lit (.bool false))))) .nil)))) .skip)))) }
/- _law_home: [lasts, points, start, point, here, step] -/
noncomputable def f03__law_home : Fn := { params := 3, key := false, slots := 6, body := .seq (.fr [3] false (.var 1) (.seq (.asg 4 (.var 3)) (.seq (.fr [5] false (.call (.lit (.bi .range)) (.cons (.lit (.int 3)) .nil)) (.seq (.ite (.cmp .ne (.var 4) (.var 2)) (.seq (.asg 4 (.idx (.var 0) (.var 4))) .skip) .skip) .skip)) (.seq (.ite (.cmp .ne (.var 4) (.var 2)) (.seq (.ret (.lit (.bool false))) .skip) .skip) .skip)))) (.seq (.ret (.lit (.bool true))) .skip) }
/- _law_holds: [ways, points, turn, end, row, lasts, point, mine, due, spot, start, left, closed] -/
noncomputable def f03__law_holds : Fn := { params := 4, key := false, slots := 13, body := .seq (.asg 4 (.call (.lit (.fn 13)) (.cons (.var 0) (.cons (.var 2) (.cons (.var 3) .nil))))) (.seq (.asg 5 (.bin .mul (.lst (.cons (.lit (.int 16)) .nil)) (.lit (.int 16)))) (.seq (.fr [6] false (.var 1) (.seq (.asg 7 (.comp (.tpl (.cons (.var 13) (.cons (.call (.lit (.bi .bytes)) (.cons (.lst (.cons (.lit (.int 66)) (.cons (.bin .add (.lit (.int 65)) (.bin .div (.var 13) (.lit (.int 16)))) (.cons (.bin .add (.lit (.int 65)) (.bin .mod (.var 13) (.lit (.int 16)))) .nil)))) .nil)) .nil))) 1 false (.var 0) (.cmp .eq (.bin .div (.var 13) (.lit (.int 16))) (.var 6)))) (.seq (.asg 8 (.ite (.cmp .eq (.var 2) (.lit (.int 1))) (.var 7) (.sl (.var 7) (.lit .none) (.lit .none) (.neg (.lit (.int 1)))))) (.seq (.setI (.var 5) (.var 6) (.bin .mod (.idx (.idx (.var 8) (.neg (.lit (.int 1)))) (.lit (.int 0))) (.lit (.int 16)))) (.seq (.asg 9 (.callK (.lit (.fn 6)) (.cons (.var 4) (.cons (.bin .add (.bin .add (.bin .mul (.lit (.int 16)) (.lit (.int 66))) (.lit (.int 65))) (.var 6)) .nil)) (.lit (.fn 12)))) (.seq (.ite (.cmp .ne (.sl (.var 4) (.var 9) (.callK (.lit (.fn 4)) (.cons (.var 4) (.cons (.bin .add (.bin .add (.bin .mul (.lit (.int 16)) (.lit (.int 66))) (.lit (.int 65))) (.var 6)) .nil)) (.lit (.fn 12))) (.lit .none)) (.var 8)) (.seq (.ret (.lit (.bool false))) .skip) .skip) .skip)))))) (.seq (.fr [10] false (.var 1) (.seq (.asg 11 (.call (.lit (.bi .list)) (.cons (.var 4) .nil))) (.seq (.asg 12 (.idx (.call (.lit (.fn 14)) (.cons (.var 11) (.cons (.var 10) (.cons (.var 2) .nil)))) (.lit (.int 1)))) (.seq (.ite (.or (.not (.var 12)) (.cmp .isn (.call (.lit (.fn 1)) (.cons (.idx (.idx (.var 11) (.lit (.int 0))) (.lit (.int 0))) .nil)) (.call (.lit (.fn 15)) (.cons (.var 5) (.cons (.var 1) (.cons (.var 10) .nil)))))) (.seq (.ret (.lit (.bool false))) .skip) .skip) (.seq (.whl (.cmp .is (.call (.lit (.fn 0)) (.cons (.idx (.idx (.var 11) (.lit (.int 0))) (.lit (.int 0))) .nil)) (.lit (.bool true))) (.seq (.ite (.not (.idx (.call (.lit (.fn 14)) (.cons (.var 11) (.cons (.bin .div (.idx (.idx (.var 11) (.lit (.int 0))) (.lit (.int 0))) (.lit (.int 16))) (.cons (.var 2) .nil)))) (.lit (.int 1)))) (.seq (.ret (.lit (.bool false))) .skip) .skip) .skip)) (.seq (.ite (.cmp .ne (.var 11) (.lst (.cons (.tpl (.cons (.var 3) (.cons (.lit (.bytes [67, 65, 65])) .nil))) .nil))) (.seq (.ret (.lit (.bool false))) .skip) .skip) .skip)))))) (.seq (.ret (.lit (.bool true))) .skip)))) }
/- law: [script, cells, names, end, number, ring, ways, points, closed, stops, drawn] -/
noncomputable def f03_law : Fn := { params := 1, key := false, slots := 11, body := .seq (.asg 1 (.call (.lit (.fn 8)) (.cons (.var 0) .nil))) (.seq (.asg 2 (.comp (.bin .mod (.bin .add (.idx (.var 1) (.lit (.int 2))) (.bin .mul (.var 11) (.bin .add (.bin .mul (.bin .mod (.bin .div (.idx (.var 1) (.lit (.int 2))) (.lit (.int 16))) (.lit (.int 8))) (.lit (.int 2))) (.lit (.int 1))))) (.lit (.int 16))) 1 false (.call (.lit (.bi .range)) (.cons (.lit (.int 4)) .nil)) (.lit (.bool true)))) (.seq (.asg 3 (.bin .add (.lit (.int 256)) (.call (.lit (.bi .abs)) (.cons (.bin .div (.idx (.var 1) (.lit (.int 2))) (.lit (.int 128))) .nil)))) (.seq (.asg 4 (.call (.lit (.fn 9)) (.cons (.comp (.idx (.var 2) (.bin .mod (.bin .div (.idx (.var 1) (.lit (.int 0))) (.bin .pow (.lit (.int 4)) (.var 11))) (.lit (.int 4)))) 1 false (.call (.lit (.bi .range)) (.cons (.lit (.int 8)) .nil)) (.lit (.bool true))) .nil))) (.seq (.asg 5 (.call (.lit (.fn 10)) (.cons (.neg (.var 4)) .nil))) (.seq (.ite (.or (.cmp .ne (.call (.lit (.bi .len)) (.cons (.var 5) .nil)) (.lit (.int 8))) (.cmp .ne (.call (.lit (.fn 9)) (.cons (.var 5) .nil)) (.var 4))) (.seq (.ret (.lit (.bool false))) .skip) .skip) (.seq (.asg 6 (.comp (.bin .add (.bin .mul (.lit (.int 16)) (.idx (.var 5) (.var 11))) (.idx (.var 5) (.bin .mod (.bin .add (.var 11) (.lit (.int 1))) (.lit (.int 8))))) 1 false (.call (.lit (.bi .range)) (.cons (.lit (.int 8)) .nil)) (.lit (.bool true)))) (.seq (.unp [7, 8] (.call (.lit (.fn 14)) (.cons (.call (.lit (.fn 13)) (.cons (.var 6) (.cons (.lit (.int 1)) (.cons (.var 3) .nil)))) (.cons (.idx (.var 5) (.lit (.int 0))) (.cons (.neg (.lit (.int 1))) .nil))))) (.seq (.ite (.or (.cmp .ne (.var 7) (.var 5)) (.not (.var 8))) (.seq (.ret (.lit (.bool false))) .skip) .skip) (.seq (.asg 9 (.comp (.var 11) 1 false (.var 2) (.cmp .isin (.var 11) (.var 5)))) (.seq (.asg 10 (.comp (.idx (.var 6) (.var 11)) 1 false (.call (.lit (.fn 11)) (.cons (.idx (.var 1) (.lit (.int 1))) .nil)) (.lit (.bool true)))) (.seq (.ret (.and (.call (.lit (.fn 16)) (.cons (.var 10) (.cons (.var 9) (.cons (.lit (.int 1)) (.cons (.var 3) .nil))))) (.call (.lit (.fn 16)) (.cons (.var 10) (.cons (.var 9) (.cons (.neg (.lit (.int 1))) (.cons (.var 3) .nil))))))) .skip))))))))))) }
noncomputable def d03 (k : Nat) : Option Fn := match k with
  | 0 => some fTerm
  | 1 => some fNont
  | 2 => some fEof
  | 3 => some (fIns 4)
  | 4 => some fBr
  | 5 => some (fIns 6)
  | 6 => some fBl
  | 7 => some fAp
  | 8 => some f03__law_cells
  | 9 => some f03__law_number
  | 10 => some f03__law_letters
  | 11 => some f03__law_order
  | 12 => some f03__law_from
  | 13 => some f03__law_laid
  | 14 => some f03__law_gone
  | 15 => some f03__law_home
  | 16 => some f03__law_holds
  | 17 => some f03_law
  | _ => none


/-! ways: 16 times from where, and to where -/
noncomputable def wf (w : Nat) : Nat := w / 16
noncomputable def wt (w : Nat) : Nat := w % 16
noncomputable def qu (L : List Nat) (x : Nat) : List Nat := L.filter fun w => wf w == x
noncomputable def qi (L : List Nat) (x : Nat) : List Nat := L.filter fun w => wt w == x
noncomputable def cl (L : List Nat) (x : Nat) : Nat := (L.filter fun w => decide (wf w < x)).length
noncomputable def SrtN (L : List Nat) : Prop := L.Pairwise fun a b => wf a ≤ wf b

theorem cut_of {p : Nat → Bool} : ∀ {L : List Nat}, L.Pairwise (fun a b => p b = true → p a = true) → L.take (L.filter p).length = L.filter p ∧ L.drop (L.filter p).length = L.filter fun a => !p a
  | [], _ => ⟨rfl, rfl⟩
  | a :: L, h => by
    obtain ⟨h1, h2⟩ := List.pairwise_cons.mp h
    obtain ⟨g1, g2⟩ := cut_of h2
    cases ha : p a with
    | true => simp [List.filter_cons, ha, g1, g2]
    | false =>
      have e1 : L.filter p = [] := List.filter_eq_nil_iff.mpr fun b hb hp => by rw [h1 b hb hp] at ha; cases ha
      have e2 : (L.filter fun a => !p a) = L := List.filter_eq_self.mpr fun b hb => by
        cases hp : p b with
        | true => rw [h1 b hb hp] at ha; cases ha
        | false => rfl
      simp [List.filter_cons, ha, e1, e2]

theorem srt_lt {L : List Nat} (hs : SrtN L) (x : Nat) : L.Pairwise (fun a b => decide (wf b < x) = true → decide (wf a < x) = true) := hs.imp fun {a b} hab h => decide_eq_true (Nat.lt_of_le_of_lt hab (of_decide_eq_true h))
theorem srt_le {L : List Nat} (hs : SrtN L) (x : Nat) : L.Pairwise (fun a b => decide (wf b ≤ x) = true → decide (wf a ≤ x) = true) := hs.imp fun {a b} hab h => decide_eq_true (Nat.le_trans hab (of_decide_eq_true h))
theorem qu_app (A B : List Nat) (x : Nat) : qu (A ++ B) x = qu A x ++ qu B x := List.filter_append ..
theorem qi_app (A B : List Nat) (x : Nat) : qi (A ++ B) x = qi A x ++ qi B x := List.filter_append ..
theorem qu_cons (w : Nat) (B : List Nat) (x : Nat) : qu (w :: B) x = if wf w = x then w :: qu B x else qu B x := by
  unfold qu
  rw [List.filter_cons]
  by_cases h : wf w = x <;> simp [h]
theorem qi_cons (w : Nat) (B : List Nat) (x : Nat) : qi (w :: B) x = if wt w = x then w :: qi B x else qi B x := by
  unfold qi
  rw [List.filter_cons]
  by_cases h : wt w = x <;> simp [h]
theorem mem_qu {L : List Nat} {x w : Nat} : w ∈ qu L x ↔ w ∈ L ∧ wf w = x := by simp [qu]
theorem mem_qi {L : List Nat} {x w : Nat} : w ∈ qi L x ↔ w ∈ L ∧ wt w = x := by simp [qi]
theorem qu_none {L : List Nat} {x : Nat} (h : ∀ w ∈ L, wf w ≠ x) : qu L x = [] := List.filter_eq_nil_iff.mpr fun w hw e => h w hw (by simpa using e)

theorem pop_split {L : List Nat} {h w : Nat} {t : List Nat} (hs : SrtN L) (hq : qu L h = w :: t) : ∃ A B, L = A ++ w :: B ∧ A.length = cl L h ∧ qu A h = [] ∧ qu B h = t ∧ wf w = h := by
  obtain ⟨h1, h2⟩ := cut_of (srt_lt hs h)
  have hw : wf w = h := (mem_qu.mp (hq ▸ List.mem_cons_self ..)).2
  have hL := List.take_append_drop (cl L h) L
  have hA : qu (L.take (cl L h)) h = [] := qu_none fun v hv e => by
    have hv' : v ∈ L.filter fun w => decide (wf w < h) := h1 ▸ hv
    have := of_decide_eq_true (List.mem_filter.mp hv').2
    (first | lia | omega)
  have hB : qu (L.drop (cl L h)) h = w :: t := by
    rw [← hL, qu_app, hA] at hq
    exact hq
  have hsB : SrtN (L.drop (cl L h)) := List.Pairwise.sublist (List.drop_sublist ..) hs
  have hge : ∀ v ∈ L.drop (cl L h), h ≤ wf v := fun v hv => by
    have hv' : v ∈ L.filter fun a => !decide (wf a < h) := h2 ▸ hv
    have := (List.mem_filter.mp hv').2
    simp at this
    exact this
  cases hd : L.drop (cl L h) with
  | nil => rw [hd] at hB; cases hB
  | cons b B =>
    rw [hd] at hB hsB hge
    have hwm : w ∈ b :: B := (mem_qu.mp (hB ▸ List.mem_cons_self ..)).1
    have hb : wf b = h := by
      have h3 := hge b (List.mem_cons_self ..)
      rcases List.mem_cons.mp hwm with e | e
      · rw [← e]; exact hw
      · have := (List.pairwise_cons.mp hsB).1 w e
        (first | lia | omega)
    rw [qu_cons, if_pos hb] at hB
    injection hB with e1 e2
    refine ⟨L.take (cl L h), B, ?_, ?_, hA, e2, hw⟩
    · rw [← e1, ← hd, hL]
    · rw [List.length_take]
      exact Nat.min_eq_left (List.length_filter_le ..)

noncomputable def Path (h : Nat) : List Nat → Nat → Prop
  | [], h' => h = h'
  | w :: T, h' => wf w = h ∧ Path (wt w) T h'
noncomputable def goF : Nat → List Nat → Nat → List Nat × List Nat × Nat
  | 0, L, h => ([], L, h)
  | k + 1, L, h => match qu L h with
    | [] => ([], L, h)
    | w :: _ => (w :: (goF k (L.eraseIdx (cl L h)) (wt w)).1, (goF k (L.eraseIdx (cl L h)) (wt w)).2)
structure Went (L : List Nat) (h : Nat) (T L' : List Nat) (h' : Nat) : Prop where
  srt : SrtN L'
  perm : L.Perm (T ++ L')
  path : Path h T h'
  que : ∀ x, qu L x = qu T x ++ qu L' x

theorem erase_mid {α : Type} {A B : List α} {w : α} {n : Nat} (h : A.length = n) : (A ++ w :: B).eraseIdx n = A ++ B := by
  subst h
  rw [List.eraseIdx_append_of_length_le (Nat.le_refl _)]
  simp
theorem went_pop {L : List Nat} {h w : Nat} {t : List Nat} (hs : SrtN L) (hq : qu L h = w :: t) : SrtN (L.eraseIdx (cl L h)) ∧ L.Perm (w :: L.eraseIdx (cl L h)) ∧ wf w = h ∧ (∀ x, qu L x = qu [w] x ++ qu (L.eraseIdx (cl L h)) x) ∧ (L.eraseIdx (cl L h)).length + 1 = L.length ∧ L[cl L h]? = some w := by
  obtain ⟨A, B, e, hl, hA, hB, hw⟩ := pop_split hs hq
  have e2 : L.eraseIdx (cl L h) = A ++ B := by rw [← hl]; rw [e]; exact erase_mid rfl
  rw [e2]
  refine ⟨?_, ?_, hw, fun x => ?_, ?_, ?_⟩
  · exact List.Pairwise.sublist (by rw [e]; exact List.Sublist.append (List.Sublist.refl _) (List.sublist_cons_self ..)) hs
  · rw [e]; exact List.perm_middle
  · rw [e, qu_app, qu_app, qu_cons, qu_cons]
    by_cases hx : wf w = x
    · have : h = x := hw.symm.trans hx
      subst this
      rw [if_pos hw, if_pos hw, hA]; rfl
    · simp [hx, qu]
  · rw [e]; simp; (first | lia | omega)
  · rw [← hl]; rw [e]; simp
theorem goF_went : ∀ (k : Nat) (L : List Nat) (h : Nat), SrtN L → Went L h (goF k L h).1 (goF k L h).2.1 (goF k L h).2.2
  | 0, L, h, hs => ⟨hs, .refl _, rfl, fun x => rfl⟩
  | k + 1, L, h, hs => by
    unfold goF
    cases hq : qu L h with
    | nil => exact ⟨hs, .refl _, rfl, fun x => rfl⟩
    | cons w t =>
      obtain ⟨g1, g2, g3, g4, _, _⟩ := went_pop hs hq
      have ih := goF_went k (L.eraseIdx (cl L h)) (wt w) g1
      refine ⟨ih.srt, g2.trans (ih.perm.cons w), ⟨g3, ih.path⟩, fun x => ?_⟩
      rw [g4 x, ih.que x, ← List.append_assoc, ← qu_app]
      rfl
theorem goF_stuck : ∀ (k : Nat) (L : List Nat) (h : Nat), SrtN L → L.length < k → qu (goF k L h).2.1 (goF k L h).2.2 = []
  | 0, L, h, _, hl => by (first | lia | omega)
  | k + 1, L, h, hs, hl => by
    unfold goF
    cases hq : qu L h with
    | nil => exact hq
    | cons w t =>
      obtain ⟨g1, _, _, _, g5, _⟩ := went_pop hs hq
      exact goF_stuck k _ (wt w) g1 (by (first | lia | omega))
/-- ways that lie as they lead -/
theorem goF_ring : ∀ (W : List Nat) (k : Nat) (L : List Nat) (h h' : Nat), SrtN L → W.length < k → Path h W h' → (∀ x, qu L x = qu W x) → (goF k L h).1 = W ∧ (goF k L h).2.2 = h'
  | [], k + 1, L, h, h', hs, hk, hp, hq => by
    unfold goF
    rw [hq h]
    exact ⟨rfl, hp⟩
  | w :: W, k + 1, L, h, h', hs, hk, hp, hq => by
    have hh := hq h
    rw [qu_cons, if_pos hp.1] at hh
    obtain ⟨g1, _, g3, g4, _, _⟩ := went_pop hs hh
    have ih := goF_ring W k (L.eraseIdx (cl L h)) (wt w) h' g1 (by simp at hk; (first | lia | omega)) hp.2 fun x => by
      have := g4 x
      rw [hq x, show w :: W = [w] ++ W from rfl, qu_app] at this
      exact (List.append_cancel_left this).symm
    unfold goF
    rw [hh]
    exact ⟨congrArg (w :: ·) ih.1, ih.2⟩
  | _, 0, _, _, _, _, hk, _, _ => by (first | lia | omega)

noncomputable def bal (L : List Nat) : Prop := ∀ x, (qu L x).length = (qi L x).length
theorem path_count : ∀ {T : List Nat} {h h' : Nat}, Path h T h' → ∀ x, (qu T x).length + (if x = h' then 1 else 0) = (qi T x).length + (if x = h then 1 else 0)
  | [], h, h', hp, x => by
    have : h = h' := hp
    subst this; rfl
  | w :: T, h, h', hp, x => by
    have ih := path_count hp.2 x
    have e := hp.1
    rw [qu_cons, qi_cons]
    by_cases h1 : wf w = x <;> by_cases h2 : wt w = x
    · have a1 : x = h := by (first | lia | omega)
      rw [if_pos h2.symm] at ih
      simp only [h1, h2, if_true, List.length_cons, if_pos a1]; (first | lia | omega)
    · have a1 : x = h := by (first | lia | omega)
      rw [if_neg (Ne.symm h2)] at ih
      simp only [h1, h2, if_true, if_false, List.length_cons, if_pos a1]; (first | lia | omega)
    · have a1 : x ≠ h := by (first | lia | omega)
      rw [if_pos h2.symm] at ih
      simp only [h1, h2, if_true, if_false, List.length_cons, if_neg a1]; (first | lia | omega)
    · have a1 : x ≠ h := by (first | lia | omega)
      rw [if_neg (Ne.symm h2)] at ih
      simp only [h1, h2, if_false, if_neg a1]; (first | lia | omega)
theorem went_home {L T L' : List Nat} {h h' : Nat} (b : bal L) (g : Went L h T L' h') (hs : qu L' h' = []) : h' = h ∧ bal L' := by
  have ho : ∀ x, (qu L x).length = (qu T x).length + (qu L' x).length := fun x => by rw [g.que x, List.length_append]
  have hi : ∀ x, (qi L x).length = (qi T x).length + (qi L' x).length := fun x => by
    have := (g.perm.filter fun w => wt w == x).length_eq
    rw [List.filter_append, List.length_append] at this
    exact this
  have hc := path_count g.path
  have e : h' = h := by
    have h1 := hc h'
    have h2 := b h'
    rw [ho, hi, hs] at h2
    rw [if_pos rfl] at h1
    by_cases e : h' = h
    · exact e
    · rw [if_neg e] at h1; simp at h2; (first | lia | omega)
  refine ⟨e, fun x => ?_⟩
  have h1 := hc x
  have h2 := b x
  rw [ho, hi] at h2
  rw [e] at h1
  (first | lia | omega)
theorem bal_out {L : List Nat} (b : bal L) {w : Nat} (hw : w ∈ L) : qu L (wt w) ≠ [] := fun h => by
  have h1 := b (wt w)
  rw [h] at h1
  have : w ∈ qi L (wt w) := mem_qi.mpr ⟨hw, rfl⟩
  rw [List.length_eq_zero_iff.mp h1.symm] at this
  cases this

/-! the last ways lead home -/
noncomputable def stp (la : Nat → Nat) (s x : Nat) : Nat := if x = s then x else la x
noncomputable def itr (f : Nat → Nat) : Nat → Nat → Nat
  | 0, x => x
  | n + 1, x => itr f n (f x)
noncomputable def Last (L : List Nat) (la : Nat → Nat) : Prop := ∀ x, qu L x ≠ [] → ∃ A w, qu L x = A ++ [w] ∧ la x = wt w
theorem itr_fix {f : Nat → Nat} {s : Nat} (h : f s = s) : ∀ n, itr f n s = s
  | 0 => rfl
  | n + 1 => by unfold itr; rw [h]; exact itr_fix h n
theorem itr_add {f : Nat → Nat} : ∀ (n m x : Nat), itr f (n + m) x = itr f m (itr f n x)
  | 0, m, x => by rw [Nat.zero_add]; rfl
  | n + 1, m, x => by rw [Nat.succ_add]; exact itr_add n m (f x)

theorem home_back {L T L' : List Nat} {s : Nat} {la : Nat → Nat} (b' : bal L') (g : Went L s T L' s) (hs : qu L' s = []) (hla : Last L la) : ∀ (n x : Nat), qu L' x ≠ [] → itr (stp la s) n x ≠ s
  | 0, x, hx => fun e => hx (by rw [show x = s from e]; exact hs)
  | n + 1, x, hx => by
    have hxs : x ≠ s := fun e => hx (e ▸ hs)
    have hq := g.que x
    obtain ⟨A, w, h1, h2⟩ := hla x (by rw [hq]; simp [hx])
    have hw : w ∈ qu L' x := by
      have h3 : (qu L x).getLast? = some w := by rw [h1]; simp
      rw [hq, List.getLast?_append] at h3
      cases hl : (qu L' x).getLast? with
      | none => exact absurd (List.getLast?_eq_none_iff.mp hl) hx
      | some v =>
        rw [hl] at h3
        cases h3
        exact List.mem_of_getLast? hl
    have e : stp la s x = wt w := by unfold stp; rw [if_neg hxs, h2]
    unfold itr
    rw [e]
    exact home_back b' g hs hla n (wt w) (bal_out b' (mem_qu.mp hw).1)

/-- how many points, but for s, the ways leave from -/
noncomputable def exits (P : List Nat) (s : Nat) (U : List Nat) : Nat := (P.filter fun x => decide (x ≠ s ∧ qu U x ≠ [])).length
theorem filter_le {P : List Nat} {p q : Nat → Bool} (h : ∀ x ∈ P, p x = true → q x = true) : (P.filter p).length ≤ (P.filter q).length := by
  induction P with
  | nil => exact Nat.le_refl _
  | cons a P ih =>
    have ih := ih fun x hx => h x (List.mem_cons_of_mem _ hx)
    have ha := h a (List.mem_cons_self ..)
    rw [List.filter_cons, List.filter_cons]
    cases hp : p a with
    | true => rw [ha hp]; simpa using ih
    | false => cases q a <;> simp <;> (first | lia | omega)
theorem filter_lt {P : List Nat} {p q : Nat → Bool} {y : Nat} (h : ∀ x ∈ P, p x = true → q x = true) (hy : y ∈ P) (h1 : p y = false) (h2 : q y = true) : (P.filter p).length < (P.filter q).length := by
  induction P with
  | nil => cases hy
  | cons a P ih =>
    have hle := filter_le fun x hx => h x (List.mem_cons_of_mem _ hx)
    have ha := h a (List.mem_cons_self ..)
    rw [List.filter_cons, List.filter_cons]
    rcases List.mem_cons.mp hy with e | e
    · rw [e] at h1 h2
      rw [h1, h2]; simp; (first | lia | omega)
    · have ih := ih (fun x hx => h x (List.mem_cons_of_mem _ hx)) e
      cases hp : p a with
      | true => rw [ha hp]; simpa using ih
      | false => cases q a <;> simp <;> (first | lia | omega)
theorem home_forth {T : List Nat} {s : Nat} {la : Nat → Nat} {P : List Nat} (hla : Last T la) (hP : ∀ w ∈ T, wf w ∈ P) : ∀ (pre U : List Nat) (h : Nat), T = pre ++ U → Path h U s → ∀ x, qu U x ≠ [] → ∃ n, n ≤ exits P s U ∧ itr (stp la s) n x = s
  | pre, [], h, e, hp, x, hx => absurd rfl hx
  | pre, w :: U, h, e, hp, x, hx => by
    have ih := home_forth hla hP (pre ++ [w]) U (wt w) (by rw [e]; simp) hp.2
    have hmono : exits P s U ≤ exits P s (w :: U) := filter_le fun y _ hy => by
      simp only [decide_eq_true_eq] at hy ⊢
      refine ⟨hy.1, fun h => hy.2 ?_⟩
      rw [qu_cons] at h
      split at h
      · cases h
      · exact h
    by_cases hU : qu U x = []
    · have hwx : wf w = x := by
        rw [qu_cons] at hx
        by_cases e : wf w = x
        · exact e
        · rw [if_neg e] at hx; exact absurd hU hx
      by_cases hxs : x = s
      · exact ⟨0, Nat.zero_le _, hxs⟩
      · have hTx : qu T x = qu pre x ++ [w] := by rw [e, qu_app, qu_cons, if_pos hwx, hU]
        obtain ⟨A, v, h1, h2⟩ := hla x (by rw [hTx]; simp)
        have hv : v = w := by
          rw [hTx] at h1
          have := congrArg List.getLast? h1
          simp at this
          exact this.symm
        have hst : stp la s x = wt w := by unfold stp; rw [if_neg hxs, h2, hv]
        have hlt : exits P s U < exits P s (w :: U) := by
          refine filter_lt (y := x) (fun y _ hy => ?_) (hwx ▸ hP w (by rw [e]; simp)) ?_ ?_
          · simp only [decide_eq_true_eq] at hy ⊢
            refine ⟨hy.1, fun h => hy.2 ?_⟩
            rw [qu_cons] at h
            split at h
            · cases h
            · exact h
          · simp [hU]
          · simp [hxs, qu_cons, hwx]
        cases U with
        | nil =>
          have : wt w = s := hp.2
          exact ⟨1, by (first | lia | omega), by unfold itr itr; rw [hst, this]⟩
        | cons v U =>
          obtain ⟨n, hn, hi⟩ := ih (wt w) (by rw [qu_cons, if_pos hp.2.1]; simp)
          exact ⟨n + 1, by (first | lia | omega), by unfold itr; rw [hst]; exact hi⟩
    · obtain ⟨n, hn, hi⟩ := ih x hU
      exact ⟨n, by (first | lia | omega), hi⟩

theorem home_iff {L T L' : List Nat} {s : Nat} {la : Nat → Nat} {P : List Nat} (b' : bal L') (g : Went L s T L' s) (hs : qu L' s = []) (hla : Last L la) (hP : ∀ x, x ∈ P ↔ qu L x ≠ []) (h4 : P.length ≤ 4) (hsP : s ∈ P) :
    L' = [] ↔ ∀ x ∈ P, itr (stp la s) 3 x = s := by
  constructor
  · intro e x hx
    subst e
    have hq : ∀ x, qu L x = qu T x := fun x => by rw [g.que x]; exact List.append_nil _
    have hlaT : Last T la := fun x h => by rw [← hq x] at h ⊢; exact hla x h
    have hPT : ∀ w ∈ T, wf w ∈ P := fun w hw => (hP _).mpr fun h => by
      have : w ∈ qu T (wf w) := mem_qu.mpr ⟨hw, rfl⟩
      rw [← hq, h] at this; cases this
    obtain ⟨n, hn, hi⟩ := home_forth hlaT hPT [] T s rfl g.path x (by rw [← hq]; exact (hP x).mp hx)
    have hlt : exits P s T < P.length := by
      have := filter_lt (P := P) (p := fun x => decide (x ≠ s ∧ qu T x ≠ [])) (q := fun _ => true) (y := s) (fun _ _ _ => rfl) hsP (by simp) rfl
      rw [show (P.filter fun _ => true) = P from List.filter_eq_self.mpr fun _ _ => rfl] at this
      exact this
    have h3 : 3 = n + (3 - n) := by (first | lia | omega)
    rw [h3, itr_add, hi]
    exact itr_fix (by unfold stp; rw [if_pos rfl]) _
  · intro h
    cases L' with
    | nil => rfl
    | cons w L' =>
      have hw : qu (w :: L') (wf w) ≠ [] := by rw [qu_cons, if_pos rfl]; simp
      have hx : wf w ∈ P := (hP _).mpr (by rw [g.que]; simp [hw])
      exact absurd (h _ hx) (home_back b' g hs hla 3 _ hw)


/-! laying ways into the row -/
noncomputable def inR (L : List Nat) (w : Nat) : List Nat := L.take (cl L (wf w + 1)) ++ w :: L.drop (cl L (wf w + 1))
noncomputable def inL (L : List Nat) (w : Nat) : List Nat := L.take (cl L (wf w)) ++ w :: L.drop (cl L (wf w))

theorem take_cl {L : List Nat} (hs : SrtN L) (x : Nat) : L.take (cl L x) = (L.filter fun w => decide (wf w < x)) ∧ L.drop (cl L x) = (L.filter fun w => decide (x ≤ wf w)) := by
  obtain ⟨h1, h2⟩ := cut_of (srt_lt hs x)
  refine ⟨h1, h2.trans (List.filter_congr fun w _ => ?_)⟩
  by_cases h : wf w < x
  · simp [h]
  · simp [h]; (first | lia | omega)
theorem ins_srt {L : List Nat} (hs : SrtN L) {w x : Nat} (h1 : wf w ≤ x) (h2 : x ≤ wf w + 1) : SrtN (L.take (cl L x) ++ w :: L.drop (cl L x)) := by
  obtain ⟨g1, g2⟩ := take_cl hs x
  rw [g1, g2]
  refine List.pairwise_append.mpr ⟨List.Pairwise.sublist List.filter_sublist hs, List.pairwise_cons.mpr ⟨fun v hv => ?_, List.Pairwise.sublist List.filter_sublist hs⟩, fun a ha b hb => ?_⟩
  · have := of_decide_eq_true (List.mem_filter.mp hv).2; (first | lia | omega)
  · have ha := of_decide_eq_true (List.mem_filter.mp ha).2
    rcases List.mem_cons.mp hb with e | e
    · rw [e]; (first | lia | omega)
    · have := of_decide_eq_true (List.mem_filter.mp e).2; (first | lia | omega)
theorem ins_perm {L : List Nat} {w n : Nat} : (L.take n ++ w :: L.drop n).Perm (w :: L) := by
  refine List.perm_middle.trans ?_
  rw [List.take_append_drop]
theorem qu_cut {L : List Nat} (n x : Nat) : qu (L.take n) x ++ qu (L.drop n) x = qu L x := by rw [← qu_app, List.take_append_drop]
theorem qu_insR {L : List Nat} (hs : SrtN L) (w x : Nat) : qu (inR L w) x = qu L x ++ qu [w] x := by
  unfold inR
  rw [qu_app, qu_cons, ← qu_cut (L := L) (cl L (wf w + 1)) x, qu_cons]
  by_cases h : wf w = x
  · rw [if_pos h, if_pos h]
    have : qu (L.drop (cl L (wf w + 1))) x = [] := qu_none fun v hv e => by
      rw [(take_cl hs _).2] at hv
      have := of_decide_eq_true (List.mem_filter.mp hv).2
      (first | lia | omega)
    rw [this]; simp [qu]
  · rw [if_neg h, if_neg h]; simp [qu]
theorem qu_insL {L : List Nat} (hs : SrtN L) (w x : Nat) : qu (inL L w) x = qu [w] x ++ qu L x := by
  unfold inL
  rw [qu_app, qu_cons, ← qu_cut (L := L) (cl L (wf w)) x, qu_cons]
  by_cases h : wf w = x
  · rw [if_pos h, if_pos h]
    have : qu (L.take (cl L (wf w))) x = [] := qu_none fun v hv e => by
      rw [(take_cl hs _).1] at hv
      have := of_decide_eq_true (List.mem_filter.mp hv).2
      (first | lia | omega)
    rw [this]; simp [qu]
  · rw [if_neg h, if_neg h]; simp [qu]

/-- the row that a turn makes -/
noncomputable def laid (t : Bool) (W : List Nat) : List Nat := W.foldl (fun L w => cond t (inR L w) (inL L w)) []
structure Laid (t : Bool) (W L : List Nat) : Prop where
  srt : SrtN L
  perm : L.Perm W
  que : ∀ x, qu L x = cond t (qu W x) (qu W x).reverse
theorem laid_snoc {t : Bool} {W L : List Nat} (h : Laid t W L) (w : Nat) : Laid t (W ++ [w]) (cond t (inR L w) (inL L w)) := by
  cases t with
  | true =>
    refine ⟨ins_srt h.srt (by (first | lia | omega)) (Nat.le_refl _), (ins_perm.trans (h.perm.cons w)).trans (List.perm_append_comm (l₁ := [w])), fun x => ?_⟩
    show qu (inR L w) x = qu (W ++ [w]) x
    rw [qu_insR h.srt, h.que, qu_app]; rfl
  | false =>
    refine ⟨ins_srt h.srt (Nat.le_refl _) (by (first | lia | omega)), (ins_perm.trans (h.perm.cons w)).trans (List.perm_append_comm (l₁ := [w])), fun x => ?_⟩
    show qu (inL L w) x = (qu (W ++ [w]) x).reverse
    rw [qu_insL h.srt, h.que, qu_app, List.reverse_append]
    show qu [w] x ++ (qu W x).reverse = _
    rw [qu_cons]
    by_cases hx : wf w = x <;> simp [hx, qu]
theorem laid_nil {t : Bool} : Laid t [] [] := ⟨List.Pairwise.nil, .refl _, fun x => by cases t <;> rfl⟩

theorem bal_perm {L M : List Nat} (h : L.Perm M) (b : bal M) : bal L := fun x => by
  have h1 := (h.filter fun w => wf w == x).length_eq
  have h2 := (h.filter fun w => wt w == x).length_eq
  exact (h1.trans (b x)).trans h2.symm
theorem path_bal {T : List Nat} {h : Nat} (p : Path h T h) : bal T := fun x => by
  have := path_count p x
  (first | lia | omega)
theorem qu_slice {L : List Nat} (hs : SrtN L) (x : Nat) : (L.drop (cl L x)).take (cl L (x + 1) - cl L x) = qu L x := by
  obtain ⟨g1, g2⟩ := take_cl hs (x + 1)
  have e : (L.take (cl L (x + 1))).drop (cl L x) = (L.drop (cl L x)).take (cl L (x + 1) - cl L x) := List.drop_take
  rw [← e, g1]
  have hs' : SrtN (L.filter fun w => decide (wf w < x + 1)) := List.Pairwise.sublist List.filter_sublist hs
  have hc : cl (L.filter fun w => decide (wf w < x + 1)) x = cl L x := by
    unfold cl
    rw [List.filter_filter]
    congr 1
    refine List.filter_congr fun w _ => ?_
    by_cases h : wf w < x
    · simp [h]; (first | lia | omega)
    · simp [h]
  rw [← hc, (take_cl hs' x).2, List.filter_filter]
  refine List.filter_congr fun w _ => ?_
  by_cases h : wf w = x
  · simp [h]
  · have : (wf w == x) = false := by simp [h]
    rw [this]
    simp; (first | lia | omega)
theorem cl_le (L : List Nat) (x : Nat) : cl L x ≤ L.length := List.length_filter_le ..
theorem cl_mono {L : List Nat} {x y : Nat} (h : x ≤ y) : cl L x ≤ cl L y := filter_le fun w _ hw => decide_eq_true (Nat.lt_of_lt_of_le (of_decide_eq_true hw) h)

/-! the ring's ways -/
noncomputable def ways (R : List Nat) : List Nat := (List.range 8).map fun p => 16 * R.getD p 0 + R.getD ((p + 1) % 8) 0
theorem way_wf {a b : Nat} (hb : b < 16) : wf (16 * a + b) = a := by unfold wf; (first | lia | omega)
theorem way_wt {a b : Nat} (hb : b < 16) : wt (16 * a + b) = b := by unfold wt; (first | lia | omega)
theorem ring8 {R : List Nat} (h : R.length = 8) : ∃ a b c d e f g i, R = [a, b, c, d, e, f, g, i] := by
  match R, h with
  | [a, b, c, d, e, f, g, i], _ => exact ⟨a, b, c, d, e, f, g, i, rfl⟩
theorem ways_path {R : List Nat} (h : R.length = 8) (hR : ∀ x ∈ R, x < 16) : Path (R.getD 0 0) (ways R) (R.getD 0 0) ∧ (ways R).map wf = R ∧ (ways R).length = 8 ∧ ∀ w ∈ ways R, w < 256 := by
  obtain ⟨a, b, c, d, e, f, g, i, rfl⟩ := ring8 h
  simp only [List.mem_cons, List.not_mem_nil, or_false, forall_eq_or_imp, forall_eq] at hR
  obtain ⟨h1, h2, h3, h4, h5, h6, h7, h8⟩ := hR
  have e0 : ways [a, b, c, d, e, f, g, i] = [16 * a + b, 16 * b + c, 16 * c + d, 16 * d + e, 16 * e + f, 16 * f + g, 16 * g + i, 16 * i + a] := rfl
  rw [e0]
  refine ⟨⟨way_wf h2, ?_⟩, ?_, rfl, ?_⟩
  · rw [way_wt h2]
    refine ⟨way_wf h3, ?_⟩
    rw [way_wt h3]
    refine ⟨way_wf h4, ?_⟩
    rw [way_wt h4]
    refine ⟨way_wf h5, ?_⟩
    rw [way_wt h5]
    refine ⟨way_wf h6, ?_⟩
    rw [way_wt h6]
    refine ⟨way_wf h7, ?_⟩
    rw [way_wt h7]
    refine ⟨way_wf h8, ?_⟩
    rw [way_wt h8]
    refine ⟨way_wf h1, ?_⟩
    rw [way_wt h1]; rfl
  · simp only [List.map_cons, List.map_nil, way_wf, h1, h2, h3, h4, h5, h6, h7, h8]
  · simp only [List.mem_cons, List.not_mem_nil, or_false, forall_eq_or_imp, forall_eq]
    refine ⟨?_, ?_, ?_, ?_, ?_, ?_, ?_, ?_⟩ <;> (first | lia | omega)

theorem delta03 (p : Params) : deltaK (hd03.heap_39 p) ns03 = d03 := by
  funext k
  rcases k with _ | _ | _ | _ | _ | _ | _ | _ | _ | _ | _ | _ | _ | _ | _ | _ | _ | _ | k
  · kernel_rfl
  · kernel_rfl
  · kernel_rfl
  · kernel_rfl
  · kernel_rfl
  · kernel_rfl
  · kernel_rfl
  · kernel_rfl
  · kernel_rfl
  · kernel_rfl
  · kernel_rfl
  · kernel_rfl
  · kernel_rfl
  · kernel_rfl
  · kernel_rfl
  · kernel_rfl
  · kernel_rfl
  · kernel_rfl
  · rfl
theorem main03 (hP : ∀ xs : List Int, xs.length ≤ 63 → ∃ σ : Cfg, run (callF d03 11) f03_law.body (some (.list 0) :: List.replicate 10 none, [xs.map .int]) = some (.ret (.bool true), σ)) : PySem.Challenge.rw_ul0001_03.Holds := by
  refine head03 fun p xs hx => ?_
  obtain ⟨σ, h⟩ := hP xs hx
  exact ⟨f03_law, σ, by rw [delta03]; rfl, by rw [delta03]; exact h⟩


/-! the row's things -/
noncomputable def encW (w : Nat) : V := .tup [.int (w : Int), .bytes [66, let8 (wf w), let8 (wt w)]]
noncomputable def encE (e : Int) : V := .tup [.int e, .bytes [67, 65, 65]]
noncomputable def kW (w : Nat) : Int := 1121 + (wf w : Int)
noncomputable def tlV (o : Option Int) : List V := (o.map encE).toList
noncomputable def tlK (o : Option Int) : List Int := (o.map fun _ => (1137 : Int)).toList
noncomputable def rowV (L : List Nat) (o : Option Int) : List V := L.map encW ++ tlV o
noncomputable def rowK (L : List Nat) (o : Option Int) : List Int := L.map kW ++ tlK o
noncomputable abbrev Small (L : List Nat) : Prop := ∀ w ∈ L, w < 256
theorem wf_lt {w : Nat} (h : w < 256) : wf w < 16 := by unfold wf; (first | lia | omega)
theorem wt_lt (w : Nat) : wt w < 16 := by unfold wt; (first | lia | omega)
theorem w_eq (w : Nat) : 16 * wf w + wt w = w := by unfold wf wt; (first | lia | omega)

theorem getI_by {b : List UInt8} {H : HP} {i : Nat} (h : i < b.length) (hl : b.length ≤ 1000) : getI (.bytes b) (.int (i : Int)) H = some (.int (b.getD i 0).toNat) := by
  have : getI (.bytes b) (.int (i : Int)) H = if 0 ≤ (i : Int) ∧ (i : Int) < b.length ∧ b.length ≤ 2 ^ 20 then some (.int (b.getD (i : Int).toNat 0).toNat) else none := nd rfl
  rw [this, if_pos ⟨Int.natCast_nonneg i, by (first | lia | omega), by (first | lia | omega)⟩, Int.toNat_natCast]
theorem from_ev {n : Nat} {H : HP} {z : Int} {x y w : UInt8} : callF d03 (n + 1) 12 [.tup [.int z, .bytes [x, y, w]]] none H = some (.int (16 * (x.toNat : Int) + (y.toNat : Int)), H) := by
  have g1 : ∀ ρ : Rho, ρ[0]? = some (some (.tup [.int z, .bytes [x, y, w]])) → ev (callF d03 n) (.idx (.var 0) (.lit (.int 1))) ρ H = some (.bytes [x, y, w], H) := fun ρ h => idx_of (var_of h) e_lit getI_tup1
  refine call_of (ρ' := [some (.tup [.int z, .bytes [x, y, w]])]) (show d03 12 = some f03__law_from from rfl) rfl (seq_ret (ret_of ?_))
  exact int_of (int_of e_lit (idx_of (g1 _ rfl) e_lit (getI_by (i := 0) (by simp) (by simp))) (mul_s (by decide))) (idx_of (g1 _ rfl) e_lit (getI_by (i := 1) (by simp) (by simp))) rfl
theorem from_W {n : Nat} {H : HP} {w : Nat} (hw : w < 256) : callF d03 (n + 1) 12 [encW w] none H = some (.int (kW w), H) := by
  unfold encW
  rw [from_ev, let8_nat (wf_lt hw)]
  unfold kW
  congr 3
  show (16 * ((66 : Nat) : Int) + ((65 + wf w : Nat) : Int)) = _
  (first | lia | omega)
theorem from_E {n : Nat} {H : HP} {e : Int} : callF d03 (n + 1) 12 [encE e] none H = some (.int 1137, H) := from_ev

theorem row_len (L : List Nat) (o : Option Int) : (rowV L o).length = (rowK L o).length := by
  unfold rowV rowK tlV tlK
  cases o <;> simp
theorem row_at {L : List Nat} {o : Option Int} {i : Nat} {v : V} (h : (rowV L o)[i]? = some v) : (∃ w, L[i]? = some w ∧ v = encW w ∧ (rowK L o)[i]? = some (kW w)) ∨ (∃ e, o = some e ∧ i = L.length ∧ v = encE e ∧ (rowK L o)[i]? = some 1137) := by
  unfold rowV rowK at *
  rcases Nat.lt_or_ge i L.length with hi | hi
  · rw [List.getElem?_append_left (by simpa using hi), List.getElem?_map, List.getElem?_eq_getElem hi] at h
    cases h
    exact Or.inl ⟨_, List.getElem?_eq_getElem hi, rfl, by rw [List.getElem?_append_left (by simpa using hi), List.getElem?_map, List.getElem?_eq_getElem hi]; rfl⟩
  · rw [List.getElem?_append_right (by simpa using hi), List.length_map] at h
    cases o with
    | none => simp [tlV] at h
    | some e =>
      have : i - L.length = 0 := by
        cases hk : i - L.length with
        | zero => rfl
        | succ k => rw [hk] at h; simp [tlV] at h
      rw [this] at h
      cases h
      exact Or.inr ⟨e, rfl, by (first | lia | omega), rfl, by rw [List.getElem?_append_right (by simpa using hi), List.length_map, this]; rfl⟩
theorem keyed_row {n a : Nat} {H : HP} {L : List Nat} {o : Option Int} (h : H[a]? = some (rowV L o)) (hL : Small L) : Keyed (callF d03 (n + 1)) H a (.fn 12) (rowV L o) (rowK L o) where
  at' := h
  len := row_len L o
  ans := fun i v hv => by
    rcases row_at hv with ⟨w, h1, rfl, h3⟩ | ⟨e, _, _, rfl, h3⟩
    · exact ⟨_, h3, from_W (n := n) (hL w (List.mem_of_getElem? h1))⟩
    · exact ⟨_, h3, from_E (n := n)⟩
theorem row_srt {L : List Nat} {o : Option Int} (hs : SrtN L) (hL : Small L) : (rowK L o).Pairwise (· ≤ ·) := by
  unfold rowK
  refine List.pairwise_append.mpr ⟨?_, ?_, fun a ha b hb => ?_⟩
  · rw [List.pairwise_map]
    exact hs.imp fun {a b} h => by unfold kW; (first | lia | omega)
  · cases o with
    | none => exact List.Pairwise.nil
    | some e => exact List.pairwise_singleton _ _
  · obtain ⟨w, hw, rfl⟩ := List.mem_map.mp ha
    have := wf_lt (hL w hw)
    cases o with
    | none => cases hb
    | some e =>
      have : b = 1137 := by simpa [tlK] using hb
      unfold kW; (first | lia | omega)
theorem row_lt (L : List Nat) (o : Option Int) {x : Nat} (hx : x ≤ 16) : cLt (rowK L o) (1121 + (x : Int)) = cl L x := by
  unfold cLt rowK cl
  rw [List.filter_append, List.length_append, List.filter_map, List.length_map]
  have h1 : ((tlK o).filter fun k => decide (k < 1121 + (x : Int))).length = 0 := by
    cases o with
    | none => rfl
    | some e => simp [tlK]; (first | lia | omega)
  rw [h1, Nat.add_zero]
  congr 1
  refine List.filter_congr fun w _ => ?_
  simp only [Function.comp, kW]
  by_cases h : wf w < x <;> simp [h] <;> (first | lia | omega)
theorem row_le (L : List Nat) (o : Option Int) {x : Nat} (hx : x < 16) : cLe (rowK L o) (1121 + (x : Int)) = cl L (x + 1) := by
  unfold cLe rowK cl
  rw [List.filter_append, List.length_append, List.filter_map, List.length_map]
  have h1 : ((tlK o).filter fun k => decide (k ≤ 1121 + (x : Int))).length = 0 := by
    cases o with
    | none => rfl
    | some e => simp [tlK]; (first | lia | omega)
  rw [h1, Nat.add_zero]
  congr 1
  refine List.filter_congr fun w _ => ?_
  simp only [Function.comp, kW]
  by_cases h : wf w < x + 1 <;> simp [h] <;> (first | lia | omega)
theorem rowK_len (L : List Nat) (o : Option Int) : (rowK L o).length ≤ L.length + 1 := by
  unfold rowK tlK
  cases o <;> simp

section
variable {n a : Nat} {H : HP} {L : List Nat} {o : Option Int} (h : H[a]? = some (rowV L o)) (hs : SrtN L) (hL : Small L) (hl : L.length < 100)
include h hs hL hl
theorem bisL_row {x : Nat} (hx : x ≤ 16) : callF d03 (n + 2) 6 [.list a, .int (1121 + (x : Int))] (some (.fn 12)) H = some (.int (cl L x : Int), H) := by
  have hk := rowK_len L o
  have B := bl_body (x := 1121 + (x : Int)) (keyed_row (n := n) h hL) (row_srt hs hL) (by (first | lia | omega))
  rw [row_lt L o hx] at B
  exact bs_call2 (Δ := d03) (b := 6) rfl B h (row_len L o) (by (first | lia | omega))
theorem bisR_row {x : Nat} (hx : x < 16) : callF d03 (n + 2) 4 [.list a, .int (1121 + (x : Int))] (some (.fn 12)) H = some (.int (cl L (x + 1) : Int), H) := by
  have hk := rowK_len L o
  have B := br_body (x := 1121 + (x : Int)) (keyed_row (n := n) h hL) (row_srt hs hL) (by (first | lia | omega))
  rw [row_le L o hx] at B
  exact bs_call2 (Δ := d03) (b := 4) rfl B h (row_len L o) (by (first | lia | omega))
end
theorem all_below {L : List Nat} (hL : Small L) {x : Nat} (hx : 16 ≤ x) : cl L x = L.length := by
  unfold cl
  rw [List.filter_eq_self.mpr fun w hw => decide_eq_true (Nat.lt_of_lt_of_le (wf_lt (hL w hw)) hx)]
theorem row_end {L : List Nat} {e : Int} : (rowV L none).take L.length ++ encE e :: (rowV L none).drop L.length = rowV L (some e) := by
  unfold rowV tlV
  have e : (L.map encW ++ ((none : Option Int).map encE).toList) = L.map encW := List.append_nil _
  rw [e, List.take_of_length_le (by simp), List.drop_of_length_le (by simp)]; rfl

theorem row_ins {L : List Nat} {c w : Nat} (hc : c ≤ L.length) : (rowV L none).take c ++ encW w :: (rowV L none).drop c = rowV (L.take c ++ w :: L.drop c) none := by
  simp [rowV, tlV, List.map_take, List.map_drop]
section
variable {n a : Nat} {H : HP} {L : List Nat} (h : H[a]? = some (rowV L none)) (hs : SrtN L) (hL : Small L) (hl : L.length < 100) (ha : a ≠ 0)
include h hs hL hl ha
theorem insR_row {w : Nat} (hw : w < 256) : callF d03 (n + 3) 3 [.list a, encW w] (some (.fn 12)) H = some (.none, H.set a (rowV (inR L w) none)) := by
  have hk := rowK_len L none
  have B := br_body (x := kW w) (keyed_row (n := n) h hL) (row_srt hs hL) (by (first | lia | omega))
  rw [show kW w = 1121 + (wf w : Int) from rfl, row_le L none (wf_lt hw)] at B
  have := ins_call (Δ := d03) (i := 3) (b := 4) (j := 12) (n := n + 1) (xv := encW w) rfl rfl (from_W hw) B h (row_len L none) (by (first | lia | omega)) ha
  rw [row_ins (cl_le ..)] at this
  exact this
theorem insL_row {w : Nat} (hw : w < 256) : callF d03 (n + 3) 5 [.list a, encW w] (some (.fn 12)) H = some (.none, H.set a (rowV (inL L w) none)) := by
  have hk := rowK_len L none
  have B := bl_body (x := kW w) (keyed_row (n := n) h hL) (row_srt hs hL) (by (first | lia | omega))
  rw [show kW w = 1121 + (wf w : Int) from rfl, row_lt L none (Nat.le_of_lt (wf_lt hw))] at B
  have := ins_call (Δ := d03) (i := 5) (b := 6) (j := 12) (n := n + 1) (xv := encW w) rfl rfl (from_W hw) B h (row_len L none) (by (first | lia | omega)) ha
  rw [row_ins (cl_le ..)] at this
  exact this
theorem insR_end {e : Int} : callF d03 (n + 3) 3 [.list a, encE e] (some (.fn 12)) H = some (.none, H.set a (rowV L (some e))) := by
  have hk := rowK_len L none
  have B := br_body (x := 1137) (keyed_row (n := n) h hL) (row_srt hs hL) (by (first | lia | omega))
  have e1 : cLe (rowK L none) 1137 = L.length := by
    unfold cLe
    rw [List.filter_eq_self.mpr fun k hk => ?_, ← row_len]
    · simp [rowV, tlV]
    · have hk' : k ∈ L.map kW := by simpa [rowK, tlK] using hk
      obtain ⟨w, hw, rfl⟩ := List.mem_map.mp hk'
      have := wf_lt (hL w hw)
      exact decide_eq_true (by unfold kW; (first | lia | omega))
  rw [e1] at B
  have := ins_call (Δ := d03) (i := 3) (b := 4) (j := 12) (n := n + 1) (xv := encE e) rfl rfl from_E B h (row_len L none) (by (first | lia | omega)) ha
  rw [row_end] at this
  exact this
theorem insL_end {e : Int} : callF d03 (n + 3) 5 [.list a, encE e] (some (.fn 12)) H = some (.none, H.set a (rowV L (some e))) := by
  have hk := rowK_len L none
  have B := bl_body (x := 1137) (keyed_row (n := n) h hL) (row_srt hs hL) (by (first | lia | omega))
  have e1 : cLt (rowK L none) 1137 = L.length := by
    have := row_lt L none (x := 16) (Nat.le_refl _)
    rw [all_below hL (Nat.le_refl _)] at this
    exact this
  rw [e1] at B
  have := ins_call (Δ := d03) (i := 5) (b := 6) (j := 12) (n := n + 1) (xv := encE e) rfl rfl from_E B h (row_len L none) (by (first | lia | omega)) ha
  rw [row_end] at this
  exact this
end


/-! loops that may break -/
section
variable {is : List Nat} {tp : Bool} {body : Cfg → Option (Fl × Cfg)} {src : Src} {xs ps : List V} {x : V} {k i : Nat} {σ σ' : Cfg} {r : Option (Fl × Cfg)}
theorem fg_next (h1 : src.items σ.2 = some xs) (h2 : xs[i]? = some x) (h3 : parts tp is.length x σ.2 = some ps) (h4 : body (setAll σ.1 is ps, σ.2) = some (.next, σ')) (h5 : forGo is tp body src k (i + 1) σ' = r) : forGo is tp body src (k + 1) i σ = r := by
  show ((src.items σ.2).bind fun xs => (xs[i]?).elim (some (.next, σ)) fun x => (parts tp is.length x σ.2).bind fun ps => (body (setAll σ.1 is ps, σ.2)).bind fun r => loopOn r (forGo is tp body src k (i + 1))) = r
  rw [h1, Option.bind_some, h2, Option.elim_some, h3, Option.bind_some, h4, Option.bind_some]
  exact h5
theorem fg_brk (h1 : src.items σ.2 = some xs) (h2 : xs[i]? = some x) (h3 : parts tp is.length x σ.2 = some ps) (h4 : body (setAll σ.1 is ps, σ.2) = some (.brk, σ')) : forGo is tp body src (k + 1) i σ = some (.next, σ') := by
  show ((src.items σ.2).bind fun xs => (xs[i]?).elim (some (.next, σ)) fun x => (parts tp is.length x σ.2).bind fun ps => (body (setAll σ.1 is ps, σ.2)).bind fun r => loopOn r (forGo is tp body src k (i + 1))) = _
  rw [h1, Option.bind_some, h2, Option.elim_some, h3, Option.bind_some, h4]; rfl
theorem fg_ret {v : V} (h1 : src.items σ.2 = some xs) (h2 : xs[i]? = some x) (h3 : parts tp is.length x σ.2 = some ps) (h4 : body (setAll σ.1 is ps, σ.2) = some (.ret v, σ')) : forGo is tp body src (k + 1) i σ = some (.ret v, σ') := by
  show ((src.items σ.2).bind fun xs => (xs[i]?).elim (some (.next, σ)) fun x => (parts tp is.length x σ.2).bind fun ps => (body (setAll σ.1 is ps, σ.2)).bind fun r => loopOn r (forGo is tp body src k (i + 1))) = _
  rw [h1, Option.bind_some, h2, Option.elim_some, h3, Option.bind_some, h4]; rfl
theorem fg_end (h1 : src.items σ.2 = some xs) (h2 : xs[i]? = none) : forGo is tp body src (k + 1) i σ = some (.next, σ) := by
  show ((src.items σ.2).bind fun xs => (xs[i]?).elim (some (.next, σ)) fun x => (parts tp is.length x σ.2).bind fun ps => (body (setAll σ.1 is ps, σ.2)).bind fun r => loopOn r (forGo is tp body src k (i + 1))) = _
  rw [h1, Option.bind_some, h2, Option.elim_none]
end
theorem fr_of {Φ : FnT} {is : List Nat} {tp : Bool} {it : Ex} {b : St} {src : Src} {ρ : Rho} {H H' : HP} {x : V} {vs : List V} {r : Option (Fl × Cfg)} (e1 : ev Φ it ρ H = some (x, H')) (e2 : srcOf x H' = some src) (e3 : src.items H' = some vs)
    (h : forGo is tp (fun σ => run Φ b σ) src (vs.length + 1) 0 (ρ, H') = r) : run Φ (.fr is tp it b) (ρ, H) = r := by
  have : run Φ (.fr is tp it b) (ρ, H) = (ev Φ it ρ H).bind fun q => (srcOf q.1 q.2).bind fun src => forGo is tp (fun σ => run Φ b σ) src (src.fuel q.2) 0 (ρ, q.2) := nd rfl
  rw [this, e1, Option.bind_some, e2, Option.bind_some]
  unfold Src.fuel
  rw [e3]; exact h
theorem ite_t {Φ : FnT} {c : Ex} {a b : St} {ρ : Rho} {H H' : HP} {r : Option (Fl × Cfg)} (h : evB Φ c ρ H = some (true, H')) (h2 : run Φ a (ρ, H') = r) : run Φ (.ite c a b) (ρ, H) = r := by
  rw [r_ite, h, Option.bind_some]; exact h2
theorem ite_f {Φ : FnT} {c : Ex} {a b : St} {ρ : Rho} {H H' : HP} {r : Option (Fl × Cfg)} (h : evB Φ c ρ H = some (false, H')) (h2 : run Φ b (ρ, H') = r) : run Φ (.ite c a b) (ρ, H) = r := by
  rw [r_ite, h, Option.bind_some]; exact h2
theorem seq_brk {Φ : FnT} {a b : St} {σ σ' : Cfg} (h1 : run Φ a σ = some (.brk, σ')) : run Φ (.seq a b) σ = some (.brk, σ') := by
  rw [r_seq, h1]; rfl
theorem is_bb {H : HP} {a b : Bool} : cmpV .is (.bool a) (.bool b) H = some (a == b) := nd rfl
theorem isn_bb {H : HP} {a b : Bool} : cmpV .isn (.bool a) (.bool b) H = some (!(a == b)) := nd rfl
theorem eq_ii {H : HP} {a b : Int} : cmpV .eq (.int a) (.int b) H = some (a == b) := nd rfl
theorem ne_ii {H : HP} {a b : Int} : cmpV .ne (.int a) (.int b) H = some (!(a == b)) := nd rfl
theorem app_list {i : Nat} {xs : List V} {v : V} {H : HP} (h : H[i]? = some xs) (hi : i ≠ 0) (hl : xs.length ≤ 1048576) : meth .append (.list i) [v] H = some (.none, H.set i (xs ++ [v])) := by
  show ((H[i]?).bind fun xs => if i ≠ 0 then (if lenOk xs.length then some (V.none, H.set i (xs ++ [v])) else none) else none) = _
  rw [h, Option.bind_some, if_pos hi, if_pos (show lenOk xs.length = true from decide_eq_true hl)]
theorem pop_list {i k : Nat} {xs : List V} {v : V} {H : HP} (h : H[i]? = some xs) (hi : i ≠ 0) (hv : xs[k]? = some v) (hl : xs.length ≤ 1048576) : meth .pop (.list i) [.int (k : Int)] H = some (v, H.set i (xs.eraseIdx k)) := by
  show ((H[i]?).bind fun xs => if i ≠ 0 then ((xs[(k : Int).toNat]?).bind fun v => if lenOk xs.length && decide (0 ≤ (k : Int)) then some (v, H.set i (xs.eraseIdx (k : Int).toNat)) else none) else none) = _
  rw [h, Option.bind_some, if_pos hi, Int.toNat_natCast, hv, Option.bind_some, show lenOk xs.length = true from decide_eq_true hl, decide_eq_true (Int.natCast_nonneg k)]
  rfl

theorem set4 {α : Type} {H : List α} {a p : Nat} (hap : a ≠ p) {X Y Y' Z : α} : ((((H.set p X).set a Y).set a Y').set p Z) = (H.set a Y').set p Z := by
  rw [List.set_set, List.set_comm _ _ (Ne.symm hap), List.set_set]
/-! _law_gone -/
noncomputable def goneB : St := .seq (.asg 7 (.callK (.lit (.fn 6)) (.cons (.var 0) (.cons (.bin .add (.bin .add (.bin .mul (.lit (.int 16)) (.lit (.int 66))) (.lit (.int 65))) (.var 3)) .nil)) (.lit (.fn 12)))) (.seq (.asg 5 (.call (.lit (.fn 2)) (.cons (.bin .mul (.var 2) (.bin .sub (.bin .div (.idx (.idx (.var 0) (.var 7)) (.lit (.int 0))) (.lit (.int 16))) (.var 3))) .nil))) (.seq (.ite (.cmp .isn (.var 5) (.lit (.bool true))) (.seq .brk .skip) .skip) (.seq (.exp (.meth .append (.var 4) (.cons (.var 3) .nil))) (.seq (.asg 3 (.bin .mod (.idx (.meth .pop (.var 0) (.cons (.var 7) .nil)) (.lit (.int 0))) (.lit (.int 16)))) .skip))))
theorem key_ev {Φ : FnT} {ρ : Rho} {H : HP} {k x : Nat} (h : ρ[k]? = some (some (.int (x : Int)))) : ev Φ (.bin .add (.bin .add (.bin .mul (.lit (.int 16)) (.lit (.int 66))) (.lit (.int 65))) (.var k)) ρ H = some (.int (1121 + (x : Int)), H) :=
  int_of (int_of (int_of e_lit e_lit (mul_s (by decide))) e_lit rfl) (var_of h) rfl

theorem erase_map {α β : Type} {f : α → β} : ∀ (l : List α) (i : Nat), (l.map f).eraseIdx i = (l.eraseIdx i).map f
  | [], _ => rfl
  | _ :: _, 0 => rfl
  | a :: l, i + 1 => congrArg (f a :: ·) (erase_map l i)
theorem row_pop {L : List Nat} {o : Option Int} {i : Nat} (h : i < L.length) : (rowV L o).eraseIdx i = rowV (L.eraseIdx i) o := by
  unfold rowV
  rw [List.eraseIdx_append_of_lt_length (by simpa using h)]
  congr 1
  exact erase_map L i

/-- one look at the row: the place, and what is told of it -/
theorem gone_look {n a : Nat} {H : HP} {L : List Nat} {e : Int} {h p : Nat} {s t : Int} {m5 m6 m7 : Option V} (ha : H[a]? = some (rowV L (some e))) (hs : SrtN L) (hL : Small L) (hl : L.length < 100) (hh : h < 16) (ht : t = 1 ∨ t = -1) (he : 256 ≤ e) :
    ∃ b : Bool, (b = true ↔ qu L h ≠ []) ∧ ∀ rest r, run (callF d03 (n + 2)) rest ([some (.list a), some (.int s), some (.int t), some (.int (h : Int)), some (.list p), some (.bool b), m6, some (.int (cl L h : Int))], H) = r →
      run (callF d03 (n + 2)) (.seq (.asg 7 (.callK (.lit (.fn 6)) (.cons (.var 0) (.cons (.bin .add (.bin .add (.bin .mul (.lit (.int 16)) (.lit (.int 66))) (.lit (.int 65))) (.var 3)) .nil)) (.lit (.fn 12)))) (.seq (.asg 5 (.call (.lit (.fn 2)) (.cons (.bin .mul (.var 2) (.bin .sub (.bin .div (.idx (.idx (.var 0) (.var 7)) (.lit (.int 0))) (.lit (.int 16))) (.var 3))) .nil))) rest))
        ([some (.list a), some (.int s), some (.int t), some (.int (h : Int)), some (.list p), m5, m6, m7], H) = r := by
  have hb := bisL_row (n := n) ha hs hL hl (Nat.le_of_lt hh)
  have hcl := cl_le L h
  -- the thing at the place
  obtain ⟨z, hz, hzq⟩ : ∃ z : Int, (∃ rest, (rowV L (some e))[cl L h]? = some (.tup (.int z :: rest))) ∧ (z / 16 = (h : Int) ↔ qu L h ≠ []) := by
    rcases Nat.lt_or_ge (cl L h) L.length with hlt | hge
    · have hx := List.getElem?_eq_getElem hlt
      refine ⟨(L[cl L h] : Int), ⟨_, by unfold rowV; rw [List.getElem?_append_left (by simpa using hlt), List.getElem?_map, hx]; rfl⟩, ?_⟩
      constructor
      · intro e1 e2
        have : L[cl L h] ∈ qu L h := mem_qu.mpr ⟨List.mem_of_getElem? hx, by unfold wf; (first | lia | omega)⟩
        rw [e2] at this; cases this
      · intro e1
        cases hq : qu L h with
        | nil => exact absurd hq e1
        | cons w q =>
          obtain ⟨_, _, g3, _, _, g6⟩ := went_pop hs hq
          rw [hx] at g6
          rw [Option.some.inj g6]
          unfold wf at g3
          (first | lia | omega)
    · have e1 : cl L h = L.length := by (first | lia | omega)
      refine ⟨e, ⟨[.bytes [67, 65, 65]], by rw [e1]; unfold rowV; rw [List.getElem?_append_right (by simp)]; simp [tlV, encE]⟩, ?_⟩
      constructor
      · intro h1; (first | lia | omega)
      · intro h1
        cases hq : qu L h with
        | nil => exact absurd hq h1
        | cons w q =>
          obtain ⟨_, _, _, _, _, g6⟩ := went_pop hs hq
          have := lt_of_get' g6
          (first | lia | omega)
  obtain ⟨zr, hz⟩ := hz
  have hsm : (rowV L (some e)).length ≤ 200 := by simp [rowV, tlV]; (first | lia | omega)
  have hg : getI (.list a) (.int (cl L h : Int)) H = some (.tup (.int z :: zr)) := getI_at ha (by (first | lia | omega)) hz
  refine ⟨t * (z / 16 - (h : Int)) == 0, ?_, fun rest r hr => ?_⟩
  · rw [← hzq]
    constructor
    · intro h1
      have h1 := eq_of_beq h1
      rcases ht with rfl | rfl <;> (first | lia | omega)
    · intro h1
      rw [h1, Int.sub_self, Int.mul_zero]; rfl
  · refine seq_of (asg_of (fnK_of (es1 (var_of rfl) (es1 (key_ev rfl) es0)) e_lit hb)) ?_
    refine seq_of (asg_of (fn_of (es1 (int_of (var_of rfl) (int_of (int_of (idx_of (idx_of (var_of rfl) (var_of rfl) hg) e_lit getI_tup0) e_lit (div_p (by decide) (by decide))) (var_of rfl) rfl) (mul_s ?_)) es0) (eof_call (n := n + 1) rfl))) hr
    rcases ht with rfl | rfl <;> decide

theorem gone_loop {n a : Nat} {e : Int} {p : Nat} {s t : Int} (ht : t = 1 ∨ t = -1) (he : 256 ≤ e) (ha0 : a ≠ 0) (hp0 : p ≠ 0) (hap : a ≠ p) : ∀ (k i : Nat), k + i = 9 → ∀ (L : List Nat) (h : Nat) (pts : List Nat) (H : HP) (m5 m6 m7 : Option V),
    H[a]? = some (rowV L (some e)) → H[p]? = some (pts.map fun (x : Nat) => V.int (x : Int)) → SrtN L → Small L → L.length < k → h < 16 → pts.length + k ≤ 100 →
    ∃ m6' m7', forGo [6] false (fun σ => run (callF d03 (n + 2)) goneB σ) (.fixed ((List.range (9 - 0)).map fun i => V.int ((0 + i : Nat) : Int))) (k + 1) i ([some (.list a), some (.int s), some (.int t), some (.int (h : Int)), some (.list p), m5, m6, m7], H) =
      some (.next, ([some (.list a), some (.int s), some (.int t), some (.int ((goF k L h).2.2 : Int)), some (.list p), some (.bool false), m6', m7'], (H.set a (rowV (goF k L h).2.1 (some e))).set p ((pts ++ (goF k L h).1.map wf).map fun (x : Nat) => V.int (x : Int))))
  | 0, i, hi, L, h, pts, H, m5, m6, m7, ha, hp, hs, hL, hl, hh, hpl => by (first | lia | omega)
  | k + 1, i, hi, L, h, pts, H, m5, m6, m7, ha, hp, hs, hL, hl, hh, hpl => by
    have hx : ((List.range (9 - 0)).map fun i => V.int ((0 + i : Nat) : Int))[i]? = some (.int ((0 + i : Nat) : Int)) := by rw [List.getElem?_map, List.getElem?_range (by (first | lia | omega))]; rfl
    obtain ⟨b, hb, hlook⟩ := gone_look (n := n) (H := H) (L := L) (h := h) (p := p) (s := s) (t := t) (m5 := m5) (m6 := some (.int ((0 + i : Nat) : Int))) (m7 := m7) ha hs hL (by (first | lia | omega)) hh ht he
    cases hq : qu L h with
    | nil =>
      have hb0 : b = false := by
        cases b with
        | false => rfl
        | true => exact absurd hq (hb.mp rfl)
      rw [hb0] at hlook
      have hg : goF (k + 1) L h = ([], L, h) := by unfold goF; rw [hq]
      rw [hg]
      refine ⟨some (.int ((0 + i : Nat) : Int)), some (.int (cl L h : Int)), ?_⟩
      have e1 : (H.set a (rowV L (some e))).set p ((pts ++ [].map wf).map fun (x : Nat) => V.int (x : Int)) = H := by
        rw [List.map_nil, List.append_nil]
        have s1 : H.set a (rowV L (some e)) = H := by
          have := lt_of_get' ha
          rw [List.getElem?_eq_getElem this] at ha
          rw [← Option.some.inj ha]; simp
        rw [s1]
        have := lt_of_get' hp
        rw [List.getElem?_eq_getElem this] at hp
        rw [← Option.some.inj hp]; simp
      rw [e1]
      exact fg_brk rfl hx rfl (hlook _ _ (seq_brk (ite_t (evB_of' (cmp_of (var_of rfl) e_lit isn_bb) rfl) (seq_brk r_brk))))
    | cons w q =>
      have hb1 : b = true := hb.mpr (by rw [hq]; simp)
      rw [hb1] at hlook
      obtain ⟨g1, g2, g3, g4, g5, g6⟩ := went_pop hs hq
      have hlt := lt_of_get' g6
      have hg : goF (k + 1) L h = (w :: (goF k (L.eraseIdx (cl L h)) (wt w)).1, (goF k (L.eraseIdx (cl L h)) (wt w)).2) := by rw [goF.eq_def]; simp only [hq]
      have hH1 : (H.set p ((pts.map fun (x : Nat) => V.int (x : Int)) ++ [V.int (h : Int)]))[a]? = some (rowV L (some e)) := by rw [List.getElem?_set_ne (Ne.symm hap)]; exact ha
      have hL' : Small (L.eraseIdx (cl L h)) := fun v hv => hL v (List.mem_of_mem_eraseIdx hv)
      have hrow : (rowV L (some e))[cl L h]? = some (encW w) := by unfold rowV; rw [List.getElem?_append_left (by simpa using hlt), List.getElem?_map, g6]; rfl
      have hpop := pop_list (v := encW w) (k := cl L h) hH1 ha0 hrow (by simp [rowV, tlV]; (first | lia | omega))
      rw [row_pop hlt] at hpop
      have ha' : ((H.set p ((pts.map fun (x : Nat) => V.int (x : Int)) ++ [V.int (h : Int)])).set a (rowV (L.eraseIdx (cl L h)) (some e)))[a]? = some (rowV (L.eraseIdx (cl L h)) (some e)) := List.getElem?_set_self (by rw [List.length_set]; exact lt_of_get' ha)
      have hp' : ((H.set p ((pts.map fun (x : Nat) => V.int (x : Int)) ++ [V.int (h : Int)])).set a (rowV (L.eraseIdx (cl L h)) (some e)))[p]? = some ((pts ++ [h]).map fun (x : Nat) => V.int (x : Int)) := by
        rw [List.getElem?_set_ne hap, List.getElem?_set_self (lt_of_get' hp), List.map_append]; rfl
      obtain ⟨m6', m7', ih⟩ := gone_loop (n := n) ht he ha0 hp0 hap k (i + 1) (by (first | lia | omega)) (L.eraseIdx (cl L h)) (wt w) (pts ++ [h]) _ (some (.bool true)) (some (.int ((0 + i : Nat) : Int))) (some (.int (cl L h : Int))) ha' hp' g1 hL' (by (first | lia | omega)) (wt_lt w) (by simp; (first | lia | omega))
      refine ⟨m6', m7', fg_next rfl hx rfl (hlook _ _ (seq_of (ite_f (evB_of' (cmp_of (var_of rfl) e_lit isn_bb) rfl) r_skip) (seq_of (exp_of (meth_of (var_of rfl) (es1 (var_of rfl) es0) (app_list hp hp0 (by simp; (first | lia | omega))))) (seq_of (asg_of (int_of (idx_of (meth_of (var_of rfl) (es1 (var_of rfl) es0) hpop) e_lit getI_tup0) e_lit (mod_p (by decide)))) r_skip)))) ?_⟩
      have e2 : ((w : Int) % 16) = ((wt w : Nat) : Int) := rfl
      refine (Eq.trans ?_ ih).trans ?_
      · rw [← e2]; rfl
      · rw [hg]
        congr 3
        rw [set4 hap]
        simp only [List.map_append, List.map_cons, List.append_assoc, g3]
        rfl

theorem and_t {Φ : FnT} {ρ : Rho} {a b : Ex} {H H₁ : HP} {v : V} {r : Option (V × HP)} (h : ev Φ a ρ H = some (v, H₁)) (ht : tr v = some true) (h2 : ev Φ b ρ H₁ = r) : ev Φ (.and a b) ρ H = r := by
  rw [e_and, h, Option.bind_some, ht]; exact h2
theorem and_f {Φ : FnT} {ρ : Rho} {a b : Ex} {H H₁ : HP} {v : V} (h : ev Φ a ρ H = some (v, H₁)) (ht : tr v = some false) : ev Φ (.and a b) ρ H = some (v, H₁) := by
  rw [e_and, h, Option.bind_some, ht]; rfl
theorem or_t {Φ : FnT} {ρ : Rho} {a b : Ex} {H H₁ : HP} {v : V} (h : ev Φ a ρ H = some (v, H₁)) (ht : tr v = some true) : ev Φ (.or a b) ρ H = some (v, H₁) := by
  rw [e_or, h, Option.bind_some, ht]; rfl
theorem or_f {Φ : FnT} {ρ : Rho} {a b : Ex} {H H₁ : HP} {v : V} {r : Option (V × HP)} (h : ev Φ a ρ H = some (v, H₁)) (ht : tr v = some false) (h2 : ev Φ b ρ H₁ = r) : ev Φ (.or a b) ρ H = r := by
  rw [e_or, h, Option.bind_some, ht]; exact h2
theorem eqL_diff {H : HP} {i j : Nat} {xs ys : List V} (hx : H[i]? = some xs) (hy : H[j]? = some ys) (h : xs.length ≠ ys.length) : eqV H (.list i) (.list j) = some false := by
  rw [eqV_l]; unfold eqL
  rw [hx, Option.bind_some, hy, Option.bind_some, if_neg h]
theorem eqL_same {H : HP} {i j : Nat} {xs ys : List V} (hx : H[i]? = some xs) (hy : H[j]? = some ys) (h : xs.length = ys.length) (hij : i ≠ j) : eqV H (.list i) (.list j) = eqs eq1 xs ys := by
  rw [eqV_l]; unfold eqL
  rw [hx, Option.bind_some, hy, Option.bind_some, if_pos h, if_neg hij]
theorem eqs_of {f : V → V → Option Bool} {xs : List V} (hf : ∀ x ∈ xs, f x x = some true) : eqs f xs xs = some true := by
  induction xs with
  | nil => rfl
  | cons x xs ih =>
    show (f x x).bind (fun a => (eqs f xs xs).map fun b => a && b) = _
    rw [hf x (List.mem_cons_self ..), Option.bind_some, ih fun y hy => hf y (List.mem_cons_of_mem _ hy)]
    rfl
theorem eq1_int {i : Int} : eq1 (.int i) (.int i) = some true := (nd rfl : eq1 (.int i) (.int i) = some (i == i)).trans (by rw [beq_self_eq_true])
theorem eq0_bytes {b : List UInt8} : eq0 (.bytes b) (.bytes b) = some true := (nd rfl : eq0 (.bytes b) (.bytes b) = some (b == b)).trans (by rw [beq_self_eq_true])
theorem eq0_int {b : Int} : eq0 (.int b) (.int b) = some true := (nd rfl : eq0 (.int b) (.int b) = some (b == b)).trans (by rw [beq_self_eq_true])
theorem eq1_tup {l : List V} (h : ∀ x ∈ l, eq0 x x = some true) : eq1 (.tup l) (.tup l) = some true := (nd rfl : eq1 (.tup l) (.tup l) = eqs eq0 l l).trans (eqs_of h)
theorem set_app {α : Type} {H K : List α} {a : Nat} {x : α} (h : a < H.length) : (H ++ K).set a x = H.set a x ++ K := by rw [List.set_append_left _ _ h]

theorem set_last' {α : Type} {H : List α} {n : Nat} {x y : α} (h : H.length = n) : (H ++ [x]).set n y = H ++ [y] := by subst h; simp

section
variable {n a : Nat} {H : HP} {L : List Nat} {e : Int} {h : Nat} {t : Int} (ha : H[a]? = some (rowV L (some e))) (hs : SrtN L) (hL : Small L) (hl : L.length < 9) (hh : h < 16) (ht : t = 1 ∨ t = -1) (he : 256 ≤ e) (ha0 : a ≠ 0)
  (hT : (goF 9 L h).1 ≠ []) (hh' : (goF 9 L h).2.2 = h)
include ha hs hL hl hh ht he ha0 hT hh'
theorem gone_call : callF d03 (n + 3) 14 [.list a, .int (h : Int), .int t] none H = some (.tup [.list H.length, .bool true], H.set a (rowV (goF 9 L h).2.1 (some e)) ++ [((goF 9 L h).1.map wf).map fun (x : Nat) => V.int (x : Int)] ++ [[]]) := by
  have hlt := lt_of_get' ha
  obtain ⟨m6, m7, hr⟩ := gone_loop (n := n) (e := e) (s := (h : Int)) ht he ha0 (p := H.length) (by (first | lia | omega)) (by (first | lia | omega)) 9 0 rfl L h [] (H ++ [[]]) (some .none) none none (app_get ha) (by simp) hs hL hl hh (by simp)
  rw [hh', List.nil_append, set_app hlt, set_last' (by rw [List.length_set])] at hr
  refine call_of (ρ' := [some (.list a), some (.int (h : Int)), some (.int t), some (.int (h : Int)), some (.list H.length), some (.bool false), m6, m7]) (show d03 14 = some f03__law_gone from rfl) rfl ?_
  refine seq_of (asg_of (var_of rfl)) (seq_of (asg_of (lst_of es0 (by simp))) (seq_of (asg_of e_lit) (seq_of (fr_of (rng_ev (n := 9) rfl (by (first | lia | omega))) (rng_src 0 9 _ (by (first | lia | omega)) (by (first | lia | omega))) rfl hr) (seq_ret (ret_of ?_)))))
  have g1 : ∀ (X Y : List V), ((H.set a (rowV (goF 9 L h).2.1 (some e))) ++ [X] ++ [Y])[H.length]? = some X := fun X Y => by rw [List.append_assoc, List.getElem?_append_right (by simp)]; simp
  have g2 : ∀ (X Y : List V), ((H.set a (rowV (goF 9 L h).2.1 (some e))) ++ [X] ++ [Y])[(H.set a (rowV (goF 9 L h).2.1 (some e)) ++ [X]).length]? = some Y := fun X Y => get_last
  have e1 := eqL_diff (g1 (((goF 9 L h).1.map wf).map fun (x : Nat) => V.int (x : Int)) []) (g2 _ []) (by simpa using hT)
  refine tpl_of (es1 (var_of rfl) (es1 (and_t (cmp_of (var_of rfl) (lst_of es0 (by simp)) (cmp_ne (t := false) ?_)) rfl (and_t (cmp_of (var_of rfl) (var_of rfl) (t := true) ?_) rfl (cmp_of (var_of rfl) e_lit is_bb))) es0)) (by simp)
  · exact e1
  · rw [eq_ii, beq_self_eq_true]
end


/-! _law_laid -/
theorem ap3 {n : Nat} (h0 : n ≠ 0) (h1 : n / 16 ≠ 0) (h2 : n / 16 / 16 ≠ 0) (h3 : n / 16 / 16 / 16 = 0) : ap n = [let8 (n / 16 / 16 % 16), let8 (n / 16 % 16), let8 (n % 16)] := by
  rw [ap_pos h0, ap_pos h1, ap_pos h2, h3, ap_zero]; rfl
theorem ap_way {w : Nat} (hw : w < 256) : ap (256 + w) = [66, let8 (wf w), let8 (wt w)] := by
  rw [ap3 (by (first | lia | omega)) (by (first | lia | omega)) (by (first | lia | omega)) (by (first | lia | omega))]
  have e1 : (256 + w) / 16 / 16 % 16 = 1 := by (first | lia | omega)
  have e2 : (256 + w) / 16 % 16 = wf w := by unfold wf; (first | lia | omega)
  have e3 : (256 + w) % 16 = wt w := by unfold wt; (first | lia | omega)
  rw [e1, e2, e3]; rfl
theorem ap_512 : ap 512 = [67, 65, 65] := by
  rw [ap3 (by decide) (by decide) (by decide) (by decide)]; rfl
theorem ap3_call {n : Nat} {H : HP} {i : Int} {b : List UInt8} {m : Nat} (hm : i.natAbs = m) (hb : m ≤ 100000) (h : ap m = b) : callF d03 (n + 1) 7 [.int i] none H = some (.bytes b, H) := by
  have := ap_call (Δ := d03) (n := n) (k := 7) (H := H) (i := i) rfl (Nat.lt_of_le_of_lt (by rw [hm]; exact hb) (Nat.lt_of_lt_of_le (show 100000 < 16 ^ 5 by decide) (Nat.pow_le_pow_right (by decide) (by decide))))
  rw [hm, h] at this
  exact this

noncomputable def laidB : St := .seq (.ite (.cmp .eq (.var 1) (.lit (.int 1))) (.seq (.exp (.callK (.lit (.fn 3)) (.cons (.var 3) (.cons (.tpl (.cons (.var 4) (.cons (.call (.lit (.fn 7)) (.cons (.var 5) .nil)) .nil))) .nil)) (.lit (.fn 12)))) .skip) (.seq (.exp (.callK (.lit (.fn 5)) (.cons (.var 3) (.cons (.tpl (.cons (.var 4) (.cons (.call (.lit (.fn 7)) (.cons (.neg (.var 5)) .nil)) .nil))) .nil)) (.lit (.fn 12)))) .skip)) .skip
noncomputable def turn (t : Bool) : Int := cond t 1 (-1)
theorem turn_or (t : Bool) : turn t = 1 ∨ turn t = -1 := by cases t <;> simp [turn]
/-- one thing is laid -/
theorem laid_one {n r : Nat} {H H' : HP} {t : Bool} {x : Int} {b : List UInt8} {m : Nat} {v0 v2 : Option V} (hm : ap m = b) (hb : m ≤ 100000)
    (hR : callF d03 (n + 4) (cond t 3 5) [.list r, .tup [.int x, .bytes b]] (some (.fn 12)) H = some (.none, H')) :
    run (callF d03 (n + 4)) laidB ([v0, some (.int (turn t)), v2, some (.list r), some (.int x), some (.int (m : Int))], H) = some (.next, ([v0, some (.int (turn t)), v2, some (.list r), some (.int x), some (.int (m : Int))], H')) := by
  cases t with
  | true =>
    exact seq_of (ite_t (evB_of' (cmp_of (var_of rfl) e_lit eq_ii) rfl) (seq_of (exp_of (fnK_of (es1 (var_of rfl) (es1 (tpl_of (es1 (var_of rfl) (es1 (fn_of (es1 (var_of rfl) es0) (ap3_call (n := n + 3) (m := m) (by simp) hb hm)) es0)) (by simp)) es0)) e_lit hR)) r_skip)) r_skip
  | false =>
    exact seq_of (ite_f (evB_of' (cmp_of (var_of rfl) e_lit eq_ii) rfl) (seq_of (exp_of (fnK_of (es1 (var_of rfl) (es1 (tpl_of (es1 (var_of rfl) (es1 (fn_of (es1 (neg_of (var_of rfl)) es0) (ap3_call (n := n + 3) (m := m) (by simp) hb hm)) es0)) (by simp)) es0)) e_lit hR)) r_skip)) r_skip
noncomputable def pairV (w : Nat) : V := .tup [.int (w : Int), .int ((256 + w : Nat) : Int)]
noncomputable def lastV (e : Int) : V := .tup [.int e, .int ((512 : Nat) : Int)]

theorem laid_loop {n r c : Nat} {t : Bool} {e : Int} {v0 v2 : Option V} (hr0 : r ≠ 0) (hrc : r ≠ c) : ∀ (k i : Nat) (W : List Nat) (H : HP) (all : List V) (W₀ L : List Nat) (m4 m5 : Option V), k = W.length + 2 → all.drop i = W.map pairV ++ [lastV e] →
    H[c]? = some all → H[r]? = some (rowV L none) → Laid t W₀ L → Small L → Small W → L.length + W.length < 99 → 
    ∃ m4' m5' L', Laid t (W₀ ++ W) L' ∧ Small L' ∧ forGo [4, 5] true (fun σ => run (callF d03 (n + 4)) laidB σ) (.lst c) k i ([v0, some (.int (turn t)), v2, some (.list r), m4, m5], H) = some (.next, ([v0, some (.int (turn t)), v2, some (.list r), m4', m5'], H.set r (rowV L' (some e))))
  | k, i, [], H, all, W₀, L, m4, m5, hk, hd, hc, hr, hL, hsL, hsW, hlen => by
    subst hk
    have hx : all[i]? = some (lastV e) := by
      have := congrArg (·[0]?) hd
      simpa [List.getElem?_drop] using this
    have hn : all[i + 1]? = none := by
      have := congrArg (·[1]?) hd
      simpa [List.getElem?_drop] using this
    refine ⟨some (.int e), some (.int ((512 : Nat) : Int)), L, by rw [List.append_nil]; exact hL, hsL, ?_⟩
    have hR : callF d03 (n + 4) (cond t 3 5) [.list r, .tup [.int e, .bytes [67, 65, 65]]] (some (.fn 12)) H = some (.none, H.set r (rowV L (some e))) := by
      cases t with
      | true => exact insR_end (n := n + 1) hr hL.srt hsL (by (first | lia | omega)) hr0
      | false => exact insL_end (n := n + 1) hr hL.srt hsL (by (first | lia | omega)) hr0
    exact fg_next (k := 1) (ps := [.int e, .int ((512 : Nat) : Int)]) hc hx rfl (laid_one ap_512 (by decide) hR) (fg_end (xs := all) (show (H.set r (rowV L (some e)))[c]? = some all by rw [List.getElem?_set_ne hrc]; exact hc) hn)
  | k, i, w :: W, H, all, W₀, L, m4, m5, hk, hd, hc, hr, hL, hsL, hsW, hlen => by
    have hx : all[i]? = some (pairV w) := by
      have := congrArg (·[0]?) hd
      simpa [List.getElem?_drop] using this
    have hd' : all.drop (i + 1) = W.map pairV ++ [lastV e] := by
      rw [← List.drop_drop, hd]; rfl
    have hw := hsW w (List.mem_cons_self ..)
    have hlr := lt_of_get' hr
    have hR : callF d03 (n + 4) (cond t 3 5) [.list r, .tup [.int (w : Int), .bytes [66, let8 (wf w), let8 (wt w)]]] (some (.fn 12)) H = some (.none, H.set r (rowV (cond t (inR L w) (inL L w)) none)) := by
      cases t with
      | true => exact insR_row (n := n + 1) hr hL.srt hsL (by (first | lia | omega)) hr0 hw
      | false => exact insL_row (n := n + 1) hr hL.srt hsL (by (first | lia | omega)) hr0 hw
    have hL' := laid_snoc hL w
    have hsm : Small (cond t (inR L w) (inL L w)) := fun v hv => by
      have := hL'.perm.mem_iff.mp hv
      rcases List.mem_append.mp this with h | h
      · exact hsL v (hL.perm.mem_iff.mpr h)
      · rw [List.mem_singleton.mp h]; exact hw
    have hln : (cond t (inR L w) (inL L w)).length = L.length + 1 := by
      rw [hL'.perm.length_eq, List.length_append, ← hL.perm.length_eq]; rfl
    obtain ⟨m4', m5', L', h1, h2, h3⟩ := laid_loop (n := n) (t := t) (e := e) (v0 := v0) (v2 := v2) hr0 hrc (W.length + 2) (i + 1) W (H.set r (rowV (cond t (inR L w) (inL L w)) none)) all (W₀ ++ [w]) _ (some (.int (w : Int))) (some (.int ((256 + w : Nat) : Int))) rfl hd' (by rw [List.getElem?_set_ne hrc]; exact hc) (List.getElem?_set_self hlr) hL' hsm (fun v hv => hsW v (List.mem_cons_of_mem _ hv)) (by simp at hlen; (first | lia | omega))
    rw [List.set_set] at h3
    rw [List.append_assoc] at h1
    subst hk
    exact ⟨m4', m5', L', h1, h2, fg_next (k := W.length + 2) (ps := [.int (w : Int), .int ((256 + w : Nat) : Int)]) hc hx rfl (laid_one (ap_way hw) (by (first | lia | omega)) hR) h3⟩

theorem laid_call {n w : Nat} {H : HP} {W : List Nat} {t : Bool} {e : Int} (hw : H[w]? = some (W.map fun (x : Nat) => V.int (x : Int))) (hsW : Small W) (hlen : W.length ≤ 50) (h0 : H.length ≠ 0) :
    ∃ L J, Laid t W L ∧ Small L ∧ callF d03 (n + 5) 13 [.list w, .int (turn t), .int e] none H = some (.list H.length, H ++ rowV L (some e) :: J) := by
  have hlt := lt_of_get' hw
  -- the things to be laid
  have hcomp := comp_map (Φ := callF d03 (n + 4)) (elt := .tpl (.cons (.var 6) (.cons (.bin .add (.lit (.int 256)) (.var 6)) .nil))) (it := .var 0) (ρ := [some (.list w), some (.int (turn t)), some (.int e), some (.list H.length), none, none]) (H := H ++ [[]]) (natV pairV) (var_of rfl) (src_list (app_get hw) (by simp; (first | lia | omega))) (app_get hw) fun x hx => by
    obtain ⟨v, _, rfl⟩ := List.mem_map.mp hx
    have e1 : natV pairV (.int (v : Int)) = pairV v := by simp [natV]
    rw [e1]
    exact tpl_of (es1 (var_of rfl) (es1 (int_of e_lit (var_of rfl) rfl) es0)) (by simp)
  have e1 : (W.map fun (x : Nat) => V.int (x : Int)).map (natV pairV) = W.map pairV := by
    rw [List.map_map]
    refine List.map_congr_left fun v _ => ?_
    simp [natV]
  rw [e1] at hcomp
  have hadd : ev (callF d03 (n + 4)) (.bin .add (.comp (.tpl (.cons (.var 6) (.cons (.bin .add (.lit (.int 256)) (.var 6)) .nil))) 1 false (.var 0) (.lit (.bool true))) (.lst (.cons (.tpl (.cons (.var 2) (.cons (.lit (.int 512)) .nil))) .nil))) [some (.list w), some (.int (turn t)), some (.int e), some (.list H.length), none, none] (H ++ [[]]) =
      some (.list (H.length + 3), H ++ [[], W.map pairV, [lastV e], W.map pairV ++ [lastV e]]) := by
    refine bin_of (r := (.list (H.length + 3), H ++ [[], W.map pairV, [lastV e], W.map pairV ++ [lastV e]])) hcomp (lst_of (es1 (tpl_of (es1 (var_of rfl) (es1 e_lit es0)) (by simp)) es0) (by simp)) ?_
    have g1 : (H ++ [[]] ++ [W.map pairV] ++ [[lastV e]])[(H ++ [[]]).length]? = some (W.map pairV) := app_get get_last
    have g2 : (H ++ [[]] ++ [W.map pairV] ++ [[lastV e]])[(H ++ [[]] ++ [W.map pairV]).length]? = some [lastV e] := get_last
    show bin .add _ _ (H ++ [[]] ++ [W.map pairV] ++ [[lastV e]]) = _
    rw [bin_ll, g1, Option.bind_some, g2, Option.bind_some, if_pos (show lenOk _ = true from decide_eq_true (by simp; (first | lia | omega)))]
    simp
  have gc : (H ++ [[], W.map pairV, [lastV e], W.map pairV ++ [lastV e]])[H.length + 3]? = some (W.map pairV ++ [lastV e]) := by rw [getA]; rfl
  have gr : (H ++ [[], W.map pairV, [lastV e], W.map pairV ++ [lastV e]])[H.length]? = some (rowV [] none) := by rw [← Nat.add_zero H.length, getA]; rfl
  obtain ⟨m4, m5, L, h1, h2, h3⟩ := laid_loop (n := n) (t := t) (e := e) (r := H.length) (c := H.length + 3) (v0 := some (.list w)) (v2 := some (.int e)) h0 (by (first | lia | omega)) ((W.map pairV ++ [lastV e]).length + 1) 0 W _ _ [] [] none none (by simp) rfl gc gr laid_nil (fun _ h => by cases h) hsW (by simp; (first | lia | omega))
  have es : (H ++ [[], W.map pairV, [lastV e], W.map pairV ++ [lastV e]]).set H.length (rowV L (some e)) = H ++ rowV L (some e) :: [W.map pairV, [lastV e], W.map pairV ++ [lastV e]] := by
    rw [List.set_append_right _ _ (Nat.le_refl _)]; simp
  rw [es] at h3
  refine ⟨L, [W.map pairV, [lastV e], W.map pairV ++ [lastV e]], h1, h2, call_of (ρ' := [some (.list w), some (.int (turn t)), some (.int e), some (.list H.length), m4, m5]) (show d03 13 = some f03__law_laid from rfl) rfl ?_⟩
  exact seq_of (asg_of (lst_of es0 (by simp))) (seq_of (fr_of hadd (src_list gc (by simp; (first | lia | omega))) gc h3) (seq_ret (ret_of (var_of rfl))))

noncomputable abbrev iV (L : List Nat) : List V := L.map fun (x : Nat) => V.int (x : Int)

/-! _law_home -/
structure HomeOk (s : Nat) (P : List Nat) (la : Nat → Nat) (lv : List V) : Prop where
  at' : ∀ x ∈ P, lv[x]? = some (.int (la x : Int))
  mem : ∀ x ∈ P, la x ∈ P
  sm : ∀ x ∈ P, x < 1000
theorem stp_mem {s : Nat} {P : List Nat} {la : Nat → Nat} {lv : List V} (h : HomeOk s P la lv) {x : Nat} (hx : x ∈ P) : stp la s x ∈ P := by
  unfold stp
  by_cases e : x = s
  · rw [if_pos e]; exact hx
  · rw [if_neg e]; exact h.mem x hx
theorem itr_mem {s : Nat} {P : List Nat} {la : Nat → Nat} {lv : List V} (h : HomeOk s P la lv) : ∀ (n : Nat) {x : Nat}, x ∈ P → itr (stp la s) n x ∈ P
  | 0, _, hx => hx
  | n + 1, _, hx => itr_mem h n (stp_mem h hx)
noncomputable def homeI : St := .seq (.ite (.cmp .ne (.var 4) (.var 2)) (.seq (.asg 4 (.idx (.var 0) (.var 4))) .skip) .skip) .skip
theorem int_beq {a b : Nat} : ((a : Int) == (b : Int)) = (a == b) := by
  by_cases h : a = b
  · subst h; rw [beq_self_eq_true, beq_self_eq_true]
  · have h2 : ¬ (a : Int) = b := by (first | lia | omega)
    rw [beq_eq_false_iff_ne.mpr h, beq_eq_false_iff_ne.mpr h2]
theorem home_in {Φ : FnT} {H : HP} {b : Nat} {s : Nat} {P : List Nat} {la : Nat → Nat} {lv : List V} {v1 v3 : Option V} (hb : H[b]? = some lv) (h : HomeOk s P la lv) : ∀ (k i : Nat) (x : Nat) (m5 : Option V), k + i = 3 → x ∈ P →
    ∃ m5', forGo [5] false (fun σ => run Φ homeI σ) (.fixed ((List.range (3 - 0)).map fun i => V.int ((0 + i : Nat) : Int))) (k + 1) i ([some (.list b), v1, some (.int (s : Int)), v3, some (.int (x : Int)), m5], H) = some (.next, ([some (.list b), v1, some (.int (s : Int)), v3, some (.int (itr (stp la s) k x : Int)), m5'], H))
  | 0, i, x, m5, hk, hx => ⟨m5, fg_end (xs := (List.range (3 - 0)).map fun i => V.int ((0 + i : Nat) : Int)) rfl (by simp; (first | lia | omega))⟩
  | k + 1, i, x, m5, hk, hx => by
    have hi : ((List.range (3 - 0)).map fun i => V.int ((0 + i : Nat) : Int))[i]? = some (.int ((0 + i : Nat) : Int)) := by rw [List.getElem?_map, List.getElem?_range (by (first | lia | omega))]; rfl
    obtain ⟨m5', ih⟩ := home_in (Φ := Φ) (v1 := v1) (v3 := v3) hb h k (i + 1) (stp la s x) (some (.int ((0 + i : Nat) : Int))) (by (first | lia | omega)) (stp_mem h hx)
    refine ⟨m5', fg_next rfl hi rfl (seq_of ?_ r_skip) ih⟩
    by_cases e : x = s
    · have e1 : stp la s x = x := by unfold stp; rw [if_pos e]
      rw [e1]
      refine ite_f (evB_of' (cmp_of (var_of rfl) (var_of rfl) (t := false) ?_) rfl) r_skip
      rw [ne_ii, int_beq, e]; simp
    · have e1 : stp la s x = la x := by unfold stp; rw [if_neg e]
      rw [e1]
      refine ite_t (evB_of' (cmp_of (var_of rfl) (var_of rfl) (t := true) ?_) rfl) (seq_of (asg_of (idx_of (var_of rfl) (var_of rfl) (getI_at hb (Nat.lt_of_lt_of_le (h.sm x hx) (by decide)) (h.at' x hx)))) r_skip)
      rw [ne_ii, int_beq]; simp [e]
noncomputable def homeB : St := .seq (.asg 4 (.var 3)) (.seq (.fr [5] false (.call (.lit (.bi .range)) (.cons (.lit (.int 3)) .nil)) homeI) (.seq (.ite (.cmp .ne (.var 4) (.var 2)) (.seq (.ret (.lit (.bool false))) .skip) .skip) .skip))
theorem home_turn {Φ : FnT} {H : HP} {b : Nat} {s : Nat} {P : List Nat} {la : Nat → Nat} {lv : List V} {v1 m4 m5 : Option V} (hb : H[b]? = some lv) (h : HomeOk s P la lv) {x : Nat} (hx : x ∈ P) : ∃ m4' m5',
    run Φ homeB ([some (.list b), v1, some (.int (s : Int)), some (.int (x : Int)), m4, m5], H) = if itr (stp la s) 3 x = s then some (.next, ([some (.list b), v1, some (.int (s : Int)), some (.int (x : Int)), m4', m5'], H)) else some (.ret (.bool false), ([some (.list b), v1, some (.int (s : Int)), some (.int (x : Int)), m4', m5'], H)) := by
  obtain ⟨m5', hin⟩ := home_in (Φ := Φ) (v1 := v1) (v3 := some (.int (x : Int))) hb h 3 0 x m5 rfl hx
  refine ⟨some (.int (itr (stp la s) 3 x : Int)), m5', ?_⟩
  refine seq_of (asg_of (var_of rfl)) (seq_of (fr_of (rng_ev (n := 3) rfl (by (first | lia | omega))) (rng_src 0 3 _ (by (first | lia | omega)) (by (first | lia | omega))) rfl hin) ?_)
  by_cases e : itr (stp la s) 3 x = s
  · rw [if_pos e]
    refine seq_of (ite_f (evB_of' (cmp_of (var_of rfl) (var_of rfl) (t := false) ?_) rfl) r_skip) r_skip
    rw [ne_ii, int_beq, e]; simp
  · rw [if_neg e]
    refine seq_ret (ite_t (evB_of' (cmp_of (var_of rfl) (var_of rfl) (t := true) ?_) rfl) (seq_ret (ret_of e_lit)))
    rw [ne_ii, int_beq]; simp [e]
theorem home_loop {Φ : FnT} {H : HP} {b q : Nat} {s : Nat} {P : List Nat} {la : Nat → Nat} {lv : List V} {v1 : Option V} (hb : H[b]? = some lv) (h : HomeOk s P la lv) (hq : H[q]? = some (iV P)) : ∀ (U : List Nat) (i : Nat) (m3 m4 m5 : Option V), P.drop i = U →
    ∃ m3' m4' m5', forGo [3] false (fun σ => run Φ homeB σ) (.lst q) (U.length + 1) i ([some (.list b), v1, some (.int (s : Int)), m3, m4, m5], H) = if ∀ x ∈ U, itr (stp la s) 3 x = s then some (.next, ([some (.list b), v1, some (.int (s : Int)), m3', m4', m5'], H)) else some (.ret (.bool false), ([some (.list b), v1, some (.int (s : Int)), m3', m4', m5'], H))
  | [], i, m3, m4, m5, hd => by
    refine ⟨m3, m4, m5, ?_⟩
    rw [if_pos (fun _ h => nomatch h)]
    refine fg_end (xs := iV P) hq ?_
    have := List.drop_eq_nil_iff.mp hd
    rw [List.getElem?_eq_none_iff]; simpa using this
  | x :: U, i, m3, m4, m5, hd => by
    have hx : P[i]? = some x := by
      have := congrArg (·[0]?) hd
      simpa [List.getElem?_drop] using this
    have hd' : P.drop (i + 1) = U := by rw [← List.drop_drop, hd]; rfl
    have hxm := List.mem_of_getElem? hx
    have hxi : (iV P)[i]? = some (.int (x : Int)) := by rw [List.getElem?_map, hx]; rfl
    obtain ⟨m4', m5', ht⟩ := home_turn (Φ := Φ) (v1 := v1) (m4 := m4) (m5 := m5) hb h hxm
    by_cases e : itr (stp la s) 3 x = s
    · rw [if_pos e] at ht
      obtain ⟨a3, a4, a5, ih⟩ := home_loop (Φ := Φ) (v1 := v1) hb h hq U (i + 1) (some (.int (x : Int))) m4' m5' hd'
      refine ⟨a3, a4, a5, Eq.trans (fg_next (xs := iV P) (k := U.length + 1) ?_ hxi rfl ht ih) ?_⟩
      · exact hq
      by_cases hU : ∀ x ∈ U, itr (stp la s) 3 x = s
      · rw [if_pos hU, if_pos (fun y hy => (List.mem_cons.mp hy).elim (fun e' => e' ▸ e) (hU y))]
      · rw [if_neg hU, if_neg (fun h => hU fun y hy => h y (List.mem_cons_of_mem _ hy))]
    · rw [if_neg e] at ht
      refine ⟨some (.int (x : Int)), m4', m5', Eq.trans (fg_ret (xs := iV P) (k := U.length + 1) ?_ hxi rfl ht) ?_⟩
      · exact hq
      rw [if_neg (fun h => e (h x (List.mem_cons_self ..)))]
theorem home_call {n : Nat} {H : HP} {b q : Nat} {s : Nat} {P : List Nat} {la : Nat → Nat} {lv : List V} (hb : H[b]? = some lv) (h : HomeOk s P la lv) (hq : H[q]? = some (iV P)) (hP : P.length ≤ 1000) :
    callF d03 (n + 1) 15 [.list b, .list q, .int (s : Int)] none H = some (.bool (decide (∀ x ∈ P, itr (stp la s) 3 x = s)), H) := by
  obtain ⟨m3, m4, m5, hl⟩ := home_loop (Φ := callF d03 n) (v1 := some (.list q)) hb h hq P 0 none none none rfl
  have hs := src_list hq (by simpa using hP)
  rw [show P.length + 1 = (iV P).length + 1 by rw [List.length_map]] at hl
  have hl' := hl
  refine call_of (ρ' := [some (.list b), some (.list q), some (.int (s : Int)), m3, m4, m5]) (show d03 15 = some f03__law_home from rfl) rfl ?_
  by_cases e : ∀ x ∈ P, itr (stp la s) 3 x = s
  · rw [if_pos e] at hl'
    rw [decide_eq_true e]
    exact seq_of (fr_of (var_of rfl) hs hq hl') (seq_ret (ret_of e_lit))
  · rw [if_neg e] at hl'
    rw [decide_eq_false e]
    exact seq_ret (fr_of (var_of rfl) hs hq hl')

/-! _law_order -/
theorem rng8 : rangeL 8 0 (-1) = (List.range 8).map fun (i : Nat) => V.int ((8 - i : Nat) : Int) := by rfl
theorem src8 {H : HP} : srcOf (.range 8 0 (-1)) H = some (.fixed ((List.range 8).map fun (i : Nat) => V.int ((8 - i : Nat) : Int))) := by
  show (if (lenOk (rangeL 8 0 (-1)).length && okR 8 && okR 0 && okR (-1) && decide ((-1 : Int) ≠ 0)) = true then some (rangeL 8 0 (-1)) else none).map Src.fixed = _
  rw [rng8, if_pos (by decide)]; rfl
noncomputable def orderB : St := .seq (.exp (.meth .append (.var 2) (.cons (.meth .pop (.var 1) (.cons (.bin .mod (.var 0) (.var 3)) .nil)) .nil))) (.seq (.asg 0 (.bin .div (.var 0) (.var 3))) .skip)
theorem order_loop {Φ : FnT} {p : Nat} (hp0 : p ≠ 0) : ∀ (k i : Nat), k + i = 8 → ∀ (H : HP) (pool O : List Nat) (c : Int) (m3 : Option V), H[p]? = some (iV pool) → H[p + 1]? = some (iV O) → pool.length = k → O.length ≤ i →
    ∃ c' m3' O', (O ++ pool).Perm O' ∧ forGo [3] false (fun σ => run Φ orderB σ) (.fixed ((List.range 8).map fun (i : Nat) => V.int ((8 - i : Nat) : Int))) (k + 1) i ([some (.int c), some (.list p), some (.list (p + 1)), m3], H) = some (.next, ([some (.int c'), some (.list p), some (.list (p + 1)), m3'], (H.set p (iV [])).set (p + 1) (iV O')))
  | 0, i, hi, H, pool, O, c, m3, h1, h2, hl, ho => by
    have := List.eq_nil_of_length_eq_zero hl
    subst this
    have e1 : (H.set p (iV [])).set (p + 1) (iV O) = H := by
      have s1 : H.set p (iV []) = H := by
        have := lt_of_get' h1
        rw [List.getElem?_eq_getElem this] at h1
        rw [← Option.some.inj h1]; simp
      rw [s1]
      have := lt_of_get' h2
      rw [List.getElem?_eq_getElem this] at h2
      rw [← Option.some.inj h2]; simp
    refine ⟨c, m3, O, by rw [List.append_nil], ?_⟩
    rw [e1]
    exact fg_end (xs := (List.range 8).map fun (i : Nat) => V.int ((8 - i : Nat) : Int)) rfl (by simp; (first | lia | omega))
  | k + 1, i, hi, H, pool, O, c, m3, h1, h2, hl, ho => by
    have hx : ((List.range 8).map fun (i : Nat) => V.int ((8 - i : Nat) : Int))[i]? = some (.int ((k + 1 : Nat) : Int)) := by
      rw [List.getElem?_map, List.getElem?_range (by (first | lia | omega))]
      show some (V.int ((8 - i : Nat) : Int)) = _
      rw [show 8 - i = k + 1 by (first | lia | omega)]
    have hpos : (0 : Int) < ((k + 1 : Nat) : Int) := by (first | lia | omega)
    obtain ⟨j, hj⟩ : ∃ j : Nat, c % ((k + 1 : Nat) : Int) = (j : Int) := ⟨(c % ((k + 1 : Nat) : Int)).toNat, by have := Int.emod_nonneg c (Int.ne_of_gt hpos); (first | lia | omega)⟩
    have hjk : j < pool.length := by have := Int.emod_lt_of_pos c hpos; (first | lia | omega)
    have hv : (iV pool)[j]? = some (.int (pool[j] : Int)) := by rw [List.getElem?_map, List.getElem?_eq_getElem hjk]; rfl
    have hpop := pop_list h1 hp0 hv (by simp; (first | lia | omega))
    rw [show (iV pool).eraseIdx j = iV (pool.eraseIdx j) from erase_map ..] at hpop
    have hlt := lt_of_get' h2
    have hO : (H.set p (iV (pool.eraseIdx j)))[p + 1]? = some (iV O) := by rw [List.getElem?_set_ne (by (first | lia | omega))]; exact h2
    have happ := app_list (v := .int (pool[j] : Int)) hO (by (first | lia | omega)) (by simp; (first | lia | omega))
    have e3 : iV O ++ [V.int (pool[j] : Int)] = iV (O ++ [pool[j]]) := by simp
    rw [e3] at happ
    obtain ⟨c', m3', O', hperm, ih⟩ := order_loop (Φ := Φ) hp0 k (i + 1) (by (first | lia | omega)) ((H.set p (iV (pool.eraseIdx j))).set (p + 1) (iV (O ++ [pool[j]]))) (pool.eraseIdx j) (O ++ [pool[j]]) (c / ((k + 1 : Nat) : Int)) (some (.int ((k + 1 : Nat) : Int)))
      (by rw [List.getElem?_set_ne (by (first | lia | omega)), List.getElem?_set_self (lt_of_get' h1)]) (by rw [List.getElem?_set_self (by rw [List.length_set]; exact hlt)]) (by rw [List.length_eraseIdx_of_lt hjk]; (first | lia | omega)) (by simp; (first | lia | omega))
    refine ⟨c', m3', O', ?_, ?_⟩
    · refine List.Perm.trans ?_ hperm
      rw [List.append_assoc]
      refine List.Perm.append_left _ ?_
      have h1 : pool.Perm (pool[j] :: pool.eraseIdx j) := by
        have e : pool = pool.take j ++ pool[j] :: pool.drop (j + 1) := by rw [List.getElem_cons_drop hjk, List.take_append_drop]
        have e2 : pool.eraseIdx j = pool.take j ++ pool.drop (j + 1) := List.eraseIdx_eq_take_drop_succ ..
        rw [e2]
        conv => lhs; rw [e]
        exact List.perm_middle
      exact h1
    · refine fg_next rfl hx rfl (seq_of (exp_of (meth_of (var_of rfl) (es1 (meth_of (var_of rfl) (es1 (int_of (var_of rfl) (var_of rfl) ((mod_p hpos).trans (by rw [hj]))) es0) hpop) es0) happ)) (seq_of (asg_of (int_of (var_of rfl) (var_of rfl) (div_p hpos (by (first | lia | omega))))) r_skip)) ?_
      refine ih.trans ?_
      congr 3
      rw [List.set_comm _ _ (by (first | lia | omega) : p + 1 ≠ p), List.set_set, List.set_set]
theorem list_range {H : HP} : bi .list [.range ((0 : Nat) : Int) ((8 : Nat) : Int) 1] H = some (.list H.length, H ++ [iV (List.range 8)]) := by
  show (rangeV (.range ((0 : Nat) : Int) ((8 : Nat) : Int) 1)).map (fun xs => (V.list H.length, H ++ [xs])) = _
  have : rangeV (.range ((0 : Nat) : Int) ((8 : Nat) : Int) 1) = some (rangeL ((0 : Nat) : Int) ((8 : Nat) : Int) 1) := by
    show (if (lenOk (rangeL ((0 : Nat) : Int) ((8 : Nat) : Int) 1).length && okR ((0 : Nat) : Int) && okR ((8 : Nat) : Int) && okR 1 && decide ((1 : Int) ≠ 0)) = true then some _ else none) = _
    rw [if_pos (by rw [rangeL_nat]; decide)]
  rw [this, rangeL_nat]
  simp [iV]
theorem order_call {n : Nat} {H : HP} {c : Int} (h0 : H.length ≠ 0) : ∃ O : List Nat, (List.range 8).Perm O ∧ callF d03 (n + 1) 11 [.int c] none H = some (.list (H.length + 1), H ++ [[], iV O]) := by
  obtain ⟨c', m3, O, hperm, hl⟩ := order_loop (Φ := callF d03 n) h0 8 0 rfl (H ++ [iV (List.range 8)] ++ [[]]) (List.range 8) [] c none (app_get get_last) (by
    have : (H ++ [iV (List.range 8)]).length = H.length + 1 := by simp
    rw [← this]; exact get_last) (by simp) (by simp)
  refine ⟨O, hperm, call_of (ρ' := [some (.int c'), some (.list H.length), some (.list (H.length + 1)), m3]) (show d03 11 = some f03__law_order from rfl) rfl ?_⟩
  have er : ev (callF d03 n) (.call (.lit (.bi .range)) (.cons (.lit (.int 8)) (.cons (.lit (.int 0)) (.cons (.neg (.lit (.int 1))) .nil)))) [some (.int c), some (.list H.length), some (.list (H ++ [iV (List.range 8)]).length), none] (H ++ [iV (List.range 8)] ++ [[]]) = some (.range 8 0 (-1), H ++ [iV (List.range 8)] ++ [[]]) := by
    refine bi_of (es1 e_lit (es1 e_lit (es1 (neg_of e_lit) es0))) ?_
    rw [bi_range]
    show rng 8 0 (-1) _ = _
    unfold rng
    rw [if_pos (by decide)]
  have el : (H ++ [iV (List.range 8)]).length = H.length + 1 := by simp
  have es : ((H ++ [iV (List.range 8)] ++ [[]]).set H.length (iV [])).set (H.length + 1) (iV O) = H ++ [[], iV O] := by
    rw [List.append_assoc, List.set_append_right _ _ (Nat.le_refl _), List.set_append_right _ _ (by (first | lia | omega))]
    simp
  rw [es] at hl
  rw [el] at er
  refine seq_of (asg_of (bi_of (es1 (rng_ev (n := 8) rfl (by (first | lia | omega))) es0) list_range)) (seq_of (asg_of (lst_of es0 (by simp))) ?_)
  rw [el]
  exact seq_of (fr_of er src8 rfl hl) (seq_ret (ret_of (var_of rfl)))


/-! _law_cells -/
noncomputable def celS : St := .seq (.aug (.var 1) (.bin .mod (.var 2) (.lit (.int 3))) .add (.idx (.var 0) (.var 2))) .skip
noncomputable def celP (X : List V) (k : Nat) (σ : Cfg) : Prop := ∃ (C : List Int) (m : Option V), C.length = 3 ∧ σ = ([some (.list 0), some (.list 1), m], [X, C.map .int])
theorem cells_body {Φ : FnT} {X : List Int} (hx : X.length ≤ 63) (k : Nat) (x : V) (σ : Cfg) (hxk : ((List.range (X.length - 0)).map fun i => V.int ((0 + i : Nat) : Int))[k]? = some x) (hp : celP (X.map .int) k σ) : ∃ ps σ', parts false [2].length x σ.2 = some ps ∧
      run Φ celS (setAll σ.1 [2] ps, σ.2) = some (.next, σ') ∧ celP (X.map .int) (k + 1) σ' := by
  obtain ⟨C, m, hC, rfl⟩ := hp
  rw [List.getElem?_map] at hxk
  cases hr : (List.range (X.length - 0))[k]? with
  | none => rw [hr] at hxk; cases hxk
  | some i =>
    rw [hr] at hxk; cases hxk
    have hi : i = k ∧ k < X.length := by
      have h1 := lt_of_get' hr
      rw [List.getElem?_eq_getElem h1] at hr
      simp at hr h1
      exact ⟨hr.symm, h1⟩
    obtain ⟨rfl, hk⟩ := hi
    simp only [Nat.zero_add]
    obtain ⟨y, hy⟩ : ∃ y, X[i]? = some y := ⟨_, List.getElem?_eq_getElem hk⟩
    obtain ⟨c, hc⟩ : ∃ c, C[i % 3]? = some c := ⟨_, List.getElem?_eq_getElem (by (first | lia | omega))⟩
    have hg : getI (.list 0) (.int (i : Int)) [X.map .int, C.map .int] = some (.int y) := getI_at (xs := X.map .int) rfl (by (first | lia | omega)) (by simp [hy])
    have hg1 : getI (.list 1) (.int ((i % 3 : Nat) : Int)) [X.map .int, C.map .int] = some (.int c) := getI_at (xs := C.map .int) rfl (by (first | lia | omega)) (by simp [hc])
    have hm : binI .mod (i : Int) 3 = some ((i % 3 : Nat) : Int) := mod_p (by decide)
    refine ⟨[.int (i : Int)], ([some (.list 0), some (.list 1), some (.int (i : Int))], [X.map .int, (C.set (i % 3) (c + y)).map .int]), rfl, ?_, C.set (i % 3) (c + y), _, by rw [List.length_set]; exact hC, rfl⟩
    have := r_aug (Φ := Φ) (o := .var 1) (i := .bin .mod (.var 2) (.lit (.int 3))) (e := .idx (.var 0) (.var 2)) (ρ := [some (.list 0), some (.list 1), some (.int (i : Int))]) (H := [X.map .int, C.map .int]) (j := 1) (var_of rfl) (int_of (var_of rfl) e_lit hm) hg1 (idx_of (var_of rfl) (var_of rfl) hg) (xs := C.map .int) rfl (by (first | lia | omega)) (by rw [List.length_map]; (first | lia | omega)) (by rw [List.length_map]; (first | lia | omega)) (by decide)
    rw [Int.toNat_natCast, ← List.map_set] at this
    exact seq_of this r_skip
theorem cells_call {n : Nat} {X : List Int} (hx : X.length ≤ 63) : ∃ c0 c1 c2, callF d03 (n + 1) 8 [.list 0] none [X.map .int] = some (.list 1, [X.map .int, [.int c0, .int c1, .int c2]]) := by
  have hl : lenOk X.length = true := by simp [lenOk]; (first | lia | omega)
  obtain ⟨σ', h1, C, m, hC, rfl⟩ := for_run (Φ := callF d03 n) (is := [2]) (tp := false) (it := .call (.lit (.bi .range)) (.cons (.call (.lit (.bi .len)) (.cons (.var 0) .nil)) .nil)) (b := celS)
    (ρ := [some (.list 0), some (.list 1), none]) (H := [X.map .int, [34596, -1, 18].map .int]) (H' := [X.map .int, [34596, -1, 18].map .int]) (x := .range ((0 : Nat) : Int) (X.length : Int) 1)
    (by
      have := len_l (H := [X.map .int, [34596, -1, 18].map .int]) (i := 0) (xs := X.map .int) rfl (by simp; (first | lia | omega))
      rw [List.length_map] at this
      exact bi_of (es1 (bi_of (es1 (var_of rfl) es0) this) es0) (range_1 (by (first | lia | omega)))) (rng_src 0 X.length _ (by (first | lia | omega)) (by (first | lia | omega))) (celP (X.map .int)) (fun k σ _ => rfl) ⟨[34596, -1, 18], none, rfl, rfl⟩ (cells_body hx)
  obtain ⟨c0, c1, c2, rfl⟩ : ∃ c0 c1 c2, C = [c0, c1, c2] := by
    match C, hC with
    | [a, b, c], _ => exact ⟨a, b, c, rfl⟩
  refine ⟨c0, c1, c2, call_of (ρ' := [some (.list 0), some (.list 1), m]) (show d03 8 = some f03__law_cells from rfl) rfl ?_⟩
  exact seq_of (asg_of (lst_of (es1 e_lit (es1 (neg_of e_lit) (es1 e_lit es0))) (by simp))) (seq_of h1 (seq_ret (ret_of (var_of rfl))))

/-! _law_number -/
noncomputable def numS : St := .seq (.asg 1 (.bin .add (.bin .mul (.lit (.int 16)) (.var 1)) (.var 2))) .skip
theorem num_loop {Φ : FnT} {H : HP} {j : Nat} {ds : List Nat} {v0 : Option V} (hj : H[j]? = some (iV ds)) : ∀ (U : List Nat) (i acc : Nat) (m : Option V), ds.drop i = U →
    ∃ m', forGo [2] false (fun σ => run Φ numS σ) (.lst j) (U.length + 1) i ([v0, some (.int (acc : Int)), m], H) = some (.next, ([v0, some (.int ((U.foldl (fun v d => 16 * v + d) acc : Nat) : Int)), m'], H))
  | [], i, acc, m, hd => by
    refine ⟨m, fg_end (xs := iV ds) hj ?_⟩
    have := List.drop_eq_nil_iff.mp hd
    rw [List.getElem?_eq_none_iff]; simpa using this
  | x :: U, i, acc, m, hd => by
    have hx : ds[i]? = some x := by
      have := congrArg (·[0]?) hd
      simpa [List.getElem?_drop] using this
    have hd' : ds.drop (i + 1) = U := by rw [← List.drop_drop, hd]; rfl
    have hxi : (iV ds)[i]? = some (.int (x : Int)) := by rw [List.getElem?_map, hx]; rfl
    obtain ⟨m', ih⟩ := num_loop (Φ := Φ) (v0 := v0) hj U (i + 1) (16 * acc + x) (some (.int (x : Int))) hd'
    refine ⟨m', Eq.trans (fg_next (xs := iV ds) (k := U.length + 1) ?_ hxi rfl (seq_of (asg_of (int_of (int_of e_lit (var_of rfl) (mul_s (by decide))) (var_of rfl) rfl)) r_skip) ih) rfl⟩
    exact hj
theorem number_call {n : Nat} {H : HP} {j : Nat} {ds : List Nat} (hj : H[j]? = some (iV ds)) (hl : ds.length ≤ 1000) : callF d03 (n + 1) 9 [.list j] none H = some (.int (dval ds : Int), H) := by
  obtain ⟨m, h⟩ := num_loop (Φ := callF d03 n) (v0 := some (.list j)) hj ds 0 0 none rfl
  rw [show ds.length + 1 = (iV ds).length + 1 by rw [List.length_map]] at h
  exact call_of (ρ' := [some (.list j), some (.int (dval ds : Int)), m]) (show d03 9 = some f03__law_number from rfl) rfl (seq_of (asg_of e_lit) (seq_of (fr_of (var_of rfl) (src_list hj (by simpa using hl)) hj h) (seq_ret (ret_of (var_of rfl)))))

/-! _law_letters -/
theorem dg_ring : ∀ (k : Nat) (R : List Nat), R.length = k → (∀ x ∈ R, x < 16) → (dg (dval R)).length ≤ R.length ∧ List.replicate (R.length - (dg (dval R)).length) 0 ++ dg (dval R) = R
  | 0, R, h, hR => by
    have := List.eq_nil_of_length_eq_zero h
    subst this
    have : dval [] = 0 := rfl
    rw [this, dg_zero]; simp
  | k + 1, R, h, hR => by
    have hne : R ≠ [] := fun e => by rw [e] at h; cases h
    obtain ⟨S, d, rfl⟩ : ∃ S d, R = S ++ [d] := ⟨_, _, (List.dropLast_concat_getLast hne).symm⟩
    have hS : S.length = k := by simpa using h
    have hd : d < 16 := hR d (by simp)
    obtain ⟨i1, i2⟩ := dg_ring k S hS fun x hx => hR x (List.mem_append_left _ hx)
    rw [dval_snoc]
    by_cases e : 16 * dval S + d = 0
    · have e1 : dval S = 0 := by (first | lia | omega)
      have e2 : d = 0 := by (first | lia | omega)
      rw [e, dg_zero]
      rw [e1, dg_zero] at i2
      simp only [List.length_nil, Nat.sub_zero, List.append_nil] at i2 ⊢
      refine ⟨Nat.zero_le _, ?_⟩
      rw [List.length_append, List.length_singleton, List.replicate_succ', i2, e2]
    · have e1 : (16 * dval S + d) / 16 = dval S := by (first | lia | omega)
      have e2 : (16 * dval S + d) % 16 = d := by (first | lia | omega)
      rw [dg_pos e, e1, e2, List.length_append, List.length_append, List.length_singleton]
      refine ⟨by (first | lia | omega), ?_⟩
      rw [Nat.add_sub_add_right, ← List.append_assoc, i2]
theorem letters_call {n : Nat} {H : HP} {R : List Nat} {i : Int} (hi : i.natAbs = dval R) (hl : R.length = 8) (hR : ∀ x ∈ R, x < 16) : ∃ X Y Z, callF d03 (n + 2) 10 [.int i] none H = some (.list (H.length + 3), H ++ [X, Y, Z, iV R]) := by
  obtain ⟨h1, h2⟩ := dg_ring 8 R hl hR
  have hal : (ap (dval R)).length = (dg (dval R)).length := by rw [ap, List.length_map]
  have hb : dval R < 16 ^ 100 := by
    have h8 : dval R < 16 ^ 8 := by
      have := dg_len
      have : ∀ (k : Nat) (S : List Nat), S.length = k → (∀ x ∈ S, x < 16) → dval S < 16 ^ k := by
        intro k
        induction k with
        | zero => intro S h _; have := List.eq_nil_of_length_eq_zero h; subst this; decide
        | succ k ih =>
          intro S h hS
          have hne : S ≠ [] := fun e => by rw [e] at h; cases h
          obtain ⟨T, d, rfl⟩ : ∃ T d, S = T ++ [d] := ⟨_, _, (List.dropLast_concat_getLast hne).symm⟩
          have := ih T (by simpa using h) fun x hx => hS x (List.mem_append_left _ hx)
          have hd := hS d (by simp)
          rw [dval_snoc, Nat.pow_succ]; (first | lia | omega)
      exact this 8 R hl hR
    exact Nat.lt_of_lt_of_le h8 (Nat.pow_le_pow_right (by decide) (by decide))
  have hap := ap_call (Δ := d03) (n := n) (k := 7) (H := H) (i := i) rfl (Nat.lt_of_lt_of_le (by rw [hi]; exact hb) (Nat.pow_le_pow_right (by decide) (by decide)))
  rw [hi] at hap
  have hlen : bi .len [.bytes (ap (dval R))] H = some (.int ((dg (dval R)).length : Int), H) := by rw [← hal]; exact len_b (by rw [hal]; (first | lia | omega))
  refine ⟨[.int 0], (List.replicate (8 - (dg (dval R)).length) [V.int 0]).flatten, iV (dg (dval R)), call_of (ρ' := [some (.int i), some (.bytes (ap (dval R)))]) (show d03 10 = some f03__law_letters from rfl) rfl ?_⟩
  refine seq_of (asg_of (fn_of (es1 (var_of rfl) es0) hap)) (seq_of (ite_f (or_ff (not_of (bi_of (es1 (var_of rfl) (es1 e_lit es0)) isi_by) rfl) (or_ff' (head_ev rfl hb) (cmp_of (bi_of (es1 (var_of rfl) es0) hlen) e_lit (t := false) ?_))) r_skip) (seq_ret (ret_of ?_)))
  · show some (decide ((8 : Int) < _)) = _
    rw [decide_eq_false (by (first | lia | omega))]
  · have hsub : binI .sub 8 ((dg (dval R)).length : Int) = some ((8 - (dg (dval R)).length : Nat) : Int) := by
      show some _ = _
      congr 1; (first | lia | omega)
    have hmul : bin .mul (.list H.length) (.int ((8 - (dg (dval R)).length : Nat) : Int)) (H ++ [[.int 0]]) = some (.list (H.length + 1), H ++ [[.int 0], (List.replicate (8 - (dg (dval R)).length) [V.int 0]).flatten]) := by
      rw [bin_li, get_last, Option.bind_some, if_pos (by simp; (first | lia | omega))]
      simp
    have hlen' : ∀ K, bi .len [.bytes (ap (dval R))] K = some (.int ((dg (dval R)).length : Int), K) := fun K => by rw [← hal]; exact len_b (by rw [hal]; (first | lia | omega))
    have hcomp := comp_map (Φ := callF d03 (n + 1)) (elt := .bin .sub (.var 2) (.lit (.int 65))) (it := .var 1) (ρ := [some (.int i), some (.bytes (ap (dval R)))]) (H := H ++ [[.int 0], (List.replicate (8 - (dg (dval R)).length) [V.int 0]).flatten]) (src := .fixed ((ap (dval R)).map fun x => .int x.toNat)) (natV fun x => .int ((x : Int) - 65)) (var_of rfl)
      (show (if lenOk (ap (dval R)).length then _ else _) = _ from if_pos (decide_eq_true (by rw [hal]; (first | lia | omega)))) rfl fun x hx => by
        obtain ⟨v, _, rfl⟩ := List.mem_map.mp hx
        exact int_of (var_of rfl) e_lit rfl
    have e1 : ((ap (dval R)).map fun x => V.int (x.toNat : Int)).map (natV fun x => .int ((x : Int) - 65)) = iV (dg (dval R)) := by
      rw [ap_ints, List.map_map]
      refine List.map_congr_left fun d hd => ?_
      show V.int ((((65 + d : Nat) : Int).toNat : Int) - 65) = _
      congr 1; (first | lia | omega)
    rw [e1] at hcomp
    refine bin_of (r := (.list (H.length + 3), H ++ [[.int 0], (List.replicate (8 - (dg (dval R)).length) [V.int 0]).flatten, iV (dg (dval R)), iV R])) (bin_of (lst_of (es1 e_lit es0) (by simp)) (int_of e_lit (bi_of (es1 (var_of rfl) es0) (hlen' _)) hsub) hmul) hcomp ?_
    rw [bin_ll, List.append_assoc, getA]
    show (some (List.replicate (8 - (dg (dval R)).length) [V.int 0]).flatten).bind _ = _
    rw [Option.bind_some]
    have e2 : (H ++ ([[V.int 0], (List.replicate (8 - (dg (dval R)).length) [V.int 0]).flatten] ++ [iV (dg (dval R))]))[(H ++ [[V.int 0], (List.replicate (8 - (dg (dval R)).length) [V.int 0]).flatten]).length]? = some (iV (dg (dval R))) := by rw [← List.append_assoc]; exact get_last
    rw [e2, Option.bind_some]
    have e3 : (List.replicate (8 - (dg (dval R)).length) [V.int 0]).flatten = iV (List.replicate (8 - (dg (dval R)).length) 0) := by
      generalize 8 - (dg (dval R)).length = k
      induction k with
      | zero => rfl
      | succ k ih => rw [List.replicate_succ, List.replicate_succ, List.flatten_cons, ih]; rfl
    have e4 : (List.replicate (8 - (dg (dval R)).length) [V.int 0]).flatten ++ iV (dg (dval R)) = iV R := by
      rw [e3, ← List.map_append]
      rw [hl] at h2
      rw [h2]
    have e5 : lenOk ((List.replicate (8 - (dg (dval R)).length) [V.int 0]).flatten.length + (iV (dg (dval R))).length) = true := by
      rw [← List.length_append, e4, List.length_map, hl]; rfl
    rw [if_pos e5, e4]
    simp

/-! a comprehension whose elements lay new lists -/
theorem grow_go {f : V → HP → Option (Option V × HP)} {g : V → V} {p : V → Bool} {j : Nat} {vs : List V} {H : HP} (hj : H[j]? = some vs) (hf : ∀ x ∈ vs, ∀ J, ∃ J', f x (H ++ J) = some (if p x then some (g x) else none, H ++ (J ++ J'))) :
    ∀ (U : List V) (i : Nat) (J : HP), vs.drop i = U → ∃ J', compGo f (.lst j) (U.length + 1) i (H ++ J) = some ((U.filter p).map g, H ++ (J ++ J'))
  | [], i, J, hd => by
    refine ⟨[], ?_⟩
    have hn : vs[i]? = none := List.getElem?_eq_none_iff.mpr (List.drop_eq_nil_iff.mp hd)
    show ((H ++ J)[j]?).bind _ = _
    rw [app_get hj, Option.bind_some, hn, List.append_nil]; rfl
  | x :: U, i, J, hd => by
    have hx : vs[i]? = some x := by
      have := congrArg (·[0]?) hd
      simpa [List.getElem?_drop] using this
    have hd' : vs.drop (i + 1) = U := by rw [← List.drop_drop, hd]; rfl
    obtain ⟨J1, h1⟩ := hf x (List.mem_of_getElem? hx) J
    obtain ⟨J2, h2⟩ := grow_go hj hf U (i + 1) (J ++ J1) hd'
    refine ⟨J1 ++ J2, ?_⟩
    show ((H ++ J)[j]?).bind _ = _
    rw [app_get hj, Option.bind_some, hx]
    show (f x (H ++ J)).bind _ = _
    rw [h1, Option.bind_some]
    show (compGo f (.lst j) (U.length + 1) (i + 1) (H ++ (J ++ J1))).map _ = _
    rw [h2, Option.map_some, List.filter_cons, List.append_assoc]
    cases p x <;> rfl
theorem comp_grow {Φ : FnT} {elt it cond : Ex} {ρ : Rho} {H : HP} {j : Nat} {x : V} {vs : List V} (g : V → V) (p : V → Bool) (e1 : ev Φ it ρ H = some (x, H)) (e2 : srcOf x H = some (.lst j)) (e3 : H[j]? = some vs)
    (hc : ∀ x ∈ vs, ∀ J, evB Φ cond (ρ ++ [some x]) (H ++ J) = some (p x, H ++ J)) (hf : ∀ x ∈ vs, p x = true → ∀ J, ∃ J', ev Φ elt (ρ ++ [some x]) (H ++ J) = some (g x, H ++ (J ++ J'))) :
    ∃ J, ev Φ (.comp elt 1 false it cond) ρ H = some (.list (H ++ J).length, H ++ J ++ [(vs.filter p).map g]) := by
  obtain ⟨J, h⟩ := grow_go (f := cstp Φ elt 1 false cond ρ) (g := g) (p := p) e3 (fun x hx J => by
    rw [cstp_one, hc x hx J, Option.bind_some]
    cases hb : p x with
    | false => exact ⟨[], by rw [List.append_nil]; rfl⟩
    | true =>
      obtain ⟨J', h⟩ := hf x hx hb J
      exact ⟨J', by rw [h]; rfl⟩) vs 0 [] rfl
  refine ⟨J, ?_⟩
  rw [List.append_nil, List.nil_append] at h
  rw [ev_comp_eq, e1, Option.bind_some, e2, Option.bind_some]
  have : (Src.lst j).fuel H = vs.length + 1 := by show ((H[j]?).getD []).length + 1 = _; rw [e3]; rfl
  show (compGo _ (.lst j) ((Src.lst j).fuel H) 0 H).map _ = _
  rw [this, h]; rfl

theorem xt_of {Φ : FnT} {c a b : Ex} {ρ : Rho} {H H₁ : HP} {r : Option (V × HP)} (h : ev Φ c ρ H = some (.bool true, H₁)) (h2 : ev Φ a ρ H₁ = r) : ev Φ (.ite c a b) ρ H = r := by
  rw [e_ite, h, Option.bind_some]; exact h2
theorem xf_of {Φ : FnT} {c a b : Ex} {ρ : Rho} {H H₁ : HP} {r : Option (V × HP)} (h : ev Φ c ρ H = some (.bool false, H₁)) (h2 : ev Φ b ρ H₁ = r) : ev Φ (.ite c a b) ρ H = r := by
  rw [e_ite, h, Option.bind_some]; exact h2
theorem setI_of {Φ : FnT} {o i e : Ex} {ρ : Rho} {H H₁ H₂ H₃ : HP} {v x y : V} {r : Option (Fl × Cfg)} (h1 : ev Φ e ρ H = some (v, H₁)) (h2 : ev Φ o ρ H₁ = some (x, H₂)) (h3 : ev Φ i ρ H₂ = some (y, H₃)) (h4 : setL ρ x y v H₃ = r) : run Φ (.setI o i e) (ρ, H) = r := by
  rw [r_setI, h1, Option.bind_some, h2, Option.bind_some, h3, Option.bind_some]; exact h4
theorem getI_last {d : Nat} {A : List V} {v : V} {H : HP} (h : H[d]? = some (A ++ [v])) : getI (.list d) (.int (-1)) H = some v := by
  rw [getI_list, h, Option.bind_some]
  unfold getL
  rw [if_neg (by decide), if_pos ⟨by decide, by simp; (first | lia | omega)⟩]
  have : (-1 + ((A ++ [v]).length : Int)).toNat = A.length := by simp; (first | lia | omega)
  rw [this]; simp
noncomputable def la (L : List Nat) (x : Nat) : Nat := wt ((qu L x).getLastD 0)
theorem la_last (L : List Nat) : Last L (la L) := fun x hx => by
  refine ⟨(qu L x).dropLast, (qu L x).getLast hx, (List.dropLast_concat_getLast hx).symm, ?_⟩
  have h := (List.dropLast_concat_getLast hx).symm
  generalize (qu L x).getLast hx = y at *
  unfold la
  rw [h]; simp
theorem bytes_way {v : Nat} (hv : v < 256) {Φ : FnT} {ρ : Rho} {H : HP} (h : ρ[13]? = some (some (.int (v : Int)))) : ∃ J, ev Φ (.tpl (.cons (.var 13) (.cons (.call (.lit (.bi .bytes)) (.cons (.lst (.cons (.lit (.int 66)) (.cons (.bin .add (.lit (.int 65)) (.bin .div (.var 13) (.lit (.int 16)))) (.cons (.bin .add (.lit (.int 65)) (.bin .mod (.var 13) (.lit (.int 16)))) .nil)))) .nil)) .nil))) ρ H = some (encW v, H ++ J) := by
  have hd : binI .div (v : Int) 16 = some ((wf v : Nat) : Int) := div_p (by decide) (by decide)
  have hm : binI .mod (v : Int) 16 = some ((wt v : Nat) : Int) := mod_p (by decide)
  refine ⟨[[V.int ((66 : Nat) : Int), .int ((65 + wf v : Nat) : Int), .int ((65 + wt v : Nat) : Int)]], ?_⟩
  have hb := bytes_bi (H := H ++ [[V.int ((66 : Nat) : Int), .int ((65 + wf v : Nat) : Int), .int ((65 + wt v : Nat) : Int)]]) (id := H.length) (ds := [1, wf v, wt v]) (fun d hd => by
    have := wf_lt hv
    have := wt_lt v
    simp only [List.mem_cons, List.not_mem_nil, or_false] at hd
    rcases hd with rfl | rfl | rfl <;> (first | lia | omega)) (by simp) get_last
  exact tpl_of (es1 (var_of h) (es1 (bi_of (es1 (lst_of (es1 e_lit (es1 (int_of e_lit (int_of (var_of h) e_lit hd) rfl) (es1 (int_of e_lit (int_of (var_of h) e_lit hm) rfl) es0))) (by simp)) es0) hb) es0)) (by simp)
noncomputable def mineE : Ex := .comp (.tpl (.cons (.var 13) (.cons (.call (.lit (.bi .bytes)) (.cons (.lst (.cons (.lit (.int 66)) (.cons (.bin .add (.lit (.int 65)) (.bin .div (.var 13) (.lit (.int 16)))) (.cons (.bin .add (.lit (.int 65)) (.bin .mod (.var 13) (.lit (.int 16)))) .nil)))) .nil)) .nil))) 1 false (.var 0) (.cmp .eq (.bin .div (.var 13) (.lit (.int 16))) (.var 6))
theorem mine_ev {Φ : FnT} {H : HP} {w x : Nat} {W : List Nat} {v1 v2 v3 v4 v5 v7 v8 v9 v10 v11 v12 : Option V} (hw : H[w]? = some (iV W)) (hsW : Small W) (hl : W.length ≤ 50) :
    ∃ J, ev Φ mineE [some (.list w), v1, v2, v3, v4, v5, some (.int (x : Int)), v7, v8, v9, v10, v11, v12] H = some (.list (H ++ J).length, H ++ J ++ [(qu W x).map encW]) := by
  obtain ⟨J, h⟩ := comp_grow (Φ := Φ) (elt := .tpl (.cons (.var 13) (.cons (.call (.lit (.bi .bytes)) (.cons (.lst (.cons (.lit (.int 66)) (.cons (.bin .add (.lit (.int 65)) (.bin .div (.var 13) (.lit (.int 16)))) (.cons (.bin .add (.lit (.int 65)) (.bin .mod (.var 13) (.lit (.int 16)))) .nil)))) .nil)) .nil))) (cond := .cmp .eq (.bin .div (.var 13) (.lit (.int 16))) (.var 6)) (ρ := [some (.list w), v1, v2, v3, v4, v5, some (.int (x : Int)), v7, v8, v9, v10, v11, v12]) (H := H) (natV encW) (natB fun w => wf w == x) (it := .var 0) (var_of rfl) (src_list hw (by simp; (first | lia | omega))) hw
    (fun v hv J => by
      obtain ⟨u, hu, rfl⟩ := List.mem_map.mp hv
      have hd : binI .div (u : Int) 16 = some ((wf u : Nat) : Int) := div_p (by decide) (by decide)
      refine evB_of' (cmp_of (int_of (var_of rfl) e_lit hd) (var_of rfl) eq_ii) ?_
      show some (((wf u : Nat) : Int) == (x : Int)) = _
      rw [int_beq]; rfl)
    (fun v hv _ J => by
      obtain ⟨u, hu, rfl⟩ := List.mem_map.mp hv
      obtain ⟨J', h⟩ := bytes_way (Φ := Φ) (hsW u hu) (ρ := [some (.list w), v1, v2, v3, v4, v5, some (.int (x : Int)), v7, v8, v9, v10, v11, v12] ++ [some (.int (u : Int))]) (H := H ++ J) rfl
      exact ⟨J', by rw [h, List.append_assoc]; rfl⟩)
  refine ⟨J, ?_⟩
  have e1 : ((iV W).filter (natB fun w => wf w == x)).map (natV encW) = (qu W x).map encW := by
    rw [List.filter_map, List.map_map]; rfl
  rw [e1] at h
  exact h

theorem set_mid {α : Type} {A B : List α} {x y : α} : (A ++ x :: B).set A.length y = A ++ y :: B := by
  rw [List.set_append_right _ _ (Nat.le_refl _), Nat.sub_self]; rfl
theorem get_mid {α : Type} {A B : List α} {x : α} : (A ++ x :: B)[A.length]? = some x := by
  rw [List.getElem?_append_right (Nat.le_refl _), Nat.sub_self]; rfl
theorem row_slice {L : List Nat} {e : Int} (hs : SrtN L) (x : Nat) : ((rowV L (some e)).drop (cl L x)).take (cl L (x + 1) - cl L x) = (qu L x).map encW := by
  have h1 := cl_le L x
  have h2 := cl_le L (x + 1)
  unfold rowV
  rw [List.drop_append_of_le_length (by simpa using h1), List.take_append_of_le_length (by simp; (first | lia | omega)), ← List.map_drop, ← List.map_take, qu_slice hs]
theorem eqs_W (l : List Nat) : eqs eq1 (l.map encW) (l.map encW) = some true := eqs_of fun x hx => by
  obtain ⟨w, _, rfl⟩ := List.mem_map.mp hx
  refine eq1_tup fun y hy => ?_
  simp only [List.mem_cons, List.not_mem_nil, or_false] at hy
  rcases hy with rfl | rfl
  · exact eq0_int
  · exact eq0_bytes
noncomputable def hold1 : St := .seq (.asg 7 mineE) (.seq (.asg 8 (.ite (.cmp .eq (.var 2) (.lit (.int 1))) (.var 7) (.sl (.var 7) (.lit .none) (.lit .none) (.neg (.lit (.int 1)))))) (.seq (.setI (.var 5) (.var 6) (.bin .mod (.idx (.idx (.var 8) (.neg (.lit (.int 1)))) (.lit (.int 0))) (.lit (.int 16)))) (.seq (.asg 9 (.callK (.lit (.fn 6)) (.cons (.var 4) (.cons (.bin .add (.bin .add (.bin .mul (.lit (.int 16)) (.lit (.int 66))) (.lit (.int 65))) (.var 6)) .nil)) (.lit (.fn 12)))) (.seq (.ite (.cmp .ne (.sl (.var 4) (.var 9) (.callK (.lit (.fn 4)) (.cons (.var 4) (.cons (.bin .add (.bin .add (.bin .mul (.lit (.int 16)) (.lit (.int 66))) (.lit (.int 65))) (.var 6)) .nil)) (.lit (.fn 12))) (.lit .none)) (.var 8)) (.seq (.ret (.lit (.bool false))) .skip) .skip) .skip))))
noncomputable abbrev R13 (w q : Nat) (t : Bool) (e : Int) (r b : Nat) (m6 m7 m8 m9 m10 m11 m12 : Option V) : Rho := [some (.list w), some (.list q), some (.int (turn t)), some (.int e), some (.list r), some (.list b), m6, m7, m8, m9, m10, m11, m12]
theorem hold_one {n w q r : Nat} {t : Bool} {e : Int} {HB J : HP} {lv : List V} {W L : List Nat} {m7 m8 m9 m10 m11 m12 : Option V} (hw : HB[w]? = some (iV W)) (hr : HB[r]? = some (rowV L (some e))) (hb0 : HB.length ≠ 0) (hL : Laid t W L) (hsW : Small W) (hsL : Small L) (hl : W.length ≤ 50) (hlv : lv.length = 16) {x : Nat} (hx : x < 16) (hq : qu L x ≠ []) :
    ∃ m7' m8' m9' J', run (callF d03 (n + 2)) hold1 (R13 w q t e r HB.length (some (.int (x : Int))) m7 m8 m9 m10 m11 m12, HB ++ lv :: J) = some (.next, (R13 w q t e r HB.length (some (.int (x : Int))) m7' m8' m9' m10 m11 m12, HB ++ lv.set x (.int (la L x : Int)) :: J')) := by
  obtain ⟨J1, h1⟩ := mine_ev (Φ := callF d03 (n + 2)) (H := HB ++ lv :: J) (x := x) (v1 := some (.list q)) (v2 := some (.int (turn t))) (v3 := some (.int e)) (v4 := some (.list r)) (v5 := some (.list HB.length)) (v7 := m7) (v8 := m8) (v9 := m9) (v10 := m10) (v11 := m11) (v12 := m12) (app_get hw) hsW hl
  generalize hM : HB ++ lv :: J ++ J1 = M at h1
  have hLW : L.length = W.length := hL.perm.length_eq
  have hql : (qu L x).length ≤ L.length := List.length_filter_le ..
  have hqw : (qu W x).length ≤ W.length := List.length_filter_le ..
  obtain ⟨d, K, h2, hd, hdb⟩ : ∃ d K, ev (callF d03 (n + 2)) (.ite (.cmp .eq (.var 2) (.lit (.int 1))) (.var 7) (.sl (.var 7) (.lit .none) (.lit .none) (.neg (.lit (.int 1))))) (R13 w q t e r HB.length (some (.int (x : Int))) (some (.list M.length)) m8 m9 m10 m11 m12) (M ++ [(qu W x).map encW]) = some (.list d, HB ++ lv :: K) ∧ (HB ++ lv :: K)[d]? = some ((qu L x).map encW) ∧ d ≠ HB.length := by
    have hM' : HB.length < M.length := by rw [← hM]; simp
    have hque := hL.que x
    cases t with
    | true =>
      have e0 : M ++ [(qu W x).map encW] = HB ++ lv :: (J ++ J1 ++ [(qu W x).map encW]) := by rw [← hM]; simp
      refine ⟨M.length, J ++ J1 ++ [(qu W x).map encW], ?_, ?_, by (first | lia | omega)⟩
      · rw [← e0]
        exact xt_of (cmp_of (var_of rfl) e_lit eq_ii) (var_of rfl)
      · rw [← e0, get_last]
        rw [show qu L x = qu W x from hque]
    | false =>
      have e0 : M ++ [(qu W x).map encW] ++ [((qu W x).map encW).reverse] = HB ++ lv :: (J ++ J1 ++ [(qu W x).map encW] ++ [((qu W x).map encW).reverse]) := by rw [← hM]; simp
      refine ⟨(M ++ [(qu W x).map encW]).length, J ++ J1 ++ [(qu W x).map encW] ++ [((qu W x).map encW).reverse], ?_, ?_, by simp; (first | lia | omega)⟩
      · rw [← e0]
        exact xf_of (cmp_of (var_of rfl) e_lit eq_ii) (sl_of (var_of rfl) e_lit e_lit (neg_of e_lit) (slV_rev get_last (by simp; (first | lia | omega))))
      · rw [← e0, get_last]
        rw [show qu L x = (qu W x).reverse from hque, List.map_reverse]
  obtain ⟨A, y, hA, hy⟩ := la_last L x hq
  have hdlt := lt_of_get' hd
  have hm : binI .mod (y : Int) 16 = some ((la L x : Nat) : Int) := by rw [hy]; exact mod_p (by decide)
  have hg : getI (.list d) (.int (-1)) (HB ++ lv :: K) = some (encW y) := getI_last (A := A.map encW) (by rw [hd, hA, List.map_append]; rfl)
  -- the heap after the store
  have hst : setL (R13 w q t e r HB.length (some (.int (x : Int))) (some (.list M.length)) (some (.list d)) m9 m10 m11 m12) (.list HB.length) (.int (x : Int)) (.int (la L x : Int)) (HB ++ lv :: K) = some (.next, (R13 w q t e r HB.length (some (.int (x : Int))) (some (.list M.length)) (some (.list d)) m9 m10 m11 m12, HB ++ lv.set x (.int (la L x : Int)) :: K)) := by
    have := setL_of (ρ := R13 w q t e r HB.length (some (.int (x : Int))) (some (.list M.length)) (some (.list d)) m9 m10 m11 m12) (H := HB ++ lv :: K) (k := (x : Int)) (v := .int (la L x : Int)) get_mid (Int.natCast_nonneg x) (by (first | lia | omega)) (by (first | lia | omega)) hb0
    rw [set_mid] at this
    exact this
  have hd2 : (HB ++ lv.set x (.int (la L x : Int)) :: K)[d]? = some ((qu L x).map encW) := by
    rw [← set_mid (x := lv), List.getElem?_set_ne (Ne.symm hdb)]; exact hd
  have hbl := bisL_row (n := n) (a := r) (H := HB ++ lv.set x (.int (la L x : Int)) :: K) (app_get hr) hL.srt hsL (by (first | lia | omega)) (Nat.le_of_lt hx)
  have hbr := bisR_row (n := n) (a := r) (H := HB ++ lv.set x (.int (la L x : Int)) :: K) (app_get hr) hL.srt hsL (by (first | lia | omega)) hx
  have hsl := slV_l (H := HB ++ lv.set x (.int (la L x : Int)) :: K) (i := r) (app_get hr) (cut_nn (a := cl L x) (b := cl L (x + 1))) (by simp [rowV, tlV]; (first | lia | omega))
  rw [row_slice hL.srt x] at hsl
  have heq := (eqL_same (H := HB ++ lv.set x (.int (la L x : Int)) :: K ++ [(qu L x).map encW]) (i := (HB ++ lv.set x (.int (la L x : Int)) :: K).length) (j := d) get_last (app_get hd2) rfl (by have := lt_of_get' hd2; (first | lia | omega))).trans (eqs_W _)
  refine ⟨some (.list M.length), some (.list d), some (.int (cl L x : Int)), K ++ [(qu L x).map encW], ?_⟩
  refine seq_of (asg_of h1) (seq_of (asg_of h2) (seq_of (setI_of (int_of (idx_of (idx_of (var_of rfl) (neg_of e_lit) hg) e_lit getI_tup0) e_lit hm) (var_of rfl) (var_of rfl) hst) (seq_of (asg_of (fnK_of (es1 (var_of rfl) (es1 (key_ev rfl) es0)) e_lit hbl)) (seq_of (ite_f (evB_of' (cmp_of (sl_of (var_of rfl) (var_of rfl) (fnK_of (es1 (var_of rfl) (es1 (key_ev rfl) es0)) e_lit hbr) e_lit hsl) (var_of rfl) (cmp_ne heq)) rfl) r_skip) ?_))))
  refine r_skip.trans ?_
  congr 3
  simp

theorem hold_loop1 {n w q r : Nat} {t : Bool} {e : Int} {HB : HP} {W L P : List Nat} {m10 m11 m12 : Option V} (hw : HB[w]? = some (iV W)) (hq : HB[q]? = some (iV P)) (hr : HB[r]? = some (rowV L (some e))) (hb0 : HB.length ≠ 0) (hL : Laid t W L) (hsW : Small W) (hsL : Small L) (hl : W.length ≤ 50) (hP : ∀ x ∈ P, x < 16 ∧ qu L x ≠ []) :
    ∀ (U : List Nat) (i : Nat) (lv : List V) (J : HP) (m6 m7 m8 m9 : Option V), P.drop i = U → lv.length = 16 → (∀ x, x ∈ P → x ∉ U → lv[x]? = some (.int (la L x : Int))) →
    ∃ lv' J' m6' m7' m8' m9', lv'.length = 16 ∧ (∀ x ∈ P, lv'[x]? = some (.int (la L x : Int))) ∧ forGo [6] false (fun σ => run (callF d03 (n + 2)) hold1 σ) (.lst q) (U.length + 1) i (R13 w q t e r HB.length m6 m7 m8 m9 m10 m11 m12, HB ++ lv :: J) = some (.next, (R13 w q t e r HB.length m6' m7' m8' m9' m10 m11 m12, HB ++ lv' :: J'))
  | [], i, lv, J, m6, m7, m8, m9, hd, hlv, hla => by
    refine ⟨lv, J, m6, m7, m8, m9, hlv, fun x hx => hla x hx (by simp), fg_end (xs := iV P) (app_get hq) ?_⟩
    have := List.drop_eq_nil_iff.mp hd
    rw [List.getElem?_eq_none_iff]; simpa using this
  | x :: U, i, lv, J, m6, m7, m8, m9, hd, hlv, hla => by
    have hx : P[i]? = some x := by
      have := congrArg (·[0]?) hd
      simpa [List.getElem?_drop] using this
    have hd' : P.drop (i + 1) = U := by rw [← List.drop_drop, hd]; rfl
    have hxm := List.mem_of_getElem? hx
    have hxi : (iV P)[i]? = some (.int (x : Int)) := by rw [List.getElem?_map, hx]; rfl
    obtain ⟨h16, hqx⟩ := hP x hxm
    obtain ⟨m7', m8', m9', J1, h1⟩ := hold_one (n := n) (q := q) (J := J) (lv := lv) (m7 := m7) (m8 := m8) (m9 := m9) (m10 := m10) (m11 := m11) (m12 := m12) hw hr hb0 hL hsW hsL hl hlv h16 hqx
    obtain ⟨lv', J', a6, a7, a8, a9, g1, g2, g3⟩ := hold_loop1 (n := n) (m10 := m10) (m11 := m11) (m12 := m12) hw hq hr hb0 hL hsW hsL hl hP U (i + 1) (lv.set x (.int (la L x : Int))) J1 (some (.int (x : Int))) m7' m8' m9' hd' (by rw [List.length_set]; exact hlv) fun y hy hyU => by
      by_cases e : y = x
      · subst e; rw [List.getElem?_set_self (by (first | lia | omega))]
      · rw [List.getElem?_set_ne (Ne.symm e)]
        exact hla y hy fun h => (List.mem_cons.mp h).elim e hyU
    refine ⟨lv', J', a6, a7, a8, a9, g1, g2, Eq.trans (fg_next (xs := iV P) (k := U.length + 1) ?_ hxi rfl h1 g3) rfl⟩
    exact app_get hq

/-- a ride that comes home -/
theorem gone_ok {n : Nat} {K J : HP} {L : List Nat} {h : Nat} {e : Int} (t : Bool) (hK : K.length ≠ 0) (hs : SrtN L) (hL : Small L) (hl : L.length < 9) (hb : bal L) (hh : h < 16) (he : 256 ≤ e) (hq : qu L h ≠ []) :
    ∃ T L' J', Went L h T L' h ∧ qu L' h = [] ∧ bal L' ∧ L'.length < L.length ∧ Small L' ∧ callF d03 (n + 3) 14 [.list K.length, .int (h : Int), .int (turn t)] none (K ++ rowV L (some e) :: J) = some (.tup [.list (K ++ rowV L (some e) :: J).length, .bool true], K ++ rowV L' (some e) :: J') := by
  have g := goF_went 9 L h hs
  have hstk := goF_stuck 9 L h hs hl
  obtain ⟨hh', hb'⟩ := went_home hb g hstk
  have hT : (goF 9 L h).1 ≠ [] := fun e0 => by
    have hp := g.path
    have hqe := g.que h
    rw [e0] at hqe
    rw [hh'] at hstk
    rw [hstk] at hqe
    exact hq hqe
  have hc := gone_call (n := n) (a := K.length) (H := K ++ rowV L (some e) :: J) get_mid hs hL hl hh (turn_or t) he hK hT hh'
  rw [set_mid] at hc
  rw [hh'] at g hstk
  have hlen := g.perm.length_eq
  rw [List.length_append] at hlen
  have hTl : 0 < (goF 9 L h).1.length := List.length_pos_iff.mpr hT
  refine ⟨_, (goF 9 L h).2.1, J ++ [((goF 9 L h).1.map wf).map fun (x : Nat) => V.int (x : Int)] ++ [[]], g, hstk, hb', by (first | lia | omega), fun v hv => hL v (g.perm.mem_iff.mpr (List.mem_append_right _ hv)), ?_⟩
  rw [hc]; simp

noncomputable def leftT : Ex := .cmp .is (.call (.lit (.fn 0)) (.cons (.idx (.idx (.var 11) (.lit (.int 0))) (.lit (.int 0))) .nil)) (.lit (.bool true))
noncomputable def leftB : St := .seq (.ite (.not (.idx (.call (.lit (.fn 14)) (.cons (.var 11) (.cons (.bin .div (.idx (.idx (.var 11) (.lit (.int 0))) (.lit (.int 0))) (.lit (.int 16))) (.cons (.var 2) .nil)))) (.lit (.int 1)))) (.seq (.ret (.lit (.bool false))) .skip) .skip) .skip
theorem left_loop {n w q r b : Nat} {t : Bool} {e : Int} {K : HP} {m6 m7 m8 m9 m10 m12 : Option V} (hK : K.length ≠ 0) (he : 256 ≤ e) : ∀ (k : Nat) (L : List Nat) (J : HP), L.length ≤ k → L.length < 9 → SrtN L → Small L → bal L →
    ∃ J', whileGo (fun σ => evB (callF d03 (n + 3)) leftT σ.1 σ.2) (fun σ => run (callF d03 (n + 3)) leftB σ) (k + 1) (R13 w q t e r b m6 m7 m8 m9 m10 (some (.list K.length)) m12, K ++ rowV L (some e) :: J) = some (.next, (R13 w q t e r b m6 m7 m8 m9 m10 (some (.list K.length)) m12, K ++ rowV [] (some e) :: J'))
  | k, [], J, hk, hl, hs, hL, hb => by
    refine ⟨J, while_end ?_⟩
    have ht := term_call (Δ := d03) (n := n + 2) (k := 0) (H := K ++ rowV [] (some e) :: J) (i := e) rfl
    rw [decide_eq_false (by (first | lia | omega))] at ht
    exact evB_of' (cmp_of (fn_of (es1 (idx_of (idx_of (var_of rfl) e_lit (getI_lst0 get_mid)) e_lit getI_tup0) es0) ht) e_lit is_bb) rfl
  | 0, x :: L, J, hk, _, _, _, _ => by simp at hk
  | k + 1, x :: L, J, hk, hl, hs, hL, hb => by
    have hx := hL x (List.mem_cons_self ..)
    have ht := term_call (Δ := d03) (n := n + 2) (k := 0) (H := K ++ rowV (x :: L) (some e) :: J) (i := (x : Int)) rfl
    rw [decide_eq_true (by (first | lia | omega))] at ht
    have hd : binI .div (x : Int) 16 = some ((wf x : Nat) : Int) := div_p (by decide) (by decide)
    obtain ⟨T, L', J1, g1, g2, g3, g4, g5, g6⟩ := gone_ok (n := n) (J := J) t hK hs hL hl hb (wf_lt hx) he (h := wf x) (by rw [qu_cons, if_pos rfl]; simp)
    obtain ⟨J', ih⟩ := left_loop (n := n) (w := w) (q := q) (r := r) (b := b) (t := t) (m6 := m6) (m7 := m7) (m8 := m8) (m9 := m9) (m10 := m10) (m12 := m12) hK he k L' J1 (by (first | lia | omega)) (by (first | lia | omega)) g1.srt g5 g3
    refine ⟨J', while_step (H := K ++ rowV (x :: L) (some e) :: J) ?_ ?_ ih⟩
    · exact evB_of' (cmp_of (fn_of (es1 (idx_of (idx_of (var_of rfl) e_lit (getI_lst0 get_mid)) e_lit getI_tup0) es0) ht) e_lit is_bb) rfl
    · exact seq_of (ite_f (evB_of' (not_of (idx_of (fn_of (es1 (var_of rfl) (es1 (int_of (idx_of (idx_of (var_of rfl) e_lit (getI_lst0 get_mid)) e_lit getI_tup0) e_lit hd) (es1 (var_of rfl) es0))) g6) e_lit getI_tup1) rfl) rfl) r_skip) r_skip

theorem list_copy {i : Nat} {xs : List V} {H : HP} (h : H[i]? = some xs) (hl : xs.length ≤ 1048576) : bi .list [.list i] H = some (.list H.length, H ++ [xs]) := by
  show ((H[i]?).bind fun xs => if lenOk xs.length then some (V.list H.length, H ++ [xs]) else none) = _
  rw [h, Option.bind_some, if_pos (show lenOk xs.length = true from decide_eq_true hl)]
noncomputable def hold2 : St := .seq (.asg 11 (.call (.lit (.bi .list)) (.cons (.var 4) .nil))) (.seq (.asg 12 (.idx (.call (.lit (.fn 14)) (.cons (.var 11) (.cons (.var 10) (.cons (.var 2) .nil)))) (.lit (.int 1)))) (.seq (.ite (.or (.not (.var 12)) (.cmp .isn (.call (.lit (.fn 1)) (.cons (.idx (.idx (.var 11) (.lit (.int 0))) (.lit (.int 0))) .nil)) (.call (.lit (.fn 15)) (.cons (.var 5) (.cons (.var 1) (.cons (.var 10) .nil)))))) (.seq (.ret (.lit (.bool false))) .skip) .skip) (.seq (.whl leftT leftB) (.seq (.ite (.cmp .ne (.var 11) (.lst (.cons (.tpl (.cons (.var 3) (.cons (.lit (.bytes [67, 65, 65])) .nil))) .nil))) (.seq (.ret (.lit (.bool false))) .skip) .skip) .skip))))
theorem hold_two {n w q r b : Nat} {t : Bool} {e : Int} {K : HP} {L P : List Nat} {lv : List V} {m6 m7 m8 m9 m11 m12 : Option V} (hK : K.length ≠ 0) (he : 256 ≤ e) (hr : K[r]? = some (rowV L (some e))) (hq : K[q]? = some (iV P)) (hb : K[b]? = some lv) (hla : ∀ x ∈ P, lv[x]? = some (.int (la L x : Int)))
    (hs : SrtN L) (hL : Small L) (hl : L.length < 9) (hbal : bal L) (hP : ∀ x, x ∈ P ↔ qu L x ≠ []) (h4 : P.length ≤ 4) {s : Nat} (hsP : s ∈ P) :
    ∃ m11' m12' J, run (callF d03 (n + 3)) hold2 (R13 w q t e r b m6 m7 m8 m9 (some (.int (s : Int))) m11 m12, K) = some (.next, (R13 w q t e r b m6 m7 m8 m9 (some (.int (s : Int))) m11' m12', K ++ J)) := by
  have h16 : ∀ x ∈ P, x < 16 := fun x hx => by
    obtain ⟨v, hv⟩ := List.exists_mem_of_ne_nil _ ((hP x).mp hx)
    obtain ⟨h1, h2⟩ := mem_qu.mp hv
    have := wf_lt (hL v h1); (first | lia | omega)
  have hho : HomeOk s P (la L) lv := ⟨hla, fun x hx => by
    obtain ⟨A, y, h1, h2⟩ := la_last L x ((hP x).mp hx)
    rw [h2]
    have hy : y ∈ qu L x := by rw [h1]; simp
    exact (hP _).mpr (bal_out hbal (mem_qu.mp hy).1), fun x hx => by have := h16 x hx; (first | lia | omega)⟩
  obtain ⟨T, L', J1, g1, g2, g3, g4, g5, g6⟩ := gone_ok (n := n) (K := K) (J := []) (h := s) (e := e) t hK hs hL hl hbal (h16 s hsP) he ((hP s).mp hsP)
  have hiff := home_iff g3 g1 g2 (la_last L) hP h4 hsP
  have hhome := home_call (n := n + 2) (H := K ++ rowV L' (some e) :: J1) (app_get hb) hho (app_get hq) (by (first | lia | omega))
  -- the head of what is left
  obtain ⟨z, zr, ys, hz, hzn⟩ : ∃ (z : Int) (zr ys : List V), (K ++ rowV L' (some e) :: J1)[K.length]? = some (.tup (.int z :: zr) :: ys) ∧ decide (256 ≤ z) = decide (∀ x ∈ P, itr (stp (la L) s) 3 x = s) := by
    cases L' with
    | nil => exact ⟨e, [.bytes [67, 65, 65]], [], get_mid, by rw [decide_eq_true he, decide_eq_true (hiff.mp rfl)]⟩
    | cons v L' =>
      have hv := g5 v (List.mem_cons_self ..)
      refine ⟨(v : Int), _, _, get_mid, ?_⟩
      rw [decide_eq_false (by (first | lia | omega)), decide_eq_false fun h => by cases hiff.mpr h]
  have hn := nont_call (Δ := d03) (n := n + 2) (k := 1) (H := K ++ rowV L' (some e) :: J1) (i := z) rfl
  rw [hzn] at hn
  obtain ⟨J2, hwhl⟩ := left_loop (n := n) (w := w) (q := q) (r := r) (b := b) (t := t) (e := e) (K := K) (m6 := m6) (m7 := m7) (m8 := m8) (m9 := m9) (m10 := some (.int (s : Int))) (m12 := some (.bool true)) hK he 199 L' J1 (by (first | lia | omega)) (by (first | lia | omega)) g1.srt g5 g3
  have heq := (eqL_same (H := K ++ rowV [] (some e) :: J2 ++ [[encE e]]) (i := K.length) (j := (K ++ rowV [] (some e) :: J2).length) (app_get get_mid) get_last rfl (by simp)).trans (eqs_of (f := eq1) (xs := [encE e]) fun x hx => by
    rw [List.mem_singleton.mp hx]
    refine eq1_tup fun y hy => ?_
    simp only [List.mem_cons, List.not_mem_nil, or_false] at hy
    rcases hy with rfl | rfl
    · exact eq0_int
    · exact eq0_bytes)
  have hwr : run (callF d03 (n + 3)) (.whl leftT leftB) (R13 w q t e r b m6 m7 m8 m9 (some (.int (s : Int))) (some (.list K.length)) (some (.bool true)), K ++ rowV L' (some e) :: J1) = some (.next, (R13 w q t e r b m6 m7 m8 m9 (some (.int (s : Int))) (some (.list K.length)) (some (.bool true)), K ++ rowV [] (some e) :: J2)) := hwhl
  refine ⟨some (.list K.length), some (.bool true), rowV [] (some e) :: J2 ++ [[encE e]], ?_⟩
  refine seq_of (asg_of (bi_of (es1 (var_of rfl) es0) (list_copy hr (by simp [rowV, tlV]; (first | lia | omega))))) (seq_of (asg_of (idx_of (fn_of (es1 (var_of rfl) (es1 (var_of rfl) (es1 (var_of rfl) es0))) g6) e_lit getI_tup1)) (seq_of (ite_f (or_ff (not_of (t := true) (var_of rfl) rfl) (cmp_of (fn_of (es1 (idx_of (idx_of (var_of rfl) e_lit (getI_lst0 hz)) e_lit getI_tup0) es0) hn) (fn_of (es1 (var_of rfl) (es1 (var_of rfl) (es1 (var_of rfl) es0))) hhome) (t := false) ?_)) r_skip) (seq_of hwr (seq_of (ite_f (evB_of' (cmp_of (var_of rfl) (lst_of (es1 (tpl_of (es1 (var_of rfl) (es1 e_lit es0)) (by simp)) es0) (by simp)) (cmp_ne heq)) rfl) r_skip) ?_))))
  · rw [isn_bb, beq_self_eq_true]; rfl
  · refine r_skip.trans ?_
    rw [List.append_assoc]; rfl

theorem hold_loop2 {n w q r b : Nat} {t : Bool} {e : Int} {L P : List Nat} {lv : List V} {m6 m7 m8 m9 : Option V} (he : 256 ≤ e) (hla : ∀ x ∈ P, lv[x]? = some (.int (la L x : Int)))
    (hs : SrtN L) (hL : Small L) (hl : L.length < 9) (hbal : bal L) (hP : ∀ x, x ∈ P ↔ qu L x ≠ []) (h4 : P.length ≤ 4) :
    ∀ (U : List Nat) (i : Nat) (K : HP) (m10 m11 m12 : Option V), P.drop i = U → K.length ≠ 0 → K[r]? = some (rowV L (some e)) → K[q]? = some (iV P) → K[b]? = some lv →
    ∃ m10' m11' m12' J, forGo [10] false (fun σ => run (callF d03 (n + 3)) hold2 σ) (.lst q) (U.length + 1) i (R13 w q t e r b m6 m7 m8 m9 m10 m11 m12, K) = some (.next, (R13 w q t e r b m6 m7 m8 m9 m10' m11' m12', K ++ J))
  | [], i, K, m10, m11, m12, hd, hK, hr, hq, hb => by
    refine ⟨m10, m11, m12, [], Eq.trans (fg_end (xs := iV P) hq ?_) (by rw [List.append_nil])⟩
    have := List.drop_eq_nil_iff.mp hd
    rw [List.getElem?_eq_none_iff]; simpa using this
  | x :: U, i, K, m10, m11, m12, hd, hK, hr, hq, hb => by
    have hx : P[i]? = some x := by
      have := congrArg (·[0]?) hd
      simpa [List.getElem?_drop] using this
    have hd' : P.drop (i + 1) = U := by rw [← List.drop_drop, hd]; rfl
    have hxm := List.mem_of_getElem? hx
    have hxi : (iV P)[i]? = some (.int (x : Int)) := by rw [List.getElem?_map, hx]; rfl
    obtain ⟨a11, a12, J1, h1⟩ := hold_two (n := n) (w := w) (t := t) (m6 := m6) (m7 := m7) (m8 := m8) (m9 := m9) (m11 := m11) (m12 := m12) hK he hr hq hb hla hs hL hl hbal hP h4 hxm
    obtain ⟨b10, b11, b12, J2, h2⟩ := hold_loop2 (n := n) (w := w) (t := t) (m6 := m6) (m7 := m7) (m8 := m8) (m9 := m9) he hla hs hL hl hbal hP h4 U (i + 1) (K ++ J1) (some (.int (x : Int))) a11 a12 hd' (by rw [List.length_append]; (first | lia | omega)) (app_get hr) (app_get hq) (app_get hb)
    rw [List.append_assoc] at h2
    refine ⟨b10, b11, b12, J1 ++ J2, Eq.trans (fg_next (xs := iV P) (k := U.length + 1) ?_ hxi rfl h1 h2) rfl⟩
    exact hq
theorem holds_call {n w q : Nat} {H : HP} {W P : List Nat} (t : Bool) {e : Int} (hw : H[w]? = some (iV W)) (hq : H[q]? = some (iV P)) (hsW : Small W) (hl : W.length < 9) (hbal : bal W) (hP : ∀ x, x ∈ P ↔ qu W x ≠ []) (h4 : P.length ≤ 4) (he : 256 ≤ e) (h0 : H.length ≠ 0) :
    ∃ J, callF d03 (n + 6) 16 [.list w, .list q, .int (turn t), .int e] none H = some (.bool true, H ++ J) := by
  obtain ⟨L, J0, hL, hsL, hlaid⟩ := laid_call (n := n) (t := t) (e := e) hw hsW (by (first | lia | omega)) h0
  have hLl : L.length = W.length := hL.perm.length_eq
  have hqu : ∀ x, qu W x ≠ [] ↔ qu L x ≠ [] := fun x => by
    have := hL.que x
    cases t with
    | true => rw [show qu L x = qu W x from this]
    | false => rw [show qu L x = (qu W x).reverse from this]; simp
  have hP' : ∀ x, x ∈ P ↔ qu L x ≠ [] := fun x => (hP x).trans (hqu x)
  have hPx : ∀ x ∈ P, x < 16 ∧ qu L x ≠ [] := fun x hx => by
    have h1 := (hP' x).mp hx
    obtain ⟨v, hv⟩ := List.exists_mem_of_ne_nil _ h1
    obtain ⟨g1, g2⟩ := mem_qu.mp hv
    have := wf_lt (hsL v g1)
    exact ⟨by (first | lia | omega), h1⟩
  have hbL : bal L := bal_perm hL.perm hbal
  -- the lists that stand from now on
  generalize hHB : H ++ rowV L (some e) :: J0 ++ [[V.int 16]] = HB at *
  have hrow : HB[H.length]? = some (rowV L (some e)) := by rw [← hHB, List.append_assoc, List.cons_append]; exact get_mid
  have hwB : HB[w]? = some (iV W) := by rw [← hHB, List.append_assoc]; exact app_get hw
  have hqB : HB[q]? = some (iV P) := by rw [← hHB, List.append_assoc]; exact app_get hq
  have hB0 : HB.length ≠ 0 := by rw [← hHB]; simp
  have hmul : bin .mul (.list (H ++ rowV L (some e) :: J0).length) (.int 16) (H ++ rowV L (some e) :: J0 ++ [[V.int 16]]) = some (.list HB.length, HB ++ (List.replicate 16 [V.int 16]).flatten :: []) := by
    rw [bin_li, get_last, Option.bind_some, hHB]; rfl
  obtain ⟨lv, J1, a6, a7, a8, a9, h16, hla, hloop1⟩ := hold_loop1 (n := n + 3) (t := t) (m10 := none) (m11 := none) (m12 := none) hwB hqB hrow hB0 hL hsW hsL (by (first | lia | omega)) hPx P 0 (List.replicate 16 [V.int 16]).flatten [] none none none none rfl rfl (fun x h1 h2 => absurd h1 h2)
  obtain ⟨b10, b11, b12, J2, hloop2⟩ := hold_loop2 (n := n + 2) (w := w) (q := q) (r := H.length) (b := HB.length) (t := t) (e := e) (L := L) (P := P) (lv := lv) (m6 := a6) (m7 := a7) (m8 := a8) (m9 := a9) he hla hL.srt hsL (by (first | lia | omega)) hbL hP' h4 P 0 (HB ++ lv :: J1) none none none rfl (by rw [List.length_append]; (first | lia | omega)) (app_get hrow) (app_get hqB) get_mid
  rw [show P.length + 1 = (iV P).length + 1 by rw [List.length_map]] at hloop1 hloop2
  refine ⟨rowV L (some e) :: J0 ++ [[V.int 16]] ++ (lv :: J1) ++ J2, call_of (ρ' := R13 w q t e H.length HB.length a6 a7 a8 a9 b10 b11 b12) (show d03 16 = some f03__law_holds from rfl) rfl ?_⟩
  have eH : H ++ (rowV L (some e) :: J0 ++ [[V.int 16]] ++ (lv :: J1) ++ J2) = HB ++ lv :: J1 ++ J2 := by rw [← hHB]; simp
  rw [eH]
  exact seq_of (asg_of (fn_of (es1 (var_of rfl) (es1 (var_of rfl) (es1 (var_of rfl) es0))) hlaid)) (seq_of (asg_of (bin_of (lst_of (es1 e_lit es0) (by simp)) e_lit hmul)) (seq_of (fr_of (var_of rfl) (src_list (app_get hqB) (by simp; (first | lia | omega))) (app_get hqB) hloop1) (seq_of (fr_of (var_of rfl) (src_list (app_get hqB) (by simp; (first | lia | omega))) (app_get hqB) hloop2) (seq_ret (ret_of e_lit)))))

noncomputable def nm (c : Int) (i : Nat) : Nat := ((c + (i : Int) * (c / 16 % 8 * 2 + 1)) % 16).toNat
noncomputable def nms (c : Int) : List Nat := (List.range 4).map (nm c)
noncomputable def ix (c : Int) (i : Nat) : Nat := (c / 4 ^ i % 4).toNat
noncomputable def rng3 (c0 c2 : Int) : List Nat := (List.range 8).map fun i => (nms c2).getD (ix c0 i) 0
theorem nm_lt (c : Int) (i : Nat) : nm c i < 16 := by
  have h1 := Int.emod_nonneg (c + (i : Int) * (c / 16 % 8 * 2 + 1)) (show (16 : Int) ≠ 0 by decide)
  have h2 := Int.emod_lt_of_pos (c + (i : Int) * (c / 16 % 8 * 2 + 1)) (show (0 : Int) < 16 by decide)
  unfold nm; (first | lia | omega)
theorem ix_lt (c : Int) (i : Nat) : ix c i < 4 := by
  have h1 := Int.emod_nonneg (c / 4 ^ i) (show (4 : Int) ≠ 0 by decide)
  have h2 := Int.emod_lt_of_pos (c / 4 ^ i) (show (0 : Int) < 4 by decide)
  unfold ix; (first | lia | omega)
theorem nms_len (c : Int) : (nms c).length = 4 := by simp [nms]
theorem getD_some {l : List Nat} {i : Nat} (h : i < l.length) : l[i]? = some (l.getD i 0) := by simp [List.getD, List.getElem?_eq_getElem h]
theorem rng3_len (c0 c2 : Int) : (rng3 c0 c2).length = 8 := by simp [rng3]
theorem rng3_mem {c0 c2 : Int} {x : Nat} (h : x ∈ rng3 c0 c2) : x ∈ nms c2 := by
  obtain ⟨i, _, rfl⟩ := List.mem_map.mp h
  exact List.mem_of_getElem? (getD_some (by rw [nms_len]; exact ix_lt c0 i))
theorem rng3_lt {c0 c2 : Int} : ∀ x ∈ rng3 c0 c2, x < 16 := fun x h => by
  obtain ⟨i, _, rfl⟩ := List.mem_map.mp (rng3_mem h)
  exact nm_lt c2 i
theorem iV_map {f : Nat → Nat} {n : Nat} : iV ((List.range n).map f) = (List.range n).map fun i => V.int (f i : Int) := by unfold iV; rw [List.map_map]; rfl
theorem iV_at {l : List Nat} {i : Nat} (h : i < l.length) : (iV l)[i]? = some (.int (l.getD i 0 : Int)) := by rw [List.getElem?_map, getD_some h]; rfl

section
variable {Φ : FnT} {H : HP} {c0 c1 c2 : Int} {v0 v1 v2 v3 v4 v5 v6 v7 v8 v9 v10 : Option V}
theorem l3_names (h : H[1]? = some [.int c0, .int c1, .int c2]) : ev Φ (.comp (.bin .mod (.bin .add (.idx (.var 1) (.lit (.int 2))) (.bin .mul (.var 11) (.bin .add (.bin .mul (.bin .mod (.bin .div (.idx (.var 1) (.lit (.int 2))) (.lit (.int 16))) (.lit (.int 8))) (.lit (.int 2))) (.lit (.int 1))))) (.lit (.int 16))) 1 false (.call (.lit (.bi .range)) (.cons (.lit (.int 4)) .nil)) (.lit (.bool true))) [v0, some (.list 1), v2, v3, v4, v5, v6, v7, v8, v9, v10] H = some (.list H.length, H ++ [iV (nms c2)]) := by
  have hg : getI (.list 1) (.int 2) H = some (.int c2) := getI_at (i := 2) h (by decide) rfl
  refine (comp_map (natV fun i => .int (nm c2 i : Int)) (rng_ev (n := 4) rfl (by (first | lia | omega))) (rng_src 0 4 _ (by (first | lia | omega)) (by (first | lia | omega))) rfl fun x hx => ?_).trans (by rw [map_natV, nms, iV_map])
  obtain ⟨i, hi, rfl⟩ := mem_rng hx
  have m1 : binI .mul (c2 / 16 % 8) 2 = some (c2 / 16 % 8 * 2) := mul_s (Nat.lt_of_lt_of_le (show (c2 / 16 % 8).natAbs < 8 by (first | lia | omega)) (by decide))
  have m2 : binI .mul (i : Int) (c2 / 16 % 8 * 2 + 1) = some ((i : Int) * (c2 / 16 % 8 * 2 + 1)) := mul_s (Nat.lt_of_lt_of_le (show (i : Int).natAbs < 8 by (first | lia | omega)) (by decide))
  have m3 : binI .mod (c2 + (i : Int) * (c2 / 16 % 8 * 2 + 1)) 16 = some (nm c2 i : Int) := (mod_p (by decide)).trans (by rw [nm, Int.toNat_of_nonneg (Int.emod_nonneg _ (by decide))])
  exact int_of (int_of (idx_of (var_of rfl) e_lit hg) (int_of (var_of rfl) (int_of (int_of (int_of (int_of (idx_of (var_of rfl) e_lit hg) e_lit (div_p (by decide) (by decide))) e_lit (mod_p (by decide))) e_lit m1) e_lit rfl) m2) rfl) e_lit m3
theorem pow4 : ∀ i, i < 8 → 0 < (4 : Int) ^ i ∧ (4 : Int) ^ i < 1000000 := by decide
theorem l3_ring (h : H[1]? = some [.int c0, .int c1, .int c2]) {a : Nat} (ha : H[a]? = some (iV (nms c2))) : ev Φ (.comp (.idx (.var 2) (.bin .mod (.bin .div (.idx (.var 1) (.lit (.int 0))) (.bin .pow (.lit (.int 4)) (.var 11))) (.lit (.int 4)))) 1 false (.call (.lit (.bi .range)) (.cons (.lit (.int 8)) .nil)) (.lit (.bool true))) [v0, some (.list 1), some (.list a), v3, v4, v5, v6, v7, v8, v9, v10] H = some (.list H.length, H ++ [iV (rng3 c0 c2)]) := by
  have hg : getI (.list 1) (.int 0) H = some (.int c0) := getI_at (i := 0) h (by decide) rfl
  refine (comp_map (natV fun i => .int ((nms c2).getD (ix c0 i) 0 : Int)) (rng_ev (n := 8) rfl (by (first | lia | omega))) (rng_src 0 8 _ (by (first | lia | omega)) (by (first | lia | omega))) rfl fun x hx => ?_).trans (by rw [map_natV, rng3, iV_map])
  obtain ⟨i, hi, rfl⟩ := mem_rng hx
  obtain ⟨p1, p2⟩ := pow4 i hi
  have m1 : binI .pow 4 (i : Int) = some ((4 : Int) ^ i) := by
    show (if (decide ((4 : Int).natAbs < 2 ^ 20) && decide (0 ≤ (i : Int)) && decide ((i : Int) ≤ 64)) = true then some ((4 : Int) ^ (i : Int).toNat) else none) = _
    rw [decide_eq_true (show 0 ≤ (i : Int) by (first | lia | omega)), decide_eq_true (show (i : Int) ≤ 64 by (first | lia | omega)), if_pos (by decide)]; rfl
  have m3 : binI .mod (c0 / 4 ^ i) 4 = some (ix c0 i : Int) := (mod_p (by decide)).trans (by rw [ix, Int.toNat_of_nonneg (Int.emod_nonneg _ (by decide))])
  have hlt := ix_lt c0 i
  exact idx_of (var_of rfl) (int_of (int_of (idx_of (var_of rfl) e_lit hg) (int_of e_lit (var_of rfl) m1) (div_p p1 p2)) e_lit m3) (getI_at ha (by (first | lia | omega)) (iV_at (by rw [nms_len]; exact hlt)))
theorem l3_ways {R : List Nat} {a : Nat} (hR : R.length = 8) (ha : H[a]? = some (iV R)) : ev Φ (.comp (.bin .add (.bin .mul (.lit (.int 16)) (.idx (.var 5) (.var 11))) (.idx (.var 5) (.bin .mod (.bin .add (.var 11) (.lit (.int 1))) (.lit (.int 8))))) 1 false (.call (.lit (.bi .range)) (.cons (.lit (.int 8)) .nil)) (.lit (.bool true))) [v0, v1, v2, v3, v4, some (.list a), v6, v7, v8, v9, v10] H = some (.list H.length, H ++ [iV (ways R)]) := by
  refine (comp_map (natV fun i => .int ((16 * R.getD i 0 + R.getD ((i + 1) % 8) 0 : Nat) : Int)) (rng_ev (n := 8) rfl (by (first | lia | omega))) (rng_src 0 8 _ (by (first | lia | omega)) (by (first | lia | omega))) rfl fun x hx => ?_).trans (by rw [map_natV, ways, iV_map])
  obtain ⟨i, hi, rfl⟩ := mem_rng hx
  have m1 : binI .mod ((i + 1 : Nat) : Int) 8 = some (((i + 1) % 8 : Nat) : Int) := mod_p (by decide)
  exact int_of (int_of e_lit (idx_of (var_of rfl) (var_of rfl) (getI_at ha (by (first | lia | omega)) (iV_at (by (first | lia | omega))))) (mul_s (by decide))) (idx_of (var_of rfl) (int_of (int_of (var_of rfl) e_lit rfl) e_lit m1) (getI_at ha (by (first | lia | omega)) (iV_at (by (first | lia | omega))))) rfl
theorem ints_iV (R : List Nat) : intsOf (iV R) = some (R.map fun (x : Nat) => (x : Int)) := by
  have : iV R = (R.map fun (x : Nat) => (x : Int)).map .int := by rw [List.map_map]; rfl
  rw [this, intsOf_map]
theorem has_iV (x : Nat) : ∀ (R : List Nat), (R.map fun (x : Nat) => (x : Int)).contains (x : Int) = R.contains x
  | [] => rfl
  | y :: R => by rw [List.map_cons, List.contains_cons, List.contains_cons, has_iV x R, int_beq]
theorem l3_stops {R N : List Nat} {a b : Nat} (hN : N.length ≤ 50) (ha : H[a]? = some (iV R)) (hb : H[b]? = some (iV N)) : ev Φ (.comp (.var 11) 1 false (.var 2) (.cmp .isin (.var 11) (.var 5))) [v0, v1, some (.list b), v3, v4, some (.list a), v6, v7, v8, v9, v10] H = some (.list H.length, H ++ [iV (N.filter fun x => R.contains x)]) := by
  refine (comp_filter id (natB fun x => R.contains x) (var_of rfl) (src_list hb (by simp; (first | lia | omega))) hb (fun x hx => ?_) (fun x hx _ => ?_)).trans ?_
  · obtain ⟨u, hu, rfl⟩ := List.mem_map.mp hx
    refine evB_of' (cmp_of (var_of rfl) (var_of rfl) (t := R.contains u) ?_) rfl
    show ((H[a]?).bind fun ys => (intsOf ys).map fun is => is.contains (u : Int)) = _
    rw [ha, Option.bind_some, ints_iV, Option.map_some, has_iV]
  · obtain ⟨u, hu, rfl⟩ := List.mem_map.mp hx
    exact var_of rfl
  · rw [List.map_id, List.filter_map]; rfl
theorem l3_drawn {n : Nat} {W : List Nat} {a : Nat} (h0 : H.length ≠ 0) (h : H[1]? = some [.int c0, .int c1, .int c2]) (hW : W.length = 8) (ha : H[a]? = some (iV W)) :
    ∃ D J, W.Perm D ∧ ev (callF d03 (n + 1)) (.comp (.idx (.var 6) (.var 11)) 1 false (.call (.lit (.fn 11)) (.cons (.idx (.var 1) (.lit (.int 1))) .nil)) (.lit (.bool true))) [v0, some (.list 1), v2, v3, v4, v5, some (.list a), v7, v8, v9, v10] H = some (.list (H ++ J).length, H ++ J ++ [iV D]) := by
  obtain ⟨O, hO, hcall⟩ := order_call (n := n) (H := H) (c := c1) h0
  have hg : getI (.list 1) (.int 1) H = some (.int c1) := getI_at (i := 1) h (by decide) rfl
  have gO : (H ++ [[], iV O])[H.length + 1]? = some (iV O) := by rw [getA]; rfl
  have hOl : O.length = 8 := by rw [← hO.length_eq]; simp
  refine ⟨O.map fun i => W.getD i 0, [[], iV O], ?_, ?_⟩
  · have h1 := hO.map fun i => W.getD i 0
    have h2 : (List.range 8).map (fun i => W.getD i 0) = W := by
      match W, hW with
      | [a, b, c, d, e, f, g, i], _ => rfl
    rw [h2] at h1
    exact h1
  · refine (comp_map (natV fun i => .int (W.getD i 0 : Int)) (fn_of (es1 (idx_of (var_of rfl) e_lit hg) es0) hcall) (src_list gO (by simp; (first | lia | omega))) gO fun x hx => ?_).trans ?_
    · obtain ⟨u, hu, rfl⟩ := List.mem_map.mp hx
      have hu8 := List.mem_range.mp (hO.mem_iff.mpr hu)
      exact idx_of (var_of rfl) (var_of rfl) (getI_at (app_get ha) (by (first | lia | omega)) (iV_at (by (first | lia | omega))))
    · congr 3
      unfold iV; rw [List.map_map, List.map_map]; rfl
end

theorem ex_seq3 {Φ : FnT} {a b : St} {σ σ' : Cfg} (h1 : run Φ a σ = some (.next, σ')) (h2 : ∃ τ, run Φ b σ' = some (.ret (.bool true), τ)) : ∃ τ, run Φ (.seq a b) σ = some (.ret (.bool true), τ) := by
  obtain ⟨τ, h⟩ := h2
  exact ⟨τ, seq_of h1 h⟩
theorem eqs_I (l : List Nat) : eqs eq1 (iV l) (iV l) = some true := eqs_of fun x hx => by
  obtain ⟨w, _, rfl⟩ := List.mem_map.mp hx
  exact eq1_int
theorem law03_run (xs : List Int) (hx : xs.length ≤ 63) : ∃ σ : Cfg, run (callF d03 11) f03_law.body (some (.list 0) :: List.replicate 10 none, [xs.map .int]) = some (.ret (.bool true), σ) := by
  obtain ⟨c0, c1, c2, hcell⟩ := cells_call (n := 10) (X := xs) hx
  generalize hX : xs.map V.int = X at *
  generalize hR : rng3 c0 c2 = R
  have hRl : R.length = 8 := by rw [← hR]; exact rng3_len c0 c2
  have hR16 : ∀ x ∈ R, x < 16 := by rw [← hR]; exact rng3_lt
  have hRN : ∀ x ∈ R, x ∈ nms c2 := by rw [← hR]; exact fun x h => rng3_mem h
  obtain ⟨he, e, hee⟩ : ∃ he : 256 ≤ 256 + ((c2 / 128).natAbs : Int), ∃ e, 256 + ((c2 / 128).natAbs : Int) = e := ⟨by (first | lia | omega), _, rfl⟩
  obtain ⟨hpath, hwf, hwl, hws⟩ := ways_path hRl hR16
  -- the heaps
  generalize hH1 : ([X, [.int c0, .int c1, .int c2]] : HP) = H1 at *
  have g1 : H1[1]? = some [.int c0, .int c1, .int c2] := by rw [← hH1]; rfl
  have l1 : H1.length = 2 := by rw [← hH1]; rfl
  have s2 := l3_names (Φ := callF d03 11) (H := H1) (c0 := c0) (c1 := c1) (c2 := c2) (v0 := some (.list 0)) (v2 := none) (v3 := none) (v4 := none) (v5 := none) (v6 := none) (v7 := none) (v8 := none) (v9 := none) (v10 := none) g1
  generalize hH2 : H1 ++ [iV (nms c2)] = H2 at *
  have g2 : H2[1]? = some [.int c0, .int c1, .int c2] := by rw [← hH2]; exact app_get g1
  have n2 : H2[H1.length]? = some (iV (nms c2)) := by rw [← hH2]; exact get_last
  have s4 := l3_ring (Φ := callF d03 11) (H := H2) (c0 := c0) (c1 := c1) (c2 := c2) (v0 := some (.list 0)) (v3 := some (.int e)) (v4 := none) (v5 := none) (v6 := none) (v7 := none) (v8 := none) (v9 := none) (v10 := none) g2 n2
  rw [hR] at s4
  generalize hH3 : H2 ++ [iV R] = H3 at *
  have g3 : H3[1]? = some [.int c0, .int c1, .int c2] := by rw [← hH3]; exact app_get g2
  have n3 : H3[H1.length]? = some (iV (nms c2)) := by rw [← hH3]; exact app_get n2
  have hnum := number_call (n := 10) (H := H3) (j := H2.length) (ds := R) (by rw [← hH3]; exact get_last) (by (first | lia | omega))
  obtain ⟨X', Y, Z, hlet⟩ := letters_call (n := 9) (H := H3) (i := -(dval R : Int)) (R := R) (by (first | lia | omega)) hRl hR16
  generalize hH4 : H3 ++ [X', Y, Z, iV R] = H4 at *
  have g4 : H4[1]? = some [.int c0, .int c1, .int c2] := by rw [← hH4]; exact app_get g3
  have n4 : H4[H1.length]? = some (iV (nms c2)) := by rw [← hH4]; exact app_get n3
  have r4 : H4[H3.length + 3]? = some (iV R) := by rw [← hH4, getA]; rfl
  have hnum4 := number_call (n := 10) (H := H4) (j := H3.length + 3) (ds := R) r4 (by (first | lia | omega))
  have hlen4 := len_l r4 (by simp; (first | lia | omega))
  rw [List.length_map, hRl] at hlen4
  have s6 := l3_ways (Φ := callF d03 11) (H := H4) (R := R) (v0 := some (.list 0)) (v1 := some (.list 1)) (v2 := some (.list H1.length)) (v3 := some (.int e)) (v4 := some (.int (dval R : Int))) (v6 := none) (v7 := none) (v8 := none) (v9 := none) (v10 := none) hRl r4
  generalize hH5 : H4 ++ [iV (ways R)] = H5 at *
  have g5 : H5[1]? = some [.int c0, .int c1, .int c2] := by rw [← hH5]; exact app_get g4
  have n5 : H5[H1.length]? = some (iV (nms c2)) := by rw [← hH5]; exact app_get n4
  have r5 : H5[H3.length + 3]? = some (iV R) := by rw [← hH5]; exact app_get r4
  have w5 : H5[H4.length]? = some (iV (ways R)) := by rw [← hH5]; exact get_last
  have z5 : H5.length ≠ 0 := by rw [← hH5]; simp
  obtain ⟨L, J6, hL, hsL, hlaid⟩ := laid_call (n := 6) (t := true) (e := e) w5 hws (by (first | lia | omega)) z5
  have hLl : L.length = (ways R).length := hL.perm.length_eq
  obtain ⟨ga, gb⟩ := goF_ring (ways R) 9 L (R.getD 0 0) (R.getD 0 0) hL.srt (by (first | lia | omega)) hpath hL.que
  generalize hH6 : H5 ++ rowV L (some e) :: J6 = H6 at *
  have p6 : H6[H5.length]? = some (rowV L (some e)) := by rw [← hH6]; exact get_mid
  have r6 : H6[H3.length + 3]? = some (iV R) := by rw [← hH6]; exact app_get r5
  have hR0 : R.getD 0 0 < 16 := hR16 _ (List.mem_of_getElem? (getD_some (by (first | lia | omega))))
  have hgone := gone_call (n := 8) (a := H5.length) (H := H6) (L := L) (e := e) (h := R.getD 0 0) (t := -1) p6 hL.srt hsL (by (first | lia | omega)) hR0 (Or.inr rfl) (by (first | lia | omega)) z5 (by rw [ga]; intro h; rw [h] at hwl; cases hwl) gb
  rw [ga, hwf, ← hH6, set_mid] at hgone
  rw [hH6] at hgone
  generalize hH7 : H5 ++ rowV (goF 9 L (R.getD 0 0)).2.1 (some e) :: J6 ++ [iV R] ++ [[]] = H7 at hgone
  have l67 : (H5 ++ rowV (goF 9 L (R.getD 0 0)).2.1 (some e) :: J6).length = H6.length := by rw [← hH6]; simp
  have e7 : H7 = H5 ++ (rowV (goF 9 L (R.getD 0 0)).2.1 (some e) :: J6 ++ [iV R] ++ [[]]) := by rw [← hH7]; simp
  have g7 : H7[1]? = some [.int c0, .int c1, .int c2] := by rw [e7]; exact app_get g5
  have n7 : H7[H1.length]? = some (iV (nms c2)) := by rw [e7]; exact app_get n5
  have r7 : H7[H3.length + 3]? = some (iV R) := by rw [e7]; exact app_get r5
  have w7 : H7[H4.length]? = some (iV (ways R)) := by rw [e7]; exact app_get w5
  have p7 : H7[H6.length]? = some (iV R) := by rw [← hH7, ← l67]; exact app_get get_last
  have hcmp := (eqL_same p7 r7 rfl (by rw [← hH6, ← hH5, ← hH4]; simp)).trans (eqs_I R)
  have s9 := l3_stops (Φ := callF d03 11) (H := H7) (R := R) (N := nms c2) (v0 := some (.list 0)) (v1 := some (.list 1)) (v3 := some (.int e)) (v4 := some (.int (dval R : Int))) (v6 := some (.list H4.length)) (v7 := some (.list H6.length)) (v8 := some (.bool true)) (v9 := none) (v10 := none) (by rw [nms_len]; (first | lia | omega)) r7 n7
  generalize hP : (nms c2).filter (fun x => R.contains x) = P at *
  generalize hH8 : H7 ++ [iV P] = H8 at *
  have g8 : H8[1]? = some [.int c0, .int c1, .int c2] := by rw [← hH8]; exact app_get g7
  have w8 : H8[H4.length]? = some (iV (ways R)) := by rw [← hH8]; exact app_get w7
  have q8 : H8[H7.length]? = some (iV P) := by rw [← hH8]; exact get_last
  have z8 : H8.length ≠ 0 := by rw [← hH8]; simp
  obtain ⟨D, J8, hD, s10⟩ := l3_drawn (n := 10) (H := H8) (c0 := c0) (c1 := c1) (c2 := c2) (W := ways R) (v0 := some (.list 0)) (v2 := some (.list H1.length)) (v3 := some (.int e)) (v4 := some (.int (dval R : Int))) (v5 := some (.list (H3.length + 3))) (v7 := some (.list H6.length)) (v8 := some (.bool true)) (v9 := some (.list H7.length)) (v10 := none) z8 g8 hwl w8
  generalize hH9 : H8 ++ J8 = H9 at *
  have q9 : (H9 ++ [iV D])[H7.length]? = some (iV P) := by rw [← hH9]; exact app_get (app_get q8)
  have d9 : (H9 ++ [iV D])[H9.length]? = some (iV D) := get_last
  have hDl : D.length = 8 := by rw [← hD.length_eq]; exact hwl
  have hDs : Small D := fun v hv => hws v (hD.mem_iff.mpr hv)
  have hDb : bal D := bal_perm hD.symm (path_bal hpath)
  have hPD : ∀ x, x ∈ P ↔ qu D x ≠ [] := fun x => by
    rw [← hP, List.mem_filter]
    constructor
    · rintro ⟨_, h2⟩ h3
      have h4 : x ∈ R := by simpa using h2
      rw [← hwf] at h4
      obtain ⟨v, hv, hvx⟩ := List.mem_map.mp h4
      have : v ∈ qu D x := mem_qu.mpr ⟨hD.mem_iff.mp hv, hvx⟩
      rw [h3] at this; cases this
    · intro h
      obtain ⟨v, hv⟩ := List.exists_mem_of_ne_nil _ h
      obtain ⟨g1, g2⟩ := mem_qu.mp hv
      have h4 : x ∈ R := by
        rw [← hwf]
        exact List.mem_map.mpr ⟨v, hD.mem_iff.mpr g1, g2⟩
      exact ⟨hRN x h4, by simpa using h4⟩
  have hP4 : P.length ≤ 4 := by rw [← hP, ← nms_len c2]; exact List.length_filter_le ..
  obtain ⟨J9, hold1⟩ := holds_call (n := 5) true (e := e) d9 q9 hDs (by (first | lia | omega)) hDb hPD hP4 (by (first | lia | omega)) (by simp)
  obtain ⟨J10, hold2⟩ := holds_call (n := 5) false (e := e) (app_get (K := J9) d9) (app_get q9) hDs (by (first | lia | omega)) hDb hPD hP4 (by (first | lia | omega)) (by simp)
  have hend : ev (callF d03 11) (.bin .add (.lit (.int 256)) (.call (.lit (.bi .abs)) (.cons (.bin .div (.idx (.var 1) (.lit (.int 2))) (.lit (.int 128))) .nil))) [some (.list 0), some (.list 1), some (.list H1.length), none, none, none, none, none, none, none, none] H2 = some (.int e, H2) := by
    rw [← hee]
    exact int_of e_lit (bi_of (es1 (int_of (idx_of (var_of rfl) e_lit (getI_at (i := 2) g2 (by decide) rfl)) e_lit (div_p (by decide) (by decide))) es0) abs_i) rfl
  have hone : getI (.list (H3.length + 3)) (.int 0) H6 = some (.int (R.getD 0 0 : Int)) := getI_at (i := 0) r6 (by decide) (iV_at (by (first | lia | omega)))
  unfold f03_law
  refine ex_seq3 (asg_of (fn_of (es1 (var_of rfl) es0) hcell)) ?_
  refine ex_seq3 (asg_of s2) ?_
  refine ex_seq3 (asg_of hend) ?_
  refine ex_seq3 (asg_of (fn_of (es1 s4 es0) hnum)) ?_
  refine ex_seq3 (asg_of (fn_of (es1 (neg_of (var_of rfl)) es0) hlet)) ?_
  refine ex_seq3 (ite_f (or_ff (cmp_of (bi_of (es1 (var_of rfl) es0) hlen4) e_lit (t := false) ?_) (cmp_of (fn_of (es1 (var_of rfl) es0) hnum4) (var_of rfl) (t := false) ?_)) r_skip) ?_
  · rw [ne_ii]; rfl
  · rw [ne_ii, beq_self_eq_true]; rfl
  refine ex_seq3 (asg_of s6) ?_
  refine ex_seq3 (unp_of (ps := [.list H6.length, .bool true]) (fn_of (es1 (fn_of (es1 (var_of rfl) (es1 e_lit (es1 (var_of rfl) es0))) hlaid) (es1 (idx_of (var_of rfl) e_lit hone) (es1 (neg_of e_lit) es0))) hgone) rfl) ?_
  refine ex_seq3 (ite_f (or_ff (cmp_of (var_of rfl) (var_of rfl) (cmp_ne hcmp)) (not_of (t := true) (var_of rfl) rfl)) r_skip) ?_
  refine ex_seq3 (asg_of s9) ?_
  refine ex_seq3 (asg_of s10) ?_
  exact ⟨_, seq_ret (ret_of (and_t (fn_of (es1 (var_of rfl) (es1 (var_of rfl) (es1 e_lit (es1 (var_of rfl) es0)))) hold1) rfl (fn_of (es1 (var_of rfl) (es1 (var_of rfl) (es1 (neg_of e_lit) (es1 (var_of rfl) es0)))) hold2)))⟩
end Mp

theorem PySem.Challenge.cw_ul0001_03_holds : PySem.Challenge.rw_ul0001_03.Holds := by
  exact Mp.main03 Mp.law03_run
