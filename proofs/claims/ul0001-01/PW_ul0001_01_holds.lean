import PyProof.Rows.All
import Wide.All
import OpenK.AllK
import Wide.FinOn
import PySem.Challenge.RW_ul0001_01
open PySem PySem.W PyProof.Rows
set_option Elab.async false
set_option maxRecDepth 100000
set_option maxHeartbeats 8000000
set_option linter.unusedSimpArgs false
set_option linter.unusedVariables false
set_option linter.unusedSectionVars false
set_option genSizeOf false
set_option genInjectivity true

namespace Mp

/-- the built-ins that the laws name -/
inductive Bi where
  | len | range | int | abs | divmod | isinstance | bytes | list | min | max | sorted

noncomputable def Bi.isBytes : Bi → Bool
  | .bytes => true
  | _ => false

noncomputable def Bi.val : Bi → Value
  | .len => .builtin "len"
  | .range => .type "range"
  | .int => .type "int"
  | .abs => .builtin "abs"
  | .divmod => .builtin "divmod"
  | .isinstance => .builtin "isinstance"
  | .bytes => .type "bytes"
  | .list => .type "list"
  | .min => .builtin "min"
  | .max => .builtin "max"
  | .sorted => .builtin "sorted"

/-- plain values: lists are names into a heap of lists -/
inductive V where
  | none
  | bool (b : Bool)
  | int (i : Int)
  | bytes (b : List UInt8)
  | tup (l : List V)
  | list (n : Nat)
  | range (a b c : Int)
  | fn (k : Nat)
  | bi (b : Bi)

noncomputable abbrev HP := List (List V)

noncomputable abbrev Lobj (vs : List Value) (n : Nat) : Obj := { cls := .type "list", dict := none, data := .seq vs.toArray n, slots := #[] }
noncomputable abbrev Tobj (vs : List Value) (n : Nat) : Obj := { cls := .type "tuple", dict := none, data := .seq vs.toArray n, slots := #[] }

mutual
inductive VR (fa : Nat → Option Addr) (μ : List Addr) (h : Heap) : Value → V → Prop
  | none : VR fa μ h .none .none
  | bool (b : Bool) : VR fa μ h (.bool b) (.bool b)
  | int (i : Int) (t : Tok) : VR fa μ h (.int i t) (.int i)
  | bytes (b : Array UInt8) (t : Tok) : VR fa μ h (.bytes b t) (.bytes b.toList)
  | tup {a : Addr} {n : Nat} {vs : List Value} {ls : List V} : h.get? a = some (Tobj vs n) → VRs fa μ h vs ls → VR fa μ h (.ref a) (.tup ls)
  | list {a : Addr} {i : Nat} : μ[i]? = some a → VR fa μ h (.ref a) (.list i)
  | range {a : Addr} {x y z : Int} {t u v : Tok} : IsRange h a x y z t u v → VR fa μ h (.ref a) (.range x y z)
  | fn {a : Addr} {k : Nat} : fa k = some a → VR fa μ h (.ref a) (.fn k)
  | bi (b : Bi) : VR fa μ h b.val (.bi b)
inductive VRs (fa : Nat → Option Addr) (μ : List Addr) (h : Heap) : List Value → List V → Prop
  | nil : VRs fa μ h [] []
  | cons {v : Value} {l : V} {vs : List Value} {ls : List V} : VR fa μ h v l → VRs fa μ h vs ls → VRs fa μ h (v :: vs) (l :: ls)
end

/-- an object that holds a value: a tuple or a range -/
noncomputable def isV (o : Obj) : Prop := (o.cls = .type "tuple" ∧ ∃ xs n, o.data = .seq xs n) ∨ (o.cls = .type "range" ∧ ∃ fs, o.data = .fields fs)

theorem isV_tup (vs : List Value) (n : Nat) : isV (Tobj vs n) := Or.inl ⟨rfl, _, _, rfl⟩
theorem not_isV_list (vs : List Value) (n : Nat) : ¬ isV (Lobj vs n) := by
  rintro (⟨h, _⟩ | ⟨h, _⟩)
  · exact absurd (show Value.type "list" = Value.type "tuple" from h) (by decide)
  · exact absurd (show Value.type "list" = Value.type "range" from h) (by decide)
theorem nodup_inj {α : Type} : ∀ {l : List α} {i j : Nat} {a : α}, l.Nodup → l[i]? = some a → l[j]? = some a → i = j
  | [], _, _, _, _, e, _ => by simp at e
  | _ :: _, 0, 0, _, _, _, _ => rfl
  | b :: l, 0, j + 1, a, hn, e1, e2 => by
    simp at e1 e2
    subst e1
    exact absurd (List.mem_of_getElem? e2) (List.nodup_cons.mp hn).1
  | b :: l, i + 1, 0, a, hn, e1, e2 => by
    simp at e1 e2
    subst e2
    exact absurd (List.mem_of_getElem? e1) (List.nodup_cons.mp hn).1
  | b :: l, i + 1, j + 1, a, hn, e1, e2 => by
    simp at e1 e2
    rw [nodup_inj (List.nodup_cons.mp hn).2 e1 e2]

variable {fa : Nat → Option Addr}

mutual
theorem VR.mono {μ μ' : List Addr} {h h' : Heap} (hp : μ <+: μ') (hk : ∀ b o, h.get? b = some o → isV o → h'.get? b = some o) : ∀ {v : Value} {l : V}, VR fa μ h v l → VR fa μ' h' v l
  | _, _, .none => .none
  | _, _, .bool b => .bool b
  | _, _, .int i t => .int i t
  | _, _, .bytes b t => .bytes b t
  | _, _, .tup ho hs => .tup (hk _ _ ho (isV_tup _ _)) (VRs.mono hp hk hs)
  | _, _, .list hi => .list (by
      obtain ⟨ν, rfl⟩ := hp
      rw [List.getElem?_append_left (by
        rcases Nat.lt_or_ge _ μ.length with hlt | hge
        · exact hlt
        · rw [List.getElem?_eq_none hge] at hi; cases hi)]
      exact hi)
  | _, _, .range hr => .range (hk _ _ hr (Or.inr ⟨rfl, _, rfl⟩))
  | _, _, .fn hf => .fn hf
  | _, _, .bi b => .bi b
theorem VRs.mono {μ μ' : List Addr} {h h' : Heap} (hp : μ <+: μ') (hk : ∀ b o, h.get? b = some o → isV o → h'.get? b = some o) : ∀ {vs : List Value} {ls : List V}, VRs fa μ h vs ls → VRs fa μ' h' vs ls
  | _, _, .nil => .nil
  | _, _, .cons hv hs => .cons (VR.mono hp hk hv) (VRs.mono hp hk hs)
end

section inv
variable {μ : List Addr} {h : Heap} {v : Value}
theorem VR.int_inv {i : Int} (x : VR fa μ h v (.int i)) : ∃ t, v = .int i t := by cases x; exact ⟨_, rfl⟩
theorem VR.bool_inv {b : Bool} (x : VR fa μ h v (.bool b)) : v = .bool b := by cases x; rfl
theorem VR.none_inv (x : VR fa μ h v .none) : v = .none := by cases x; rfl
theorem VR.bytes_inv {b : List UInt8} (x : VR fa μ h v (.bytes b)) : ∃ t, v = .bytes b.toArray t := by cases x with | bytes b t => exact ⟨t, by simp⟩
theorem VR.list_inv {i : Nat} (x : VR fa μ h v (.list i)) : ∃ a, v = .ref a ∧ μ[i]? = some a := by cases x; exact ⟨_, rfl, by assumption⟩
theorem VR.tup_inv {ls : List V} (x : VR fa μ h v (.tup ls)) : ∃ a vs n, v = .ref a ∧ h.get? a = some (Tobj vs n) ∧ VRs fa μ h vs ls := by
  cases x; exact ⟨_, _, _, rfl, by assumption, by assumption⟩
theorem VR.range_inv {x y z : Int} (r : VR fa μ h v (.range x y z)) : ∃ a t u w, v = .ref a ∧ IsRange h a x y z t u w := by
  cases r; exact ⟨_, _, _, _, rfl, by assumption⟩
theorem VR.fn_inv {k : Nat} (r : VR fa μ h v (.fn k)) : ∃ a, v = .ref a ∧ fa k = some a := by cases r; exact ⟨_, rfl, by assumption⟩
theorem VR.bi_inv {b : Bi} (r : VR fa μ h v (.bi b)) : v = b.val := by cases r; rfl
@[elab_as_elim] theorem VR.intK {P : Value → Prop} {i : Int} (x : VR fa μ h v (.int i)) (k : ∀ t, P (.int i t)) : P v := by obtain ⟨t, rfl⟩ := x.int_inv; exact k t
@[elab_as_elim] theorem VR.bytesK {P : Value → Prop} {b : List UInt8} (x : VR fa μ h v (.bytes b)) (k : ∀ t, P (.bytes b.toArray t)) : P v := by obtain ⟨t, rfl⟩ := x.bytes_inv; exact k t
@[elab_as_elim] theorem VR.tupK {P : Value → Prop} {ls : List V} (x : VR fa μ h v (.tup ls)) (k : ∀ a vs n, h.get? a = some (Tobj vs n) → VRs fa μ h vs ls → P (.ref a)) : P v := by obtain ⟨a, vs, n, rfl, h1, h2⟩ := x.tup_inv; exact k a vs n h1 h2
@[elab_as_elim] theorem VR.listK {P : Value → Prop} {i : Nat} (x : VR fa μ h v (.list i)) (k : ∀ a, μ[i]? = some a → P (.ref a)) : P v := by obtain ⟨a, rfl, h1⟩ := x.list_inv; exact k a h1
@[elab_as_elim] theorem VR.rangeK {P : Value → Prop} {x y z : Int} (r : VR fa μ h v (.range x y z)) (k : ∀ a t u w, IsRange h a x y z t u w → P (.ref a)) : P v := by obtain ⟨a, t, u, w, rfl, h1⟩ := r.range_inv; exact k a t u w h1
@[elab_as_elim] theorem VR.fnK {P : Value → Prop} {i : Nat} (x : VR fa μ h v (.fn i)) (k : ∀ a, fa i = some a → P (.ref a)) : P v := by obtain ⟨a, rfl, h1⟩ := x.fn_inv; exact k a h1
end inv

@[elab_as_elim] theorem VRs.oneK {μ : List Addr} {h : Heap} {P : List Value → Prop} {vs : List Value} {x : V} (r : VRs fa μ h vs [x]) (k : ∀ v, VR fa μ h v x → P [v]) : P vs := by
  cases r with | cons r₁ r₂ => cases r₂; exact k _ r₁
@[elab_as_elim] theorem VRs.twoK {μ : List Addr} {h : Heap} {P : List Value → Prop} {vs : List Value} {x y : V} (r : VRs fa μ h vs [x, y]) (k : ∀ u v, VR fa μ h u x → VR fa μ h v y → P [u, v]) : P vs := by
  cases r with | cons r₁ r₂ => exact VRs.oneK (P := fun vs => P (_ :: vs)) r₂ fun v r₂ => k _ v r₁ r₂
theorem VRs.length {μ : List Addr} {h : Heap} : ∀ {vs : List Value} {ls : List V}, VRs fa μ h vs ls → vs.length = ls.length
  | _, _, .nil => rfl
  | _, _, .cons _ hs => congrArg (· + 1) hs.length
theorem VRs.get {μ : List Addr} {h : Heap} : ∀ {vs : List Value} {ls : List V} {i : Nat} {l : V}, VRs fa μ h vs ls → ls[i]? = some l → ∃ v, vs[i]? = some v ∧ VR fa μ h v l
  | _, _, i, _, .nil, e => by simp at e
  | _, _, 0, _, .cons hv hs, e => by simp at e; subst e; exact ⟨_, rfl, hv⟩
  | _, _, i + 1, _, .cons hv hs, e => by
    simp at e
    obtain ⟨v, h1, h2⟩ := VRs.get hs e
    exact ⟨v, by simpa using h1, h2⟩
theorem VRs.append {μ : List Addr} {h : Heap} : ∀ {vs ws : List Value} {ls ms : List V}, VRs fa μ h vs ls → VRs fa μ h ws ms → VRs fa μ h (vs ++ ws) (ls ++ ms)
  | _, _, _, _, .nil, h2 => h2
  | _, _, _, _, .cons hv hs, h2 => .cons hv (hs.append h2)
theorem VRs.take {μ : List Addr} {h : Heap} : ∀ {vs : List Value} {ls : List V} (n : Nat), VRs fa μ h vs ls → VRs fa μ h (vs.take n) (ls.take n)
  | _, _, 0, _ => by simpa using VRs.nil
  | _, _, n + 1, .nil => by simpa using VRs.nil
  | _, _, n + 1, .cons hv hs => by simpa using VRs.cons hv (hs.take n)
theorem VRs.drop {μ : List Addr} {h : Heap} : ∀ {vs : List Value} {ls : List V} (n : Nat), VRs fa μ h vs ls → VRs fa μ h (vs.drop n) (ls.drop n)
  | _, _, 0, hs => by simpa using hs
  | _, _, n + 1, .nil => by simpa using VRs.nil
  | _, _, n + 1, .cons hv hs => by simpa using hs.drop n
theorem VRs.reverse {μ : List Addr} {h : Heap} {vs : List Value} {ls : List V} (x : VRs fa μ h vs ls) : VRs fa μ h vs.reverse ls.reverse := by
  induction vs generalizing ls with
  | nil => cases x; exact .nil
  | cons v vs ih =>
    cases x with
    | cons hv hs => rw [List.reverse_cons, List.reverse_cons]; exact (ih hs).append (.cons hv .nil)
theorem VRs.set {μ : List Addr} {h : Heap} {v : Value} {l : V} (hv : VR fa μ h v l) : ∀ {vs : List Value} {ls : List V} (n : Nat), VRs fa μ h vs ls → VRs fa μ h (vs.set n v) (ls.set n l)
  | _, _, _, .nil => by simpa using VRs.nil
  | _, _, 0, .cons _ hs => by simpa using VRs.cons hv hs
  | _, _, n + 1, .cons hw hs => by simpa using VRs.cons hw (hs.set hv n)
theorem VRs.eraseIdx {μ : List Addr} {h : Heap} : ∀ {vs : List Value} {ls : List V} (n : Nat), VRs fa μ h vs ls → VRs fa μ h (vs.eraseIdx n) (ls.eraseIdx n)
  | _, _, _, .nil => by simpa using VRs.nil
  | _, _, 0, .cons _ hs => by simpa using hs
  | _, _, n + 1, .cons hw hs => by simpa using VRs.cons hw (hs.eraseIdx n)

/-- the heap of lists lies in the heap of objects -/
structure LH (fa : Nat → Option Addr) (μ : List Addr) (H : HP) (h : Heap) : Prop where
  len : μ.length = H.length
  nd : μ.Nodup
  at' : ∀ (i : Nat) (a : Addr) (xs : List V), μ[i]? = some a → H[i]? = some xs → ∃ vs n, h.get? a = some (Lobj vs n) ∧ VRs fa μ h vs xs

theorem LH.get {μ : List Addr} {H : HP} {h : Heap} (x : LH fa μ H h) {i : Nat} {xs : List V} {v : Value} (hv : VR fa μ h v (.list i)) (e : H[i]? = some xs) :
    ∃ a vs n, v = .ref a ∧ μ[i]? = some a ∧ h.get? a = some (Lobj vs n) ∧ VRs fa μ h vs xs := by
  obtain ⟨a, rfl, hi⟩ := hv.list_inv
  obtain ⟨vs, n, h1, h2⟩ := x.at' i a xs hi e
  exact ⟨a, vs, n, rfl, hi, h1, h2⟩
@[elab_as_elim] theorem LH.getK {μ : List Addr} {H : HP} {h : Heap} {P : Value → Prop} (x : LH fa μ H h) {i : Nat} {xs : List V} {v : Value} (hv : VR fa μ h v (.list i)) (e : H[i]? = some xs)
    (k : ∀ a vs n, μ[i]? = some a → h.get? a = some (Lobj vs n) → VRs fa μ h vs xs → P (.ref a)) : P v := by
  obtain ⟨a, vs, n, rfl, h1, h2, h3⟩ := x.get hv e
  exact k a vs n h1 h2 h3
theorem LH.mem {μ : List Addr} {H : HP} {h : Heap} (x : LH fa μ H h) {a : Addr} (ha : a ∈ μ) : ∃ vs n, h.get? a = some (Lobj vs n) := by
  obtain ⟨i, hi, rfl⟩ := List.getElem_of_mem ha
  have hi' : i < H.length := by rw [← x.len]; exact hi
  obtain ⟨vs, n, h1, _⟩ := x.at' i μ[i] H[i] (List.getElem?_eq_getElem hi) (List.getElem?_eq_getElem hi')
  exact ⟨vs, n, h1⟩
theorem LH.not_mem_of {μ : List Addr} {H : HP} {h : Heap} (x : LH fa μ H h) {a : Addr} {o : Obj} (ho : h.get? a = some o) (hc : ∀ vs n, o ≠ Lobj vs n) : a ∉ μ := fun ha => by
  obtain ⟨vs, n, h1⟩ := x.mem ha
  rw [h1] at ho
  exact hc vs n (Option.some.inj ho).symm
theorem LH.not_mem_fresh {μ : List Addr} {H : HP} {h : Heap} (x : LH fa μ H h) {a : Addr} (ho : h.get? a = none) : a ∉ μ := fun ha => by
  obtain ⟨vs, n, h1⟩ := x.mem ha
  rw [h1] at ho; cases ho

theorem prefix_get {α : Type} {l m : List α} {i : Nat} {a : α} (h : l <+: m) (e : l[i]? = some a) : m[i]? = some a := by
  obtain ⟨t, rfl⟩ := h
  rw [List.getElem?_append_left (by
    rcases Nat.lt_or_ge i l.length with hlt | hge
    · exact hlt
    · rw [List.getElem?_eq_none hge] at e; cases e)]; exact e

/-- what a step leaves: FA are the frame's own objects -/
structure Xt (FA : List Addr) (μ : List Addr) (h : Heap) (μ' : List Addr) (h' : Heap) : Prop where
  pre : μ <+: μ'
  new : ∀ a ∈ μ', a ∉ μ → h.get? a = none
  live : ∀ a o, h.get? a = some o → ∃ o', h'.get? a = some o'
  keep : ∀ b o, h.get? b = some o → b ∉ μ → b ∉ FA → h'.get? b = some o
  kv : ∀ b o, h.get? b = some o → isV o → h'.get? b = some o
  zero : ∀ a o, μ[0]? = some a → h.get? a = some o → h'.get? a = some o

section
variable {FA μ μ' μ'' : List Addr} {h h' h'' : Heap} {H H' : HP}
theorem Xt.refl : Xt FA μ h μ h := ⟨List.prefix_refl _, fun _ a b => absurd a b, fun _ o e => ⟨o, e⟩, fun _ _ e _ _ => e, fun _ _ e _ => e, fun _ _ _ e => e⟩
theorem Xt.trans (x : Xt FA μ h μ' h') (y : Xt FA μ' h' μ'' h'') : Xt FA μ h μ'' h'' where
  pre := x.pre.trans y.pre
  new := fun a ha hn => by
    by_cases hm : a ∈ μ'
    · exact x.new a hm hn
    · cases e : h.get? a with
      | none => rfl
      | some o =>
        obtain ⟨o', e'⟩ := x.live a o e
        rw [y.new a ha hm] at e'; cases e'
  live := fun a o e => let ⟨o', e'⟩ := x.live a o e; y.live a o' e'
  keep := fun b o e h1 h2 => y.keep b o (x.keep b o e h1 h2) (fun hm => by rw [x.new b hm h1] at e; cases e) h2
  kv := fun b o e hv => y.kv b o (x.kv b o e hv) hv
  zero := fun a o e1 e2 => y.zero a o (prefix_get x.pre e1) (x.zero a o e1 e2)
theorem Xt.weaken {FB : List Addr} (x : Xt FA μ h μ' h') (hs : ∀ a ∈ FA, a ∈ FB) : Xt FB μ h μ' h' :=
  ⟨x.pre, x.new, x.live, fun b o e h1 h2 => x.keep b o e h1 fun hm => h2 (hs b hm), x.kv, x.zero⟩
theorem Xt.toF (x : Xt [] μ h μ' h') : Xt FA μ h μ' h' := x.weaken fun _ h => nomatch h
theorem Xt.ext (hk : ∀ b o, h.get? b = some o → h'.get? b = some o) : Xt FA μ h μ h' :=
  ⟨List.prefix_refl _, fun _ a b => absurd a b, fun a o e => ⟨o, hk a o e⟩, fun b o e _ _ => hk b o e, fun b o e _ => hk b o e, fun a o _ e => hk a o e⟩
theorem Xt.vr (x : Xt FA μ h μ' h') {v : Value} {l : V} (r : VR fa μ h v l) : VR fa μ' h' v l := r.mono x.pre x.kv
theorem Xt.vrs (x : Xt FA μ h μ' h') {v : List Value} {l : List V} (r : VRs fa μ h v l) : VRs fa μ' h' v l := r.mono x.pre x.kv

theorem LH.ext (x : LH fa μ H h) (hk : ∀ b o, h.get? b = some o → h'.get? b = some o) : LH fa μ H h' :=
  ⟨x.len, x.nd, fun i a xs e1 e2 => let ⟨vs, n, h1, h2⟩ := x.at' i a xs e1 e2; ⟨vs, n, hk _ _ h1, h2.mono (List.prefix_refl _) fun b o e _ => hk b o e⟩⟩

/-- a new list -/
theorem LH.new {a : Addr} {vs : List Value} {n : Nat} {xs : List V} (x : LH fa μ H h) (hk : ∀ b o, h.get? b = some o → h'.get? b = some o) (hn : h.get? a = none) (ha : h'.get? a = some (Lobj vs n)) (hv : VRs fa μ h vs xs) :
    LH fa (μ ++ [a]) (H ++ [xs]) h' ∧ Xt FA μ h (μ ++ [a]) h' ∧ VR fa (μ ++ [a]) h' (.ref a) (.list H.length) := by
  have hp : μ <+: μ ++ [a] := List.prefix_append _ _
  have hm : a ∉ μ := x.not_mem_fresh hn
  refine ⟨⟨by simp [x.len], List.nodup_append.mpr ⟨x.nd, by simp, fun b hb c hc e => ?_⟩, fun i b ys e1 e2 => ?_⟩, ⟨hp, fun b hb hnb => ?_, fun b o e => ⟨o, hk b o e⟩, fun b o e _ _ => hk b o e, fun b o e _ => hk b o e, fun a o _ e => hk a o e⟩, .list ?_⟩
  · rw [List.mem_singleton.mp hc] at e; exact hm (e ▸ hb)
  · rcases Nat.lt_trichotomy i H.length with hlt | heq | hgt
    · rw [List.getElem?_append_left (by rw [x.len]; exact hlt)] at e1
      rw [List.getElem?_append_left hlt] at e2
      obtain ⟨ws, k, h1, h2⟩ := x.at' i b ys e1 e2
      exact ⟨ws, k, hk _ _ h1, h2.mono hp fun b o e _ => hk b o e⟩
    · subst heq
      rw [List.getElem?_append_right (by rw [x.len]; exact Nat.le_refl _), x.len, Nat.sub_self] at e1
      rw [List.getElem?_append_right (Nat.le_refl _), Nat.sub_self] at e2
      simp at e1 e2
      subst e1; subst e2
      exact ⟨vs, n, ha, hv.mono hp fun b o e _ => hk b o e⟩
    · rw [List.getElem?_eq_none (by simp; (first | lia | omega))] at e2; cases e2
  · rcases List.mem_append.mp hb with hb | hb
    · exact absurd hb hnb
    · rw [List.mem_singleton.mp hb]; exact hn
  · rw [List.getElem?_append_right (by rw [x.len]; exact Nat.le_refl _), x.len, Nat.sub_self]; rfl

/-- a list of the heap is changed -/
theorem LH.upd {i : Nat} {a : Addr} {vs : List Value} {n : Nat} {xs : List V} (x : LH fa μ H h) (hi : μ[i]? = some a) (hi0 : i ≠ 0) (hk : ∀ b o, b ≠ a → h.get? b = some o → h'.get? b = some o) (ha : h'.get? a = some (Lobj vs n)) (hv : VRs fa μ h vs xs) :
    LH fa μ (H.set i xs) h' ∧ Xt FA μ h μ h' := by
  have hm : a ∈ μ := List.mem_of_getElem? hi
  have hil : i < μ.length := by
    rcases Nat.lt_or_ge i μ.length with hlt | hge
    · exact hlt
    · rw [List.getElem?_eq_none hge] at hi; cases hi
  have hv' : ∀ b o, h.get? b = some o → isV o → h'.get? b = some o := fun b o e hV => by
    refine hk b o (fun e' => ?_) e
    obtain ⟨ws, k, h1⟩ := x.mem hm
    rw [e', h1] at e
    exact not_isV_list _ _ ((Option.some.inj e) ▸ hV)
  refine ⟨⟨by simp [x.len], x.nd, fun j b ys e1 e2 => ?_⟩, ⟨List.prefix_refl _, fun _ a b => absurd a b, fun b o e => ?_, fun b o e h1 _ => hk b o (fun e' => h1 (e' ▸ hm)) e, hv', fun b o e1 e2 => hk b o (fun e' => hi0 (nodup_inj x.nd hi (e' ▸ e1))) e2⟩⟩
  · by_cases hij : j = i
    · subst hij
      rw [hi] at e1; cases e1
      rw [List.getElem?_set_self (by rw [← x.len]; exact hil)] at e2
      cases e2
      exact ⟨vs, n, ha, hv.mono (List.prefix_refl _) hv'⟩
    · rw [List.getElem?_set_ne (Ne.symm hij)] at e2
      obtain ⟨ws, k, h1, h2⟩ := x.at' j b ys e1 e2
      refine ⟨ws, k, hk _ _ (fun e' => hij ?_) h1, h2.mono (List.prefix_refl _) hv'⟩
      exact nodup_inj x.nd (e' ▸ e1) hi
  · by_cases hb : b = a
    · subst hb; exact ⟨_, ha⟩
    · exact ⟨o, hk b o hb e⟩
end



inductive Op where | add | sub | mul | div | mod | pow
inductive Cm where | lt | le | gt | ge | eq | ne | is | isn | isin | nin
inductive Mt where | append | insert | pop | remove

mutual
inductive Ex where
  | var (i : Nat)
  | lit (v : V)
  | bin (op : Op) (a b : Ex)
  | neg (a : Ex)
  | not (a : Ex)
  | and (a b : Ex)
  | or (a b : Ex)
  | cmp (op : Cm) (a b : Ex)
  | ite (c a b : Ex)
  | call (f : Ex) (args : Exs)
  | callK (f : Ex) (args : Exs) (k : Ex)
  | meth (m : Mt) (o : Ex) (args : Exs)
  | idx (o i : Ex)
  | sl (o lo hi st : Ex)
  | lst (es : Exs)
  | tpl (es : Exs)
  | comp (elt : Ex) (nt : Nat) (tp : Bool) (iter : Ex) (cond : Ex)
inductive Exs where
  | nil
  | cons (e : Ex) (es : Exs)
end

inductive St where
  | skip
  | seq (a b : St)
  | asg (i : Nat) (e : Ex)
  | unp (is : List Nat) (e : Ex)
  | setI (o i e : Ex)
  | aug (o i : Ex) (op : Op) (e : Ex)
  | exp (e : Ex)
  | ite (c : Ex) (a b : St)
  | whl (c : Ex) (b : St)
  | fr (is : List Nat) (tp : Bool) (it : Ex) (b : St)
  | ret (e : Ex)
  | brk
  | bad

inductive Fl where
  | next | brk | ret (v : V)

noncomputable abbrev Rho := List (Option V)

/-! partial steps -/
theorem no {α : Type} {P : Prop} {a : α} (h : none = some a) : P := nomatch h
theorem nf {P : Prop} (h : false = true) : P := nomatch h
theorem nt {P : Prop} (h : true = false) : P := nomatch h
theorem ob {α β : Type} {o : Option α} {f : α → Option β} {r : β} (h : o.bind f = some r) : ∃ a, o = some a ∧ f a = some r := Option.bind_eq_some_iff.mp h
theorem om {α β : Type} {o : Option α} {f : α → β} {r : β} (h : o.map f = some r) : ∃ a, o = some a ∧ f a = r := Option.map_eq_some_iff.mp h
theorem oi {α : Type} {c : Prop} [Decidable c] {x : Option α} {r : α} (h : (if c then x else none) = some r) : c ∧ x = some r := by
  by_cases hc : c
  · exact ⟨hc, (if_pos hc).symm.trans h⟩
  · exact no ((if_neg hc).symm.trans h)
theorem oe {α β : Type} {o : Option α} {f : α → Option β} {d : Option β} {r : β} (h : o.elim d f = some r) : (o = none ∧ d = some r) ∨ ∃ a, o = some a ∧ f a = some r := by
  cases o with
  | none => exact Or.inl ⟨rfl, h⟩
  | some a => exact Or.inr ⟨a, rfl, h⟩
section
variable {α β : Type} {o : Option α} {P : Prop}
theorem obK {f : α → Option β} {r : β} (h : o.bind f = some r) (k : ∀ a, o = some a → f a = some r → P) : P := let ⟨a, h1, h2⟩ := ob h; k a h1 h2
theorem omK {f : α → β} {r : β} (h : o.map f = some r) (k : ∀ a, o = some a → f a = r → P) : P := let ⟨a, h1, h2⟩ := om h; k a h1 h2
theorem oiK {c : Prop} [Decidable c] {r : α} (h : (if c then o else none) = some r) (k : c → o = some r → P) : P := let ⟨h1, h2⟩ := oi h; k h1 h2
theorem oeK {f : α → Option β} {d : Option β} {r : β} (h : o.elim d f = some r) (k1 : o = none → d = some r → P) (k2 : ∀ a, o = some a → f a = some r → P) : P := (oe h).elim (fun h => k1 h.1 h.2) fun ⟨a, h1, h2⟩ => k2 a h1 h2
end
theorem bAnd {a b : Bool} (h : (a && b) = true) : a = true ∧ b = true := by
  cases a with
  | true => exact ⟨rfl, h⟩
  | false => exact nf h

/-! what a value is -/
noncomputable def intOf : V → Option Int
  | .int i => some i
  | _ => none
noncomputable def boolOf : V → Option Bool
  | .bool i => some i
  | _ => none
noncomputable def asBytes : V → Option (List UInt8)
  | .bytes b => some b
  | _ => none
noncomputable def asList : V → Option Nat
  | .list i => some i
  | _ => none
noncomputable def asTup : V → Option (List V)
  | .tup l => some l
  | _ => none
noncomputable def isNone : V → Bool
  | .none => true
  | _ => false
noncomputable def one : List V → Option V
  | [] => none
  | x :: r => if r.isEmpty then some x else none
noncomputable def two : List V → Option (V × V)
  | [] => none
  | x :: r => (one r).map fun y => (x, y)
theorem intOf_inv {x : V} {i : Int} (h : intOf x = some i) : x = .int i := by
  cases x with
  | int j => exact congrArg V.int (Option.some.inj h)
  | _ => exact no h
theorem boolOf_inv {x : V} {i : Bool} (h : boolOf x = some i) : x = .bool i := by
  cases x with
  | bool j => exact congrArg V.bool (Option.some.inj h)
  | _ => exact no h
theorem asBytes_inv {x : V} {i : List UInt8} (h : asBytes x = some i) : x = .bytes i := by
  cases x with
  | bytes j => exact congrArg V.bytes (Option.some.inj h)
  | _ => exact no h
theorem asList_inv {x : V} {i : Nat} (h : asList x = some i) : x = .list i := by
  cases x with
  | list j => exact congrArg V.list (Option.some.inj h)
  | _ => exact no h
theorem asTup_inv {x : V} {i : List V} (h : asTup x = some i) : x = .tup i := by
  cases x with
  | tup j => exact congrArg V.tup (Option.some.inj h)
  | _ => exact no h
theorem isNone_inv {x : V} (h : isNone x = true) : x = .none := by
  cases x with
  | none => rfl
  | _ => exact nf h
theorem one_inv {l : List V} {x : V} (h : one l = some x) : l = [x] := by
  cases l with
  | nil => exact no h
  | cons y r =>
    obtain ⟨h1, h2⟩ := oi h
    rw [List.isEmpty_iff.mp h1, Option.some.inj h2]
theorem two_inv {l : List V} {p : V × V} (h : two l = some p) : l = [p.1, p.2] := by
  cases l with
  | nil => exact no h
  | cons y r =>
    obtain ⟨a, h1, h2⟩ := om h
    rw [one_inv h1, ← h2]

/-! ints -/
noncomputable def small (i : Int) : Bool := decide (i.natAbs < 2 ^ 64)
noncomputable def mid (i : Int) : Bool := decide (i.natAbs < 2 ^ 250)
noncomputable def binI : Op → Int → Int → Option Int
  | .add, a, b => some (a + b)
  | .sub, a, b => some (a - b)
  | .mul, a, b => if small a || small b || (mid a && mid b) then some (a * b) else none
  | .div, a, b => if decide (b ≠ 0) && mid b then some (a.fdiv b) else none
  | .mod, a, b => if decide (b ≠ 0) then some (a.fmod b) else none
  | .pow, a, b => if decide (a.natAbs < 2 ^ 20) && decide (0 ≤ b) && decide (b ≤ 64) then some (a ^ b.toNat) else none

noncomputable def lenOk (n : Nat) : Bool := decide (n ≤ 2 ^ 20)
noncomputable def addS (x y : V) (H : HP) : Option (V × HP) :=
  (asBytes x).elim ((asList x).bind fun i => (asList y).bind fun j => (H[i]?).bind fun xs => (H[j]?).bind fun ys => if lenOk (xs.length + ys.length) then some (.list H.length, H ++ [xs ++ ys]) else none)
    fun a => (asBytes y).bind fun b => if lenOk (a.length + b.length) then some (.bytes (a ++ b), H) else none
noncomputable def mulS (x y : V) (H : HP) : Option (V × HP) :=
  (asList x).bind fun i => (intOf y).bind fun k => (H[i]?).bind fun xs => if decide (0 ≤ k) && decide (k ≤ 1000) && decide (xs.length ≤ 1000) then some (.list H.length, H ++ [(List.replicate k.toNat xs).flatten]) else none
noncomputable def binS : Op → V → V → HP → Option (V × HP)
  | .add => addS
  | .mul => mulS
  | _ => fun _ _ _ => none
noncomputable def bin (op : Op) (x y : V) (H : HP) : Option (V × HP) :=
  (intOf x).elim (binS op x y H) fun a => (intOf y).bind fun b => (binI op a b).map fun c => (.int c, H)

noncomputable def tr : V → Option Bool
  | .none => some false
  | .bool b => some b
  | .int i => some (i != 0)
  | _ => none

/-! equality -/
noncomputable def eq0 (x y : V) : Option Bool :=
  (intOf x).elim ((asBytes x).bind fun a => (asBytes y).map fun b => a == b) fun a => (intOf y).map fun b => a == b
noncomputable def eqs (f : V → V → Option Bool) : List V → List V → Option Bool
  | [], ys => if ys.isEmpty then some true else none
  | x :: xs, ys => (match ys with
    | [] => none
    | y :: ys => (f x y).bind fun a => (eqs f xs ys).map fun b => a && b)
noncomputable def eq1 (x y : V) : Option Bool := (asTup x).elim (eq0 x y) fun a => (asTup y).bind fun b => eqs eq0 a b
noncomputable def eqL (H : HP) (i j : Nat) : Option Bool :=
  (H[i]?).bind fun xs => (H[j]?).bind fun ys => if xs.length = ys.length then (if i = j then none else eqs eq1 xs ys) else some false
noncomputable def eqV (H : HP) (x y : V) : Option Bool := (asList x).elim (eq0 x y) fun i => (asList y).bind fun j => eqL H i j
noncomputable def isN : V → Option Bool
  | .none => some true
  | .bool _ => some false
  | .int _ => some false
  | .fn _ => some false
  | .list _ => some false
  | _ => none
noncomputable def isV' (x y : V) : Option Bool :=
  (boolOf y).elim (if isNone y then isN x else none) fun b => (boolOf x).elim (if isNone x then some false else none) fun a => some (a == b)
noncomputable def intsOf : List V → Option (List Int)
  | [] => some []
  | x :: xs => (intOf x).bind fun i => (intsOf xs).map fun is => i :: is
noncomputable def inV (H : HP) (x y : V) : Option Bool :=
  (intOf x).bind fun a => (asList y).bind fun j => (H[j]?).bind fun ys => (intsOf ys).map fun is => is.contains a
noncomputable def cmpI (f : Int → Int → Bool) (a b : V) : Option Bool := (intOf a).bind fun x => (intOf b).map fun y => f x y
noncomputable def cmpV (op : Cm) (a b : V) (H : HP) : Option Bool :=
  match op with
  | .lt => cmpI (fun x y => decide (x < y)) a b
  | .le => cmpI (fun x y => decide (x ≤ y)) a b
  | .gt => cmpI (fun x y => decide (y < x)) a b
  | .ge => cmpI (fun x y => decide (y ≤ x)) a b
  | .eq => eqV H a b
  | .ne => (eqV H a b).map (!·)
  | .is => isV' a b
  | .isn => (isV' a b).map (!·)
  | .isin => inV H a b
  | .nin => (inV H a b).map (!·)

/-! items, slices -/
noncomputable def getL (xs : List V) (k : Int) : Option V :=
  if 0 ≤ k then (if k < 2 ^ 62 then xs[k.toNat]? else none) else (if -(2 ^ 62) ≤ k ∧ 0 ≤ k + xs.length then xs[(k + xs.length).toNat]? else none)
noncomputable def getI (x y : V) (H : HP) : Option V := (intOf y).bind fun k => match x with
  | .list i => (H[i]?).bind fun xs => getL xs k
  | .tup xs => if 0 ≤ k ∧ k < 2 ^ 62 then xs[k.toNat]? else none
  | .bytes b => if 0 ≤ k ∧ k < b.length ∧ b.length ≤ 2 ^ 20 then some (.int (b.getD k.toNat 0).toNat) else none
  | _ => none
noncomputable def hiOf (n : Nat) (x : V) : Option Nat := if isNone x then some n else (intOf x).bind fun k => if 0 ≤ k then some k.toNat else none
noncomputable def cutG {α : Type} (xs : List α) (lo hi : V) : Option (List α) :=
  (hiOf 0 lo).bind fun a => (hiOf xs.length hi).map fun b => (xs.drop a).take (b - a)
noncomputable def slG {α : Type} (xs : List α) (lo hi st : V) : Option (List α) :=
  if isNone st then cutG xs lo hi else (intOf st).bind fun k => if k = -1 ∧ isNone lo = true ∧ isNone hi = true then some xs.reverse else none
noncomputable def slV (x lo hi st : V) (H : HP) : Option (V × HP) :=
  (asBytes x).elim ((asList x).bind fun i => (H[i]?).bind fun xs => (slG xs lo hi st).bind fun ys => if lenOk xs.length then some (.list H.length, H ++ [ys]) else none)
    fun b => if isNone st then (cutG b lo hi).bind fun ys => if lenOk b.length then some (.bytes ys, H) else none else none

/-! built-ins -/
noncomputable def lexLt : List Int → List Int → Bool
  | _, [] => false
  | [], _ :: _ => true
  | a :: as, b :: bs => if a = b then lexLt as bs else decide (a < b)
noncomputable def tupOf (x : V) : Option (List Int) := (asTup x).bind intsOf
noncomputable def tupsOf : List V → Option (List (List Int))
  | [] => some []
  | x :: xs => (tupOf x).bind fun i => (tupsOf xs).map fun is => i :: is
noncomputable def minL : List Int → List (List Int) → List Int
  | m, [] => m
  | m, x :: xs => minL (if lexLt x m then x else m) xs
noncomputable def insL (x : List Int) : List (List Int) → List (List Int)
  | [] => [x]
  | y :: ys => if lexLt x y then x :: y :: ys else y :: insL x ys
noncomputable def sortL : List (List Int) → List (List Int)
  | [] => []
  | x :: xs => insL x (sortL xs)
noncomputable def enc (t : List Int) : Int := match t with
  | [a, b] => a * 1000 + b
  | _ => 0
noncomputable def pairOk (t : List Int) : Bool := match t with
  | [a, b] => decide (0 ≤ a) && decide (a < 1000) && decide (0 ≤ b) && decide (b < 1000)
  | _ => false
noncomputable def ofInts (l : List Int) : V := .tup (l.map .int)
noncomputable def rangeL (a b c : Int) : List V := (rangeInts a c (Builtin.Range.rangeSize a b c).toNat).map .int
noncomputable def okR (x : Int) : Bool := decide (-(2 ^ 60) ≤ x) && decide (x ≤ 2 ^ 60)
noncomputable def byteOf (i : Int) : Option UInt8 := if 0 ≤ i ∧ i < 256 then some (UInt8.ofNat i.toNat) else none
noncomputable def bytesOf : List Int → Option (List UInt8)
  | [] => some []
  | x :: xs => (byteOf x).bind fun i => (bytesOf xs).map fun is => i :: is

noncomputable def lenOf (x : V) (H : HP) : Option Nat := (asBytes x).elim ((asList x).bind fun i => (H[i]?).map List.length) fun b => some b.length
noncomputable def biLen (args : List V) (H : HP) : Option (V × HP) := (one args).bind fun x => (lenOf x H).bind fun n => if lenOk n then some (.int n, H) else none
noncomputable def rng (a b c : Int) (H : HP) : Option (V × HP) := if okR a && okR b && okR c && decide (c ≠ 0) then some (.range a b c, H) else none
noncomputable def biRange (args : List V) (H : HP) : Option (V × HP) := (intsOf args).bind fun l => match l with
  | [] => none
  | a :: l => (match l with
    | [] => rng 0 a 1 H
    | b :: l => (match l with
      | [] => rng a b 1 H
      | c :: l => if l.isEmpty then rng a b c H else none))
noncomputable def biInt (args : List V) (H : HP) : Option (V × HP) := (one args).bind fun x => (intOf x).map fun a => (.int a, H)
noncomputable def biAbs (args : List V) (H : HP) : Option (V × HP) := (one args).bind fun x => (intOf x).map fun a => (.int (a.natAbs : Int), H)
noncomputable def biDivmod (args : List V) (H : HP) : Option (V × HP) := (two args).bind fun p => (intOf p.1).bind fun a => (intOf p.2).bind fun b =>
  if decide (b ≠ 0) && mid b then some (.tup [.int (a.fdiv b), .int (a.fmod b)], H) else none
noncomputable def isBy : V → Bool
  | .bi b => b.isBytes
  | _ => false
noncomputable def biIsinstance (args : List V) (H : HP) : Option (V × HP) := (two args).bind fun p => (asBytes p.1).bind fun _ => if isBy p.2 then some (.bool true, H) else none
noncomputable def biBytes (args : List V) (H : HP) : Option (V × HP) := (one args).bind fun x => (asList x).bind fun i => (H[i]?).bind fun xs => (intsOf xs).bind fun is => (bytesOf is).bind fun bs => if lenOk xs.length then some (.bytes bs, H) else none
noncomputable def rangeV (x : V) : Option (List V) := match x with
  | .range a b c => if lenOk (rangeL a b c).length && okR a && okR b && okR c && decide (c ≠ 0) then some (rangeL a b c) else none
  | _ => none
noncomputable def biList (args : List V) (H : HP) : Option (V × HP) := (one args).bind fun x => (asList x).elim ((rangeV x).map fun xs => (.list H.length, H ++ [xs]))
  fun i => (H[i]?).bind fun xs => if lenOk xs.length then some (.list H.length, H ++ [xs]) else none
noncomputable def minT (xs : List V) (H : HP) : Option (V × HP) := (tupsOf xs).bind fun ts => match ts with
  | [] => none
  | m :: ms => if lenOk xs.length && ms.all (fun t => t.length == m.length) then some (ofInts (minL m ms), H) else none
noncomputable def biMin (args : List V) (H : HP) : Option (V × HP) := (two args).elim ((one args).bind fun x => (asList x).bind fun i => (H[i]?).bind fun xs => minT xs H)
  fun p => (intOf p.1).bind fun a => (intOf p.2).map fun b => (.int (if b < a then b else a), H)
noncomputable def biMax (args : List V) (H : HP) : Option (V × HP) := (two args).bind fun p => (intOf p.1).bind fun a => (intOf p.2).map fun b => (.int (if a < b then b else a), H)
noncomputable def biSorted (args : List V) (H : HP) : Option (V × HP) := (one args).bind fun x => (asList x).bind fun i => (H[i]?).bind fun xs => (tupsOf xs).bind fun ts =>
  if (decide (2 ≤ xs.length) && decide (xs.length ≤ 60)) && (ts.all pairOk && decide (ts.map enc).Nodup) then some (.list H.length, H ++ [(sortL ts).map ofInts]) else none
noncomputable def bi (b : Bi) (args : List V) (H : HP) : Option (V × HP) :=
  match b with
  | .len => biLen args H
  | .range => biRange args H
  | .int => biInt args H
  | .abs => biAbs args H
  | .divmod => biDivmod args H
  | .isinstance => biIsinstance args H
  | .bytes => biBytes args H
  | .list => biList args H
  | .min => biMin args H
  | .max => biMax args H
  | .sorted => biSorted args H

noncomputable def mtAppend (i : Nat) (xs vs : List V) (H : HP) : Option (V × HP) := (one vs).bind fun v => if lenOk xs.length then some (.none, H.set i (xs ++ [v])) else none
noncomputable def mtInsert (i : Nat) (xs vs : List V) (H : HP) : Option (V × HP) := (two vs).bind fun p => (intOf p.1).bind fun k =>
  if lenOk xs.length && decide (0 ≤ k) && decide (k ≤ xs.length) then some (.none, H.set i (xs.take k.toNat ++ p.2 :: xs.drop k.toNat)) else none
noncomputable def mtPop (i : Nat) (xs vs : List V) (H : HP) : Option (V × HP) := match vs with
  | [] => (xs[xs.length - 1]?).bind fun v => if lenOk xs.length then some (v, H.set i (xs.eraseIdx (xs.length - 1))) else none
  | x :: r => (one (x :: r)).bind fun x => (intOf x).bind fun k => (xs[k.toNat]?).bind fun v => if lenOk xs.length && decide (0 ≤ k) then some (v, H.set i (xs.eraseIdx k.toNat)) else none
noncomputable def mtRemove (i : Nat) (xs vs : List V) (H : HP) : Option (V × HP) := (one vs).bind fun v => (intOf v).bind fun k => (intsOf xs).bind fun is =>
  if lenOk xs.length && is.contains k then some (.none, H.set i (xs.eraseIdx (is.idxOf k))) else none
noncomputable def meth0 (m : Mt) : Nat → List V → List V → HP → Option (V × HP) :=
  match m with
  | .append => mtAppend
  | .insert => mtInsert
  | .pop => mtPop
  | .remove => mtRemove
/-- the first list of all is never changed -/
noncomputable def meth (m : Mt) (x : V) (vs : List V) (H : HP) : Option (V × HP) :=
  (asList x).bind fun i => (H[i]?).bind fun xs => if i ≠ 0 then meth0 m i xs vs H else none

/-! the evaluator -/
noncomputable abbrev FnT := Nat → List V → Option V → HP → Option (V × HP)
noncomputable def app (Φ : FnT) (f : V) (args : List V) (k : Option V) (H : HP) : Option (V × HP) :=
  match f with
  | .fn n => Φ n args k H
  | .bi b => if k.isNone then bi b args H else none
  | _ => none

inductive Src where
  | fixed (vs : List V)
  | lst (i : Nat)
noncomputable def srcOf (v : V) (H : HP) : Option Src :=
  match v with
  | .list i => (H[i]?).bind fun xs => if lenOk xs.length then some (.lst i) else none
  | .range a b c => (rangeV (.range a b c)).map .fixed
  | .bytes b => if lenOk b.length then some (.fixed (b.map fun x => .int x.toNat)) else none
  | _ => none
noncomputable def Src.items (s : Src) (H : HP) : Option (List V) :=
  match s with
  | .fixed vs => some vs
  | .lst i => H[i]?
noncomputable def Src.fuel (s : Src) (H : HP) : Nat := ((s.items H).getD []).length + 1

/-- the targets' values: one name, or a tuple's parts -/
noncomputable def partsOf (v : V) (H : HP) : Option (List V) := match v with
  | .tup xs => some xs
  | .list i => H[i]?
  | _ => none
noncomputable def parts (tp : Bool) (n : Nat) (v : V) (H : HP) : Option (List V) :=
  cond tp ((partsOf v H).bind fun xs => if xs.length = n then some xs else none) (if n = 1 then some [v] else none)

noncomputable def compGo (f : V → HP → Option (Option V × HP)) (src : Src) : Nat → Nat → HP → Option (List V × HP)
  | 0, _, _ => none
  | k + 1, i, H => (src.items H).bind fun xs => (xs[i]?).elim (some ([], H)) fun x => (f x H).bind fun r => (compGo f src k (i + 1) r.2).map fun q => (r.1.elim q.1 (· :: q.1), q.2)

mutual
noncomputable def ev (Φ : FnT) : Ex → Rho → HP → Option (V × HP)
  | .var i, ρ, H => (ρ[i]?).bind fun o => o.map fun v => (v, H)
  | .lit v, _, H => some (v, H)
  | .bin op a b, ρ, H => (ev Φ a ρ H).bind fun x => (ev Φ b ρ x.2).bind fun y => bin op x.1 y.1 y.2
  | .neg a, ρ, H => (ev Φ a ρ H).bind fun x => (intOf x.1).map fun i => (.int (-i), x.2)
  | .not a, ρ, H => (ev Φ a ρ H).bind fun x => (tr x.1).map fun c => (.bool (!c), x.2)
  | .and a b, ρ, H => (ev Φ a ρ H).bind fun x => (tr x.1).bind fun c => cond c (ev Φ b ρ x.2) (some x)
  | .or a b, ρ, H => (ev Φ a ρ H).bind fun x => (tr x.1).bind fun c => cond c (some x) (ev Φ b ρ x.2)
  | .cmp op a b, ρ, H => (ev Φ a ρ H).bind fun x => (ev Φ b ρ x.2).bind fun y => (cmpV op x.1 y.1 y.2).map fun c => (.bool c, y.2)
  | .ite c a b, ρ, H => (ev Φ c ρ H).bind fun x => (tr x.1).bind fun c => cond c (ev Φ a ρ x.2) (ev Φ b ρ x.2)
  | .call f args, ρ, H => (ev Φ f ρ H).bind fun g => (evs Φ args ρ g.2).bind fun vs => app Φ g.1 vs.1 none vs.2
  | .callK f args k, ρ, H => (ev Φ f ρ H).bind fun g => (evs Φ args ρ g.2).bind fun vs => (ev Φ k ρ vs.2).bind fun kv => app Φ g.1 vs.1 (some kv.1) kv.2
  | .meth m o args, ρ, H => (ev Φ o ρ H).bind fun x => (evs Φ args ρ x.2).bind fun vs => meth m x.1 vs.1 vs.2
  | .idx o i, ρ, H => (ev Φ o ρ H).bind fun x => (ev Φ i ρ x.2).bind fun y => (getI x.1 y.1 y.2).map fun v => (v, y.2)
  | .sl o lo hi st, ρ, H => (ev Φ o ρ H).bind fun x => (ev Φ lo ρ x.2).bind fun a => (ev Φ hi ρ a.2).bind fun b => (ev Φ st ρ b.2).bind fun c => slV x.1 a.1 b.1 c.1 c.2
  | .lst es, ρ, H => (evs Φ es ρ H).bind fun vs => if lenOk vs.1.length then some (.list vs.2.length, vs.2 ++ [vs.1]) else none
  | .tpl es, ρ, H => (evs Φ es ρ H).bind fun vs => if lenOk vs.1.length then some (.tup vs.1, vs.2) else none
  | .comp elt nt tp iter cnd, ρ, H => (ev Φ iter ρ H).bind fun x => (srcOf x.1 x.2).bind fun src => (compGo (fun v H => (parts tp nt v H).bind fun ps => (ev Φ cnd (ρ ++ ps.map some) H).bind fun c => (tr c.1).bind fun t =>
      cond t ((ev Φ elt (ρ ++ ps.map some) c.2).map fun y => (some y.1, y.2)) (some (none, c.2))) src (src.fuel x.2) 0 x.2).map fun r => (.list r.2.length, r.2 ++ [r.1])
noncomputable def evs (Φ : FnT) : Exs → Rho → HP → Option (List V × HP)
  | .nil, _, H => some ([], H)
  | .cons e es, ρ, H => (ev Φ e ρ H).bind fun v => (evs Φ es ρ v.2).map fun vs => (v.1 :: vs.1, vs.2)
end

noncomputable def evB (Φ : FnT) (e : Ex) (ρ : Rho) (H : HP) : Option (Bool × HP) := (ev Φ e ρ H).bind fun v => (tr v.1).map fun c => (c, v.2)

noncomputable def setAll (ρ : Rho) : List Nat → List V → Rho
  | [], _ => ρ
  | i :: is, vs => (match vs with
    | [] => ρ
    | v :: vs => setAll (ρ.set i (some v)) is vs)

noncomputable abbrev Cfg := Rho × HP
noncomputable def goOn (r : Fl × Cfg) (k : Cfg → Option (Fl × Cfg)) : Option (Fl × Cfg) := match r.1 with
  | .next => k r.2
  | .brk => some (.brk, r.2)
  | .ret v => some (.ret v, r.2)
noncomputable def loopOn (r : Fl × Cfg) (k : Cfg → Option (Fl × Cfg)) : Option (Fl × Cfg) := match r.1 with
  | .next => k r.2
  | .brk => some (.next, r.2)
  | .ret v => some (.ret v, r.2)
noncomputable def whileGo (test : Cfg → Option (Bool × HP)) (body : Cfg → Option (Fl × Cfg)) : Nat → Cfg → Option (Fl × Cfg)
  | 0, _ => none
  | k + 1, σ => (test σ).bind fun q => cond q.1 ((body (σ.1, q.2)).bind fun r => loopOn r (whileGo test body k)) (some (.next, (σ.1, q.2)))
noncomputable def forGo (is : List Nat) (tp : Bool) (body : Cfg → Option (Fl × Cfg)) (src : Src) : Nat → Nat → Cfg → Option (Fl × Cfg)
  | 0, _, _ => none
  | k + 1, i, σ => (src.items σ.2).bind fun xs => (xs[i]?).elim (some (.next, σ)) fun x => (parts tp is.length x σ.2).bind fun ps => (body (setAll σ.1 is ps, σ.2)).bind fun r => loopOn r (forGo is tp body src k (i + 1))

noncomputable def noRef : V → Bool
  | .none => true
  | .bool _ => true
  | .int _ => true
  | .bytes _ => true
  | _ => false

noncomputable def WF : Nat := 200

noncomputable def setL (ρ : Rho) (l k v : V) (H : HP) : Option (Fl × Cfg) := (asList l).bind fun j => (intOf k).bind fun i => (H[j]?).bind fun xs =>
  if decide (0 ≤ i) && decide (i < xs.length) && lenOk xs.length && decide (j ≠ 0) then some (.next, (ρ, H.set j (xs.set i.toNat v))) else none
noncomputable def run (Φ : FnT) : St → Cfg → Option (Fl × Cfg)
  | .skip, σ => some (.next, σ)
  | .seq a b, σ => (run Φ a σ).bind fun q => goOn q (run Φ b)
  | .asg i e, σ => (ev Φ e σ.1 σ.2).map fun q => (.next, (σ.1.set i (some q.1), q.2))
  | .unp is e, σ => (ev Φ e σ.1 σ.2).bind fun q => (parts true is.length q.1 q.2).map fun ps => (.next, (setAll σ.1 is ps, q.2))
  | .setI o i e, σ => (ev Φ e σ.1 σ.2).bind fun v => (ev Φ o σ.1 v.2).bind fun l => (ev Φ i σ.1 l.2).bind fun k => setL σ.1 l.1 k.1 v.1 k.2
  | .aug o i op e, σ => (ev Φ o σ.1 σ.2).bind fun l => (ev Φ i σ.1 l.2).bind fun k => (getI l.1 k.1 k.2).bind fun old => (ev Φ e σ.1 k.2).bind fun new =>
      (intOf old).bind fun a => (intOf new.1).bind fun b => (match op with | .add => setL σ.1 l.1 k.1 (.int (a + b)) new.2 | _ => none)
  | .exp e, σ => (ev Φ e σ.1 σ.2).bind fun q => if noRef q.1 then some (.next, (σ.1, q.2)) else none
  | .ite c a b, σ => (evB Φ c σ.1 σ.2).bind fun q => cond q.1 (run Φ a (σ.1, q.2)) (run Φ b (σ.1, q.2))
  | .whl c b, σ => whileGo (fun σ => evB Φ c σ.1 σ.2) (fun σ => run Φ b σ) WF σ
  | .fr is tp it b, σ => (ev Φ it σ.1 σ.2).bind fun q => (srcOf q.1 q.2).bind fun src => forGo is tp (fun σ => run Φ b σ) src (src.fuel q.2) 0 (σ.1, q.2)
  | .ret e, σ => (ev Φ e σ.1 σ.2).map fun q => (.ret q.1, (σ.1, q.2))
  | .brk, σ => some (.brk, σ)
  | .bad, _ => none

/-- a def: how many slots, its code -/
structure Fn where
  params : Nat
  key : Bool
  slots : Nat
  body : St

noncomputable def rhoF (n : Nat) (ls : List V) : Rho := ls.map some ++ List.replicate (n - ls.length) none
/-- the arguments laid into the slots: a def with a key takes two or four -/
noncomputable def bindV (f : Fn) (args : List V) (k : Option V) : Option Rho :=
  cond f.key (if args.length = 2 then some (rhoF f.slots (args ++ [.int 0, .none, k.getD .none])) else if args.length = 4 then some (rhoF f.slots (args ++ [k.getD .none])) else none)
    (if args.length = f.params ∧ k.isNone then some (rhoF f.slots args) else none)

noncomputable def retOf : Fl → Option V
  | .ret v => some v
  | .next => some .none
  | .brk => none
noncomputable def callF (Δ : Nat → Option Fn) : Nat → FnT
  | 0, _, _, _, _ => none
  | n + 1, k, args, key, H => (Δ k).bind fun f => (bindV f args key).bind fun ρ => (run (callF Δ n) f.body (ρ, H)).bind fun q => (retOf q.1).map fun v => (v, q.2.2)



set_option genInjectivity false in
/-- what the continuation is told -/
structure Res (fa : Nat → Option Addr) (μ : List Addr) (s : Shared) (l : V) (H : HP) where
  v : Value
  h : Heap
  tk : Tok
  μ' : List Addr
  vr : VR fa μ' h v l
  lh : LH fa μ' H h
  xt : Xt [] μ s.heap μ' h
@[reducible] noncomputable def stOf (s : Shared) (h : Heap) (tk : Tok) : Shared := { s with heap := h, toks := tk }
@[reducible] noncomputable def Res.st {fa : Nat → Option Addr} {μ : List Addr} {s : Shared} {l : V} {H : HP} (r : Res fa μ s l H) : Shared := stOf s r.h r.tk
noncomputable def Ok (fa : Nat → Option Addr) (μ : List Addr) (s : Shared) (l : V) (H : HP) (Q : Value → Shared → Prop) : Prop := ∀ r : Res fa μ s l H, Q r.v r.st

section
variable {prog : Program} {w : World} {A : Around} {E : Value → Shared → Prop} {s : Shared} {fa : Nat → Option Addr} {μ : List Addr} {H H' : HP} {Q : Value → Shared → Prop}

theorem Ok.pure {l : V} {v : Value} (k : Ok fa μ s l H Q) (hv : VR fa μ s.heap v l) (hl : LH fa μ H s.heap) (tk : Tok) : Q v { s with toks := tk } := k ⟨v, s.heap, tk, μ, hv, hl, .refl⟩
theorem Ok.here {l : V} {v : Value} (k : Ok fa μ s l H Q) (hv : VR fa μ s.heap v l) (hl : LH fa μ H s.heap) : Q v s := k.pure hv hl s.toks
theorem Ok.ext {l : V} {v : Value} (k : Ok fa μ s l H Q) {h' : Heap} (hk : ∀ b o, s.heap.get? b = some o → h'.get? b = some o) (hv : VR fa μ h' v l) (hl : LH fa μ H s.heap) (tk : Tok) : Q v { s with heap := h', toks := tk } :=
  k ⟨v, h', tk, μ, hv, hl.ext hk, .ext hk⟩
theorem Ok.new {xs : List V} {a : Addr} {vs : List Value} {n : Nat} (k : Ok fa μ s (.list H.length) (H ++ [xs]) Q) {h' : Heap} (hl : LH fa μ H s.heap) (hk : ∀ b o, s.heap.get? b = some o → h'.get? b = some o) (hn : s.heap.get? a = none)
    (ha : h'.get? a = some (Lobj vs n)) (hv : VRs fa μ s.heap vs xs) (tk : Tok) : Q (.ref a) { s with heap := h', toks := tk } :=
  let x := hl.new (FA := []) hk hn ha hv
  k ⟨_, h', tk, _, x.2.2, x.1, x.2.1⟩
theorem Ok.upd {l : V} {i : Nat} {a : Addr} {vs : List Value} {n : Nat} {xs : List V} {v : Value} (k : Ok fa μ s l (H.set i xs) Q) {h' : Heap} (hl : LH fa μ H s.heap) (hi : μ[i]? = some a) (hi0 : i ≠ 0)
    (hk : ∀ b o, b ≠ a → s.heap.get? b = some o → h'.get? b = some o) (ha : h'.get? a = some (Lobj vs n)) (hv : VRs fa μ s.heap vs xs) (hr : ∀ {μ' : List Addr} {h' : Heap}, Xt [] μ s.heap μ' h' → VR fa μ' h' v l) (tk : Tok) : Q v { s with heap := h', toks := tk } :=
  let x := hl.upd (FA := []) hi hi0 hk ha hv
  k ⟨v, h', tk, _, hr x.2, x.1, x.2⟩

theorem Ok.of {l l' : V} (k : Ok fa μ s l H Q) (e : some (l', H') = some (l, H)) : Ok fa μ s l' H' Q := by
  cases e; exact k
theorem Ok.of' {l l' : V} (k : Ok fa μ s l H Q) (e : (l', H') = (l, H)) : Ok fa μ s l' H' Q := by
  cases e; exact k
theorem vr_int {h : Heap} {v : Value} {x : V} {i : Int} (e : intOf x = some i) (r : VR fa μ h v x) : VR fa μ h v (.int i) := intOf_inv e ▸ r
theorem vr_bytes {h : Heap} {v : Value} {x : V} {i : List UInt8} (e : asBytes x = some i) (r : VR fa μ h v x) : VR fa μ h v (.bytes i) := asBytes_inv e ▸ r
theorem vr_list {h : Heap} {v : Value} {x : V} {i : Nat} (e : asList x = some i) (r : VR fa μ h v x) : VR fa μ h v (.list i) := asList_inv e ▸ r
theorem vr_none {h : Heap} {v : Value} {x : V} (e : isNone x = true) (r : VR fa μ h v x) : VR fa μ h v .none := isNone_inv e ▸ r
theorem vr_bool {h : Heap} {v : Value} {x : V} {i : Bool} (e : boolOf x = some i) (r : VR fa μ h v x) : VR fa μ h v (.bool i) := boolOf_inv e ▸ r
theorem push_keeps (h : Heap) (o : Obj) : ∀ b x, h.get? b = some x → (h.push o).get? b = some x := fun _ _ e => Heap.get?_push_of_some o e
theorem get_size (h : Heap) : h.get? h.objs.size = none := by
  cases e : h.get? h.objs.size with
  | none => rfl
  | some o => exact absurd (Heap.lt_size e) (Nat.lt_irrefl _)
theorem lenOk_le {n : Nat} (h : lenOk n = true) : n ≤ 1048576 := of_decide_eq_true h
theorem isList_of {h : Heap} {a : Addr} {vs : List Value} {n : Nat} (e : h.get? a = some (Lobj vs n)) : h.IsList a vs.toArray := ⟨_, e, rfl, n, rfl⟩

theorem log_mid {n : Nat} (h : n < 2 ^ 250) : Nat.log2 n < 9000 := by
  by_cases h0 : n = 0
  · rw [h0]; decide +kernel
  · have := (Nat.log2_lt h0).mpr h
    (first | lia | omega)
/-! ints -/
noncomputable def Op.py : Op → Operator
  | .add => .Add | .sub => .Sub | .mul => .Mult | .div => .FloorDiv | .mod => .Mod | .pow => .Pow

theorem bin_int {op : Op} {a b c : Int} {t u : Tok} (e : binI op a b = some c) (h : Q (.int c s.toks) { s with toks := s.toks + 1 }) : wpAny (model prog w) A (binaryOp op.py (.int a t) (.int b u)) Q E s := by
  cases op with
  | add => rw [← Option.some.inj e] at h; exact PyProof.Rows.add_int h
  | sub => rw [← Option.some.inj e] at h; exact PyProof.Rows.sub_int h
  | mul =>
    refine oiK e fun hc e => ?_
    rw [← Option.some.inj e] at h
    refine PyProof.Rows.mul_int h ?_
    simp only [Bool.or_eq_true, Bool.and_eq_true, small, mid, decide_eq_true_eq] at hc
    rcases hc with (hc | hc) | ⟨h1, h2⟩
    · exact IntMulOk.of_left (intBits_le hc)
    · exact IntMulOk.of_right (intBits_le hc)
    · exact IntMulOk.of_bits (Nat.le_trans (intBits_le h1) (by decide)) (Nat.le_trans (intBits_le h2) (by decide))
  | div =>
    refine oiK e fun hc e => ?_
    obtain ⟨h1, h2⟩ := bAnd hc
    rw [← Option.some.inj e] at h
    exact PyProof.Rows.floordiv_int (of_decide_eq_true h1) h (Or.inl (PyProof.noPylong_of_log2 (log_mid (of_decide_eq_true h2))))
  | mod =>
    refine oiK e fun hc e => ?_
    rw [← Option.some.inj e] at h
    exact PyProof.Rows.mod_int (of_decide_eq_true hc) h
  | pow =>
    refine oiK e fun hc e => ?_
    rw [← Option.some.inj e] at h
    simp only [Bool.and_eq_true, decide_eq_true_eq] at hc
    obtain ⟨⟨h1, h2⟩, h3⟩ := hc
    refine PyProof.Rows.pow_int h2 ?_ h
    have := intBits_le h1
    have h5 : (Builtin.Int.intBits a : Int) * b ≤ 20 * 64 := Int.mul_le_mul (by (first | lia | omega)) h3 h2 (by (first | lia | omega))
    (first | lia | omega)

theorem add_bytes_ok {a b : List UInt8} {v₁ v₂ : Value} (hc : lenOk (a.length + b.length) = true) (r₁ : VR fa μ s.heap v₁ (.bytes a)) (r₂ : VR fa μ s.heap v₂ (.bytes b)) (hl : LH fa μ H s.heap) (k : Ok fa μ s (.bytes (a ++ b)) H Q) :
    wpAny (model prog w) A (binaryOp .Add v₁ v₂) Q E s := by
  refine r₁.bytesK fun t => ?_
  refine r₂.bytesK fun u => ?_
  have := lenOk_le hc
  refine PySem.W.KBy.add_bytes (by simp; (first | lia | omega)) fun t' k' => k.pure ?_ hl k'
  have := VR.bytes (fa := fa) (μ := μ) (h := s.heap) (a.toArray ++ b.toArray) t'
  simpa using this
theorem add_list_ok {i j : Nat} {xs ys : List V} {v₁ v₂ : Value} (hx : H[i]? = some xs) (hy : H[j]? = some ys) (hc : lenOk (xs.length + ys.length) = true) (r₁ : VR fa μ s.heap v₁ (.list i)) (r₂ : VR fa μ s.heap v₂ (.list j)) (hl : LH fa μ H s.heap)
    (k : Ok fa μ s (.list H.length) (H ++ [xs ++ ys]) Q) : wpAny (model prog w) A (binaryOp .Add v₁ v₂) Q E s := by
  have := lenOk_le hc
  refine hl.getK r₁ hx fun a vs n _ ha hvs => ?_
  refine hl.getK r₂ hy fun b ws m _ hb hws => ?_
  have e1 := hvs.length
  have e2 := hws.length
  refine concat_meets ⟨_, ha, rfl⟩ ⟨_, hb, rfl⟩ noFill_list_add seq_list_add PySem.F.slot_list_add PySem.F.entry_list_add (PySem.F.args_list_add_2 _ _)
    (AutoSeq1.list___add___list_list_0 a vs.toArray n b ws.toArray m (by simp only [List.size_toArray, sizeLine_eq]; (first | lia | omega))) ⟨ha, hb, ?_⟩
  refine k.new (vs := vs ++ ws) (n := 0) hl (push_keeps _ _) (get_size _) ?_ (hvs.append hws) s.toks
  rw [Heap.get?_push_size _ rfl]
  simp [Lobj]
theorem vrs_rep {h : Heap} {vs : List Value} {xs : List V} (hvs : VRs fa μ h vs xs) : ∀ n, VRs fa μ h (List.replicate n vs).flatten (List.replicate n xs).flatten
  | 0 => .nil
  | n + 1 => by rw [List.replicate_succ, List.replicate_succ, List.flatten_cons, List.flatten_cons]; exact hvs.append (vrs_rep hvs n)
theorem mul_list_ok {i : Nat} {x : Int} {xs : List V} {v₁ v₂ : Value} (hx : H[i]? = some xs) (h1 : 0 ≤ x) (h2 : x ≤ 1000) (h3 : xs.length ≤ 1000) (r₁ : VR fa μ s.heap v₁ (.list i)) (r₂ : VR fa μ s.heap v₂ (.int x)) (hl : LH fa μ H s.heap)
    (k : Ok fa μ s (.list H.length) (H ++ [(List.replicate x.toNat xs).flatten]) Q) : wpAny (model prog w) A (binaryOp .Mult v₁ v₂) Q E s := by
  refine hl.getK r₁ hx fun a vs n _ ha hvs => ?_
  refine r₂.intK fun u => ?_
  have e1 := hvs.length
  have hsz : vs.toArray.size * x.toNat ≤ 2 ^ 24 := by
    have h4 : x.toNat ≤ 1000 := by (first | lia | omega)
    have h5 : vs.toArray.size ≤ 1000 := by rw [List.size_toArray]; (first | lia | omega)
    exact Nat.le_trans (Nat.mul_le_mul h5 h4) (by decide)
  refine wpAny_binaryOp_repeat_ref (T := "list") (U := "int") (by decide) ⟨_, ha, rfl⟩ (fun s' => typeIs_int s' x u) noFill_list_mul F.fills_int_mul F.slot_int_rmul repeat_list F.slot_int_index.lookup
    (call_meets F.slot_int_rmul (typeIs_int s x u) F.entry_int_rmul (F.args_int_rmul_2 _ _) (int___rmul___int_list x u a vs.toArray n)
      ⟨ha, rfl, ⟨_, ha, rfl⟩, call_meets F.slot_list_mul ⟨_, ha, rfl⟩ F.entry_list_mul (F.args_list_mul_2 _ _)
        (AutoListH.list___mul___list_int_3 a vs.toArray n x u (by simp [Builtin.List.listFitsIndex]; (first | lia | omega)) (by (first | lia | omega)) (by simp [Builtin.List.listTooLong, sizeLine]; simp at hsz; (first | lia | omega)))
        ⟨ha, ?_⟩⟩)
  refine k.new (vs := (List.replicate x.toNat vs).flatten) (n := 0) hl (push_keeps _ _) (get_size _) ?_ (vrs_rep hvs _) s.toks
  rw [Heap.get?_push_size _ rfl, listMul_foldl_if]
theorem add_ok {x y r : V} {v₁ v₂ : Value} (e : addS x y H = some (r, H')) (r₁ : VR fa μ s.heap v₁ x) (r₂ : VR fa μ s.heap v₂ y) (hl : LH fa μ H s.heap) (k : Ok fa μ s r H' Q) : wpAny (model prog w) A (binaryOp .Add v₁ v₂) Q E s := by
  refine oeK e (fun _ e => ?_) fun a h1 e => ?_
  · refine obK e fun i h1 e => ?_
    refine obK e fun j h2 e => ?_
    refine obK e fun xs hx e => ?_
    refine obK e fun ys hy e => ?_
    refine oiK e fun hc e => ?_
    exact add_list_ok hx hy hc (vr_list h1 r₁) (vr_list h2 r₂) hl (k.of e)
  · refine obK e fun b h2 e => ?_
    refine oiK e fun hc e => ?_
    exact add_bytes_ok hc (vr_bytes h1 r₁) (vr_bytes h2 r₂) hl (k.of e)
theorem mul_ok {x y r : V} {v₁ v₂ : Value} (e : mulS x y H = some (r, H')) (r₁ : VR fa μ s.heap v₁ x) (r₂ : VR fa μ s.heap v₂ y) (hl : LH fa μ H s.heap) (k : Ok fa μ s r H' Q) : wpAny (model prog w) A (binaryOp .Mult v₁ v₂) Q E s := by
  refine obK e fun i h1 e => ?_
  refine obK e fun x h2 e => ?_
  refine obK e fun xs hx e => ?_
  refine oiK e fun hc e => ?_
  have h := bAnd hc
  have g := bAnd h.1
  exact mul_list_ok hx (of_decide_eq_true g.1) (of_decide_eq_true g.2) (of_decide_eq_true h.2) (vr_list h1 r₁) (vr_int h2 r₂) hl (k.of e)
theorem bin_ok {op : Op} {x y r : V} {v₁ v₂ : Value} (e : bin op x y H = some (r, H')) (r₁ : VR fa μ s.heap v₁ x) (r₂ : VR fa μ s.heap v₂ y) (hl : LH fa μ H s.heap) (k : Ok fa μ s r H' Q) :
    wpAny (model prog w) A (binaryOp op.py v₁ v₂) Q E s := by
  refine oeK e (fun _ e => ?_) fun a h1 e => ?_
  · cases op with
    | add => exact add_ok e r₁ r₂ hl k
    | mul => exact mul_ok e r₁ r₂ hl k
    | _ => exact no e
  · refine obK e fun b h2 e => ?_
    refine omK e fun c hc e => ?_
    refine (vr_int h1 r₁).intK fun t => ?_
    refine (vr_int h2 r₂).intK fun u => ?_
    exact bin_int hc ((k.of' e).pure (.int _ _) hl _)

theorem neg_ok {i : Int} {v : Value} (r : VR fa μ s.heap v (.int i)) (hl : LH fa μ H s.heap) (k : Ok fa μ s (.int (-i)) H Q) : wpAny (model prog w) A (unaryOp .USub v) Q E s := by
  obtain ⟨t, rfl⟩ := r.int_inv
  exact P.neg_int (k.pure (.int _ _) hl _)

theorem tr_ok {x : V} {b : Bool} {v : Value} {Q : Bool → Shared → Prop} (e : tr x = some b) (r : VR fa μ s.heap v x) (k : Q b s) : wpAny (model prog w) A (truthy v) Q E s := by
  cases x with
  | none => rw [r.none_inv]; exact truthy_none (Option.some.inj e ▸ k)
  | bool => rw [r.bool_inv]; exact wpAny_truthy_bool (Option.some.inj e ▸ k)
  | int =>
    obtain ⟨t, rfl⟩ := r.int_inv
    exact P.truthy_int (Option.some.inj e ▸ k)
  | _ => exact no e

/-! equality -/
open SeqAt in
theorem eqAt_bytes (a b : List UInt8) (t u : Tok) : EqAt A s (.bytes a.toArray t) (.bytes b.toArray u) (a == b) := fun prog w E Q h => by
  have e0 : (a == b) = (a.toArray.toList == b.toArray.toList) := by simp
  rw [e0] at h
  unfold eqBool
  refine wpAny_holding ?_
  refine wpAny_ite_split (fun hab => ?_) (fun hab => ?_)
  · have e : a.toArray = b.toArray := by have := eq_of_beq hab; injection this
    rw [e] at h
    exact wpAny_bind (wpAny_rule (wpAny_pure (by simpa using h)))
  · exact wpAny_bind (richCompare_gives (typeIs_bytes s a.toArray t) (typeIs_bytes s b.toArray u) FB.slot_bytes_eq FB.entry_bytes_eq (FB.args_bytes_eq_2 _ _) (gives_bytes_eq a.toArray b.toArray t u) (by simp [Made.takes]) (wpAny_truthy_bool h))
open SeqAt in
theorem eq0_at {x y : V} {v₁ v₂ : Value} {b : Bool} (e : eq0 x y = some b) (r₁ : VR fa μ s.heap v₁ x) (r₂ : VR fa μ s.heap v₂ y) : EqAt A s v₁ v₂ b := by
  refine oeK e (fun _ e => ?_) fun a h1 e => ?_
  · refine obK e fun a h1 e => ?_
    obtain ⟨c, h2, rfl⟩ := om e
    refine (vr_bytes h1 r₁).bytesK fun t => ?_
    refine (vr_bytes h2 r₂).bytesK fun u => ?_
    exact eqAt_bytes _ _ _ _
  · obtain ⟨c, h2, rfl⟩ := om e
    refine (vr_int h1 r₁).intK fun t => ?_
    refine (vr_int h2 r₂).intK fun u => ?_
    exact EqAt.int_int _ _ _ _
theorem eq0_same {x y : V} {v : Value} {b : Bool} (e : eq0 x y = some b) (r₁ : VR fa μ s.heap v x) (r₂ : VR fa μ s.heap v y) : b = true := by
  refine oeK e (fun _ e => ?_) fun a h1 e => ?_
  · refine obK e fun a h1 e => omK e fun c h2 e => ?_
    obtain ⟨t, h⟩ := (vr_bytes h1 r₁).bytes_inv
    obtain ⟨u, h'⟩ := (vr_bytes h2 r₂).bytes_inv
    injection h.symm.trans h' with e1
    rw [← e, List.toArray_inj e1]
    exact beq_self_eq_true _
  · refine omK e fun c h2 e => ?_
    obtain ⟨t, h⟩ := (vr_int h1 r₁).int_inv
    obtain ⟨u, h'⟩ := (vr_int h2 r₂).int_inv
    injection h.symm.trans h' with e1
    rw [← e, e1]
    exact beq_self_eq_true _
theorem eqs_nil {f : V → V → Option Bool} {ys : List V} {b : Bool} (h : eqs f [] ys = some b) : ys = [] ∧ b = true := let ⟨h1, h2⟩ := oi h; ⟨List.isEmpty_iff.mp h1, (Option.some.inj h2).symm⟩
theorem eqs_cons {f : V → V → Option Bool} {x : V} {xs ys : List V} {b : Bool} (h : eqs f (x :: xs) ys = some b) : ∃ y zs c d, ys = y :: zs ∧ f x y = some c ∧ eqs f xs zs = some d ∧ b = (c && d) := by
  cases ys with
  | nil => exact no h
  | cons y ys =>
    obtain ⟨c, h1, h⟩ := ob h
    obtain ⟨d, h2, h⟩ := om h
    exact ⟨y, ys, c, d, rfl, h1, h2, h.symm⟩
theorem eqs_all {f : V → V → Option Bool} : ∀ (xs : List V) {ys : List V} {b : Bool}, eqs f xs ys = some b →
    xs.length = ys.length ∧ ∃ e : Nat → Bool, (∀ j x y, xs[j]? = some x → ys[j]? = some y → f x y = some (e j)) ∧ b = (List.range xs.length).all e := by
  intro xs
  induction xs with
  | nil =>
    intro ys b h
    obtain ⟨rfl, rfl⟩ := eqs_nil h
    exact ⟨rfl, fun _ => true, fun j x y h => no h, rfl⟩
  | cons x xs ih =>
    intro ys b h
    obtain ⟨y, ys, c, d, rfl, h1, h2, rfl⟩ := eqs_cons h
    obtain ⟨hl, e, he, hd⟩ := ih h2
    refine ⟨congrArg (· + 1) hl, Nat.rec c fun j _ => e j, fun j p q hp hq => ?_, ?_⟩
    · cases j with
      | zero => rw [← Option.some.inj hp, ← Option.some.inj hq]; exact h1
      | succ j => exact he j p q hp hq
    · rw [hd, List.length_cons, List.range_succ_eq_map, List.all_cons, List.all_map]
      rfl
theorem eqs_same {xs ys : List V} {vs : List Value} {b : Bool} (h : eqs eq0 xs ys = some b) (s₁ : VRs fa μ s.heap vs xs) (s₂ : VRs fa μ s.heap vs ys) : b = true := by
  obtain ⟨hl, e, he, rfl⟩ := eqs_all xs h
  refine List.all_eq_true.mpr fun j hj => ?_
  have hj := List.mem_range.mp hj
  have k1 := List.getElem?_eq_getElem hj
  have k2 := List.getElem?_eq_getElem (hl ▸ hj)
  obtain ⟨u, g1, g2⟩ := s₁.get k1
  obtain ⟨u', g3, g4⟩ := s₂.get k2
  rw [g1] at g3
  rw [← Option.some.inj g3] at g4
  exact eq0_same (he j _ _ k1 k2) g2 g4
/-- one place of two lists -/
theorem eq_place {P : Value → Value → Bool → Prop} {g : V → V → Option Bool} {xs ys : List V} {vs ws : List Value} {f : Nat → Bool} (hf : ∀ j x y, xs[j]? = some x → ys[j]? = some y → g x y = some (f j)) (s₁ : VRs fa μ s.heap vs xs) (s₂ : VRs fa μ s.heap ws ys)
    (hP : ∀ {x y v w b}, g x y = some b → VR fa μ s.heap v x → VR fa μ s.heap w y → P v w b) : ∀ j (h1 : j < vs.toArray.size) (h2 : j < ws.toArray.size), P vs.toArray[j] ws.toArray[j] (f j) := fun j j1 j2 => by
  have j1' : j < vs.length := by simpa using j1
  have j2' : j < ws.length := by simpa using j2
  have k1 := List.getElem?_eq_getElem (s₁.length ▸ j1' : j < xs.length)
  have k2 := List.getElem?_eq_getElem (s₂.length ▸ j2' : j < ys.length)
  obtain ⟨u₁, g1, g2⟩ := s₁.get k1
  obtain ⟨u₂, g3, g4⟩ := s₂.get k2
  rw [List.getElem?_eq_getElem j1'] at g1
  rw [List.getElem?_eq_getElem j2'] at g3
  rw [← Option.some.inj g1] at g2
  rw [← Option.some.inj g3] at g4
  exact hP (hf j _ _ k1 k2) g2 g4
theorem tobj_inj {vs ws : List Value} {n m : Nat} (h : Tobj vs n = Tobj ws m) : vs = ws := by
  have := congrArg Obj.data h
  simp only [Data.seq.injEq] at this
  exact List.toArray_inj this.1
open SeqAt in
theorem eq1_at {x y : V} {v₁ v₂ : Value} {b : Bool} (e : eq1 x y = some b) (r₁ : VR fa μ s.heap v₁ x) (r₂ : VR fa μ s.heap v₂ y) (hu : A.units < cLine) : EqAt A s v₁ v₂ b := by
  refine oeK e (fun _ e => ?_) fun p hp e => ?_
  · exact eq0_at e r₁ r₂
  · refine obK e fun q hq e => ?_
    obtain ⟨a₁, vs₁, n₁, rfl, h₁, s₁⟩ := (asTup_inv hp ▸ r₁ : VR fa μ s.heap v₁ (.tup p)).tup_inv
    obtain ⟨a₂, vs₂, n₂, rfl, h₂, s₂⟩ := (asTup_inv hq ▸ r₂ : VR fa μ s.heap v₂ (.tup q)).tup_inv
    by_cases hab : a₁ = a₂
    · rw [hab] at h₁ ⊢
      rw [h₁] at h₂
      rw [tobj_inj (Option.some.inj h₂)] at s₁
      rw [eqs_same e s₁ s₂]
      exact EqAt.same _
    · obtain ⟨l3, f, hf, hb⟩ := eqs_all p e
      have l1 := s₁.length
      have l2 := s₂.length
      have e1 : vs₁.toArray.size = vs₂.toArray.size := by rw [List.size_toArray, List.size_toArray, l1, l2, l3]
      have hb' : b = ((List.range (min vs₁.toArray.size vs₂.toArray.size)).all f && vs₁.toArray.size == vs₂.toArray.size) := by
        rw [hb, e1, Nat.min_self, beq_self_eq_true, Bool.and_true, List.size_toArray, l2, l3]
      rw [hb']
      exact EqAt.of_refs hab (RcAt.tuples ⟨_, h₁, rfl, _, rfl⟩ ⟨_, h₂, rfl, _, rfl⟩ hu (eq_place hf s₁ s₂ eq0_at))

open SeqAt in
theorem eqL_at {xs ys : List V} {b : Bool} {vs ws : List Value} (e : eqs eq1 xs ys = some b) (s₁ : VRs fa μ s.heap vs xs) (s₂ : VRs fa μ s.heap ws ys) (hu : A.units < cLine) :
    ∃ f : Nat → Bool, vs.toArray.size = ws.toArray.size ∧ b = (List.range vs.toArray.size).all f ∧ ∀ j (h1 : j < vs.toArray.size) (h2 : j < ws.toArray.size), EqAt A s vs.toArray[j] ws.toArray[j] (f j) := by
  obtain ⟨l3, f, hf, hb⟩ := eqs_all xs e
  have l1 := s₁.length
  have l2 := s₂.length
  exact ⟨f, by rw [List.size_toArray, List.size_toArray, l1, l2, l3], by rw [hb, List.size_toArray, l1], eq_place hf s₁ s₂ fun h1 h2 h3 => eq1_at h1 h2 h3 hu⟩

/-- two lists, compared -/
theorem eqL_ok {i j : Nat} {b : Bool} {v₁ v₂ : Value} {R : Value → Value → Prop} (e : eqL H i j = some b) (r₁ : VR fa μ s.heap v₁ (.list i)) (r₂ : VR fa μ s.heap v₂ (.list j)) (hl : LH fa μ H s.heap) (hu : A.units + 10 < cLine)
    (h1 : ∀ {a c : Addr} {xs ys : Array Value} {f : Nat → Bool}, s.heap.IsList a xs → s.heap.IsList c ys → xs.size = ys.size → b = (List.range xs.size).all f → (∀ j (h1 : j < xs.size) (h2 : j < ys.size), SeqAt.EqAt A.in1 s xs[j] ys[j] (f j)) → R (.ref a) (.ref c))
    (h2 : ∀ {a c : Addr} {xs ys : Array Value}, s.heap.IsList a xs → s.heap.IsList c ys → (xs.size != ys.size) = true → b = false → R (.ref a) (.ref c)) : R v₁ v₂ := by
  refine obK e fun xs hx e => ?_
  refine obK e fun ys hy e => ?_
  refine hl.getK r₁ hx fun a vs n _ ha hvs => ?_
  refine hl.getK r₂ hy fun c ws m _ hb hws => ?_
  have l1 := hvs.length
  have l2 := hws.length
  by_cases hc : xs.length = ys.length
  · rw [if_pos hc] at e
    by_cases hij : i = j
    · rw [if_pos hij] at e; exact no e
    · rw [if_neg hij] at e
      obtain ⟨f, g1, g2, g3⟩ := eqL_at (A := A.in1) e hvs hws (by rw [Around.in1_units]; (first | lia | omega))
      exact h1 (isList_of ha) (isList_of hb) g1 g2 g3
  · rw [if_neg hc] at e
    exact h2 (isList_of ha) (isList_of hb) (bne_iff_ne.mpr (by rw [List.size_toArray, List.size_toArray, l1, l2]; exact hc)) (Option.some.inj e).symm

theorem eqV_ok {x y : V} {b : Bool} {v₁ v₂ : Value} (e : eqV H x y = some b) (r₁ : VR fa μ s.heap v₁ x) (r₂ : VR fa μ s.heap v₂ y) (hl : LH fa μ H s.heap) (hu : A.units + 10 < cLine) (k : Q (.bool b) s) : wpAny (model prog w) A (compareOp .Eq v₁ v₂) Q E s := by
  refine oeK e (fun _ e => ?_) fun i hi e => ?_
  · refine oeK e (fun _ e => ?_) fun a h1 e => ?_
    · refine obK e fun a h1 e => ?_
      obtain ⟨c, h2, rfl⟩ := om e
      refine (vr_bytes h1 r₁).bytesK fun t => ?_
      refine (vr_bytes h2 r₂).bytesK fun u => ?_
      exact PySem.W.eq_bytes (by simpa using k)
    · obtain ⟨c, h2, rfl⟩ := om e
      refine (vr_int h1 r₁).intK fun t => ?_
      refine (vr_int h2 r₂).intK fun u => ?_
      exact PyProof.Rows.eq_int k
  · refine obK e fun j hj e => ?_
    exact eqL_ok (R := fun v₁ v₂ => wpAny (model prog w) A (compareOp .Eq v₁ v₂) Q E s) e (vr_list hi r₁) (vr_list hj r₂) hl hu (fun g1 g2 g3 g4 g5 => SeqAt.eq_listAt g1 g2 g3 (Nat.lt_of_le_of_lt (Nat.le_add_right _ 10) hu) g5 (g4 ▸ k))
      fun g1 g2 g3 g4 => SeqAt.eq_list_lengthsAt g1 g2 g3 (Nat.lt_of_le_of_lt (Nat.le_add_right _ 10) hu) (g4 ▸ k)
theorem neV_ok {x y : V} {b : Bool} {v₁ v₂ : Value} (e : eqV H x y = some b) (r₁ : VR fa μ s.heap v₁ x) (r₂ : VR fa μ s.heap v₂ y) (hl : LH fa μ H s.heap) (hu : A.units + 10 < cLine) (k : Q (.bool (!b)) s) : wpAny (model prog w) A (compareOp .NotEq v₁ v₂) Q E s := by
  refine oeK e (fun _ e => ?_) fun i hi e => ?_
  · refine oeK e (fun _ e => ?_) fun a h1 e => ?_
    · refine obK e fun a h1 e => ?_
      obtain ⟨c, h2, rfl⟩ := om e
      refine (vr_bytes h1 r₁).bytesK fun t => ?_
      refine (vr_bytes h2 r₂).bytesK fun u => ?_
      exact PySem.W.ne_bytes (by simpa [bne] using k)
    · obtain ⟨c, h2, rfl⟩ := om e
      refine (vr_int h1 r₁).intK fun t => ?_
      refine (vr_int h2 r₂).intK fun u => ?_
      exact PyProof.Rows.ne_int k
  · refine obK e fun j hj e => ?_
    exact eqL_ok (R := fun v₁ v₂ => wpAny (model prog w) A (compareOp .NotEq v₁ v₂) Q E s) e (vr_list hi r₁) (vr_list hj r₂) hl hu (fun g1 g2 g3 g4 g5 => SeqAt.RcNeAt.lists g1 g2 g3 (Nat.lt_of_le_of_lt (Nat.le_add_right _ 10) hu) g5 prog w E Q (g4 ▸ k))
      fun g1 g2 g3 g4 => SeqAt.RcNeAt.lists_lengths g1 g2 g3 (Nat.lt_of_le_of_lt (Nat.le_add_right _ 10) hu) prog w E Q (by rw [g4] at k; exact k)
end



section
variable {prog : Program} {w : World} {A : Around} {E : Value → Shared → Prop} {s : Shared} {fa : Nat → Option Addr} {μ : List Addr} {H H' : HP} {Q : Value → Shared → Prop}

noncomputable def Cm.py : Cm → CmpOp
  | .lt => .Lt | .le => .LtE | .gt => .Gt | .ge => .GtE | .eq => .Eq | .ne => .NotEq | .is => .Is | .isn => .IsNot | .isin => .In | .nin => .NotIn

theorem vr_isN {h : Heap} {v : Value} {x : V} {b : Bool} (e : isN x = some b) (r : VR fa μ h v x) : plainIs v .none = true ∧ (v == .none) = b := by
  cases x with
  | none => rw [r.none_inv, ← Option.some.inj e]; exact ⟨rfl, rfl⟩
  | bool => rw [r.bool_inv, ← Option.some.inj e]; exact ⟨rfl, rfl⟩
  | int => rw [← Option.some.inj e]; exact r.intK fun t => ⟨rfl, rfl⟩
  | fn => rw [← Option.some.inj e]; exact r.fnK fun a _ => ⟨rfl, rfl⟩
  | list => rw [← Option.some.inj e]; exact r.listK fun a _ => ⟨rfl, rfl⟩
  | _ => exact no e
theorem is_pair {x y : V} {b : Bool} {v₁ v₂ : Value} (e : isV' x y = some b) (r₁ : VR fa μ s.heap v₁ x) (r₂ : VR fa μ s.heap v₂ y) : plainIs v₁ v₂ = true ∧ (v₁ == v₂) = b := by
  refine oeK e (fun _ e => oiK e fun h1 e => ?_) fun b h1 e => oeK e (fun _ e => oiK e fun h2 e => ?_) fun a h2 e => ?_
  · rw [(vr_none h1 r₂).none_inv]; exact vr_isN e r₁
  · rw [(vr_none h2 r₁).none_inv, (vr_bool h1 r₂).bool_inv, ← Option.some.inj e]; exact ⟨rfl, rfl⟩
  · rw [(vr_bool h2 r₁).bool_inv, (vr_bool h1 r₂).bool_inv, ← Option.some.inj e]
    exact ⟨rfl, by cases a <;> cases b <;> rfl⟩

noncomputable def isI (a : Int) : Value → Bool
  | .int i _ => i == a
  | _ => false
theorem intsOf_cons {x : V} {xs : List V} {is : List Int} (e : intsOf (x :: xs) = some is) : ∃ i js, x = .int i ∧ intsOf xs = some js ∧ is = i :: js :=
  obK e fun i h1 e => omK e fun js h2 e => ⟨i, js, intOf_inv h1, h2, e.symm⟩
theorem intsAre_of : ∀ {vs : List Value} (xs : List V) {is : List Int}, VRs fa μ s.heap vs xs → intsOf xs = some is → IntsAre vs is := by
  intro vs xs
  induction xs generalizing vs with
  | nil => intro is r e; cases r; rw [← Option.some.inj e]; exact .nil
  | cons x xs ih =>
    intro is r e
    obtain ⟨i, js, rfl, h2, rfl⟩ := intsOf_cons e
    cases r with
    | cons r rs => exact r.intK fun u => .cons _ _ (ih rs h2)
theorem isI_ok {a : Int} {t : Tok} {vs : List Value} {is : List Int} (h : IntsAre vs is) : (∀ y ∈ vs, MeetsSeq.EqGives y (.int a t) (isI a y)) ∧ vs.any (isI a) = is.contains a := by
  induction h with
  | nil => exact ⟨fun _ h => (List.not_mem_nil h).elim, rfl⟩
  | cons n u _ ih =>
    refine ⟨fun y hy => ?_, ?_⟩
    · rcases List.mem_cons.mp hy with hy | hy
      · rw [hy]; exact MeetsSeq.EqGives.int _ _ _ _
      · exact ih.1 y hy
    · rw [List.any_cons, ih.2, List.contains_cons]
      exact congrArg (· || _) BEq.comm

theorem cmpI_ok {f : Int → Int → Bool} {x y : V} {b : Bool} {v₁ v₂ : Value} {P : Value → Value → Bool → Prop} (e : cmpI f x y = some b) (r₁ : VR fa μ s.heap v₁ x) (r₂ : VR fa μ s.heap v₂ y) (k : ∀ i j t u, P (.int i t) (.int j u) (f i j)) : P v₁ v₂ b := by
  refine obK e fun i h1 e => omK e fun j h2 e => ?_
  rw [← e]
  exact (vr_int h1 r₁).intK fun t => (vr_int h2 r₂).intK fun u => k i j t u
theorem in_ok {x y : V} {b : Bool} {v₁ v₂ : Value} {P : Value → Value → Bool → Prop} (e : inV H x y = some b) (r₁ : VR fa μ s.heap v₁ x) (r₂ : VR fa μ s.heap v₂ y) (hl : LH fa μ H s.heap)
    (k : ∀ a t c ws m, (∀ y ∈ ws, MeetsSeq.EqGives y (.int a t) (isI a y)) → s.heap.get? c = some (Lobj ws m) → P (.int a t) (.ref c) (ws.any (isI a))) : P v₁ v₂ b := by
  refine obK e fun a h1 e => obK e fun j h2 e => obK e fun ys hy e => omK e fun is hi e => ?_
  refine (vr_int h1 r₁).intK fun t => hl.getK (vr_list h2 r₂) hy fun c ws m _ hb hws => ?_
  have g := isI_ok (a := a) (t := t) (intsAre_of (s := s) ys hws hi)
  rw [← e, ← g.2]
  exact k a t c ws m g.1 hb

theorem cmp_ok {op : Cm} {x y : V} {b : Bool} {v₁ v₂ : Value} (e : cmpV op x y H = some b) (r₁ : VR fa μ s.heap v₁ x) (r₂ : VR fa μ s.heap v₂ y) (hl : LH fa μ H s.heap) (hu : A.units + 10 < cLine) (k : Q (.bool b) s) :
    wpAny (model prog w) A (compareOp op.py v₁ v₂) Q E s := by
  cases op with
  | lt => exact cmpI_ok (P := fun v₁ v₂ b => Q (.bool b) s → wpAny (model prog w) A (compareOp .Lt v₁ v₂) Q E s) e r₁ r₂ (fun _ _ _ _ => PyProof.Rows.lt_int) k
  | le => exact cmpI_ok (P := fun v₁ v₂ b => Q (.bool b) s → wpAny (model prog w) A (compareOp .LtE v₁ v₂) Q E s) e r₁ r₂ (fun _ _ _ _ => P.le_int) k
  | gt => exact cmpI_ok (P := fun v₁ v₂ b => Q (.bool b) s → wpAny (model prog w) A (compareOp .Gt v₁ v₂) Q E s) e r₁ r₂ (fun _ _ _ _ => PyProof.Rows.gt_int) k
  | ge => exact cmpI_ok (P := fun v₁ v₂ b => Q (.bool b) s → wpAny (model prog w) A (compareOp .GtE v₁ v₂) Q E s) e r₁ r₂ (fun _ _ _ _ => P.ge_int) k
  | eq => exact eqV_ok e r₁ r₂ hl hu k
  | ne => exact omK e fun c h e => neV_ok h r₁ r₂ hl hu (e ▸ k)
  | is => exact wpAny_is_plain (is_pair e r₁ r₂).1 ((is_pair e r₁ r₂).2 ▸ k)
  | isn => exact omK e fun c h e => wpAny_isNot_plain (is_pair h r₁ r₂).1 (by rw [(is_pair h r₁ r₂).2, e]; exact k)
  | isin => exact in_ok (P := fun v₁ v₂ b => Q (.bool b) s → wpAny (model prog w) A (compareOp .In v₁ v₂) Q E s) e r₁ r₂ hl (fun a t c ws m g1 hb k => SeqRoads2.in_list (isI a) (fun y hy => g1 y (by simpa using hy)) hb (by simpa using k)) k
  | nin => exact omK e fun c h e => in_ok (P := fun v₁ v₂ b => Q (.bool (!b)) s → wpAny (model prog w) A (compareOp .NotIn v₁ v₂) Q E s) h r₁ r₂ hl (fun a t c ws m g1 hb k => SeqRoads2.notIn_list (isI a) (fun y hy => g1 y (by simpa using hy)) hb (by simpa using k)) (e ▸ k)

/-! items -/
theorem isTup_of {h : Heap} {a : Addr} {vs : List Value} {n : Nat} (e : h.get? a = some (Tobj vs n)) : IsTup h a vs.toArray := ⟨_, e, rfl, n, rfl⟩
theorem lt_of_get {α : Type} {l : List α} {i : Nat} {x : α} (e : l[i]? = some x) : i < l.length := by
  rcases Nat.lt_or_ge i l.length with h | h
  · exact h
  · exact no ((List.getElem?_eq_none h).symm.trans e)
theorem getL_ok {i : Nat} {k : Int} {xs : List V} {r : V} {v₁ v₂ : Value} (hx : H[i]? = some xs) (e : getL xs k = some r) (r₁ : VR fa μ s.heap v₁ (.list i)) (r₂ : VR fa μ s.heap v₂ (.int k)) (hl : LH fa μ H s.heap) (q : ∀ v tk, VR fa μ s.heap v r → Q v { s with toks := tk }) :
    wpAny (model prog w) A (getItem v₁ v₂) Q E s := by
  refine hl.getK r₁ hx fun a vs n _ ha hvs => r₂.intK fun t => ?_
  have l1 := hvs.length
  unfold getL at e
  by_cases h0 : 0 ≤ k
  · rw [if_pos h0] at e
    refine oiK e fun h1 e => ?_
    obtain ⟨v, g1, g2⟩ := hvs.get e
    exact wpAny_getItem_list (isList_of ha) h0 (by (first | lia | omega)) (by rw [List.getElem?_toArray]; exact g1) (q v s.toks g2)
  · rw [if_neg h0] at e
    refine oiK e fun h1 e => ?_
    obtain ⟨v, g1, g2⟩ := hvs.get e
    exact wpAny_getItem_list_neg (isList_of ha) (by (first | lia | omega)) (by rw [List.size_toArray]; (first | lia | omega)) (by (first | lia | omega)) (by rw [List.getElem?_toArray, List.size_toArray, l1]; exact g1) (q v s.toks g2)
theorem getI_ok {x y r : V} {v₁ v₂ : Value} (e : getI x y H = some r) (r₁ : VR fa μ s.heap v₁ x) (r₂ : VR fa μ s.heap v₂ y) (hl : LH fa μ H s.heap) (k : ∀ v tk, VR fa μ s.heap v r → Q v { s with toks := tk }) :
    wpAny (model prog w) A (getItem v₁ v₂) Q E s := by
  refine obK e fun j h1 e => ?_
  have r₂ := vr_int h1 r₂
  cases x with
  | list i => exact obK e fun xs hx e => getL_ok hx e r₁ r₂ hl k
  | tup xs =>
    refine oiK e fun hc e => r₁.tupK fun a vs n ha hvs => r₂.intK fun t => ?_
    obtain ⟨v, g1, g2⟩ := hvs.get e
    refine getItem_tuple (j := j.toNat) (isTup_of ha) (by (first | lia | omega)) (by (first | lia | omega)) ?_ (by rw [List.getElem?_toArray]; exact g1) (k v s.toks g2)
    have hlt := lt_of_get g1
    unfold seqIndex?
    have : ¬ j < 0 := by (first | lia | omega)
    simp [this]
    (first | lia | omega)
  | bytes b =>
    refine oiK e fun hc e => r₁.bytesK fun t => r₂.intK fun u => ?_
    exact PySem.W.getItem_bytes (by (first | lia | omega)) hc.1 hc.2.1 (k _ _ (Option.some.inj e ▸ .int _ _))
  | _ => exact no e

/-! slices -/
theorem hi_part {x : V} {v : Value} {n m : Nat} (e : hiOf m x = some n) (r : VR fa μ s.heap v x) : ∃ p, IsPart v p ∧ ∀ q, (m ≤ q → p.elim q (clipAt q) = min (if p.isNone then q else n) q) ∧ (p = none → n = m) := by
  unfold hiOf at e
  split at e
  · rename_i h
    rw [(vr_none h r).none_inv]
    exact ⟨none, .none, fun q => ⟨fun _ => (Nat.min_self q).symm, fun _ => (Option.some.inj e).symm⟩⟩
  · refine obK e fun i h1 e => oiK e fun hi e => (vr_int h1 r).intK fun t => ⟨some i, .int i t, fun q => ⟨fun _ => ?_, fun h => no h.symm⟩⟩
    have := clipAt_nat q i.toNat
    rw [Int.toNat_of_nonneg hi] at this
    rw [← Option.some.inj e]
    exact this
theorem cut_eq {α : Type} (l : List α) (a b : Nat) : (l.drop (min a l.length)).take (min b l.length - min a l.length) = (l.drop a).take (b - a) := by
  by_cases h : a ≤ l.length
  · rw [Nat.min_eq_left h]
    by_cases h2 : b ≤ l.length
    · rw [Nat.min_eq_left h2]
    · rw [Nat.min_eq_right (show l.length ≤ b by (first | lia | omega)), List.take_of_length_le (by simp), List.take_of_length_le (by simp; (first | lia | omega))]
  · rw [Nat.min_eq_right (show l.length ≤ a by (first | lia | omega)), List.drop_of_length_le (Nat.le_refl _), List.drop_of_length_le (show l.length ≤ a by (first | lia | omega))]
    simp
theorem cut_inv {α : Type} {xs ys : List α} {lo hi : V} (e : cutG xs lo hi = some ys) : ∃ a b, hiOf 0 lo = some a ∧ hiOf xs.length hi = some b ∧ ys = (xs.drop a).take (b - a) :=
  obK e fun a h1 e => omK e fun b h2 e => ⟨a, b, h1, h2, e.symm⟩
theorem cut_parts {α : Type} {xs ys : List α} {lo hi : V} {vl vu : Value} (e : cutG xs lo hi = some ys) (rl : VR fa μ s.heap vl lo) (ru : VR fa μ s.heap vu hi) :
    ∃ p q, IsPart vl p ∧ IsPart vu q ∧ (xs.drop (p.elim 0 (clipAt xs.length))).take (q.elim xs.length (clipAt xs.length) - p.elim 0 (clipAt xs.length)) = ys := by
  obtain ⟨a, b, h1, h2, rfl⟩ := cut_inv e
  obtain ⟨p, hp, ep⟩ := hi_part h1 rl
  obtain ⟨q, hq, eq⟩ := hi_part h2 ru
  refine ⟨p, q, hp, hq, ?_⟩
  have e1 : p.elim 0 (clipAt xs.length) = min a xs.length := by
    cases p with
    | none => rw [(ep 0).2 rfl]; exact (Nat.zero_min _).symm
    | some i => exact (ep xs.length).1 (Nat.zero_le _)
  have e2 : q.elim xs.length (clipAt xs.length) = min b xs.length := by
    cases q with
    | none => rw [(eq 0).2 rfl]; exact (Nat.min_self _).symm
    | some i => exact (eq xs.length).1 (Nat.le_refl _)
  rw [e1, e2, cut_eq]
theorem cut_vrs {xs ys : List V} {vs : List Value} {lo hi : V} (e : cutG xs lo hi = some ys) (hv : VRs fa μ s.heap vs xs) : ∃ ws, cutG vs lo hi = some ws ∧ VRs fa μ s.heap ws ys := by
  obtain ⟨a, b, h1, h2, rfl⟩ := cut_inv e
  unfold cutG
  rw [hv.length, h1, h2]
  exact ⟨_, rfl, (hv.drop a).take _⟩
theorem none_part {v : Value} {x : V} (h : isNone x = true) (r : VR fa μ s.heap v x) : IsPart v none := by rw [(vr_none h r).none_inv]; exact .none

theorem sl_list_ok {i : Nat} {xs ys : List V} {lo hi st : V} {v₁ vl vu vs' : Value} {o : Addr} (hx : H[i]? = some xs) (hy : slG xs lo hi st = some ys) (hc : lenOk xs.length = true) (r₁ : VR fa μ s.heap v₁ (.list i)) (rl : VR fa μ s.heap vl lo) (ru : VR fa μ s.heap vu hi) (rs : VR fa μ s.heap vs' st)
    (hs : s.heap.IsSliceOf o vl vu vs') (hl : LH fa μ H s.heap) (k : Ok fa μ s (.list H.length) (H ++ [ys]) Q) : wpAny (model prog w) A (getItem v₁ (.ref o)) Q E s := by
  have hc := lenOk_le hc
  refine hl.getK r₁ hx fun a vs n _ ha hvs => ?_
  have l1 := hvs.length
  have fin : ∀ {p q t : Option Int} {ws : List Value}, VRs fa μ s.heap ws ys → IsPart vl p → IsPart vu q → IsPart vs' t → t ≠ some 0 → slicePick vs.toArray p q t = ws.toArray → wpAny (model prog w) A (getItem (.ref a) (.ref o)) Q E s := fun hws h1 h2 h3 h4 h5 =>
    wpAny_getItem_list_slice (isList_of ha) hs h1 h2 h3 h4 (h5 ▸ k.new (n := 0) hl (push_keeps _ _) (get_size _) (Heap.get?_push_size _ rfl) hws s.toks) (by rw [List.size_toArray, sizeLine_eq]; (first | lia | omega))
  unfold slG at hy
  split at hy
  · rename_i h
    obtain ⟨ws, hw, hws⟩ := cut_vrs hy hvs
    obtain ⟨p, q, hp, hq, e⟩ := cut_parts hw rl ru
    refine fin hws hp hq (none_part h rs) (fun e => no e) ?_
    rw [slicePick_plain, List.size_toArray, e]
  · refine obK hy fun j h1 e => oiK e fun h2 e => (vr_int h1 rs).intK (P := fun v => VR fa μ s.heap v st → s.heap.IsSliceOf o vl vu v → _) (fun t rs hs => ?_) rs hs
    rename_i e
    have hr := Option.some.inj e
    obtain ⟨h1, h2, h3⟩ := h2
    subst h1
    refine wpAny_getItem_list_slice (isList_of ha) hs (none_part h2 rl) (none_part h3 ru) (.int _ _) (by decide) ?_ (by rw [List.size_toArray, sizeLine_eq]; (first | lia | omega))
    rw [krv_pick]
    exact k.new (n := 0) hl (push_keeps _ _) (get_size _) (Heap.get?_push_size _ rfl) (hr ▸ hvs.reverse) s.toks
theorem sl_bytes_ok {b ys : List UInt8} {lo hi st : V} {v₁ vl vu vs' : Value} {o : Addr} (hst : isNone st = true) (hy : cutG b lo hi = some ys) (hc : lenOk b.length = true) (r₁ : VR fa μ s.heap v₁ (.bytes b)) (rl : VR fa μ s.heap vl lo) (ru : VR fa μ s.heap vu hi) (rs : VR fa μ s.heap vs' st)
    (hs : s.heap.IsSliceOf o vl vu vs') (hl : LH fa μ H s.heap) (k : Ok fa μ s (.bytes ys) H Q) : wpAny (model prog w) A (getItem v₁ (.ref o)) Q E s := by
  have hc := lenOk_le hc
  refine r₁.bytesK fun t => ?_
  obtain ⟨p, q, hp, hq, e⟩ := cut_parts hy rl ru
  rw [(vr_none hst rs).none_inv] at hs
  refine getItem_meets (typeIs_bytes _ _ _) (by decide) FB.slot_bytes_getitem FB.entry_bytes_getitem (FB.args_bytes_getitem_2 _ _) (KBc.meets_slice2 b.toArray t o hp hq)
    ⟨hs, Nat.le_trans (KBc.size_picked_le _ _ _) (by rw [List.size_toArray, sizeLine_eq]; (first | lia | omega)), fun t' k' => ?_⟩
  rw [KBc.picked_eq, List.size_toArray, e]
  have := VR.bytes (fa := fa) (μ := μ) (h := s.heap) ys.toArray t'
  exact k.pure (by simpa using this) hl k'
theorem sl_ok {x lo hi st r : V} {v₁ vl vu vs' : Value} {o : Addr} (e : slV x lo hi st H = some (r, H')) (r₁ : VR fa μ s.heap v₁ x) (rl : VR fa μ s.heap vl lo) (ru : VR fa μ s.heap vu hi) (rs : VR fa μ s.heap vs' st)
    (hs : s.heap.IsSliceOf o vl vu vs') (hl : LH fa μ H s.heap) (k : Ok fa μ s r H' Q) :
    wpAny (model prog w) A (getItem v₁ (.ref o)) Q E s :=
  oeK e (fun _ e => obK e fun i h1 e => obK e fun xs hx e => obK e fun ys hy e => oiK e fun hc e => sl_list_ok hx hy hc (vr_list h1 r₁) rl ru rs hs hl (k.of e))
    fun b h1 e => oiK e fun h2 e => obK e fun ys hy e => oiK e fun hc e => sl_bytes_ok h2 hy hc (vr_bytes h1 r₁) rl ru rs hs hl (k.of e)
end


section
variable {prog : Program} {w : World} {A : Around} {E : Value → Shared → Prop} {s : Shared} {fa : Nat → Option Addr} {μ : List Addr} {H H' : HP} {Q : Value → Shared → Prop}

noncomputable def Mt.name : Mt → Str
  | .append => "append" | .insert => "insert" | .pop => "pop" | .remove => "remove"
noncomputable def Mt.id : Mt → String
  | .append => "list.append" | .insert => "list.insert" | .pop => "list.pop" | .remove => "list.remove"

theorem mapSeq_at {h : Heap} {a : Addr} {vs ws : List Value} {n : Nat} {f : Array Value → Array Value} (e : h.get? a = some (Lobj vs n)) (hf : f vs.toArray = ws.toArray) :
    ∃ n', (h.update a (Obj.mapSeq f)).get? a = some (Lobj ws n') := by
  have e2 : Obj.mapSeq f (Lobj vs n) = Lobj ws (if ws.toArray.size == vs.toArray.size then n else n + 1) := by
    simp only [Obj.mapSeq, Lobj, hf]
  exact ⟨_, by rw [Heap.get?_update_self _ e (by rw [e2]; rfl), e2]⟩
theorem update_keeps {h : Heap} {a : Addr} {f : Obj → Obj} : ∀ b o, b ≠ a → h.get? b = some o → (h.update a f).get? b = some o := fun _ _ hb e => (Heap.get?_update_ne _ _ _ _ hb).trans e

theorem ins_arr (ws : List Value) (y : Value) (k : Nat) : (ws.toArray.extract 0 k).push y ++ ws.toArray.extract k = (ws.take k ++ y :: ws.drop k).toArray := by
  apply Array.toList_inj.mp
  simp [List.take_of_length_le]
theorem eraseIdx_arr {vs : List Value} {j : Nat} (h : j < vs.length) : vs.toArray.eraseIdxIfInBounds j = (vs.eraseIdx j).toArray := by
  unfold Array.eraseIdxIfInBounds
  have h' : j < vs.toArray.size := by simpa using h
  rw [dif_pos h']
  simp

theorem contains_idx : ∀ {is : List Int} {x : Int}, is.contains x = true → is.idxOf x < is.length ∧ is[is.idxOf x]? = some x ∧ ∀ m, m < is.idxOf x → ∀ y, is[m]? = some y → y ≠ x
  | [], x, h => by simp at h
  | a :: is, x, h => by
    by_cases hax : a = x
    · subst hax
      have e : (a :: is).idxOf a = 0 := List.idxOf_cons_self
      rw [e]
      exact ⟨by simp, by simp, fun m hm => absurd hm (Nat.not_lt_zero _)⟩
    · have hc : is.contains x = true := by
        simp only [List.contains_cons, Bool.or_eq_true, beq_iff_eq] at h
        rcases h with h | h
        · exact absurd h.symm hax
        · exact h
      obtain ⟨h1, h2, h3⟩ := contains_idx hc
      have e : (a :: is).idxOf x = is.idxOf x + 1 := by
        have hb : (a == x) = false := by simpa using hax
        simp only [List.idxOf, List.findIdx_cons, hb, cond_false]
      rw [e]
      refine ⟨by simpa using h1, by simpa using h2, fun m hm y hy => ?_⟩
      cases m with
      | zero => simp at hy; subst hy; exact hax
      | succ m => simp at hy; exact h3 m (by (first | lia | omega)) y hy

theorem ints_get : ∀ {vs : List Value} {is : List Int} {j : Nat} {v : Value}, IntsAre vs is → vs[j]? = some v → ∃ i t, is[j]? = some i ∧ v = .int i t
  | _, _, j, v, .nil, e => by simp at e
  | _, _, 0, v, .cons n t h, e => by simp at e; subst e; exact ⟨n, t, rfl, rfl⟩
  | _, _, j + 1, v, .cons n t h, e => by
    simp at e
    obtain ⟨i, u, h1, h2⟩ := ints_get h e
    exact ⟨i, u, by simpa using h1, h2⟩

theorem meth_append_ok {i : Nat} {xs : List V} {r : V} {args : List V} {v : Value} {vs : List Value} (h0 : i ≠ 0) (hx : H[i]? = some xs) (e : mtAppend i xs args H = some (r, H')) (r₁ : VR fa μ s.heap v (.list i)) (r₂ : VRs fa μ s.heap vs args) (hl : LH fa μ H s.heap) (k : Ok fa μ s r H' Q) :
    wpAny (model prog w) A (call (.builtin Mt.append.id) (v :: vs)) Q E s := by
  refine obK e fun x h1 e => oiK e fun hc e => hl.getK r₁ hx fun a ws n hi ha hws => (one_inv h1 ▸ r₂).oneK fun u r₂ => ?_
  have := lenOk_le hc
  have l1 := hws.length
  refine wpAny_list_append_plain ⟨n, ha⟩ (fun h' hp hs => ?_) (by rw [List.size_toArray, sizeLine_eq]; (first | lia | omega))
  obtain ⟨n', hn'⟩ := hp
  exact (k.of e).upd (n := n') hl hi h0 (fun b o hb e => (hs.2 b hb).trans e) (by rw [hn']; simp [Lobj]) (hws.append (.cons r₂ .nil)) (fun _ => .none) s.toks
theorem meth_insert_ok {i : Nat} {xs : List V} {r : V} {args : List V} {v : Value} {vs : List Value} (h0 : i ≠ 0) (hx : H[i]? = some xs) (e : mtInsert i xs args H = some (r, H')) (r₁ : VR fa μ s.heap v (.list i)) (r₂ : VRs fa μ s.heap vs args) (hl : LH fa μ H s.heap) (k : Ok fa μ s r H' Q) :
    wpAny (model prog w) A (call (.builtin Mt.insert.id) (v :: vs)) Q E s := by
  refine obK e fun p h1 e => obK e fun j h2 e => oiK e fun hc e => hl.getK r₁ hx fun a ws n hi ha hws => (two_inv h1 ▸ r₂).twoK fun u y r₂ r₃ => (vr_int h2 r₂).intK fun t => ?_
  have g1 := bAnd hc
  have g2 := bAnd g1.1
  have c1 := lenOk_le g2.1
  have c2 := of_decide_eq_true g2.2
  have c3 := of_decide_eq_true g1.2
  have l1 := hws.length
  refine call_meets F.slot_list_insert ⟨_, ha, rfl⟩ F.entry_list_insert (F.args_list_insert_3 _ _ _)
    (AutoSeq1.list_insert_list_int_val_1 a ws.toArray n j t _ (by simp [Builtin.List.listFitsIndex]; (first | lia | omega)) (by rw [List.size_toArray, sizeLine_eq]; (first | lia | omega))) ⟨ha, ?_⟩
  obtain ⟨n', hn'⟩ := mapSeq_at (f := fun xs => have k := if j < 0 then (j + (xs.size : Int)).toNat else min j.toNat xs.size; (xs.extract 0 k).push y ++ xs.extract k) (ws := ws.take j.toNat ++ y :: ws.drop j.toNat) ha (by
    have e2 : min j.toNat ws.toArray.size = j.toNat := by rw [List.size_toArray]; (first | lia | omega)
    simp only [if_neg (Int.not_lt.mpr c2), e2]
    exact ins_arr ws y j.toNat)
  exact (k.of e).upd (n := n') hl hi h0 update_keeps hn' ((hws.take _).append (.cons r₃ (hws.drop _))) (fun _ => .none) s.toks
theorem pop_at {i j : Nat} {xs : List V} {y : V} {v : Value} {vs : List Value} (h0 : i ≠ 0) (hx : H[i]? = some xs) (hy : xs[j]? = some y) (hc : lenOk xs.length = true) (r₁ : VR fa μ s.heap v (.list i)) (hl : LH fa μ H s.heap) (k : Ok fa μ s y (H.set i (xs.eraseIdx j)) Q)
    (h : ∀ a (ws : List Value) n u, s.heap.get? a = some (Lobj ws n) → ws.length = xs.length → ws.length ≤ 1048576 → j < ws.length → ws.toArray[j]? = some u → Q u { s with heap := s.heap.update a (Obj.mapSeq fun xs => xs.eraseIdxIfInBounds j) } → wpAny (model prog w) A (call (.builtin Mt.pop.id) (.ref a :: vs)) Q E s) :
    wpAny (model prog w) A (call (.builtin Mt.pop.id) (v :: vs)) Q E s := by
  refine hl.getK r₁ hx fun a ws n hi ha hws => ?_
  obtain ⟨u, g1, g2⟩ := hws.get hy
  have hlt := lt_of_get g1
  obtain ⟨n', hn'⟩ := mapSeq_at (f := fun xs => xs.eraseIdxIfInBounds j) (ws := ws.eraseIdx j) ha (eraseIdx_arr hlt)
  exact h a ws n u ha hws.length (hws.length ▸ lenOk_le hc) hlt (List.getElem?_toArray.trans g1) (k.upd (n := n') hl hi h0 update_keeps hn' (hws.eraseIdx _) (fun x => x.vr g2) s.toks)
theorem meth_pop_ok {i : Nat} {xs : List V} {r : V} {args : List V} {v : Value} {vs : List Value} (h0 : i ≠ 0) (hx : H[i]? = some xs) (e : mtPop i xs args H = some (r, H')) (r₁ : VR fa μ s.heap v (.list i)) (r₂ : VRs fa μ s.heap vs args) (hl : LH fa μ H s.heap) (k : Ok fa μ s r H' Q) :
    wpAny (model prog w) A (call (.builtin Mt.pop.id) (v :: vs)) Q E s := by
  cases args with
  | nil =>
    refine obK e fun y hy e => oiK e fun hc e => ?_
    cases r₂
    refine pop_at h0 hx hy hc r₁ hl (k.of e) fun a ws n u ha l1 l2 hlt g1 q => ?_
    rw [← l1] at g1 q hlt
    exact call_meets F.slot_list_pop ⟨_, ha, rfl⟩ F.entry_list_pop (F.args_list_pop_1 _) (MeetsSeq.list_pop_last a ws.toArray n u (by rw [List.size_toArray]; exact g1) (by rw [List.size_toArray, sizeLine_eq]; (first | lia | omega))) ⟨ha, by rw [List.size_toArray]; exact q⟩
  | cons x args =>
    refine obK e fun x h1 e => obK e fun j h2 e => obK e fun y hy e => oiK e fun hc e => (one_inv h1 ▸ r₂).oneK fun u r₂ => (vr_int h2 r₂).intK fun t => ?_
    have hc := bAnd hc
    have c2 := of_decide_eq_true hc.2
    refine pop_at h0 hx hy hc.1 r₁ hl (k.of e) fun a ws n u ha l1 l2 hlt g1 q => ?_
    refine call_meets F.slot_list_pop ⟨_, ha, rfl⟩ F.entry_list_pop (F.args_list_pop_2 _ _)
      (MeetsSeq.list_pop_at a ws.toArray n j t j.toNat u (by simp [Builtin.List.listFitsIndex]; (first | lia | omega)) (by
        unfold seqIndex?
        have : ¬ j < 0 := Int.not_lt.mpr c2
        simp [this]
        (first | lia | omega)) g1 (by rw [List.size_toArray, sizeLine_eq]; (first | lia | omega))) ⟨ha, q⟩
theorem isI_inv {j i : Int} {u : Tok} : isI j (.int i u) = (i == j) := rfl
theorem meth_remove_ok {i : Nat} {xs : List V} {r : V} {args : List V} {v : Value} {vs : List Value} (h0 : i ≠ 0) (hx : H[i]? = some xs) (e : mtRemove i xs args H = some (r, H')) (r₁ : VR fa μ s.heap v (.list i)) (r₂ : VRs fa μ s.heap vs args) (hl : LH fa μ H s.heap) (k : Ok fa μ s r H' Q) :
    wpAny (model prog w) A (call (.builtin Mt.remove.id) (v :: vs)) Q E s := by
  refine obK e fun x h1 e => obK e fun j h2 e => obK e fun is hy e => oiK e fun hc e => hl.getK r₁ hx fun a ws n hi ha hws => (one_inv h1 ▸ r₂).oneK fun u r₂ => (vr_int h2 r₂).intK fun t => ?_
  have hc := bAnd hc
  have c1 := lenOk_le hc.1
  have l1 := hws.length
  have hI := intsAre_of (s := s) xs hws hy
  have l2 := hI.length
  obtain ⟨c1, c2, c3⟩ := contains_idx hc.2
  have g1 := (isI_ok (a := j) (t := t) hI).1
  have hlt : is.idxOf j < ws.length := by (first | lia | omega)
  refine call_meets F.slot_list_remove ⟨_, ha, rfl⟩ F.entry_list_remove (F.args_list_remove_2 _ _)
    (MeetsSeq.list_remove a ws.toArray n (.int j t) (isI j) (fun y hy => g1 y (by simpa using hy)) (is.idxOf j) (by rw [List.size_toArray]; exact hlt) ?_ ?_ (by rw [List.size_toArray, sizeLine_eq]; (first | lia | omega))) ⟨ha, ?_⟩
  · obtain ⟨i', u, h1, h2⟩ := ints_get hI (List.getElem?_eq_getElem hlt)
    rw [c2] at h1
    rw [List.getElem_toArray, h2, isI_inv, Option.some.inj h1]
    exact beq_self_eq_true _
  · intro m hm hlt'
    have hm' : m < ws.length := by simpa using hm
    obtain ⟨i', u, h1, h2⟩ := ints_get hI (List.getElem?_eq_getElem hm')
    rw [List.getElem_toArray, h2, isI_inv]
    exact beq_false_of_ne (c3 m hlt' i' h1)
  obtain ⟨n', hn'⟩ := mapSeq_at (f := fun xs => xs.eraseIdxIfInBounds (is.idxOf j)) (ws := ws.eraseIdx (is.idxOf j)) ha (eraseIdx_arr hlt)
  exact (k.of e).upd (n := n') hl hi h0 update_keeps hn' (hws.eraseIdx _) (fun _ => .none) s.toks
theorem meth_ok {m : Mt} {x r : V} {args : List V} {v : Value} {vs : List Value} (e : meth m x args H = some (r, H')) (r₁ : VR fa μ s.heap v x) (r₂ : VRs fa μ s.heap vs args) (hl : LH fa μ H s.heap) (k : Ok fa μ s r H' Q) :
    wpAny (model prog w) A (call (.builtin m.id) (v :: vs)) Q E s := by
  refine obK e fun i h1 e => obK e fun xs hx e => oiK e fun h0 e => ?_
  have r₁ := vr_list h1 r₁
  cases m with
  | append => exact meth_append_ok h0 hx e r₁ r₂ hl k
  | insert => exact meth_insert_ok h0 hx e r₁ r₂ hl k
  | pop => exact meth_pop_ok h0 hx e r₁ r₂ hl k
  | remove => exact meth_remove_ok h0 hx e r₁ r₂ hl k
end

section
variable {prog : Program} {w : World} {A : Around} {E : Value → Shared → Prop} {s : Shared} {fa : Nat → Option Addr} {μ : List Addr} {H H' : HP} {Q : Value → Shared → Prop}
theorem ints_of_vrs {h : Heap} : ∀ {vs : List Value} {is : List Int}, VRs fa μ h vs (is.map V.int) → IntsAre vs is
  | _, [], .nil => .nil
  | _, i :: is, .cons hv hs => by
    obtain ⟨t, rfl⟩ := hv.int_inv
    exact .cons i t (ints_of_vrs hs)
theorem ints_len : ∀ {vs : List Value} {is : List Int}, IntsAre vs is → vs.length = is.length
  | _, _, .nil => rfl
  | _, _, .cons _ _ h => congrArg (· + 1) (ints_len h)
/-- two tuples of ints of one length, compared -/
theorem tup_lt_tree {a b : Addr} {vs ws : List Value} {n k : Nat} {x y : List Int} {P : Fin → Shared → Prop} (ha : s.heap.get? a = some (Tobj vs n)) (hb : s.heap.get? b = some (Tobj ws k)) (hx : IntsAre vs x) (hy : IntsAre ws y) (hl : x.length = y.length)
    (h : P (.done (.ret (.bool (lexLt x y)))) s) : wpAny (model prog w) A (Builtin.«tuple.__lt__» ⟨[.ref a, .ref b], []⟩) P E s := by
  have hTb : s.TypeIs (.ref b) "tuple" := ⟨_, hb, rfl⟩
  show wpAny _ _ (isInstance (.ref b) (.type "tuple") >>= _) _ _ s
  refine wpAny_bind (wpAny_isInstance hTb isSubtype_tuple_tuple ?_)
  simp only [Bool.not_true, Bool.false_eq_true, if_false]
  refine wpAny_bind (wpAny_tupleItemsOf ha rfl ?_)
  refine wpAny_bind (wpAny_tupleItemsOf hb rfl ?_)
  refine wpAny_bind ?_
  refine wpAny_forIn_list _
    (fun rest r s' => r.1 = none ∧ s' = s ∧ ∃ x' y' xs' ys', rest = List.zip xs' ys' ∧ IntsAre xs' x' ∧ IntsAre ys' y' ∧ lexLt x' y' = lexLt x y ∧ x'.length = y'.length)
    _ ?_ ?_ _ _ ⟨rfl, rfl, x, y, vs, ws, rfl, hx, hy, rfl, hl⟩
  · rintro ⟨u, v⟩ rest r s' ⟨hr, rfl, x', y', xs', ys', hz, hx', hy', hlx, hln⟩
    cases hx' with
    | nil => simp at hz
    | @cons k1 t xs'' x'' hx'' =>
      cases hy' with
      | nil => simp at hz
      | @cons k2 u ys'' y'' hy'' =>
        simp only [List.zip_cons_cons, List.cons.injEq, Prod.mk.injEq] at hz
        obtain ⟨⟨rfl, rfl⟩, rfl⟩ := hz
        refine wpAny_bind (wpAny_eqBool_int ?_)
        by_cases hk : k1 = k2
        · subst hk
          rw [beq_self_eq_true]
          simp only [Bool.not_true, Bool.false_eq_true, if_false]
          refine wpAny_pure ⟨rfl, rfl, x'', y'', xs'', ys'', rfl, hx'', hy'', ?_, by simpa using hln⟩
          rw [← hlx]
          simp [lexLt]
        · rw [beq_eq_false_iff_ne.mpr hk]
          simp only [Bool.not_false, if_true]
          refine wpAny_bind (wpAny_rule ?_)
          refine wpAny_bind (richCompare_gives (op := .Lt) (typeIs_int s' _ t) (typeIs_int s' _ _) F.slot_int_lt F.entry_int_lt (F.args_int_lt_2 _ _) (gives_int_lt _ _ t _) (fun x => nomatch x) ?_)
          have e : lexLt x y = decide (k1 < k2) := by rw [← hlx]; simp [lexLt, hk]
          rw [e] at h
          exact wpAny_pure (wpAny_pure h)
  · rintro ⟨r1, r2⟩ s' ⟨hr, rfl, x', y', xs', ys', hz, hx', hy', hlx, hln⟩
    simp only at hr
    subst hr
    refine wpAny_pure ?_
    have e : lexLt x y = false := by
      rw [← hlx]
      cases hx' with
      | nil =>
        have := List.eq_nil_of_length_eq_zero hln.symm
        rw [this]; rfl
      | cons _ _ =>
        cases hy' with
        | nil => simp at hln
        | cons _ _ => simp at hz
    rw [e] at h
    have e2 : decide (vs.toArray.size < ws.toArray.size) = false := by
      rw [List.size_toArray, List.size_toArray, ints_len hx, ints_len hy, hl]
      exact decide_eq_false (Nat.lt_irrefl _)
    show P (.done (.ret (.bool (decide (vs.toArray.size < ws.toArray.size))))) s'
    rw [e2]; exact h
theorem tup_lt {a b : Addr} {vs ws : List Value} {n k : Nat} {x y : List Int} (hu : A.units < cLine) (ha : s.heap.get? a = some (Tobj vs n)) (hb : s.heap.get? b = some (Tobj ws k)) (hx : IntsAre vs x) (hy : IntsAre ws y) (hl : x.length = y.length)
    (h : Q (.bool (lexLt x y)) s) : wpAny (model prog w) A (richCompare .Lt (.ref a) (.ref b)) Q E s :=
  wpAny_richCompare_same_room (op := .Lt) (T := "tuple") ⟨_, ha, rfl⟩ ⟨_, hb, rfl⟩ F.slot_tuple_lt
    (wpAny_call_entry F.slot_tuple_lt (⟨_, ha, rfl⟩ : s.TypeIs (.ref a) "tuple") F.entry_tuple_lt (tup_lt_tree ha hb hx hy hl ⟨_, rfl, (fun e => nomatch e), h⟩) (F.args_tuple_lt_2 _ _)) hu

theorem intsOf_inv : ∀ {xs : List V} {is : List Int}, intsOf xs = some is → xs = is.map .int
  | [], is, e => by rw [← Option.some.inj e]; rfl
  | x :: xs, is, e => by
    refine obK e fun i h1 e => omK e fun is' h2 e => ?_
    rw [← e, intOf_inv h1, intsOf_inv h2]; rfl
theorem tups_at {h : Heap} : ∀ {vs : List Value} {xs : List V} {ts : List (List Int)}, VRs fa μ h vs xs → tupsOf xs = some ts → vs.length = ts.length ∧ ∀ (i : Nat) (v : Value), vs[i]? = some v → ∃ t, ts[i]? = some t ∧ VR fa μ h v (ofInts t) ∧ ∃ a ws n, v = .ref a ∧ h.get? a = some (Tobj ws n) ∧ IntsAre ws t
  | _, [], ts, .nil, e => by
    rw [← Option.some.inj e]
    exact ⟨rfl, fun i v hv => by simp at hv⟩
  | _, x :: xs, ts, .cons (v := v) hv hs, e => by
    refine obK e fun t h1 e => omK e fun ts' h2 e => ?_
    obtain ⟨g1, g2⟩ := tups_at hs h2
    subst e
    refine ⟨congrArg (· + 1) g1, fun i u hu => ?_⟩
    cases i with
    | succ i => exact g2 i u hu
    | zero =>
      obtain rfl : v = u := Option.some.inj hu
      refine ⟨t, rfl, ?_⟩
      refine obK h1 fun l h3 h4 => ?_
      have e1 : l = t.map .int := intsOf_inv h4
      have e2 : x = .tup l := asTup_inv h3
      subst e2
      subst e1
      refine ⟨hv, ?_⟩
      obtain ⟨a, ws, n, rfl, h5, h6⟩ := hv.tup_inv
      exact ⟨a, ws, n, rfl, h5, ints_of_vrs h6⟩
theorem minL_snoc : ∀ (l : List (List Int)) (m x : List Int), minL m (l ++ [x]) = if lexLt x (minL m l) then x else minL m l
  | [], _, _ => rfl
  | y :: l, m, x => minL_snoc l (if lexLt y m then y else m) x
theorem best_min {m : List Int} {ms : List (List Int)} : ∀ k, k ≤ ms.length → ∃ t, (m :: ms)[argBest (fun i j => lexLt ((m :: ms).getD i []) ((m :: ms).getD j [])) k]? = some t ∧ minL m (ms.take k) = t
  | 0, _ => ⟨m, rfl, rfl⟩
  | k + 1, hk => by
    obtain ⟨t, h1, h2⟩ := best_min (m := m) (ms := ms) k (by (first | lia | omega))
    have hx : (m :: ms)[k + 1]? = some ms[k] := by rw [List.getElem?_cons_succ, List.getElem?_eq_getElem hk]
    have e1 : (m :: ms).getD (argBest (fun i j => lexLt ((m :: ms).getD i []) ((m :: ms).getD j [])) k) [] = t := by rw [List.getD_eq_getElem?_getD, h1]; rfl
    have e2 : (m :: ms).getD (k + 1) [] = ms[k] := by rw [List.getD_eq_getElem?_getD, hx]; rfl
    rw [List.take_succ_eq_append_getElem hk, minL_snoc, h2]
    unfold argBest
    rw [e1, e2]
    cases lexLt ms[k] t with
    | true => exact ⟨_, hx, rfl⟩
    | false => exact ⟨t, h1, rfl⟩

section loop
variable {R : Result → Shared → Prop} {I S l : Addr} {items : Array Value} {bt : Nat → Nat → Bool} {Kp : Heap → Prop}
theorem min_loop (hh : A.in1.handled = none) (hlI : l ≠ I) (hSI : S ≠ I) (hSl : S ≠ l) (hK : ∀ h h', Kp h → (∀ b o, b ≠ I → b ≠ S → h.get? b = some o → h'.get? b = some o) → Kp h')
    (hcmp : ∀ i j vi vj (s : Shared) (Q E : Value → Shared → Prop), Kp s.heap → items[i]? = some vi → items[j]? = some vj → Q (.bool (bt i j)) s → wpAny (model prog w) A.in1 (richCompare .Lt vi vj) Q E s) :
    ∀ (k j : Nat) (s : Shared) (vb : Value) (c : Nat), items.size - (j + 1) = k → j + 1 ≤ items.size → s.heap.IsListIter I l (j + 1) → s.heap.IsList l items → Kp s.heap → items[argBest bt j]? = some vb →
    s.heap.get? S = some { cls := .type "list", dict := none, data := .seq #[vb, vb] c, slots := #[] } →
    (∀ v h' tk, items[argBest bt (items.size - 1)]? = some v → (∀ b o, b ≠ I → b ≠ S → s.heap.get? b = some o → h'.get? b = some o) → R (.ok (.ret v)) { s with heap := h', toks := tk }) →
    codeAny (model prog w) A (.builtin "min.loop" ⟨[.ref I, .none, .ref S], []⟩) R s := by
  have W := Walks.list (prog := prog) (w := w) (A := A.in1) hh I l hlI items
  have hname : (toString "min" ++ toString ".loop" : String) = "min.loop" := by decide
  have hSw : S ∉ [I] := by simpa using hSI
  have wr : ∀ {h h' : Heap}, (∀ b o, b ∉ [I] → h.get? b = some o → h'.get? b = some o) → ∀ b o, b ≠ I → h.get? b = some o → h'.get? b = some o := fun hk b o hb e => hk b o (by simpa using hb) e
  intro k
  induction k with
  | zero =>
    intro j s vb c hk hj hi hl hkp hPb hS hR
    have hin : j + 1 = items.size := by (first | lia | omega)
    refine codeAny_builtin F.entry_min_loop ?_
    rw [Around.under_plainId F.plain_min_loop _]
    show wpAny _ A.in1 (seqItems? (.ref S) >>= _) _ _ s
    refine wpAny_bind (wpAny_seqItems hS rfl ?_)
    show wpAny _ A.in1 (tryCatch (pyNext (.ref I)) _ >>= _) _ _ s
    refine wpAny_bind (wpAny_tryCatch (W.done s _ _ (hin ▸ ⟨hi, hl⟩) fun h' tk hk' => ?_))
    have hS' := hk' S _ hSw hS
    show wpAny _ A.in1 (updateSeq S (fun _ => #[]) >>= _) _ _ _
    refine wpAny_bind ?_
    refine wpAny_updateSeq hS' rfl (wpAny_bind (wpAny_letGo (wpAny_pure ?_)))
    exact hR vb _ tk (by rw [← hin]; exact hPb) fun b o hbw hbS e => (Heap.get?_update_other _ _ (Ne.symm hbS)).trans (wr hk' b o hbw e)
  | succ k ih =>
    intro j s vb c hk hj hi hl hkp hPb hS hR
    have hlt : j + 1 < items.size := by (first | lia | omega)
    refine codeAny_builtin F.entry_min_loop ?_
    rw [Around.under_plainId F.plain_min_loop _]
    show wpAny _ A.in1 (seqItems? (.ref S) >>= _) _ _ s
    refine wpAny_bind (wpAny_seqItems hS rfl ?_)
    show wpAny _ A.in1 (tryCatch (pyNext (.ref I)) _ >>= _) _ _ s
    refine wpAny_bind (wpAny_tryCatch (W.item (j + 1) s _ _ hlt ⟨hi, hl⟩ fun v h' tk hP hst' hk' => ?_))
    have hS' := hk' S _ hSw hS
    have kp' := hK _ _ hkp fun b o hb _ e => wr hk' b o hb e
    show wpAny _ A.in1 (tryCatch (holding [v, v] (richCompare .Lt v vb >>= _)) _ >>= _) _ _ _
    refine wpAny_bind (wpAny_tryCatch (wpAny_holding (wpAny_bind (hcmp (j + 1) (argBest bt j) v vb _ _ _ kp' hP hPb ?_))))
    refine wpAny_bind (wpAny_holding (wpAny_truthy_bool ?_))
    refine wpAny_bind (wpAny_letGo (wpAny_pure ?_))
    cases hb : bt (j + 1) (argBest bt j) with
    | true =>
      simp only [if_true]
      refine wpAny_bind ?_
      refine wpAny_updateSeq hS' rfl (wpAny_bind (wpAny_letGo ?_))
      rw [hname]
      have up : ∀ b o, b ≠ S → h'.get? b = some o → (h'.update S (Obj.mapSeq fun _ => #[v, v])).get? b = some o := fun b o hb e => (Heap.get?_update_other _ _ (Ne.symm hb)).trans e
      refine wpAny_pure ⟨plainId_quiet F.plain_min_loop _, ih (j + 1) _ v _ (by (first | lia | omega)) hlt (hst'.1.at fun o e => up I o (Ne.symm hSI) e) (hst'.2.at fun o e => up l o (Ne.symm hSl) e) (hK _ _ kp' fun b o _ hb e => up b o hb e) (by simp only [argBest, hb, if_true]; exact hP) (Heap.get?_update_self _ hS' rfl)
        fun v' h'' tk'' hP' hk'' => ?_⟩
      exact hR v' h'' tk'' hP' fun b o hbw hbS e => hk'' b o hbw hbS (up b o hbS (wr hk' b o hbw e))
    | false =>
      simp only [Bool.false_eq_true, if_false]
      refine wpAny_bind (wpAny_letGo ?_)
      rw [hname]
      refine wpAny_pure ⟨plainId_quiet F.plain_min_loop _, ih (j + 1) _ vb c (by (first | lia | omega)) hlt hst'.1 hst'.2 kp' (by simp only [argBest, hb, Bool.false_eq_true, if_false]; exact hPb) hS' fun v' h'' tk'' hP' hk'' => ?_⟩
      exact hR v' h'' tk'' hP' fun b o hbw hbS e => hk'' b o hbw hbS (wr hk' b o hbw e)
theorem min_first (hh : A.in1.handled = none) (hlI : l ≠ I) (hSI : S ≠ I) (hSl : S ≠ l) (hn : 0 < items.size) (hK : ∀ h h', Kp h → (∀ b o, b ≠ I → b ≠ S → h.get? b = some o → h'.get? b = some o) → Kp h')
    (hcmp : ∀ i j vi vj (s : Shared) (Q E : Value → Shared → Prop), Kp s.heap → items[i]? = some vi → items[j]? = some vj → Q (.bool (bt i j)) s → wpAny (model prog w) A.in1 (richCompare .Lt vi vj) Q E s)
    {s : Shared} {c : Nat} (hi : s.heap.IsListIter I l 0) (hl : s.heap.IsList l items) (hkp : Kp s.heap)
    (hS : s.heap.get? S = some { cls := .type "list", dict := none, data := .seq #[] c, slots := #[] })
    (hR : ∀ v h' tk, items[argBest bt (items.size - 1)]? = some v → (∀ b o, b ≠ I → b ≠ S → s.heap.get? b = some o → h'.get? b = some o) → R (.ok (.ret v)) { s with heap := h', toks := tk }) :
    codeAny (model prog w) A (.builtin "min.loop" ⟨[.ref I, .none, .ref S], []⟩) R s := by
  have W := Walks.list (prog := prog) (w := w) (A := A.in1) hh I l hlI items
  have hname : (toString "min" ++ toString ".loop" : String) = "min.loop" := by decide
  have hSw : S ∉ [I] := by simpa using hSI
  have wr : ∀ {h h' : Heap}, (∀ b o, b ∉ [I] → h.get? b = some o → h'.get? b = some o) → ∀ b o, b ≠ I → h.get? b = some o → h'.get? b = some o := fun hk b o hb e => hk b o (by simpa using hb) e
  refine codeAny_builtin F.entry_min_loop ?_
  rw [Around.under_plainId F.plain_min_loop _]
  show wpAny _ A.in1 (seqItems? (.ref S) >>= _) _ _ s
  refine wpAny_bind (wpAny_seqItems hS rfl ?_)
  show wpAny _ A.in1 (tryCatch (pyNext (.ref I)) _ >>= _) _ _ s
  refine wpAny_bind (wpAny_tryCatch (W.item 0 s _ _ hn ⟨hi, hl⟩ fun v h' tk hP hst' hk' => ?_))
  have hS' := hk' S _ hSw hS
  show wpAny _ A.in1 (updateSeq S (fun _ => #[v, v]) >>= _) _ _ _
  refine wpAny_bind ?_
  refine wpAny_updateSeq hS' rfl ?_
  rw [hname]
  have up : ∀ b o, b ≠ S → h'.get? b = some o → (h'.update S (Obj.mapSeq fun _ => #[v, v])).get? b = some o := fun b o hb e => (Heap.get?_update_other _ _ (Ne.symm hb)).trans e
  refine wpAny_pure ⟨plainId_quiet F.plain_min_loop _, min_loop hh hlI hSI hSl hK hcmp _ 0 _ v _ rfl hn (hst'.1.at fun o e => up I o (Ne.symm hSI) e) (hst'.2.at fun o e => up l o (Ne.symm hSl) e) (hK _ _ (hK _ _ hkp fun b o hb _ e => wr hk' b o hb e) fun b o _ hb e => up b o hb e) hP (Heap.get?_update_self _ hS' rfl) fun v' h'' tk'' hP' hk'' => ?_⟩
  exact hR v' h'' tk'' hP' fun b o hbw hbS e => hk'' b o hbw hbS (up b o hbS (wr hk' b o hbw e))
end loop
theorem min_ok {i : Nat} {m : List Int} {ms : List (List Int)} {xs : List V} {v : Value} (hA : A.handled = none) (hx : H[i]? = some xs) (ht : tupsOf xs = some (m :: ms)) (hs : ∀ t ∈ ms, t.length = m.length) (r : VR fa μ s.heap v (.list i)) (hl : LH fa μ H s.heap)
    (hu : A.units + 10 < cLine) (k : Ok fa μ s (ofInts (minL m ms)) H Q) : wpAny (model prog w) A (call (.builtin "min") [v]) Q E s := by
  refine hl.getK r hx fun a vs n _ ha hvs => ?_
  obtain ⟨hlen, hat⟩ := tups_at hvs ht
  have hlen : vs.length = ms.length + 1 := hlen
  have hisl : s.heap.IsList a vs.toArray := isList_of ha
  have halt : a < s.heap.objs.size := Heap.lt_size ha
  have hname : (toString "min" ++ toString ".loop" : String) = "min.loop" := by decide
  refine call_function_tree F.kind_min F.plain_min F.entry_min (F.args_min1 _) ?_
  show wpAny _ A.in1 (Builtin.Builtins.bindParams "min" ["key", "default"] 0 ⟨[], []⟩ >>= _) _ _ s
  refine wpAny_bind (wpAny_of_eq (show Builtin.Builtins.bindParams "min" ["key", "default"] 0 ⟨[], []⟩ = pure [none, none] from rfl) ?_)
  refine wpAny_bind (wpAny_pure ?_)
  refine wpAny_bind (wpAny_pyIter_list hisl ?_)
  refine wpAny_bind (wpAny_newObj_type ?_)
  rw [hname]
  have hsz : (s.heap.push { cls := .type "list_iterator", data := .fields #[.ref a, .int 0 0] }).objs.size = s.heap.objs.size + 1 := Heap.size_push ..
  have kp : ∀ {h h' : Heap}, (∀ b o, s.heap.get? b = some o → h.get? b = some o) → (∀ b o, b ≠ s.heap.objs.size → b ≠ s.heap.objs.size + 1 → h.get? b = some o → h'.get? b = some o) → ∀ b o, s.heap.get? b = some o → h'.get? b = some o := fun h1 h2 b o e => by
    have := Heap.lt_size e
    exact h2 b o (Nat.ne_of_lt this) (Nat.ne_of_lt (Nat.lt_succ_of_lt this)) (h1 b o e)
  have k0 : ∀ b o, s.heap.get? b = some o → ((s.heap.push { cls := .type "list_iterator", data := .fields #[.ref a, .int 0 0] }).push { cls := .type "list", data := .seq #[] }).get? b = some o := fun b o e => Heap.get?_push_of_some _ (Heap.get?_push_of_some _ e)
  refine wpAny_pure ⟨plainId_quiet F.plain_min_loop _, ?_⟩
  have hitem : ∀ (j : Nat) (u : Value), vs.toArray[j]? = some u → ∃ t, (m :: ms)[j]? = some t ∧ t.length = m.length ∧ VR fa μ s.heap u (ofInts t) ∧ ∃ a ws n, u = .ref a ∧ s.heap.get? a = some (Tobj ws n) ∧ IntsAre ws t := fun j u hu => by
    obtain ⟨t, h1, h2, h3⟩ := hat j u (by simpa using hu)
    refine ⟨t, h1, ?_, h2, h3⟩
    rcases List.mem_cons.mp (List.mem_of_getElem? h1) with rfl | h
    · rfl
    · exact hs t h
  refine min_first (I := s.heap.objs.size) (S := (s.heap.push { cls := .type "list_iterator", data := .fields #[.ref a, .int 0 0] }).objs.size) (l := a) (items := vs.toArray) (bt := fun i j => lexLt ((m :: ms).getD i []) ((m :: ms).getD j [])) (Kp := fun h => ∀ b o, s.heap.get? b = some o → h.get? b = some o)
    hA (Nat.ne_of_lt halt) (by rw [hsz]; exact Nat.succ_ne_self _) (by rw [hsz]; exact Nat.ne_of_gt (Nat.lt_succ_of_lt halt)) (by rw [List.size_toArray, hlen]; exact Nat.succ_pos _) (fun h h' h1 h2 => kp h1 (by rw [hsz] at h2; exact h2)) (fun i j vi vj s' Q' E' hk hi hj hq => ?_) ⟨_, Heap.get?_push_of_some _ (Heap.get?_push_size _ rfl), rfl, rfl⟩ (hisl.at fun o e => k0 a o e) k0 (Heap.get?_push_size _ rfl) fun u h' tk hP hk => ?_
  · obtain ⟨t1, e1, l1, _, a1, w1, n1, rfl, o1, i1⟩ := hitem i vi hi
    obtain ⟨t2, e2, l2, _, a2, w2, n2, rfl, o2, i2⟩ := hitem j vj hj
    refine tup_lt (show A.in1.units < cLine by have : A.in1.units = A.units + 1 := rfl; (first | lia | omega)) (hk _ _ o1) (hk _ _ o2) i1 i2 (l1.trans l2.symm) ?_
    rw [List.getD_eq_getElem?_getD, List.getD_eq_getElem?_getD, e1, e2] at hq
    exact hq
  · obtain ⟨t, e1, l1, hv, _⟩ := hitem _ u hP
    obtain ⟨t', e2, e3⟩ := best_min (m := m) (ms := ms) ms.length (Nat.le_refl _)
    rw [List.size_toArray, hlen, Nat.add_sub_cancel, e2] at e1
    obtain rfl := Option.some.inj e1
    rw [List.take_length] at e3
    rw [← e3] at hv
    exact k.ext (kp k0 (by rw [hsz] at hk; exact hk)) (VR.mono (List.prefix_refl _) (fun b o e _ => kp k0 (by rw [hsz] at hk; exact hk) b o e) hv) hl tk
end

/-! sorting by a tree of questions: what it gives for keys that differ -/
section sort
variable {n : Nat} {key : Nat → Int} {cmp : Nat → Nat → (Bool → Shared → Prop) → Shared → Prop} {s : Shared} {p : Array Nat}
structure Pm (n : Nat) (p : Array Nat) : Prop where
  size : p.size = n
  lt : ∀ k, k < n → p.getD k 0 < n
  inj : ∀ i j, i < n → j < n → p.getD i 0 = p.getD j 0 → i = j
  perm : p.toList.Perm (List.range n)
theorem pm_of (h : p.toList.Perm (List.range n)) : Pm n p := by
  have hs : p.size = n := by have := h.length_eq; simpa using this
  have hg : ∀ k, (hk : k < n) → p.toList[k]? = some (p.getD k 0) := fun k hk => by
    have : k < p.size := by (first | lia | omega)
    simp [Array.getD, this]
  refine ⟨hs, fun k hk => ?_, fun i j hi hj e => ?_, h⟩
  · exact List.mem_range.mp (h.mem_iff.mp (List.mem_of_getElem? (hg k hk)))
  · have nd : p.toList.Nodup := h.nodup_iff.mpr List.nodup_range
    exact nodup_inj nd (hg i hi) (by rw [hg j hj, e])
noncomputable def KP (key : Nat → Int) (p : Array Nat) (k : Nat) : Int := key (p.getD k 0)
noncomputable def Up (key : Nat → Int) (p : Array Nat) (m : Nat) : Prop := ∀ i j, i < j → j < m → KP key p i < KP key p j
noncomputable def Dn (key : Nat → Int) (p : Array Nat) (m : Nat) : Prop := ∀ i j, i < j → j < m → KP key p j < KP key p i
theorem kp_ne (hk : ∀ i j, i < n → j < n → key i = key j → i = j) (P : Pm n p) {i j : Nat} (hi : i < n) (hj : j < n) (h : i ≠ j) : KP key p i ≠ KP key p j := fun e => h (P.inj i j hi hj (hk _ _ (P.lt i hi) (P.lt j hj) e))
theorem kp_rev {i j : Nat} (hj : j ≤ p.size) (k : Nat) : KP key (kas_rev p i j) k = if i ≤ k ∧ k < j then KP key p (i + j - 1 - k) else KP key p k := by
  have e := getElem?_mirror_all (xs := p) (i := i) hj k
  unfold KP kas_rev
  rw [Array.getD_eq_getD_getElem?, e]
  by_cases h : i ≤ k ∧ k < j
  · rw [if_pos h, if_pos h, Array.getD_eq_getD_getElem?]
  · rw [if_neg h, if_neg h, Array.getD_eq_getD_getElem?]
theorem kp_bub {k d : Nat} (hs : k < p.size) (hd : d ≤ k) (x : Nat) : KP key (bubble p k d) x = if x = k - d then KP key p k else if k - d < x ∧ x ≤ k then KP key p (x - 1) else KP key p x := by
  have e := getElem?_bubble hs d hd x
  unfold KP
  rw [Array.getD_eq_getD_getElem?, e]
  by_cases h : x = k - d
  · rw [if_pos h, if_pos h, Array.getD_eq_getD_getElem?]
  · rw [if_neg h, if_neg h]
    by_cases h2 : k - d < x ∧ x ≤ k
    · rw [if_pos h2, if_pos h2, Array.getD_eq_getD_getElem?]
    · rw [if_neg h2, if_neg h2, Array.getD_eq_getD_getElem?]
theorem pm_rev (P : Pm n p) (i j : Nat) : Pm n (kas_rev p i j) := pm_of ((Array.perm_iff_toList_perm.mp (mirror_perm p i j _)).trans P.perm)
theorem pm_bub (P : Pm n p) (k d : Nat) : Pm n (bubble p k d) := pm_of ((Array.perm_iff_toList_perm.mp (bubble_perm p k d)).trans P.perm)

variable (hc : ∀ i j (C : Bool → Shared → Prop), i < n → j < n → C (decide (key i < key j)) s → cmp i j C s) (hk : ∀ i j, i < n → j < n → key i = key j → i = j)
include hc
theorem ask1 {α : Type} (P : Pm n p) {i j : Nat} (hi : i < n) (hj : j < n) {k : Bool → KasT α} {Q : α → Shared → Prop} (h : (k (decide (KP key p i < KP key p j))).kasWp cmp Q s) : (KasT.ask (p.getD i 0) (p.getD j 0) k).kasWp cmp Q s :=
  hc _ _ _ (P.lt i hi) (P.lt j hj) h
include hk
theorem asc_run {G : Nat → Shared → Prop} (P : Pm n p) : ∀ f a, 1 ≤ a → a + f ≤ n → Up key p a → (∀ m, a ≤ m → m ≤ a + f → Up key p m → (m = a + f ∨ KP key p m < KP key p (m - 1)) → G m s) → (kas_asc p f a).kasWp cmp G s
  | 0, a, h1, h2, hs, h => h a (Nat.le_refl _) (Nat.le_refl _) hs (Or.inl rfl)
  | f + 1, a, h1, h2, hs, h => by
    refine ask1 hc P (by (first | lia | omega)) (by (first | lia | omega)) ?_
    by_cases hlt : KP key p a < KP key p (a - 1)
    · rw [decide_eq_true hlt]
      exact h a (Nat.le_refl _) (by (first | lia | omega)) hs (Or.inr hlt)
    · rw [decide_eq_false hlt]
      refine asc_run P f (a + 1) (by (first | lia | omega)) (by (first | lia | omega)) (fun i j hij hj => ?_) fun m g1 g2 g3 g4 => h m (by (first | lia | omega)) (by (first | lia | omega)) g3 (g4.imp (fun e => by (first | lia | omega)) id)
      by_cases hja : j < a
      · exact hs i j hij hja
      · have : j = a := by (first | lia | omega)
        subst this
        have hne := kp_ne hk P (i := j) (j := j - 1) (by (first | lia | omega)) (by (first | lia | omega)) (by (first | lia | omega))
        by_cases hi' : i = j - 1
        · subst hi'; (first | lia | omega)
        · have := hs i (j - 1) (by (first | lia | omega)) (by (first | lia | omega)); (first | lia | omega)
theorem desc_run {G : Array Nat × Nat × Nat → Shared → Prop} (P : Pm n p) : ∀ f a, 1 ≤ a → a + f ≤ n → Dn key p a → (∀ m, a ≤ m → m ≤ a + f → Dn key p m → G (p, m, 0) s) → (kas_desc f p a 0).kasWp cmp G s
  | 0, a, h1, h2, hs, h => h a (Nat.le_refl _) (Nat.le_refl _) hs
  | f + 1, a, h1, h2, hs, h => by
    refine ask1 hc P (by (first | lia | omega)) (by (first | lia | omega)) ?_
    by_cases hlt : KP key p a < KP key p (a - 1)
    · rw [decide_eq_true hlt]
      refine desc_run P f (a + 1) (by (first | lia | omega)) (by (first | lia | omega)) (fun i j hij hj => ?_) fun m g1 g2 g3 => h m (by (first | lia | omega)) (by (first | lia | omega)) g3
      by_cases hja : j < a
      · exact hs i j hij hja
      · have : j = a := by (first | lia | omega)
        subst this
        by_cases hi' : i = j - 1
        · subst hi'; exact hlt
        · have := hs i (j - 1) (by (first | lia | omega)) (by (first | lia | omega)); (first | lia | omega)
    · rw [decide_eq_false hlt]
      refine ask1 hc P (by (first | lia | omega)) (by (first | lia | omega)) ?_
      have hne := kp_ne hk P (i := a) (j := a - 1) (by (first | lia | omega)) (by (first | lia | omega)) (by (first | lia | omega))
      rw [decide_eq_true (show KP key p (a - 1) < KP key p a by (first | lia | omega))]
      exact h a (Nat.le_refl _) (by (first | lia | omega)) hs
theorem tail_run {G : Nat × Array Nat → Shared → Prop} (P : Pm n p) {m : Nat} (h1 : 1 ≤ m) (h2 : m ≤ n) (hd : Dn key p m) (h : ∀ m' p', 1 ≤ m' → m' ≤ n → Pm n p' → Up key p' m' → G (m', p') s) : (kas_tail3 m n p).kasWp cmp G s := by
  unfold kas_tail3
  rw [KasT.kasWp_bind]
  have P' := pm_rev P 0 m
  refine asc_run hc hk P' (n - m) m h1 (by (first | lia | omega)) (fun i j hij hj => ?_) fun m' g1 g2 g3 _ => h m' _ (by (first | lia | omega)) (by (first | lia | omega)) P' g3
  rw [kp_rev (by rw [P.size]; (first | lia | omega)), kp_rev (by rw [P.size]; (first | lia | omega)), if_pos (by (first | lia | omega)), if_pos (by (first | lia | omega))]
  exact hd _ _ (by (first | lia | omega)) (by (first | lia | omega))
theorem count_run {G : Nat × Array Nat → Shared → Prop} (P : Pm n p) (hn : 1 ≤ n) (h : ∀ m' p', 1 ≤ m' → m' ≤ n → Pm n p' → Up key p' m' → G (m', p') s) : (kas_count n p).kasWp cmp G s := by
  unfold kas_count
  rw [KasT.kasWp_bind]
  refine asc_run hc hk P (n - 1) 1 (Nat.le_refl _) (by (first | lia | omega)) (fun i j hij hj => by (first | lia | omega)) fun m g1 g2 g3 g4 => ?_
  by_cases e : m = n
  · subst e
    rw [if_pos (beq_self_eq_true m)]
    exact h m p g1 (Nat.le_refl _) P g3
  · rw [if_neg (by simpa using e)]
    have g5 := g4.resolve_left (by (first | lia | omega))
    by_cases e1 : m > 1
    · rw [if_pos e1]
      refine ask1 hc P (by (first | lia | omega)) (by (first | lia | omega)) ?_
      rw [decide_eq_true (g3 0 (m - 1) (by (first | lia | omega)) (by (first | lia | omega)))]
      exact h m p g1 (by (first | lia | omega)) P g3
    · rw [if_neg e1]
      have : m = 1 := by (first | lia | omega)
      subst this
      unfold kas_descPart
      rw [KasT.kasWp_bind]
      refine desc_run hc hk P (n - (1 + 1)) (1 + 1) (by (first | lia | omega)) (by (first | lia | omega)) (fun i j hij hj => ?_) fun m' q1 q2 q3 => ?_
      · have e1 : i = 0 := by (first | lia | omega)
        have e2 : j = 1 := by (first | lia | omega)
        subst e1; subst e2; exact g5
      · show KasT.kasWp cmp (if (0 : Nat) > 0 then _ else kas_tail3 m' n p) G s
        rw [if_neg (by (first | lia | omega))]
        exact tail_run hc hk P (by (first | lia | omega)) (by (first | lia | omega)) q3 h
omit hk in
theorem place_run {G : Nat → Shared → Prop} (P : Pm n p) {k : Nat} (hkn : k < n) (hkey : ∀ i, i < k → KP key p i ≠ KP key p k) (hup : Up key p k) : ∀ f l r, l ≤ r → r ≤ k → r ≤ l + f → (∀ i, i < l → KP key p i < KP key p k) → (∀ i, r ≤ i → i < k → KP key p k < KP key p i) →
    (∀ l', l' ≤ k → (∀ i, i < l' → KP key p i < KP key p k) → (∀ i, l' ≤ i → i < k → KP key p k < KP key p i) → G l' s) → (kas_place p k f l r).kasWp cmp G s
  | 0, l, r, h1, h2, h3, h4, h5, h => h l (by (first | lia | omega)) h4 fun i g1 g2 => h5 i (by (first | lia | omega)) g2
  | f + 1, l, r, h1, h2, h3, h4, h5, h => by
    unfold kas_place
    by_cases e : l ≥ r
    · rw [if_pos e]
      exact h l (by (first | lia | omega)) h4 fun i g1 g2 => h5 i (by (first | lia | omega)) g2
    · rw [if_neg e]
      refine ask1 hc P hkn (by (first | lia | omega)) ?_
      have hm : (l + r) / 2 < k := by (first | lia | omega)
      by_cases hlt : KP key p k < KP key p ((l + r) / 2)
      · rw [decide_eq_true hlt]
        refine place_run P hkn hkey hup f l ((l + r) / 2) (by (first | lia | omega)) (by (first | lia | omega)) (by (first | lia | omega)) h4 (fun i g1 g2 => ?_) h
        by_cases e : i = (l + r) / 2
        · subst e; exact hlt
        · have := hup ((l + r) / 2) i (by (first | lia | omega)) g2; (first | lia | omega)
      · rw [decide_eq_false hlt]
        have hne := hkey _ hm
        refine place_run P hkn hkey hup f ((l + r) / 2 + 1) r (by (first | lia | omega)) (by (first | lia | omega)) (by (first | lia | omega)) (fun i g1 => ?_) h5 h
        by_cases e : i = (l + r) / 2
        · subst e; (first | lia | omega)
        · have := hup i ((l + r) / 2) (by (first | lia | omega)) hm; (first | lia | omega)
theorem bin_run {G : Array Nat → Shared → Prop} : ∀ f (p : Array Nat) k, Pm n p → Up key p k → k + f = n → (∀ p', Pm n p' → Up key p' n → G p' s) → (kas_bin f p k).kasWp cmp G s
  | 0, p, k, P, hs, e, h => h p P (by rw [← e]; exact hs)
  | f + 1, p, k, P, hs, e, h => by
    unfold kas_bin
    rw [KasT.kasWp_bind]
    have hsz := P.size
    refine place_run hc P (by (first | lia | omega)) (fun i hi => kp_ne hk P (by (first | lia | omega)) (by (first | lia | omega)) (by (first | lia | omega))) hs k 0 k (by (first | lia | omega)) (by (first | lia | omega)) (by (first | lia | omega)) (fun i hi => by (first | lia | omega)) (fun i h1 h2 => by (first | lia | omega)) fun l g1 g2 g3 => ?_
    refine bin_run f _ (k + 1) (pm_bub P _ _) (fun i j hij hj => ?_) (by (first | lia | omega)) h
    rw [kp_bub (by (first | lia | omega)) (by (first | lia | omega)), kp_bub (by (first | lia | omega)) (by (first | lia | omega))]
    have e1 : k - (k - l) = l := by (first | lia | omega)
    rw [e1]
    by_cases i1 : i = l
    · rw [if_pos i1, if_neg (by (first | lia | omega)), if_pos (by (first | lia | omega))]
      exact g3 _ (by (first | lia | omega)) (by (first | lia | omega))
    · rw [if_neg i1]
      by_cases j1 : j = l
      · rw [if_pos j1, if_neg (by (first | lia | omega))]
        exact g2 i (by (first | lia | omega))
      · rw [if_neg j1]
        by_cases i2 : l < i ∧ i ≤ k
        · rw [if_pos i2, if_pos (by (first | lia | omega))]
          exact hs _ _ (by (first | lia | omega)) (by (first | lia | omega))
        · rw [if_neg i2]
          by_cases j2 : l < j ∧ j ≤ k
          · rw [if_pos j2]
            exact hs _ _ (by (first | lia | omega)) (by (first | lia | omega))
          · rw [if_neg j2]
            exact hs _ _ hij (by (first | lia | omega))
theorem sort_run {G : Array Nat → Shared → Prop} (hn : 1 ≤ n) (h : ∀ p', Pm n p' → Up key p' n → G p' s) : (kas_sort n).kasWp cmp G s := by
  unfold kas_sort
  rw [KasT.kasWp_bind]
  refine count_run hc hk (pm_of (by simp)) hn fun m p' g1 g2 P hu => ?_
  show KasT.kasWp cmp (if m < n then kas_bin (n - max m 1) p' (max m 1) else KasT.ret p') G s
  have e : max m 1 = m := by (first | lia | omega)
  by_cases hm : m < n
  · rw [if_pos hm, e]
    exact bin_run hc hk (n - m) p' m P hu (by (first | lia | omega)) h
  · rw [if_neg hm]
    have : m = n := by (first | lia | omega)
    subst this
    exact h p' P hu
end sort

theorem pair_inv : ∀ {t : List Int}, pairOk t = true → ∃ a b, t = [a, b] ∧ 0 ≤ a ∧ a < 1000 ∧ 0 ≤ b ∧ b < 1000
  | [a, b], h => by
    unfold pairOk at h
    rw [Bool.and_eq_true, Bool.and_eq_true, Bool.and_eq_true] at h
    exact ⟨a, b, rfl, of_decide_eq_true h.1.1.1, of_decide_eq_true h.1.1.2, of_decide_eq_true h.1.2, of_decide_eq_true h.2⟩
  | [], h => nomatch h
  | [_], h => nomatch h
  | _ :: _ :: _ :: _, h => nomatch h
theorem lex_enc {t u : List Int} (ht : pairOk t = true) (hu : pairOk u = true) : lexLt t u = decide (enc t < enc u) := by
  obtain ⟨a, b, rfl, a1, a2, b1, b2⟩ := pair_inv ht
  obtain ⟨c, d, rfl, c1, c2, d1, d2⟩ := pair_inv hu
  show (if a = c then (if b = d then false else decide (b < d)) else decide (a < c)) = decide (a * 1000 + b < c * 1000 + d)
  by_cases e1 : a = c
  · rw [if_pos e1]
    by_cases e2 : b = d
    · rw [if_pos e2, decide_eq_false (by (first | lia | omega))]
    · rw [if_neg e2]
      exact decide_eq_decide.mpr (by (first | lia | omega))
  · rw [if_neg e1]
    exact decide_eq_decide.mpr (by (first | lia | omega))
theorem insL_perm (x : List Int) : ∀ (ys : List (List Int)), (insL x ys).Perm (x :: ys)
  | [] => .refl _
  | y :: ys => by
    unfold insL
    cases lexLt x y with
    | true => exact .refl _
    | false => exact ((insL_perm x ys).cons y).trans (.swap x y ys)
theorem sortL_perm : ∀ (ts : List (List Int)), (sortL ts).Perm ts
  | [] => .refl _
  | x :: xs => (insL_perm x _).trans ((sortL_perm xs).cons x)
noncomputable abbrev EncLt (l : List (List Int)) : Prop := l.Pairwise fun t u => enc t < enc u
theorem insL_srt {x : List Int} (hx : pairOk x = true) : ∀ {ys : List (List Int)}, (∀ y ∈ ys, pairOk y = true ∧ enc y ≠ enc x) → EncLt ys → EncLt (insL x ys)
  | [], _, _ => List.pairwise_singleton ..
  | y :: ys, hy, hs => by
    have h1 := List.pairwise_cons.mp hs
    have h2 := hy y (List.mem_cons_self ..)
    unfold insL
    rw [lex_enc hx h2.1]
    by_cases e : enc x < enc y
    · rw [decide_eq_true e]
      refine List.pairwise_cons.mpr ⟨fun z hz => ?_, hs⟩
      rcases List.mem_cons.mp hz with rfl | hz
      · exact e
      · exact Int.lt_trans e (h1.1 z hz)
    · rw [decide_eq_false e]
      refine List.pairwise_cons.mpr ⟨fun z hz => ?_, insL_srt hx (fun y hy' => hy y (List.mem_cons_of_mem _ hy')) h1.2⟩
      rcases List.mem_cons.mp ((insL_perm x ys).mem_iff.mp hz) with rfl | hz
      · have := h2.2; (first | lia | omega)
      · exact h1.1 z hz
theorem sortL_srt : ∀ {ts : List (List Int)}, (∀ t ∈ ts, pairOk t = true) → (ts.map enc).Nodup → EncLt (sortL ts)
  | [], _, _ => .nil
  | x :: xs, h, hn => by
    rw [List.map_cons, List.nodup_cons] at hn
    refine insL_srt (h x (List.mem_cons_self ..)) (fun y hy => ?_) (sortL_srt (fun t ht => h t (List.mem_cons_of_mem _ ht)) hn.2)
    have hy' := (sortL_perm xs).mem_iff.mp hy
    exact ⟨h y (List.mem_cons_of_mem _ hy'), fun e => hn.1 (List.mem_map.mpr ⟨y, hy', e⟩)⟩
theorem enc_uniq : ∀ {l m : List (List Int)}, l.Perm m → EncLt l → EncLt m → l = m
  | [], m, h, _, _ => (List.Perm.nil_eq h)
  | x :: l, [], h, _, _ => nomatch h.length_eq
  | x :: l, y :: m, h, h1, h2 => by
    have a1 := List.pairwise_cons.mp h1
    have a2 := List.pairwise_cons.mp h2
    have e : x = y := by
      rcases List.mem_cons.mp (h.mem_iff.mp (List.mem_cons_self ..)) with e | hx
      · exact e
      · rcases List.mem_cons.mp (h.mem_iff.mpr (List.mem_cons_self ..)) with e | hy
        · exact e.symm
        · have := a1.1 y hy
          have := a2.1 x hx
          (first | lia | omega)
    subst e
    rw [enc_uniq (List.Perm.cons_inv h) a1.2 a2.2]

section
variable {prog : Program} {w : World} {A : Around} {E : Value → Shared → Prop} {s : Shared} {fa : Nat → Option Addr} {μ : List Addr} {H H' : HP} {Q : Value → Shared → Prop}
theorem ints_two {vs : List Value} {x y : Int} (h : IntsAre vs [x, y]) : ∃ t u, vs = [.int x t, .int y u] := by
  cases h with
  | cons _ t h =>
    cases h with
    | cons _ u h => cases h; exact ⟨_, _, rfl⟩
theorem tup_klt {a b : Addr} {vs ws : List Value} {n k : Nat} {x y : List Int} {C : Bool → Shared → Prop} (hx : pairOk x = true) (hy : pairOk y = true) (ha : s.heap.get? a = some (Tobj vs n)) (hb : s.heap.get? b = some (Tobj ws k)) (ix : IntsAre vs x) (iy : IntsAre ws y)
    (h : C (decide (enc x < enc y)) s) : wpAny (model prog w) A (keyLt' (tuples' true) (.ref a) (.ref b)) C E s := by
  rw [← lex_enc hx hy] at h
  obtain ⟨x1, x2, rfl, _⟩ := pair_inv hx
  obtain ⟨y1, y2, rfl, _⟩ := pair_inv hy
  obtain ⟨t1, t2, rfl⟩ := ints_two ix
  obtain ⟨u1, u2, rfl⟩ := ints_two iy
  refine kat_lt ha rfl hb rfl ?_
  refine kat_cons (wpAny_eqBool_int ?_)
  by_cases e1 : x1 = y1
  · rw [beq_iff_eq.mpr e1]
    refine kat_yes (kat_cons (wpAny_eqBool_int ?_))
    by_cases e2 : x2 = y2
    · rw [beq_iff_eq.mpr e2]
      refine kat_yes (kat_nil ?_)
      have : lexLt [x1, x2] [y1, y2] = false := by simp [lexLt, e1, e2]
      rw [this] at h
      exact h
    · rw [beq_eq_false_iff_ne.mpr e2]
      refine kat_no (kat_one _ _ (compareOp_gives (op := .Lt) (typeIs_int s _ t2) (typeIs_int s _ u2) F.slot_int_lt F.entry_int_lt (F.args_int_lt_2 _ _) (gives_int_lt _ _ t2 u2) (fun x => nomatch x) ?_))
      have : lexLt [x1, x2] [y1, y2] = decide (x2 < y2) := by simp [lexLt, e1, e2]
      rw [this] at h
      exact h
  · rw [beq_eq_false_iff_ne.mpr e1]
    refine kat_no (oneLt_int ?_)
    have : lexLt [x1, x2] [y1, y2] = decide (x1 < y1) := by simp [lexLt, e1]
    rw [this] at h
    exact h

theorem vrs_pick {h : Heap} {vs : List Value} {ts : List (List Int)} (hv : ∀ (i : Nat) (v : Value), vs[i]? = some v → ∃ t, ts[i]? = some t ∧ VR fa μ h v (ofInts t)) : ∀ (l : List Nat), (∀ i ∈ l, i < vs.length) → VRs fa μ h (l.map fun i => vs.getD i Value.none) ((l.map fun i => ts.getD i []).map ofInts)
  | [], _ => .nil
  | i :: l, hl => by
    have hi := hl i (List.mem_cons_self ..)
    obtain ⟨t, h1, h2⟩ := hv i vs[i] (List.getElem?_eq_getElem hi)
    refine .cons ?_ (vrs_pick hv l fun j hj => hl j (List.mem_cons_of_mem _ hj))
    show VR fa μ h (vs.getD i Value.none) (ofInts (ts.getD i []))
    rw [List.getD_eq_getElem?_getD, List.getElem?_eq_getElem hi, List.getD_eq_getElem?_getD, h1]
    exact h2
theorem kat_heads {h : Heap} : ∀ {vs : List Value} {ts : List (List Int)}, vs.length = ts.length → (∀ t ∈ ts, pairOk t = true) → (∀ (i : Nat) (v : Value), vs[i]? = some v → ∃ t, ts[i]? = some t ∧ ∃ a ws n, v = .ref a ∧ h.get? a = some (Tobj ws n) ∧ IntsAre ws t) →
    ∃ fs, KatTups h vs fs ∧ fs.length = vs.length ∧ ∀ v ∈ fs, ∃ i t, v = Value.int i t
  | [], [], _, _, _ => ⟨[], .nil, rfl, fun _ h => nomatch h⟩
  | v :: vs, t :: ts, hl, hp, hv => by
    obtain ⟨fs, h1, h2, h3⟩ := kat_heads (Nat.succ.inj hl) (fun t ht => hp t (List.mem_cons_of_mem _ ht)) fun i u hu => hv (i + 1) u hu
    obtain ⟨t', e1, a, ws, n, rfl, h4, h5⟩ := hv 0 v rfl
    obtain rfl : t = t' := Option.some.inj e1
    obtain ⟨x, y, rfl, _⟩ := pair_inv (hp t (List.mem_cons_self ..))
    obtain ⟨t1, t2, rfl⟩ := ints_two h5
    refine ⟨.int x t1 :: fs, .cons h4 rfl rfl rfl h1, congrArg (· + 1) h2, fun u hu => ?_⟩
    rcases List.mem_cons.mp hu with rfl | hu
    · exact ⟨_, _, rfl⟩
    · exact h3 u hu
  | [], _ :: _, hl, _, _ => nomatch hl
  | _ :: _, [], hl, _, _ => nomatch hl

theorem sort_body {a : Addr} {vs : List Value} {ts : List (List Int)} {n : Nat} {P : Fin → Shared → Prop} (ho : s.heap.get? a = some (seqObj "list" vs.toArray n)) (h2 : 2 ≤ vs.length) (h64 : vs.length < 64) (hl : vs.length = ts.length) (hp : ∀ t ∈ ts, pairOk t = true) (hn : (ts.map enc).Nodup)
    (hv : ∀ (i : Nat) (v : Value), vs[i]? = some v → ∃ t, ts[i]? = some t ∧ ∃ b ws n, v = .ref b ∧ b ≠ a ∧ s.heap.get? b = some (Tobj ws n) ∧ IntsAre ws t)
    (h : ∀ l : List Nat, l.Perm (List.range vs.length) → (l.map fun i => ts.getD i []) = sortL ts → P (.done (.ret .none)) { s with heap := sortedHeap s.heap a vs (List.toArray (l.map fun i => vs.getD i Value.none)) }) :
    wpAny (model prog w) A (Builtin.«list.sort» ⟨[.ref a], []⟩) P E s := by
  rw [list_sort_plain]
  have ha : a < s.heap.objs.size := Heap.lt_size ho
  refine wpAny_bind (listItems_at ho rfl ?_)
  refine wpAny_bind (listUpdate_at ho rfl ?_ (by rw [List.size_toArray, sizeLine_eq]; (first | lia | omega)) (Nat.zero_le _))
  obtain ⟨e1, ho1⟩ : ∃ e1, (s.heap.update a (Obj.mapSeq fun _ => #[])).get? a = some (seqObj "list" #[] e1) := ⟨_, get?_update_seq ho (fun _ => #[])⟩
  refine wpAny_bind (seqEpoch_at ho1 rfl ?_)
  refine wpAny_bind (wpAny_newTuple ?_ (by show vs.length ≤ _; rw [sizeLine_eq]; (first | lia | omega)))
  refine wpAny_bind (wpAny_newList ?_ (Nat.zero_le _))
  refine wpAny_holding ?_
  have keep : ∀ b o, b ≠ a → s.heap.get? b = some o → (((s.heap.update a (Obj.mapSeq fun _ => #[])).push (seqObj "tuple" vs.toArray 0)).push (seqObj "list" #[] 0)).get? b = some o := fun b o hb e =>
    Heap.get?_push_of_some _ (Heap.get?_push_of_some _ ((Heap.get?_update_ne _ _ _ _ hb).trans e))
  have ho6 : (((s.heap.update a (Obj.mapSeq fun _ => #[])).push (seqObj "tuple" vs.toArray 0)).push (seqObj "list" #[] 0)).get? a = some (seqObj "list" #[] e1) :=
    Heap.get?_push_of_some _ (Heap.get?_push_of_some _ ho1)
  show wpAny (model prog w) A _ P E { s with heap := ((s.heap.update a (Obj.mapSeq fun _ => #[])).push (seqObj "tuple" vs.toArray 0)).push (seqObj "list" #[] 0) }
  dsimp only
  have hn2 : ¬ vs.toArray.size < 2 := by rw [List.size_toArray]; (first | lia | omega)
  rw [if_neg hn2, if_neg hn2]
  have hv' : ∀ (i : Nat) (v : Value), vs[i]? = some v → ∃ t, ts[i]? = some t ∧ ∃ b ws n, v = .ref b ∧ (((s.heap.update a (Obj.mapSeq fun _ => #[])).push (seqObj "tuple" vs.toArray 0)).push (seqObj "list" #[] 0)).get? b = some (Tobj ws n) ∧ IntsAre ws t := fun i v hiv => by
    obtain ⟨t, g1, b, ws, n, g2, g3, g4, g5⟩ := hv i v hiv
    exact ⟨t, g1, b, ws, n, g2, keep b _ g3 g4, g5⟩
  obtain ⟨fs, f1, f2, f3⟩ := kat_heads hl hp hv'
  refine wpAny_bind (kat_kind (T := .type "int") f1 (by (first | lia | omega)) (fun v hvf => by
    obtain ⟨i, t, rfl⟩ := f3 v hvf
    exact Looks.of_pure rfl) rfl ?_)
  refine wpAny_bind (wpAny_mono (kat_run (ks := vs) (vs := vs) (κ := tuples' true) (Q := fun st' s' => s' = { s with heap := ((s.heap.update a (Obj.mapSeq fun _ => #[])).push (seqObj "tuple" vs.toArray 0)).push (seqObj "list" #[] 0) } ∧ failedOf st' = none ∧ ∃ p : Array Nat, Pm vs.length p ∧ (p.toList.map fun i => ts.getD i []) = sortL ts ∧ arrOf st' = p.map (kas_item (vs.toArray.zip vs.toArray)))
    (G := fun p s' => s' = { s with heap := ((s.heap.update a (Obj.mapSeq fun _ => #[])).push (seqObj "tuple" vs.toArray 0)).push (seqObj "list" #[] 0) } ∧ Pm vs.length p ∧ (p.toList.map fun i => ts.getD i []) = sortL ts)
    rfl h2 h64 (fun p st' s' a1 a2 a3 a4 => ⟨a4.1, a3, p, a4.2.1, a4.2.2, a2⟩) ?_) ?_ fun _ _ e => e)
  · refine sort_run (key := fun i => enc (ts.getD i [])) (fun i j C hi hj hC => ?_) (fun i j hi hj e => ?_) (by (first | lia | omega)) fun p P hu => ⟨rfl, P, ?_⟩
    · obtain ⟨t, g1, b, ws, n, g2, g3, g4⟩ := hv' i vs[i] (List.getElem?_eq_getElem hi)
      obtain ⟨u, k1, c, xs, m, k2, k3, k4⟩ := hv' j vs[j] (List.getElem?_eq_getElem hj)
      show wpAny _ _ (keyLt' _ (vs.getD i Value.none) (vs.getD j Value.none)) C _ _
      rw [List.getD_eq_getElem?_getD, List.getD_eq_getElem?_getD, List.getElem?_eq_getElem hi, List.getElem?_eq_getElem hj, Option.getD_some, Option.getD_some, g2, k2]
      refine tup_klt (hp t (List.mem_of_getElem? g1)) (hp u (List.mem_of_getElem? k1)) g3 k3 g4 k4 ?_
      simp only [List.getD_eq_getElem?_getD, g1, k1, Option.getD_some] at hC
      exact hC
    · have g : ∀ k, k < vs.length → (ts.map enc)[k]? = some (enc (ts.getD k [])) := fun k hk => by
        have : k < ts.length := by (first | lia | omega)
        rw [List.getElem?_map, List.getD_eq_getElem?_getD, List.getElem?_eq_getElem this]; rfl
      exact nodup_inj hn (g i hi) (by rw [g j hj]; exact congrArg some e.symm)
    · refine enc_uniq (List.Perm.trans ?_ (sortL_perm ts).symm) ?_ (sortL_srt hp hn)
      · have e1 := P.perm.map fun i => ts.getD i []
        have e2 : (List.range vs.length).map (fun i => ts.getD i []) = ts := by
          rw [hl]
          refine List.ext_getElem (by simp) fun i g1 g2 => ?_
          simp [g2]
        rw [e2] at e1
        exact e1
      · refine List.pairwise_iff_getElem.mpr fun i j hi hj hij => ?_
        have hj' : j < vs.length := by have := P.size; simp at hj; (first | lia | omega)
        have := hu i j hij hj'
        have hpi : i < p.size := by have := P.size; (first | lia | omega)
        have hpj : j < p.size := by have := P.size; (first | lia | omega)
        simp only [KP, Array.getD, hpi, hpj, dif_pos] at this
        simpa using this
  · rintro ⟨⟨⟩, st'⟩ s' ⟨rfl, hf, p, P, hsrt, har⟩
    dsimp only
    rw [kat_snds rfl har]
    refine wpAny_bind (seqEpoch_at ho6 rfl ?_)
    refine wpAny_bind (listUpdate_at ho6 rfl ?_ (Nat.zero_le _) (by rw [List.size_toArray, List.length_map, Array.length_toList, P.size, sizeLine_eq]; (first | lia | omega)))
    rw [hf]
    simp only [bne_self_eq_false, Bool.false_eq_true, if_false]
    exact wpAny_pure (h p.toList P.perm hsrt)

theorem sorted_ok {i : Nat} {ts : List (List Int)} {xs : List V} {v : Value} (hx : H[i]? = some xs) (ht : tupsOf xs = some ts) (h2 : 2 ≤ xs.length) (hn : xs.length ≤ 60) (hp : ∀ t ∈ ts, pairOk t = true) (hd : (ts.map enc).Nodup) (r : VR fa μ s.heap v (.list i)) (hl : LH fa μ H s.heap)
    (k : Ok fa μ s (.list H.length) (H ++ [(sortL ts).map ofInts]) Q) : wpAny (model prog w) A (call (.builtin "sorted") [v]) Q E s := by
  refine hl.getK r hx fun a vs n _ ha hvs => ?_
  obtain ⟨hlen, hat⟩ := tups_at hvs ht
  have hxl := hvs.length
  have hisl : s.heap.IsList a vs.toArray := isList_of ha
  refine Calls.call_function_entry kind_sorted plain_sorted entry_sorted (args_sorted1 _) ?_
  unfold Builtin.«sorted»
  refine wpAny_bind (m := checkCount "sorted" 1 1 _) (wpAny_pure ?_)
  refine wpAny_bind (collect_list hisl ?_ (by rw [sizeLine_eq]; (first | lia | omega)))
  refine wpAny_bind (wpAny_newList ?_ (by rw [sizeLine_eq]; (first | lia | omega)))
  have hsz : ((s.heap.push (seqObj "list" #[] 0)).update s.heap.objs.size (Obj.mapSeq (· ++ vs.toArray))).objs.size = s.heap.objs.size + 1 := by
    rw [Heap.size_update, size_push']
  have hoL : (((s.heap.push (seqObj "list" #[] 0)).update s.heap.objs.size (Obj.mapSeq (· ++ vs.toArray))).push (seqObj "list" vs.toArray 0)).get? (s.heap.objs.size + 1) = some (seqObj "list" vs.toArray 0) := by
    rw [← hsz]; exact Heap.get?_push_size _ rfl
  have keep : ∀ b o, s.heap.get? b = some o → (((s.heap.push (seqObj "list" #[] 0)).update s.heap.objs.size (Obj.mapSeq (· ++ vs.toArray))).push (seqObj "list" vs.toArray 0)).get? b = some o := fun b o q =>
    Heap.get?_push_of_some _ ((Heap.get?_update_ne _ _ _ _ (Nat.ne_of_lt (Heap.lt_size q))).trans (Heap.get?_push_of_some _ q))
  show wpAny _ _ _ _ _ { s with heap := ((s.heap.push (seqObj "list" #[] 0)).update s.heap.objs.size (Obj.mapSeq (· ++ vs.toArray))).push (seqObj "list" vs.toArray 0) }
  rw [hsz]
  refine wpAny_bind (wpAny_holding (wpAny_call_entry slot_list_sort ⟨_, hoL, rfl⟩ entry_list_sort
    (sort_body (s := { s with heap := ((s.heap.push (seqObj "list" #[] 0)).update s.heap.objs.size (Obj.mapSeq (· ++ vs.toArray))).push (seqObj "list" vs.toArray 0) }) hoL (by (first | lia | omega)) (by (first | lia | omega)) hlen hp hd (fun j u hu => ?_) fun l hl1 hl2 => ⟨_, rfl, wpAny_pure ⟨_, rfl, ?_⟩⟩) (args_list_sort _)))
  · obtain ⟨t, g1, _, b, ws, m, g2, g3, g4⟩ := hat j u hu
    exact ⟨t, g1, b, ws, m, g2, Nat.ne_of_lt (Nat.lt_succ_of_lt (Heap.lt_size g3)), keep b _ g3, g4⟩
  · obtain ⟨e, he⟩ := sortedAll_at s.heap vs (List.toArray (l.map fun i => vs.getD i Value.none))
    have hv := vrs_pick (fa := fa) (μ := μ) (h := s.heap) (vs := vs) (ts := ts) (fun i v hv => by
      obtain ⟨t, g1, g2, _⟩ := hat i v hv
      exact ⟨t, g1, g2⟩) l fun i hi => List.mem_range.mp (hl1.mem_iff.mp hi)
    rw [hl2] at hv
    exact k.new (a := s.heap.objs.size + 1) (n := e) hl (fun b o q => sortedAll_old q) (Heap.get?_none_of_le (Nat.le_succ _)) he hv s.toks
end


section
variable {prog : Program} {w : World} {A : Around} {E : Value → Shared → Prop} {s : Shared} {fa : Nat → Option Addr} {μ : List Addr} {H H' : HP} {Q : Value → Shared → Prop}

theorem bytesOf_in : ∀ (is : List Int) {bs : List UInt8}, bytesOf is = some bs → (∀ n ∈ is, 0 ≤ n ∧ n < 256) ∧ byteArr is = bs.toArray := by
  intro is
  induction is with
  | nil => intro bs e; rw [← Option.some.inj e]; exact ⟨fun _ h => (List.not_mem_nil h).elim, rfl⟩
  | cons x xs ih =>
    intro bs e
    refine obK e fun c h1 e => omK e fun cs h2 e => oiK h1 fun hc h1 => ?_
    obtain ⟨g1, g2⟩ := ih h2
    refine ⟨fun n hn => (List.mem_cons.mp hn).elim (fun h => h ▸ hc) (g1 n), ?_⟩
    have g3 := congrArg Array.toList g2
    apply Array.toList_inj.mp
    rw [← e, ← Option.some.inj h1]
    simp only [byteArr] at g3 ⊢
    simp at g3 ⊢
    rw [← g3]

theorem small_range {a b c : Int} (ha : okR a = true) (hb : okR b = true) (hc : okR c = true) : Builtin.Range.small a b c = true := by
  simp only [okR, Bool.and_eq_true, decide_eq_true_eq] at ha hb hc
  have e := rangeSize_toNat a b c
  have l := rangeSize_toNat_le a b c
  unfold Builtin.Range.small
  simp only [Builtin.Range.rangeFitsLong, Bool.and_eq_true, Bool.or_eq_true, decide_eq_true_eq, beq_iff_eq]
  refine ⟨⟨⟨⟨⟨by (first | lia | omega), by (first | lia | omega)⟩, ⟨by (first | lia | omega), by (first | lia | omega)⟩⟩, ⟨by (first | lia | omega), by (first | lia | omega)⟩⟩, ⟨by (first | lia | omega), by (first | lia | omega)⟩⟩, Or.inr ?_⟩
  split <;> simp only [Bool.and_eq_true, decide_eq_true_eq] <;> (first | lia | omega)

theorem range_vrs {vs : List Value} : ∀ (is : List Int), vs.length = is.length → (∀ (i : Nat) (v : Value), vs[i]? = some v → ∃ t n, is[i]? = some n ∧ v = Value.int n t) → VRs fa μ s.heap vs (is.map V.int) := by
  induction vs with
  | nil => intro is hl h; rw [List.eq_nil_of_length_eq_zero hl.symm]; exact .nil
  | cons v vs ih =>
    intro is hl h
    obtain ⟨t, n, h1, h2⟩ := h 0 v rfl
    cases is with
    | nil => exact no h1
    | cons m is =>
      rw [h2, ← Option.some.inj h1]
      exact .cons (.int _ _) (ih is (Nat.succ.inj hl) fun i u hu => h (i + 1) u hu)

theorem bi_len_ok {args : List V} {r : V} {vs : List Value} (hA : A.handled = none) (hu : A.units + 10 < cLine) (e : biLen args H = some (r, H')) (rs : VRs fa μ s.heap vs args) (hl : LH fa μ H s.heap) (k : Ok fa μ s r H' Q) :
    wpAny (model prog w) A (call Bi.len.val vs) Q E s := by
  refine obK e fun x h1 e => obK e fun n h2 e => oiK e fun hc e => (one_inv h1 ▸ rs).oneK fun v r₁ => ?_
  have hc := lenOk_le hc
  refine oeK h2 (fun _ e1 => obK e1 fun i h3 e1 => omK e1 fun xs hx e1 => ?_) fun b h3 e1 => ?_
  · refine hl.getK (vr_list h3 r₁) hx fun a ws _ _ ha hws => PySem.Calls.call_len_list (isList_of ha) (by rw [List.size_toArray, hws.length, e1]; (first | lia | omega)) ?_
    rw [List.size_toArray, hws.length, e1]
    exact (k.of e).pure (.int _ _) hl _
  · refine (vr_bytes h3 r₁).bytesK fun t => PySem.W.len_bytes (by rw [List.size_toArray, Option.some.inj e1]; (first | lia | omega)) ?_
    rw [List.size_toArray, Option.some.inj e1]
    exact (k.of e).pure (.int _ _) hl _
theorem pylong_ok {a b : Int} (h : okR b = true) : Builtin.divisionGoesByPylong a b = false := by
  refine PyProof.noPylong_of_log2 (log_mid ?_)
  simp only [okR, Bool.and_eq_true, decide_eq_true_eq] at h
  (first | lia | omega)
theorem bi_range_ok {args : List V} {r : V} {vs : List Value} (hA : A.handled = none) (hu : A.units + 10 < cLine) (e : biRange args H = some (r, H')) (rs : VRs fa μ s.heap vs args) (hl : LH fa μ H s.heap) (k : Ok fa μ s r H' Q) :
    wpAny (model prog w) A (call Bi.range.val vs) Q E s := by
  refine obK e fun l h1 e => ?_
  have hI := intsAre_of args rs h1
  have fin : ∀ {a b c : Int} {t u t' : Tok} {tk : Tok}, rng a b c H = some (r, H') → Q (.ref s.heap.objs.size) { s with heap := s.heap.push { cls := .type "range", data := .fields #[.int a t, .int b u, .int c t'] }, toks := tk } := fun e =>
    oiK e fun _ e => (k.of e).ext (push_keeps _ _) (.range (Heap.get?_push_size _ rfl)) hl _
  cases hI with
  | nil => exact no e
  | cons a t hI =>
    cases hI with
    | nil => exact call_range_1 (fin e)
    | cons b u hI =>
      cases hI with
      | nil => exact call_range_2 (fin e)
      | cons c t' hI =>
        refine oiK e fun hn e => ?_
        cases hI with
        | cons => exact nf hn
        | nil =>
          refine oiK (show (if (okR a && okR b && okR c && decide (c ≠ 0)) = true then some (V.range a b c, H) else none) = some (r, H') from e) fun hc _ => ?_
          have hc := bAnd hc
          exact call_range_3 (of_decide_eq_true hc.2) (fin e) (Or.inl (pylong_ok (bAnd hc.1).2))
theorem bi_int_ok {args : List V} {r : V} {vs : List Value} (hA : A.handled = none) (hu : A.units + 10 < cLine) (e : biInt args H = some (r, H')) (rs : VRs fa μ s.heap vs args) (hl : LH fa μ H s.heap) (k : Ok fa μ s r H' Q) :
    wpAny (model prog w) A (call Bi.int.val vs) Q E s :=
  obK e fun x h1 e => omK e fun a h2 e => (one_inv h1 ▸ rs).oneK fun v r₁ => (vr_int h2 r₁).intK fun t => call_int_int ((k.of' e).here (.int _ _) hl)
theorem bi_abs_ok {args : List V} {r : V} {vs : List Value} (hA : A.handled = none) (hu : A.units + 10 < cLine) (e : biAbs args H = some (r, H')) (rs : VRs fa μ s.heap vs args) (hl : LH fa μ H s.heap) (k : Ok fa μ s r H' Q) :
    wpAny (model prog w) A (call Bi.abs.val vs) Q E s :=
  obK e fun x h1 e => omK e fun a h2 e => (one_inv h1 ▸ rs).oneK fun v r₁ => (vr_int h2 r₁).intK fun t => by
    refine call_abs_int fun u tk => ?_
    have e1 : (if a < 0 then -a else a) = (a.natAbs : Int) := by split <;> (first | lia | omega)
    rw [e1]
    exact (k.of' e).pure (.int _ _) hl tk
theorem bi_divmod_ok {args : List V} {r : V} {vs : List Value} (hA : A.handled = none) (hu : A.units + 10 < cLine) (e : biDivmod args H = some (r, H')) (rs : VRs fa μ s.heap vs args) (hl : LH fa μ H s.heap) (k : Ok fa μ s r H' Q) :
    wpAny (model prog w) A (call Bi.divmod.val vs) Q E s :=
  obK e fun p h1 e => obK e fun a h2 e => obK e fun b h3 e => oiK e fun hc e => (two_inv h1 ▸ rs).twoK fun v v' r₁ r₂ => (vr_int h2 r₁).intK fun t => (vr_int h3 r₂).intK fun u => by
    have hc := bAnd hc
    exact divmod_int (of_decide_eq_true hc.1) ((k.of e).ext (push_keeps _ _) (.tup (n := 0) (vs := [.int (a.fdiv b) s.toks, .int (a.fmod b) (s.toks + 1)]) (Heap.get?_push_size _ rfl) (.cons (.int _ _) (.cons (.int _ _) .nil))) hl _) (Or.inl (PyProof.noPylong_of_log2 (log_mid (of_decide_eq_true hc.2))))
theorem isBy_inv {x : V} (h : isBy x = true) : x = .bi .bytes := by
  cases x with
  | bi b => cases b with
    | bytes => rfl
    | _ => exact nf h
  | _ => exact nf h
theorem bi_isinstance_ok {args : List V} {r : V} {vs : List Value} (hA : A.handled = none) (hu : A.units + 10 < cLine) (e : biIsinstance args H = some (r, H')) (rs : VRs fa μ s.heap vs args) (hl : LH fa μ H s.heap) (k : Ok fa μ s r H' Q) :
    wpAny (model prog w) A (call Bi.isinstance.val vs) Q E s :=
  obK e fun p h1 e => obK e fun a h2 e => oiK e fun hc e => (two_inv h1 ▸ rs).twoK fun v v' r₁ r₂ => (vr_bytes h2 r₁).bytesK fun t => by
    rw [(isBy_inv hc ▸ r₂ : VR fa μ s.heap v' (.bi .bytes)).bi_inv]
    exact call_function_meets F.kind_isinstance F.plain_isinstance F.entry_isinstance (F.args_isinstance_2 _ _) (isinstance_true (T := "bytes") (by kernel_rfl) F.bm_sub) ⟨typeIs_bytes _ _ _, (k.of e).here (.bool _) hl⟩
theorem bi_bytes_ok {args : List V} {r : V} {vs : List Value} (hA : A.handled = none) (hu : A.units + 10 < cLine) (e : biBytes args H = some (r, H')) (rs : VRs fa μ s.heap vs args) (hl : LH fa μ H s.heap) (k : Ok fa μ s r H' Q) :
    wpAny (model prog w) A (call Bi.bytes.val vs) Q E s :=
  obK e fun x h1 e => obK e fun i h2 e => obK e fun xs hx e => obK e fun is hy e => obK e fun bs hz e => oiK e fun hc e => (one_inv h1 ▸ rs).oneK fun v r₁ => hl.getK (vr_list h2 r₁) hx fun a ws n _ ha hws => by
    have hc := lenOk_le hc
    have l1 := hws.length
    have hI := intsAre_of xs hws hy
    have l2 := hI.length
    obtain ⟨g1, g2⟩ := bytesOf_in is hz
    refine call_bytes_ints (isList_of ha) hI g1 (by rw [sizeLine_eq]; (first | lia | omega)) hA fun h' t kk hk => ?_
    rw [g2]
    have := VR.bytes (fa := fa) (μ := μ) (h := h') bs.toArray t
    exact (k.of e).ext hk (by simpa using this) hl kk
theorem rangeV_inv {x : V} {xs : List V} (h : rangeV x = some xs) : ∃ a b c, x = .range a b c ∧ xs = rangeL a b c ∧ lenOk (rangeL a b c).length = true ∧ okR a = true ∧ okR b = true ∧ okR c = true ∧ c ≠ 0 := by
  cases x with
  | range a b c =>
    refine oiK h fun hc h => ?_
    have c1 := bAnd hc
    have c2 := bAnd c1.1
    have c3 := bAnd c2.1
    have c4 := bAnd c3.1
    exact ⟨a, b, c, rfl, (Option.some.inj h).symm, c4.1, c4.2, c3.2, c2.2, of_decide_eq_true c1.2⟩
  | _ => exact no h
theorem bi_list_ok {args : List V} {r : V} {vs : List Value} (hA : A.handled = none) (hu : A.units + 10 < cLine) (e : biList args H = some (r, H')) (rs : VRs fa μ s.heap vs args) (hl : LH fa μ H s.heap) (k : Ok fa μ s r H' Q) :
    wpAny (model prog w) A (call Bi.list.val vs) Q E s := by
  refine obK e fun x h1 e => (one_inv h1 ▸ rs).oneK fun v r₁ => oeK e (fun _ e => omK e fun xs hx e => ?_) fun i h2 e => obK e fun xs hx e => oiK e fun hc e => ?_
  · obtain ⟨a, b, c, rfl, rfl, g1, h2, h3, h4, h5⟩ := rangeV_inv hx
    refine r₁.rangeK fun p t u u' hr => ?_
    have := lenOk_le g1
    have hn : Builtin.Range.rangeSize a b c = ((Builtin.Range.rangeSize a b c).toNat : Nat) := rangeSize_toNat a b c
    have hlen : (rangeL a b c).length = (Builtin.Range.rangeSize a b c).toNat := by simp [rangeL, rangeInts_length]
    refine call_list_range hA hr (small_range h2 h3 h4) hn (by (first | lia | omega)) fun h' tk acc' c' hk hS hacc => ?_
    refine (k.of' e).new (vs := acc'.toList) (n := c') hl hk (get_size _) (by simpa [Lobj] using hS) ?_ tk
    refine range_vrs _ (by simp [hacc.1, rangeInts_length]) fun i v hv => ?_
    obtain ⟨t, ht⟩ := hacc.2 i v (by simpa using hv)
    refine ⟨t, _, rangeInts_get ?_, ht⟩
    have := lt_of_get hv
    simp [hacc.1] at this
    (first | lia | omega)
  · have := lenOk_le hc
    refine hl.getK (vr_list h2 r₁) hx fun a ws n _ ha hws => ?_
    have l1 := hws.length
    exact call_list_seq a (Or.inl rfl) ha rfl rfl (fun h' c' hk hS => (k.of e).new (vs := ws) (n := c') hl hk (get_size _) hS hws s.toks) (by rw [List.size_toArray, sizeLine_eq]; (first | lia | omega))
theorem bi_min_ok {args : List V} {r : V} {vs : List Value} (hA : A.handled = none) (hu : A.units + 10 < cLine) (e : biMin args H = some (r, H')) (rs : VRs fa μ s.heap vs args) (hl : LH fa μ H s.heap) (k : Ok fa μ s r H' Q) :
    wpAny (model prog w) A (call Bi.min.val vs) Q E s := by
  refine oeK e (fun _ e => obK e fun x h1 e => obK e fun i h2 e => obK e fun xs hx e => obK e fun ts ht e => ?_) fun p h1 e => obK e fun a h2 e => omK e fun b h3 e => ?_
  · cases ts with
    | nil => exact no e
    | cons m ms =>
      refine oiK e fun hc e => (one_inv h1 ▸ rs).oneK fun v r₁ => ?_
      have hc := bAnd hc
      exact min_ok hA hx ht (fun t h => eq_of_beq (List.all_eq_true.mp hc.2 t h)) (vr_list h2 r₁) hl hu (k.of e)
  · refine (two_inv h1 ▸ rs).twoK fun v v' r₁ r₂ => (vr_int h2 r₁).intK fun t => (vr_int h3 r₂).intK fun u => min_two_ints hA fun h' tk hk => ?_
    have k := k.of' e
    by_cases hc : b < a
    · rw [if_pos hc] at k ⊢; exact k.ext hk (.int _ _) hl tk
    · rw [if_neg hc] at k ⊢; exact k.ext hk (.int _ _) hl tk
theorem bi_max_ok {args : List V} {r : V} {vs : List Value} (hA : A.handled = none) (hu : A.units + 10 < cLine) (e : biMax args H = some (r, H')) (rs : VRs fa μ s.heap vs args) (hl : LH fa μ H s.heap) (k : Ok fa μ s r H' Q) :
    wpAny (model prog w) A (call Bi.max.val vs) Q E s := by
  refine obK e fun p h1 e => obK e fun a h2 e => omK e fun b h3 e => ?_
  refine (two_inv h1 ▸ rs).twoK fun v v' r₁ r₂ => (vr_int h2 r₁).intK fun t => (vr_int h3 r₂).intK fun u => max_two_ints hA fun h' tk hk => ?_
  have k := k.of' e
  by_cases hc : a < b
  · rw [if_pos hc] at k; rw [if_pos (show b > a from hc)]; exact k.ext hk (.int _ _) hl tk
  · rw [if_neg hc] at k; rw [if_neg (show ¬ b > a from hc)]; exact k.ext hk (.int _ _) hl tk
theorem bi_sorted_ok {args : List V} {r : V} {vs : List Value} (hA : A.handled = none) (hu : A.units + 10 < cLine) (e : biSorted args H = some (r, H')) (rs : VRs fa μ s.heap vs args) (hl : LH fa μ H s.heap) (k : Ok fa μ s r H' Q) :
    wpAny (model prog w) A (call Bi.sorted.val vs) Q E s := by
  refine obK e fun x h1 e => obK e fun i h2 e => obK e fun xs hx e => obK e fun ts ht e => oiK e fun hc e => (one_inv h1 ▸ rs).oneK fun v r₁ => ?_
  have hc := bAnd hc
  have hd := bAnd hc.1
  exact sorted_ok hx ht (of_decide_eq_true hd.1) (of_decide_eq_true hd.2) (fun t h => List.all_eq_true.mp (bAnd hc.2).1 t h) (of_decide_eq_true (bAnd hc.2).2) (vr_list h2 r₁) hl (k.of e)
theorem bi_ok {b : Bi} {args : List V} {r : V} {vs : List Value} (hA : A.handled = none) (hu : A.units + 10 < cLine) (e : bi b args H = some (r, H')) (rs : VRs fa μ s.heap vs args) (hl : LH fa μ H s.heap) (k : Ok fa μ s r H' Q) :
    wpAny (model prog w) A (call b.val vs) Q E s := by
  cases b with
  | len => exact bi_len_ok hA hu e rs hl k
  | range => exact bi_range_ok hA hu e rs hl k
  | int => exact bi_int_ok hA hu e rs hl k
  | abs => exact bi_abs_ok hA hu e rs hl k
  | divmod => exact bi_divmod_ok hA hu e rs hl k
  | isinstance => exact bi_isinstance_ok hA hu e rs hl k
  | bytes => exact bi_bytes_ok hA hu e rs hl k
  | list => exact bi_list_ok hA hu e rs hl k
  | min => exact bi_min_ok hA hu e rs hl k
  | max => exact bi_max_ok hA hu e rs hl k
  | sorted => exact bi_sorted_ok hA hu e rs hl k
end


/-! the text made into the small language -/
structure Sc where
  n : Nat
  kind : Str → Option NameKind
  slot : Str → Option Nat
  gl : Str → Option V

noncomputable def mtOf (x : Str) : Option Mt := if x == Mt.append.name then some .append else if x == Mt.insert.name then some .insert else if x == Mt.pop.name then some .pop else if x == Mt.remove.name then some .remove else none
noncomputable def opOf : Operator → Option Op
  | .Add => some .add | .Sub => some .sub | .Mult => some .mul | .FloorDiv => some .div | .Mod => some .mod | .Pow => some .pow | _ => none
noncomputable def cmOf : CmpOp → Cm
  | .Lt => .lt | .LtE => .le | .Gt => .gt | .GtE => .ge | .Eq => .eq | .NotEq => .ne | .Is => .is | .IsNot => .isn | .In => .isin | .NotIn => .nin

noncomputable def cL (f : Expr → Option Ex) : List Expr → Option Exs
  | [] => some .nil
  | e :: es => (f e).bind fun m => (cL f es).map (.cons m)
noncomputable def cAnd (f : Expr → Option Ex) : List Expr → Option Ex
  | [] => none
  | e :: es => cond es.isEmpty (f e) ((f e).bind fun m => (cAnd f es).map (.and m))
noncomputable def cOr (f : Expr → Option Ex) : List Expr → Option Ex
  | [] => none
  | e :: es => cond es.isEmpty (f e) ((f e).bind fun m => (cOr f es).map (.or m))
noncomputable def cOpt (f : Expr → Option Ex) : Option Expr → Option Ex
  | none => some (.lit .none)
  | some e => f e
noncomputable def grd {α : Type} (b : Bool) (x : Option α) : Option α := cond b x none
theorem og {α : Type} {b : Bool} {x : Option α} {r : α} (h : grd b x = some r) : b = true ∧ x = some r := by
  cases b with
  | true => exact ⟨rfl, h⟩
  | false => exact no h

noncomputable def isC (n : Nat) (e : Expr) : Bool := Nat.beq e.ctorIdx n
noncomputable def plainBase (e : Expr) : Bool := isC 23 e || isC 21 e
inductive View where
  | name (x : Str)
  | attr (o : Expr) (x : Str) (p : Pos)
  | slice (l u s : Option Expr)
  | sub (o i : Expr)
  | tup (es : List Expr)
  | other
noncomputable def view : Expr → View
  | .Name x _ => .name x
  | .Attribute o x p => .attr o x p
  | .Slice l u s _ => .slice l u s
  | .Subscript o i _ => .sub o i
  | .Tuple es _ _ => .tup es
  | _ => .other
noncomputable def View.of (e : Expr) : View → Prop
  | .name x => ∃ p, e = .Name x p
  | .attr o x p => e = .Attribute o x p
  | .slice l u s => ∃ p, e = .Slice l u s p
  | .sub o i => ∃ p, e = .Subscript o i p
  | .tup es => ∃ j p, e = .Tuple es j p
  | .other => ∀ o x p, e ≠ .Attribute o x p
theorem view_of (e : Expr) : (view e).of e := by
  cases e <;> first | exact fun _ _ _ h => Expr.noConfusion h | exact ⟨_, rfl⟩ | exact ⟨_, _, rfl⟩ | exact rfl
noncomputable def nameOf (e : Expr) : Option Str := match view e with
  | .name x => some x
  | _ => none
theorem nameOf_inv {e : Expr} {x : Str} (h : nameOf e = some x) : ∃ p, e = .Name x p := by
  have v := view_of e
  unfold nameOf at h
  cases hv : view e with
  | name y => rw [hv] at h v; exact Option.some.inj h ▸ v
  | _ => rw [hv] at h; exact no h
noncomputable def namesIn : List Expr → Option (List Str)
  | [] => some []
  | e :: es => (nameOf e).bind fun x => (namesIn es).map (x :: ·)
noncomputable def targetsOf (e : Expr) : Option (List Str × Bool) := match view e with
  | .name x => some ([x], false)
  | .tup es => (namesIn es).map (·, true)
  | _ => none
noncomputable def scopeOk (S : Sc) (sc : Scope) (ts : List Str) : Bool :=
  sc.kind == .function && sc.names.all (fun x => x.2 != .cell && (x.2 != .local || sc.names.lookup x.1 == some .local) && (x.2 != .free || S.kind x.1 == some .cell)) && ts.all (fun x => sc.names.lookup x == some .local) && decide ts.Nodup
noncomputable def kFree : NameKind → NameKind
  | .free => .cell
  | k => k
noncomputable def inner (S : Sc) (sc : Scope) (ts : List Str) : Sc where
  n := S.n + ts.length
  kind := fun x => (sc.names.lookup x).map kFree
  slot := fun x => (sc.names.lookup x).bind fun k => cond (k == .local) (grd (ts.contains x) (some (S.n + ts.idxOf x))) (grd (k == .free) (S.slot x))
  gl := S.gl

noncomputable def cConst : Const → Option Ex
  | .none => some (.lit .none)
  | .bool b => some (.lit (.bool b))
  | .int i => some (.lit (.int i))
  | .bytes b => some (.lit (.bytes b))
  | _ => none
noncomputable def cName (S : Sc) (x : Str) : Option Ex :=
  grd (!(x == ("__debug__" : Str))) ((S.slot x).elim (grd (S.kind x == some .globalImplicit) ((S.gl x).map .lit)) fun i => some (.var i))
noncomputable def cUn (op : UnaryOp) (a : Option Ex) : Option Ex := match op with
  | .USub => a.map .neg
  | .Not => a.map .not
  | _ => none
noncomputable def cCmp (f : Expr → Option Ex) (l : Expr) : List CmpOp → List Expr → Option Ex
  | [op], [r] => (f l).bind fun a => (f r).map (.cmp (cmOf op) a)
  | _, _ => none
noncomputable def cKws (f : Expr → Option Ex) (g : Ex) (ms : Exs) : List Keyword → Option Ex
  | [] => some (.call g ms)
  | k :: r => grd (r.isEmpty && k.arg == some ("key" : Str)) ((f k.value).map (.callK g ms))
noncomputable def cCall (f : Expr → Option Ex) (g : Expr) (args : List Expr) (kws : List Keyword) (pos : Pos) : Option Ex :=
  grd (decide (args.length < 20)) ((cL f args).bind fun ms => match view g with
    | .attr o x p => grd (kws.isEmpty && p.endLine == pos.line && plainBase o) ((mtOf x).bind fun mt => (f o).map fun a => .meth mt a ms)
    | _ => (f g).bind fun m => cKws f m ms kws)
noncomputable def cSub (f : Expr → Option Ex) (o i : Expr) : Option Ex :=
  (f o).bind fun a => match view i with
    | .slice l u s => (cOpt f l).bind fun l => (cOpt f u).bind fun u => (cOpt f s).map (.sl a l u)
    | _ => (f i).map (.idx a)
noncomputable def cIfs (f : Expr → Option Ex) : List Expr → Option Ex
  | [] => some (.lit (.bool true))
  | e :: r => grd r.isEmpty (f e)
noncomputable def cComp (f : Sc → Expr → Option Ex) (S : Sc) (elt : Expr) (gens : List Comprehension) (sc : Scope) : Option Ex := match gens with
  | [] => none
  | g :: r => grd (r.isEmpty && g.is_async == 0) ((targetsOf g.target).bind fun t => grd (scopeOk S sc t.1) ((f (inner S sc t.1) elt).bind fun m => (f S g.iter).bind fun it =>
      (cIfs (f (inner S sc t.1)) g.ifs).map (.comp m t.1.length t.2 it)))

noncomputable def cEo (f : Sc → Expr → Option Ex) (S : Sc) (e : Expr) : Option Ex := match e with
  | .Constant c _ _ => cConst c
  | .Name x _ => cName S x
  | .BinOp l op r _ => (opOf op).bind fun o => (f S l).bind fun a => (f S r).map (.bin o a)
  | .UnaryOp op x _ => cUn op (f S x)
  | .BoolOp op vs _ => (match op with
    | .And => cAnd (f S) vs
    | .Or => cOr (f S) vs)
  | .Compare l ops rs _ => cCmp (f S) l ops rs
  | .IfExp c a b _ => (f S c).bind fun c => (f S a).bind fun a => (f S b).map (.ite c a)
  | .Call g args kws pos => cCall (f S) g args kws pos
  | .Subscript o i _ => cSub (f S) o i
  | .List es _ => (cL (f S) es).map .lst
  | .Tuple es _ _ => (cL (f S) es).map .tpl
  | .ListComp elt gens sc _ => cComp f S elt gens sc
  | _ => none
noncomputable def cE : Nat → Sc → Expr → Option Ex
  | 0, _, _ => none
  | k + 1, S, e => cEo (cE k) S e

/-! statements -/
noncomputable def slots (S : Sc) : List Str → Option (List Nat)
  | [] => some []
  | x :: xs => (S.slot x).bind fun i => (slots S xs).map (i :: ·)
noncomputable def isComp (e : Expr) : Bool := isC 8 e
noncomputable def isTup (e : Expr) : Bool := isC 25 e || isC 24 e
noncomputable def isSl (e : Expr) : Bool := isC 26 e

noncomputable def cB (f : Stmt → St) : List Stmt → St
  | [] => .skip
  | s :: r => .seq (f s) (cB f r)
noncomputable def cFor (f : Expr → Option Ex) (S : Sc) (t it : Expr) (b : St) : Option St :=
  (targetsOf t).bind fun q => (slots S q.1).bind fun is => (f it).map fun m => .fr is q.2 m b
noncomputable def cTgt (f : Expr → Option Ex) (S : Sc) (t v : Expr) : Option St := match view t with
  | .name x => (S.slot x).bind fun i => (f v).map (.asg i)
  | .sub o i => grd (!isSl i && !isComp v) ((f o).bind fun o => (f i).bind fun i => (f v).map (.setI o i))
  | .tup es => grd (!isTup v && !isComp v) ((namesIn es).bind fun xs => (slots S xs).bind fun is => (f v).map (.unp is))
  | _ => none
noncomputable def cAug (f : Expr → Option Ex) (t : Expr) (op : Operator) (v : Expr) : Option St := match view t with
  | .sub o i => grd (op == .Add && !isSl i) ((f o).bind fun o => (f i).bind fun i => (f v).map (.aug o i .add))
  | _ => none
noncomputable def cSo (f : Expr → Option Ex) (g : Stmt → St) (S : Sc) (s : Stmt) : Option St := match s with
  | .Pass _ => some .skip
  | .Break _ => some .brk
  | .Return v _ => v.bind fun e => (f e).map .ret
  | .Expr e _ => grd (!isComp e) ((f e).map .exp)
  | .If t b o _ => (f t).map fun m => .ite m (cB (g) b) (cB (g) o)
  | .While t b o _ => grd o.isEmpty ((f t).map fun m => .whl m (cB (g) b))
  | .For t it b o _ => grd o.isEmpty (cFor (f) S t it (cB (g) b))
  | .Assign ts v _ => (match ts with
    | [] => none
    | t :: r => grd r.isEmpty (cTgt (f) S t v))
  | .AugAssign t op v _ => cAug (f) t op v
  | _ => none

noncomputable def cS : Nat → Sc → Stmt → St
  | 0, _, _ => .bad
  | k + 1, S, s => Option.getD (cSo (cE k S) (cS k S) S s) .bad



/-! names -/
noncomputable def Ld (env : Env) (h : Heap) (x : Str) (v : Value) : Prop :=
  (env.kindOf x = some .local ∧ ∃ m, h.Ns env.locals m ∧ m x = some v) ∨ (env.kindOf x = some .cell ∧ ∃ c, env.cells.lookup x = some c ∧ h.IsCell c (some v))

structure EnvOk (S : Sc) (env : Env) : Prop where
  fn : env.scope.kind = .function
  gl : env.globals = mainGlobals
  bi : env.builtins = builtinsNs
  kind : ∀ x, env.kindOf x = S.kind x
  cell : ∀ x, env.kindOf x = some .cell → ∃ c, env.cells.lookup x = some c
  sl : ∀ x i, S.slot x = some i → i < S.n ∧ (S.kind x = some .local ∨ S.kind x = some .cell)

/-- room for n calls more -/
noncomputable def Rm (A : Around) (n : Nat) : Prop := A.handled = none ∧ A.depth + n < 1000 ∧ A.units + 4 * n + 100 < 9900
theorem Rm.mono {A : Around} {n m : Nat} (x : Rm A n) (h : m ≤ n) : Rm A m := ⟨x.1, by have := x.2.1; (first | lia | omega), by have := x.2.2; (first | lia | omega)⟩
theorem Rm.u {A : Around} {n : Nat} (x : Rm A n) : A.units + 10 < cLine := by have := x.2.2; have := cLine_is; (first | lia | omega)
theorem Rm.deeper {A : Around} {n : Nat} (x : Rm A (n + 1)) (env : Env) : Rm (A.deeper env) n := ⟨x.1, by have := x.2.1; show A.depth + 1 + n < 1000; (first | lia | omega), by have := x.2.2; show A.units + 3 + 4 * n + 100 < 9900; (first | lia | omega)⟩

structure Wd (fa : Nat → Option Addr) (h₀ : Heap) (μ : List Addr) (H : HP) (h : Heap) : Prop where
  lh : LH fa μ H h
  base : ∀ b o, h₀.get? b = some o → h.get? b = some o
  fr : ∀ a ∈ μ, h₀.get? a = none

noncomputable def VarsOk (fa : Nat → Option Addr) (S : Sc) (env : Env) (ρ : Rho) (μ : List Addr) (h : Heap) : Prop :=
  ρ.length = S.n ∧ ∀ x i v, S.slot x = some i → ρ[i]? = some (some v) → ∃ u, Ld env h x u ∧ VR fa μ h u v

section
variable {fa : Nat → Option Addr} {h₀ h h' : Heap} {μ μ' : List Addr} {H H' : HP} {FA : List Addr}

theorem not_list_dict {o : Obj} {es : Array DictEntry} {ep : Nat} (hd : o.data = .dict es ep) : ∀ vs n, o ≠ Lobj vs n := fun vs n e => by rw [e] at hd; cases hd
theorem not_list_cell {o : Obj} {v : Option Value} (hd : o.data = .cell v) : ∀ vs n, o ≠ Lobj vs n := fun vs n e => by rw [e] at hd; cases hd
theorem ns_not_mem {L : Addr} {m : Str → Option Value} (l : LH fa μ H h) (n : h.Ns L m) : L ∉ μ := by
  obtain ⟨o, es, ep, ho, hd, _⟩ := n
  exact l.not_mem_of ho (not_list_dict hd)
theorem cell_not_mem {c : Addr} {v : Option Value} (l : LH fa μ H h) (n : h.IsCell c v) : c ∉ μ := by
  obtain ⟨o, ho, hd⟩ := n
  exact l.not_mem_of ho (not_list_cell hd)
theorem Ld.xt {env : Env} {x : Str} {v : Value} (l : LH fa μ H h) (t : Xt [] μ h μ' h') (d : Ld env h x v) : Ld env h' x v := by
  rcases d with ⟨h1, m, h2, h3⟩ | ⟨h1, c, h2, h3⟩
  · exact Or.inl ⟨h1, m, h2.at' fun o e => t.keep _ _ e (ns_not_mem l h2) (List.not_mem_nil), h3⟩
  · refine Or.inr ⟨h1, c, h2, ?_⟩
    have := cell_not_mem l h3
    obtain ⟨o, ho, hd⟩ := h3
    exact ⟨o, t.keep _ _ ho this (List.not_mem_nil), hd⟩
theorem VarsOk.xt {S : Sc} {env : Env} {ρ : Rho} (l : LH fa μ H h) (t : Xt [] μ h μ' h') (d : VarsOk fa S env ρ μ h) : VarsOk fa S env ρ μ' h' :=
  ⟨d.1, fun x i v h1 h2 => let ⟨u, g1, g2⟩ := d.2 x i v h1 h2; ⟨u, g1.xt l t, t.vr g2⟩⟩
theorem Wd.xt (d : Wd fa h₀ μ H h) (l : LH fa μ' H' h') (t : Xt FA μ h μ' h') (hF : ∀ a ∈ FA, h₀.get? a = none) : Wd fa h₀ μ' H' h' where
  lh := l
  base := fun b o e => t.keep b o (d.base b o e) (fun hm => by rw [d.fr b hm] at e; cases e) (fun hm => by rw [hF b hm] at e; cases e)
  fr := fun a ha => by
    by_cases hm : a ∈ μ
    · exact d.fr a hm
    · cases e : h₀.get? a with
      | none => rfl
      | some o =>
        have := d.base a o e
        rw [t.new a ha hm] at this
        cases this
end

section
variable {M : Model} {A : Around} {E : Value → Shared → Prop} {s : Shared} {env : Env} {Q : Value → Shared → Prop}
theorem ld_wp {x : Str} {v : Value} (hf : env.scope.kind = .function) (d : Ld env s.heap x v) (k : Q v s) : wpAny M A (loadName env x) Q E s := by
  rcases d with ⟨h1, m, h2, h3⟩ | ⟨h1, c, h2, h3⟩
  · exact wpAny_loadName_local hf h1 h2 h3 k
  · exact wpAny_loadName_cell hf h1 h2 h3 k
end

/-- the global names -/
noncomputable def GlobOk (fa : Nat → Option Addr) (h₀ : Heap) (gl : Str → Option V) : Prop :=
  ∀ x V, gl x = some V → ∃ u, (∀ (M : Model) (A : Around) (E : Value → Shared → Prop) (s : Shared) (Q : Value → Shared → Prop) (env : Env), (∀ b o, h₀.get? b = some o → s.heap.get? b = some o) → env.globals = mainGlobals → env.builtins = builtinsNs → Q u s →
      wpAny M A (loadGlobal env x) Q E s) ∧ ∀ (μ : List Addr) (h : Heap), (∀ b o, h₀.get? b = some o → h.get? b = some o) → VR fa μ h u V

noncomputable def FaOk (fa : Nat → Option Addr) (h₀ : Heap) : Prop := ∀ k a, fa k = some a → ∃ o fd, h₀.get? a = some o ∧ o.data = .func fd

noncomputable def OkR (fa : Nat → Option Addr) (μ : List Addr) (s : Shared) (l : V) (H : HP) (R : Result → Shared → Prop) : Prop := Ok fa μ s l H (fun v s' => R (.ok (.ret v)) s')

noncomputable def KwOk (fa : Nat → Option Addr) (μ : List Addr) (h : Heap) (key : Option V) (kws : List (Str × Value)) : Prop :=
  match key with
  | none => kws = []
  | some kv => ∃ u, kws = [(("key" : Str), u)] ∧ VR fa μ h u kv

set_option genInjectivity false in
/-- what stays the same all through a walk -/
structure Cx where
  prog : Program
  w : World
  fa : Nat → Option Addr
  h₀ : Heap
  Φ : FnT
  n : Nat
@[reducible] noncomputable def Cx.M (c : Cx) : Model := model c.prog c.w

/-- the calls of the text's own defs -/
noncomputable def FnOk (c : Cx) : Prop :=
  ∀ k args key H q, c.Φ k args key H = some q → ∀ (A : Around) (s : Shared) (μ : List Addr) (a : Addr) (vs : List Value) (kws : List (Str × Value)) (R : Result → Shared → Prop),
    Rm A c.n → Wd c.fa c.h₀ μ H s.heap → c.fa k = some a → VRs c.fa μ s.heap vs args → KwOk c.fa μ s.heap key kws → OkR c.fa μ s q.1 q.2 R →
    codeAny c.M A (.call (.ref a) ⟨vs, kws⟩) R s

set_option genInjectivity false in
structure ResB (fa : Nat → Option Addr) (μ : List Addr) (s : Shared) (H : HP) where
  h : Heap
  tk : Tok
  μ' : List Addr
  lh : LH fa μ' H h
  xt : Xt [] μ s.heap μ' h
@[reducible] noncomputable def ResB.st {fa : Nat → Option Addr} {μ : List Addr} {s : Shared} {H : HP} (r : ResB fa μ s H) : Shared := stOf s r.h r.tk
noncomputable def OkB (fa : Nat → Option Addr) (μ : List Addr) (s : Shared) (H : HP) (K : Shared → Prop) : Prop := ∀ r : ResB fa μ s H, K r.st

/-- a place in the walk -/
structure Pt (c : Cx) (S : Sc) (A : Around) (env : Env) (ρ : Rho) (H : HP) (μ : List Addr) (s : Shared) : Prop where
  rm : Rm A c.n
  eo : EnvOk S env
  vars : VarsOk c.fa S env ρ μ s.heap
  wd : Wd c.fa c.h₀ μ H s.heap

/-- the small language's answer is the model's -/
noncomputable def Sd (c : Cx) (S : Sc) (e : Expr) (m : Ex) : Prop :=
  ∀ (A : Around) (env : Env) (ρ : Rho) (H : HP) (μ : List Addr) (s : Shared), Pt c S A env ρ H μ s →
    (∀ q Q E, ev c.Φ m ρ H = some q → Ok c.fa μ s q.1 q.2 Q → wpAny c.M A (eval e env) Q E s) ∧
    (∀ q (Q : Bool → Shared → Prop) E, evB c.Φ m ρ H = some q → OkB c.fa μ s q.2 (Q q.1) → wpAny c.M A (isTrue e env (eval e env)) Q E s)

/-- expressions whose truth is asked of their value -/
noncomputable def PlainT (e : Expr) : Prop := ∀ (env : Env) (whole : Sem Value), isTrue e env whole = (do let v ← whole; standAt e.pos; holding [v] (truthy v))

section
variable {c : Cx} {S : Sc} {A : Around} {env : Env} {ρ : Rho} {H : HP} {μ μ' : List Addr} {s : Shared} {e : Expr} {m : Ex} {h' : Heap} {tk : Tok}

theorem Sd.val (d : Sd c S e m) (p : Pt c S A env ρ H μ s) {q : V × HP} {Q E : Value → Shared → Prop} (x : ev c.Φ m ρ H = some q) (k : Ok c.fa μ s q.1 q.2 Q) : wpAny c.M A (eval e env) Q E s := (d A env ρ H μ s p).1 q Q E x k
theorem Sd.tru (d : Sd c S e m) (p : Pt c S A env ρ H μ s) {q : Bool × HP} {Q : Bool → Shared → Prop} {E : Value → Shared → Prop} (x : evB c.Φ m ρ H = some q) (k : OkB c.fa μ s q.2 (Q q.1)) : wpAny c.M A (isTrue e env (eval e env)) Q E s := (d A env ρ H μ s p).2 q Q E x k
theorem Pt.next (p : Pt c S A env ρ H μ s) {H' : HP} (l : LH c.fa μ' H' h') (t : Xt [] μ s.heap μ' h') : Pt c S A env ρ H' μ' (stOf s h' tk) :=
  ⟨p.rm, p.eo, p.vars.xt p.wd.lh t, p.wd.xt l t fun _ h => (List.not_mem_nil h).elim⟩
theorem Pt.after (p : Pt c S A env ρ H μ s) {l : V} {H' : HP} (r : Res c.fa μ s l H') : Pt c S A env ρ H' r.μ' r.st := p.next r.lh r.xt
theorem Pt.afterB (p : Pt c S A env ρ H μ s) {H' : HP} (r : ResB c.fa μ s H') : Pt c S A env ρ H' r.μ' r.st := p.next r.lh r.xt

theorem evB_of {Φ : FnT} {q : Bool × HP} (h : evB Φ m ρ H = some q) : ∃ v, ev Φ m ρ H = some (v, q.2) ∧ tr v = some q.1 :=
  obK h fun v h1 h => omK h fun b h2 h => ⟨v.1, by rw [h1, ← h], by rw [h2, ← h]⟩
theorem evB_mk {Φ : FnT} {q : V × HP} {b : Bool} (h1 : ev Φ m ρ H = some q) (h2 : tr q.1 = some b) : evB Φ m ρ H = some (b, q.2) := by
  unfold evB
  rw [h1, Option.bind_some, h2]
  rfl

theorem OkB.here {K : Shared → Prop} (k : OkB c.fa μ s H K) (l : LH c.fa μ H s.heap) : K s := k ⟨s.heap, s.toks, μ, l, .refl⟩
theorem OkB.step {K : Shared → Prop} (k : OkB c.fa μ s H K) (t : Xt [] μ s.heap μ' h') : OkB c.fa μ' (stOf s h' tk) H K := fun r => k ⟨r.h, r.tk, r.μ', r.lh, t.trans r.xt⟩
theorem Ok.step {fa : Nat → Option Addr} {l : V} {Q : Value → Shared → Prop} (k : Ok fa μ s l H Q) (t : Xt [] μ s.heap μ' h') : Ok fa μ' (stOf s h' tk) l H Q := fun r => k ⟨r.v, r.h, r.tk, r.μ', r.vr, r.lh, t.trans r.xt⟩

/-- from the value to the truth -/
theorem Sd.of_val (hp : PlainT e)
    (h : ∀ (A : Around) (env : Env) (ρ : Rho) (H : HP) (μ : List Addr) (s : Shared), Pt c S A env ρ H μ s → ∀ q Q E, ev c.Φ m ρ H = some q → Ok c.fa μ s q.1 q.2 Q → wpAny c.M A (eval e env) Q E s) : Sd c S e m := fun A env ρ H μ s p =>
  ⟨h A env ρ H μ s p, fun q Q E hb k => by
    obtain ⟨v, h1, h2⟩ := evB_of hb
    rw [hp]
    exact wpAny_bind (h A env ρ H μ s p _ _ E h1 fun r => wpAny_bind (wpAny_standAt (wpAny_holding (tr_ok h2 r.vr (k ⟨r.h, r.tk, r.μ', r.lh, r.xt⟩)))))⟩

theorem sd_lit {v : V} (hp : PlainT e)
    (h : ∀ (M : Model) (A : Around) (env : Env) (s : Shared) (Q : Value → Shared → Prop) (E : Value → Shared → Prop), EnvOk S env → (∀ b o, c.h₀.get? b = some o → s.heap.get? b = some o) → (∀ u tk, (∀ μ, VR c.fa μ s.heap u v) → Q u { s with toks := tk }) → wpAny M A (eval e env) Q E s) :
    Sd c S e (.lit v) := Sd.of_val hp fun A env ρ H μ s p q Q E e1 k =>
  h _ A env s Q E p.eo p.wd.base fun u tk hu => (k.of e1).pure (hu μ) p.wd.lh tk

theorem sd_none {k : Nat} {p : Pos} : Sd c S (.Constant .none k p) (.lit .none) := sd_lit (fun _ _ => rfl) fun _ _ _ s _ _ _ _ q => Constant_none (q _ s.toks fun _ => .none)
theorem sd_bool {b : Bool} {k : Nat} {p : Pos} : Sd c S (.Constant (.bool b) k p) (.lit (.bool b)) := sd_lit (fun _ _ => rfl) fun _ _ _ s _ _ _ _ q => Constant_bool (q _ s.toks fun _ => .bool b)
theorem sd_int {i : Int} {k : Nat} {p : Pos} : Sd c S (.Constant (.int i) k p) (.lit (.int i)) := sd_lit (fun _ _ => rfl) fun _ _ _ _ _ _ _ _ q => wpAny_Constant_int (q _ _ fun _ => .int _ _)
theorem sd_bytes {b : List UInt8} {k : Nat} {p : Pos} : Sd c S (.Constant (.bytes b) k p) (.lit (.bytes b)) := sd_lit (fun _ _ => rfl) fun _ _ _ s _ _ _ _ q => PySem.W.Constant_bytes (q _ _ fun μ => by
  have := VR.bytes (fa := c.fa) (μ := μ) (h := s.heap) b.toArray s.toks
  simpa using this)
theorem sd_global {x : Str} {p : Pos} {v : V} (hG : GlobOk c.fa c.h₀ S.gl) (hx : (x == ("__debug__" : Str)) = false) (hk : S.kind x = some .globalImplicit) (hg : S.gl x = some v) : Sd c S (.Name x p) (.lit v) :=
  sd_lit (fun _ _ => rfl) fun M A env s Q E hE hb q => by
    obtain ⟨u, g1, g2⟩ := hG x v hg
    exact Calls.Name_function_global hE.fn ((hE.kind x).trans hk) (g1 M A E s Q env hb hE.gl hE.bi (q u s.toks fun μ => g2 μ _ hb)) hx
theorem sd_var {x : Str} {p : Pos} {i : Nat} (hx : (x == ("__debug__" : Str)) = false) (hs : S.slot x = some i) : Sd c S (.Name x p) (.var i) :=
  Sd.of_val (fun _ _ => rfl) fun A env ρ H μ s p q Q E e k => obK e fun o h1 e => omK e fun v h2 e => by
    obtain ⟨u, g1, g2⟩ := p.vars.2 x i v hs (h1.trans (congrArg some h2))
    exact wpAny_Name (ld_wp p.eo.fn g1 ((k.of' e).here g2 p.wd.lh)) hx

theorem sd_bin {l r : Expr} {op : Operator} {o : Op} {p : Pos} {a b : Ex} (ho : o.py = op) (h1 : Sd c S l a) (h2 : Sd c S r b) : Sd c S (.BinOp l op r p) (.bin o a b) :=
  Sd.of_val (fun _ _ => rfl) fun A env ρ H μ s p q Q E e k => obK e fun x ex e => obK e fun y ey e => ho ▸ wpAny_BinOp (h1.val p ex fun r => h2.val (p.after r) ey fun r' => bin_ok e (r'.xt.vr r.vr) r'.vr r'.lh (k.step (r.xt.trans r'.xt)))
end


section
variable {c : Cx} {S : Sc} {A : Around} {env : Env} {ρ : Rho} {H H₁ : HP} {μ μ' : List Addr} {s : Shared} {h' : Heap} {tk : Tok}

theorem sd_neg {x : Expr} {p : Pos} {a : Ex} (h1 : Sd c S x a) : Sd c S (.UnaryOp .USub x p) (.neg a) :=
  Sd.of_val (fun _ _ => rfl) fun A env ρ H μ s p q Q E e k => obK e fun y ex e => omK e fun i hi e => UnaryOp_ (h1.val p ex fun r => neg_ok (vr_int hi r.vr) r.lh ((k.of' e).step r.xt))

theorem sd_not {x : Expr} {p : Pos} {a : Ex} (h1 : Sd c S x a) : Sd c S (.UnaryOp .Not x p) (.not a) := fun A env ρ H μ s p =>
  ⟨fun q Q E e k => obK e fun y ex e => omK e fun d hd e => UnaryOp_ (h1.val p ex fun r => not_of (tr_ok hd r.vr (((k.of' e).step r.xt).here (.bool _) r.lh))),
   fun q Q E hb k => by
    obtain ⟨v, h2, h3⟩ := evB_of hb
    refine obK h2 fun y ex e => omK e fun d hd e => isTrue_not (h1.tru p (evB_mk ex hd) fun r => ?_)
    have e2 := congrArg Prod.snd e
    rw [show v = .bool (!d) from (congrArg Prod.fst e).symm] at h3
    rw [← Option.some.inj (show some (!d) = some q.1 from h3)] at k
    exact k ⟨r.h, r.tk, r.μ', e2 ▸ r.lh, r.xt⟩⟩

theorem ite_part {x y : Expr} {a b : Ex} (h1 : Sd c S x a) (h2 : Sd c S y b) (p : Pt c S A env ρ H μ s) (t : Bool) {q : V × HP} {Q E : Value → Shared → Prop} (e : cond t (ev c.Φ a ρ H) (ev c.Φ b ρ H) = some q) (k : Ok c.fa μ s q.1 q.2 Q) :
    (if t = true then wpAny c.M A (eval x env) Q E s else wpAny c.M A (eval y env) Q E s) := by
  cases t with
  | true => exact (if_pos rfl).symm ▸ h1.val p e k
  | false => exact (if_neg Bool.false_ne_true).symm ▸ h2.val p e k
theorem ite_partB {x y : Expr} {a b : Ex} (h1 : Sd c S x a) (h2 : Sd c S y b) (p : Pt c S A env ρ H μ s) (t : Bool) {v : V} {q : Bool × HP} {Q : Bool → Shared → Prop} {E : Value → Shared → Prop} (e : cond t (ev c.Φ a ρ H) (ev c.Φ b ρ H) = some (v, q.2)) (hv : tr v = some q.1) (k : OkB c.fa μ s q.2 (Q q.1)) :
    (if t = true then wpAny c.M A (isTrue x env (eval x env)) Q E s else wpAny c.M A (isTrue y env (eval y env)) Q E s) := by
  cases t with
  | true => exact (if_pos rfl).symm ▸ h1.tru p (evB_mk e hv) k
  | false => exact (if_neg Bool.false_ne_true).symm ▸ h2.tru p (evB_mk e hv) k

theorem sd_ite {g x y : Expr} {p : Pos} {m a b : Ex} (h0 : Sd c S g m) (h1 : Sd c S x a) (h2 : Sd c S y b) : Sd c S (.IfExp g x y p) (.ite m a b) := fun A env ρ H μ s p =>
  ⟨fun q Q E e k => obK e fun z ez e => obK e fun t ht e => IfExp_ (h0.tru p (evB_mk ez ht) fun r => ite_part h1 h2 (p.afterB r) t e (k.step r.xt)),
   fun q Q E hb k => by
    obtain ⟨v, e, h3⟩ := evB_of hb
    exact obK e fun z ez e => obK e fun t ht e => isTrue_IfExp (h0.tru p (evB_mk ez ht) fun r => ite_partB h1 h2 (p.afterB r) t e h3 (k.step r.xt))⟩

theorem sd_cmp {l r : Expr} {op : CmpOp} {o : Cm} {p : Pos} {a b : Ex} (ho : o.py = op) (hb : behindInMarks op r = false) (h1 : Sd c S l a) (h2 : Sd c S r b) : Sd c S (.Compare l [op] [r] p) (.cmp o a b) := by
  subst ho
  have main : ∀ {A env ρ H μ s} {q} {Q E : Value → Shared → Prop}, Pt c S A env ρ H μ s → ev c.Φ (.cmp o a b) ρ H = some q → (∀ d, q.1 = .bool d → OkB c.fa μ s q.2 (Q (.bool d))) →
      wpAny c.M A (eval l env) (fun x s₁ => wpAny c.M A (eval r env) (fun y s₂ => wpAny c.M A (compareOp o.py x y) Q E s₂) E s₁) E s := fun p e k =>
    obK e fun x ex e => obK e fun y ey e => omK e fun d hd e => h1.val p ex fun r => h2.val (p.after r) ey fun r' =>
      cmp_ok hd (r'.xt.vr r.vr) r'.vr r'.lh p.rm.u (k d (congrArg Prod.fst e).symm ⟨r'.h, r'.tk, r'.μ', congrArg Prod.snd e ▸ r'.lh, r.xt.trans r'.xt⟩)
  intro A env ρ H μ s p
  refine ⟨fun q Q E e k => wpAny_Compare1 (main p e fun d hd r => k ⟨_, r.h, r.tk, r.μ', hd ▸ .bool d, r.lh, r.xt⟩) hb, fun q Q E hd k => ?_⟩
  obtain ⟨v, e, h3⟩ := evB_of hd
  refine wpAny_isTrue_Compare1 (main (Q := fun z s₃ => wpAny c.M A (truthy z) Q E s₃) p e fun d hv r => wpAny_truthy_bool ?_) hb
  rw [show v = .bool d from hv] at h3
  rw [Option.some.inj (show some d = some q.1 from h3)]
  exact k ⟨r.h, r.tk, r.μ', r.lh, r.xt⟩

/-! and, or -/
theorem sd_bool1 {op : BoolOp} {x : Expr} {p : Pos} {a : Ex} (h1 : Sd c S x a) : Sd c S (.BoolOp op [x] p) a := fun A env ρ H μ s p =>
  ⟨fun q Q E e k => BoolOp_one (h1.val p e k), fun q Q E hb k => by
    obtain ⟨b, H'⟩ := q
    cases op with
    | And => exact isTrue_and (h1.tru p hb fun r => by cases b with
      | true => exact isTrue_and_nil (k r)
      | false => exact k r)
    | Or => exact isTrue_or (h1.tru p hb fun r => by cases b with
      | true => exact k r
      | false => exact isTrue_or_nil (k r))⟩

theorem sd_and {x y : Expr} {r : List Expr} {p : Pos} {a b : Ex} (h1 : Sd c S x a) (h2 : Sd c S (.BoolOp .And (y :: r) p) b) : Sd c S (.BoolOp .And (x :: y :: r) p) (.and a b) := fun A env ρ H μ s p =>
  ⟨fun q Q E e k => obK e fun z ez e => obK e fun t ht e => BoolOp_and (h1.val p ez fun r => tr_ok ht r.vr (by cases t with
      | true => exact h2.val (p.after r) e (k.step r.xt)
      | false => exact ((k.of e).step r.xt).here r.vr r.lh)),
   fun q Q E hb k => by
    obtain ⟨v, e, h3⟩ := evB_of hb
    refine obK e fun z ez e => obK e fun t ht e => isTrue_and (h1.tru p (evB_mk ez ht) fun r => ?_)
    cases t with
    | true => exact h2.tru (p.afterB r) (evB_mk e h3) (k.step r.xt)
    | false =>
      have e := Option.some.inj (show some z = some (v, q.2) from e)
      rw [e] at ht
      rw [Option.some.inj (h3.symm.trans ht)] at k
      exact k ⟨r.h, r.tk, r.μ', congrArg Prod.snd e ▸ r.lh, r.xt⟩⟩

theorem sd_or {x y : Expr} {r : List Expr} {p : Pos} {a b : Ex} (h1 : Sd c S x a) (h2 : Sd c S (.BoolOp .Or (y :: r) p) b) : Sd c S (.BoolOp .Or (x :: y :: r) p) (.or a b) := fun A env ρ H μ s p =>
  ⟨fun q Q E e k => obK e fun z ez e => obK e fun t ht e => BoolOp_or (h1.val p ez fun r => tr_ok ht r.vr (by cases t with
      | false => exact h2.val (p.after r) e (k.step r.xt)
      | true => exact ((k.of e).step r.xt).here r.vr r.lh)),
   fun q Q E hb k => by
    obtain ⟨v, e, h3⟩ := evB_of hb
    refine obK e fun z ez e => obK e fun t ht e => isTrue_or (h1.tru p (evB_mk ez ht) fun r => ?_)
    cases t with
    | false => exact h2.tru (p.afterB r) (evB_mk e h3) (k.step r.xt)
    | true =>
      have e := Option.some.inj (show some z = some (v, q.2) from e)
      rw [e] at ht
      rw [Option.some.inj (h3.symm.trans ht)] at k
      exact k ⟨r.h, r.tk, r.μ', congrArg Prod.snd e ▸ r.lh, r.xt⟩⟩

/-! lists of expressions -/
noncomputable def noStar (e : Expr) : Bool := !isC 22 e
inductive SdL (c : Cx) (S : Sc) : List Expr → Exs → Prop
  | nil : SdL c S [] .nil
  | cons {e : Expr} {m : Ex} {es : List Expr} {ms : Exs} : Sd c S e m → noStar e = true → SdL c S es ms → SdL c S (e :: es) (.cons m ms)

set_option genInjectivity false in
structure ResL (fa : Nat → Option Addr) (μ : List Addr) (s : Shared) (ls : List V) (H : HP) where
  vs : List Value
  h : Heap
  tk : Tok
  μ' : List Addr
  vr : VRs fa μ' h vs ls
  lh : LH fa μ' H h
  xt : Xt [] μ s.heap μ' h
@[reducible] noncomputable def ResL.st {fa : Nat → Option Addr} {μ : List Addr} {s : Shared} {ls : List V} {H : HP} (r : ResL fa μ s ls H) : Shared := stOf s r.h r.tk
noncomputable def OkL (fa : Nat → Option Addr) (μ : List Addr) (s : Shared) (ls : List V) (H : HP) (Q : List Value → Shared → Prop) : Prop := ∀ r : ResL fa μ s ls H, Q r.vs r.st
theorem Pt.afterL (p : Pt c S A env ρ H μ s) {ls : List V} {H' : HP} (r : ResL c.fa μ s ls H') : Pt c S A env ρ H' r.μ' r.st := p.next r.lh r.xt

theorem starEach_cons {e : Expr} {es : List Expr} {env : Env} (h : noStar e = true) : starEach (e :: es) env = (false, eval e env) :: starEach es env := by
  cases e <;> first | rfl | exact nf h
theorem backTo_cons {e : Sem Value} {es : List (Bool × Sem Value)} {pos : Pos} : backTo pos ((false, e) :: es) = (false, e) :: backTo pos es := rfl

theorem sdl_wp {es : List Expr} {ms : Exs} (h : SdL c S es ms) : ∀ {pos : Pos} {A : Around} {env : Env} {ρ : Rho} {H : HP} {μ : List Addr} {s : Shared}, Pt c S A env ρ H μ s →
    ∀ {q : List V × HP} {Q : List Value → Shared → Prop} {E : Value → Shared → Prop}, evs c.Φ ms ρ H = some q → OkL c.fa μ s q.1 q.2 Q → wpAny c.M A (spliced (backTo pos (starEach es env))) Q E s := by
  induction h with
  | nil =>
    intro pos A env ρ H μ s p q Q E e k
    cases Option.some.inj e
    exact Calls.spliced_nil (k ⟨[], s.heap, s.toks, μ, .nil, p.wd.lh, .refl⟩)
  | cons h1 hs _ ih =>
    intro pos A env ρ H μ s p q Q E e k
    refine obK e fun v e1 e => omK e fun vs e2 e => ?_
    rw [starEach_cons hs, backTo_cons]
    rw [← e] at k
    exact Calls.spliced_cons (h1.val p e1 fun r => ih (p.after r) e2 fun r' => k ⟨r.v :: r'.vs, r'.h, r'.tk, r'.μ', .cons (r'.xt.vr r.vr) r'.vr, r'.lh, r.xt.trans r'.xt⟩)

theorem sdl_plain {es : List Expr} {ms : Exs} (h : SdL c S es ms) (pos : Pos) (env : Env) : (backTo pos (starEach es env)).any (·.1) = false ∧ (backTo pos (starEach es env)).all (fun x => !x.1) = true := by
  induction h with
  | nil => exact ⟨rfl, rfl⟩
  | cons h1 hs _ ih =>
    rw [starEach_cons hs, backTo_cons]
    exact ih

theorem sd_lst {es : List Expr} {ms : Exs} {p : Pos} (h : SdL c S es ms) : Sd c S (.List es p) (.lst ms) :=
  Sd.of_val (fun _ _ => rfl) fun A env ρ H μ s p q Q E e k => obK e fun vs e1 e => oiK e fun hc e => List_ (sdl_wp h p e1 fun r => by
    have := lenOk_le hc
    have hl := r.vr.length
    exact wpAny_newList (((k.of e).step r.xt).new (vs := r.vs) (n := 0) r.lh (push_keeps _ _) (get_size _) (Heap.get?_push_size _ rfl) r.vr r.tk) (by rw [sizeLine_eq]; (first | lia | omega)))
theorem sd_tpl {es : List Expr} {ms : Exs} {j : Nat} {p : Pos} (h : SdL c S es ms) : Sd c S (.Tuple es j p) (.tpl ms) :=
  Sd.of_val (fun _ _ => rfl) fun A env ρ H μ s p q Q E e k => obK e fun vs e1 e => oiK e fun hc e => Tuple_ (sdl_wp h p e1 fun r => by
    have := lenOk_le hc
    have hl := r.vr.length
    exact wpAny_newTuple (((k.of e).step r.xt).ext (push_keeps _ _) (.tup (n := 0) (vs := r.vs) (Heap.get?_push_size _ rfl) (r.vr.mono (List.prefix_refl _) fun b o e _ => push_keeps _ _ b o e)) r.lh r.tk) (by rw [sizeLine_eq]; (first | lia | omega)))
end


section
variable {c : Cx} {S : Sc} {A : Around} {env : Env} {ρ : Rho} {H H' : HP} {μ μ' : List Addr} {s : Shared} {h' : Heap} {tk : Tok}

/-! items and slices -/
noncomputable def sq : V → Bool
  | .list _ => true
  | .tup _ => true
  | .bytes _ => true
  | _ => false
theorem getI_sq {x y r : V} (e : getI x y H = some r) : sq x = true := by
  refine obK e fun k _ e => ?_
  cases x <;> first | rfl | exact no e
theorem slV_sq {x a b c : V} {r : V × HP} (e : slV x a b c H = some r) : sq x = true :=
  oeK e (fun _ e => obK e fun i h _ => by rw [asList_inv h]; rfl) fun b h _ => by rw [asBytes_inv h]; rfl

theorem sub_tail {x : V} {v i : Value} {E Q : Value → Shared → Prop} {value slice : Expr} {ops : List Value} (hx : sq x = true) (r : VR c.fa μ s.heap v x) (l : LH c.fa μ H s.heap)
    (hs : subscripted slice false v i = operate ops (getItem v i)) (h : wpAny c.M A (getItem v i) Q E s) : wpAny c.M A (subscriptTail value slice v i) Q E s := by
  cases x with
  | list =>
    obtain ⟨a, h1, hi⟩ := r.list_inv
    obtain ⟨vs, k, ha⟩ := l.mem (List.mem_of_getElem? hi)
    rw [h1] at h hs ⊢
    exact tail_any (T := "list") ⟨_, ha, rfl⟩ slot_list_getitem.lookup h hs
  | tup =>
    obtain ⟨a, vs, k, h1, ha, _⟩ := r.tup_inv
    rw [h1] at h hs ⊢
    exact tail_any (T := "tuple") ⟨_, ha, rfl⟩ slot_tuple_getitem.lookup h hs
  | bytes =>
    obtain ⟨t, h1⟩ := r.bytes_inv
    rw [h1] at h hs ⊢
    exact tail_any (T := "bytes") (typeIs_bytes _ _ _) FB.slot_bytes_getitem.lookup h hs
  | _ => exact nf hx

theorem subscripted_plain {slice : Expr} {o i : Value} (h : isSl slice = false) : subscripted slice false o i = operate [o, i] (getItem o i) := by
  cases slice <;> first | rfl | exact nt h
theorem subscripted_slice {l u s : Option Expr} {p : Pos} {o i : Value} : ∃ ops, subscripted (.Slice l u s p) false o i = operate ops (getItem o i) := by
  cases s with
  | none => exact ⟨_, rfl⟩
  | some _ => exact ⟨_, rfl⟩

theorem sd_idx {o i : Expr} {p : Pos} {a b : Ex} (hi : isSl i = false) (h1 : Sd c S o a) (h2 : Sd c S i b) : Sd c S (.Subscript o i p) (.idx a b) :=
  Sd.of_val (fun _ _ => rfl) fun A env ρ H μ s p q Q E e k => obK e fun x ex e => obK e fun y ey e => omK e fun v hg e => Subscript_ (h1.val p ex fun r => h2.val (p.after r) ey fun r' =>
    sub_tail (getI_sq hg) (r'.xt.vr r.vr) r'.lh (subscripted_plain hi) (getI_ok hg (r'.xt.vr r.vr) r'.vr r'.lh fun z tz rz => ((k.of' e).step (r.xt.trans r'.xt)).pure rz r'.lh tz))

inductive SdO (c : Cx) (S : Sc) : Option Expr → Ex → Prop
  | none : SdO c S none (.lit .none)
  | some {e : Expr} {m : Ex} : Sd c S e m → SdO c S (some e) m
theorem sdo_wp {x : Option Expr} {m : Ex} (h : SdO c S x m) (p : Pt c S A env ρ H μ s) {q : V × HP} {Q E : Value → Shared → Prop} (e : ev c.Φ m ρ H = some q) (k : Ok c.fa μ s q.1 q.2 Q) : wpAny c.M A (evalPart x env) Q E s := by
  cases h with
  | none => exact wpAny_evalPart_none ((k.of e).here .none p.wd.lh)
  | some h => exact wpAny_evalPart_some (h.val p e k)

theorem sd_sl {o : Expr} {l u t : Option Expr} {p p' : Pos} {a b d f : Ex} (h1 : Sd c S o a) (h2 : SdO c S l b) (h3 : SdO c S u d) (h4 : SdO c S t f) :
    Sd c S (.Subscript o (.Slice l u t p') p) (.sl a b d f) :=
  Sd.of_val (fun _ _ => rfl) fun A env ρ H μ s p q Q E e k => obK e fun x ex e => obK e fun y₁ e1 e => obK e fun y₂ e2 e => obK e fun y₃ e3 e => Subscript_ (h1.val p ex fun r₀ => wpAny_Slice (sdo_wp h2 (p.after r₀) e1 fun r₁ =>
    sdo_wp h3 ((p.after r₀).after r₁) e2 fun r₂ => sdo_wp h4 (((p.after r₀).after r₁).after r₂) e3 fun r₃ => by
      have t5 : Xt [] r₃.μ' r₃.h r₃.μ' (r₃.h.push { cls := .type "slice", data := .fields #[r₁.v, r₂.v, r₃.v] }) := .ext (push_keeps _ _)
      have l5 := r₃.lh.ext (push_keeps r₃.h { cls := .type "slice", data := .fields #[r₁.v, r₂.v, r₃.v] })
      have t35 := r₃.xt.trans t5
      have t25 := r₂.xt.trans t35
      have t15 := r₁.xt.trans t25
      obtain ⟨ops, ho⟩ := subscripted_slice (l := l) (u := u) (s := t) (p := p') (o := r₀.v) (i := Value.ref r₃.h.objs.size)
      exact sub_tail (slV_sq e) (t15.vr r₀.vr) l5 ho (sl_ok e (t15.vr r₀.vr) (t25.vr r₁.vr) (t35.vr r₂.vr) (t5.vr r₃.vr) (Heap.IsSliceOf.new _ _ _ _) l5 (k.step (r₀.xt.trans t15)))))

/-! calls -/
theorem eval_Call_plain {f : Expr} {args : List Expr} {kws : List Keyword} {pos : Pos} {env : Env} (h : ∀ o x p, f ≠ .Attribute o x p) :
    eval (.Call f args kws pos) env = (do let v ← eval f env; callWith pos v [] (backTo pos (starEach args env)) (backToKw pos (keywordEach kws env))) := by
  cases f <;> first | rfl | exact absurd rfl (h _ _ _)

theorem evalArgs_all {M : Model} {A : Around} {E : Value → Shared → Prop} {s : Shared} {f : Value} {args : List (Bool × Sem Value)} {keywords : List (Option Str × Sem Value)} {Q : Args → Shared → Prop} (ha : args.any (·.1) = false)
    (hall : keywords.all (·.1.isSome) = true)
    (h : wpAny M A (spliced args) (fun vs s₁ => wpAny M A (evalAll (keywords.map (·.2))) (fun kvs s₂ => Q ⟨vs, (keywords.filterMap (·.1)).zip kvs⟩ s₂) E s₁) E s) :
    wpAny M A (evalArgs f true args keywords) Q E s := by
  cases args with
  | nil =>
    unfold evalArgs
    show wpAny M A (spliced [] >>= _) Q E s
    refine wpAny_bind (wpAny_mono h (fun vs s' h' => ?_) fun _ _ x => x)
    refine wpAny_holding ?_
    rw [if_pos hall]
    refine wpAny_bind (wpAny_mono h' (fun kvs s₂ h₂ => ?_) fun _ _ x => x)
    exact wpAny_bind (wpAny_pure (wpAny_pure h₂))
  | cons a r =>
    obtain ⟨b, x⟩ := a
    have : b = false := by
      simp only [List.any_cons, Bool.or_eq_false_iff] at ha
      exact ha.1
    subst this
    exact evalArgs_kwB hall h

theorem callWith_mach {M : Model} {A : Around} {E : Value → Shared → Prop} {s : Shared} {pos : Pos} {b : Bi} {first : List Value} {args : List (Bool × Sem Value)} {Q : Value → Shared → Prop}
    (hplain : args.any (·.1) = false) (h : wpAny M A (spliced args) (fun vs s₁ => wpAny M A (call b.val (first ++ vs)) Q E s₁) E s) :
    wpAny M A (callWith pos b.val first args []) Q E s := by
  unfold callWith
  refine wpAny_bind (wpAny_holding (evalArgs_all hplain rfl (wpAny_mono h (fun vs s₁ h₁ => evalAll_nil (wpAny_bind (wpAny_standAt ?_))) fun _ _ x => x)))
  have e1 : keeperOf b.val = pure Keeper.machine := by cases b <;> rfl
  simp only [hplain, List.any_nil, Bool.or_false, e1]
  refine wpAny_bind (wpAny_pure ?_)
  exact wpAny_bind (wpAny_mono h₁ (fun r s₂ hr => wpAny_bind (wpAny_holding (wpAny_point (wpAny_pure hr)))) fun _ _ x => x)

theorem fn_wp {E Q : Value → Shared → Prop} {a : Addr} {k : Nat} {args : List V} {vs : List Value} {key : Option V} {kws : List (Str × Value)} {q : V × HP} (hΦ : FnOk c) (p : Pt c S A env ρ H μ s) (hf : c.fa k = some a)
    (e : c.Φ k args key H = some q) (rs : VRs c.fa μ s.heap vs args) (hk : KwOk c.fa μ s.heap key kws) (kk : Ok c.fa μ s q.1 q.2 Q) :
    wpAny c.M A (call (.ref a) vs kws) Q E s :=
  wpAny_call (hΦ k args key H q e A s μ a vs kws _ p.rm p.wd hf rs hk kk)

theorem sd_call {f : Expr} {args : List Expr} {pos : Pos} {a : Ex} {ms : Exs} (hA : ∀ o x p, f ≠ .Attribute o x p) (hΦ : FnOk c) (hF : FaOk c.fa c.h₀) (h1 : Sd c S f a) (h2 : SdL c S args ms) :
    Sd c S (.Call f args [] pos) (.call a ms) :=
  Sd.of_val (fun _ _ => rfl) fun A env ρ H μ s p q Q E e k => obK e fun g ef e => obK e fun vs ea e => by
    rw [eval_Call_plain hA]
    refine wpAny_bind (h1.val p ef fun r => ?_)
    have p1 := (sdl_plain h2 pos env).1
    have p' := p.after r
    obtain ⟨g, H₁⟩ := g
    cases g with
    | fn j =>
      obtain ⟨b, hb, hc⟩ := r.vr.fn_inv
      obtain ⟨o, fd, ho, hd⟩ := hF j b hc
      rw [hb]
      exact callWith_def_kw hd (evalArgs_all p1 rfl (sdl_wp h2 p' ea fun r' => evalAll_nil ⟨(p'.afterL r').wd.base _ _ ho, fn_wp hΦ (p'.afterL r') hc e r'.vr rfl (k.step (r.xt.trans r'.xt))⟩))
    | bi b =>
      rw [r.vr.bi_inv]
      exact callWith_mach p1 (sdl_wp h2 p' ea fun r' => bi_ok p.rm.1 p.rm.u (show bi b vs.1 vs.2 = some (q.1, q.2) from e) r'.vr r'.lh (k.step (r.xt.trans r'.xt)))
    | _ => exact no e

theorem app_biK {P : Prop} {Φ : FnT} {b : Bi} {args : List V} {k : V} {q : V × HP} (h : app Φ (.bi b) args (some k) H = some q) : P := nf (oi (show (if (some k).isNone = true then bi b args H else none) = some q from h)).1

theorem sd_callK {f : Expr} {args : List Expr} {pos : Pos} {kp : Pos} {e : Expr} {a m : Ex} {ms : Exs} (hA : ∀ o x p, f ≠ .Attribute o x p) (hΦ : FnOk c) (hF : FaOk c.fa c.h₀) (h1 : Sd c S f a) (h2 : SdL c S args ms)
    (h3 : Sd c S e m) : Sd c S (.Call f args [⟨some "key", e, kp⟩] pos) (.callK a ms m) :=
  Sd.of_val (fun _ _ => rfl) fun A env ρ H μ s p q Q E e k => obK e fun g ef e => obK e fun vs ea e => obK e fun kv ek e => by
    rw [eval_Call_plain hA]
    refine wpAny_bind (h1.val p ef fun r => ?_)
    have p1 := (sdl_plain h2 pos env).1
    have p' := p.after r
    obtain ⟨g, H₁⟩ := g
    cases g with
    | fn j =>
      obtain ⟨b, hb, hc⟩ := r.vr.fn_inv
      obtain ⟨o, fd, ho, hd⟩ := hF j b hc
      rw [hb]
      exact callWith_def_kw hd (evalArgs_all p1 rfl (sdl_wp h2 p' ea fun r' => kws_cons (h3.val (p'.afterL r') ek fun r₃ => kws_nil ⟨((p'.afterL r').after r₃).wd.base _ _ ho,
        fn_wp hΦ ((p'.afterL r').after r₃) hc e (r₃.xt.vrs r'.vr) ⟨r₃.v, rfl, r₃.vr⟩ (k.step ((r.xt.trans r'.xt).trans r₃.xt))⟩)))
    | bi b => exact app_biK e
    | _ => exact no e

/-! methods -/
theorem mt_facts (m : Mt) : PlainAttrs "list" ∧ Slot "list" m.name m.id ∧ typeOf (.builtin m.id) = pure (.type "method_descriptor") := by
  cases m with
  | append => exact ⟨F.plainAttrs_list, F.slot_list_append, F.type_list_append⟩
  | insert => exact ⟨F.plainAttrs_list, F.slot_list_insert, F.type_list_insert⟩
  | pop => exact ⟨F.plainAttrs_list, F.slot_list_pop, F.type_list_pop⟩
  | remove => exact ⟨F.plainAttrs_list, F.slot_list_remove, F.type_list_remove⟩
theorem attributeBase_plain {o : Expr} {name : Str} {env : Env} (h : plainBase o = true) : attributeBase o name env (eval o env) = eval o env := by
  cases o <;> first | rfl | exact nf h

theorem sd_meth {o : Expr} {args : List Expr} {apos pos : Pos} {a : Ex} {ms : Exs} (m : Mt) (hb : plainBase o = true) (hline : (apos.endLine == pos.line) = true) (hlen : args.length < 20) (h1 : Sd c S o a) (h2 : SdL c S args ms) :
    Sd c S (.Call (.Attribute o m.name apos) args [] pos) (.meth m a ms) :=
  Sd.of_val (fun _ _ => rfl) fun A env ρ H μ s p q Q E e k => obK e fun x ex e => obK e fun vs ea e => by
    obtain ⟨p1, p2⟩ := sdl_plain h2 pos env
    refine wpAny_Call_method_late (attributeBase_plain hb) (by simp [p2, backToKw, keywordEach]; (first | lia | omega)) hline rfl (h1.val p ex fun r => ?_)
    have p' := p.after r
    obtain ⟨f1, f2, f3⟩ := mt_facts m
    obtain ⟨i, hi, _⟩ := ob e
    obtain ⟨b, hv, hi⟩ := (vr_list hi r.vr).list_inv
    obtain ⟨ws, j, hc⟩ := r.lh.mem (List.mem_of_getElem? hi)
    refine ⟨"list", m.id, f1, f2, f3, hv ▸ ⟨_, hc, rfl⟩, fun b' hb' => ?_, ?_⟩
    · rw [hv] at hb'
      cases hb'
      exact ⟨_, hc, rfl⟩
    · exact Calls.callWith_builtin p1 (evalArgs_all p1 rfl (sdl_wp h2 p' ea fun r' => evalAll_nil (meth_ok e (r'.xt.vr r.vr) r'.vr r'.lh (k.step (r.xt.trans r'.xt)))))
end


/-! targets -/
section
variable {fa : Nat → Option Addr} {FA : List Addr} {μ : List Addr} {h h' h'' : Heap} {H : HP}
theorem Xt.any (x : Xt FA [] h [] h') (hz : ∀ a, μ[0]? = some a → a ∉ FA) : Xt FA μ h μ h' := ⟨List.prefix_refl _, fun _ a b => absurd a b, x.live, fun b o e _ h2 => x.keep b o e (List.not_mem_nil) h2, x.kv, fun a o e1 e2 => x.keep a o e2 (List.not_mem_nil) (hz a e1)⟩
theorem Xt.vr0 (x : Xt FA [] h [] h') {v : Value} {l : V} (r : VR fa μ h v l) : VR fa μ h' v l := r.mono (List.prefix_refl _) x.kv
theorem Xt.vrs0 (x : Xt FA [] h [] h') {v : List Value} {l : List V} (r : VRs fa μ h v l) : VRs fa μ h' v l := r.mono (List.prefix_refl _) x.kv
theorem Xt.sameBut {a : Addr} {o o' : Obj} (hs : Heap.SameBut a h h') (ha : a ∈ FA) (ho : h.get? a = some o) (hv : ¬ isV o) (ho' : h'.get? a = some o') : Xt FA [] h [] h' where
  pre := List.prefix_refl _
  new := fun _ a b => absurd a b
  live := fun b x e => by
    by_cases hb : b = a
    · subst hb; exact ⟨_, ho'⟩
    · exact ⟨x, (hs.2 b hb).trans e⟩
  keep := fun b x e _ h2 => (hs.2 b (fun hb => h2 (hb ▸ ha))).trans e
  kv := fun b x e hV => by
    by_cases hb : b = a
    · subst hb; rw [ho] at e; cases e; exact absurd hV hv
    · exact (hs.2 b hb).trans e
  zero := fun _ _ e => by simp at e
theorem not_isV_dict {o : Obj} {es : Array DictEntry} {ep : Nat} (hd : o.data = .dict es ep) : ¬ isV o := by
  rintro (⟨_, xs, n, e⟩ | ⟨_, fs, e⟩) <;> · rw [hd] at e; cases e
theorem not_isV_cell {o : Obj} {v : Option Value} (hd : o.data = .cell v) : ¬ isV o := by
  rintro (⟨_, xs, n, e⟩ | ⟨_, fs, e⟩) <;> · rw [hd] at e; cases e
end

structure Frm (M : Model) (A : Around) (env : Env) (FA : List Addr) (ts : List Str) (T : Heap → (Str → Option Value) → Prop) : Prop where
  store : ∀ x ∈ ts, ∀ (s : Shared) (v : Value) (f : Str → Option Value) (Q : Unit → Shared → Prop) (E : Value → Shared → Prop), T s.heap f →
    (∀ h' tk, T h' (fun y => if y = x then some v else f y) → Xt FA [] s.heap [] h' → Q () (stOf s h' tk)) → wpAny M A (storeName env x v) Q E s
  ext : ∀ h h' f, T h f → (∀ b o, h.get? b = some o → h'.get? b = some o) → T h' f

noncomputable def Upd (f : Str → Option Value) : List (Str × Value) → (Str → Option Value)
  | [] => f
  | p :: l => Upd (fun y => if y = p.1 then some p.2 else f y) l

section
variable {M : Model} {prog : Program} {w : World} {A : Around} {env : Env} {FA : List Addr} {ts : List Str} {T : Heap → (Str → Option Value) → Prop} {fa : Nat → Option Addr} {μ : List Addr} {H : HP}

theorem namesIn_cons {e : Expr} {es : List Expr} {xs : List Str} (h : namesIn (e :: es) = some xs) : ∃ x p ys, e = .Name x p ∧ namesIn es = some ys ∧ xs = x :: ys :=
  obK h fun x h1 h => omK h fun ys h2 h => let ⟨p, hp⟩ := nameOf_inv h1; ⟨x, p, ys, hp, h2, h.symm⟩
theorem namesIn_len : ∀ (es : List Expr) {xs : List Str}, namesIn es = some xs → (assignEach es env).length = xs.length ∧ (assignEach es env).findIdx? (·.1) = none := by
  intro es
  induction es with
  | nil => intro xs h; cases Option.some.inj h; exact ⟨rfl, rfl⟩
  | cons e es ih =>
    intro xs h
    obtain ⟨x, p, ys, rfl, h2, rfl⟩ := namesIn_cons h
    obtain ⟨g1, g2⟩ := ih h2
    refine ⟨congrArg (· + 1) g1, ?_⟩
    show List.findIdx? (·.1) ((false, assign (.Name x p) env) :: assignEach es env) = none
    rw [List.findIdx?_cons]
    simp [g2]

theorem names_wp (F : Frm M A env FA ts T) : ∀ (es : List Expr) {xs : List Str} {us : List Value} {s : Shared} {f : Str → Option Value} {Q : Unit → Shared → Prop} {E : Value → Shared → Prop}, namesIn es = some xs → (∀ x ∈ xs, x ∈ ts) → us.length = xs.length → T s.heap f →
    (∀ h' tk, T h' (Upd f (xs.zip us)) → Xt FA [] s.heap [] h' → Q () (stOf s h' tk)) → wpAny M A (assignInOrder ((assignEach es env).map (·.2)) us) Q E s := by
  intro es
  induction es with
  | nil =>
    intro xs us s f Q E h _ hl hT k
    cases Option.some.inj h
    rw [List.eq_nil_of_length_eq_zero hl] at k ⊢
    exact wpAny_pure (k s.heap s.toks hT .refl)
  | cons e es ih =>
    intro xs us s f Q E h hsub hl hT k
    obtain ⟨x, p, ys, rfl, h2, rfl⟩ := namesIn_cons h
    cases us with
    | nil => exact nomatch hl
    | cons u us =>
      show wpAny M A (do holding (u :: us |>.tail) (assign (.Name x p) env u); assignInOrder ((assignEach es env).map (·.2)) us) Q E s
      exact wpAny_bind (wpAny_holding (wpAny_assign_Name (F.store x (hsub x (List.mem_cons_self ..)) s u f _ E hT fun h' tk hT' xt =>
        ih (s := stOf s h' tk) h2 (fun y hy => hsub y (List.mem_cons_of_mem _ hy)) (Nat.succ.inj hl) hT' fun h'' tk' hT'' xt' => k h'' tk' hT'' (xt.trans xt'))))

set_option genInjectivity false in
/-- what a target's assigning leaves -/
structure ResT (fa : Nat → Option Addr) (μ : List Addr) (FA : List Addr) (ts : List Str) (T : Heap → (Str → Option Value) → Prop) (f : Str → Option Value) (s : Shared) (ps : List V) where
  us : List Value
  h : Heap
  tk : Tok
  vr : VRs fa μ h us ps
  len : us.length = ts.length
  t : T h (Upd f (ts.zip us))
  xt : Xt FA [] s.heap [] h
@[reducible] noncomputable def ResT.st {fa : Nat → Option Addr} {μ : List Addr} {FA : List Addr} {ts : List Str} {T : Heap → (Str → Option Value) → Prop} {f : Str → Option Value} {s : Shared} {ps : List V} (r : ResT fa μ FA ts T f s ps) : Shared := stOf s r.h r.tk

theorem tuple_wp (F : Frm (model prog w) A env FA ts T) (hA : A.handled = none) {es : List Expr} {j : Nat} {p : Pos} {x : V} {v : Value} {ps xs : List V} {s : Shared} {f : Str → Option Value} {Q : Unit → Shared → Prop} {E : Value → Shared → Prop} (hn : namesIn es = some ts) (hp : partsOf x H = some xs) (hl : xs.length = ts.length)
    (r : VR fa μ s.heap v x) (l : LH fa μ H s.heap) (hT : T s.heap f) (k : ∀ r : ResT fa μ FA ts T f s xs, Q () r.st) : wpAny (model prog w) A (assign (.Tuple es j p) env v) Q E s := by
  obtain ⟨g1, g2⟩ := namesIn_len (env := env) es hn
  have fin : ∀ (us : List Value) (h' : Heap), VRs fa μ s.heap us xs → Heap.ExtBut s.heap.objs.size s.heap h' → wpAny (model prog w) A (assignInOrder ((assignEach es env).map (·.2)) us) Q E { s with heap := h' } := fun us h' hv he => by
    have hk : ∀ b o, s.heap.get? b = some o → h'.get? b = some o := fun b o e => he b o (Nat.ne_of_lt (Heap.lt_size e)) e
    exact names_wp F es (s := { s with heap := h' }) hn (fun _ h => h) (hv.length.trans hl) (F.ext _ _ _ hT hk) fun h'' tk hT' xt =>
      have x2 : Xt FA [] s.heap [] h'' := (Xt.ext hk).trans xt
      k ⟨us, h'', tk, x2.vrs0 hv, hv.length.trans hl, hT', x2⟩
  cases x with
  | tup ys =>
    cases Option.some.inj hp
    refine r.tupK fun a vs j ha hvs => wpAny_assign_Tuple hA ⟨_, ha, rfl, j, rfl⟩ (by rw [g1, List.size_toArray, hvs.length, hl]) g2 fun h' he => fin vs h' hvs he
  | list i =>
    refine l.getK r hp fun a vs j _ ha hvs => ?_
    rw [arm_assign_Tuple]
    refine wpAny_bind (wpAny_standAt ?_)
    unfold unpack
    rw [g2, show (assignEach es env).length = vs.toArray.size by rw [g1, List.size_toArray, hvs.length, hl]]
    exact wpAny_bind (wpAny_holding (kun_itemsOf hA (isList_of ha) fun h' he => fin vs h' hvs he))
  | _ => exact no hp

theorem target_wp (F : Frm (model prog w) A env FA ts T) (hA : A.handled = none) {t : Expr} {tp : Bool} {x : V} {v : Value} {ps : List V} {s : Shared} {f : Str → Option Value} {Q : Unit → Shared → Prop} {E : Value → Shared → Prop} (ht : targetsOf t = some (ts, tp)) (hp : parts tp ts.length x H = some ps)
    (r : VR fa μ s.heap v x) (l : LH fa μ H s.heap) (hT : T s.heap f) (k : ∀ r : ResT fa μ FA ts T f s ps, Q () r.st) :
    wpAny (model prog w) A (assign t env v) Q E s := by
  have hv := view_of t
  unfold targetsOf at ht
  cases hw : view t with
  | name y =>
    rw [hw] at ht hv
    obtain ⟨p, rfl⟩ := hv
    cases Option.some.inj ht
    cases Option.some.inj (show some [x] = some ps from hp)
    exact wpAny_assign_Name (F.store y (List.mem_cons_self ..) s v f _ E hT fun h' tk hT' xt => k ⟨[v], h', tk, .cons (xt.vr0 r) .nil, rfl, hT', xt⟩)
  | tup es =>
    rw [hw] at ht hv
    obtain ⟨j, p, rfl⟩ := hv
    refine omK ht fun xs hn e => ?_
    cases e
    exact obK (show ((partsOf x H).bind fun xs => if xs.length = ts.length then some xs else none) = some ps from hp) fun ys hy e => oiK e fun hl e => by
      cases Option.some.inj e
      exact tuple_wp (ps := ps) F hA hn hy hl r l hT k
  | _ => rw [hw] at ht; exact no ht

/-! iterators -/
noncomputable def Kx (F : List Addr) (h h' : Heap) : Prop := ∀ b o, b ∉ F → h.get? b = some o → h'.get? b = some o
noncomputable def itTypes : List String := ["list_iterator", "range_iterator", "bytes_iterator"]
structure ItLive (I : Addr) (h : Heap) : Prop where
  ex : ∃ o c fs, h.get? I = some o ∧ o.cls = .type c ∧ o.data = .fields fs ∧ c ∈ itTypes
/-- an iterator -/
structure It (prog : Program) (w : World) (A : Around) (fa : Nat → Option Addr) (I : Addr) (src : Src) (μ₀ : List Addr) (T : Nat → Heap → Prop) : Prop where
  frame : ∀ i h h', T i h → (∀ o, h.get? I = some o → h'.get? I = some o) → T i h'
  live : ∀ i h, T i h → ItLive I h
  item : ∀ i (s : Shared) (μ : List Addr) (H : HP) (xs : List V) (x : V) (Q : Option Value → Shared → Prop) (E : Value → Shared → Prop), T i s.heap → LH fa μ H s.heap → μ₀ <+: μ → src.items H = some xs → xs[i]? = some x →
    (∀ v h' tk, VR fa μ h' v x → T (i + 1) h' → Kx [I] s.heap h' → Q (some v) (stOf s h' tk)) → wpAny (model prog w) A (pyNext (.ref I)) Q E s
  done : ∀ i (s : Shared) (μ : List Addr) (H : HP) (xs : List V) (Q : Option Value → Shared → Prop) (E : Value → Shared → Prop), T i s.heap → LH fa μ H s.heap → μ₀ <+: μ → src.items H = some xs → xs[i]? = none → (∀ vs, src = .fixed vs → i ≤ vs.length) →
    (∀ h' tk, Kx [I] s.heap h' → Q none (stOf s h' tk)) → wpAny (model prog w) A (pyNext (.ref I)) Q E s
  self : ∀ i (s : Shared) (Q : Value → Shared → Prop) (E : Value → Shared → Prop), T i s.heap → Q (.ref I) s → wpAny (model prog w) A (pyIter (.ref I)) Q E s

theorem ItLive.nv {I : Addr} {h : Heap} (x : ItLive I h) : ∀ o, h.get? I = some o → ¬ isV o := by
  obtain ⟨o', c, fs, q1, q2, q3, q4⟩ := x
  intro o e
  cases Option.some.inj (q1.symm.trans e)
  rintro (⟨e1, _⟩ | ⟨e1, _⟩) <;> · rw [q2] at e1; cases e1; exact absurd q4 (by decide)
theorem ItLive.mem {I : Addr} {h : Heap} (x : ItLive I h) (l : LH fa μ H h) : I ∉ μ := by
  obtain ⟨o', c, fs, q1, q2, q3, q4⟩ := x
  exact l.not_mem_of q1 fun vs n e => by rw [e] at q3; cases q3

theorem it_list (hA : A.handled = none) {I a : Addr} {id : Nat} {μ₀ : List Addr} (ha : μ₀[id]? = some a) : It prog w A fa I (.lst id) μ₀ (fun i h => h.IsListIter I a i) where
  frame := fun i h h' t k => t.at k
  live := fun i h t => let ⟨o, h1, h2, h3⟩ := t; ⟨o, _, _, h1, h2, h3, by decide⟩
  item := fun i s μ H xs x Q E t l hp hi hx k => by
    obtain ⟨vs, n, h1, h2⟩ := l.at' id a xs (prefix_get hp ha) hi
    obtain ⟨v, g1, g2⟩ := h2.get hx
    obtain ⟨oI, hI, hc, hd⟩ := (show s.heap.IsListIter I a i from t)
    refine wpAny_pyNext_list_item t (isList_of h1) (x := v) (by simpa using g1) fun h' ht hs => ?_
    have keep : ∀ b o, b ≠ I → s.heap.get? b = some o → h'.get? b = some o := fun b o hb e => (hs.2 b hb).trans e
    exact k v h' s.toks (g2.mono (List.prefix_refl _) fun b o e hV => keep b o (fun hb => ItLive.nv ⟨_, _, _, hI, hc, hd, by decide⟩ o (hb ▸ e) hV) e) ht fun b o hb e => keep b o (fun h => hb (h ▸ List.mem_cons_self ..)) e
  done := fun i s μ H xs Q E t l hp hi hx _ k => by
    obtain ⟨vs, n, h1, h2⟩ := l.at' id a xs (prefix_get hp ha) hi
    have hn : vs.toArray[i]? = none := by
      rw [List.getElem?_toArray, List.getElem?_eq_none_iff, h2.length]
      exact List.getElem?_eq_none_iff.mp hx
    exact wpAny_pyNext_list_end hA t (isList_of h1) hn fun h' hs => k h' s.toks fun b o hb e => hs b o (fun h => hb (h ▸ List.mem_cons_self ..)) e
  self := fun i s Q E t k => wpAny_pyIter_listiter t k

theorem it_walks {I : Addr} {vs : List V} {μ₀ : List Addr} {P : Nat → Value → Prop} {T : Nat → Heap → Prop} {n : Nat} (W : Walks prog w A I [I] [I] n P T) (hn : n = vs.length) (hP : ∀ i v x, P i v → vs[i]? = some x → ∀ μ h, VR fa μ h v x)
    (live : ∀ i h, T i h → ItLive I h) : It prog w A fa I (.fixed vs) μ₀ T where
  frame := fun i h h' t k => W.frame i h h' t fun b hb o e => by
    rw [List.mem_singleton.mp hb] at e ⊢; exact k o e
  live := live
  item := fun i s μ H xs x Q E t l hp hi hx k => by
    cases Option.some.inj hi
    exact W.item i s Q E (by rw [hn]; exact lt_of_get hx) t fun v h' tk hv ht hk => k v h' tk (hP i v x hv hx _ _) ht hk
  done := fun i s μ H xs Q E t l hp hi hx hle k => by
    cases Option.some.inj hi
    have e : i = n := hn ▸ Nat.le_antisymm (hle _ rfl) (List.getElem?_eq_none_iff.mp hx)
    subst e
    exact W.done s Q E t fun h' tk hk => k h' tk hk
  self := fun i s Q E t k => W.self i s Q E t k

set_option genInjectivity false in
/-- what starting an iterator leaves -/
structure ResI (prog : Program) (w : World) (A : Around) (fa : Nat → Option Addr) (μ : List Addr) (H : HP) (s : Shared) (src : Src) where
  I : Addr
  h : Heap
  tk : Tok
  T : Nat → Heap → Prop
  it : It prog w A fa I src μ T
  t0 : T 0 h
  keep : ∀ b o, s.heap.get? b = some o → h.get? b = some o
  new : s.heap.get? I = none
  items : ∃ xs, src.items H = some xs ∧ xs.length ≤ 1048576
@[reducible] noncomputable def ResI.st {prog : Program} {w : World} {A : Around} {fa : Nat → Option Addr} {μ : List Addr} {H : HP} {s : Shared} {src : Src} (r : ResI prog w A fa μ H s src) : Shared := stOf s r.h r.tk
theorem src_wp (hA : A.handled = none) {x : V} {v : Value} {src : Src} {s : Shared} {Q E : Value → Shared → Prop} (e : srcOf x H = some src) (r : VR fa μ s.heap v x) (l : LH fa μ H s.heap)
    (k : ∀ r : ResI prog w A fa μ H s src, Q (.ref r.I) r.st) : wpAny (model prog w) A (pyIter v) Q E s := by
  cases x with
  | list i =>
    refine obK e fun xs hx e => oiK e fun hc e => ?_
    cases Option.some.inj e
    exact l.getK r hx fun a vs n hi ha hvs => wpAny_pyIter_list (isList_of ha) (k ⟨s.heap.objs.size, _, s.toks, _, it_list hA hi, ⟨_, Heap.get?_push_size _ rfl, rfl, rfl⟩, push_keeps _ _, get_size _, xs, hx, lenOk_le hc⟩)
  | range a b d =>
    refine omK e fun xs hx e => ?_
    cases e
    obtain ⟨a', b', d', ⟨⟩, rfl, h1, h2, h3, h4, h5⟩ := rangeV_inv hx
    refine r.rangeK fun p t u u' hr => wpAny_pyIter_range hr (small_range h2 h3 h4) ?_
    have hlen : (rangeL a b d).length = (Builtin.Range.rangeSize a b d).toNat := by simp [rangeL, rangeInts_length]
    refine k ⟨s.heap.objs.size, _, s.toks, _, it_walks (Walks.range hA s.heap.objs.size a d (Builtin.Range.rangeSize a b d).toNat) hlen.symm (fun i v x hv hx μ h => ?_) fun i h t => ⟨_, _, _, t, rfl, rfl, by decide⟩, ?_, push_keeps _ _, get_size _, _, rfl, lenOk_le h1⟩
    · obtain ⟨t, rfl⟩ := hv
      have hi : i < (Builtin.Range.rangeSize a b d).toNat := by rw [← hlen]; exact lt_of_get hx
      simp only [rangeL, List.getElem?_map, rangeInts_get hi, Option.map_some] at hx
      cases hx
      exact .int _ _
    · have e1 : Builtin.Range.rangeSize a b d = ((Builtin.Range.rangeSize a b d).toNat : Int) := rangeSize_toNat a b d
      have : IsRangeIter (s.heap.push { cls := .type "range_iterator", data := .fields #[rawInt a, rawInt (Builtin.Range.rangeSize a b d), rawInt d] }) s.heap.objs.size a (Builtin.Range.rangeSize a b d) d := Heap.get?_push_size _ rfl
      have e2 : ((Builtin.Range.rangeSize a b d).toNat : Int) - ((0 : Nat) : Int) = Builtin.Range.rangeSize a b d := by (first | lia | omega)
      have e3 : a + ((0 : Nat) : Int) * d = a := by simp
      show IsRangeIter _ _ (a + ((0 : Nat) : Int) * d) (((Builtin.Range.rangeSize a b d).toNat : Int) - ((0 : Nat) : Int)) d
      rw [e2, e3]; exact this
  | bytes b =>
    refine oiK e fun hc e => ?_
    cases Option.some.inj e
    refine r.bytesK fun t => KBw.pyIter_bytes ?_
    refine k ⟨s.heap.objs.size, _, s.toks, _, it_walks (KBw.walks hA s.heap.objs.size b.toArray t) (by simp) (fun i v x hv hx μ h => ?_) fun i h t => ?_, ⟨_, Heap.get?_push_size _ rfl, rfl, rfl⟩, push_keeps _ _, get_size _, _, rfl, by simpa using lenOk_le hc⟩
    · obtain ⟨d, u, h1, rfl⟩ := hv
      have h1' : b[i]? = some d := by simpa using h1
      simp only [List.getElem?_map, h1', Option.map_some] at hx
      cases hx
      exact .int _ _
    · obtain ⟨o, h1, h2, h3⟩ := t
      exact ⟨o, _, _, h1, h2, h3, by decide⟩
  | _ => exact no e

theorem letOwned_wp {I : Addr} {t : Expr} {v : Value} {s : Shared} {Q : Unit → Shared → Prop} {E : Value → Shared → Prop} (live : ItLive I s.heap) (k : Q () s) :
    wpAny M A (letOwnedTupleGo t (.ref I) v) Q E s := by
  obtain ⟨⟨cl, d, da, sl⟩, c, fs, h1, h2, h3, h4⟩ := live
  simp only at h2 h3
  subst h2; subst h3
  have main : ∀ a, v = .ref a → wpAny M A (do
      let o ← load I
      match o.cls, o.data with
      | .type n, .fields vs =>
        if ["enumerate", "zip", "dict_itemiterator", "dict_reverseitemiterator", "odict_iterator", "itertools.zip_longest", "itertools.pairwise"].contains n && vs[0]? == some (rawInt a) then
          rule "for.unpacks-the-owned-tuple"
          updateField I 0 .none
      | _, _ => pure ()) Q E s := by
    intro a _
    refine wpAny_bind (wpAny_load h1 ?_)
    have : (["enumerate", "zip", "dict_itemiterator", "dict_reverseitemiterator", "odict_iterator", "itertools.zip_longest", "itertools.pairwise"].contains c) = false := by
      simp [itTypes] at h4
      rcases h4 with rfl | rfl | rfl <;> decide
    simp only [this, Bool.false_and, Bool.false_eq_true, if_false]
    exact wpAny_pure k
  cases t with
  | Tuple es x p =>
    cases v with
    | ref a => exact main a rfl
    | _ => exact wpAny_pure k
  | List es p =>
    cases v with
    | ref a => exact main a rfl
    | _ => exact wpAny_pure k
  | _ => exact wpAny_pure k
end


noncomputable def notSet (e : Expr) : Bool := !isC 7 e
theorem folded_of {e : Expr} (h : notSet e = true) (env : Env) (x : Value) : foldedSetIterable e env x = pure x := by
  cases e <;> first | rfl | exact nf h

theorem closure_go {env : Env} : ∀ (names : List (Str × NameKind)) (cs : List (Str × Addr)), (∀ x ∈ names, x.2 = .free → ∃ c, env.cells.lookup x.1 = some c) →
    ∃ cl, (forIn names cs (fun p r => if p.2 == .free then (do let a ← cellOf env p.1; pure (ForInStep.yield ((p.1, a) :: r))) else pure (ForInStep.yield r)) : Sem (List (Str × Addr))) = pure cl ∧
      ∀ x, ((x, NameKind.free) ∈ names → cl.lookup x = env.cells.lookup x) ∧ ((x, NameKind.free) ∉ names → cl.lookup x = cs.lookup x)
  | [], cs, _ => ⟨cs, by simp, fun x => ⟨fun h => by simp at h, fun _ => rfl⟩⟩
  | (y, k) :: names, cs, h => by
    by_cases hk : k = .free
    · subst hk
      obtain ⟨c, hc⟩ := h (y, .free) (List.mem_cons_self ..) rfl
      obtain ⟨cl, h1, h2⟩ := closure_go names ((y, c) :: cs) fun x hx => h x (List.mem_cons_of_mem _ hx)
      refine ⟨cl, ?_, fun x => ⟨fun hx => ?_, fun hx => ?_⟩⟩
      · rw [List.forIn_cons]
        simp only [cellOf, hc, beq_self_eq_true, if_true, pure_bind]
        exact h1
      · by_cases hm : (x, NameKind.free) ∈ names
        · exact (h2 x).1 hm
        · rw [(h2 x).2 hm]
          rcases List.mem_cons.mp hx with e | e
          · cases e
            simp [hc]
          · exact absurd e hm
      · have hm : (x, NameKind.free) ∉ names := fun e => hx (List.mem_cons_of_mem _ e)
        rw [(h2 x).2 hm]
        have hxy : (x == y) = false := by
          cases e : x == y with
          | false => rfl
          | true => exact absurd (by rw [eq_of_beq e]; exact List.mem_cons_self ..) hx
        simp [List.lookup_cons, hxy]
    · obtain ⟨cl, h1, h2⟩ := closure_go names cs fun x hx => h x (List.mem_cons_of_mem _ hx)
      have hkb : (k == NameKind.free) = false := by simpa using hk
      refine ⟨cl, ?_, fun x => ⟨fun hx => ?_, fun hx => (h2 x).2 fun e => hx (List.mem_cons_of_mem _ e)⟩⟩
      · rw [List.forIn_cons]
        simp only [hkb, Bool.false_eq_true, if_false, pure_bind]
        exact h1
      · rcases List.mem_cons.mp hx with e | e
        · cases e; exact absurd rfl hk
        · exact (h2 x).1 e

theorem closure_of {scope : Scope} {env : Env} (h : ∀ x ∈ scope.names, x.2 = .free → ∃ c, env.cells.lookup x.1 = some c) :
    ∃ cl, closureFor scope env = pure cl ∧ ∀ x, (x, NameKind.free) ∈ scope.names → cl.lookup x = env.cells.lookup x := by
  obtain ⟨cl, h1, h2⟩ := closure_go scope.names [] h
  refine ⟨cl, ?_, fun x => (h2 x).1⟩
  simp only [closureFor]
  have : (forIn scope.names [] (fun p r => if p.2 == .free then (do let a ← cellOf env p.1; pure (ForInStep.yield ((p.1, a) :: r))) else pure (ForInStep.yield r)) : Sem (List (Str × Addr))) >>= pure = pure cl := by
    rw [h1]; rfl
  exact this

theorem mem_of_lookup {α : Type} : ∀ {l : List (Str × α)} {x : Str} {a : α}, l.lookup x = some a → (x, a) ∈ l := by
  intro l
  induction l with
  | nil => intro x a h; exact no h
  | cons p l ih =>
    intro x a h
    cases e : x == p.1 with
    | true =>
      rw [show (p :: l).lookup x = some p.2 from by rw [List.lookup_cons, e]] at h
      rw [← Option.some.inj h, eq_of_beq e]
      exact List.mem_cons_self ..
    | false =>
      rw [show (p :: l).lookup x = l.lookup x from by rw [List.lookup_cons, e]] at h
      exact List.mem_cons_of_mem _ (ih h)

theorem lookup_relabel {env : Env} (names : List (Str × NameKind)) {x : Str} (h : ∀ y ∈ names, y.2 = .free → env.kindOf y.1 = some .cell) (hf : env.scope.kind = .function) :
    (names.map fun (n, k) => if (k == NameKind.free && env.scope.kind == .function && env.kindOf n == some .cell) then (n, NameKind.cell) else (n, k)).lookup x = (names.lookup x).map kFree := by
  induction names with
  | nil => rfl
  | cons p r ih =>
    obtain ⟨n, k⟩ := p
    have ih := ih fun y hy => h y (List.mem_cons_of_mem _ hy)
    have e1 : (if (k == NameKind.free && env.scope.kind == .function && env.kindOf n == some .cell) then (n, NameKind.cell) else (n, k)) = (n, kFree k) := by
      by_cases hk : k = .free
      · have h0 : env.kindOf n = some .cell := h (n, k) (List.mem_cons_self ..) hk
        rw [hk, hf, h0]; rfl
      · rw [show (k == NameKind.free) = false from beq_false_of_ne hk]
        cases k <;> first | rfl | exact absurd rfl hk
    rw [List.map_cons]
    refine (congrArg (fun p => List.lookup x (p :: _)) e1).trans ?_
    rw [List.lookup_cons, List.lookup_cons, ih]
    cases x == n <;> rfl

structure ScOk (S : Sc) (sc : Scope) (ts : List Str) : Prop where
  kind : sc.kind = .function
  cell : ∀ y ∈ sc.names, y.2 ≠ .cell
  loc : ∀ y ∈ sc.names, y.2 = .local → sc.names.lookup y.1 = some .local
  free : ∀ y ∈ sc.names, y.2 = .free → S.kind y.1 = some .cell
  tsl : ∀ x ∈ ts, sc.names.lookup x = some .local
  nd : ts.Nodup
theorem scOk_of {S : Sc} {sc : Scope} {ts : List Str} (h : scopeOk S sc ts = true) : ScOk S sc ts := by
  unfold scopeOk at h
  simp only [Bool.and_eq_true, List.all_eq_true, beq_iff_eq, bne_iff_ne, Bool.or_eq_true, decide_eq_true_eq] at h
  obtain ⟨⟨⟨h1, h2⟩, h3⟩, h4⟩ := h
  exact ⟨by simpa using h1, fun y hy => (h2 y hy).1.1, fun y hy e => ((h2 y hy).1.2).resolve_left (fun n => n e), fun y hy e => ((h2 y hy).2).resolve_left (fun n => n e), h3, h4⟩

section
variable {S : Sc} {sc : Scope} {ts : List Str} {env : Env} {cl : List (Str × Addr)} {C : Addr} {fa : Nat → Option Addr} {ρ : Rho} {μ : List Addr} {h : Heap}

theorem inner_kind (hE : EnvOk S env) (hS : ScOk S sc ts) (x : Str) : (compEnvC sc cl C env).kindOf x = (inner S sc ts).kind x :=
  lookup_relabel sc.names (fun y hy e => (hE.kind y.1).trans (hS.free y hy e)) hE.fn
theorem inner_cell {x : Str} (hE : EnvOk S env) (hS : ScOk S sc ts) (h : (compEnvC sc cl C env).kindOf x = some .cell) : sc.names.lookup x = some .free := by
  rw [inner_kind hE hS] at h
  refine omK h fun k h1 h => ?_
  cases k with
  | free => exact h1
  | cell => exact absurd rfl (hS.cell (x, .cell) (mem_of_lookup h1))
  | _ => exact nomatch h
theorem inner_slot {x : Str} {i : Nat} (h : (inner S sc ts).slot x = some i) : (sc.names.lookup x = some .local ∧ x ∈ ts ∧ i = S.n + ts.idxOf x) ∨ (sc.names.lookup x = some .free ∧ S.slot x = some i) := by
  refine obK h fun k h1 h => ?_
  by_cases hk : k = .local
  · subst hk
    obtain ⟨g1, g2⟩ := og (show grd (ts.contains x) (some (S.n + ts.idxOf x)) = some i from h)
    exact Or.inl ⟨h1, List.contains_iff_mem.mp g1, (Option.some.inj g2).symm⟩
  · rw [show (k == NameKind.local) = false from beq_false_of_ne hk] at h
    obtain ⟨g1, g2⟩ := og (show grd (k == .free) (S.slot x) = some i from h)
    exact Or.inr ⟨h1.trans (congrArg some (eq_of_beq g1)), g2⟩
theorem inner_ok (hE : EnvOk S env) (hS : ScOk S sc ts) (hcl : ∀ x, (x, NameKind.free) ∈ sc.names → cl.lookup x = env.cells.lookup x) : EnvOk (inner S sc ts) (compEnvC sc cl C env) where
  fn := hS.kind
  gl := hE.gl
  bi := hE.bi
  kind := inner_kind hE hS
  cell := fun x hx => by
    have h1 := inner_cell hE hS hx
    obtain ⟨c, hc⟩ := hE.cell x ((hE.kind x).trans (hS.free _ (mem_of_lookup h1) rfl))
    exact ⟨c, (hcl x (mem_of_lookup h1)).trans hc⟩
  sl := fun x i hx => by
    simp only [inner]
    rcases inner_slot hx with ⟨hl, hm, rfl⟩ | ⟨hl, h⟩
    · exact ⟨Nat.add_lt_add_left (List.idxOf_lt_length_of_mem hm) _, Or.inl (by rw [hl]; rfl)⟩
    · exact ⟨Nat.lt_of_lt_of_le (hE.sl x i h).1 (Nat.le_add_right _ _), Or.inr (by rw [hl]; rfl)⟩

theorem upd_other (ts : List Str) : ∀ (us : List Value) (f : Str → Option Value) {x : Str}, x ∉ ts → Upd f (ts.zip us) x = f x := by
  induction ts with
  | nil => intro us f x _; rfl
  | cons t ts ih =>
    intro us f x hm
    cases us with
    | nil => rfl
    | cons u us => exact (ih us _ fun h => hm (List.mem_cons_of_mem _ h)).trans (if_neg fun (e : _ = t) => hm (by rw [e]; exact List.mem_cons_self ..))
theorem upd_get (ts : List Str) : ∀ {us : List Value} {f : Str → Option Value} {x : Str}, ts.Nodup → us.length = ts.length → x ∈ ts → Upd f (ts.zip us) x = us[ts.idxOf x]? := by
  induction ts with
  | nil => intro us f x _ _ h; exact (List.not_mem_nil h).elim
  | cons t ts ih =>
    intro us f x hn hl hx
    obtain ⟨n1, n2⟩ := List.nodup_cons.mp hn
    cases us with
    | nil => exact nomatch hl
    | cons u us =>
      by_cases e : x = t
      · subst e
        rw [List.idxOf_cons_self]
        exact (upd_other ts us _ n1).trans (if_pos rfl)
      · have hb : (t == x) = false := beq_false_of_ne (Ne.symm e)
        rw [List.idxOf_cons, hb]
        exact ih n2 (Nat.succ.inj hl) ((List.mem_cons.mp hx).resolve_left e)

theorem inner_vars {us : List Value} {ps : List V} {f : Str → Option Value} (hE : EnvOk S env) (hS : ScOk S sc ts) (hcl : ∀ x, (x, NameKind.free) ∈ sc.names → cl.lookup x = env.cells.lookup x) (hV : VarsOk fa S env ρ μ h)
    (hC : h.Ns C (Upd f (ts.zip us))) (hl : us.length = ts.length) (r : VRs fa μ h us ps) : VarsOk fa (inner S sc ts) (compEnvC sc cl C env) (ρ ++ ps.map some) μ h := by
  refine ⟨by rw [List.length_append, List.length_map, hV.1, ← r.length, hl]; rfl, fun x i v hs hv => ?_⟩
  have hk : (compEnvC sc cl C env).kindOf x = (sc.names.lookup x).map kFree := inner_kind (cl := cl) (C := C) hE hS x
  rcases inner_slot hs with ⟨hlk, hm, rfl⟩ | ⟨hlk, hs⟩
  · rw [List.getElem?_append_right (by rw [hV.1]; exact Nat.le_add_right _ _), hV.1, Nat.add_sub_cancel_left, List.getElem?_map] at hv
    refine omK hv fun q hp e => ?_
    rw [← Option.some.inj e]
    obtain ⟨u, g1, g2⟩ := r.get hp
    exact ⟨u, Or.inl ⟨by rw [hk, hlk]; rfl, _, hC, (upd_get ts hS.nd hl hm).trans g1⟩, g2⟩
  · obtain ⟨hi, _⟩ := hE.sl x i hs
    rw [List.getElem?_append_left (by rw [hV.1]; exact hi)] at hv
    obtain ⟨u, g1, g2⟩ := hV.2 x i v hs hv
    have hmem := mem_of_lookup hlk
    have hc : env.kindOf x = some .cell := (hE.kind x).trans (hS.free _ hmem rfl)
    rcases g1 with ⟨e, _⟩ | ⟨_, c, g3, g4⟩
    · exact nomatch hc.symm.trans e
    · exact ⟨u, Or.inr ⟨by rw [hk, hlk]; rfl, c, (hcl x hmem).trans g3, g4⟩, g2⟩
end


noncomputable def NoV (F : List Addr) (h : Heap) : Prop := ∀ a ∈ F, ∀ o, h.get? a = some o → ¬ isV o
section
variable {fa : Nat → Option Addr} {FA μ μ' : List Addr} {h h' h'' : Heap} {H : HP}
theorem Xt.off (x : Xt [] μ h μ' h') (k : Kx FA h' h'') (hF : ∀ a ∈ FA, h.get? a = none) : Xt [] μ h μ' h'' := by
  have hn : ∀ b o, h.get? b = some o → b ∉ FA := fun b o e hm => no ((hF b hm).symm.trans e)
  exact ⟨x.pre, x.new, fun a o e => let ⟨o', e'⟩ := x.live a o e; ⟨o', k a o' (hn a o e) e'⟩, fun b o e h1 h2 => k b o (hn b o e) (x.keep b o e h1 h2), fun b o e hv => k b o (hn b o e) (x.kv b o e hv), fun a o e1 e2 => k a o (hn a o e2) (x.zero a o e1 e2)⟩
theorem vrs_off {vs : List Value} {ls : List V} (r : VRs fa μ h vs ls) (k : Kx FA h h') (hV : NoV FA h) : VRs fa μ h' vs ls :=
  r.mono (List.prefix_refl _) fun b o e hv => k b o (fun hm => hV b hm o e hv) e
theorem vr_off {v : Value} {l : V} (r : VR fa μ h v l) (k : Kx FA h h') (hV : NoV FA h) : VR fa μ h' v l :=
  r.mono (List.prefix_refl _) fun b o e hv => k b o (fun hm => hV b hm o e hv) e
theorem LH.off (l : LH fa μ H h) (k : Kx FA h h') (hF : ∀ a ∈ FA, a ∉ μ) (hV : NoV FA h) : LH fa μ H h' :=
  ⟨l.len, l.nd, fun i a xs e1 e2 => let ⟨vs, n, h1, h2⟩ := l.at' i a xs e1 e2; ⟨vs, n, k a _ (fun hm => hF a hm (List.mem_of_getElem? e1)) h1, vrs_off h2 k hV⟩⟩
theorem Kx.one {a : Addr} (hs : Heap.SameBut a h h') : Kx [a] h h' := fun b o hb e => hs.extBut b o (fun e' => hb (e' ▸ List.mem_cons_self ..)) e
theorem Kx.mono {FB : List Addr} (k : Kx FA h h') (hs : ∀ a ∈ FA, a ∈ FB) : Kx FB h h' := fun b o hb e => k b o (fun hm => hb (hs b hm)) e
theorem Kx.at {a b : Addr} {o : Obj} (k : Kx [a] h h') (hb : b ≠ a) (e : h.get? b = some o) : h'.get? b = some o := k b o (fun hm => hb (List.mem_singleton.mp hm)) e
theorem Kx.ns {a C : Addr} (k : Kx [a] h h') (hb : C ≠ a) (n : ∃ m, h.Ns C m) : ∃ m, h'.Ns C m := let ⟨m, n⟩ := n; ⟨m, n.at' fun _ e => k.at hb e⟩
theorem NoV.one {a : Addr} (hv : NoV FA h) (ha : a ∈ FA) : NoV [a] h := fun b hb => hv b (List.mem_singleton.mp hb ▸ ha)
theorem all_one {P : Addr → Prop} {a : Addr} (h : P a) : ∀ b ∈ [a], P b := fun b hb => List.mem_singleton.mp hb ▸ h
theorem all3 {P : Addr → Prop} {a b c : Addr} (ha : P a) (hb : P b) (hc : P c) : ∀ x ∈ [a, b, c], P x := fun x hx =>
  (List.mem_cons.mp hx).elim (fun e => e ▸ ha) fun hx => (List.mem_cons.mp hx).elim (fun e => e ▸ hb) fun hx => List.mem_singleton.mp hx ▸ hc
theorem in1 {a b c : Addr} : ∀ x ∈ [a], x ∈ [a, b, c] := all_one (List.mem_cons_self ..)
theorem in2 {a b c : Addr} : ∀ x ∈ [b], x ∈ [a, b, c] := all_one (List.mem_cons_of_mem _ (List.mem_cons_self ..))
theorem in3 {a b c : Addr} : ∀ x ∈ [c], x ∈ [a, b, c] := all_one (List.mem_cons_of_mem _ (List.mem_cons_of_mem _ (List.mem_cons_self ..)))
theorem nov_ns {C : Addr} {m : Str → Option Value} (n : h.Ns C m) : NoV [C] h := all_one fun o e => by
  obtain ⟨o', es, ep, h1, h2, _⟩ := n
  cases Option.some.inj (h1.symm.trans e)
  exact not_isV_dict h2
end

section
variable {prog : Program} {w : World} {A : Around}
theorem compLoop_own {elt target iter : Expr} {ifs : List Expr} {scope : Scope} {pos : Pos} {it acc : Value} {env : Env} {R : Result → Shared → Prop} (I : Nat → Shared → Prop)
    (turn : ∀ n s E, I n s → wpAny (model prog w) A (pyNext it) (fun r s₁ => match r with
      | none => R (.ok .next) s₁
      | some v => wpAny (model prog w) A (letOwnedTupleGo target it v) (fun _ s₁' => wpAny (model prog w) A (assign target env v) (fun _ s₂ =>
          wpAny (model prog w) A (forIn ifs true fun c r => if r = true then do let ok ← isTrue c env (eval c env); pure (ForInStep.yield ok) else pure (ForInStep.yield r)) (fun ok s₃ =>
            if ok = true then wpAny (model prog w) A (eval elt env) (fun x s₄ =>
              wpAny (model prog w) A (call (.builtin "list.append") [acc, x]) (fun _ s₅ => ∃ m, m < n ∧ I m s₅) E s₄) E s₃
            else ∃ m, m < n ∧ I m s₃) E s₂) E s₁') E s₁) E s)
    (n : Nat) {s : Shared} (h : I n s) :
    codeAny (model prog w) A (.compLoop (.ListComp elt [⟨target, iter, ifs, 0⟩] scope pos) 0 it acc env) R s := by
  refine codeAny_loop rfl I (fun n s hI => ?_) n h
  show wpAny _ A ((compTurn (.ListComp elt [⟨target, iter, ifs, 0⟩] scope pos) 0 it acc env).onRaise (fun x => do noteFrame x env; theTreesLotGoes x)) _ _ s
  refine wpAny_noted ?_
  rw [compTurn_list]
  refine wpAny_bind (wpAny_standAt (wpAny_bind (wpAny_mono (turn n s _ hI) (fun r s₁ h₁ => ?_) fun _ _ h' => h')))
  cases r with
  | none => exact wpAny_pure h₁
  | some v =>
    refine wpAny_bind (wpAny_mono h₁ (fun _ s₁' h₁' => ?_) fun _ _ h' => h')
    refine wpAny_bind (wpAny_mono h₁' (fun _ s₂ h₂ => wpAny_bind (wpAny_mono h₂ (fun ok s₃ h₃ => ?_) fun _ _ h' => h')) fun _ _ h' => h')
    cases ok with
    | false => exact wpAny_pure ⟨rfl, h₃⟩
    | true =>
      exact wpAny_bind (wpAny_bind (wpAny_mono h₃ (fun x s₄ h₄ => wpAny_bind (wpAny_mono h₄ (fun _ s₅ h₅ => wpAny_pure (wpAny_pure ⟨rfl, h₅⟩)) fun _ _ h' => h')) fun _ _ h' => h'))

end

noncomputable def compStep (Φ : FnT) (elt : Ex) (nt : Nat) (tp : Bool) (cnd : Ex) (ρ : Rho) : V → HP → Option (Option V × HP) := fun v H => (parts tp nt v H).bind fun ps => (ev Φ cnd (ρ ++ ps.map some) H).bind fun c => (tr c.1).bind fun t =>
  cond t ((ev Φ elt (ρ ++ ps.map some) c.2).map fun y => (some y.1, y.2)) (some (none, c.2))

theorem compStep_inv {Φ : FnT} {elt cnd : Ex} {nt : Nat} {tp : Bool} {ρ : Rho} {H : HP} {v : V} {r : Option V × HP} (e : compStep Φ elt nt tp cnd ρ v H = some r) :
    ∃ ps Hb, parts tp nt v H = some ps ∧ ((evB Φ cnd (ρ ++ ps.map some) H = some (false, Hb) ∧ r = (none, Hb)) ∨ (evB Φ cnd (ρ ++ ps.map some) H = some (true, Hb) ∧ ∃ y, ev Φ elt (ρ ++ ps.map some) Hb = some y ∧ r = (some y.1, y.2))) :=
  obK e fun ps hp e => obK e fun d hd e => obK e fun t ht e => ⟨ps, d.2, hp, by
    cases t with
    | false => exact Or.inl ⟨evB_mk hd ht, (Option.some.inj e).symm⟩
    | true => exact Or.inr ⟨evB_mk hd ht, omK (show (ev Φ elt (ρ ++ ps.map some) d.2).map (fun y => (some y.1, y.2)) = some r from e) fun y hy e => ⟨y, hy, e.symm⟩⟩⟩

inductive CondOk (c : Cx) (S : Sc) : List Expr → Ex → Prop
  | nil : CondOk c S [] (.lit (.bool true))
  | one {e : Expr} {m : Ex} : Sd c S e m → CondOk c S [e] m

theorem cond_wp {c : Cx} {S : Sc} {ifs : List Expr} {cm : Ex} (hc : CondOk c S ifs cm) {A : Around} {env : Env} {ρ : Rho} {H : HP} {μ : List Addr} {s : Shared} (p : Pt c S A env ρ H μ s)
    {q : Bool × HP} {Q : Bool → Shared → Prop} {E : Value → Shared → Prop} (e : evB c.Φ cm ρ H = some q) (k : OkB c.fa μ s q.2 (Q q.1)) :
    wpAny c.M A (forIn ifs true fun e r => if r = true then do let ok ← isTrue e env (eval e env); pure (ForInStep.yield ok) else pure (ForInStep.yield r)) Q E s := by
  cases hc with
  | nil =>
    cases Option.some.inj (show some (true, H) = some q from e)
    exact wpAny_tests_nil (k.here p.wd.lh)
  | one h => exact wpAny_tests_one (h.tru p e k)

theorem frm_comp {S : Sc} {M : Model} {A : Around} {env : Env} {sc : Scope} {ts : List Str} {cl : List (Str × Addr)} {C : Addr} (hS : ScOk S sc ts) (hE : EnvOk S env) : Frm M A (compEnvC sc cl C env) [C] ts (fun h f => h.Ns C f) where
  store := fun x hx s v f Q E hT k => by
    refine wpAny_storeName_local ?_ hT (fun h' hn hs => ?_) (by simp [compEnvC, relabel, hS.kind])
    · rw [inner_kind hE hS]
      simp only [inner]
      rw [hS.tsl x hx]
      rfl
    · obtain ⟨o, es, ep, ho, hd, _⟩ := id hT
      obtain ⟨o', es', ep', ho', _⟩ := id hn
      exact k h' _ hn (Xt.sameBut hs (List.mem_singleton.mpr rfl) ho (not_isV_dict hd) ho')
  ext := fun h h' f hT hk => hT.at' fun o e => hk _ _ e

set_option genInjectivity false in
/-- all that a comprehension's turns share -/
structure CC where
  c : Cx
  S : Sc
  A : Around
  env : Env
  ρ : Rho
  μ : List Addr
  s : Shared
  H : HP
  elt : Expr
  target : Expr
  ifs : List Expr
  sc : Scope
  ts : List Str
  tp : Bool
  m : Ex
  cm : Ex
  cl : List (Str × Addr)
  D : Addr
  C : Addr
  I : Addr
  src : Src
  μ₀ : List Addr
  T : Nat → Heap → Prop
  vs : List V
  H₂ : HP
  R : Result → Shared → Prop
  p : Pt c S A env ρ H μ s
  ht : targetsOf target = some (ts, tp)
  hS : ScOk S sc ts
  h2 : Sd c (inner S sc ts) elt m
  h3 : CondOk c (inner S sc ts) ifs cm
  hcl : ∀ x, (x, NameKind.free) ∈ sc.names → cl.lookup x = env.cells.lookup x
  it : It c.prog c.w A c.fa I src μ₀ T
  dc : D ≠ C
  di : D ≠ I
  ci : C ≠ I
  nD : s.heap.get? D = none
  nC : s.heap.get? C = none
  nI : s.heap.get? I = none
  fin : ∀ h' tk μ' m', LH c.fa μ' (H₂ ++ [vs]) h' → Xt [] μ s.heap μ' h' → VR c.fa μ' h' (.ref D) (.list H₂.length) → h'.Ns C m' → R (.ok .next) (stOf s h' tk)
@[reducible] noncomputable def CC.e (X : CC) : Env := compEnvC X.sc X.cl X.C X.env

/-- what the loop holds -/
structure LC (X : CC) (μ' : List Addr) (h' : Heap) (Hc : HP) (i : Nat) (done : List Value) (vals : List V) : Prop where
  xt : Xt [] X.μ X.s.heap μ' h'
  lh : LH X.c.fa μ' Hc h'
  it : X.T i h'
  acc : ∃ n, h'.get? X.D = some (Lobj done n)
  vals : VRs X.c.fa μ' h' done vals
  dn : X.D ∉ μ'
  ns : ∃ m, h'.Ns X.C m

section
variable {X : CC} {μ' μ'' : List Addr} {h' h'' : Heap} {Hc H'' : HP} {i j : Nat} {done done' : List Value} {vals vals' : List V} {tk : Tok}
theorem LC.c_mem (x : LC X μ' h' Hc i done vals) : X.C ∉ μ' := let ⟨_, hm⟩ := x.ns; ns_not_mem x.lh hm
theorem LC.i_mem (x : LC X μ' h' Hc i done vals) : X.I ∉ μ' := (X.it.live i h' x.it).mem x.lh
theorem LC.step (x : LC X μ' h' Hc i done vals) (t : Xt [] μ' h' μ'' h'') (l : LH X.c.fa μ'' H'' h'') : LC X μ'' h'' H'' i done vals where
  xt := x.xt.trans t
  lh := l
  it := X.it.frame _ _ _ x.it fun o e => t.keep _ _ e x.i_mem List.not_mem_nil
  acc := let ⟨n, e⟩ := x.acc; ⟨n, t.keep _ _ e x.dn List.not_mem_nil⟩
  vals := t.vrs x.vals
  dn := fun hm => let ⟨_, e⟩ := x.acc; no ((t.new _ hm x.dn).symm.trans e)
  ns := let ⟨m, n⟩ := x.ns; ⟨m, n.at' fun o e => t.keep _ _ e x.c_mem List.not_mem_nil⟩
theorem LC.nv (x : LC X μ' h' Hc i done vals) : NoV [X.I, X.C, X.D] h' :=
  all3 (X.it.live i h' x.it).nv (let ⟨_, n⟩ := x.ns; nov_ns n _ (List.mem_cons_self ..)) (let ⟨_, e1⟩ := x.acc; fun o e => Option.some.inj (e1.symm.trans e) ▸ not_isV_list _ _)
theorem LC.off (x : LC X μ' h' Hc i done vals) (k : Kx [X.I, X.C, X.D] h' h'') (hT : X.T j h'') (hD : ∃ n, h''.get? X.D = some (Lobj done' n)) (hv : VRs X.c.fa μ' h'' done' vals') (hC : ∃ m, h''.Ns X.C m) : LC X μ' h'' Hc j done' vals' where
  xt := x.xt.off k (all3 X.nI X.nC X.nD)
  lh := x.lh.off k (all3 x.i_mem x.c_mem x.dn) x.nv
  it := hT
  acc := hD
  vals := hv
  dn := x.dn
  ns := hC
/-- the iterator goes on -/
theorem LC.itr (x : LC X μ' h' Hc i done vals) (k : Kx [X.I] h' h'') (hT : X.T j h'') : LC X μ' h'' Hc j done vals :=
  x.off (k.mono in1) hT (let ⟨n, e⟩ := x.acc; ⟨n, k.at X.di e⟩) (vrs_off x.vals k (x.nv.one (in1 _ (List.mem_cons_self ..)))) (k.ns X.ci x.ns)
/-- a name of the comprehension's own is laid -/
theorem LC.nam (x : LC X μ' h' Hc i done vals) (k : Kx [X.C] h' h'') {m : Str → Option Value} (hn : h''.Ns X.C m) : LC X μ' h'' Hc i done vals :=
  x.off (k.mono in2) (X.it.frame _ _ _ x.it fun o e => k.at (Ne.symm X.ci) e) (let ⟨n, e⟩ := x.acc; ⟨n, k.at X.dc e⟩) (vrs_off x.vals k (x.nv.one (in2 _ (List.mem_cons_self ..)))) ⟨m, hn⟩
/-- a thing is laid behind -/
theorem LC.put (x : LC X μ' h' Hc i done vals) (k : Kx [X.D] h' h'') {z : Value} {y : V} (r : VR X.c.fa μ' h' z y) (hD : ∃ n, h''.get? X.D = some (Lobj (done ++ [z]) n)) : LC X μ' h'' Hc i (done ++ [z]) (vals ++ [y]) :=
  x.off (k.mono in3) (X.it.frame _ _ _ x.it fun o e => k.at (Ne.symm X.di) e) hD (vrs_off (x.vals.append (.cons r .nil)) k (x.nv.one (in3 _ (List.mem_cons_self ..)))) (k.ns (Ne.symm X.dc) x.ns)
theorem LC.pt (x : LC X μ' h' Hc i done vals) : VarsOk X.c.fa X.S X.env X.ρ μ' h' ∧ Wd X.c.fa X.c.h₀ μ' Hc h' := ⟨X.p.vars.xt X.p.wd.lh x.xt, X.p.wd.xt x.lh x.xt fun _ h => (List.not_mem_nil h).elim⟩

structure LI (X : CC) (k : Nat) (h' : Heap) (μ' : List Addr) (Hc : HP) (i : Nat) (done : List Value) (vals rest : List V) : Prop where
  lc : LC X μ' h' Hc i done vals
  pre : X.μ₀ <+: μ'
  go : compGo (compStep X.c.Φ X.m X.ts.length X.tp X.cm X.ρ) X.src k i Hc = some (rest, X.H₂)
  all : vals ++ rest = X.vs
  fx : ∀ us, X.src = .fixed us → i ≤ us.length
  dl : done.length ≤ i
  ki : k + i ≤ 1048577
noncomputable def CInv (X : CC) (k : Nat) (s' : Shared) : Prop := ∃ h' tk μ' Hc i done vals rest, s' = stOf X.s h' tk ∧ LI X k h' μ' Hc i done vals rest

/-- the lists' heap with the new list -/
theorem LH.put {fa : Nat → Option Addr} {D : Addr} {n : Nat} (l : LH fa μ' Hc h') (hD : h'.get? D = some (Lobj done n)) (dn : D ∉ μ') (rv : VRs fa μ' h' done vals) : LH fa (μ' ++ [D]) (Hc ++ [vals]) h' ∧ VR fa (μ' ++ [D]) h' (.ref D) (.list Hc.length) := by
  have hm : ∀ {vs : List Value} {xs : List V}, VRs fa μ' h' vs xs → VRs fa (μ' ++ [D]) h' vs xs := fun r => r.mono (List.prefix_append _ _) fun _ _ e _ => e
  refine ⟨⟨by rw [List.length_append, List.length_append, l.len]; rfl, List.nodup_append.mpr ⟨l.nd, by simp, fun a ha b hb e => dn (List.mem_singleton.mp hb ▸ e ▸ ha)⟩, fun j a ys e1 e2 => ?_⟩, .list ?_⟩
  · rcases Nat.lt_or_ge j Hc.length with hlt | hge
    · rw [List.getElem?_append_left (by rw [l.len]; exact hlt)] at e1
      rw [List.getElem?_append_left hlt] at e2
      obtain ⟨ws, q, g1, g2⟩ := l.at' j a ys e1 e2
      exact ⟨ws, q, g1, hm g2⟩
    · have hj := lt_of_get e2
      rw [List.length_append] at hj
      have heq := Nat.le_antisymm (Nat.le_of_lt_succ hj) hge
      rw [heq, List.getElem?_append_right (Nat.le_of_eq l.len), l.len, Nat.sub_self] at e1
      rw [heq, List.getElem?_append_right (Nat.le_refl _), Nat.sub_self] at e2
      rw [← Option.some.inj e1, ← Option.some.inj e2]
      exact ⟨done, n, hD, hm rv⟩
  · rw [List.getElem?_append_right (Nat.le_of_eq l.len), l.len, Nat.sub_self]; rfl

theorem comp_done {k : Nat} {xs rest : List V} (x : LI X k h' μ' Hc i done vals rest) (hx : X.src.items Hc = some xs) (hnone : xs[i]? = none) (e : some (([] : List V), Hc) = some (rest, X.H₂)) (hk : Kx [X.I] h' h'') : X.R (.ok .next) (stOf X.s h'' tk) := by
  have l' := x.lc.lh.off hk (all_one x.lc.i_mem) (x.lc.nv.one (in1 _ (List.mem_cons_self ..)))
  have rv := vrs_off x.lc.vals hk (x.lc.nv.one (in1 _ (List.mem_cons_self ..)))
  obtain ⟨n, hn⟩ := x.lc.acc
  obtain ⟨m', hm⟩ := hk.ns X.ci x.lc.ns
  have e := Option.some.inj e
  have hv := x.all
  rw [show rest = [] from (congrArg Prod.fst e).symm, List.append_nil] at hv
  have g := l'.put (hk.at X.di hn) x.lc.dn rv
  rw [hv, show Hc = X.H₂ from congrArg Prod.snd e] at g
  have t' := x.lc.xt.off hk (all_one X.nI)
  exact X.fin h'' tk _ m' g.1 ⟨t'.pre.trans (List.prefix_append _ _), fun a ha hn => (List.mem_append.mp ha).elim (fun ha => t'.new a ha hn) (fun ha => List.mem_singleton.mp ha ▸ X.nD), t'.live, t'.keep, t'.kv, t'.zero⟩ g.2 hm

theorem comp_item {k : Nat} {xs rest : List V} {xv : V} {r : Option V × HP} {q : List V × HP} (x : LI X (k + 1) h' μ' Hc i done vals rest) (hx : X.src.items Hc = some xs) (hxv : xs[i]? = some xv) (hstep : compStep X.c.Φ X.m X.ts.length X.tp X.cm X.ρ xv Hc = some r)
    (hg : compGo (compStep X.c.Φ X.m X.ts.length X.tp X.cm X.ρ) X.src k (i + 1) r.2 = some q) (e : (r.1.elim q.1 (· :: q.1), q.2) = (rest, X.H₂)) {v : Value} {E : Value → Shared → Prop} (rv : VR X.c.fa μ' h'' v xv) (hT : X.T (i + 1) h'') (hk : Kx [X.I] h' h'') :
    wpAny X.c.M X.A (letOwnedTupleGo X.target (.ref X.I) v) (fun _ s₁' => wpAny X.c.M X.A (assign X.target X.e v) (fun _ s₂ =>
          wpAny X.c.M X.A (forIn X.ifs true fun c r => if r = true then do let ok ← isTrue c X.e (eval c X.e); pure (ForInStep.yield ok) else pure (ForInStep.yield r)) (fun ok s₃ =>
            if ok = true then wpAny X.c.M X.A (eval X.elt X.e) (fun x s₄ =>
              wpAny X.c.M X.A (call (.builtin "list.append") [.ref X.D, x]) (fun _ s₅ => ∃ m, m < k + 1 ∧ CInv X m s₅) E s₄) E s₃
            else ∃ m, m < k + 1 ∧ CInv X m s₃) E s₂) E s₁') E (stOf X.s h'' tk) := by
  have x₄ := x.lc.itr hk hT
  have hfx : ∀ us, X.src = .fixed us → i + 1 ≤ us.length := fun us hu => by
    rw [hu] at hx
    rw [Option.some.inj (show some us = some xs from hx)]
    exact lt_of_get hxv
  have hd := x.dl
  have hki := x.ki
  have e1 := congrArg Prod.fst e
  have e2 : q.2 = X.H₂ := congrArg Prod.snd e
  obtain ⟨ps, Hb, hps, hcase⟩ := compStep_inv hstep
  obtain ⟨m₄, hm₄⟩ := x₄.ns
  refine letOwned_wp (X.it.live _ _ hT) (target_wp (s := stOf X.s h'' tk) (frm_comp X.hS X.p.eo) X.p.rm.1 X.ht hps rv x₄.lh hm₄ fun r₅ => ?_)
  have hk₅ : Kx [X.C] h'' r₅.h := fun b o hb e => r₅.xt.keep b o e List.not_mem_nil hb
  have x₅ := x₄.nam hk₅ r₅.t
  have pt : Pt X.c (inner X.S X.sc X.ts) X.A X.e (X.ρ ++ ps.map some) Hc μ' r₅.st := ⟨X.p.rm, inner_ok X.p.eo X.hS X.hcl, inner_vars X.p.eo X.hS X.hcl x₅.pt.1 r₅.t r₅.len r₅.vr, x₅.pt.2⟩
  rcases hcase with ⟨hb, rfl⟩ | ⟨hb, y, hy, rfl⟩
  · refine cond_wp X.h3 pt hb fun r₆ => (if_neg Bool.false_ne_true).symm ▸ ⟨k, Nat.lt_succ_self _, r₆.h, r₆.tk, r₆.μ', _, i + 1, done, vals, q.1, rfl, x₅.step r₆.xt r₆.lh, x.pre.trans r₆.xt.pre, hg.trans ?_, ?_, hfx, Nat.le_succ_of_le hd, by (first | lia | omega)⟩
    · rw [← e2]
    · rw [← x.all, ← show q.1 = rest from e1]
  · refine cond_wp X.h3 pt hb fun r₆ => (if_pos rfl).symm ▸ X.h2.val (pt.afterB r₆) hy fun r₇ => ?_
    have x₇ := (x₅.step r₆.xt r₆.lh).step r₇.xt r₇.lh
    obtain ⟨n, hn⟩ := x₇.acc
    refine append_at (s := r₇.st) (hsz := by rw [List.size_toArray, sizeLine_eq]; (first | lia | omega)) hn fun h₈ hs₈ hD₈ => ?_
    refine ⟨k, Nat.lt_succ_self _, h₈, r₇.tk, r₇.μ', _, i + 1, done ++ [r₇.v], vals ++ [y.1], q.1, rfl, x₇.put (.one hs₈) r₇.vr ⟨n + 1, by rw [hD₈]; simp [Lobj]⟩, (x.pre.trans r₆.xt.pre).trans r₇.xt.pre, hg.trans ?_, ?_, hfx, by rw [List.length_append]; exact Nat.succ_le_succ hd, by (first | lia | omega)⟩
    · rw [← e2]
    · rw [← x.all, ← show y.1 :: q.1 = rest from e1, List.append_assoc]; rfl
end

theorem comp_wp {c : Cx} {S : Sc} {elt target iter : Expr} {ifs : List Expr} {sc : Scope} {pos pos' : Pos} {ts : List Str} {tp : Bool} {m it cm : Ex} {use : Option (Value → Sem Unit)} (ht : targetsOf target = some (ts, tp)) (hS : ScOk S sc ts) (hset : notSet iter = true)
    (h1 : Sd c S iter it) (h2 : Sd c (inner S sc ts) elt m) (h3 : CondOk c (inner S sc ts) ifs cm)
    {A : Around} {env : Env} {ρ : Rho} {H : HP} {μ : List Addr} {s : Shared} {q : V × HP} {Q E : Value → Shared → Prop} (p : Pt c S A env ρ H μ s) (e : ev c.Φ (.comp m ts.length tp it cm) ρ H = some q)
    (fin : ∀ D C m' (r : Res c.fa μ s q.1 q.2), r.v = .ref D → s.heap.get? C = none → r.h.Ns C m' → compPost c.M A E use Q (.ref D) C (.ok .next) r.st) :
    wpAny c.M A (comprehension (.ListComp elt [⟨target, iter, ifs, 0⟩] sc pos) sc env pos' (newList []) false (eval iter env) use) Q E s := by
  refine obK e fun x ex e => obK e fun src es e => omK e fun r eg e => ?_
  obtain ⟨cl, hcl, hcl'⟩ := closure_of (scope := sc) (env := env) fun y hy hf => p.eo.cell y.1 ((p.eo.kind y.1).trans (hS.free y hy hf))
  refine wpAny_comprehension_free (use := use) rfl (folded_of hset env) hcl hS.kind hS.loc (h1.val p ex fun r₁ => src_wp p.rm.1 es r₁.vr r₁.lh fun r₂ => ?_)
  refine wpAny_newObj_type (wpAny_newFunctionEnv hS.cell (fun _ hy => (List.not_mem_nil hy).elim) (fun g₃ hns hsb => ?_) hS.kind)
  dsimp only at hns hsb ⊢
  generalize hD : r₂.h.objs.size = D at hns hsb ⊢
  generalize hH2 : r₂.h.push { cls := .type "list", dict := none, data := .seq ([] : List Value).toArray } = G2 at hns hsb ⊢
  have hC : G2.objs.size = D + 1 := by rw [← hH2, Heap.size_push, hD]
  generalize hC' : G2.objs.size = C at hns hsb ⊢
  have hCD : C = D + 1 := hC'.symm.trans hC
  have below : ∀ b o, r₂.h.get? b = some o → b ≠ C ∧ b ≠ D := fun b o e => by
    have := Heap.lt_size e
    rw [hD] at this
    exact ⟨Nat.ne_of_lt (hCD ▸ Nat.lt_succ_of_lt this), Nat.ne_of_lt this⟩
  have old : ∀ b o, r₂.h.get? b = some o → g₃.get? b = some o := fun b o e => hsb.extBut b o (below b o e).1 (Heap.get?_push_of_some _ (hH2 ▸ Heap.get?_push_of_some _ e))
  have old1 : ∀ b o, s.heap.get? b = some o → ∃ o', r₂.h.get? b = some o' := fun b o e => let ⟨o', e'⟩ := r₁.xt.live b o e; ⟨o', r₂.keep b o' e'⟩
  have hDC : D ≠ C := hCD ▸ Nat.ne_of_lt (Nat.lt_succ_self _)
  obtain ⟨oI, cI, fI, hI1, _⟩ := r₂.it.live 0 r₂.h r₂.t0
  have gone : ∀ {a : Addr}, (∀ o', r₂.h.get? a ≠ some o') → s.heap.get? a = none := fun {a} hn => by
    cases e : s.heap.get? a with
    | none => rfl
    | some o => obtain ⟨o', e'⟩ := old1 a o e; exact absurd e' (hn o')
  have hacc : g₃.get? D = some (Lobj [] 0) := hsb.extBut _ _ hDC (Heap.get?_push_of_some _ (by rw [← hH2, ← hD]; exact Heap.get?_push_size _ rfl))
  let X : CC := { c, S, A, env, ρ, μ, s, H, elt, target, ifs, sc, ts, tp, m, cm, cl, D, C, I := r₂.I, src, μ₀ := r₁.μ', T := r₂.T, vs := r.1, H₂ := r.2, R := compPost c.M A E use Q (.ref D) C, p, ht, hS, h2, h3, hcl := hcl', it := r₂.it, dc := hDC, di := Ne.symm (below r₂.I oI hI1).2, ci := Ne.symm (below r₂.I oI hI1).1
                  nD := gone fun o' e' => (below D o' e').2 rfl
                  nC := gone fun o' e' => (below C o' e').1 rfl
                  nI := by
                    cases e : s.heap.get? r₂.I with
                    | none => rfl
                    | some o => obtain ⟨o', e'⟩ := r₁.xt.live _ o e; exact no (r₂.new.symm.trans e')
                  fin := fun h' tk μ' m' l t rv hn => fin D C m' ⟨.ref D, h', tk, μ', by rw [← e]; exact rv, by rw [← e]; exact l, t⟩ rfl (gone fun o' e' => (below C o' e').1 rfl) hn }
  have X₀ : LC X r₁.μ' g₃ x.2 0 [] [] := {
    xt := (r₁.xt.trans (.ext r₂.keep)).trans (.ext old)
    lh := (r₁.lh.ext r₂.keep).ext old
    it := r₂.it.frame _ _ _ r₂.t0 fun o e => old _ _ e
    acc := ⟨0, hacc⟩
    vals := .nil
    dn := fun hm => let ⟨_, _, e⟩ := r₁.lh.mem hm; (below D _ (r₂.keep _ _ e)).2 rfl
    ns := ⟨_, hns⟩ }
  have loop : ∀ tk, codeAny c.M A (.compLoop (.ListComp elt [⟨target, iter, ifs, 0⟩] sc pos) 0 (.ref r₂.I) (.ref D) (compEnvC sc cl C env)) (compPost c.M A E use Q (.ref D) C) (stOf s g₃ tk) := fun tk => by
    refine compLoop_own (CInv X) ?_ (src.fuel x.2) ⟨g₃, tk, r₁.μ', x.2, 0, [], [], r.1, rfl, X₀, List.prefix_refl _, eg, rfl, fun _ _ => Nat.zero_le _, Nat.le_refl _, ?_⟩
    · rintro k s' E' ⟨h', tk, μ', Hc, i, done, vals, rest, rfl, y⟩
      cases k with
      | zero => exact no y.go
      | succ k =>
        refine obK y.go fun xs hx g => oeK g (fun hnone g => ?_) fun xv hxv g => obK g fun r' hstep g => omK g fun q' hg e => ?_
        · exact r₂.it.done i (stOf s h' tk) μ' Hc xs _ _ y.lc.it y.lc.lh y.pre hx hnone (fun us hu => y.fx us hu) fun h'' tk' hk => comp_done y hx hnone g hk
        · exact r₂.it.item i (stOf s h' tk) μ' Hc xs xv _ _ y.lc.it y.lc.lh y.pre hx hxv fun v h'' tk' rv hT hk => comp_item (X := X) y hx hxv hstep hg e rv hT hk
    · obtain ⟨xs, hx1, hx2⟩ := r₂.items
      unfold Src.fuel
      rw [hx1]
      exact Nat.succ_le_succ hx2
  exact codeAny_compStart_list (loop _) (r₂.it.self 0 _ _ _ X₀.it (loop _))


section
variable {c : Cx} {S : Sc}

theorem sd_comp {elt target iter : Expr} {ifs : List Expr} {sc : Scope} {pos : Pos} {ts : List Str} {tp : Bool} {m it cm : Ex} (ht : targetsOf target = some (ts, tp)) (hS : ScOk S sc ts) (hset : notSet iter = true)
    (h1 : Sd c S iter it) (h2 : Sd c (inner S sc ts) elt m) (h3 : CondOk c (inner S sc ts) ifs cm) :
    Sd c S (.ListComp elt [⟨target, iter, ifs, 0⟩] sc pos) (.comp m ts.length tp it cm) :=
  Sd.of_val (fun _ _ => rfl) fun A env ρ H μ s p q Q E e k => by
    rw [eval_ListComp]
    refine comp_wp (use := none) ht hS hset h1 h2 h3 p e fun D C m' r hv hc hn => ⟨m', hn, fun h'' hs => ?_⟩
    have hk : Kx [C] r.h h'' := .one hs
    exact k ⟨.ref D, h'', r.tk, r.μ', vr_off (hv ▸ r.vr) hk (nov_ns hn), r.lh.off hk (all_one (ns_not_mem r.lh hn)) (nov_ns hn), r.xt.off hk (all_one hc)⟩

/-- what is made is none of the odd kinds -/
noncomputable def okKinds (e : Expr) : Bool := !(isC 26 e || isC 7 e || isC 22 e || isC 20 e || isC 9 e || isC 10 e)
theorem cE_kinds {k : Nat} {S : Sc} {e : Expr} {m : Ex} (h : cE k S e = some m) : okKinds e = true := by
  cases k with
  | zero => exact no h
  | succ k =>
    replace h : cEo (cE k) S e = some m := h
    cases e <;> first | rfl | exact no h
theorem bOr {a b : Bool} (h : (!(a || b)) = true) : (!a) = true ∧ b = false := by
  cases a with
  | true => exact nf h
  | false => cases b with
    | true => exact nf h
    | false => exact ⟨rfl, rfl⟩
theorem bNot {a : Bool} (h : (!a) = true) : a = false := by
  cases a with
  | true => exact nf h
  | false => rfl
structure Kinds (e : Expr) : Prop where
  sl : isSl e = false
  set : notSet e = true
  star : noStar e = true
  sc : isC 9 e = false ∧ isC 10 e = false
  attr : isC 20 e = false
theorem cE_form {k : Nat} {S : Sc} {e : Expr} {m : Ex} (h : cE k S e = some m) : Kinds e := by
  have g1 := bOr (cE_kinds h)
  have g2 := bOr g1.1
  have g3 := bOr g2.1
  have g4 := bOr g3.1
  have g5 := bOr g4.1
  exact ⟨bNot g5.1, congrArg not g5.2, congrArg not g4.2, ⟨g2.2, g1.2⟩, g3.2⟩
theorem Kinds.na {e : Expr} (k : Kinds e) : ∀ o x p, e ≠ .Attribute o x p := fun o x p h => nt (h ▸ k.attr : isC 20 (.Attribute o x p) = false)

theorem cL_sd {f : Expr → Option Ex} (hf : ∀ e m, f e = some m → Sd c S e m ∧ noStar e = true) : ∀ (es : List Expr) {ms : Exs}, cL f es = some ms → SdL c S es ms := by
  intro es
  induction es with
  | nil => intro ms h; cases Option.some.inj h; exact .nil
  | cons e es ih => exact fun h => obK h fun m hm h => omK h fun ms hms h => h ▸ .cons (hf _ _ hm).1 (hf _ _ hm).2 (ih hms)
theorem cAnd_sd {f : Expr → Option Ex} (hf : ∀ e m, f e = some m → Sd c S e m) {p : Pos} (es : List Expr) : ∀ {m : Ex}, cAnd f es = some m → Sd c S (.BoolOp .And es p) m := by
  induction es with
  | nil => exact fun h => no h
  | cons e es ih =>
    intro m h
    cases es with
    | nil => exact sd_bool1 (hf e m h)
    | cons e' es => exact obK (show ((f e).bind fun m => (cAnd f (e' :: es)).map (.and m)) = some m from h) fun a ha h => omK h fun b hb h => h ▸ sd_and (hf _ _ ha) (ih hb)
theorem cOr_sd {f : Expr → Option Ex} (hf : ∀ e m, f e = some m → Sd c S e m) {p : Pos} (es : List Expr) : ∀ {m : Ex}, cOr f es = some m → Sd c S (.BoolOp .Or es p) m := by
  induction es with
  | nil => exact fun h => no h
  | cons e es ih =>
    intro m h
    cases es with
    | nil => exact sd_bool1 (hf e m h)
    | cons e' es => exact obK (show ((f e).bind fun m => (cOr f (e' :: es)).map (.or m)) = some m from h) fun a ha h => omK h fun b hb h => h ▸ sd_or (hf _ _ ha) (ih hb)
theorem cOpt_sd {f : Expr → Option Ex} (hf : ∀ e m, f e = some m → Sd c S e m) {x : Option Expr} {m : Ex} (h : cOpt f x = some m) : SdO c S x m := by
  cases x with
  | none => cases Option.some.inj h; exact .none
  | some e => exact .some (hf e m h)

theorem opOf_py {op : Operator} {o : Op} (h : opOf op = some o) : o.py = op := by
  cases op <;> first | exact no h | (cases Option.some.inj h; rfl)
theorem cmOf_py (op : CmpOp) : (cmOf op).py = op := by cases op <;> rfl
theorem mtOf_name {x : Str} {m : Mt} (h : mtOf x = some m) : x = m.name := by
  unfold mtOf at h
  by_cases h1 : (x == Mt.append.name) = true
  · rw [if_pos h1] at h; cases Option.some.inj h; exact eq_of_beq h1
  rw [if_neg h1] at h
  by_cases h1 : (x == Mt.insert.name) = true
  · rw [if_pos h1] at h; cases Option.some.inj h; exact eq_of_beq h1
  rw [if_neg h1] at h
  by_cases h1 : (x == Mt.pop.name) = true
  · rw [if_pos h1] at h; cases Option.some.inj h; exact eq_of_beq h1
  rw [if_neg h1] at h
  obtain ⟨h1, h⟩ := oi h
  cases Option.some.inj h; exact eq_of_beq h1
theorem behind_of {op : CmpOp} {r : Expr} (h : notSet r = true) : behindInMarks op r = false := by
  cases r <;> first | rfl | exact nf h

theorem eq_single {α : Type} {x : α} {l : List α} (h : l.isEmpty = true) : x :: l = [x] := by rw [List.isEmpty_iff.mp h]
/-- a comprehension's parts -/
theorem cComp_inv {f : Sc → Expr → Option Ex} {elt : Expr} {gens : List Comprehension} {sc : Scope} {M : Ex} (h : cComp f S elt gens sc = some M) :
    ∃ target iter ifs ts tp m it cm, gens = [⟨target, iter, ifs, 0⟩] ∧ targetsOf target = some (ts, tp) ∧ scopeOk S sc ts = true ∧ f (inner S sc ts) elt = some m ∧ f S iter = some it ∧ cIfs (f (inner S sc ts)) ifs = some cm ∧ M = .comp m ts.length tp it cm := by
  cases gens with
  | nil => exact no h
  | cons g r =>
    obtain ⟨hc, h⟩ := og h
    have hc := bAnd hc
    refine obK h fun t ht h => ?_
    obtain ⟨hs, h⟩ := og h
    refine obK h fun m hm h => obK h fun it hit h => omK h fun cm hcm e => ?_
    obtain ⟨target, iter, ifs, a⟩ := g
    refine ⟨target, iter, ifs, t.1, t.2, m, it, cm, ?_, ht, hs, hm, hit, hcm, e.symm⟩
    rw [eq_single hc.1, show a = 0 from eq_of_beq hc.2]
theorem cIfs_ok {f : Expr → Option Ex} (hf : ∀ e m, f e = some m → Sd c S e m) {ifs : List Expr} {cm : Ex} (h : cIfs f ifs = some cm) : CondOk c S ifs cm := by
  cases ifs with
  | nil => cases Option.some.inj h; exact .nil
  | cons e r =>
    obtain ⟨hc, h⟩ := og h
    rw [eq_single hc]
    exact .one (hf e cm h)

section
variable (hΦ : FnOk c) (hF : FaOk c.fa c.h₀) (f : Expr → Option Ex) (ih : ∀ e m, f e = some m → Sd c S e m) (ik : ∀ e m, f e = some m → Kinds e)
include ih ik
theorem cL_ok {es : List Expr} {ms : Exs} (h : cL f es = some ms) : SdL c S es ms := cL_sd (fun e m h => ⟨ih e m h, (ik e m h).star⟩) es h
include hΦ hF
theorem cCall_sd {g : Expr} {args : List Expr} {kws : List Keyword} {pos : Pos} {m : Ex} (h : cCall f g args kws pos = some m) : Sd c S (.Call g args kws pos) m := by
  obtain ⟨hlen, h⟩ := og h
  refine obK h fun ms hms h => ?_
  have hv := view_of g
  have plain : ∀ {m : Ex}, ((f g).bind fun m => cKws f m ms kws) = some m → Sd c S (.Call g args kws pos) m := fun h => obK h fun a ha h => by
    cases kws with
    | nil => cases Option.some.inj h; exact sd_call (ik _ _ ha).na hΦ hF (ih _ _ ha) (cL_ok f ih ik hms)
    | cons k r =>
      obtain ⟨hc, h⟩ := og h
      have hc := bAnd hc
      obtain ⟨x, e, kp⟩ := k
      refine omK h fun m' hm' h => ?_
      rw [eq_single hc.1, show x = some "key" from eq_of_beq hc.2, ← h]
      exact sd_callK (ik _ _ ha).na hΦ hF (ih _ _ ha) (cL_ok f ih ik hms) (ih _ _ hm')
  cases hw : view g with
  | attr o x p =>
    rw [hw] at h hv
    obtain ⟨hc, h⟩ := og h
    have g1 := bAnd hc
    have g2 := bAnd g1.1
    refine obK h fun mt hm h => omK h fun a ha h => ?_
    rw [show g = .Attribute o x p from hv, mtOf_name hm, List.isEmpty_iff.mp g2.1, ← h]
    exact sd_meth mt g1.2 g2.2 (of_decide_eq_true hlen) (ih _ _ ha) (cL_ok f ih ik hms)
  | _ => rw [hw] at h; exact plain h
omit hΦ hF
theorem cSub_sd {o i : Expr} {p : Pos} {m : Ex} (h : cSub f o i = some m) : Sd c S (.Subscript o i p) m := by
  refine obK h fun a ha h => ?_
  have hv := view_of i
  have plain : ∀ {m : Ex}, (f i).map (.idx a) = some m → Sd c S (.Subscript o i p) m := fun h => omK h fun b hb h => h ▸ sd_idx (ik _ _ hb).sl (ih _ _ ha) (ih _ _ hb)
  cases hw : view i with
  | slice l u s =>
    rw [hw] at h hv
    obtain ⟨p', rfl⟩ := hv
    exact obK h fun l hl h => obK h fun u hu h => omK h fun t ht h => h ▸ sd_sl (ih _ _ ha) (cOpt_sd ih hl) (cOpt_sd ih hu) (cOpt_sd ih ht)
  | _ => rw [hw] at h; exact plain h
end

theorem cE_sd (hΦ : FnOk c) (hF : FaOk c.fa c.h₀) (k : Nat) : ∀ (S : Sc), GlobOk c.fa c.h₀ S.gl → ∀ (e : Expr) (m : Ex), cE k S e = some m → Sd c S e m := by
  induction k with
  | zero => exact fun S _ e m h => no h
  | succ k IH =>
    intro S hG e m h
    have ih := IH S hG
    have ik : ∀ e m, cE k S e = some m → Kinds e := fun e m h => cE_form h
    replace h : cEo (cE k) S e = some m := h
    generalize cE k = f at ih ik h IH
    cases e with
    | Constant d j p =>
      cases d <;> first | exact no h | (cases Option.some.inj h; first | exact sd_none | exact sd_bool | exact sd_int | exact sd_bytes)
    | Name x p =>
      obtain ⟨hx, h⟩ := og h
      refine oeK h (fun _ h => ?_) fun i hs h => ?_
      · obtain ⟨hk, h⟩ := og h
        exact omK h fun v hg h => h ▸ sd_global hG (bNot hx) (eq_of_beq hk) hg
      · cases Option.some.inj h; exact sd_var (bNot hx) hs
    | BinOp l op r p => exact obK h fun o ho h => obK h fun a ha h => omK h fun b hb h => h ▸ sd_bin (opOf_py ho) (ih _ _ ha) (ih _ _ hb)
    | UnaryOp op x p =>
      cases op with
      | USub => exact omK h fun a ha h => h ▸ sd_neg (ih _ _ ha)
      | Not => exact omK h fun a ha h => h ▸ sd_not (ih _ _ ha)
      | _ => exact no h
    | BoolOp op vs p =>
      cases op with
      | And => exact cAnd_sd ih vs h
      | Or => exact cOr_sd ih vs h
    | Compare l ops rs p =>
      cases ops with
      | nil => exact no h
      | cons op ops =>
        cases ops with
        | cons => exact no h
        | nil =>
          cases rs with
          | nil => exact no h
          | cons r rs =>
            cases rs with
            | cons => exact no h
            | nil => exact obK h fun a ha h => omK h fun b hb h => h ▸ sd_cmp (cmOf_py _) (behind_of (ik _ _ hb).set) (ih _ _ ha) (ih _ _ hb)
    | IfExp d a b p => exact obK h fun d hd h => obK h fun a ha h => omK h fun b hb h => h ▸ sd_ite (ih _ _ hd) (ih _ _ ha) (ih _ _ hb)
    | Call f args kws pos => exact cCall_sd hΦ hF _ ih ik h
    | Subscript o i p => exact cSub_sd _ ih ik h
    | List es p => exact omK h fun ms hms h => h ▸ sd_lst (cL_ok _ ih ik hms)
    | Tuple es j p => exact omK h fun ms hms h => h ▸ sd_tpl (cL_ok _ ih ik hms)
    | ListComp elt gens sc p =>
      obtain ⟨target, iter, ifs, ts, tp, m, it, cm, rfl, htg, hsc, hm, hit, hcm, rfl⟩ := cComp_inv h
      exact sd_comp htg (scOk_of hsc) (ik _ _ hit).set (ih _ _ hit) (IH (inner S sc ts) hG _ _ hm) (cIfs_ok (IH (inner S sc ts) hG) hcm)
    | _ => exact no h
end


/-! frames -/
noncomputable def FAof (env : Env) : List Addr := env.locals :: env.cells.filterMap (fun p => env.cells.lookup p.1)
structure Fm (env : Env) (h : Heap) (f : Str → Option Value) : Prop where
  ns : ∃ m, h.Ns env.locals m ∧ ∀ x, env.kindOf x = some .local → m x = f x
  cell : ∀ x c, env.cells.lookup x = some c → ∃ v, h.IsCell c v ∧ (env.kindOf x = some .cell → v = f x)
structure SEnv (S : Sc) (env : Env) (h₀ : Heap) : Prop where
  inj : ∀ x y i, S.slot x = some i → S.slot y = some i → x = y
  apart : ∀ x y c, env.cells.lookup x = some c → env.cells.lookup y = some c → x = y
  lc : ∀ x c, env.cells.lookup x = some c → c ≠ env.locals
  fr : ∀ a ∈ FAof env, h₀.get? a = none

noncomputable def FrameOk (fa : Nat → Option Addr) (S : Sc) (env : Env) (ρ : Rho) (μ : List Addr) (h : Heap) : Prop :=
  ∃ f, Fm env h f ∧ ρ.length = S.n ∧ ∀ x i v, S.slot x = some i → ρ[i]? = some (some v) → ∃ u, f x = some u ∧ VR fa μ h u v

section
variable {fa : Nat → Option Addr} {S : Sc} {env : Env} {ρ : Rho} {μ μ' : List Addr} {h h' h₀ : Heap} {H : HP} {f : Str → Option Value}

theorem fa_cell {x : Str} {c : Addr} (h : env.cells.lookup x = some c) : c ∈ FAof env := by
  refine List.mem_cons_of_mem _ (List.mem_filterMap.mpr ⟨(x, c), mem_of_lookup h, h⟩)
theorem fa_mem {a : Addr} (h : a ∈ FAof env) : a = env.locals ∨ ∃ x, env.cells.lookup x = some a := by
  rcases List.mem_cons.mp h with e | h
  · exact Or.inl e
  · obtain ⟨p, _, hp⟩ := List.mem_filterMap.mp h
    exact Or.inr ⟨p.1, hp⟩
theorem Fm.live (F : Fm env h f) {a : Addr} (ha : a ∈ FAof env) : ∃ o, h.get? a = some o ∧ ¬ isV o ∧ ∀ vs n, o ≠ Lobj vs n := by
  rcases fa_mem ha with rfl | ⟨x, hx⟩
  · obtain ⟨m, ⟨o, es, ep, ho, hd, _⟩, _⟩ := F.ns
    exact ⟨o, ho, not_isV_dict hd, not_list_dict hd⟩
  · obtain ⟨v, ⟨o, ho, hd⟩, _⟩ := F.cell x a hx
    exact ⟨o, ho, not_isV_cell hd, not_list_cell hd⟩
theorem Fm.keep (F : Fm env h f) (k : ∀ a ∈ FAof env, ∀ o, h.get? a = some o → h'.get? a = some o) : Fm env h' f where
  ns := let ⟨m, h1, h2⟩ := F.ns; ⟨m, h1.at' fun o e => k _ (List.mem_cons_self ..) o e, h2⟩
  cell := fun x c hx => let ⟨v, ⟨o, ho, hd⟩, h2⟩ := F.cell x c hx; ⟨v, ⟨o, k _ (fa_cell hx) o ho, hd⟩, h2⟩
theorem Fm.not_mem (F : Fm env h f) (l : LH fa μ H h) {a : Addr} (ha : a ∈ FAof env) : a ∉ μ := by
  obtain ⟨o, ho, _, hn⟩ := F.live ha
  exact l.not_mem_of ho hn
theorem Fm.xt (F : Fm env h f) (l : LH fa μ H h) (t : Xt [] μ h μ' h') : Fm env h' f :=
  F.keep fun a ha o e => t.keep a o e (F.not_mem l ha) (List.not_mem_nil)
theorem FrameOk.xt (F : FrameOk fa S env ρ μ h) (l : LH fa μ H h) (t : Xt [] μ h μ' h') : FrameOk fa S env ρ μ' h' :=
  let ⟨f, h1, h2, h3⟩ := F
  ⟨f, h1.xt l t, h2, fun x i v hs hv => let ⟨u, g1, g2⟩ := h3 x i v hs hv; ⟨u, g1, t.vr g2⟩⟩
theorem FrameOk.vars (F : FrameOk fa S env ρ μ h) (hE : EnvOk S env) : VarsOk fa S env ρ μ h := by
  obtain ⟨f, h1, h2, h3⟩ := F
  refine ⟨h2, fun x i v hs hv => ?_⟩
  obtain ⟨u, g1, g2⟩ := h3 x i v hs hv
  refine ⟨u, ?_, g2⟩
  rcases (hE.sl x i hs).2 with hk | hk
  · have hk' := (hE.kind x).trans hk
    obtain ⟨m, n1, n2⟩ := h1.ns
    exact Or.inl ⟨hk', m, n1, (n2 x hk').trans g1⟩
  · have hk' := (hE.kind x).trans hk
    obtain ⟨c, hc⟩ := hE.cell x hk'
    obtain ⟨v', c1, c2⟩ := h1.cell x c hc
    rw [c2 hk', g1] at c1
    exact Or.inr ⟨hk', c, hc, c1⟩

theorem frm_env {M : Model} {A : Around} {ts : List Str} (hE : EnvOk S env) (hN : SEnv S env h₀) (ht : ∀ x ∈ ts, ∃ i, S.slot x = some i) : Frm M A env (FAof env) ts (Fm env) where
  store := fun x hx s v f Q E F k => by
    obtain ⟨i, hi⟩ := ht x hx
    rcases (hE.sl x i hi).2 with hk | hk
    · have hk' := (hE.kind x).trans hk
      obtain ⟨m, n1, n2⟩ := F.ns
      refine wpAny_storeName_local hk' n1 (fun h' hn hs => ?_) (by rw [hE.fn]; rfl)
      obtain ⟨o, es, ep, ho, hd, _⟩ := id n1
      obtain ⟨o', es', ep', ho', _⟩ := id hn
      refine k h' _ ⟨⟨_, hn, fun y hy => ?_⟩, fun y c hy => ?_⟩ (Xt.sameBut hs (List.mem_cons_self ..) ho (not_isV_dict hd) ho')
      · by_cases e : y = x
        · simp [e]
        · simp [e, n2 y hy]
      · obtain ⟨v', c1, c2⟩ := F.cell y c hy
        refine ⟨v', c1.sameBut hs (hN.lc y c hy), fun hyk => ?_⟩
        have : y ≠ x := fun e => by rw [e, hk'] at hyk; cases hyk
        simp only [this, if_false]
        exact c2 hyk
    · have hk' := (hE.kind x).trans hk
      obtain ⟨c, hc⟩ := hE.cell x hk'
      obtain ⟨v', c1, c2⟩ := F.cell x c hc
      refine wpAny_storeName_cell hE.fn hk' hc c1 fun h' hn hs => ?_
      obtain ⟨o, ho, hd⟩ := id c1
      obtain ⟨o', ho', _⟩ := id hn
      obtain ⟨m, n1, n2⟩ := F.ns
      refine k h' s.toks ⟨⟨m, n1.sameBut hs (Ne.symm (hN.lc x c hc)), fun y hy => ?_⟩, fun y c' hy => ?_⟩ (Xt.sameBut hs (fa_cell hc) ho (not_isV_cell hd) ho')
      · have : y ≠ x := fun e => by rw [e, hk'] at hy; cases hy
        simp only [this, if_false]
        exact n2 y hy
      · by_cases e : y = x
        · subst e
          rw [hc] at hy; cases hy
          exact ⟨_, hn, fun _ => by simp⟩
        · obtain ⟨v'', c3, c4⟩ := F.cell y c' hy
          refine ⟨v'', c3.sameBut hs fun e' => e (hN.apart y x c (e' ▸ hy) hc), fun hyk => ?_⟩
          simp only [e, if_false]
          exact c4 hyk
  ext := fun h h' f hT hk => hT.keep fun a _ o e => hk a o e

theorem slots_cons {x : Str} {xs : List Str} {is : List Nat} (h : slots S (x :: xs) = some is) : ∃ i js, S.slot x = some i ∧ slots S xs = some js ∧ is = i :: js := obK h fun i h1 h => omK h fun js h2 h => ⟨i, js, h1, h2, h.symm⟩
theorem slots_mem (xs : List Str) : ∀ {is : List Nat}, slots S xs = some is → ∀ x ∈ xs, ∃ i, S.slot x = some i := by
  induction xs with
  | nil => exact fun _ x hx => (List.not_mem_nil hx).elim
  | cons y ys ih =>
    intro is h x hx
    obtain ⟨i, js, h1, h2, _⟩ := slots_cons h
    exact (List.mem_cons.mp hx).elim (fun e => ⟨i, e ▸ h1⟩) (ih h2 x)
theorem slots_len (xs : List Str) : ∀ {is : List Nat}, slots S xs = some is → is.length = xs.length := by
  induction xs with
  | nil => intro is h; cases Option.some.inj h; rfl
  | cons y ys ih =>
    intro is h
    obtain ⟨i, js, h1, h2, rfl⟩ := slots_cons h
    exact congrArg (· + 1) (ih h2)

noncomputable def VarsR (fa : Nat → Option Addr) (S : Sc) (ρ : Rho) (μ : List Addr) (h : Heap) (f : Str → Option Value) : Prop :=
  ρ.length = S.n ∧ ∀ x i v, S.slot x = some i → ρ[i]? = some (some v) → ∃ u, f x = some u ∧ VR fa μ h u v
theorem VarsR.set {x : Str} {i : Nat} {v : V} {u : Value} (hE : EnvOk S env) (hN : SEnv S env h₀) (hs : S.slot x = some i) (R : VarsR fa S ρ μ h f) (r : VR fa μ h u v) : VarsR fa S (ρ.set i (some v)) μ h (fun y => if y = x then some u else f y) := by
  refine ⟨by simp [R.1], fun y j v' hy hv => ?_⟩
  by_cases e : y = x
  · subst e
    rw [hs] at hy; cases hy
    have hi : i < ρ.length := by rw [R.1]; exact (hE.sl _ _ hs).1
    rw [List.getElem?_set_self hi] at hv
    cases hv
    exact ⟨u, by simp, r⟩
  · have hij : i ≠ j := fun e' => e (hN.inj y x i (e' ▸ hy) hs)
    rw [List.getElem?_set_ne hij] at hv
    obtain ⟨u', g1, g2⟩ := R.2 y j v' hy hv
    exact ⟨u', by simp [e, g1], g2⟩
theorem VarsR.setAll (hE : EnvOk S env) (hN : SEnv S env h₀) (xs : List Str) : ∀ {is : List Nat} {us : List Value} {ps : List V} {ρ : Rho} {f : Str → Option Value}, slots S xs = some is → us.length = xs.length → VarsR fa S ρ μ h f → VRs fa μ h us ps → VarsR fa S (setAll ρ is ps) μ h (Upd f (xs.zip us)) := by
  induction xs with
  | nil => intro is us ps ρ f h _ R r; cases Option.some.inj h; exact R
  | cons x xs ih =>
    intro is us ps ρ f h hl R r
    obtain ⟨i, js, h1, h2, rfl⟩ := slots_cons h
    cases r with
    | nil => exact nomatch hl
    | cons r1 rs => exact (ih (is := js) h2 (Nat.succ.inj hl) (R.set hE hN h1 r1) rs :)
theorem VarsR.mono (R : VarsR fa S ρ μ h f) (hr : ∀ u v, VR fa μ h u v → VR fa μ' h' u v) : VarsR fa S ρ μ' h' f :=
  ⟨R.1, fun x i v hs hv => let ⟨u, g1, g2⟩ := R.2 x i v hs hv; ⟨u, g1, hr u v g2⟩⟩
end


inductive FlR (fa : Nat → Option Addr) (μ : List Addr) (h : Heap) : Flow → Fl → Prop
  | next : FlR fa μ h .next .next
  | brk : FlR fa μ h .brk .brk
  | ret {u : Value} {v : V} : VR fa μ h u v → FlR fa μ h (.ret u) (.ret v)

set_option genInjectivity false in
structure ResS (fa : Nat → Option Addr) (S : Sc) (env : Env) (μ : List Addr) (s : Shared) (q : Fl × Cfg) where
  fl : Flow
  h : Heap
  tk : Tok
  μ' : List Addr
  flr : FlR fa μ' h fl q.1
  lh : LH fa μ' q.2.2 h
  xt : Xt (FAof env) μ s.heap μ' h
  fr : FrameOk fa S env q.2.1 μ' h
@[reducible] noncomputable def ResS.st {fa : Nat → Option Addr} {S : Sc} {env : Env} {μ : List Addr} {s : Shared} {q : Fl × Cfg} (r : ResS fa S env μ s q) : Shared := stOf s r.h r.tk
noncomputable def OkS (fa : Nat → Option Addr) (S : Sc) (env : Env) (μ : List Addr) (s : Shared) (q : Fl × Cfg) (Q : Flow → Shared → Prop) : Prop := ∀ r : ResS fa S env μ s q, Q r.fl r.st

structure PtS (c : Cx) (S : Sc) (A : Around) (env : Env) (ρ : Rho) (H : HP) (μ : List Addr) (s : Shared) : Prop where
  rm : Rm A c.n
  eo : EnvOk S env
  sn : SEnv S env c.h₀
  fr : FrameOk c.fa S env ρ μ s.heap
  wd : Wd c.fa c.h₀ μ H s.heap
noncomputable def Sx (c : Cx) (S : Sc) (X : Env → Sem Flow) (m : St) : Prop :=
  ∀ (A : Around) (env : Env) (ρ : Rho) (H : HP) (μ : List Addr) (s : Shared), PtS c S A env ρ H μ s → ∀ q Q E, run c.Φ m (ρ, H) = some q → OkS c.fa S env μ s q Q → wpAny c.M A (X env) Q E s

section
variable {c : Cx} {S : Sc} {A : Around} {env : Env} {ρ : Rho} {H : HP} {μ μ' : List Addr} {s : Shared} {q : Fl × Cfg} {Q : Flow → Shared → Prop} {h' : Heap} {tk : Nat} {fa : Nat → Option Addr}

theorem PtS.pt (p : PtS c S A env ρ H μ s) : Pt c S A env ρ H μ s := ⟨p.rm, p.eo, p.fr.vars p.eo, p.wd⟩
theorem PtS.next (p : PtS c S A env ρ H μ s) {H' : HP} (l : LH c.fa μ' H' h') (t : Xt [] μ s.heap μ' h') : PtS c S A env ρ H' μ' (stOf s h' tk) := ⟨p.rm, p.eo, p.sn, p.fr.xt p.wd.lh t, p.wd.xt l t fun _ h => (List.not_mem_nil h).elim⟩
theorem PtS.after (p : PtS c S A env ρ H μ s) {l : V} {H' : HP} (r : Res c.fa μ s l H') : PtS c S A env ρ H' r.μ' r.st := p.next r.lh r.xt
theorem PtS.afterB (p : PtS c S A env ρ H μ s) {H' : HP} (r : ResB c.fa μ s H') : PtS c S A env ρ H' r.μ' r.st := p.next r.lh r.xt
theorem PtS.afterS (p : PtS c S A env ρ H μ s) (r : ResS c.fa S env μ s q) : PtS c S A env q.2.1 q.2.2 r.μ' r.st := ⟨p.rm, p.eo, p.sn, r.fr, p.wd.xt r.lh r.xt p.sn.fr⟩
theorem OkS.step (k : OkS fa S env μ s q Q) (t : Xt (FAof env) μ s.heap μ' h') : OkS fa S env μ' (stOf s h' tk) q Q := fun r => k ⟨r.fl, r.h, r.tk, r.μ', r.flr, r.lh, t.trans r.xt, r.fr⟩
theorem OkS.of {q' : Fl × Cfg} (k : OkS fa S env μ s q Q) (e : q' = q) : OkS fa S env μ s q' Q := e ▸ k
theorem OkS.here (k : OkS c.fa S env μ s q Q) (e : some (q.1, (ρ, H)) = some q) {fl : Flow} (r : FlR c.fa μ s.heap fl q.1) (p : PtS c S A env ρ H μ s) : Q fl s := by
  have e := Option.some.inj e
  exact k ⟨fl, s.heap, s.toks, μ, r, by rw [← e]; exact p.wd.lh, .refl, by rw [← e]; exact p.fr⟩

theorem sx_skip_execs : Sx c S (execs []) .skip := fun A env ρ H μ s p q Q E e k => by
  cases Option.some.inj (show some (Fl.next, (ρ, H)) = some q from e)
  exact wpAny_execs_nil (k.here rfl .next p)
theorem sx_pass {p : Pos} : Sx c S (exec (.Pass p)) .skip := fun A env ρ H μ s p q Q E e k => by
  cases Option.some.inj (show some (Fl.next, (ρ, H)) = some q from e)
  exact wpAny_Pass (k.here rfl .next p)
theorem sx_brk {p : Pos} : Sx c S (exec (.Break p)) .brk := fun A env ρ H μ s p q Q E e k => by
  cases Option.some.inj (show some (Fl.brk, (ρ, H)) = some q from e)
  exact wpAny_Break (k.here rfl .brk p)
theorem sx_seq {st : Stmt} {r : List Stmt} {a b : St} (h1 : Sx c S (exec st) a) (h2 : Sx c S (execs r) b) : Sx c S (execs (st :: r)) (.seq a b) := fun A env ρ H μ s p q Q E e k =>
  obK e fun q₁ e1 e => wpAny_execs_cons (h1 A env ρ H μ s p q₁ _ E e1 fun r₁ => by
    have hr := r₁.flr
    have e : goOn q₁ (run c.Φ b) = some q := e
    have p' := p.afterS r₁
    have k' := k.step (tk := r₁.tk) r₁.xt
    have lh := r₁.lh
    have fr := r₁.fr
    obtain ⟨f, ρ₁, H₁⟩ := q₁
    generalize r₁.fl = fl at hr ⊢
    cases hr with
    | next => exact h2 A env _ _ _ _ p' q Q E e k'
    | brk => exact k'.here (show some (q.1, (ρ₁, H₁)) = some q by cases Option.some.inj e; rfl) (show FlR c.fa _ _ _ q.1 by cases Option.some.inj e; exact .brk) p'
    | ret r => exact k'.here (show some (q.1, (ρ₁, H₁)) = some q by cases Option.some.inj e; rfl) (show FlR c.fa _ _ _ q.1 by cases Option.some.inj e; exact .ret r) p')

theorem swaps_plain {e : Expr} {t : Option Expr} {n : Nat} {env : Env} (h : isComp e = false) (hs : isC 9 e = false ∧ isC 10 e = false) : swapsWith e t n env = pure false := by
  cases e <;> first | rfl | exact nt h | exact nt hs.1 | exact nt hs.2

theorem sx_ret {e : Expr} {p : Pos} {m : Ex} (h1 : Sd c S e m) : Sx c S (exec (.Return (some e) p)) (.ret m) := fun A env ρ H μ s p q Q E e k =>
  omK e fun v ev e => wpAny_Return_some (h1.val p.pt ev fun r => k ⟨.ret r.v, r.h, r.tk, r.μ', e ▸ .ret r.vr, e ▸ r.lh, r.xt.toF, e ▸ p.fr.xt p.wd.lh r.xt⟩)

theorem noRef_val {μ : List Addr} {h : Heap} {u : Value} {v : V} (r : VR fa μ h u v) (hn : noRef v = true) : ∀ a, u ≠ .ref a := by
  intro a e
  cases v with
  | none => exact nomatch r.none_inv.symm.trans e
  | bool => exact nomatch r.bool_inv.symm.trans e
  | int => obtain ⟨t, h⟩ := r.int_inv; exact nomatch h.symm.trans e
  | bytes => obtain ⟨t, h⟩ := r.bytes_inv; exact nomatch h.symm.trans e
  | _ => exact nf hn

theorem sx_exp {e : Expr} {p : Pos} {m : Ex} (hc : isComp e = false) (hcs : isC 9 e = false ∧ isC 10 e = false) (h1 : Sd c S e m) : Sx c S (exec (.Expr e p)) (.exp m) := fun A env ρ H μ s p q Q E e k =>
  obK e fun v ev e => oiK e fun hn e => wpAny_Expr (h1.val p.pt ev fun r => by
      have e := Option.some.inj e
      have hq : Q .next r.st := k ⟨.next, r.h, r.tk, r.μ', e ▸ .next, e ▸ r.lh, r.xt.toF, e ▸ p.fr.xt p.wd.lh r.xt⟩
      have hu := noRef_val r.vr hn
      generalize r.v = u at hu ⊢
      cases u <;> first | exact hq | exact absurd rfl (hu _)) (by simp [interactive, p.eo.fn]) (swaps_plain hc hcs)

theorem sx_ite {g : Expr} {a b : List Stmt} {p : Pos} {m : Ex} {x y : St} (h0 : Sd c S g m) (h1 : Sx c S (execs a) x) (h2 : Sx c S (execs b) y) : Sx c S (exec (.If g a b p)) (.ite m x y) := fun A env ρ H μ s p q Q E e k =>
  obK e fun t ec e => wpAny_If (h0.tru p.pt ec fun r => by
    obtain ⟨t, H₁⟩ := t
    cases t with
    | true => exact (if_pos rfl).symm ▸ h1 A env _ _ _ _ (p.afterB r) q Q E e (k.step r.xt.toF)
    | false => exact (if_neg Bool.false_ne_true).symm ▸ h2 A env _ _ _ _ (p.afterB r) q Q E e (k.step r.xt.toF))

/-- the frame's own objects may change -/
theorem LH.fxt (l : LH fa μ H s.heap) (F : FrameOk fa S env ρ μ s.heap) (t : Xt (FAof env) [] s.heap [] h') : LH fa μ H h' := by
  obtain ⟨g, hg, _⟩ := F
  refine l.off (fun b o hb e => t.keep b o e List.not_mem_nil hb) (fun a ha => hg.not_mem l ha) fun a ha o e => ?_
  obtain ⟨o', h1, h2, _⟩ := hg.live ha
  cases Option.some.inj (h1.symm.trans e)
  exact h2
theorem LH.fz (l : LH fa μ H s.heap) (F : FrameOk fa S env ρ μ s.heap) : ∀ a, μ[0]? = some a → a ∉ FAof env := fun a e hm => by
  obtain ⟨g, hg, _⟩ := F
  exact hg.not_mem l hm (List.mem_of_getElem? e)
/-- a target is laid -/
theorem PtS.laid (p : PtS c S A env ρ H μ s) {f : Str → Option Value} (g2 : VarsR c.fa S ρ μ s.heap f) {xs : List Str} {is : List Nat} {us : List Value} {ps : List V} (hs : slots S xs = some is) (hl : us.length = xs.length) (g1' : Fm env h' (Upd f (xs.zip us))) (r : VRs c.fa μ h' us ps) (t : Xt (FAof env) [] s.heap [] h') :
    LH c.fa μ H h' ∧ Xt (FAof env) μ s.heap μ h' ∧ FrameOk c.fa S env (setAll ρ is ps) μ h' :=
  ⟨p.wd.lh.fxt p.fr t, t.any (p.wd.lh.fz p.fr), _, g1', VarsR.setAll p.eo p.sn xs hs hl (g2.mono fun u v r => t.vr0 r) r⟩

noncomputable def Swaps (c : Cx) (S : Sc) (x : Str) (px : Pos) (e : Expr) (p : Pos) (i : Nat) (m : Ex) : Prop := ∀ A env ρ H μ s, PtS c S A env ρ H μ s →
  swapsWith e (some (.Name x px)) p.line env = pure false ∨ (swapsWith e (some (.Name x px)) p.line env = pure true ∧ ∀ v (Q : Flow → Shared → Prop) E, ev c.Φ m ρ H = some v → OkS c.fa S env μ s (.next, (ρ.set i (some v.1), v.2)) Q →
    wpAny c.M A (evalThenUse e env (assign (.Name x px) env)) (fun _ => Q .next) E s)
theorem asg_done {x : Str} {i : Nat} {v : V} {u : Value} {R : Unit → Shared → Prop} {E : Value → Shared → Prop} (hs : S.slot x = some i) (p : PtS c S A env ρ H μ s) (r : VR c.fa μ s.heap u v) (k : ∀ h' tk, LH c.fa μ H h' → Xt (FAof env) μ s.heap μ h' → FrameOk c.fa S env (ρ.set i (some v)) μ h' → (∀ a o, s.heap.get? a = some o → a ∉ FAof env → h'.get? a = some o) → R () (stOf s h' tk)) :
    wpAny c.M A (storeName env x u) R E s := by
  obtain ⟨g, g1, g2⟩ := p.fr
  refine (frm_env (ts := [x]) p.eo p.sn (fun y hy => ⟨i, List.mem_singleton.mp hy ▸ hs⟩)).store x (List.mem_singleton.mpr rfl) s u g _ E g1 fun h' tk g1' t => ?_
  obtain ⟨l', t', F'⟩ := p.laid (xs := [x]) (is := [i]) (us := [u]) (ps := [v]) g2 (by simp [slots, hs]) rfl g1' (.cons (t.vr0 r) .nil) t
  exact k h' tk l' t' F' fun a o e ha => t.keep a o e List.not_mem_nil ha
theorem asg_post {x : Str} {i : Nat} {v : V} {u : Value} {R : Unit → Shared → Prop} {px : Pos} {E : Value → Shared → Prop} (hs : S.slot x = some i) (p : PtS c S A env ρ H μ s) (r : VR c.fa μ s.heap u v) (k : ∀ h' tk, LH c.fa μ H h' → Xt (FAof env) μ s.heap μ h' → FrameOk c.fa S env (ρ.set i (some v)) μ h' → (∀ a o, s.heap.get? a = some o → a ∉ FAof env → h'.get? a = some o) → R () (stOf s h' tk)) :
    wpAny c.M A (assign (.Name x px) env u) R E s := wpAny_assign_Name (asg_done hs p r k)
theorem sx_asg {x : Str} {px p : Pos} {e : Expr} {i : Nat} {m : Ex} (hs : S.slot x = some i) (h1 : Sd c S e m) (hsw : Swaps c S x px e p i m) :
    Sx c S (exec (.Assign [.Name x px] e p)) (.asg i m) := fun A env ρ H μ s p q Q E e k => omK e fun v ev e => by
  rcases hsw A env ρ H μ s p with hsw | ⟨hsw, hu⟩
  · exact wpAny_Assign_Name (h1.val p.pt ev fun r => asg_done hs (p.after r) r.vr fun h' tk l' t' F' _ => k ⟨.next, h', tk, r.μ', e ▸ .next, e ▸ l', r.xt.toF.trans t', e ▸ F'⟩) hsw
  · rw [exec_Assign_Name_used _ _ _ _ hsw]
    exact wpAny_bind (wpAny_standAt (wpAny_bind (wpAny_mono (hu v Q E ev (k.of e)) (fun _ _ h => wpAny_pure h) fun _ _ x => x)))

theorem sx_unp {es : List Expr} {j : Nat} {tp p : Pos} {v : Expr} {xs : List Str} {is : List Nat} {m : Ex} (hn : namesIn es = some xs) (hs : slots S xs = some is) (ht : isTup v = false) (h1 : Sd c S v m) :
    Sx c S (exec (.Assign [.Tuple es j tp] v p)) (.unp is m) := fun A env ρ H μ s p q Q E e k => obK e fun x ev e => omK e fun ps hp e => by
  refine PyProof.Rows.Assign_Tuple (h1.val p.pt ev fun r => ?_) (by cases v <;> rfl) (by cases v <;> first | rfl | exact nt ht)
  have p' := p.after r
  obtain ⟨g, g1, g2⟩ := p'.fr
  rw [slots_len xs hs] at hp
  refine target_wp (ts := xs) (tp := true) (s := r.st) (frm_env p.eo p.sn (slots_mem xs hs)) p.rm.1 (show (namesIn es).map (·, true) = some (xs, true) by rw [hn]; rfl) hp r.vr r.lh g1 fun r' => ?_
  obtain ⟨l', t', F'⟩ := p'.laid g2 hs r'.len r'.t r'.vr r'.xt
  exact k ⟨.next, r'.h, r'.tk, r.μ', e ▸ .next, e ▸ l', r.xt.toF.trans t', e ▸ F'⟩
end


section
variable {c : Cx} {S : Sc} {A : Around} {env : Env} {ρ : Rho} {H : HP} {μ μ' : List Addr} {s : Shared} {q : Fl × Cfg} {Q : Flow → Shared → Prop} {h' : Heap} {tk : Nat}

theorem PtS.tok (p : PtS c S A env ρ H μ s) (tk : Tok) : PtS c S A env ρ H μ { s with toks := tk } := ⟨p.rm, p.eo, p.sn, p.fr, p.wd⟩
/-- an item laid into a list -/
theorem set_ok {E : Value → Shared → Prop} {v : V} {l k : V} {lv iv u : Value} (rl : VR c.fa μ s.heap lv l) (ri : VR c.fa μ s.heap iv k) (ru : VR c.fa μ s.heap u v) (p : PtS c S A env ρ H μ s) (e : setL ρ l k v H = some q) {μ₀ : List Addr} {s₀ : Shared} (t : Xt (FAof env) μ₀ s₀.heap μ s.heap) (ok : OkS c.fa S env μ₀ s₀ q Q) (hs : ∀ h tk, stOf s h tk = stOf s₀ h tk) :
    wpAny c.M A (setItem lv iv u) (fun _ => Q .next) E s := by
  refine obK e fun j hj e => obK e fun i hi e => obK e fun xs hx e => oiK e fun hc e => ?_
  have g1 := bAnd hc
  have g2 := bAnd g1.1
  have g3 := bAnd g2.1
  have c1 := of_decide_eq_true g3.1
  have c2 := of_decide_eq_true g3.2
  have c3 := lenOk_le g2.2
  refine p.wd.lh.getK (vr_list hj rl) hx fun a vs n hi' ha hvs => (vr_int hi ri).intK fun t' => ?_
  have hl := hvs.length
  refine PySem.W.ki_setAt (n := n) ha c1 (by (first | lia | omega)) (by rw [List.size_toArray, hl]; exact c2) ?_
  obtain ⟨n', hn'⟩ := mapSeq_at (ws := vs.set i.toNat u) (f := (·.setIfInBounds i.toNat u)) ha (by simp)
  obtain ⟨l', t'⟩ := p.wd.lh.upd hi' (of_decide_eq_true g1.2) update_keeps hn' (hvs.set ru i.toNat)
  have e := Option.some.inj e
  refine Eq.mp (congrArg (Q .next) (hs _ s.toks).symm) (ok ⟨.next, _, s.toks, μ, e ▸ .next, e ▸ l', t.trans t'.toF, e ▸ p.fr.xt p.wd.lh t'⟩)

theorem sx_setI {o i : Expr} {x : Expr} {tp p : Pos} {mo mi m : Ex} (hc : isComp x = false) (hcs : isC 9 x = false ∧ isC 10 x = false) (h1 : Sd c S x m) (h2 : Sd c S o mo) (h3 : Sd c S i mi) :
    Sx c S (exec (.Assign [.Subscript o i tp] x p)) (.setI mo mi m) := fun A env ρ H μ s p q Q E e k =>
  obK e fun v ev e => obK e fun l el e => obK e fun i ei e => wpAny_Assign_Subscript (h1.val p.pt ev fun r₁ => h2.val (p.after r₁).pt el fun r₂ => h3.val ((p.after r₁).after r₂).pt ei fun r₃ =>
    set_ok (r₃.xt.vr r₂.vr) r₃.vr ((r₂.xt.trans r₃.xt).vr r₁.vr) (((p.after r₁).after r₂).after r₃) e ((r₁.xt.trans r₂.xt).trans r₃.xt).toF k fun _ _ => rfl) (swaps_plain hc hcs)

theorem augStore_plain {i : Expr} {ov iv new : Value} (h : isSl i = false) : augStore i ov iv new = (do holding [new, ov, iv] (setItem ov iv new); release [new, ov, iv] []; pure .next) := by
  cases i <;> first | rfl | exact nt h

theorem sx_aug {o i x : Expr} {tp p : Pos} {mo mi m : Ex} (hi : isSl i = false) (h1 : Sd c S o mo) (h2 : Sd c S i mi) (h3 : Sd c S x m) :
    Sx c S (exec (.AugAssign (.Subscript o i tp) .Add x p)) (.aug mo mi .add m) := fun A env ρ H μ s p q Q E e k =>
  obK e fun l el e => obK e fun i ei e => obK e fun old hold e => obK e fun new en e => obK e fun a ha e => obK e fun b hb e =>
    wpAny_AugAssign_Subscript_any (h1.val p.pt el fun r₁ => h2.val (p.after r₁).pt ei fun r₂ => getI_ok hold (r₂.xt.vr r₁.vr) r₂.vr r₂.lh fun ov tk₂ ro =>
      h3.val (((p.after r₁).after r₂).tok tk₂).pt en fun r₃ => by
        obtain ⟨t1, e1⟩ := (vr_int ha ro).int_inv
        obtain ⟨t2, e2⟩ := (vr_int hb r₃.vr).int_inv
        rw [e1, e2]
        exact wpAny_iadd_int (set_ok (s := stOf r₃.st r₃.h (r₃.tk + 1)) (v := .int (a + b)) ((r₂.xt.trans r₃.xt).vr r₁.vr) (r₃.xt.vr r₂.vr) (.int _ _) (((((p.after r₁).after r₂).tok tk₂).after r₃).tok _) e ((r₁.xt.trans r₂.xt).trans r₃.xt).toF k fun _ _ => rfl)) (fun _ _ _ => augStore_plain hi)

/-- a place in a while loop: what is left of the run -/
structure LpI (c : Cx) (S : Sc) (env : Env) (μ : List Addr) (s : Shared) (q : Fl × Cfg) (go : Cfg → Option (Fl × Cfg)) (s' : Shared) : Prop where
  ex : ∃ h tk μ' ρ H, s' = stOf s h tk ∧ LH c.fa μ' H h ∧ FrameOk c.fa S env ρ μ' h ∧ Xt (FAof env) μ s.heap μ' h ∧ go (ρ, H) = some q
/-- what a loop's turn leaves, told by how its body ended -/
@[elab_as_elim] theorem turn_end {r₀ : Fl × Cfg} {go : Cfg → Option (Fl × Cfg)} {P : Flow → Prop} (t : Xt (FAof env) μ s.heap μ' h') (r : ResS c.fa S env μ' (stOf s h' tk) r₀) (e : loopOn r₀ go = some q) (k : OkS c.fa S env μ s q Q)
    (again : go r₀.2 = some q → P .next) (brk : Q .next (stOf s r.h r.tk) → P .brk) (ret : ∀ v, Q (.ret v) (stOf s r.h r.tk) → P (.ret v)) : P r.fl := by
  have t' := t.trans r.xt
  obtain ⟨f, σ⟩ := r₀
  obtain ⟨fl, h₁, tk₁, μ₁, flr, lh, xt, fr⟩ := r
  cases flr with
  | next => exact again e
  | brk =>
    have e := Option.some.inj (show some (Fl.next, σ) = some q from e)
    exact brk (k ⟨.next, h₁, tk₁, μ₁, e ▸ .next, e ▸ lh, t', e ▸ fr⟩)
  | ret r =>
    have e := Option.some.inj (show some (Fl.ret _, σ) = some q from e)
    exact ret _ (k ⟨.ret _, h₁, tk₁, μ₁, e ▸ .ret r, e ▸ lh, t', e ▸ fr⟩)
theorem PtS.far (p : PtS c S A env ρ H μ s) {ρ' : Rho} {H' : HP} (l : LH c.fa μ' H' h') (F : FrameOk c.fa S env ρ' μ' h') (t : Xt (FAof env) μ s.heap μ' h') : PtS c S A env ρ' H' μ' (stOf s h' tk) := ⟨p.rm, p.eo, p.sn, F, p.wd.xt l t p.sn.fr⟩

theorem sx_whl {g : Expr} {b : List Stmt} {p : Pos} {m : Ex} {x : St} (h0 : Sd c S g m) (h1 : Sx c S (execs b) x) : Sx c S (exec (.While g b [] p)) (.whl m x) := fun A env ρ H μ s p q Q E e k => by
  refine wpAny_While (codeAny_whileLoop (fun k s' => LpI c S env μ s q (whileGo (fun σ => evB c.Φ m σ.1 σ.2) (fun σ => run c.Φ x σ) k) s') ?_ WF ⟨s.heap, s.toks, μ, ρ, H, rfl, p.wd.lh, p.fr, .refl, e⟩)
  rintro j s' ⟨h', tk, μ', ρ₁, H₁, rfl, l, F, t, hg⟩
  have p' := p.far (tk := tk) l F t
  cases j with
  | zero => exact no hg
  | succ j =>
    refine obK hg fun d ed hg => h0.tru p'.pt ed fun r => ?_
    obtain ⟨d, H₂⟩ := d
    have p'' := p'.afterB r
    have t' := t.trans r.xt.toF
    cases d with
    | false =>
      have e := Option.some.inj (show some (Fl.next, (ρ₁, H₂)) = some q from hg)
      exact (if_neg Bool.false_ne_true).symm ▸ wpAny_execs_nil (k ⟨.next, r.h, r.tk, r.μ', e ▸ .next, e ▸ r.lh, t', e ▸ p''.fr⟩)
    | true =>
      refine (if_pos rfl).symm ▸ obK (show ((run c.Φ x (ρ₁, H₂)).bind fun r => loopOn r (whileGo (fun σ => evB c.Φ m σ.1 σ.2) (fun σ => run c.Φ x σ) j)) = some q from hg) fun r₀ eb hg => h1 A env _ _ _ _ p'' r₀ _ _ eb fun r' => ?_
      exact turn_end (s := s) t' r' hg k (fun e => ⟨j, Nat.lt_succ_self _, r'.h, r'.tk, r'.μ', _, _, rfl, r'.lh, r'.fr, t'.trans r'.xt, e⟩) (fun h => h) (fun v h => h)
end

set_option genInjectivity false in
/-- all that a for's turns share -/
structure FC where
  c : Cx
  S : Sc
  A : Around
  env : Env
  ρ₀ : Rho
  H₀ : HP
  μ : List Addr
  s : Shared
  target : Expr
  ts : List Str
  tp : Bool
  is : List Nat
  I : Addr
  src : Src
  μ₀ : List Addr
  T : Nat → Heap → Prop
  p : PtS c S A env ρ₀ H₀ μ s
  ht : targetsOf target = some (ts, tp)
  hs : slots S ts = some is
  it : It c.prog c.w A c.fa I src μ₀ T
  iF : I ∉ FAof env
  nI : s.heap.get? I = none
structure FK (X : FC) (h : Heap) (μ' : List Addr) (ρ : Rho) (H : HP) (i : Nat) : Prop where
  lh : LH X.c.fa μ' H h
  fr : FrameOk X.c.fa X.S X.env ρ μ' h
  xt : Xt (FAof X.env) X.μ X.s.heap μ' h
  t : X.T i h
  pre : X.μ₀ <+: μ'
  fx : ∀ us, X.src = .fixed us → i ≤ us.length
noncomputable def FInv (X : FC) (q : Fl × Cfg) (go : Nat → Nat → Cfg → Option (Fl × Cfg)) (k : Nat) (s' : Shared) : Prop := ∃ h tk μ' ρ H i, s' = stOf X.s h tk ∧ FK X h μ' ρ H i ∧ go k i (ρ, H) = some q

section
variable {X : FC} {i j : Nat} {h h' : Heap} {tk tk' : Tok} {μ' : List Addr} {ρ : Rho} {H : HP}
theorem FK.pt (y : FK X h μ' ρ H i) : PtS X.c X.S X.A X.env ρ H μ' (stOf X.s h tk) := X.p.far y.lh y.fr y.xt
theorem FK.live (y : FK X h μ' ρ H i) : ItLive X.I h := X.it.live i h y.t
/-- the iterator goes on -/
theorem FK.off (y : FK X h μ' ρ H i) (hk : Kx [X.I] h h') : LH X.c.fa μ' H h' ∧ FrameOk X.c.fa X.S X.env ρ μ' h' ∧ Xt (FAof X.env) X.μ X.s.heap μ' h' := by
  have hv : NoV [X.I] h := all_one y.live.nv
  have hn : ∀ b o, X.s.heap.get? b = some o → b ∉ [X.I] := fun b o e hb => no (X.nI.symm.trans (List.mem_singleton.mp hb ▸ e))
  have t := y.xt
  obtain ⟨g, g1, g2⟩ := y.fr
  exact ⟨y.lh.off hk (all_one (y.live.mem y.lh)) hv, ⟨g, g1.keep fun a ha o e => hk a o (fun hb => X.iF (List.mem_singleton.mp hb ▸ ha)) e, (show VarsR X.c.fa X.S ρ μ' h g from g2).mono fun u v r => vr_off r hk hv⟩,
    ⟨t.pre, t.new, fun a o e => let ⟨o', e'⟩ := t.live a o e; ⟨o', hk a o' (hn a o e) e'⟩, fun b o e h1 h2 => hk b o (hn b o e) (t.keep b o e h1 h2), fun b o e hv => hk b o (hn b o e) (t.kv b o e hv), fun a o e1 e2 => hk a o (hn a o e2) (t.zero a o e1 e2)⟩⟩
theorem FK.itr (y : FK X h μ' ρ H i) (hk : Kx [X.I] h h') (hT : X.T j h') (hj : ∀ us, X.src = .fixed us → j ≤ us.length) : FK X h' μ' ρ H j := let ⟨h1, h2, h3⟩ := y.off hk; ⟨h1, h2, h3, hT, y.pre, hj⟩
/-- the body has run -/
theorem FK.on {r₀ : Fl × Cfg} (y : FK X h μ' ρ H i) (r : ResS X.c.fa X.S X.env μ' (stOf X.s h tk) r₀) : FK X r.h r.μ' r₀.2.1 r₀.2.2 i :=
  ⟨r.lh, r.fr, y.xt.trans r.xt, X.it.frame _ _ _ y.t fun o e => r.xt.keep _ _ e (y.live.mem y.lh) X.iF, y.pre.trans r.xt.pre, y.fx⟩
theorem for_item {xv : V} {v : Value} {ps : List V} {Q : Unit → Shared → Prop} {E : Value → Shared → Prop} (y : FK X h μ' ρ H i) (hps : parts X.tp X.is.length xv H = some ps) (rv : VR X.c.fa μ' h v xv) (k : ∀ h' tk', FK X h' μ' (setAll ρ X.is ps) H i → Q () (stOf X.s h' tk')) :
    wpAny X.c.M X.A (letOwnedTupleGo X.target (.ref X.I) v) (fun _ s₁' => wpAny X.c.M X.A (assign X.target X.env v) Q E s₁') E (stOf X.s h tk) := by
  obtain ⟨g, g1, g2⟩ := y.fr
  rw [slots_len X.ts X.hs] at hps
  refine letOwned_wp y.live (target_wp (s := stOf X.s h tk) (frm_env X.p.eo X.p.sn (slots_mem X.ts X.hs)) X.p.rm.1 X.ht hps rv y.lh g1 fun r => ?_)
  obtain ⟨l', t', F'⟩ := (y.pt (tk := tk)).laid g2 X.hs r.len r.t r.vr r.xt
  exact k r.h r.tk ⟨l', F', y.xt.trans t', X.it.frame _ _ _ y.t fun o e => r.xt.keep _ _ e List.not_mem_nil X.iF, y.pre, y.fx⟩
end

theorem sx_fr {c : Cx} {S : Sc} {t it : Expr} {b : List Stmt} {p : Pos} {ts : List Str} {tp : Bool} {is : List Nat} {m : Ex} {x : St} (ht : targetsOf t = some (ts, tp)) (hs : slots S ts = some is) (hset : notSet it = true) (h0 : Sd c S it m) (h1 : Sx c S (execs b) x) :
    Sx c S (exec (.For t it b [] p)) (.fr is tp m x) := fun A env ρ H μ s p q Q E e k => obK e fun xv ex e => obK e fun src es e => by
  refine wpAny_For (h0.val p.pt ex fun r₁ => src_wp p.rm.1 es r₁.vr r₁.lh fun r₂ => ?_) (folded_of hset env)
  have p₁ := p.after r₁
  have hIF : r₂.I ∉ FAof env := fun hm => by
    obtain ⟨g, hg, _⟩ := p₁.fr
    obtain ⟨o, ho, _⟩ := hg.live hm
    exact no (r₂.new.symm.trans ho)
  have hIs : s.heap.get? r₂.I = none := by
    cases e : s.heap.get? r₂.I with
    | none => rfl
    | some o => obtain ⟨o', e'⟩ := r₁.xt.live _ o e; exact no (r₂.new.symm.trans e')
  let X : FC := { c, S, A, env, ρ₀ := ρ, H₀ := H, μ, s, target := t, ts, tp, is, I := r₂.I, src, μ₀ := r₁.μ', T := r₂.T, p, ht, hs, it := r₂.it, iF := hIF, nI := hIs }
  have y₀ : FK X r₂.h r₁.μ' ρ xv.2 0 := ⟨r₁.lh.ext r₂.keep, p₁.fr.xt r₁.lh (.ext r₂.keep), (r₁.xt.trans (.ext r₂.keep)).toF, r₂.t0, List.prefix_refl _, fun _ _ => Nat.zero_le _⟩
  refine codeAny_forLoop_any (FInv X q (forGo is tp (fun σ => run c.Φ x σ) src)) ?_ (src.fuel xv.2) ⟨r₂.h, r₂.tk, r₁.μ', ρ, xv.2, 0, rfl, y₀, e⟩
  rintro j s' ⟨h', tk, μ', ρ₁, Hc, i, rfl, y, g⟩
  cases j with
  | zero => exact no g
  | succ j =>
    refine obK g fun xs hx g => oeK g (fun hnone g => ?_) fun xv hxv g => obK g fun ps hps g => obK g fun r₀ eb g => ?_
    · refine r₂.it.done i (stOf s h' tk) μ' Hc xs _ _ y.t y.lh y.pre hx hnone (fun us hu => y.fx us hu) fun h'' tk' hk => wpAny_execs_nil ?_
      have e := Option.some.inj (show some (Fl.next, (ρ₁, Hc)) = some q from g)
      have z := y.off hk
      exact k ⟨.next, h'', tk', μ', e ▸ .next, e ▸ z.1, z.2.2, e ▸ z.2.1⟩
    · refine r₂.it.item i (stOf s h' tk) μ' Hc xs xv _ _ y.t y.lh y.pre hx hxv fun v h'' tk' rv hT hk => ?_
      have hfx : ∀ us, src = .fixed us → i + 1 ≤ us.length := fun us hu => by
        rw [hu] at hx
        rw [Option.some.inj (show some us = some xs from hx)]
        exact lt_of_get hxv
      exact for_item (X := X) (y.itr hk hT hfx) hps rv fun h₅ tk₅ z => h1 A env _ _ _ _ z.pt r₀ _ _ eb fun r' => turn_end (s := s) z.xt r' g k (fun e => ⟨j, Nat.lt_succ_self _, r'.h, r'.tk, r'.μ', _, _, i + 1, rfl, z.on r', e⟩) (fun h => h) (fun v h => h)


section
variable {c : Cx} {S : Sc}

theorem sx_asg_plain {x : Str} {px p : Pos} {e : Expr} {i : Nat} {m : Ex} (hs : S.slot x = some i) (hc : isComp e = false) (hcs : isC 9 e = false ∧ isC 10 e = false) (h1 : Sd c S e m) : Sx c S (exec (.Assign [.Name x px] e p)) (.asg i m) :=
  sx_asg hs h1 fun _ _ _ _ _ _ _ => Or.inl (swaps_plain hc hcs)

theorem sx_asg_comp {x : Str} {px p : Pos} {elt target iter : Expr} {ifs : List Expr} {sc : Scope} {pos : Pos} {ts : List Str} {tp : Bool} {i : Nat} {m it cm : Ex} (hs : S.slot x = some i) (ht : targetsOf target = some (ts, tp)) (hS : ScOk S sc ts) (hset : notSet iter = true)
    (h1 : Sd c S iter it) (h2 : Sd c (inner S sc ts) elt m) (h3 : CondOk c (inner S sc ts) ifs cm) :
    Sx c S (exec (.Assign [.Name x px] (.ListComp elt [⟨target, iter, ifs, 0⟩] sc pos) p)) (.asg i (.comp m ts.length tp it cm)) :=
  sx_asg hs (sd_comp ht hS hset h1 h2 h3) fun A env ρ H μ s p' => by
    have hsw : ∃ b, swapsWith (.ListComp elt [⟨target, iter, ifs, 0⟩] sc pos) (some (.Name x px)) p.line env = pure b := ⟨_, rfl⟩
    obtain ⟨b, hb⟩ := hsw
    cases b with
    | false => exact Or.inl hb
    | true =>
      refine Or.inr ⟨hb, fun v Q E ev k => ?_⟩
      show wpAny _ A (do let _ ← comprehension (.ListComp elt [⟨target, iter, ifs, 0⟩] sc pos) sc env _ (newList []) false (eval iter env) (some (assign (.Name x px) env))) _ _ s
      refine wpAny_bind (wpAny_mono (comp_wp (Q := fun _ s' => Q .next s') (use := some (assign (.Name x px) env)) ht hS hset h1 h2 h3 p'.pt ev fun D C m' r hv hc hn => ?_) (fun _ _ h => wpAny_pure h) fun _ _ x => x)
      have hCF : C ∉ FAof env := fun hm => by
        obtain ⟨g, hg, _⟩ := p'.fr
        obtain ⟨o, ho, _⟩ := hg.live hm
        exact no (hc.symm.trans ho)
      show wpAny _ A (assign (.Name x px) env (.ref D)) _ _ _
      refine asg_post hs (p'.after r) (hv ▸ r.vr) fun h' tk l' t' F' hk => ?_
      have hn' : h'.Ns C m' := hn.at' fun o e => hk _ _ e hCF
      refine ⟨m', hn', fun h'' hs3 => ?_⟩
      have hk3 : Kx [C] h' h'' := .one hs3
      have tt := r.xt.toF.trans t'
      have hne : ∀ b o, s.heap.get? b = some o → b ∉ [C] := fun b o e hm => no (hc.symm.trans (List.mem_singleton.mp hm ▸ e))
      obtain ⟨g, g1, g2⟩ := F'
      exact k ⟨.next, h'', tk, r.μ', .next, l'.off hk3 (all_one (ns_not_mem l' hn')) (nov_ns hn'),
        ⟨tt.pre, tt.new, fun a o e => let ⟨o', e'⟩ := tt.live a o e; ⟨o', hk3 a o' (hne a o e) e'⟩, fun b o e h1 h2 => hk3 b o (hne b o e) (tt.keep b o e h1 h2), fun b o e hv => hk3 b o (hne b o e) (tt.kv b o e hv), fun a o e1 e2 => hk3 a o (hne a o e2) (tt.zero a o e1 e2)⟩,
        ⟨g, g1.keep fun a ha o e => hk3 a o (fun hm => hCF (List.mem_singleton.mp hm ▸ ha)) e, (show VarsR c.fa S _ r.μ' h' g from g2).mono fun u v r => vr_off r hk3 (nov_ns hn')⟩⟩

theorem cB_sx {F : Stmt → St} (hF : ∀ st, Sx c S (exec st) (F st)) (b : List Stmt) : Sx c S (execs b) (cB F b) := by
  induction b with
  | nil => exact sx_skip_execs
  | cons st r ih => exact sx_seq (hF st) ih

theorem sx_bad {X : Env → Sem Flow} : Sx c S X .bad := fun A env ρ H μ s p q Q E e k => no e
theorem sx_getD {X : Env → Sem Flow} {o : Option St} (h : ∀ x, o = some x → Sx c S X x) : Sx c S X (Option.getD (α := St) o .bad) := by
  cases o with
  | none => exact sx_bad
  | some x => exact h x rfl

section
variable (f : Expr → Option Ex) (ih : ∀ e m, f e = some m → Sd c S e m) (ik : ∀ e m, f e = some m → Kinds e)
include ih ik
theorem cFor_sx {t it : Expr} {b : List Stmt} {p : Pos} {y x : St} (hb : Sx c S (execs b) y) (h : cFor f S t it y = some x) : Sx c S (exec (.For t it b [] p)) x :=
  obK h fun q hq h => obK h fun is his h => omK h fun m hm h => h ▸ sx_fr (ts := q.1) (tp := q.2) hq his (ik _ _ hm).set (ih _ _ hm) hb
theorem cAug_sx {t v : Expr} {op : Operator} {p : Pos} {x : St} (h : cAug f t op v = some x) : Sx c S (exec (.AugAssign t op v p)) x := by
  have hv := view_of t
  unfold cAug at h
  cases hw : view t with
  | sub o i =>
    rw [hw] at h hv
    obtain ⟨p', rfl⟩ := hv
    obtain ⟨hc, h⟩ := og h
    have hc := bAnd hc
    exact obK h fun o' ho h => obK h fun i' hi h => omK h fun m hm h => h ▸ eq_of_beq hc.1 ▸ sx_aug (bNot hc.2) (ih _ _ ho) (ih _ _ hi) (ih _ _ hm)
  | _ => rw [hw] at h; exact no h
theorem cTgt_sx (hcomp : ∀ {x i m px p v}, isComp v = true → S.slot x = some i → f v = some m → Sx c S (exec (.Assign [.Name x px] v p)) (.asg i m)) {t v : Expr} {p : Pos} {x : St} (h : cTgt f S t v = some x) : Sx c S (exec (.Assign [t] v p)) x := by
  have hv := view_of t
  unfold cTgt at h
  cases hw : view t with
  | name y =>
    rw [hw] at h hv
    obtain ⟨p', rfl⟩ := hv
    refine obK h fun i hi h => omK h fun m hm h => h ▸ ?_
    cases hc : isComp v with
    | true => exact hcomp hc hi hm
    | false => exact sx_asg_plain hi hc (ik _ _ hm).sc (ih _ _ hm)
  | sub o i =>
    rw [hw] at h hv
    obtain ⟨p', rfl⟩ := hv
    obtain ⟨hc, h⟩ := og h
    have hc := bAnd hc
    exact obK h fun o' ho h => obK h fun i' hi h => omK h fun m hm h => h ▸ sx_setI (bNot hc.2) (ik _ _ hm).sc (ih _ _ hm) (ih _ _ ho) (ih _ _ hi)
  | tup es =>
    rw [hw] at h hv
    obtain ⟨j, p', rfl⟩ := hv
    obtain ⟨hc, h⟩ := og h
    have hc := bAnd hc
    exact obK h fun xs hn h => obK h fun is his h => omK h fun m hm h => h ▸ sx_unp hn his (bNot hc.1) (ih _ _ hm)
  | _ => rw [hw] at h; exact no h
end

section
variable (hΦ : FnOk c) (hF : FaOk c.fa c.h₀) (hG : GlobOk c.fa c.h₀ S.gl)
include hΦ hF hG
theorem comp_asg {k : Nat} {x : Str} {i : Nat} {m : Ex} {px p : Pos} {v : Expr} (hc : isComp v = true) (hs : S.slot x = some i) (hm : cE k S v = some m) : Sx c S (exec (.Assign [.Name x px] v p)) (.asg i m) := by
  cases v with
  | ListComp elt gens sc pos =>
    cases k with
    | zero => exact no hm
    | succ k =>
      obtain ⟨target, iter, ifs, ts, tp, m, it, cm, rfl, htg, hsc, hm', hit, hcm, rfl⟩ := cComp_inv hm
      exact sx_asg_comp hs htg (scOk_of hsc) (cE_form hit).set (cE_sd hΦ hF k S hG _ _ hit) (cE_sd hΦ hF k (inner S sc ts) hG _ _ hm') (cIfs_ok (cE_sd hΦ hF k (inner S sc ts) hG) hcm)
  | _ => exact nf hc
omit hΦ hF hG
theorem cSo_sx {f : Expr → Option Ex} {g : Stmt → St} (ie : ∀ e m, f e = some m → Sd c S e m) (ik : ∀ e m, f e = some m → Kinds e) (ihb : ∀ b, Sx c S (execs b) (cB g b)) (hcomp : ∀ {x i m px p v}, isComp v = true → S.slot x = some i → f v = some m → Sx c S (exec (.Assign [.Name x px] v p)) (.asg i m)) {st : Stmt} {x : St} (h : cSo f g S st = some x) : Sx c S (exec st) x := by
  cases st with
  | Pass p => cases Option.some.inj h; exact sx_pass
  | Break p => cases Option.some.inj h; exact sx_brk
  | Return v p => exact obK h fun e hv h => omK h fun m hm h => h ▸ hv ▸ sx_ret (ie _ _ hm)
  | Expr e p =>
    obtain ⟨hc, h⟩ := og h
    exact omK h fun m hm h => h ▸ sx_exp (bNot hc) (ik _ _ hm).sc (ie _ _ hm)
  | If t b o p => exact omK h fun m hm h => h ▸ sx_ite (ie _ _ hm) (ihb b) (ihb o)
  | While t b o p =>
    obtain ⟨hc, h⟩ := og h
    rw [List.isEmpty_iff.mp hc]
    exact omK h fun m hm h => h ▸ sx_whl (ie _ _ hm) (ihb b)
  | For t it b o p =>
    obtain ⟨hc, h⟩ := og h
    rw [List.isEmpty_iff.mp hc]
    exact cFor_sx _ ie ik (ihb b) h
  | AugAssign t op v p => exact cAug_sx _ ie ik h
  | Assign ts v p =>
    cases ts with
    | nil => exact no h
    | cons t r =>
      obtain ⟨hc, h⟩ := og h
      rw [eq_single hc]
      exact cTgt_sx _ ie ik hcomp h
  | _ => exact no h
end

theorem cS_sx (hΦ : FnOk c) (hF : FaOk c.fa c.h₀) (hG : GlobOk c.fa c.h₀ S.gl) (k : Nat) : ∀ (st : Stmt), Sx c S (exec st) (cS k S st) := by
  induction k with
  | zero => exact fun st => sx_bad
  | succ k IH => exact fun st => sx_getD fun x h => cSo_sx (cE_sd hΦ hF k S hG) (fun e m h => cE_form h) (cB_sx IH) (fun h1 h2 h3 => comp_asg hΦ hF hG h1 h2 h3) h
end


/-! defs -/
noncomputable def nmOf (sc : Scope) : List Str := (sc.names.filter fun x => x.2 == .local || x.2 == .cell).map (·.1)
noncomputable def fnSc (gl : Str → Option V) (sc : Scope) : Sc := { n := (nmOf sc).length, kind := fun x => sc.names.lookup x, slot := fun x => if (nmOf sc).contains x then some ((nmOf sc).idxOf x) else none, gl }

theorem cells_mem : ∀ (names : List (Str × NameKind)) (n : Nat) (acc : List (Str × Addr)), (∀ p ∈ acc, p.2 < n) → acc.Pairwise (fun x y => x.2 ≠ y.2) →
    (cellsFrom n names acc).Pairwise (fun x y => x.2 ≠ y.2) ∧ ∀ p ∈ cellsFrom n names acc, p ∈ acc ∨ n ≤ p.2
  | [], n, acc, h1, h2 => ⟨h2, fun p hp => Or.inl hp⟩
  | (x, k) :: r, n, acc, h1, h2 => by
    unfold cellsFrom
    split
    · obtain ⟨g1, g2⟩ := cells_mem r (n + 1) ((x, n) :: acc) (fun p hp => by
        rcases List.mem_cons.mp hp with rfl | hp
        · exact Nat.lt_succ_self _
        · exact Nat.lt_succ_of_lt (h1 p hp)) (List.pairwise_cons.mpr ⟨fun p hp e => by
          have := h1 p hp
          have e' : n = p.2 := e
          rw [← e'] at this
          exact Nat.lt_irrefl _ this, h2⟩)
      refine ⟨g1, fun p hp => ?_⟩
      rcases g2 p hp with h | h
      · rcases List.mem_cons.mp h with rfl | h
        · exact Or.inr (Nat.le_refl _)
        · exact Or.inl h
      · exact Or.inr (Nat.le_of_succ_le h)
    · exact cells_mem r n acc h1 h2
theorem lookup_of_mem {α : Type} : ∀ {l : List (Str × α)} {x : Str} {a : α}, (x, a) ∈ l → ∃ b, l.lookup x = some b
  | (y, b) :: l, x, a, h => by
    cases e : x == y with
    | true => exact ⟨b, by simp [List.lookup_cons, e]⟩
    | false =>
      rcases List.mem_cons.mp h with h | h
      · cases h; simp at e
      · obtain ⟨b', hb⟩ := lookup_of_mem h
        exact ⟨b', by simp [List.lookup_cons, e, hb]⟩
theorem cells_has : ∀ (names : List (Str × NameKind)) (n : Nat) (acc : List (Str × Addr)) (x : Str), ((x, NameKind.cell) ∈ names ∨ ∃ c, (x, c) ∈ acc) → ∃ c, (x, c) ∈ cellsFrom n names acc
  | [], n, acc, x, h => by
    rcases h with h | h
    · simp at h
    · exact h
  | (y, k) :: r, n, acc, x, h => by
    unfold cellsFrom
    split
    · rename_i hk
      refine cells_has r (n + 1) _ x ?_
      rcases h with h | ⟨c, h⟩
      · rcases List.mem_cons.mp h with h | h
        · cases h; exact Or.inr ⟨n, List.mem_cons_self ..⟩
        · exact Or.inl h
      · exact Or.inr ⟨c, List.mem_cons_of_mem _ h⟩
    · rename_i hk
      refine cells_has r n _ x ?_
      rcases h with h | h
      · rcases List.mem_cons.mp h with h | h
        · cases h; exact absurd rfl hk
        · exact Or.inl h
      · exact Or.inr h
theorem lookup_nodup {α : Type} : ∀ {l : List (Str × α)} {x : Str} {a : α}, (l.map (·.1)).Nodup → (x, a) ∈ l → l.lookup x = some a
  | (y, b) :: l, x, a, hn, h => by
    obtain ⟨n1, n2⟩ := List.nodup_cons.mp hn
    rcases List.mem_cons.mp h with h | h
    · cases h; simp
    · have : (x == y) = false := by
        cases e : x == y with
        | false => rfl
        | true => exact absurd (List.mem_map.mpr ⟨_, h, eq_of_beq e⟩) n1
      simp [List.lookup_cons, this, lookup_nodup n2 h]

section
variable {gl : Str → Option V} {sc : Scope} {env : Env} {L : Addr}

theorem nm_kind (hnd : (sc.names.map (·.1)).Nodup) {x : Str} (hx : x ∈ nmOf sc) : sc.names.lookup x = some .local ∨ sc.names.lookup x = some .cell := by
  obtain ⟨p, hp, rfl⟩ := List.mem_map.mp hx
  obtain ⟨h1, h2⟩ := List.mem_filter.mp hp
  obtain ⟨y, k⟩ := p
  simp only [Bool.or_eq_true, beq_iff_eq] at h2
  rw [lookup_nodup hnd h1]
  rcases h2 with rfl | rfl
  · exact Or.inl rfl
  · exact Or.inr rfl
theorem nm_nodup (hnd : (sc.names.map (·.1)).Nodup) : (nmOf sc).Nodup := by
  have : List.Sublist (nmOf sc) (sc.names.map (·.1)) := List.Sublist.map _ List.filter_sublist
  exact this.nodup hnd

theorem slot_inv {x : Str} {i : Nat} (h : (fnSc gl sc).slot x = some i) : x ∈ nmOf sc ∧ i = (nmOf sc).idxOf x ∧ i < (nmOf sc).length := by
  simp only [fnSc] at h
  split at h
  · rename_i hm
    cases h
    have hm' : x ∈ nmOf sc := by simpa using hm
    exact ⟨hm', rfl, List.idxOf_lt_length_of_mem hm'⟩
  · cases h

theorem entry_env (h1 : env.scope = sc) (h3 : env.cells = cellsFrom (L + 1) sc.names []) (h4 : env.globals = mainGlobals) (h5 : env.builtins = builtinsNs) (hk : sc.kind = .function) (hnd : (sc.names.map (·.1)).Nodup) : EnvOk (fnSc gl sc) env where
  fn := by rw [h1]; exact hk
  gl := h4
  bi := h5
  kind := fun x => by simp only [Env.kindOf, h1, fnSc]
  cell := fun x hx => by
    simp only [Env.kindOf, h1] at hx
    rw [h3]
    obtain ⟨c, hc⟩ := cells_has sc.names (L + 1) [] x (Or.inl (mem_of_lookup hx))
    exact lookup_of_mem hc
  sl := fun x i hx => by
    obtain ⟨a, b, c⟩ := slot_inv hx
    exact ⟨c, nm_kind hnd a⟩
theorem idx_inj {l : List Str} {x y : Str} (hx : x ∈ l) (hy : y ∈ l) (h : l.idxOf x = l.idxOf y) : x = y := by
  have h1 := List.getElem?_eq_getElem (List.idxOf_lt_length_of_mem hx)
  have h2 := List.getElem?_eq_getElem (List.idxOf_lt_length_of_mem hy)
  rw [List.getElem_idxOf] at h1 h2
  rw [h, h2] at h1
  exact (Option.some.inj h1).symm
theorem entry_senv {h₀ : Heap} (h2 : env.locals = L) (h3 : env.cells = cellsFrom (L + 1) sc.names []) (hf : ∀ a, L ≤ a → h₀.get? a = none) : SEnv (fnSc gl sc) env h₀ := by
  obtain ⟨g1, g2⟩ := cells_mem sc.names (L + 1) [] (fun p hp => by simp at hp) List.Pairwise.nil
  have up : ∀ x c, env.cells.lookup x = some c → L + 1 ≤ c := fun x c e => by
    rw [h3] at e
    rcases g2 _ (mem_of_lookup e) with h | h
    · simp at h
    · exact h
  refine ⟨fun x y i hx hy => ?_, fun x y c hx hy => ?_, fun x c hx => ?_, fun a ha => ?_⟩
  · obtain ⟨a1, b1, _⟩ := slot_inv hx
    obtain ⟨a2, b2, _⟩ := slot_inv hy
    exact idx_inj a1 a2 (b1.symm.trans b2)
  · rw [h3] at hx hy
    exact PySem.name_of_addr g1 (mem_of_lookup hx) (mem_of_lookup hy)
  · rw [h2]; exact Nat.ne_of_gt (up x c hx)
  · rcases fa_mem ha with rfl | ⟨x, hx⟩
    · exact hf _ (by rw [h2]; exact Nat.le_refl _)
    · exact hf _ (Nat.le_of_succ_le (up x a hx))

/-- the names bound, and what each holds -/
noncomputable def BoundTo (pn : List Str) (us : List Value) (m : Str → Option Value) (x : Str) : Prop := ∀ (i : Nat) (u : Value), pn[i]? = some x → us[i]? = some u → m x = some u
theorem bindL_other {kindOf : Str → Option NameKind} (pn : List Str) : ∀ {us : List Value} {m : Str → Option Value} {x : Str}, x ∉ pn → bindL kindOf (pn.zip us) m x = m x := by
  induction pn with
  | nil => intro us m x _; rfl
  | cons p pn ih =>
    intro us m x h
    cases us with
    | nil => rfl
    | cons u us =>
      refine (ih fun hm => h (List.mem_cons_of_mem _ hm)).trans ?_
      by_cases hk : kindOf p = some .local
      · rw [if_pos hk]; exact if_neg fun (e : x = p) => h (e ▸ List.mem_cons_self ..)
      · rw [if_neg hk]
theorem bindC_other {kindOf : Str → Option NameKind} (pn : List Str) : ∀ {us : List Value} {m : Str → Option Value} {x : Str}, x ∉ pn → bindC kindOf (pn.zip us) m x = m x := by
  induction pn with
  | nil => intro us m x _; rfl
  | cons p pn ih =>
    intro us m x h
    cases us with
    | nil => rfl
    | cons u us =>
      refine (ih fun hm => h (List.mem_cons_of_mem _ hm)).trans ?_
      by_cases hk : kindOf p = some .local
      · rw [if_pos hk]
      · rw [if_neg hk]; exact if_neg fun (e : x = p) => h (e ▸ List.mem_cons_self ..)
theorem bindL_at {kindOf : Str → Option NameKind} {x : Str} (hk : kindOf x = some .local) (pn : List Str) : ∀ {us : List Value} {m : Str → Option Value}, pn.Nodup → BoundTo pn us (bindL kindOf (pn.zip us) m) x := by
  induction pn with
  | nil => intro us m _ i u h; exact no h
  | cons p pn ih =>
    intro us m hn i u h1 h2
    cases us with
    | nil => exact no h2
    | cons v us =>
      cases i with
      | zero =>
        have h1 := Option.some.inj h1
        rw [← Option.some.inj h2]
        refine (bindL_other pn (h1 ▸ (List.nodup_cons.mp hn).1)).trans ?_
        rw [h1, if_pos hk]; exact if_pos rfl
      | succ i => exact ih (List.nodup_cons.mp hn).2 i u h1 h2
theorem bindC_at {kindOf : Str → Option NameKind} {x : Str} (hk : kindOf x ≠ some .local) (pn : List Str) : ∀ {us : List Value} {m : Str → Option Value}, pn.Nodup → BoundTo pn us (bindC kindOf (pn.zip us) m) x := by
  induction pn with
  | nil => intro us m _ i u h; exact no h
  | cons p pn ih =>
    intro us m hn i u h1 h2
    cases us with
    | nil => exact no h2
    | cons v us =>
      cases i with
      | zero =>
        have h1 := Option.some.inj h1
        rw [← Option.some.inj h2]
        refine (bindC_other pn (h1 ▸ (List.nodup_cons.mp hn).1)).trans ?_
        rw [h1, if_neg hk]; exact if_pos rfl
      | succ i => exact ih (List.nodup_cons.mp hn).2 i u h1 h2

/-- the slots of a call's beginning -/
noncomputable def rho0 (sc : Scope) (ls : List V) : Rho := rhoF (nmOf sc).length ls
theorem entry_frame {fa : Nat → Option Addr} {μ : List Addr} {h : Heap} {us : List Value} {ls : List V} {pn : List Str} (h1 : env.scope = sc) (hnd : (sc.names.map (·.1)).Nodup) (hpn : pn <+: nmOf sc) (hl : us.length = pn.length)
    (hns : h.Ns env.locals (bindL env.kindOf (pn.zip us) fun _ => none)) (hc : ∀ n c, env.cells.lookup n = some c → h.IsCell c (bindC env.kindOf (pn.zip us) (fun _ => none) n)) (r : VRs fa μ h us ls) :
    FrameOk fa (fnSc gl sc) env (rho0 sc ls) μ h := by
  have hlen : ls.length = pn.length := r.length.symm.trans hl
  have hpl : pn.length ≤ (nmOf sc).length := hpn.length_le
  have hpd : pn.Nodup := hpn.sublist.nodup (nm_nodup hnd)
  refine ⟨fun x => if env.kindOf x = some .local then bindL env.kindOf (pn.zip us) (fun _ => none) x else bindC env.kindOf (pn.zip us) (fun _ => none) x, ⟨⟨_, hns, fun x hx => (if_pos hx).symm⟩, fun x c hx => ⟨_, hc x c hx, fun hk => (if_neg (show ¬ env.kindOf x = some .local from fun e => by rw [hk] at e; cases e)).symm⟩⟩, ?_, fun x i v hs hv => ?_⟩
  · unfold rho0 rhoF
    rw [List.length_append, List.length_map, List.length_replicate, hlen]
    exact Nat.add_sub_cancel' hpl
  obtain ⟨a1, rfl, a3⟩ := slot_inv hs
  unfold rho0 rhoF at hv
  rcases Nat.lt_or_ge ((nmOf sc).idxOf x) ls.length with hi | hi
  · rw [List.getElem?_append_left (by rw [List.length_map]; exact hi), List.getElem?_map] at hv
    refine omK hv fun q hq e => ?_
    rw [← Option.some.inj e]
    obtain ⟨u, g1, g2⟩ := r.get hq
    refine ⟨u, ?_, g2⟩
    have hx : pn[(nmOf sc).idxOf x]? = some x := by
      obtain ⟨t, ht⟩ := hpn
      have h1 := List.getElem?_eq_getElem (List.idxOf_lt_length_of_mem a1)
      rw [List.getElem_idxOf] at h1
      rw [← ht, List.getElem?_append_left (by rw [ht]; exact hlen ▸ hi)] at h1
      rw [← ht]; exact h1
    by_cases hk : env.kindOf x = some .local
    · exact (if_pos hk).trans (bindL_at hk pn hpd _ u hx g1)
    · exact (if_neg hk).trans (bindC_at hk pn hpd _ u hx g1)
  · rw [List.getElem?_append_right (by rw [List.length_map]; exact hi), List.getElem?_replicate] at hv
    exact oiK hv fun _ e => nomatch Option.some.inj e
end

/-- what the arguments bind -/
structure BindR (fa : Nat → Option Addr) (h₀ : Heap) (fd : FuncData) (ρ : Rho) (μ : List Addr) (h : Heap) (vs : List Value) (kws : List (Str × Value)) : Prop where
  ex : ∃ us ls pn, (∀ s : Shared, (∀ b o, h₀.get? b = some o → s.heap.get? b = some o) → BindsTo s fd ⟨vs, kws⟩ (pn.zip us)) ∧ pn <+: nmOf fd.scope ∧ us.length = pn.length ∧ VRs fa μ h us ls ∧ ρ = rho0 fd.scope ls
/-- what is known of a def -/
structure FnD (fa : Nat → Option Addr) (h₀ : Heap) (gl : Str → Option V) (a : Addr) (f : Fn) (o : Obj) (fd : FuncData) (body : List Stmt) (fuel : Nat) : Prop where
  ho : h₀.get? a = some o
  hd : o.data = .func fd
  co : fd.scope.isCoroutine = false
  gen : fd.scope.isGenerator = false
  kind : fd.scope.kind = .function
  bd : fd.body = .stmts body
  cd : h₀.CodeRec fd.code fd.qualname
  clo : fd.closure = []
  glob : fd.globals = mainGlobals
  bi : fd.builtins = builtinsNs
  nd : (fd.scope.names.map (·.1)).Nodup
  fb : f.body = cB (cS fuel (fnSc gl fd.scope)) body
  bind : ∀ args key ρ, bindV f args key = some ρ → ∀ (μ : List Addr) (h : Heap) (vs : List Value) (kws : List (Str × Value)), VRs fa μ h vs args → KwOk fa μ h key kws → (∀ b o, h₀.get? b = some o → h.get? b = some o) → BindR fa h₀ fd ρ μ h vs kws

theorem Xt.drop {FA μ μ' : List Addr} {h h' : Heap} (x : Xt FA μ h μ' h') (hF : ∀ a ∈ FA, h.get? a = none) : Xt [] μ h μ' h' :=
  ⟨x.pre, x.new, x.live, fun b o e h1 _ => x.keep b o e h1 (fun hm => no ((hF b hm).symm.trans e)), x.kv, x.zero⟩

noncomputable def DefsOk (fa : Nat → Option Addr) (h₀ : Heap) (gl : Str → Option V) (Δ : Nat → Option Fn) : Prop := ∀ k a f, fa k = some a → Δ k = some f → ∃ o fd body fuel, FnD fa h₀ gl a f o fd body fuel

section
variable {prog : Program} {w : World} {fa : Nat → Option Addr} {h₀ : Heap} {gl : Str → Option V} {Δ : Nat → Option Fn}

theorem no_above (h : Heap) : ∀ x, h.objs.size ≤ x → h.get? x = none := fun x hx => by
  cases e : h.get? x with
  | none => rfl
  | some o' => exact absurd (Heap.lt_size e) (Nat.not_lt.mpr hx)

/-- how a call ends -/
theorem call_end {S : Sc} {env : Env} {μ : List Addr} {s : Shared} {h' : Heap} {tk : Tok} {q : Fl × Cfg} {v : V} {R : Result → Shared → Prop} (hN : SEnv S env s.heap) (hv : retOf q.1 = some v) (t₀ : Xt [] μ s.heap μ h') (hq : OkR fa μ s v q.2.2 R)
    (r : ResS fa S env μ (stOf s h' tk) q) : R (.ok (.ret (match r.fl with | .ret v => v | _ => .none))) r.st := by
  have t := ((t₀.toF (FA := FAof env)).trans r.xt).drop hN.fr
  obtain ⟨f, σ⟩ := q
  obtain ⟨fl, h₁, tk₁, μ₁, flr, lh, xt, fr⟩ := r
  cases flr with
  | next => exact hq ⟨.none, h₁, tk₁, μ₁, Option.some.inj hv ▸ .none, lh, t⟩
  | brk => exact no hv
  | ret r => exact hq ⟨_, h₁, tk₁, μ₁, Option.some.inj hv ▸ r, lh, t⟩

theorem callF_sound (hF : FaOk fa h₀) (hG : GlobOk fa h₀ gl) (hlim : h₀.NoLimit) (hD : DefsOk fa h₀ gl Δ) (n : Nat) : FnOk ⟨prog, w, fa, h₀, callF Δ n, n⟩ := by
  induction n with
  | zero => exact fun k args key H q e => no e
  | succ n ih =>
    refine fun k args key H q e A s μ a vs kws R hR hW hfa rs hk hq => obK e fun f hf e => obK e fun ρ hρ e => obK e fun p hrun e => omK e fun v hv e => ?_
    obtain ⟨o, fd, body, fuel, D⟩ := hD k a f hfa hf
    obtain ⟨us, ls, pn, hbind, hpn, hul, rus, hρ'⟩ := (D.bind args key ρ hρ μ s.heap vs kws rs hk hW.base).ex
    have hcd' : s.heap.CodeRec fd.code fd.qualname := by
      obtain ⟨c, oc, vs', tq, g1, g2, g3, g4⟩ := D.cd
      exact ⟨c, oc, vs', tq, g1, hW.base _ _ g2, g3, g4⟩
    refine PySem.codeAny_call_function (Nat.lt_of_le_of_lt (Nat.le_add_right _ _) hR.2.1) (hW.base _ _ D.ho) D.hd D.co D.gen D.bd hcd' (hbind s hW.base _ _ _ _ ?_)
    rw [D.clo]
    refine wpAny_newFunctionEnv_cells D.kind (fun x hx => ?_) fun env he s' X => ?_
    · rcases nm_kind D.nd (hpn.subset (List.of_mem_zip hx).1) with h | h
      · exact Or.inl h
      · refine Or.inr ⟨h, ?_⟩
        obtain ⟨c, hc⟩ := cells_has fd.scope.names (s.heap.objs.size + 1) [] x.1 (Or.inl (mem_of_lookup h))
        obtain ⟨c', hc'⟩ := lookup_of_mem hc
        rw [hc']; rfl
    obtain ⟨h', tk, hs', hkeep⟩ := X.done
    have e1 : env.scope = fd.scope := by rw [he]; rfl
    have e2 : env.locals = s.heap.objs.size := by rw [he]; rfl
    have e3 : env.cells = cellsFrom (s.heap.objs.size + 1) fd.scope.names [] := by rw [he]; rfl
    have hE : EnvOk (fnSc gl fd.scope) env := entry_env e1 e3 (by rw [he]; exact D.glob) (by rw [he]; exact D.bi) D.kind D.nd
    have hN : SEnv (fnSc gl fd.scope) env h₀ := entry_senv e2 e3 fun x hx => by
      cases e : h₀.get? x with
      | none => rfl
      | some o' => exact no ((no_above s.heap x hx).symm.trans (hW.base _ _ e))
    have hN' : SEnv (fnSc gl fd.scope) env s.heap := entry_senv e2 e3 (no_above s.heap)
    rw [hs'] at X ⊢
    have hFr : FrameOk fa (fnSc gl fd.scope) env (rho0 fd.scope ls) μ h' := entry_frame (env := env) e1 D.nd hpn hul X.toInCall.ns X.cell (rus.mono (List.prefix_refl _) fun b o e _ => hkeep b o e)
    have t₀ : Xt [] μ s.heap μ h' := .ext hkeep
    have l' : LH fa μ H h' := hW.lh.ext hkeep
    have main := cB_sx (fun st => cS_sx (S := fnSc gl fd.scope) ih hF hG fuel st) body
    rw [← D.fb] at main
    rw [hρ'] at hrun
    rw [← e] at hq
    exact ⟨(hlim.keeps hW.base).keeps hkeep, codeAny_func (main (A.deeper env) env _ H μ (stOf s h' tk) ⟨hR.deeper env, hE, hN, hFr, hW.xt l' t₀ fun a h => (List.not_mem_nil h).elim⟩ p _ _ hrun fun r => call_end hN' hv t₀ hq r)⟩
end


/-! the text's objects, read from the fragment -/
noncomputable def biTab : List (Str × Bi) := [("len", .len), ("range", .range), ("int", .int), ("abs", .abs), ("divmod", .divmod), ("isinstance", .isinstance), ("bytes", .bytes), ("list", .list), ("min", .min), ("max", .max), ("sorted", .sorted)]
noncomputable def biOf (x : Str) : Option Bi := biTab.lookup x
noncomputable def BiFact (p : Str × Bi) : Prop := p.1 ≠ "__name__" ∧ bootBuiltins p.1 = some p.2.val
theorem fa_cons {α : Type} {P : α → Prop} {a : α} {l : List α} (h : P a) (hl : ∀ x ∈ l, P x) : ∀ x ∈ a :: l, P x := List.forall_mem_cons.mpr ⟨h, hl⟩
theorem bf_len : BiFact ("len", .len) := ⟨by decide +kernel, by kernel_rfl⟩
theorem bf_range : BiFact ("range", .range) := ⟨by decide +kernel, by kernel_rfl⟩
theorem bf_int : BiFact ("int", .int) := ⟨by decide +kernel, by kernel_rfl⟩
theorem bf_abs : BiFact ("abs", .abs) := ⟨by decide +kernel, by kernel_rfl⟩
theorem bf_divmod : BiFact ("divmod", .divmod) := ⟨by decide +kernel, by kernel_rfl⟩
theorem bf_isinstance : BiFact ("isinstance", .isinstance) := ⟨by decide +kernel, by kernel_rfl⟩
theorem bf_bytes : BiFact ("bytes", .bytes) := ⟨by decide +kernel, by kernel_rfl⟩
theorem bf_list : BiFact ("list", .list) := ⟨by decide +kernel, by kernel_rfl⟩
theorem bf_min : BiFact ("min", .min) := ⟨by decide +kernel, by kernel_rfl⟩
theorem bf_max : BiFact ("max", .max) := ⟨by decide +kernel, by kernel_rfl⟩
theorem bf_sorted : BiFact ("sorted", .sorted) := ⟨by decide +kernel, by kernel_rfl⟩
theorem biOf_val {x : Str} {b : Bi} (h : biOf x = some b) : BiFact (x, b) :=
  fa_cons bf_len (fa_cons bf_range (fa_cons bf_int (fa_cons bf_abs (fa_cons bf_divmod (fa_cons bf_isinstance (fa_cons bf_bytes (fa_cons bf_list (fa_cons bf_min (fa_cons bf_max (fa_cons bf_sorted fun _ h => (List.not_mem_nil h).elim)))))))))) (x, b) (mem_of_lookup h)
noncomputable def addrV : Option Value → Option Addr
  | none => none
  | some v => (match v with
    | .ref a => some a
    | _ => none)
noncomputable def addrK (K : Frag) (x : Str) : Option Addr := (nsIn K mainGlobals x).bind addrV
noncomputable def faK (K : Frag) (ns : List Str) (k : Nat) : Option Addr := (ns[k]?).bind (addrK K)
noncomputable def glV (ns : List Str) (x : Str) : Option Value → Option V
  | none => (biOf x).map .bi
  | some v => (match v with
    | .ref _ => if ns.contains x then some (.fn (ns.idxOf x)) else none
    | .int i _ => some (.int i)
    | _ => none)
noncomputable def glK (K : Frag) (ns : List Str) (x : Str) : Option V := (nsIn K mainGlobals x).bind (glV ns x)
noncomputable def funcOf (o : Obj) : Option FuncData := match o.data with
  | .func fd => some fd
  | _ => none
noncomputable def fdK (K : Frag) (ns : List Str) (k : Nat) : Option FuncData := (faK K ns k).bind fun a => (K.lookup a).bind funcOf
noncomputable def bodyOf (fd : FuncData) : List Stmt := match fd.body with
  | .stmts b => b
  | _ => []
noncomputable def isStmts (fd : FuncData) : Bool := match fd.body with
  | .stmts _ => true
  | _ => false
theorem body_of {fd : FuncData} (h : isStmts fd = true) : fd.body = .stmts (bodyOf fd) := by
  unfold isStmts at h
  unfold bodyOf
  cases hb : fd.body with
  | stmts b => rfl
  | _ => rw [hb] at h; exact nf h
noncomputable def pnOf (fd : FuncData) : List Str := fd.params.args.map (·.arg) ++ fd.params.kwonlyargs.map (·.arg)
noncomputable def fnK (gl : Str → Option V) (fd : FuncData) : Fn :=
  { params := fd.params.args.length, key := !fd.params.kwonlyargs.isEmpty, slots := (nmOf fd.scope).length, body := cB (cS 40 (fnSc gl fd.scope)) (bodyOf fd) }
noncomputable def deltaK (K : Frag) (ns : List Str) (k : Nat) : Option Fn := (fdK K ns k).map (fnK (glK K ns))
noncomputable def fdOk (K : Frag) (fd : FuncData) : Bool :=
  !fd.scope.isCoroutine && !fd.scope.isGenerator && fd.scope.kind == .function && isStmts fd && codeIn K fd.code fd.qualname && fd.closure.isEmpty && Nat.beq fd.globals mainGlobals && Nat.beq fd.builtins builtinsNs &&
    decide ((fd.scope.names.map (·.1)).Nodup) && (pnOf fd).isPrefixOf (nmOf fd.scope)
noncomputable def dtok (K : Frag) (fd : FuncData) : Nat := match fd.defaults with
  | .ref a => (match K.lookup a with
    | some ⟨_, _, .seq xs _, _⟩ => (match xs.toList with | .int _ t :: _ => t | _ => 0)
    | _ => 0)
  | _ => 0
/-- what a call's arguments bind, in the fragment -/
noncomputable def PeekTo (K : Frag) (fd : FuncData) (vs : List Value) (kws : List (Str × Value)) (us : List Value) : Prop := ∀ S : Setting, peek K S (bindArgs fd ⟨vs, kws⟩) = some ((pnOf fd).zip us)
noncomputable def BindP (K : Frag) (fd : FuncData) : Prop := fd.params.kwonlyargs = [] ∧ ∀ (vs : List Value), vs.length = fd.params.args.length → PeekTo K fd vs [] vs
noncomputable def BindD (K : Frag) (fd : FuncData) : Prop := fd.params.kwonlyargs.length = 1 ∧ fd.params.args.length = 4 ∧
  (∀ v1 v2, PeekTo K fd [v1, v2] [] [v1, v2, .int 0 (dtok K fd), .none, .none]) ∧ (∀ v1 v2 vk, PeekTo K fd [v1, v2] [("key", vk)] [v1, v2, .int 0 (dtok K fd), .none, vk]) ∧
  (∀ v1 v2 v3 v4, PeekTo K fd [v1, v2, v3, v4] [] [v1, v2, v3, v4, .none]) ∧ (∀ v1 v2 v3 v4 vk, PeekTo K fd [v1, v2, v3, v4] [("key", vk)] [v1, v2, v3, v4, vk])

section
variable {K : Frag} {h₀ : Heap} {ns : List Str} {fa : Nat → Option Addr} {gl : Str → Option V}

theorem binds_of {fd : FuncData} {vs : List Value} {kws : List (Str × Value)} {us : List Value} (X : K.In h₀) (e : PeekTo K fd vs kws us) : ∀ s : Shared, (∀ b o, h₀.get? b = some o → s.heap.get? b = some o) → BindsTo s fd ⟨vs, kws⟩ ((pnOf fd).zip us) :=
  fun _ hk M _ _ _ q => (Looks.of_peek (M := M) (X.keeps hk) (e ⟨M.prog, M.w.params⟩)).here q
theorem pn_len (fd : FuncData) : (pnOf fd).length = fd.params.args.length + fd.params.kwonlyargs.length := by
  unfold pnOf
  rw [List.length_append, List.length_map, List.length_map]
theorem key_of {μ : List Addr} {h : Heap} {key : Option V} {kws : List (Str × Value)} (hk : KwOk fa μ h key kws) : ∃ uk, VR fa μ h uk (key.getD .none) ∧ ((kws = [] ∧ uk = .none) ∨ kws = [(("key" : Str), uk)]) := by
  cases key with
  | none => exact ⟨.none, .none, Or.inl ⟨hk, rfl⟩⟩
  | some kv => obtain ⟨u, h1, h2⟩ := hk; exact ⟨u, h2, Or.inr h1⟩
theorem len2 {α : Type} {l : List α} (h : l.length = 2) : ∃ a b, l = [a, b] := by
  obtain ⟨a, l, rfl⟩ := List.exists_cons_of_length_eq_add_one h
  obtain ⟨b, l, rfl⟩ := List.exists_cons_of_length_eq_add_one (Nat.succ.inj h)
  exact ⟨a, b, by rw [List.eq_nil_of_length_eq_zero (Nat.succ.inj (Nat.succ.inj h))]⟩
theorem len4 {α : Type} {l : List α} (h : l.length = 4) : ∃ a b c d, l = [a, b, c, d] := by
  obtain ⟨a, l, rfl⟩ := List.exists_cons_of_length_eq_add_one h
  obtain ⟨b, l, rfl⟩ := List.exists_cons_of_length_eq_add_one (Nat.succ.inj h)
  obtain ⟨c, d, rfl⟩ := len2 (Nat.succ.inj (Nat.succ.inj h))
  exact ⟨a, b, c, d, rfl⟩

theorem fn_binds {fd : FuncData} (X : K.In h₀) (hb : BindP K fd ∨ BindD K fd) (hp : pnOf fd <+: nmOf fd.scope) {args : List V} {key : Option V} {ρ : Rho} (hρ : bindV (fnK gl fd) args key = some ρ) {μ : List Addr} {h : Heap} {vs : List Value} {kws : List (Str × Value)}
    (rs : VRs fa μ h vs args) (hk : KwOk fa μ h key kws) : BindR fa h₀ fd ρ μ h vs kws := by
  have fin : ∀ {us : List Value} {ls : List V}, PeekTo K fd vs kws us → us.length = (pnOf fd).length → VRs fa μ h us ls → rho0 fd.scope ls = ρ → BindR fa h₀ fd ρ μ h vs kws := fun h1 h2 h3 h4 => ⟨_, _, pnOf fd, binds_of X h1, hp, h2, h3, h4.symm⟩
  have hl := rs.length
  rcases hb with ⟨p1, p2⟩ | ⟨d1, d2, d3, d4, d5, d6⟩
  · have hkey : (fnK gl fd).key = false := by unfold fnK; rw [p1]; rfl
    unfold bindV at hρ
    rw [hkey] at hρ
    obtain ⟨⟨hc1, hc2⟩, e⟩ := oi (show (if args.length = fd.params.args.length ∧ key.isNone = true then some (rho0 fd.scope args) else none) = some ρ from hρ)
    rw [Option.isNone_iff_eq_none.mp hc2] at hk
    have e1 := hl.trans hc1
    have hk : kws = [] := hk
    rw [hk] at fin ⊢
    exact fin (p2 vs e1) (by rw [pn_len, p1, e1]; rfl) rs (Option.some.inj e)
  · have hkey : (fnK gl fd).key = true := by
      unfold fnK
      cases hkw : fd.params.kwonlyargs with
      | nil => rw [hkw] at d1; exact nomatch d1
      | cons _ _ => rfl
    have hpl : (pnOf fd).length = 5 := by rw [pn_len, d1, d2]
    unfold bindV at hρ
    rw [hkey] at hρ
    replace hρ : (if args.length = 2 then some (rho0 fd.scope (args ++ [.int 0, .none, key.getD .none])) else if args.length = 4 then some (rho0 fd.scope (args ++ [key.getD .none])) else none) = some ρ := hρ
    obtain ⟨uk, hu1, hu2⟩ := key_of hk
    have hlast : VRs fa μ h [uk] [key.getD .none] := .cons hu1 .nil
    by_cases h2 : args.length = 2
    · rw [if_pos h2] at hρ
      obtain ⟨v1, v2, rfl⟩ := len2 (hl.trans h2)
      refine fin (us := [v1, v2, .int 0 (dtok K fd), .none, uk]) ?_ hpl.symm (rs.append (.cons (.int _ _) (.cons .none hlast))) (Option.some.inj hρ)
      rcases hu2 with ⟨h1, h2⟩ | h1
      · rw [h1, h2]; exact d3 v1 v2
      · rw [h1]; exact d4 v1 v2 uk
    · rw [if_neg h2] at hρ
      obtain ⟨h4, e⟩ := oi hρ
      obtain ⟨v1, v2, v3, v4, rfl⟩ := len4 (hl.trans h4)
      refine fin (us := [v1, v2, v3, v4, uk]) ?_ hpl.symm (rs.append hlast) (Option.some.inj e)
      rcases hu2 with ⟨h1, h2⟩ | h1
      · rw [h1, h2]; exact d5 v1 v2 v3 v4
      · rw [h1]; exact d6 v1 v2 v3 v4 uk

theorem fnD_of {a : Addr} {oc : Value} {od : Option Addr} {osl : Array (Option Value)} {fd : FuncData} (X : K.In h₀) (ho : K.lookup a = some ⟨oc, od, .func fd, osl⟩) (hk : fdOk K fd = true) (hb : BindP K fd ∨ BindD K fd) : FnD fa h₀ gl a (fnK gl fd) ⟨oc, od, .func fd, osl⟩ fd (bodyOf fd) 40 := by
  have k10 := bAnd hk
  have k9 := bAnd k10.1
  have k8 := bAnd k9.1
  have k7 := bAnd k8.1
  have k6 := bAnd k7.1
  have k5 := bAnd k6.1
  have k4 := bAnd k5.1
  have k3 := bAnd k4.1
  have k2 := bAnd k3.1
  exact { ho := X _ _ ho, hd := rfl, co := bNot k2.1, gen := bNot k2.2, kind := eq_of_beq k3.2, bd := body_of k4.2, cd := codeRec_of X k5.2, clo := List.isEmpty_iff.mp k6.2, glob := Nat.eq_of_beq_eq_true k7.2, bi := Nat.eq_of_beq_eq_true k8.2, nd := of_decide_eq_true k9.2, fb := rfl
          bind := fun args key ρ hρ μ h vs kws rs hkw _ => fn_binds X hb (List.isPrefixOf_iff_prefix.mp k10.2) hρ rs hkw }

theorem fdK_inv {k : Nat} {a : Addr} {fd : FuncData} (e : faK K ns k = some a) (h : fdK K ns k = some fd) : ∃ oc od osl, K.lookup a = some ⟨oc, od, .func fd, osl⟩ := by
  unfold fdK at h
  rw [e] at h
  refine obK (show ((K.lookup a).bind funcOf) = some fd from h) fun o ho h => ?_
  obtain ⟨oc, od, d, osl⟩ := o
  cases d with
  | func f => rw [← Option.some.inj h]; exact ⟨oc, od, osl, ho⟩
  | _ => exact no h
theorem faK_ok (X : K.In h₀) (h : ∀ k a, faK K ns k = some a → ∃ fd, fdK K ns k = some fd) : FaOk (faK K ns) h₀ := fun k a e =>
  let ⟨_, hf⟩ := h k a e
  let ⟨_, _, _, ho⟩ := fdK_inv e hf
  ⟨_, _, X _ _ ho, rfl⟩

theorem globOk_K {p : Program} {loose : List Str} {mg mb : Str → Option Value} (X : K.In h₀) (T : TopRead p loose mg mb h₀) : GlobOk (faK K ns) h₀ (glK K ns) := fun x V e => by
  unfold glK at e
  cases hv : nsIn K mainGlobals x with
  | none => rw [hv] at e; exact no e
  | some v =>
    rw [hv] at e
    have gl : ∀ {u : Value}, v = some u → ∀ (M : Model) (A : Around) (E : Value → Shared → Prop) (s : Shared) (Q : Value → Shared → Prop) (env : Env), (∀ b o, h₀.get? b = some o → s.heap.get? b = some o) → env.globals = mainGlobals → env.builtins = builtinsNs → Q u s → wpAny M A (loadGlobal env x) Q E s :=
      fun hu M A E s Q env hk h1 h2 hq => Calls.loadGlobal_global (mg := mg) (h1 ▸ T.g.keeps hk) (mg_of X T.g (hu ▸ hv)) hq
    cases v with
    | none =>
      refine omK (show (biOf x).map .bi = some V from e) fun b hb e => ?_
      obtain ⟨h3, h4⟩ := biOf_val hb
      exact ⟨b.val, fun M A E s Q env hk h1 h2 hq => Calls.loadGlobal_builtin (mg := mg) (mb := mb) (h1 ▸ T.g.keeps hk) (mg_none_of X T.g hv) (h2 ▸ T.b.keeps hk) ((T.builtins x h3).trans h4) hq, fun μ h _ => e ▸ .bi b⟩
    | some u =>
      cases u with
      | ref a =>
        obtain ⟨hm, e⟩ := oi (show (if ns.contains x then some (.fn (ns.idxOf x)) else none) = some V from e)
        refine ⟨.ref a, gl rfl, fun μ h _ => Option.some.inj e ▸ .fn ?_⟩
        have h1 := List.getElem?_eq_getElem (List.idxOf_lt_length_of_mem (List.contains_iff_mem.mp hm))
        rw [List.getElem_idxOf] at h1
        unfold faK
        rw [h1]
        show addrK K x = some a
        unfold addrK
        rw [hv]; rfl
      | int i t => exact ⟨_, gl rfl, fun μ h _ => Option.some.inj (show some (Mp.V.int i) = some V from e) ▸ .int _ _⟩
      | _ => exact no e

theorem deltaK_ok (X : K.In h₀) (hk : ∀ k fd, fdK K ns k = some fd → fdOk K fd = true ∧ (BindP K fd ∨ BindD K fd)) : DefsOk (faK K ns) h₀ (glK K ns) (deltaK K ns) := fun k a f e1 e2 =>
  omK e2 fun fd hf e => by
    obtain ⟨h1, h2⟩ := hk k fd hf
    obtain ⟨oc, od, osl, ho⟩ := fdK_inv e1 hf
    exact ⟨_, fd, _, 40, e ▸ fnD_of X ho h1 h2⟩
end


noncomputable def notL (o : Obj) : Bool := match o.cls with
  | .type n => n != "list"
  | _ => true

theorem mem_of_lookupA {K : Frag} {a : Addr} {o : Obj} (h : K.lookup a = some o) : (a, o) ∈ K := by
  induction K with
  | nil => exact no h
  | cons p r ih =>
    cases e : a == p.1 with
    | true =>
      rw [show List.lookup a (p :: r) = some p.2 from by rw [List.lookup_cons, e]] at h
      rw [← Option.some.inj h, eq_of_beq e]
      exact List.mem_cons_self ..
    | false =>
      rw [show List.lookup a (p :: r) = r.lookup a from by rw [List.lookup_cons, e]] at h
      exact List.mem_cons_of_mem _ (ih h)
theorem ns_hide {h : Heap} {L a : Addr} {m : Str → Option Value} {vs : List Value} {n : Nat} (x : h.Ns L m) (ha : h.get? a = some (Lobj vs n)) : (h.hide a).Ns L m :=
  x.at' fun o e => by
    refine (Heap.hide_ne h ?_).trans e
    intro hla
    obtain ⟨o', es, ep, ho, hd, _⟩ := x
    rw [hla, ha] at ho
    exact not_list_dict hd _ _ (Option.some.inj ho).symm
theorem vrs_ints {fa : Nat → Option Addr} {μ : List Addr} {h : Heap} {vs : List Value} {xs : List Int} (x : IntsAre vs xs) : VRs fa μ h vs (xs.map .int) := by
  induction x with
  | nil => exact .nil
  | cons n t _ ih => exact .cons (.int n t) ih

theorem well_ints {P : Params} {h : Heap} {a : Addr} {vs : List Value} {xs : List Int} (x : Well P h (.ref a) (ofPy (.list (xs.map .int)))) (hl : h.IsList a vs.toArray) : h.get? a = some (Lobj vs 0) := by
  generalize hd : ofPy (.list (xs.map .int)) = d at x
  cases x with
  | list ho _ =>
    obtain ⟨o, h1, h2, n, h3⟩ := hl
    rw [ho] at h1
    cases h1
    simp only [Data.seq.injEq] at h3
    rw [ho, h3.1]
  | _ => simp [ofPy] at hd

theorem law_end {prog : Program} {w : World} {K : Frag} {ns : List Str} {p : Program} {loose : List Str} {mg mb : Str → Option Value} {s₁ : Shared} {a : Addr} {vs : List Value} {xs : List Int} {env : Env} {sc : Scope} {h₁ : Heap} {tk : Tok}
    {body : List Stmt} {x : Str} {A : Around} {Q : Flow → Shared → Prop} {E : Value → Shared → Prop} {σ : Cfg}
    (X : K.In s₁.heap) (T : TopRead p loose mg mb s₁.heap) (hK : K.all (fun q => notL q.2) = true) (hfd : ∀ k fd, fdK K ns k = some fd → fdOk K fd = true ∧ (BindP K fd ∨ BindD K fd)) (hfa : ∀ k a, faK K ns k = some a → ∃ fd, fdK K ns k = some fd)
    (ha : s₁.heap.get? a = some (Lobj vs 0)) (hI : IntsAre vs xs) (hk : ∀ b o, s₁.heap.get? b = some o → h₁.get? b = some o)
    (e1 : env.scope = sc) (e2 : env.locals = s₁.heap.objs.size) (e3 : env.cells = cellsFrom (s₁.heap.objs.size + 1) sc.names []) (e4 : env.globals = mainGlobals) (e5 : env.builtins = builtinsNs) (hkind : sc.kind = .function) (hnd : (sc.names.map (·.1)).Nodup)
    (hpn : [x] <+: nmOf sc) (hns : h₁.Ns env.locals (bindL env.kindOf [(x, .ref a)] fun _ => none)) (hc : ∀ n c, env.cells.lookup n = some c → h₁.IsCell c (bindC env.kindOf [(x, .ref a)] (fun _ => none) n)) (hR : Rm A 11)
    (hrun : run (callF (deltaK K ns) 11) (cB (cS 40 (fnSc (glK K ns) sc)) body) (some (.list 0) :: List.replicate ((nmOf sc).length - 1) none, [xs.map .int]) = some (.ret (.bool true), σ))
    (hQ : ∀ h' tk', (∀ b o, s₁.heap.get? b = some o → h'.get? b = some o) → Q (.ret (.bool true)) { s₁ with heap := h', toks := tk' }) :
    wpAny (model prog w) A (execs body env) Q E { s₁ with heap := h₁, toks := tk } := by
  have hb₀ : ∀ b o, (s₁.heap.hide a).get? b = some o → h₁.get? b = some o := fun b o e => hk b o (Heap.of_hide e)
  have X₀ : K.In (s₁.heap.hide a) := fun b o e => by
    refine (Heap.hide_ne s₁.heap ?_).trans (X b o e)
    intro hba
    have h1 := List.all_eq_true.mp hK _ (mem_of_lookupA e)
    have h2 := X b o e
    rw [hba, ha] at h2
    cases h2
    simp [notL] at h1
  have T₀ : TopRead p loose mg mb (s₁.heap.hide a) := { g := ns_hide T.g ha, b := ns_hide T.b ha, nolimit := let ⟨mc, h1, h2⟩ := T.nolimit; ⟨mc, ns_hide h1 ha, h2⟩, builtins := T.builtins, free := T.free }
  have hF : FaOk (faK K ns) (s₁.heap.hide a) := faK_ok X₀ hfa
  have hG : GlobOk (faK K ns) (s₁.heap.hide a) (glK K ns) := globOk_K X₀ T₀
  have hΦ := callF_sound (prog := prog) (w := w) hF hG T₀.nolimit (deltaK_ok X₀ hfd) 11
  have main := cB_sx (fun st => cS_sx (S := fnSc (glK K ns) sc) hΦ hF hG 40 st) body
  have hE : EnvOk (fnSc (glK K ns) sc) env := entry_env e1 e3 e4 e5 hkind hnd
  have hN : SEnv (fnSc (glK K ns) sc) env (s₁.heap.hide a) := entry_senv e2 e3 fun x hx => by
    cases e : (s₁.heap.hide a).get? x with
    | none => rfl
    | some o' => exact no ((no_above s₁.heap x hx).symm.trans (Heap.of_hide e))
  have hN' : SEnv (fnSc (glK K ns) sc) env s₁.heap := entry_senv e2 e3 (no_above s₁.heap)
  have l : LH (faK K ns) [a] [xs.map .int] h₁ := by
    refine ⟨rfl, by simp, fun i b ys h1 h2 => ?_⟩
    cases i with
    | succ i => exact no h1
    | zero =>
      rw [← Option.some.inj h1, ← Option.some.inj h2]
      exact ⟨vs, 0, hk _ _ ha, vrs_ints hI⟩
  have hFr : FrameOk (faK K ns) (fnSc (glK K ns) sc) env (rho0 sc [.list 0]) [a] h₁ :=
    entry_frame (us := [.ref a]) (ls := [.list 0]) (pn := [x]) e1 hnd hpn rfl hns hc (.cons (.list rfl) .nil)
  refine main A env _ _ [a] (stOf s₁ h₁ tk) ⟨hR, hE, hN, hFr, l, hb₀, fun b hb => by rw [List.mem_singleton.mp hb]; exact Heap.hide_self ..⟩ _ Q E hrun fun r => ?_
  obtain ⟨fl, h', tk', μ', flr, lh, t, fr⟩ := r
  have hfl : fl = .ret (.bool true) := by
    cases flr with
    | ret r => rw [r.bool_inv]
  show Q fl (stOf s₁ h' tk')
  rw [hfl]
  refine hQ h' tk' fun b o e => ?_
  by_cases hba : b = a
  · rw [hba] at e ⊢
    exact t.zero a o rfl (hk _ _ e)
  · exact t.keep b o (hk _ _ e) (fun hm => hba (List.mem_singleton.mp hm)) fun hm => no ((hN'.fr b hm).symm.trans e)


noncomputable def okB (K : Frag) (ns : List Str) (k a kw : Nat) : Bool := match fdK K ns k with
  | some fd => fdOk K fd && Nat.beq fd.params.args.length a && Nat.beq fd.params.kwonlyargs.length kw
  | none => false
noncomputable def peekB (K : Frag) (ns : List Str) (k : Nat) (S : Setting) (args : Args) : Option (List (Str × Value)) := match fdK K ns k with
  | some fd => peek K S (bindArgs fd args)
  | none => none
noncomputable def zipB (K : Frag) (ns : List Str) (k : Nat) (us : List Value) : Option (List (Str × Value)) := match fdK K ns k with
  | some fd => some ((pnOf fd).zip us)
  | none => none
noncomputable def tokB (K : Frag) (ns : List Str) (k : Nat) : Nat := match fdK K ns k with
  | some fd => dtok K fd
  | none => 0

section
variable {K : Frag} {ns : List Str} {k a kw : Nat} {fd : FuncData}
theorem has_of (h : okB K ns k a kw = true) : ∃ fd, fdK K ns k = some fd := by
  unfold okB at h
  split at h
  · exact ⟨_, by assumption⟩
  · cases h
theorem okB_inv (h : okB K ns k a kw = true) (e : fdK K ns k = some fd) : fdOk K fd = true ∧ fd.params.args.length = a ∧ fd.params.kwonlyargs.length = kw := by
  unfold okB at h
  rw [e] at h
  simp only [Bool.and_eq_true] at h
  exact ⟨h.1.1, Nat.eq_of_beq_eq_true h.1.2, Nat.eq_of_beq_eq_true h.2⟩
theorem peek_to {vs us : List Value} {kws : List (Str × Value)} (hb : ∀ S, peekB K ns k S ⟨vs, kws⟩ = zipB K ns k us) (e : fdK K ns k = some fd) : PeekTo K fd vs kws us := fun S => by
  have := hb S
  unfold peekB zipB at this
  rw [e] at this
  exact this
theorem okP_of (h : okB K ns k a 0 = true) (hb : ∀ S vs, vs.length = a → peekB K ns k S ⟨vs, []⟩ = zipB K ns k vs) (e : fdK K ns k = some fd) : fdOk K fd = true ∧ (BindP K fd ∨ BindD K fd) := by
  obtain ⟨h1, h2, h3⟩ := okB_inv h e
  exact ⟨h1, Or.inl ⟨List.length_eq_zero_iff.mp h3, fun vs hv => peek_to (fun S => hb S vs (hv.trans h2)) e⟩⟩
theorem okP1 (h : okB K ns k 1 0 = true) (hb : ∀ (S : Setting) (v0 : Value), peekB K ns k S ⟨[v0], []⟩ = zipB K ns k [v0]) (e : fdK K ns k = some fd) : fdOk K fd = true ∧ (BindP K fd ∨ BindD K fd) :=
  okP_of h (fun S vs hv => by obtain ⟨v0, rfl⟩ := List.length_eq_one_iff.mp hv; exact hb S v0) e
theorem okP3 (h : okB K ns k 3 0 = true) (hb : ∀ (S : Setting) (v0 v1 v2 : Value), peekB K ns k S ⟨[v0, v1, v2], []⟩ = zipB K ns k [v0, v1, v2]) (e : fdK K ns k = some fd) : fdOk K fd = true ∧ (BindP K fd ∨ BindD K fd) :=
  okP_of h (fun S vs hv => by
    obtain ⟨v0, l, rfl⟩ := List.exists_cons_of_length_eq_add_one hv
    obtain ⟨v1, v2, rfl⟩ := len2 (Nat.succ.inj hv)
    exact hb S v0 v1 v2) e
theorem okP4 (h : okB K ns k 4 0 = true) (hb : ∀ (S : Setting) (v0 v1 v2 v3 : Value), peekB K ns k S ⟨[v0, v1, v2, v3], []⟩ = zipB K ns k [v0, v1, v2, v3]) (e : fdK K ns k = some fd) : fdOk K fd = true ∧ (BindP K fd ∨ BindD K fd) :=
  okP_of h (fun S vs hv => by obtain ⟨v0, v1, v2, v3, rfl⟩ := len4 hv; exact hb S v0 v1 v2 v3) e
theorem okD_of (h : okB K ns k 4 1 = true) (h1 : ∀ (S : Setting) (v1 v2 : Value), peekB K ns k S ⟨[v1, v2], []⟩ = zipB K ns k [v1, v2, .int 0 (tokB K ns k), .none, .none])
    (h2 : ∀ (S : Setting) (v1 v2 vk : Value), peekB K ns k S ⟨[v1, v2], [(("key" : Str), vk)]⟩ = zipB K ns k [v1, v2, .int 0 (tokB K ns k), .none, vk])
    (h3 : ∀ (S : Setting) (v1 v2 v3 v4 : Value), peekB K ns k S ⟨[v1, v2, v3, v4], []⟩ = zipB K ns k [v1, v2, v3, v4, .none])
    (h4 : ∀ (S : Setting) (v1 v2 v3 v4 vk : Value), peekB K ns k S ⟨[v1, v2, v3, v4], [(("key" : Str), vk)]⟩ = zipB K ns k [v1, v2, v3, v4, vk]) (e : fdK K ns k = some fd) : fdOk K fd = true ∧ (BindP K fd ∨ BindD K fd) := by
  obtain ⟨g1, g2, g3⟩ := okB_inv h e
  have ht : tokB K ns k = dtok K fd := by unfold tokB; rw [e]
  rw [ht] at h1 h2
  exact ⟨g1, Or.inr ⟨g3, g2, fun _ _ => peek_to (fun S => h1 S _ _) e, fun _ _ _ => peek_to (fun S => h2 S _ _ _) e, fun _ _ _ _ => peek_to (fun S => h3 S _ _ _ _) e, fun _ _ _ _ _ => peek_to (fun S => h4 S _ _ _ _ _) e⟩⟩
end

theorem rm_law (env : Env) : Rm (callerA.deeper env) 11 := Rm.deeper (n := 11) ⟨rfl, by decide, by decide⟩ env
theorem good_true {c : ClaimW} {cl : Str → Option Addr} {mean : ExcName → Option Value} {args : List WData} {s₁ : Shared} {h' : Heap} {tk : Tok} (hk : ∀ b o, s₁.heap.get? b = some o → h'.get? b = some o) (hg : s₁.gens = #[]) (hn : ∀ cls, c.raises args cls = false)
    (hp : c.post args (.bool true) args = true) : GoodW c cl mean args s₁ (.ok (.ret (.bool true))) { s₁ with heap := h', toks := tk } :=
  ⟨.inl ⟨.bool true, .bool true, [], rfl, hn, .bool true, hp, unshared_nil⟩, hk, rfl, hg⟩

open_top hd01 for PySem.Challenge.rw_ul0001_01

noncomputable def ns01 : List Str := ["insort_right", "bisect_right", "insort_left", "bisect_left", "Int2AP", "ISTERMINAL", "ISNONTERMINAL", "ISEOF", "_law_cells", "_law_letters", "_law_read", "_law_class", "_law_lay", "_law_written", "law"]
theorem notL01 (p : Params) : (hd01.heap_39 p).all (fun q => notL q.2) = true := by kernel_rfl

theorem ok01_0 (p : Params) : okB (hd01.heap_39 p) ns01 0 4 1 = true := by kernel_rfl
theorem bd01_0_2_0 (p : Params) (S : Setting) (v0 v1 : Value) : peekB (hd01.heap_39 p) ns01 0 S ⟨[v0, v1], []⟩ = zipB (hd01.heap_39 p) ns01 0 [v0, v1, .int 0 (tokB (hd01.heap_39 p) ns01 0), .none, .none] := by kernel_rfl
theorem bd01_0_2_1 (p : Params) (S : Setting) (v0 v1 vk : Value) : peekB (hd01.heap_39 p) ns01 0 S ⟨[v0, v1], [(("key" : Str), vk)]⟩ = zipB (hd01.heap_39 p) ns01 0 [v0, v1, .int 0 (tokB (hd01.heap_39 p) ns01 0), .none, vk] := by kernel_rfl
theorem bd01_0_4_0 (p : Params) (S : Setting) (v0 v1 v2 v3 : Value) : peekB (hd01.heap_39 p) ns01 0 S ⟨[v0, v1, v2, v3], []⟩ = zipB (hd01.heap_39 p) ns01 0 [v0, v1, v2, v3, .none] := by kernel_rfl
theorem bd01_0_4_1 (p : Params) (S : Setting) (v0 v1 v2 v3 vk : Value) : peekB (hd01.heap_39 p) ns01 0 S ⟨[v0, v1, v2, v3], [(("key" : Str), vk)]⟩ = zipB (hd01.heap_39 p) ns01 0 [v0, v1, v2, v3, vk] := by kernel_rfl
theorem ok01_1 (p : Params) : okB (hd01.heap_39 p) ns01 1 4 1 = true := by kernel_rfl
theorem bd01_1_2_0 (p : Params) (S : Setting) (v0 v1 : Value) : peekB (hd01.heap_39 p) ns01 1 S ⟨[v0, v1], []⟩ = zipB (hd01.heap_39 p) ns01 1 [v0, v1, .int 0 (tokB (hd01.heap_39 p) ns01 1), .none, .none] := by kernel_rfl
theorem bd01_1_2_1 (p : Params) (S : Setting) (v0 v1 vk : Value) : peekB (hd01.heap_39 p) ns01 1 S ⟨[v0, v1], [(("key" : Str), vk)]⟩ = zipB (hd01.heap_39 p) ns01 1 [v0, v1, .int 0 (tokB (hd01.heap_39 p) ns01 1), .none, vk] := by kernel_rfl
theorem bd01_1_4_0 (p : Params) (S : Setting) (v0 v1 v2 v3 : Value) : peekB (hd01.heap_39 p) ns01 1 S ⟨[v0, v1, v2, v3], []⟩ = zipB (hd01.heap_39 p) ns01 1 [v0, v1, v2, v3, .none] := by kernel_rfl
theorem bd01_1_4_1 (p : Params) (S : Setting) (v0 v1 v2 v3 vk : Value) : peekB (hd01.heap_39 p) ns01 1 S ⟨[v0, v1, v2, v3], [(("key" : Str), vk)]⟩ = zipB (hd01.heap_39 p) ns01 1 [v0, v1, v2, v3, vk] := by kernel_rfl
theorem ok01_2 (p : Params) : okB (hd01.heap_39 p) ns01 2 4 1 = true := by kernel_rfl
theorem bd01_2_2_0 (p : Params) (S : Setting) (v0 v1 : Value) : peekB (hd01.heap_39 p) ns01 2 S ⟨[v0, v1], []⟩ = zipB (hd01.heap_39 p) ns01 2 [v0, v1, .int 0 (tokB (hd01.heap_39 p) ns01 2), .none, .none] := by kernel_rfl
theorem bd01_2_2_1 (p : Params) (S : Setting) (v0 v1 vk : Value) : peekB (hd01.heap_39 p) ns01 2 S ⟨[v0, v1], [(("key" : Str), vk)]⟩ = zipB (hd01.heap_39 p) ns01 2 [v0, v1, .int 0 (tokB (hd01.heap_39 p) ns01 2), .none, vk] := by kernel_rfl
theorem bd01_2_4_0 (p : Params) (S : Setting) (v0 v1 v2 v3 : Value) : peekB (hd01.heap_39 p) ns01 2 S ⟨[v0, v1, v2, v3], []⟩ = zipB (hd01.heap_39 p) ns01 2 [v0, v1, v2, v3, .none] := by kernel_rfl
theorem bd01_2_4_1 (p : Params) (S : Setting) (v0 v1 v2 v3 vk : Value) : peekB (hd01.heap_39 p) ns01 2 S ⟨[v0, v1, v2, v3], [(("key" : Str), vk)]⟩ = zipB (hd01.heap_39 p) ns01 2 [v0, v1, v2, v3, vk] := by kernel_rfl
theorem ok01_3 (p : Params) : okB (hd01.heap_39 p) ns01 3 4 1 = true := by kernel_rfl
theorem bd01_3_2_0 (p : Params) (S : Setting) (v0 v1 : Value) : peekB (hd01.heap_39 p) ns01 3 S ⟨[v0, v1], []⟩ = zipB (hd01.heap_39 p) ns01 3 [v0, v1, .int 0 (tokB (hd01.heap_39 p) ns01 3), .none, .none] := by kernel_rfl
theorem bd01_3_2_1 (p : Params) (S : Setting) (v0 v1 vk : Value) : peekB (hd01.heap_39 p) ns01 3 S ⟨[v0, v1], [(("key" : Str), vk)]⟩ = zipB (hd01.heap_39 p) ns01 3 [v0, v1, .int 0 (tokB (hd01.heap_39 p) ns01 3), .none, vk] := by kernel_rfl
theorem bd01_3_4_0 (p : Params) (S : Setting) (v0 v1 v2 v3 : Value) : peekB (hd01.heap_39 p) ns01 3 S ⟨[v0, v1, v2, v3], []⟩ = zipB (hd01.heap_39 p) ns01 3 [v0, v1, v2, v3, .none] := by kernel_rfl
theorem bd01_3_4_1 (p : Params) (S : Setting) (v0 v1 v2 v3 vk : Value) : peekB (hd01.heap_39 p) ns01 3 S ⟨[v0, v1, v2, v3], [(("key" : Str), vk)]⟩ = zipB (hd01.heap_39 p) ns01 3 [v0, v1, v2, v3, vk] := by kernel_rfl
theorem ok01_4 (p : Params) : okB (hd01.heap_39 p) ns01 4 1 0 = true := by kernel_rfl
theorem bd01_4 (p : Params) (S : Setting) (v0 : Value) : peekB (hd01.heap_39 p) ns01 4 S ⟨[v0], []⟩ = zipB (hd01.heap_39 p) ns01 4 [v0] := by kernel_rfl
theorem ok01_5 (p : Params) : okB (hd01.heap_39 p) ns01 5 1 0 = true := by kernel_rfl
theorem bd01_5 (p : Params) (S : Setting) (v0 : Value) : peekB (hd01.heap_39 p) ns01 5 S ⟨[v0], []⟩ = zipB (hd01.heap_39 p) ns01 5 [v0] := by kernel_rfl
theorem ok01_6 (p : Params) : okB (hd01.heap_39 p) ns01 6 1 0 = true := by kernel_rfl
theorem bd01_6 (p : Params) (S : Setting) (v0 : Value) : peekB (hd01.heap_39 p) ns01 6 S ⟨[v0], []⟩ = zipB (hd01.heap_39 p) ns01 6 [v0] := by kernel_rfl
theorem ok01_7 (p : Params) : okB (hd01.heap_39 p) ns01 7 1 0 = true := by kernel_rfl
theorem bd01_7 (p : Params) (S : Setting) (v0 : Value) : peekB (hd01.heap_39 p) ns01 7 S ⟨[v0], []⟩ = zipB (hd01.heap_39 p) ns01 7 [v0] := by kernel_rfl
theorem ok01_8 (p : Params) : okB (hd01.heap_39 p) ns01 8 1 0 = true := by kernel_rfl
theorem bd01_8 (p : Params) (S : Setting) (v0 : Value) : peekB (hd01.heap_39 p) ns01 8 S ⟨[v0], []⟩ = zipB (hd01.heap_39 p) ns01 8 [v0] := by kernel_rfl
theorem ok01_9 (p : Params) : okB (hd01.heap_39 p) ns01 9 1 0 = true := by kernel_rfl
theorem bd01_9 (p : Params) (S : Setting) (v0 : Value) : peekB (hd01.heap_39 p) ns01 9 S ⟨[v0], []⟩ = zipB (hd01.heap_39 p) ns01 9 [v0] := by kernel_rfl
theorem ok01_10 (p : Params) : okB (hd01.heap_39 p) ns01 10 3 0 = true := by kernel_rfl
theorem bd01_10 (p : Params) (S : Setting) (v0 v1 v2 : Value) : peekB (hd01.heap_39 p) ns01 10 S ⟨[v0, v1, v2], []⟩ = zipB (hd01.heap_39 p) ns01 10 [v0, v1, v2] := by kernel_rfl
theorem ok01_11 (p : Params) : okB (hd01.heap_39 p) ns01 11 1 0 = true := by kernel_rfl
theorem bd01_11 (p : Params) (S : Setting) (v0 : Value) : peekB (hd01.heap_39 p) ns01 11 S ⟨[v0], []⟩ = zipB (hd01.heap_39 p) ns01 11 [v0] := by kernel_rfl
theorem ok01_12 (p : Params) : okB (hd01.heap_39 p) ns01 12 4 0 = true := by kernel_rfl
theorem bd01_12 (p : Params) (S : Setting) (v0 v1 v2 v3 : Value) : peekB (hd01.heap_39 p) ns01 12 S ⟨[v0, v1, v2, v3], []⟩ = zipB (hd01.heap_39 p) ns01 12 [v0, v1, v2, v3] := by kernel_rfl
theorem ok01_13 (p : Params) : okB (hd01.heap_39 p) ns01 13 4 0 = true := by kernel_rfl
theorem bd01_13 (p : Params) (S : Setting) (v0 v1 v2 v3 : Value) : peekB (hd01.heap_39 p) ns01 13 S ⟨[v0, v1, v2, v3], []⟩ = zipB (hd01.heap_39 p) ns01 13 [v0, v1, v2, v3] := by kernel_rfl
theorem ok01_14 (p : Params) : okB (hd01.heap_39 p) ns01 14 1 0 = true := by kernel_rfl
theorem bd01_14 (p : Params) (S : Setting) (v0 : Value) : peekB (hd01.heap_39 p) ns01 14 S ⟨[v0], []⟩ = zipB (hd01.heap_39 p) ns01 14 [v0] := by kernel_rfl
theorem fds01 (p : Params) (k : Nat) (fd : FuncData) (h : fdK (hd01.heap_39 p) ns01 k = some fd) : fdOk (hd01.heap_39 p) fd = true ∧ (BindP (hd01.heap_39 p) fd ∨ BindD (hd01.heap_39 p) fd) := by
  rcases k with _ | _ | _ | _ | _ | _ | _ | _ | _ | _ | _ | _ | _ | _ | _ | k
  · exact okD_of (ok01_0 p) (bd01_0_2_0 p) (bd01_0_2_1 p) (bd01_0_4_0 p) (bd01_0_4_1 p) h
  · exact okD_of (ok01_1 p) (bd01_1_2_0 p) (bd01_1_2_1 p) (bd01_1_4_0 p) (bd01_1_4_1 p) h
  · exact okD_of (ok01_2 p) (bd01_2_2_0 p) (bd01_2_2_1 p) (bd01_2_4_0 p) (bd01_2_4_1 p) h
  · exact okD_of (ok01_3 p) (bd01_3_2_0 p) (bd01_3_2_1 p) (bd01_3_4_0 p) (bd01_3_4_1 p) h
  · exact okP1 (ok01_4 p) (bd01_4 p) h
  · exact okP1 (ok01_5 p) (bd01_5 p) h
  · exact okP1 (ok01_6 p) (bd01_6 p) h
  · exact okP1 (ok01_7 p) (bd01_7 p) h
  · exact okP1 (ok01_8 p) (bd01_8 p) h
  · exact okP1 (ok01_9 p) (bd01_9 p) h
  · exact okP3 (ok01_10 p) (bd01_10 p) h
  · exact okP1 (ok01_11 p) (bd01_11 p) h
  · exact okP4 (ok01_12 p) (bd01_12 p) h
  · exact okP4 (ok01_13 p) (bd01_13 p) h
  · exact okP1 (ok01_14 p) (bd01_14 p) h
  · exact no h
theorem fas01 (p : Params) (k : Nat) (a : Addr) (h : faK (hd01.heap_39 p) ns01 k = some a) : ∃ fd, fdK (hd01.heap_39 p) ns01 k = some fd := by
  rcases k with _ | _ | _ | _ | _ | _ | _ | _ | _ | _ | _ | _ | _ | _ | _ | k
  · exact has_of (ok01_0 p)
  · exact has_of (ok01_1 p)
  · exact has_of (ok01_2 p)
  · exact has_of (ok01_3 p)
  · exact has_of (ok01_4 p)
  · exact has_of (ok01_5 p)
  · exact has_of (ok01_6 p)
  · exact has_of (ok01_7 p)
  · exact has_of (ok01_8 p)
  · exact has_of (ok01_9 p)
  · exact has_of (ok01_10 p)
  · exact has_of (ok01_11 p)
  · exact has_of (ok01_12 p)
  · exact has_of (ok01_13 p)
  · exact has_of (ok01_14 p)
  · exact no h

theorem bindL_one {kindOf : Str → Option NameKind} {x : Str} {v : Value} (y : Str) (h : kindOf x = some .local) : bindL kindOf [(x, v)] (fun _ => none) y = List.lookup y [(x, v)] := by
  simp only [bindL, if_pos h]
  by_cases e : y = x
  · subst e; simp
  · have hb : (y == x) = false := by simpa using e
    simp [List.lookup_cons, hb, e]
theorem hnsq {h : Heap} {L : Addr} {m m' : Str → Option Value} (x : h.Ns L m) (e : m' = m) : h.Ns L m' := e ▸ x
theorem head01 (hP : ∀ (p : Params) (xs : List Int), xs.length ≤ 63 → ∃ (f : Fn) (σ : Cfg), deltaK (hd01.heap_39 p) ns01 14 = some f ∧ run (callF (deltaK (hd01.heap_39 p) ns01) 11) f.body (some (.list 0) :: List.replicate (f.slots - 1) none, [xs.map .int]) = some (.ret (.bool true), σ)) :
    PySem.Challenge.rw_ul0001_01.Holds := by
  refine hd01 ?_
  k_go0
  all_goals try k_fold
  rename (hd01.heap_39 _).In _ => X
  rename Top _ _ _ _ _ _ => T
  rename Well _ _ _ _ => W1
  rename Heap.IsList _ _ _ => hL
  rename IntsAre _ _ => hI
  rename Fr _ _ _ _ => F
  rename _ = #[] => hg
  rename ¬ _ < _ => hcond
  obtain ⟨f, σ, hf, hrun⟩ := hP _ _ (Int.ofNat_le.mp (Int.not_lt.mp hcond))
  obtain rfl := Option.some.inj hf
  refine law_end (x := "script") (σ := σ) X (topRead_of T) (notL01 _) (fds01 _) (fas01 _) (well_ints W1 hL) hI F.keep rfl rfl rfl rfl rfl rfl (of_decide_eq_true (by kernel_rfl)) (List.isPrefixOf_iff_prefix.mp (by kernel_rfl)) (hnsq F.ns (funext fun y => bindL_one y rfl)) (fun n c hc => ?_) (rm_law _) hrun fun h' tk' hk => ?_
  · cases hc
  · exact good_true hk hg (raisesW_false (by wrow_none_raised)) (by wrow_post)


theorem nd {α : Sort _} {a b : α} (h : a = b) : a = b := h

/-! stepping -/
section
variable {Φ : FnT} {a b : St} {c e o i : Ex} {σ : Cfg} {ρ : Rho} {H : HP} {k : Nat} {is : List Nat}
theorem r_skip : run Φ .skip σ = some (.next, σ) := nd rfl
theorem r_seq : run Φ (.seq a b) σ = (run Φ a σ).bind fun q => goOn q (run Φ b) := nd rfl
theorem r_asg : run Φ (.asg k e) (ρ, H) = (ev Φ e ρ H).map fun q => (.next, (ρ.set k (some q.1), q.2)) := nd rfl
theorem r_unp : run Φ (.unp is e) (ρ, H) = (ev Φ e ρ H).bind fun q => (parts true is.length q.1 q.2).map fun ps => (.next, (setAll ρ is ps, q.2)) := nd rfl
theorem r_exp : run Φ (.exp e) (ρ, H) = (ev Φ e ρ H).bind fun q => if noRef q.1 then some (.next, (ρ, q.2)) else none := nd rfl
theorem r_ite : run Φ (.ite c a b) (ρ, H) = (evB Φ c ρ H).bind fun q => cond q.1 (run Φ a (ρ, q.2)) (run Φ b (ρ, q.2)) := nd rfl
theorem r_ret : run Φ (.ret e) (ρ, H) = (ev Φ e ρ H).map fun q => (.ret q.1, (ρ, q.2)) := nd rfl
@[simp] theorem goOn_next {f : Cfg → Option (Fl × Cfg)} : goOn (.next, σ) f = f σ := rfl
@[simp] theorem goOn_brk {f : Cfg → Option (Fl × Cfg)} : goOn (.brk, σ) f = some (.brk, σ) := rfl
@[simp] theorem goOn_ret {f : Cfg → Option (Fl × Cfg)} {v : V} : goOn (.ret v, σ) f = some (.ret v, σ) := rfl
end
@[simp] theorem intOf_int {i : Int} : intOf (.int i) = some i := rfl
@[simp] theorem intOf_list {i : Nat} : intOf (.list i) = none := rfl
@[simp] theorem intOf_bytes {i : List UInt8} : intOf (.bytes i) = none := rfl
@[simp] theorem intOf_tup {i : List V} : intOf (.tup i) = none := rfl
@[simp] theorem intOf_none : intOf .none = none := rfl
@[simp] theorem intOf_bool {b : Bool} : intOf (.bool b) = none := rfl
@[simp] theorem asBytes_bytes {i : List UInt8} : asBytes (.bytes i) = some i := rfl
@[simp] theorem asBytes_list {i : Nat} : asBytes (.list i) = none := rfl
@[simp] theorem asBytes_none : asBytes .none = none := rfl
@[simp] theorem asBytes_tup {i : List V} : asBytes (.tup i) = none := rfl
@[simp] theorem asList_list {i : Nat} : asList (.list i) = some i := rfl
@[simp] theorem asList_int {i : Int} : asList (.int i) = none := rfl
@[simp] theorem asList_bytes {i : List UInt8} : asList (.bytes i) = none := rfl
@[simp] theorem asList_none : asList .none = none := rfl
@[simp] theorem asList_tup {i : List V} : asList (.tup i) = none := rfl
@[simp] theorem asTup_tup {i : List V} : asTup (.tup i) = some i := rfl
@[simp] theorem asTup_int {i : Int} : asTup (.int i) = none := rfl
@[simp] theorem asTup_bytes {i : List UInt8} : asTup (.bytes i) = none := rfl
@[simp] theorem isNone_none : isNone .none = true := rfl
@[simp] theorem isNone_int {i : Int} : isNone (.int i) = false := rfl
@[simp] theorem isNone_bool {i : Bool} : isNone (.bool i) = false := rfl
@[simp] theorem isNone_fn {i : Nat} : isNone (.fn i) = false := rfl
@[simp] theorem isNone_list {i : Nat} : isNone (.list i) = false := rfl
@[simp] theorem boolOf_bool {i : Bool} : boolOf (.bool i) = some i := rfl
@[simp] theorem boolOf_none : boolOf .none = none := rfl
@[simp] theorem one_one {x : V} : one [x] = some x := rfl
@[simp] theorem two_two {x y : V} : two [x, y] = some (x, y) := rfl

section
variable {Φ : FnT} {ρ : Rho} {H : HP}
@[simp] theorem e_var {i : Nat} : ev Φ (.var i) ρ H = (ρ[i]?).bind fun o => o.map fun v => (v, H) := nd rfl
@[simp] theorem e_lit {v : V} : ev Φ (.lit v) ρ H = some (v, H) := nd rfl
@[simp] theorem e_bin {op : Op} {a b : Ex} : ev Φ (.bin op a b) ρ H = (ev Φ a ρ H).bind fun x => (ev Φ b ρ x.2).bind fun y => bin op x.1 y.1 y.2 := nd rfl
@[simp] theorem e_neg {a : Ex} : ev Φ (.neg a) ρ H = (ev Φ a ρ H).bind fun x => (intOf x.1).map fun i => (.int (-i), x.2) := nd rfl
@[simp] theorem e_not {a : Ex} : ev Φ (.not a) ρ H = (ev Φ a ρ H).bind fun x => (tr x.1).map fun c => (.bool (!c), x.2) := nd rfl
@[simp] theorem e_and {a b : Ex} : ev Φ (.and a b) ρ H = (ev Φ a ρ H).bind fun x => (tr x.1).bind fun c => cond c (ev Φ b ρ x.2) (some x) := nd rfl
@[simp] theorem e_or {a b : Ex} : ev Φ (.or a b) ρ H = (ev Φ a ρ H).bind fun x => (tr x.1).bind fun c => cond c (some x) (ev Φ b ρ x.2) := nd rfl
@[simp] theorem e_cmp {op : Cm} {a b : Ex} : ev Φ (.cmp op a b) ρ H = (ev Φ a ρ H).bind fun x => (ev Φ b ρ x.2).bind fun y => (cmpV op x.1 y.1 y.2).map fun c => (.bool c, y.2) := nd rfl
@[simp] theorem e_ite {c a b : Ex} : ev Φ (.ite c a b) ρ H = (ev Φ c ρ H).bind fun x => (tr x.1).bind fun c => cond c (ev Φ a ρ x.2) (ev Φ b ρ x.2) := nd rfl
@[simp] theorem e_call {f : Ex} {as : Exs} : ev Φ (.call f as) ρ H = (ev Φ f ρ H).bind fun g => (evs Φ as ρ g.2).bind fun vs => app Φ g.1 vs.1 none vs.2 := nd rfl
@[simp] theorem e_callK {f k : Ex} {as : Exs} : ev Φ (.callK f as k) ρ H = (ev Φ f ρ H).bind fun g => (evs Φ as ρ g.2).bind fun vs => (ev Φ k ρ vs.2).bind fun kv => app Φ g.1 vs.1 (some kv.1) kv.2 := nd rfl
@[simp] theorem e_meth {m : Mt} {o : Ex} {as : Exs} : ev Φ (.meth m o as) ρ H = (ev Φ o ρ H).bind fun x => (evs Φ as ρ x.2).bind fun vs => meth m x.1 vs.1 vs.2 := nd rfl
@[simp] theorem e_idx {o i : Ex} : ev Φ (.idx o i) ρ H = (ev Φ o ρ H).bind fun x => (ev Φ i ρ x.2).bind fun y => (getI x.1 y.1 y.2).map fun v => (v, y.2) := nd rfl
@[simp] theorem e_sl {o l u s : Ex} : ev Φ (.sl o l u s) ρ H = (ev Φ o ρ H).bind fun x => (ev Φ l ρ x.2).bind fun a => (ev Φ u ρ a.2).bind fun b => (ev Φ s ρ b.2).bind fun c => slV x.1 a.1 b.1 c.1 c.2 := nd rfl
@[simp] theorem e_lst {es : Exs} : ev Φ (.lst es) ρ H = (evs Φ es ρ H).bind fun vs => if lenOk vs.1.length then some (.list vs.2.length, vs.2 ++ [vs.1]) else none := nd rfl
@[simp] theorem e_tpl {es : Exs} : ev Φ (.tpl es) ρ H = (evs Φ es ρ H).bind fun vs => if lenOk vs.1.length then some (.tup vs.1, vs.2) else none := nd rfl
@[simp] theorem es_nil : evs Φ .nil ρ H = some ([], H) := nd rfl
@[simp] theorem es_cons {e : Ex} {es : Exs} : evs Φ (.cons e es) ρ H = (ev Φ e ρ H).bind fun v => (evs Φ es ρ v.2).map fun vs => (v.1 :: vs.1, vs.2) := nd rfl
@[simp] theorem tr_bool {b : Bool} : tr (.bool b) = some b := nd rfl
@[simp] theorem tr_int {i : Int} : tr (.int i) = some (i != 0) := nd rfl
@[simp] theorem tr_none : tr .none = some false := nd rfl
@[simp] theorem isN_none : isN .none = some true := nd rfl
@[simp] theorem isN_bool {b : Bool} : isN (.bool b) = some false := nd rfl
@[simp] theorem isN_int {b : Int} : isN (.int b) = some false := nd rfl
@[simp] theorem isN_fn {b : Nat} : isN (.fn b) = some false := nd rfl
@[simp] theorem isN_list {b : Nat} : isN (.list b) = some false := nd rfl
@[simp] theorem app_fn {k : Nat} {as : List V} {key : Option V} : app Φ (.fn k) as key H = Φ k as key H := nd rfl
@[simp] theorem app_bi {b : Bi} {as : List V} : app Φ (.bi b) as none H = bi b as H := nd rfl
@[simp] theorem rhoF_eq {n : Nat} {ls : List V} : rhoF n ls = ls.map some ++ List.replicate (n - ls.length) none := nd rfl
@[simp] theorem partsOf_tup {xs : List V} : partsOf (.tup xs) H = some xs := nd rfl
@[simp] theorem partsOf_list {i : Nat} : partsOf (.list i) H = H[i]? := nd rfl
@[simp] theorem setAll_nil {vs : List V} : setAll ρ [] vs = ρ := nd rfl
@[simp] theorem setAll_cons {i : Nat} {is : List Nat} {v : V} {vs : List V} : setAll ρ (i :: is) (v :: vs) = setAll (ρ.set i (some v)) is vs := nd rfl
@[simp] theorem noRef_none : noRef .none = true := nd rfl
@[simp] theorem bin_ii {op : Op} {a b : Int} : bin op (.int a) (.int b) H = (binI op a b).map fun c => (.int c, H) := nd rfl
@[simp] theorem bin_bb {a b : List UInt8} : bin .add (.bytes a) (.bytes b) H = if lenOk (a.length + b.length) then some (.bytes (a ++ b), H) else none := nd rfl
@[simp] theorem bin_ll {i j : Nat} : bin .add (.list i) (.list j) H = (H[i]?).bind fun xs => (H[j]?).bind fun ys => if lenOk (xs.length + ys.length) then some (.list H.length, H ++ [xs ++ ys]) else none := nd rfl
@[simp] theorem bin_li {i : Nat} {k : Int} : bin .mul (.list i) (.int k) H = (H[i]?).bind fun xs => if decide (0 ≤ k) && decide (k ≤ 1000) && decide (xs.length ≤ 1000) then some (.list H.length, H ++ [(List.replicate k.toNat xs).flatten]) else none := nd rfl
theorem r_aug0 {o i e : Ex} : run Φ (.aug o i .add e) (ρ, H) = (ev Φ o ρ H).bind fun l => (ev Φ i ρ l.2).bind fun k => (getI l.1 k.1 k.2).bind fun old => (ev Φ e ρ k.2).bind fun new =>
      (intOf old).bind fun a => (intOf new.1).bind fun b => setL ρ l.1 k.1 (.int (a + b)) new.2 := nd rfl
theorem r_setI {o i e : Ex} : run Φ (.setI o i e) (ρ, H) = (ev Φ e ρ H).bind fun v => (ev Φ o ρ v.2).bind fun l => (ev Φ i ρ l.2).bind fun k => setL ρ l.1 k.1 v.1 k.2 := nd rfl
theorem setL_of {j : Nat} {k : Int} {v : V} {xs : List V} (h5 : H[j]? = some xs) (c1 : 0 ≤ k) (c2 : k < xs.length) (c3 : xs.length ≤ 1048576) (c4 : j ≠ 0) : setL ρ (.list j) (.int k) v H = some (.next, (ρ, H.set j (xs.set k.toNat v))) := by
  have c3' : lenOk xs.length = true := decide_eq_true c3
  simp only [setL, asList_list, intOf_int, Option.bind_some, h5, decide_eq_true c1, decide_eq_true c2, decide_eq_true c4, c3', Bool.and_self, if_true]
theorem getI_tupE {xs : List V} {k : Int} : getI (.tup xs) (.int k) H = if 0 ≤ k ∧ k < 2 ^ 62 then xs[k.toNat]? else none := nd rfl
theorem var_of {i : Nat} {v : V} (h : ρ[i]? = some (some v)) : ev Φ (.var i) ρ H = some (v, H) := by rw [e_var, h]; rfl
theorem idx_of {o i : Ex} {x y v : V} {H₁ H₂ : HP} (h1 : ev Φ o ρ H = some (x, H₁)) (h2 : ev Φ i ρ H₁ = some (y, H₂)) (h3 : getI x y H₂ = some v) : ev Φ (.idx o i) ρ H = some (v, H₂) := by
  rw [e_idx, h1, Option.bind_some, h2, Option.bind_some, h3, Option.map_some]
theorem bin_of {op : Op} {a b : Ex} {x y : V} {r : V × HP} {H₁ H₂ : HP} (h1 : ev Φ a ρ H = some (x, H₁)) (h2 : ev Φ b ρ H₁ = some (y, H₂)) (h3 : bin op x y H₂ = some r) : ev Φ (.bin op a b) ρ H = some r := by
  rw [e_bin, h1, Option.bind_some, h2, Option.bind_some, h3]
theorem int_of {op : Op} {a b : Ex} {x y z : Int} {H₁ H₂ : HP} (h1 : ev Φ a ρ H = some (.int x, H₁)) (h2 : ev Φ b ρ H₁ = some (.int y, H₂)) (h3 : binI op x y = some z) : ev Φ (.bin op a b) ρ H = some (.int z, H₂) :=
  bin_of h1 h2 (by rw [bin_ii, h3, Option.map_some])
theorem cmp_of {op : Cm} {a b : Ex} {x y : V} {t : Bool} {H₁ H₂ : HP} (h1 : ev Φ a ρ H = some (x, H₁)) (h2 : ev Φ b ρ H₁ = some (y, H₂)) (h3 : cmpV op x y H₂ = some t) : ev Φ (.cmp op a b) ρ H = some (.bool t, H₂) := by
  rw [e_cmp, h1, Option.bind_some, h2, Option.bind_some, h3, Option.map_some]
theorem es0 : evs Φ .nil ρ H = some ([], H) := es_nil
theorem es1 {e : Ex} {es : Exs} {v : V} {vs : List V} {H₁ H₂ : HP} (h1 : ev Φ e ρ H = some (v, H₁)) (h2 : evs Φ es ρ H₁ = some (vs, H₂)) : evs Φ (.cons e es) ρ H = some (v :: vs, H₂) := by
  rw [es_cons, h1, Option.bind_some, h2, Option.map_some]
theorem fn_of {k : Nat} {as : Exs} {vs : List V} {r : V × HP} {H₁ : HP} (h1 : evs Φ as ρ H = some (vs, H₁)) (h2 : Φ k vs none H₁ = some r) : ev Φ (.call (.lit (.fn k)) as) ρ H = some r := by
  rw [e_call, e_lit, Option.bind_some, h1, Option.bind_some, app_fn, h2]
theorem bi_of {b : Bi} {as : Exs} {vs : List V} {r : V × HP} {H₁ : HP} (h1 : evs Φ as ρ H = some (vs, H₁)) (h2 : bi b vs H₁ = some r) : ev Φ (.call (.lit (.bi b)) as) ρ H = some r := by
  rw [e_call, e_lit, Option.bind_some, h1, Option.bind_some, app_bi, h2]
theorem fnK_of {k : Nat} {as : Exs} {key : Ex} {kv : V} {vs : List V} {r : V × HP} {H₁ H₂ : HP} (h1 : evs Φ as ρ H = some (vs, H₁)) (hk : ev Φ key ρ H₁ = some (kv, H₂)) (h2 : Φ k vs (some kv) H₂ = some r) : ev Φ (.callK (.lit (.fn k)) as key) ρ H = some r := by
  rw [e_callK, e_lit, Option.bind_some, h1, Option.bind_some, hk, Option.bind_some, app_fn, h2]
theorem meth_of {m : Mt} {o : Ex} {as : Exs} {x : V} {vs : List V} {r : V × HP} {H₁ H₂ : HP} (h0 : ev Φ o ρ H = some (x, H₁)) (h1 : evs Φ as ρ H₁ = some (vs, H₂)) (h2 : meth m x vs H₂ = some r) : ev Φ (.meth m o as) ρ H = some r := by
  rw [e_meth, h0, Option.bind_some, h1, Option.bind_some, h2]
theorem sl_of {o l u s : Ex} {x a b c : V} {r : V × HP} {H₁ H₂ H₃ H₄ : HP} (h1 : ev Φ o ρ H = some (x, H₁)) (h2 : ev Φ l ρ H₁ = some (a, H₂)) (h3 : ev Φ u ρ H₂ = some (b, H₃)) (h4 : ev Φ s ρ H₃ = some (c, H₄)) (h5 : slV x a b c H₄ = some r) : ev Φ (.sl o l u s) ρ H = some r := by
  rw [e_sl, h1, Option.bind_some, h2, Option.bind_some, h3, Option.bind_some, h4, Option.bind_some, h5]
theorem lst_of {es : Exs} {vs : List V} {H₁ : HP} (h1 : evs Φ es ρ H = some (vs, H₁)) (hl : vs.length ≤ 1048576) : ev Φ (.lst es) ρ H = some (.list H₁.length, H₁ ++ [vs]) := by
  rw [e_lst, h1, Option.bind_some, if_pos (show lenOk vs.length = true from decide_eq_true hl)]
theorem tpl_of {es : Exs} {vs : List V} {H₁ : HP} (h1 : evs Φ es ρ H = some (vs, H₁)) (hl : vs.length ≤ 1048576) : ev Φ (.tpl es) ρ H = some (.tup vs, H₁) := by
  rw [e_tpl, h1, Option.bind_some, if_pos (show lenOk vs.length = true from decide_eq_true hl)]
theorem evB_of' {e : Ex} {v : V} {t : Bool} {H₁ : HP} (h1 : ev Φ e ρ H = some (v, H₁)) (h2 : tr v = some t) : evB Φ e ρ H = some (t, H₁) := by
  unfold evB
  rw [h1, Option.bind_some, h2, Option.map_some]
@[simp] theorem okR_0 : okR 0 = true := by decide
@[simp] theorem okR_1 : okR 1 = true := by decide
@[simp] theorem biRange_1 {a : Int} : biRange [.int a] H = rng 0 a 1 H := nd rfl
@[simp] theorem biRange_2 {a b : Int} : biRange [.int a, .int b] H = rng a b 1 H := nd rfl
@[simp] theorem biRange_3 {a b c : Int} : biRange [.int a, .int b, .int c] H = rng a b c H := nd rfl
@[simp] theorem bi_len {as : List V} : bi .len as H = biLen as H := nd rfl
@[simp] theorem bi_range {as : List V} : bi .range as H = biRange as H := nd rfl
@[simp] theorem bi_int {as : List V} : bi .int as H = biInt as H := nd rfl
@[simp] theorem bi_abs {as : List V} : bi .abs as H = biAbs as H := nd rfl
@[simp] theorem bi_divmod {as : List V} : bi .divmod as H = biDivmod as H := nd rfl
@[simp] theorem bi_isinstance {as : List V} : bi .isinstance as H = biIsinstance as H := nd rfl
@[simp] theorem bi_bytes {as : List V} : bi .bytes as H = biBytes as H := nd rfl
@[simp] theorem bi_list {as : List V} : bi .list as H = biList as H := nd rfl
@[simp] theorem bi_min {as : List V} : bi .min as H = biMin as H := nd rfl
@[simp] theorem bi_max {as : List V} : bi .max as H = biMax as H := nd rfl
@[simp] theorem bi_sorted {as : List V} : bi .sorted as H = biSorted as H := nd rfl
@[simp] theorem eqV_i {a b : Int} : eqV H (.int a) (.int b) = some (a == b) := nd rfl
@[simp] theorem eqV_b {a b : List UInt8} : eqV H (.bytes a) (.bytes b) = some (a == b) := nd rfl
@[simp] theorem eqV_l {a b : Nat} : eqV H (.list a) (.list b) = eqL H a b := nd rfl
@[simp] theorem hiOf_none {n : Nat} : hiOf n .none = some n := nd rfl
theorem hiOf_int {n : Nat} {k : Int} (h : 0 ≤ k) : hiOf n (.int k) = some k.toNat := (nd rfl : hiOf n (.int k) = if 0 ≤ k then some k.toNat else none).trans (if_pos h)
@[simp] theorem hiOf_nat {n k : Nat} : hiOf n (.int (k : Int)) = some k := hiOf_int (Int.natCast_nonneg k)
theorem slV_b {b ys : List UInt8} {lo hi : V} (h : cutG b lo hi = some ys) (hl : b.length ≤ 1048576) : slV (.bytes b) lo hi .none H = some (.bytes ys, H) := by
  show ((cutG b lo hi).bind fun ys => if lenOk b.length then some (V.bytes ys, H) else none) = _
  rw [h, Option.bind_some, if_pos (show lenOk b.length = true from decide_eq_true hl)]
theorem slV_l {i : Nat} {xs ys : List V} {lo hi : V} (hx : H[i]? = some xs) (h : cutG xs lo hi = some ys) (hl : xs.length ≤ 1048576) : slV (.list i) lo hi .none H = some (.list H.length, H ++ [ys]) := by
  show ((H[i]?).bind fun xs => (cutG xs lo hi).bind fun ys => if lenOk xs.length then some (V.list H.length, H ++ [ys]) else none) = _
  rw [hx, Option.bind_some, h, Option.bind_some, if_pos (show lenOk xs.length = true from decide_eq_true hl)]
theorem cut_nn {α : Type} {xs : List α} {a b : Nat} : cutG xs (.int (a : Int)) (.int (b : Int)) = some ((xs.drop a).take (b - a)) := by
  unfold cutG; rw [hiOf_nat, hiOf_nat]; rfl
theorem cut_xn {α : Type} {xs : List α} {b : Nat} : cutG xs .none (.int (b : Int)) = some (xs.take b) := by
  unfold cutG; rw [hiOf_nat, hiOf_none]; rfl
theorem len_l {i : Nat} {xs : List V} (h : H[i]? = some xs) (hl : xs.length ≤ 1048576) : bi .len [.list i] H = some (.int (xs.length : Int), H) := by
  show (((H[i]?).map List.length).bind fun n => if lenOk n then some (V.int (n : Int), H) else none) = _
  rw [h, Option.map_some, Option.bind_some, if_pos (show lenOk xs.length = true from decide_eq_true hl)]
theorem len_b {b : List UInt8} (hl : b.length ≤ 1048576) : bi .len [.bytes b] H = some (.int (b.length : Int), H) := by
  show (if lenOk b.length then some (V.int (b.length : Int), H) else none) = _
  rw [if_pos (show lenOk b.length = true from decide_eq_true hl)]
theorem isi_by {w : List UInt8} : bi .isinstance [.bytes w, .bi .bytes] H = some (.bool true, H) := nd rfl
theorem abs_i {i : Int} : bi .abs [.int i] H = some (.int (i.natAbs : Int), H) := nd rfl
theorem range_1 {n : Nat} (h : n ≤ 100000) : bi .range [.int (n : Int)] H = some (.range ((0 : Nat) : Int) (n : Int) 1, H) := by
  have ho : okR (n : Int) = true := by simp [okR]; (first | lia | omega)
  rw [bi_range, biRange_1]
  unfold rng
  rw [ho]; rfl
theorem not_of {a : Ex} {v : V} {t : Bool} {H₁ : HP} (h1 : ev Φ a ρ H = some (v, H₁)) (h2 : tr v = some t) : ev Φ (.not a) ρ H = some (.bool (!t), H₁) := by
  rw [e_not, h1, Option.bind_some, h2, Option.map_some]
theorem neg_of {a : Ex} {i : Int} {H₁ : HP} (h1 : ev Φ a ρ H = some (.int i, H₁)) : ev Φ (.neg a) ρ H = some (.int (-i), H₁) := by
  rw [e_neg, h1, Option.bind_some, intOf_int, Option.map_some]
theorem cmp_ne {x y : V} {t : Bool} (h : eqV H x y = some t) : cmpV .ne x y H = some (!t) := (congrArg (Option.map (!·)) h : _)
theorem evB_eq {e : Ex} : evB Φ e ρ H = (ev Φ e ρ H).bind fun v => (tr v.1).map fun c => (c, v.2) := nd rfl
end

theorem seq_of {Φ : FnT} {a b : St} {σ σ' : Cfg} {r : Option (Fl × Cfg)} (h1 : run Φ a σ = some (.next, σ')) (h2 : run Φ b σ' = r) : run Φ (.seq a b) σ = r := by
  rw [r_seq, h1]; exact h2
theorem asg_of {Φ : FnT} {k : Nat} {e : Ex} {ρ : Rho} {H H' : HP} {v : V} (h : ev Φ e ρ H = some (v, H')) : run Φ (.asg k e) (ρ, H) = some (.next, (ρ.set k (some v), H')) := by
  rw [r_asg, h, Option.map_some]
theorem exp_of {Φ : FnT} {e : Ex} {ρ : Rho} {H H' : HP} (h : ev Φ e ρ H = some (.none, H')) : run Φ (.exp e) (ρ, H) = some (.next, (ρ, H')) := by
  rw [r_exp, h]; rfl
theorem ret_of {Φ : FnT} {e : Ex} {ρ : Rho} {H H' : HP} {v : V} (h : ev Φ e ρ H = some (v, H')) : run Φ (.ret e) (ρ, H) = some (.ret v, (ρ, H')) := by
  rw [r_ret, h, Option.map_some]
theorem seq_ret {Φ : FnT} {a b : St} {σ σ' : Cfg} {v : V} (h1 : run Φ a σ = some (.ret v, σ')) : run Φ (.seq a b) σ = some (.ret v, σ') := by
  rw [r_seq, h1]; rfl

theorem set_last {α : Type} {H : List α} {x y : α} : (H ++ [x]).set H.length y = H ++ [y] := by simp
theorem get_last {α : Type} {H : List α} {x : α} : (H ++ [x])[H.length]? = some x := by simp


theorem call_of {Δ : Nat → Option Fn} {n k : Nat} {f : Fn} {args : List V} {key : Option V} {H H' : HP} {v : V} {ρ ρ' : Rho} (h1 : Δ k = some f) (h2 : bindV f args key = some ρ) (h3 : run (callF Δ n) f.body (ρ, H) = some (.ret v, (ρ', H'))) : callF Δ (n + 1) k args key H = some (v, H') := by
  simp only [callF, h1, h2, h3, Option.bind_some, retOf, Option.map_some]
theorem call_of_none {Δ : Nat → Option Fn} {n k : Nat} {f : Fn} {args : List V} {key : Option V} {H H' : HP} {ρ ρ' : Rho} (h1 : Δ k = some f) (h2 : bindV f args key = some ρ) (h3 : run (callF Δ n) f.body (ρ, H) = some (.next, (ρ', H'))) : callF Δ (n + 1) k args key H = some (.none, H') := by
  simp only [callF, h1, h2, h3, Option.bind_some, retOf, Option.map_some]

/-! counts in sorted lists -/
noncomputable def cLe (ks : List Int) (x : Int) : Nat := (ks.filter fun k => decide (k ≤ x)).length
noncomputable def cLt (ks : List Int) (x : Int) : Nat := (ks.filter fun k => decide (k < x)).length
theorem cLe_le (ks : List Int) (x : Int) : cLe ks x ≤ ks.length := List.length_filter_le ..
theorem cLt_le (ks : List Int) (x : Int) : cLt ks x ≤ ks.length := List.length_filter_le ..
theorem cLe_iff : ∀ {ks : List Int} {x : Int}, ks.Pairwise (· ≤ ·) → ∀ {i : Nat} {k : Int}, ks[i]? = some k → (k ≤ x ↔ i < cLe ks x)
  | [], x, _, i, k, e => by simp at e
  | y :: ks, x, hs, 0, k, e => by
    simp at e; subst e
    obtain ⟨h1, h2⟩ := List.pairwise_cons.mp hs
    by_cases h : y ≤ x
    · simp [cLe, List.filter_cons, h]
    · have : ks.filter (fun k => decide (k ≤ x)) = [] := List.filter_eq_nil_iff.mpr fun z hz => by
        have := h1 z hz
        simp; (first | lia | omega)
      simp [cLe, List.filter_cons, h, this]
  | y :: ks, x, hs, i + 1, k, e => by
    simp at e
    obtain ⟨h1, h2⟩ := List.pairwise_cons.mp hs
    have ih := cLe_iff (x := x) h2 e
    by_cases h : y ≤ x
    · have : cLe (y :: ks) x = cLe ks x + 1 := by simp [cLe, List.filter_cons, h]
      rw [this, ih]; (first | lia | omega)
    · have hk : ¬ k ≤ x := fun hk => h (Int.le_trans (h1 k (List.mem_of_getElem? e)) hk)
      have : ks.filter (fun k => decide (k ≤ x)) = [] := List.filter_eq_nil_iff.mpr fun z hz => by
        have := h1 z hz
        simp; (first | lia | omega)
      simp [cLe, List.filter_cons, h, this, hk]
theorem cLt_iff {ks : List Int} {x : Int} (hs : ks.Pairwise (· ≤ ·)) {i : Nat} {k : Int} (e : ks[i]? = some k) : (k < x ↔ i < cLt ks x) := by
  have h := cLe_iff (x := x - 1) hs e
  have e1 : cLt ks x = cLe ks (x - 1) := by
    simp only [cLt, cLe]
    congr 2
    funext k
    by_cases hk : k < x
    · simp [hk]; (first | lia | omega)
    · simp [hk]; (first | lia | omega)
  rw [e1, ← h]; (first | lia | omega)

/-! bisect -/
noncomputable def brW : Ex := .cmp .lt (.var 2) (.var 3)
noncomputable def brK : St := .seq (.asg 5 (.bin .div (.bin .add (.var 2) (.var 3)) (.lit (.int 2)))) (.seq (.ite (.cmp .lt (.var 1) (.call (.var 4) (.cons (.idx (.var 0) (.var 5)) .nil))) (.seq (.asg 3 (.var 5)) .skip) (.seq (.asg 2 (.bin .add (.var 5) (.lit (.int 1)))) .skip)) .skip)
noncomputable def brN : St := .seq (.asg 5 (.bin .div (.bin .add (.var 2) (.var 3)) (.lit (.int 2)))) (.seq (.ite (.cmp .lt (.var 1) (.idx (.var 0) (.var 5))) (.seq (.asg 3 (.var 5)) .skip) (.seq (.asg 2 (.bin .add (.var 5) (.lit (.int 1)))) .skip)) .skip)
noncomputable def blK : St := .seq (.asg 5 (.bin .div (.bin .add (.var 2) (.var 3)) (.lit (.int 2)))) (.seq (.ite (.cmp .lt (.call (.var 4) (.cons (.idx (.var 0) (.var 5)) .nil)) (.var 1)) (.seq (.asg 2 (.bin .add (.var 5) (.lit (.int 1)))) .skip) (.seq (.asg 3 (.var 5)) .skip)) .skip)
noncomputable def blN : St := .seq (.asg 5 (.bin .div (.bin .add (.var 2) (.var 3)) (.lit (.int 2)))) (.seq (.ite (.cmp .lt (.idx (.var 0) (.var 5)) (.var 1)) (.seq (.asg 2 (.bin .add (.var 5) (.lit (.int 1)))) .skip) (.seq (.asg 3 (.var 5)) .skip)) .skip)
noncomputable def bsT (k n : St) : Fn := { params := 4, key := true, slots := 6, body := .seq (.ite (.cmp .lt (.var 2) (.lit (.int 0))) (.seq .bad .skip) .skip) (.seq (.ite (.cmp .is (.var 3) (.lit .none)) (.seq (.asg 3 (.call (.lit (.bi .len)) (.cons (.var 0) .nil))) .skip) .skip) (.seq (.ite (.cmp .is (.var 4) (.lit .none)) (.seq (.whl brW n) .skip) (.seq (.whl brW k) .skip)) (.seq (.ret (.var 2)) .skip))) }
noncomputable def fBr : Fn := bsT brK brN
noncomputable def fBl : Fn := bsT blK blN

/-- a list's items under a key: the key's answers are ks -/
structure Keyed (Φ : FnT) (H : HP) (a : Nat) (key : V) (xs : List V) (ks : List Int) : Prop where
  at' : H[a]? = some xs
  len : xs.length = ks.length
  ans : ∀ (i : Nat) (v : V), xs[i]? = some v → ∃ k, ks[i]? = some k ∧ app Φ key [v] none H = some (.int k, H)

theorem while_step {test : Cfg → Option (Bool × HP)} {body : Cfg → Option (Fl × Cfg)} {k : Nat} {σ σ' : Cfg} {H : HP} {r : Option (Fl × Cfg)} (h1 : test σ = some (true, H)) (h2 : body (σ.1, H) = some (.next, σ')) (h3 : whileGo test body k σ' = r) : whileGo test body (k + 1) σ = r := by
  simp only [whileGo, h1, h2, Option.bind_some, loopOn, h3, cond_true]
theorem while_end {test : Cfg → Option (Bool × HP)} {body : Cfg → Option (Fl × Cfg)} {k : Nat} {σ : Cfg} {H : HP} (h1 : test σ = some (false, H)) : whileGo test body (k + 1) σ = some (.next, (σ.1, H)) := by
  simp only [whileGo, h1, Option.bind_some, cond_false]
theorem mid_eq (lo hi : Nat) : Int.fdiv ((lo : Int) + (hi : Int)) 2 = (((lo + hi) / 2 : Nat) : Int) := by
  rw [Int.fdiv_eq_ediv_of_nonneg _ (by (first | lia | omega))]; (first | lia | omega)
theorem big62 {i : Nat} (h : i < 2 ^ 20) : (i : Int) < 2 ^ 62 := Int.lt_trans (show (i : Int) < 1048576 by (first | lia | omega)) (by decide)
theorem getL_nat {xs : List V} {i : Nat} (hi : (i : Int) < 2 ^ 62) : getL xs (i : Int) = xs[i]? := by
  unfold getL
  rw [if_pos (Int.natCast_nonneg i), if_pos hi, Int.toNat_natCast]
theorem getI_list {a : Nat} {H : HP} {k : Int} : getI (.list a) (.int k) H = (H[a]?).bind fun xs => getL xs k := nd rfl
theorem getI_at {a : Nat} {xs : List V} {H : HP} {i : Nat} {v : V} (h : H[a]? = some xs) (hi : i < 2 ^ 20) (e : xs[i]? = some v) : getI (.list a) (.int (i : Int)) H = some v := by
  rw [getI_list, h, Option.bind_some, getL_nat (big62 hi), e]
theorem lt_of_get' {α : Type} {l : List α} {i : Nat} {a : α} (h : l[i]? = some a) : i < l.length := by
  rcases Nat.lt_or_ge i l.length with hlt | hge
  · exact hlt
  · rw [List.getElem?_eq_none hge] at h; cases h

section
variable {Φ : FnT} {H : HP} {a : Nat} {key : V} {xs : List V} {ks : List Int} {x : Int}
noncomputable abbrev bsS (a : Nat) (x : Int) (lo hi : Nat) (key : V) (m : Option V) : Rho := [some (.list a), some (.int x), some (.int lo), some (.int hi), some key, m]
theorem bs_test {lo hi : Nat} {m : Option V} : evB Φ brW (bsS a x lo hi key m) H = some (decide (lo < hi), H) := by
  simp [evB_eq, brW, cmpV, cmpI, bsS]

structure BsBody (Φ : FnT) (H : HP) (a : Nat) (key : V) (xs : List V) (ks : List Int) (x : Int) (b : St) (c : Nat) : Prop where
  le : c ≤ ks.length
  run : ∀ (lo hi : Nat) (m : Option V), lo < hi → hi ≤ ks.length → ∃ k, ks[(lo + hi) / 2]? = some k ∧ ((c ≤ (lo + hi) / 2 ∧ Mp.run Φ b (bsS a x lo hi key m, H) = some (.next, (bsS a x lo ((lo + hi) / 2) key (some (.int (((lo + hi) / 2 : Nat) : Int))), H))) ∨
    ((lo + hi) / 2 < c ∧ Mp.run Φ b (bsS a x lo hi key m, H) = some (.next, (bsS a x ((lo + hi) / 2 + 1) hi key (some (.int (((lo + hi) / 2 : Nat) : Int))), H))))

theorem bs_loop {b : St} {c : Nat} (B : BsBody Φ H a key xs ks x b c) : ∀ (fuel lo hi : Nat) (m : Option V), hi - lo < fuel → lo ≤ c → c ≤ hi → hi ≤ ks.length →
    ∃ m', whileGo (fun σ => evB Φ brW σ.1 σ.2) (fun σ => Mp.run Φ b σ) fuel (bsS a x lo hi key m, H) = some (.next, (bsS a x c c key m', H))
  | 0, lo, hi, m, h, _, _, _ => by (first | lia | omega)
  | fuel + 1, lo, hi, m, h, h1, h2, h3 => by
    by_cases hlt : lo < hi
    · obtain ⟨k, _, hr⟩ := B.run lo hi m hlt h3
      rcases hr with ⟨hc, hr⟩ | ⟨hc, hr⟩
      · obtain ⟨m', ih⟩ := bs_loop B fuel lo ((lo + hi) / 2) _ (by (first | lia | omega)) h1 hc (by (first | lia | omega))
        exact ⟨m', while_step (by rw [bs_test, decide_eq_true hlt]) hr ih⟩
      · obtain ⟨m', ih⟩ := bs_loop B fuel ((lo + hi) / 2 + 1) hi _ (by (first | lia | omega)) hc h2 h3
        exact ⟨m', while_step (by rw [bs_test, decide_eq_true hlt]) hr ih⟩
    · have e1 : lo = c := by (first | lia | omega)
      have e2 : hi = c := by (first | lia | omega)
      subst e1; subst e2
      exact ⟨m, while_end (by rw [bs_test, decide_eq_false hlt])⟩

theorem br_body (K : Keyed Φ H a key xs ks) (hs : ks.Pairwise (· ≤ ·)) (hl : ks.length ≤ 1000) : BsBody Φ H a key xs ks x brK (cLe ks x) where
  le := cLe_le ..
  run := fun lo hi m hlt h3 => by
    have hmid' := mid_eq lo hi
    generalize hmid : (lo + hi) / 2 = c at hmid' ⊢
    have hmh : c < hi := by (first | lia | omega)
    have hml : lo ≤ c := by (first | lia | omega)
    obtain ⟨k, hk⟩ : ∃ k, ks[c]? = some k := ⟨_, List.getElem?_eq_getElem (by (first | lia | omega))⟩
    obtain ⟨v, hv⟩ : ∃ v, xs[c]? = some v := ⟨_, List.getElem?_eq_getElem (by rw [K.len]; (first | lia | omega))⟩
    obtain ⟨k', hk', happ⟩ := K.ans c v hv
    rw [hk] at hk'; cases hk'
    have hiff := cLe_iff (x := x) hs hk
    have hg := getI_at K.at' (show c < 2 ^ 20 by (first | lia | omega)) hv
    refine ⟨k, hk, ?_⟩
    by_cases hx : x < k
    · refine Or.inl ⟨by (first | lia | omega), ?_⟩
      simp [brK, bsS, r_seq, r_asg, r_ite, r_skip, evB_eq, binI, Mp.mid, hmid', hg, happ, cmpV, cmpI, hx]
    · refine Or.inr ⟨by (first | lia | omega), ?_⟩
      simp [brK, bsS, r_seq, r_asg, r_ite, r_skip, evB_eq, binI, Mp.mid, hmid', hg, happ, cmpV, cmpI, hx]
theorem bl_body (K : Keyed Φ H a key xs ks) (hs : ks.Pairwise (· ≤ ·)) (hl : ks.length ≤ 1000) : BsBody Φ H a key xs ks x blK (cLt ks x) where
  le := cLt_le ..
  run := fun lo hi m hlt h3 => by
    have hmid' := mid_eq lo hi
    generalize hmid : (lo + hi) / 2 = c at hmid' ⊢
    have hmh : c < hi := by (first | lia | omega)
    have hml : lo ≤ c := by (first | lia | omega)
    obtain ⟨k, hk⟩ : ∃ k, ks[c]? = some k := ⟨_, List.getElem?_eq_getElem (by (first | lia | omega))⟩
    obtain ⟨v, hv⟩ : ∃ v, xs[c]? = some v := ⟨_, List.getElem?_eq_getElem (by rw [K.len]; (first | lia | omega))⟩
    obtain ⟨k', hk', happ⟩ := K.ans c v hv
    rw [hk] at hk'; cases hk'
    have hiff := cLt_iff (x := x) hs hk
    have hg := getI_at K.at' (show c < 2 ^ 20 by (first | lia | omega)) hv
    refine ⟨k, hk, ?_⟩
    by_cases hx : k < x
    · refine Or.inr ⟨by (first | lia | omega), ?_⟩
      simp [blK, bsS, r_seq, r_asg, r_ite, r_skip, evB_eq, binI, Mp.mid, hmid', hg, happ, cmpV, cmpI, hx]
    · refine Or.inl ⟨by (first | lia | omega), ?_⟩
      simp [blK, bsS, r_seq, r_asg, r_ite, r_skip, evB_eq, binI, Mp.mid, hmid', hg, happ, cmpV, cmpI, hx]
end

section
variable {Φ : FnT} {H : HP} {a : Nat} {xs : List V} {ks : List Int} {x : Int}
/-- the whole of bisect, with a key -/
theorem bs_run {k n : St} {c j : Nat} (B : BsBody Φ H a (.fn j) xs ks x k c) (hx : H[a]? = some xs) (hlen : xs.length = ks.length) (hl : ks.length < 190) :
    ∃ ρ', run Φ (bsT k n).body ([some (.list a), some (.int x), some (.int 0), some .none, some (.fn j), none], H) = some (.ret (.int (c : Int)), (ρ', H)) := by
  obtain ⟨m', hm⟩ := bs_loop B WF 0 ks.length none (by simp only [WF]; (first | lia | omega)) (Nat.zero_le _) B.le (Nat.le_refl _)
  have hm2 : run Φ (.whl brW k) ([some (.list a), some (.int x), some (.int 0), some (.int (xs.length : Int)), some (.fn j), none], H) = some (.next, (bsS a x c c (.fn j) m', H)) := by
    rw [hlen]; exact hm
  refine ⟨bsS a x c c (.fn j) m', ?_⟩
  have hlo : lenOk xs.length = true := by simp [lenOk]; (first | lia | omega)
  simp [bsT, r_seq, r_asg, r_ite, r_ret, r_skip, evB_eq, cmpV, cmpI, isV', lenOf, biLen, lenOf, rng, biInt, biAbs, biDivmod, biIsinstance, isBy, Bi.isBytes, biBytes, hx, hlo, hm2, bsS]
end


noncomputable def fIns (b : Nat) : Fn := { params := 4, key := true, slots := 5, body := .seq (.ite (.cmp .is (.var 4) (.lit .none)) (.seq (.asg 2 (.call (.lit (.fn b)) (.cons (.var 0) (.cons (.var 1) (.cons (.var 2) (.cons (.var 3) .nil)))))) .skip) (.seq (.asg 2 (.callK (.lit (.fn b)) (.cons (.var 0) (.cons (.call (.var 4) (.cons (.var 1) .nil)) (.cons (.var 2) (.cons (.var 3) .nil)))) (.var 4))) .skip)) (.seq (.exp (.meth .insert (.var 0) (.cons (.var 2) (.cons (.var 1) .nil)))) .skip) }

section
variable {Δ : Nat → Option Fn} {n i b j : Nat} {H : HP} {a : Nat} {xs : List V} {ks : List Int} {x : Int} {xv : V} {k nn : St} {c : Nat}

theorem bs_call4 (hb : Δ b = some (bsT k nn)) (B : BsBody (callF Δ n) H a (.fn j) xs ks x k c) (hx : H[a]? = some xs) (hlen : xs.length = ks.length) (hl : ks.length < 190) :
    callF Δ (n + 1) b [.list a, .int x, .int 0, .none] (some (.fn j)) H = some (.int (c : Int), H) := by
  obtain ⟨ρ', h⟩ := bs_run (k := k) (n := nn) B hx hlen hl
  exact call_of hb rfl h
theorem ins_call (hi : Δ i = some (fIns b)) (hb : Δ b = some (bsT k nn)) (hk : callF Δ (n + 1) j [xv] none H = some (.int x, H)) (B : BsBody (callF Δ n) H a (.fn j) xs ks x k c) (hx : H[a]? = some xs) (hlen : xs.length = ks.length) (hl : ks.length < 190) (ha : a ≠ 0) :
    callF Δ (n + 2) i [.list a, xv] (some (.fn j)) H = some (.none, H.set a (xs.take c ++ xv :: xs.drop c)) := by
  have hbs := bs_call4 hb B hx hlen hl
  have hc := B.le
  have hm : meth .insert (.list a) [.int (c : Int), xv] H = some (.none, H.set a (xs.take c ++ xv :: xs.drop c)) := by
    have hlo : lenOk xs.length = true := by simp [lenOk]; (first | lia | omega)
    simp [meth, ha, meth0, mtInsert, hx, hlo]
    (first | lia | omega)
  refine call_of_none (ρ' := [some (.list a), some xv, some (.int c), some .none, some (.fn j)]) hi rfl ?_
  simp [fIns, bindV, r_seq, r_asg, r_ite, r_exp, r_skip, evB_eq, cmpV, isV', hk, hbs, hm, cmpI]
end

/-! Int2AP -/
noncomputable def dg (n : Nat) : List Nat := if h : n = 0 then [] else dg (n / 16) ++ [n % 16]
termination_by n
decreasing_by (first | lia | omega)
noncomputable def let8 (d : Nat) : UInt8 := UInt8.ofNat (65 + d)
noncomputable def ap (n : Nat) : List UInt8 := (dg n).map let8
theorem dg_zero : dg 0 = [] := by rw [dg]; simp
theorem dg_pos {n : Nat} (h : n ≠ 0) : dg n = dg (n / 16) ++ [n % 16] := by rw [dg]; simp [h]
theorem ap_zero : ap 0 = [] := by simp [ap, dg_zero]
theorem ap_pos {n : Nat} (h : n ≠ 0) : ap n = ap (n / 16) ++ [let8 (n % 16)] := by simp [ap, dg_pos h]
noncomputable def apC : Ex := .var 0
noncomputable def apB : St := .seq (.unp [0, 3] (.call (.lit (.bi .divmod)) (.cons (.var 0) (.cons (.lit (.int 16)) .nil)))) (.seq (.asg 1 (.bin .add (.sl (.var 2) (.var 3) (.bin .add (.var 3) (.lit (.int 1))) (.lit .none)) (.var 1))) .skip)
noncomputable def apW : List UInt8 := [65, 66, 67, 68, 69, 70, 71, 72, 73, 74, 75, 76, 77, 78, 79, 80]
noncomputable def fAp : Fn := { params := 1, key := false, slots := 4, body := .seq (.asg 1 (.lit (.bytes []))) (.seq (.asg 2 (.lit (.bytes apW))) (.seq (.asg 0 (.call (.lit (.bi .int)) (.cons (.call (.lit (.bi .abs)) (.cons (.var 0) .nil)) .nil))) (.seq (.whl apC apB) (.seq (.ret (.var 1)) .skip)))) }
theorem ap_letter : ∀ m, m < 16 → (apW.drop m).take 1 = [let8 m] := by decide
theorem ap_step {Φ : FnT} {H : HP} {n : Nat} {w : List UInt8} {m : Option V} (hw : w.length ≤ 1000) : run Φ apB ([some (.int (n : Int)), some (.bytes w), some (.bytes apW), m], H) =
    some (.next, ([some (.int ((n / 16 : Nat) : Int)), some (.bytes (let8 (n % 16) :: w)), some (.bytes apW), some (.int ((n % 16 : Nat) : Int))], H)) := by
  have e1 : Int.fdiv (n : Int) 16 = ((n / 16 : Nat) : Int) := by rw [Int.fdiv_eq_ediv_of_nonneg _ (by (first | lia | omega))]; (first | lia | omega)
  have e2 : Int.fmod (n : Int) 16 = ((n % 16 : Nat) : Int) := by rw [Int.fmod_eq_emod_of_nonneg _ (by (first | lia | omega))]; (first | lia | omega)
  have e3 := ap_letter (n % 16) (Nat.mod_lt _ (by decide))
  have e4 : ((((n % 16 : Nat) : Int) + 1).toNat - ((n % 16 : Nat) : Int).toNat) = 1 := by (first | lia | omega)
  have h0 : (0 : Int) ≤ ((n % 16 : Nat) : Int) := Int.natCast_nonneg _
  have h1 : (0 : Int) ≤ ((n % 16 : Nat) : Int) + 1 := by (first | lia | omega)
  have e5 : ((n % 16 : Nat) : Int).toNat = n % 16 := Int.toNat_natCast _
  have hsl : slV (.bytes apW) (.int ((n % 16 : Nat) : Int)) (.int (((n % 16 : Nat) : Int) + 1)) .none H = some (.bytes [let8 (n % 16)], H) := by
    simp only [slV, asBytes_bytes, Option.elim_some, isNone_none, if_true, cutG, hiOf, isNone_int, Bool.false_eq_true, if_false, intOf_int, if_pos h0, if_pos h1, Option.bind_some, Option.map_some, e4]
    rw [e5, e3]
    rfl
  have hl : lenOk (1 + w.length) = true := by simp [lenOk]; (first | lia | omega)
  have hd : bi .divmod [.int (n : Int), .int 16] H = some (.tup [.int ((n / 16 : Nat) : Int), .int ((n % 16 : Nat) : Int)], H) := by
    simp [biLen, lenOf, rng, biInt, biAbs, biDivmod, biIsinstance, isBy, Bi.isBytes, biBytes, Mp.mid, e1, e2]
  generalize n / 16 = q at *
  generalize n % 16 = r at *
  simp [apB, r_seq, r_unp, r_asg, r_skip, hd, parts, binI, hsl, hl]
theorem ap_loop {Φ : FnT} {H : HP} : ∀ (fuel n : Nat) (w : List UInt8) (m : Option V), n < 16 ^ fuel → w.length + fuel ≤ 1000 →
    ∃ m', whileGo (fun σ => evB Φ apC σ.1 σ.2) (fun σ => run Φ apB σ) (fuel + 1) ([some (.int (n : Int)), some (.bytes w), some (.bytes apW), m], H) = some (.next, ([some (.int 0), some (.bytes (ap n ++ w)), some (.bytes apW), m'], H))
  | 0, n, w, m, h, hw => by
    have e : n = 0 := by (first | lia | omega)
    subst e
    refine ⟨m, ?_⟩
    rw [ap_zero]
    exact while_end (by simp [evB_eq, apC])
  | fuel + 1, n, w, m, h, hw => by
    by_cases hn : n = 0
    · subst hn
      refine ⟨m, ?_⟩
      rw [ap_zero]
      exact while_end (by simp [evB_eq, apC])
    · obtain ⟨m', ih⟩ := ap_loop fuel (n / 16) (let8 (n % 16) :: w) (some (.int ((n % 16 : Nat) : Int))) (by rw [Nat.pow_succ] at h; (first | lia | omega)) (by simp; (first | lia | omega))
      refine ⟨m', ?_⟩
      rw [ap_pos hn, List.append_assoc]
      refine while_step ?_ (ap_step (by (first | lia | omega))) ih
      have : ((n : Int) != 0) = true := by simp; (first | lia | omega)
      simp [evB_eq, apC]; (first | lia | omega)
theorem ap_call {Δ : Nat → Option Fn} {n k : Nat} {H : HP} {i : Int} (hd : Δ k = some fAp) (hi : i.natAbs < 16 ^ 199) : callF Δ (n + 1) k [.int i] none H = some (.bytes (ap i.natAbs), H) := by
  obtain ⟨m', h⟩ := ap_loop (Φ := callF Δ n) (H := H) 199 i.natAbs [] none hi (by simp)
  have h2 : run (callF Δ n) (.whl apC apB) ([some (.int (i.natAbs : Int)), some (.bytes []), some (.bytes apW), none], H) = some (.next, ([some (.int 0), some (.bytes (ap i.natAbs)), some (.bytes apW), m'], H)) := by
    rw [List.append_nil] at h; exact h
  refine call_of (ρ' := [some (.int 0), some (.bytes (ap i.natAbs)), some (.bytes apW), m']) hd rfl ?_
  simp [fAp, r_seq, r_asg, r_ret, r_skip, biLen, lenOf, rng, biInt, biAbs, biDivmod, biIsinstance, isBy, Bi.isBytes, biBytes, h2]


theorem for_go {is : List Nat} {tp : Bool} {body : Cfg → Option (Fl × Cfg)} {src : Src} {vs : List V} (P : Nat → Cfg → Prop) (hi : ∀ i σ, P i σ → src.items σ.2 = some vs)
    (hb : ∀ i x σ, vs[i]? = some x → P i σ → ∃ ps σ', parts tp is.length x σ.2 = some ps ∧ body (setAll σ.1 is ps, σ.2) = some (.next, σ') ∧ P (i + 1) σ') :
    ∀ (fuel i : Nat) (σ : Cfg), fuel + i = vs.length + 1 → P i σ → i ≤ vs.length → ∃ σ', forGo is tp body src fuel i σ = some (.next, σ') ∧ P vs.length σ'
  | 0, i, σ, h, hp, hle => by (first | lia | omega)
  | fuel + 1, i, σ, h, hp, hle => by
    simp only [forGo, hi i σ hp, Option.bind_some]
    cases e : vs[i]? with
    | none =>
      have := List.getElem?_eq_none_iff.mp e
      have hi' : i = vs.length := by (first | lia | omega)
      subst hi'
      exact ⟨σ, rfl, hp⟩
    | some x =>
      obtain ⟨ps, σ', h1, h2, h3⟩ := hb i x σ e hp
      have hlt := lt_of_get' e
      obtain ⟨σ'', g1, g2⟩ := for_go P hi hb fuel (i + 1) σ' (by (first | lia | omega)) h3 hlt
      refine ⟨σ'', ?_, g2⟩
      simp only [Option.elim_some, h1, h2, Option.bind_some, loopOn]
      exact g1
theorem for_run {Φ : FnT} {is : List Nat} {tp : Bool} {it : Ex} {b : St} {src : Src} {vs : List V} {ρ : Rho} {H H' : HP} {x : V} (e1 : ev Φ it ρ H = some (x, H')) (e2 : srcOf x H' = some src) (P : Nat → Cfg → Prop) (hi : ∀ i σ, P i σ → src.items σ.2 = some vs)
    (h0 : P 0 (ρ, H')) (hb : ∀ i x σ, vs[i]? = some x → P i σ → ∃ ps σ', parts tp is.length x σ.2 = some ps ∧ run Φ b (setAll σ.1 is ps, σ.2) = some (.next, σ') ∧ P (i + 1) σ') :
    ∃ σ', run Φ (.fr is tp it b) (ρ, H) = some (.next, σ') ∧ P vs.length σ' := by
  have hf : src.fuel H' = vs.length + 1 := by
    have := hi 0 (ρ, H') h0
    simp only at this
    simp [Src.fuel, this]
  obtain ⟨σ', g1, g2⟩ := for_go P hi hb (src.fuel H') 0 (ρ, H') (by rw [hf]) h0 (Nat.zero_le _)
  refine ⟨σ', ?_, g2⟩
  simp only [run, e1, e2, Option.bind_some]
  exact g1

/-! lists made by comprehensions -/
noncomputable def cstp (Φ : FnT) (elt : Ex) (nt : Nat) (tp : Bool) (cnd : Ex) (ρ : Rho) : V → HP → Option (Option V × HP) := fun v H => (parts tp nt v H).bind fun ps => (ev Φ cnd (ρ ++ ps.map some) H).bind fun c => (tr c.1).bind fun t =>
  cond t ((ev Φ elt (ρ ++ ps.map some) c.2).map fun y => (some y.1, y.2)) (some (none, c.2))
theorem ev_comp_eq {Φ : FnT} {elt it cnd : Ex} {nt : Nat} {tp : Bool} {ρ : Rho} {H : HP} : ev Φ (.comp elt nt tp it cnd) ρ H = (ev Φ it ρ H).bind fun x => (srcOf x.1 x.2).bind fun src => (compGo (cstp Φ elt nt tp cnd ρ) src (src.fuel x.2) 0 x.2).map fun r => (.list r.2.length, r.2 ++ [r.1]) := nd rfl
theorem cstp_one {Φ : FnT} {elt cnd : Ex} {ρ : Rho} {v : V} {H : HP} : cstp Φ elt 1 false cnd ρ v H = (evB Φ cnd (ρ ++ [some v]) H).bind fun t => cond t.1 ((ev Φ elt (ρ ++ [some v]) t.2).map fun y => (some y.1, y.2)) (some (none, t.2)) := by
  show ((ev Φ cnd (ρ ++ [some v]) H).bind fun c => (tr c.1).bind fun t => _) = ((ev Φ cnd (ρ ++ [some v]) H).bind fun c => (tr c.1).map fun t => (t, c.2)).bind _
  cases ev Φ cnd (ρ ++ [some v]) H with
  | none => rfl
  | some c =>
    show ((tr c.1).bind fun t => _) = ((tr c.1).map fun t => (t, c.2)).bind _
    cases tr c.1 <;> rfl
theorem comp_go {f : V → HP → Option (Option V × HP)} {g : V → Option V} {src : Src} {vs : List V} {H : HP} (hi : src.items H = some vs) (hf : ∀ x ∈ vs, f x H = some (g x, H)) :
    ∀ (fuel i : Nat), fuel + i = vs.length + 1 → i ≤ vs.length → compGo f src fuel i H = some ((vs.drop i).filterMap g, H)
  | 0, i, h, hle => by (first | lia | omega)
  | fuel + 1, i, h, hle => by
    simp only [compGo, hi, Option.bind_some]
    cases e : vs[i]? with
    | none =>
      have := List.getElem?_eq_none_iff.mp e
      have hi' : i = vs.length := by (first | lia | omega)
      subst hi'
      simp
    | some x =>
      have hlt := lt_of_get' e
      simp only [Option.elim_some, hf x (List.mem_of_getElem? e), Option.bind_some, comp_go hi hf fuel (i + 1) (by (first | lia | omega)) hlt, Option.map_some]
      have hd : vs.drop i = x :: vs.drop (i + 1) := by
        rw [List.drop_eq_getElem_cons hlt]
        congr 1
        rw [List.getElem?_eq_getElem hlt] at e
        exact Option.some.inj e
      rw [hd, List.filterMap_cons]
      cases g x <;> rfl
theorem comp_ev {Φ : FnT} {elt it cond : Ex} {nt : Nat} {tp : Bool} {ρ : Rho} {H H₁ : HP} {x : V} {src : Src} {vs : List V} (g : V → Option V) (e1 : ev Φ it ρ H = some (x, H₁)) (e2 : srcOf x H₁ = some src) (e3 : src.items H₁ = some vs)
    (hf : ∀ x ∈ vs, cstp Φ elt nt tp cond ρ x H₁ = some (g x, H₁)) : ev Φ (.comp elt nt tp it cond) ρ H = some (.list H₁.length, H₁ ++ [vs.filterMap g]) := by
  rw [ev_comp_eq]
  have h := comp_go (f := cstp Φ elt nt tp cond ρ) e3 hf (src.fuel H₁) 0 (by simp [Src.fuel, e3]) (Nat.zero_le _)
  simp only [e1, e2, h, List.drop_zero, Option.bind_some, Option.map_some]
theorem comp_map {Φ : FnT} {elt it : Ex} {ρ : Rho} {H H₁ : HP} {x : V} {src : Src} {vs : List V} (g : V → V) (e1 : ev Φ it ρ H = some (x, H₁)) (e2 : srcOf x H₁ = some src) (e3 : src.items H₁ = some vs)
    (hf : ∀ x ∈ vs, ev Φ elt (ρ ++ [some x]) H₁ = some (g x, H₁)) : ev Φ (.comp elt 1 false it (.lit (.bool true))) ρ H = some (.list H₁.length, H₁ ++ [vs.map g]) := by
  rw [comp_ev (fun x => some (g x)) e1 e2 e3 fun x hx => by rw [cstp_one, evB_eq]; simp [hf x hx]]
  congr 4
  clear hf e3
  induction vs with
  | nil => rfl
  | cons y ys ih => simp [ih]
theorem comp_filter {Φ : FnT} {elt it cond : Ex} {ρ : Rho} {H H₁ : HP} {x : V} {src : Src} {vs : List V} (g : V → V) (p : V → Bool) (e1 : ev Φ it ρ H = some (x, H₁)) (e2 : srcOf x H₁ = some src) (e3 : src.items H₁ = some vs)
    (hc : ∀ x ∈ vs, evB Φ cond (ρ ++ [some x]) H₁ = some (p x, H₁)) (hf : ∀ x ∈ vs, p x = true → ev Φ elt (ρ ++ [some x]) H₁ = some (g x, H₁)) : ev Φ (.comp elt 1 false it cond) ρ H = some (.list H₁.length, H₁ ++ [(vs.filter p).map g]) := by
  rw [comp_ev (fun x => if p x then some (g x) else none) e1 e2 e3 fun x hx => ?_]
  · congr 4
    clear hc hf e3
    induction vs with
    | nil => rfl
    | cons y ys ih =>
      rw [List.filterMap_cons, List.filter_cons]
      cases p y <;> simp [ih]
  · rw [cstp_one, hc x hx, Option.bind_some]
    cases hb : p x with
    | false => rfl
    | true => simp only [cond_true, hf x hx hb, Option.map_some, if_true]

theorem rng_len (a b : Nat) : (PySem.Builtin.Range.rangeSize (a : Int) (b : Int) 1) = ((b - a : Nat) : Int) := by
  unfold PySem.Builtin.Range.rangeSize
  rw [if_pos (by (first | lia | omega))]
  split <;> (first | lia | omega)
theorem rangeL_nat (a b : Nat) : rangeL (a : Int) (b : Int) 1 = (List.range (b - a)).map fun i => V.int ((a + i : Nat) : Int) := by
  simp only [rangeL, rng_len, Int.toNat_natCast, PyProof.Rows.rangeInts, List.map_map]
  refine List.map_congr_left fun i _ => ?_
  simp
theorem rng_src (a b : Nat) (H : HP) (h : b ≤ 100000) (ha : a ≤ 100000) : srcOf (.range a b 1) H = some (.fixed ((List.range (b - a)).map fun i => V.int ((a + i : Nat) : Int))) := by
  have h1 : lenOk (rangeL (a : Int) (b : Int) 1).length = true := by rw [rangeL_nat]; simp [lenOk]; (first | lia | omega)
  have h2 : okR (a : Int) = true := by simp [okR]; (first | lia | omega)
  have h3 : okR (b : Int) = true := by simp [okR]; (first | lia | omega)
  have h4 : okR 1 = true := by decide
  have h5 : decide ((1 : Int) ≠ 0) = true := by decide
  simp only [srcOf, rangeV, h1, h2, h3, h4, h5, Bool.and_self, if_true, Option.map_some]
  rw [rangeL_nat]

noncomputable def fTerm : Fn := { params := 1, key := false, slots := 1, body := .seq (.ret (.cmp .lt (.var 0) (.lit (.int 256)))) .skip }
noncomputable def fNont : Fn := { params := 1, key := false, slots := 1, body := .seq (.ret (.cmp .ge (.var 0) (.lit (.int 256)))) .skip }
noncomputable def fEof : Fn := { params := 1, key := false, slots := 1, body := .seq (.ret (.cmp .eq (.var 0) (.lit (.int 0)))) .skip }
theorem term_call {Δ : Nat → Option Fn} {n k : Nat} {H : HP} {i : Int} (h : Δ k = some fTerm) : callF Δ (n + 1) k [.int i] none H = some (.bool (decide (i < 256)), H) :=
  call_of (ρ' := [some (.int i)]) h rfl (by simp [fTerm, r_seq, r_ret, cmpV, cmpI])
theorem nont_call {Δ : Nat → Option Fn} {n k : Nat} {H : HP} {i : Int} (h : Δ k = some fNont) : callF Δ (n + 1) k [.int i] none H = some (.bool (decide (256 ≤ i)), H) :=
  call_of (ρ' := [some (.int i)]) h rfl (by simp [fNont, r_seq, r_ret, cmpV, cmpI])
theorem eof_call {Δ : Nat → Option Fn} {n k : Nat} {H : HP} {i : Int} (h : Δ k = some fEof) : callF Δ (n + 1) k [.int i] none H = some (.bool (i == 0), H) :=
  call_of (ρ' := [some (.int i)]) h rfl (by simp [fEof, r_seq, r_ret, cmpV, eqV, eq0, cmpI])

noncomputable def dval (ds : List Nat) : Nat := ds.foldl (fun v d => 16 * v + d) 0
theorem dval_snoc (ds : List Nat) (d : Nat) : dval (ds ++ [d]) = 16 * dval ds + d := by simp [dval]
theorem dg_lt : ∀ n, ∀ d ∈ dg n, d < 16 := by
  intro n
  induction n using Nat.strongRecOn with
  | ind n ih =>
    by_cases h : n = 0
    · subst h; rw [dg_zero]; simp
    · rw [dg_pos h]
      intro d hd
      rcases List.mem_append.mp hd with hd | hd
      · exact ih (n / 16) (by (first | lia | omega)) d hd
      · rw [List.mem_singleton.mp hd]; (first | lia | omega)
theorem let8_nat {d : Nat} (h : d < 16) : (let8 d).toNat = 65 + d := by
  simp only [let8, UInt8.toNat_ofNat']
  (first | lia | omega)

/-! _law_power -/
theorem ap_ints (n : Nat) : (ap n).map (fun x => V.int (x.toNat : Int)) = (dg n).map fun d => V.int ((65 + d : Nat) : Int) := by
  simp only [ap, List.map_map]
  refine List.map_congr_left fun d hd => ?_
  simp [let8_nat (dg_lt n d hd)]
theorem dg_len : ∀ k n, n < 16 ^ k → (dg n).length ≤ k
  | 0, n, h => by
    have : n = 0 := by (first | lia | omega)
    subst this; simp [dg_zero]
  | k + 1, n, h => by
    by_cases hn : n = 0
    · subst hn; simp [dg_zero]
    · rw [dg_pos hn]
      have := dg_len k (n / 16) (by rw [Nat.pow_succ] at h; (first | lia | omega))
      simp; (first | lia | omega)
theorem ap_len {k n : Nat} (h : n < 16 ^ k) : (ap n).length ≤ k := by rw [ap, List.length_map]; exact dg_len k n h
theorem r_aug {Φ : FnT} {o i e : Ex} {ρ : Rho} {H H₁ H₂ H₃ : HP} {j : Nat} {k : Int} {old new : Int} {xs : List V} (h1 : ev Φ o ρ H = some (.list j, H₁)) (h2 : ev Φ i ρ H₁ = some (.int k, H₂)) (h3 : getI (.list j) (.int k) H₂ = some (.int old)) (h4 : ev Φ e ρ H₂ = some (.int new, H₃))
    (h5 : H₃[j]? = some xs) (c1 : 0 ≤ k) (c2 : k < xs.length) (c3 : xs.length ≤ 1048576) (c4 : j ≠ 0) : run Φ (.aug o i .add e) (ρ, H) = some (.next, (ρ, H₃.set j (xs.set k.toNat (.int (old + new))))) := by
  simp only [r_aug0, h1, h2, h3, h4, Option.bind_some, intOf_int]
  exact setL_of h5 c1 c2 c3 c4

theorem getI_tup {l : List V} {H : HP} {i : Nat} {v : V} (hi : i < 2 ^ 20) (e : l[i]? = some v) : getI (.tup l) (.int (i : Int)) H = some v := by
  have h1 : (0 : Int) ≤ (i : Int) := Int.natCast_nonneg i
  have h2 := big62 hi
  rw [getI_tupE, if_pos (And.intro h1 h2), Int.toNat_natCast, e]
theorem getI_tup0 {a : V} {l : List V} {H : HP} : getI (.tup (a :: l)) (.int 0) H = some a := by
  rw [show (0 : Int) = ((0 : Nat) : Int) from rfl]; exact getI_tup (by decide) rfl
theorem getI_tup1 {a b : V} {l : List V} {H : HP} : getI (.tup (a :: b :: l)) (.int 1) H = some b := by
  rw [show (1 : Int) = ((1 : Nat) : Int) from rfl]; exact getI_tup (by decide) rfl

theorem getI_lst0 {j : Nat} {a : V} {l : List V} {H : HP} (h : H[j]? = some (a :: l)) : getI (.list j) (.int 0) H = some a := by
  rw [show (0 : Int) = ((0 : Nat) : Int) from rfl]; exact getI_at h (by decide) rfl
theorem getI_lst1 {j : Nat} {a b : V} {l : List V} {H : HP} (h : H[j]? = some (a :: b :: l)) : getI (.list j) (.int 1) H = some b := by
  rw [show (1 : Int) = ((1 : Nat) : Int) from rfl]; exact getI_at h (by decide) rfl

noncomputable def natV (f : Nat → V) (v : V) : V := match v with
  | .int i => f i.toNat
  | _ => .none
noncomputable def natB (f : Nat → Bool) (v : V) : Bool := match v with
  | .int i => f i.toNat
  | _ => false
theorem app_get {H K : HP} {a : Nat} {xs : List V} (h : H[a]? = some xs) : (H ++ K)[a]? = some xs := by
  rw [List.getElem?_append_left (lt_of_get' h)]; exact h

theorem eqs_one {a : Int} : eqs eq1 [V.int a] [V.int a] = some true := by simp [eqs, eq1, eq0]
theorem getA {H K : HP} {i : Nat} : (H ++ K)[H.length + i]? = K[i]? := by
  rw [List.getElem?_append_right (by (first | lia | omega))]; congr 1; (first | lia | omega)
theorem rng_ev {Φ : FnT} {ρ : Rho} {H : HP} {n : Nat} {z : Int} (hz : z = (n : Int)) (hn : n ≤ 100000) : ev Φ (.call (.lit (.bi .range)) (.cons (.lit (.int z)) .nil)) ρ H = some (.range ((0 : Nat) : Int) (n : Int) 1, H) := by
  subst hz
  have ho : okR (n : Int) = true := by simp [okR]; (first | lia | omega)
  simp [ho, biLen, lenOf, rng, biInt, biAbs, biDivmod, biIsinstance, isBy, Bi.isBytes, biBytes]
theorem or_ff {Φ : FnT} {a b : Ex} {ρ : Rho} {H H₁ H₂ : HP} (h1 : ev Φ a ρ H = some (.bool false, H₁)) (h2 : ev Φ b ρ H₁ = some (.bool false, H₂)) : evB Φ (.or a b) ρ H = some (false, H₂) := by
  simp [evB_eq, h1, h2]
theorem or_ff' {Φ : FnT} {a b : Ex} {ρ : Rho} {H H₁ H₂ : HP} (h1 : ev Φ a ρ H = some (.bool false, H₁)) (h2 : ev Φ b ρ H₁ = some (.bool false, H₂)) : ev Φ (.or a b) ρ H = some (.bool false, H₂) := by
  simp [h1, h2]
theorem unp_of {Φ : FnT} {is : List Nat} {e : Ex} {ρ : Rho} {H H' : HP} {v : V} {ps : List V} (h : ev Φ e ρ H = some (v, H')) (hp : parts true is.length v H' = some ps) : run Φ (.unp is e) (ρ, H) = some (.next, (setAll ρ is ps, H')) := by
  rw [r_unp, h, Option.bind_some]; simp only [hp, Option.map_some]
theorem ap_lead : ∀ n, n ≠ 0 → ∃ d t, ap n = let8 d :: t ∧ 0 < d ∧ d < 16 := by
  intro n
  induction n using Nat.strongRecOn with
  | ind n ih =>
    intro hn
    by_cases h : n / 16 = 0
    · refine ⟨n % 16, [], ?_, by (first | lia | omega), by (first | lia | omega)⟩
      rw [ap_pos hn, h, ap_zero]; rfl
    · obtain ⟨d, t, e, h1, h2⟩ := ih (n / 16) (by (first | lia | omega)) h
      exact ⟨d, t ++ [let8 (n % 16)], by rw [ap_pos hn, e]; rfl, h1, h2⟩
theorem let8_inj : ∀ d, d < 16 → 0 < d → let8 d ≠ 65 := by decide
theorem ap_head (n : Nat) : ((ap n).take 1 == [65]) = false := by
  by_cases hn : n = 0
  · subst hn; rw [ap_zero]; rfl
  · obtain ⟨d, t, e, h1, h2⟩ := ap_lead n hn
    have := let8_inj d h2 h1
    rw [e]
    simp [this]
theorem intsOf_map : ∀ (l : List Int), intsOf (l.map .int) = some l
  | [] => rfl
  | x :: l => by simp only [List.map_cons, intsOf, intsOf_map l, Option.bind_some, e_var, e_lit, e_bin, e_neg, e_not, e_and, e_or, e_cmp, e_ite, e_call, e_callK, e_meth, e_idx, e_sl, e_lst, e_tpl, es_nil, es_cons, Option.map_some, Option.elim_some, Option.elim_none, cond_true, cond_false, intOf_int, intOf_list, intOf_bytes, intOf_tup, intOf_none, intOf_bool, asBytes_bytes, asBytes_list, asList_list, asList_int, asTup_tup, one_one, two_two, tr_bool, tr_int, isNone_none, isNone_int, isNone_bool, boolOf_bool, boolOf_none, app_fn, app_bi, cmpI, setAll_cons, setAll_nil, partsOf_tup, partsOf_list, bin_ii, bin_bb, bin_ll, bin_li]

theorem head_ev {Φ : FnT} {ρ : Rho} {H : HP} {k n : Nat} (hk : ρ[k]? = some (some (.bytes (ap n)))) (hn : n < 16 ^ 100) : ev Φ (.cmp .eq (.sl (.var k) (.lit .none) (.lit (.int 1)) (.lit .none)) (.lit (.bytes [65]))) ρ H = some (.bool false, H) := by
  have hl : lenOk (ap n).length = true := by have := ap_len hn; simp [lenOk]; (first | lia | omega)
  have hs : slV (.bytes (ap n)) .none (.int 1) .none H = some (.bytes ((ap n).take 1), H) := slV_b (cut_xn (b := 1)) (of_decide_eq_true hl)
  exact cmp_of (sl_of (var_of hk) e_lit e_lit e_lit hs) e_lit (eqV_b.trans (congrArg some (ap_head n)))
theorem src_list {H : HP} {id : Nat} {xs : List V} (h : H[id]? = some xs) (hl : xs.length ≤ 1000) : srcOf (.list id) H = some (.lst id) := by
  have : lenOk xs.length = true := by simp [lenOk]; (first | lia | omega)
  show ((H[id]?).bind fun xs => if lenOk xs.length then some (Src.lst id) else none) = _
  rw [h, Option.bind_some, if_pos this]

theorem mul_s {a b : Int} (h : a.natAbs < 2 ^ 64) : binI .mul a b = some (a * b) := by
  have : small a = true := decide_eq_true h
  show (if (small a || small b || (mid a && mid b)) = true then some (a * b) else none) = _
  rw [this, Bool.true_or, Bool.true_or, if_pos rfl]
theorem mod_p {a b : Int} (h : 0 < b) : binI .mod a b = some (a % b) := by
  show (if decide (b ≠ 0) = true then some (a.fmod b) else none) = _
  rw [if_pos (decide_eq_true (Int.ne_of_gt h)), Int.fmod_eq_emod_of_nonneg _ (Int.le_of_lt h)]
theorem div_p {a b : Int} (h : 0 < b) (hb : b < 1000000) : binI .div a b = some (a / b) := by
  have hm : mid b = true := decide_eq_true (Nat.lt_of_lt_of_le (show b.natAbs < 1000000 by (first | lia | omega)) (by decide))
  show (if (decide (b ≠ 0) && mid b) = true then some (a.fdiv b) else none) = _
  rw [decide_eq_true (Int.ne_of_gt h), hm, Bool.true_and, if_pos rfl, Int.fdiv_eq_ediv_of_nonneg _ (Int.le_of_lt h)]

section
variable {is : List Nat} {tp : Bool} {body : Cfg → Option (Fl × Cfg)} {src : Src} {xs ps : List V} {x : V} {k i : Nat} {σ σ' : Cfg} {r : Option (Fl × Cfg)}
theorem fg_next (h1 : src.items σ.2 = some xs) (h2 : xs[i]? = some x) (h3 : parts tp is.length x σ.2 = some ps) (h4 : body (setAll σ.1 is ps, σ.2) = some (.next, σ')) (h5 : forGo is tp body src k (i + 1) σ' = r) : forGo is tp body src (k + 1) i σ = r := by
  show ((src.items σ.2).bind fun xs => (xs[i]?).elim (some (.next, σ)) fun x => (parts tp is.length x σ.2).bind fun ps => (body (setAll σ.1 is ps, σ.2)).bind fun r => loopOn r (forGo is tp body src k (i + 1))) = r
  rw [h1, Option.bind_some, h2, Option.elim_some, h3, Option.bind_some, h4, Option.bind_some]
  exact h5
theorem fg_end (h1 : src.items σ.2 = some xs) (h2 : xs[i]? = none) : forGo is tp body src (k + 1) i σ = some (.next, σ) := by
  show ((src.items σ.2).bind fun xs => (xs[i]?).elim (some (.next, σ)) fun x => (parts tp is.length x σ.2).bind fun ps => (body (setAll σ.1 is ps, σ.2)).bind fun r => loopOn r (forGo is tp body src k (i + 1))) = _
  rw [h1, Option.bind_some, h2, Option.elim_none]
end
theorem fr_of {Φ : FnT} {is : List Nat} {tp : Bool} {it : Ex} {b : St} {src : Src} {ρ : Rho} {H H' : HP} {x : V} {vs : List V} {r : Option (Fl × Cfg)} (e1 : ev Φ it ρ H = some (x, H')) (e2 : srcOf x H' = some src) (e3 : src.items H' = some vs)
    (h : forGo is tp (fun σ => run Φ b σ) src (vs.length + 1) 0 (ρ, H') = r) : run Φ (.fr is tp it b) (ρ, H) = r := by
  have : run Φ (.fr is tp it b) (ρ, H) = (ev Φ it ρ H).bind fun q => (srcOf q.1 q.2).bind fun src => forGo is tp (fun σ => run Φ b σ) src (src.fuel q.2) 0 (ρ, q.2) := nd rfl
  rw [this, e1, Option.bind_some, e2, Option.bind_some]
  unfold Src.fuel
  rw [e3]; exact h
theorem ite_t {Φ : FnT} {c : Ex} {a b : St} {ρ : Rho} {H H' : HP} {r : Option (Fl × Cfg)} (h : evB Φ c ρ H = some (true, H')) (h2 : run Φ a (ρ, H') = r) : run Φ (.ite c a b) (ρ, H) = r := by
  rw [r_ite, h, Option.bind_some]; exact h2
theorem ite_f {Φ : FnT} {c : Ex} {a b : St} {ρ : Rho} {H H' : HP} {r : Option (Fl × Cfg)} (h : evB Φ c ρ H = some (false, H')) (h2 : run Φ b (ρ, H') = r) : run Φ (.ite c a b) (ρ, H) = r := by
  rw [r_ite, h, Option.bind_some]; exact h2
theorem is_bb {H : HP} {a b : Bool} : cmpV .is (.bool a) (.bool b) H = some (a == b) := nd rfl
theorem isn_bb {H : HP} {a b : Bool} : cmpV .isn (.bool a) (.bool b) H = some (!(a == b)) := nd rfl
theorem eq_ii {H : HP} {a b : Int} : cmpV .eq (.int a) (.int b) H = some (a == b) := nd rfl
theorem ne_ii {H : HP} {a b : Int} : cmpV .ne (.int a) (.int b) H = some (!(a == b)) := nd rfl
theorem app_list {i : Nat} {xs : List V} {v : V} {H : HP} (h : H[i]? = some xs) (hi : i ≠ 0) (hl : xs.length ≤ 1048576) : meth .append (.list i) [v] H = some (.none, H.set i (xs ++ [v])) := by
  show ((H[i]?).bind fun xs => if i ≠ 0 then (if lenOk xs.length then some (V.none, H.set i (xs ++ [v])) else none) else none) = _
  rw [h, Option.bind_some, if_pos hi, if_pos (show lenOk xs.length = true from decide_eq_true hl)]
theorem pop_list {i k : Nat} {xs : List V} {v : V} {H : HP} (h : H[i]? = some xs) (hi : i ≠ 0) (hv : xs[k]? = some v) (hl : xs.length ≤ 1048576) : meth .pop (.list i) [.int (k : Int)] H = some (v, H.set i (xs.eraseIdx k)) := by
  show ((H[i]?).bind fun xs => if i ≠ 0 then ((xs[(k : Int).toNat]?).bind fun v => if lenOk xs.length && decide (0 ≤ (k : Int)) then some (v, H.set i (xs.eraseIdx (k : Int).toNat)) else none) else none) = _
  rw [h, Option.bind_some, if_pos hi, Int.toNat_natCast, hv, Option.bind_some, show lenOk xs.length = true from decide_eq_true hl, decide_eq_true (Int.natCast_nonneg k)]
  rfl
theorem erase_map {α β : Type} {f : α → β} : ∀ (l : List α) (i : Nat), (l.map f).eraseIdx i = (l.eraseIdx i).map f
  | [], _ => rfl
  | _ :: _, 0 => rfl
  | a :: l, i + 1 => congrArg (f a :: ·) (erase_map l i)
theorem and_t {Φ : FnT} {ρ : Rho} {a b : Ex} {H H₁ : HP} {v : V} {r : Option (V × HP)} (h : ev Φ a ρ H = some (v, H₁)) (ht : tr v = some true) (h2 : ev Φ b ρ H₁ = r) : ev Φ (.and a b) ρ H = r := by
  rw [e_and, h, Option.bind_some, ht]; exact h2
theorem and_f {Φ : FnT} {ρ : Rho} {a b : Ex} {H H₁ : HP} {v : V} (h : ev Φ a ρ H = some (v, H₁)) (ht : tr v = some false) : ev Φ (.and a b) ρ H = some (v, H₁) := by
  rw [e_and, h, Option.bind_some, ht]; rfl
theorem eqL_same {H : HP} {i j : Nat} {xs ys : List V} (hx : H[i]? = some xs) (hy : H[j]? = some ys) (h : xs.length = ys.length) (hij : i ≠ j) : eqV H (.list i) (.list j) = eqs eq1 xs ys := by
  rw [eqV_l]; unfold eqL
  rw [hx, Option.bind_some, hy, Option.bind_some, if_pos h, if_neg hij]
theorem eqs_of {f : V → V → Option Bool} {xs : List V} (hf : ∀ x ∈ xs, f x x = some true) : eqs f xs xs = some true := by
  induction xs with
  | nil => rfl
  | cons x xs ih =>
    show (f x x).bind (fun a => (eqs f xs xs).map fun b => a && b) = _
    rw [hf x (List.mem_cons_self ..), Option.bind_some, ih fun y hy => hf y (List.mem_cons_of_mem _ hy)]
    rfl
theorem eq0_int {b : Int} : eq0 (.int b) (.int b) = some true := (nd rfl : eq0 (.int b) (.int b) = some (b == b)).trans (by rw [beq_self_eq_true])
theorem eq1_tup {l : List V} (h : ∀ x ∈ l, eq0 x x = some true) : eq1 (.tup l) (.tup l) = some true := (nd rfl : eq1 (.tup l) (.tup l) = eqs eq0 l l).trans (eqs_of h)
noncomputable abbrev iV (L : List Nat) : List V := L.map fun (x : Nat) => V.int (x : Int)
theorem int_beq {a b : Nat} : ((a : Int) == (b : Int)) = (a == b) := by
  by_cases h : a = b
  · subst h; rw [beq_self_eq_true, beq_self_eq_true]
  · have h2 : ¬ (a : Int) = b := by (first | lia | omega)
    rw [beq_eq_false_iff_ne.mpr h, beq_eq_false_iff_ne.mpr h2]
theorem setI_of {Φ : FnT} {o i e : Ex} {ρ : Rho} {H H₁ H₂ H₃ : HP} {v x y : V} {r : Option (Fl × Cfg)} (h1 : ev Φ e ρ H = some (v, H₁)) (h2 : ev Φ o ρ H₁ = some (x, H₂)) (h3 : ev Φ i ρ H₂ = some (y, H₃)) (h4 : setL ρ x y v H₃ = r) : run Φ (.setI o i e) (ρ, H) = r := by
  rw [r_setI, h1, Option.bind_some, h2, Option.bind_some, h3, Option.bind_some]; exact h4
theorem set_mid {α : Type} {A B : List α} {x y : α} : (A ++ x :: B).set A.length y = A ++ y :: B := by
  rw [List.set_append_right _ _ (Nat.le_refl _), Nat.sub_self]; rfl
theorem get_mid {α : Type} {A B : List α} {x : α} : (A ++ x :: B)[A.length]? = some x := by
  rw [List.getElem?_append_right (Nat.le_refl _), Nat.sub_self]; rfl
theorem getD_some {l : List Nat} {i : Nat} (h : i < l.length) : l[i]? = some (l.getD i 0) := by simp [List.getD, List.getElem?_eq_getElem h]
theorem ints_iV (R : List Nat) : intsOf (iV R) = some (R.map fun (x : Nat) => (x : Int)) := by
  have : iV R = (R.map fun (x : Nat) => (x : Int)).map .int := by rw [List.map_map]; rfl
  rw [this, intsOf_map]
theorem has_iV (x : Nat) : ∀ (R : List Nat), (R.map fun (x : Nat) => (x : Int)).contains (x : Int) = R.contains x
  | [] => rfl
  | y :: R => by rw [List.map_cons, List.contains_cons, List.contains_cons, has_iV x R, int_beq]
/- _law_cells: [script, cells, place] -/
noncomputable def f01__law_cells : Fn := { params := 1, key := false, slots := 3, body := .seq (.asg 1 (.lst (.cons (.lit (.int 25142436057939499)) (.cons (.lit (.int 3)) .nil)))) (.seq (.fr [2] false (.call (.lit (.bi .range)) (.cons (.call (.lit (.bi .len)) (.cons (.var 0) .nil)) .nil)) (.seq (.aug (.var 1) (.bin .mod (.var 2) (.lit (.int 2))) .add (.idx (.var 0) (.var 2))) .skip)) (.seq (.ret (.var 1)) .skip)) }
/- _law_letters: [number, word] -/
noncomputable def f01__law_letters : Fn := { params := 1, key := false, slots := 2, body := .seq (.asg 1 (.call (.lit (.fn 4)) (.cons (.var 0) .nil))) (.seq (.ite (.or (.not (.call (.lit (.bi .isinstance)) (.cons (.var 1) (.cons (.lit (.bi .bytes)) .nil)))) (.or (.cmp .eq (.sl (.var 1) (.lit .none) (.lit (.int 1)) (.lit .none)) (.lit (.bytes [65]))) (.cmp .gt (.call (.lit (.bi .len)) (.cons (.var 1) .nil)) (.lit (.int 14))))) (.seq (.ret (.lit .none)) .skip) .skip) (.seq (.ret (.bin .add (.bin .mul (.lst (.cons (.lit (.int 0)) .nil)) (.bin .sub (.lit (.int 14)) (.call (.lit (.bi .len)) (.cons (.var 1) .nil)))) (.comp (.bin .sub (.var 2) (.lit (.int 65))) 1 false (.var 1) (.lit (.bool true))))) .skip)) }
/- _law_read: [code, room, turn, ready, place, there, ties, due, leaf] -/
noncomputable def f01__law_read : Fn := { params := 3, key := false, slots := 9, body := .seq (.asg 3 (.bin .mul (.lst (.cons (.lit (.int 0)) .nil)) (.lit (.int 16)))) (.seq (.fr [4] false (.call (.lit (.bi .range)) (.cons (.lit (.int 14)) .nil)) (.seq (.setI (.var 3) (.idx (.var 0) (.var 4)) (.bin .add (.var 4) (.lit (.int 1)))) .skip)) (.seq (.asg 5 (.call (.lit (.bi .list)) (.cons (.call (.lit (.bi .range)) (.cons (.lit (.int 16)) .nil)) .nil))) (.seq (.asg 6 (.lst .nil)) (.seq (.fr [4] false (.call (.lit (.bi .range)) (.cons (.lit (.int 14)) .nil)) (.seq (.asg 7 (.comp (.tpl (.cons (.bin .div (.var 9) (.var 1)) (.cons (.bin .mul (.var 2) (.idx (.var 3) (.var 9))) (.cons (.bin .mul (.var 2) (.var 9)) .nil)))) 1 false (.var 5) (.cmp .le (.idx (.var 3) (.var 9)) (.var 4)))) (.seq (.asg 8 (.bin .mul (.var 2) (.idx (.call (.lit (.bi .min)) (.cons (.var 7) .nil)) (.lit (.int 2))))) (.seq (.exp (.meth .remove (.var 5) (.cons (.var 8) .nil))) (.seq (.exp (.meth .append (.var 6) (.cons (.tpl (.cons (.call (.lit (.bi .min)) (.cons (.var 8) (.cons (.idx (.var 0) (.var 4)) .nil))) (.cons (.call (.lit (.bi .max)) (.cons (.var 8) (.cons (.idx (.var 0) (.var 4)) .nil))) .nil))) .nil))) .skip))))) (.seq (.exp (.meth .append (.var 6) (.cons (.tpl (.cons (.idx (.var 5) (.lit (.int 0))) (.cons (.idx (.var 5) (.lit (.int 1))) .nil))) .nil))) (.seq (.ret (.call (.lit (.bi .sorted)) (.cons (.var 6) .nil))) .skip)))))) }
/- _law_class: [thing] -/
noncomputable def f01__law_class : Fn := { params := 1, key := false, slots := 1, body := .seq (.ret (.idx (.var 0) (.lit (.int 0)))) .skip }
/- _law_lay: [waiting, point, room, turn] -/
noncomputable def f01__law_lay : Fn := { params := 4, key := false, slots := 4, body := .seq (.ite (.cmp .eq (.var 3) (.lit (.int 1))) (.seq (.ret (.callK (.lit (.fn 0)) (.cons (.var 0) (.cons (.tpl (.cons (.bin .div (.var 1) (.var 2)) (.cons (.var 1) .nil))) .nil)) (.lit (.fn 11)))) .skip) .skip) (.seq (.ret (.callK (.lit (.fn 2)) (.cons (.var 0) (.cons (.tpl (.cons (.bin .div (.var 1) (.var 2)) (.cons (.var 1) .nil))) .nil)) (.lit (.fn 11)))) .skip) }
/- _law_written: [ties, room, turn, stride, point, near, place, one, other, waiting, number, leaf, into, told, spot, rest] -/
noncomputable def f01__law_written : Fn := { params := 4, key := false, slots := 16, body := .seq (.asg 5 (.comp (.lst .nil) 1 false (.call (.lit (.bi .range)) (.cons (.lit (.int 16)) .nil)) (.lit (.bool true)))) (.seq (.fr [6] false (.call (.lit (.bi .range)) (.cons (.lit (.int 15)) .nil)) (.seq (.unp [7, 8] (.idx (.var 0) (.bin .mod (.bin .mul (.lit (.int 2)) (.var 6)) (.lit (.int 15))))) (.seq (.ite (.or (.cmp .isn (.call (.lit (.fn 2)) (.cons (.idx (.var 5) (.var 7)) (.cons (.var 8) .nil))) (.lit .none)) (.cmp .isn (.call (.lit (.fn 0)) (.cons (.idx (.var 5) (.var 8)) (.cons (.var 7) .nil))) (.lit .none))) (.seq (.ret (.lit .none)) .skip) .skip) .skip))) (.seq (.asg 9 (.lst .nil)) (.seq (.fr [4] false (.call (.lit (.bi .range)) (.cons (.lit (.int 16)) .nil)) (.seq (.ite (.and (.cmp .is (.call (.lit (.fn 5)) (.cons (.bin .add (.lit (.int 256)) (.bin .mul (.bin .sub (.call (.lit (.bi .len)) (.cons (.idx (.var 5) (.var 4)) .nil)) (.lit (.int 2))) (.var 3))) .nil)) (.lit (.bool true))) (.cmp .isn (.call (.lit (.fn 12)) (.cons (.var 9) (.cons (.var 4) (.cons (.var 1) (.cons (.var 2) .nil))))) (.lit .none))) (.seq (.ret (.lit .none)) .skip) .skip) .skip)) (.seq (.asg 10 (.lit (.int 0))) (.seq (.fr [6] false (.call (.lit (.bi .range)) (.cons (.lit (.int 14)) .nil)) (.seq (.asg 11 (.idx (.meth .pop (.var 9) (.cons (.lit (.int 0)) .nil)) (.lit (.int 1)))) (.seq (.asg 12 (.idx (.idx (.var 5) (.var 11)) (.lit (.int 0)))) (.seq (.asg 13 (.comp (.call (.lit (.fn 6)) (.cons (.bin .add (.lit (.int 256)) (.bin .mul (.bin .sub (.call (.lit (.bi .len)) (.cons (.idx (.var 5) (.var 16)) .nil)) (.lit (.int 2))) (.var 3))) .nil)) 1 false (.lst (.cons (.var 11) (.cons (.var 12) .nil))) (.lit (.bool true)))) (.seq (.ite (.or (.cmp .isn (.idx (.var 13) (.lit (.int 0))) (.lit (.bool false))) (.cmp .isn (.idx (.var 13) (.lit (.int 1))) (.lit (.bool true)))) (.seq (.ret (.lit .none)) .skip) .skip) (.seq (.asg 14 (.call (.lit (.fn 3)) (.cons (.idx (.var 5) (.var 12)) (.cons (.var 11) .nil)))) (.seq (.ite (.or (.cmp .ne (.sl (.idx (.var 5) (.var 12)) (.var 14) (.bin .add (.var 14) (.lit (.int 1))) (.lit .none)) (.lst (.cons (.var 11) .nil))) (.cmp .ne (.call (.lit (.fn 1)) (.cons (.idx (.var 5) (.var 12)) (.cons (.var 11) .nil))) (.bin .add (.var 14) (.lit (.int 1))))) (.seq (.ret (.lit .none)) .skip) .skip) (.seq (.exp (.meth .pop (.idx (.var 5) (.var 11)) .nil)) (.seq (.exp (.meth .pop (.idx (.var 5) (.var 12)) (.cons (.var 14) .nil))) (.seq (.ite (.cmp .ne (.call (.lit (.fn 1)) (.cons (.idx (.var 5) (.var 12)) (.cons (.var 11) .nil))) (.var 14)) (.seq (.ret (.lit .none)) .skip) .skip) (.seq (.asg 10 (.bin .add (.bin .mul (.lit (.int 16)) (.var 10)) (.var 12))) (.seq (.ite (.and (.cmp .is (.call (.lit (.fn 5)) (.cons (.bin .add (.lit (.int 256)) (.bin .mul (.bin .sub (.call (.lit (.bi .len)) (.cons (.idx (.var 5) (.var 12)) .nil)) (.lit (.int 2))) (.var 3))) .nil)) (.lit (.bool true))) (.cmp .isn (.call (.lit (.fn 12)) (.cons (.var 9) (.cons (.var 12) (.cons (.var 1) (.cons (.var 2) .nil))))) (.lit .none))) (.seq (.ret (.lit .none)) .skip) .skip) .skip)))))))))))) (.seq (.asg 15 (.comp (.var 17) 2 true (.var 9) (.lit (.bool true)))) (.seq (.fr [4] false (.call (.lit (.bi .range)) (.cons (.lit (.int 16)) .nil)) (.seq (.ite (.cmp .isn (.call (.lit (.fn 7)) (.cons (.bin .mul (.bin .mul (.var 2) (.var 3)) (.call (.lit (.bi .len)) (.cons (.idx (.var 5) (.var 4)) .nil))) .nil)) (.cmp .nin (.var 4) (.var 15))) (.seq (.ret (.lit .none)) .skip) .skip) .skip)) (.seq (.ret (.var 10)) .skip)))))))) }
/- law: [script, cells, number, room, stride, code, ties, other, turned] -/
noncomputable def f01_law : Fn := { params := 1, key := false, slots := 9, body := .seq (.asg 1 (.call (.lit (.fn 8)) (.cons (.var 0) .nil))) (.seq (.asg 2 (.bin .mod (.idx (.var 1) (.lit (.int 0))) (.bin .pow (.lit (.int 16)) (.lit (.int 14))))) (.seq (.asg 3 (.bin .add (.lit (.int 1)) (.bin .mod (.idx (.var 1) (.lit (.int 1))) (.lit (.int 16))))) (.seq (.asg 4 (.bin .add (.lit (.int 1)) (.call (.lit (.bi .abs)) (.cons (.bin .div (.idx (.var 1) (.lit (.int 1))) (.lit (.int 16))) .nil)))) (.seq (.asg 5 (.call (.lit (.fn 9)) (.cons (.var 2) .nil))) (.seq (.ite (.cmp .is (.var 5) (.lit .none)) (.seq (.ret (.lit (.bool false))) .skip) .skip) (.seq (.asg 6 (.call (.lit (.fn 10)) (.cons (.var 5) (.cons (.var 3) (.cons (.lit (.int 1)) .nil))))) (.seq (.ite (.cmp .ne (.call (.lit (.fn 13)) (.cons (.var 6) (.cons (.var 3) (.cons (.lit (.int 1)) (.cons (.var 4) .nil))))) (.var 2)) (.seq (.ret (.lit (.bool false))) .skip) .skip) (.seq (.asg 7 (.call (.lit (.fn 13)) (.cons (.var 6) (.cons (.var 3) (.cons (.neg (.lit (.int 1))) (.cons (.var 4) .nil)))))) (.seq (.ite (.cmp .is (.var 7) (.lit .none)) (.seq (.ret (.lit (.bool false))) .skip) .skip) (.seq (.asg 8 (.call (.lit (.fn 9)) (.cons (.neg (.var 7)) .nil))) (.seq (.ret (.and (.cmp .isn (.var 8) (.lit .none)) (.cmp .eq (.call (.lit (.fn 10)) (.cons (.var 8) (.cons (.var 3) (.cons (.neg (.lit (.int 1))) .nil)))) (.var 6)))) .skip))))))))))) }
noncomputable def d01 (k : Nat) : Option Fn := match k with
  | 0 => some (fIns 1)
  | 1 => some fBr
  | 2 => some (fIns 3)
  | 3 => some fBl
  | 4 => some fAp
  | 5 => some fTerm
  | 6 => some fNont
  | 7 => some fEof
  | 8 => some f01__law_cells
  | 9 => some f01__law_letters
  | 10 => some f01__law_read
  | 11 => some f01__law_class
  | 12 => some f01__law_lay
  | 13 => some f01__law_written
  | 14 => some f01_law
  | _ => none

theorem delta01 (p : Params) : deltaK (hd01.heap_39 p) ns01 = d01 := by
  funext k
  rcases k with _ | _ | _ | _ | _ | _ | _ | _ | _ | _ | _ | _ | _ | _ | _ | k
  · kernel_rfl
  · kernel_rfl
  · kernel_rfl
  · kernel_rfl
  · kernel_rfl
  · kernel_rfl
  · kernel_rfl
  · kernel_rfl
  · kernel_rfl
  · kernel_rfl
  · kernel_rfl
  · kernel_rfl
  · kernel_rfl
  · kernel_rfl
  · kernel_rfl
  · rfl
theorem main01 (hP : ∀ xs : List Int, xs.length ≤ 63 → ∃ σ : Cfg, run (callF d01 11) f01_law.body (some (.list 0) :: List.replicate 8 none, [xs.map .int]) = some (.ret (.bool true), σ)) : PySem.Challenge.rw_ul0001_01.Holds := by
  refine head01 fun p xs hx => ?_
  obtain ⟨σ, h⟩ := hP xs hx
  exact ⟨f01_law, σ, by rw [delta01]; rfl, by rw [delta01]; exact h⟩

/-! ties, rows of neighbours -/
noncomputable def ed (a b : Nat) : Nat × Nat := if a < b then (a, b) else (b, a)
theorem ed_comm (a b : Nat) : ed a b = ed b a := by
  unfold ed
  by_cases h : a < b
  · rw [if_pos h, if_neg (by (first | lia | omega))]
  · by_cases h2 : b < a
    · rw [if_neg h, if_pos h2]
    · have : a = b := by (first | lia | omega)
      subst this; rfl
theorem ed_inj {a b c d : Nat} (h : ed a b = ed c d) : (a = c ∧ b = d) ∨ (a = d ∧ b = c) := by
  unfold ed at h
  by_cases h1 : a < b <;> by_cases h2 : c < d <;> simp only [h1, h2, if_true, if_false, Prod.mk.injEq] at h <;> (first | lia | omega)
noncomputable abbrev Tie := Nat × Nat
noncomputable def row (E : List Tie) (p : Nat) : List Nat := (List.range 16).filter fun x => decide (ed p x ∈ E)
theorem mem_row {E : List Tie} {p x : Nat} : x ∈ row E p ↔ x < 16 ∧ ed p x ∈ E := by
  unfold row; rw [List.mem_filter, List.mem_range, decide_eq_true_iff]
theorem row_perm {E F : List Tie} (h : E.Perm F) (p : Nat) : row E p = row F p := by
  unfold row
  exact List.filter_congr fun x _ => decide_eq_decide.mpr h.mem_iff
theorem row_lt (E : List Tie) (p : Nat) : (row E p).Pairwise (· < ·) := List.Pairwise.filter _ List.pairwise_lt_range

theorem cut_lt : ∀ {L : List Nat} (x : Nat), L.Pairwise (· < ·) → L.take (L.filter fun y => decide (y < x)).length = L.filter (fun y => decide (y < x)) ∧ L.drop (L.filter fun y => decide (y < x)).length = L.filter fun y => decide (x ≤ y)
  | [], x, h => ⟨rfl, rfl⟩
  | a :: L, x, h => by
    have h1 := List.pairwise_cons.mp h
    by_cases e : a < x
    · rw [List.filter_cons, if_pos (decide_eq_true e), List.length_cons, List.take_succ_cons, List.drop_succ_cons, (cut_lt x h1.2).1, (cut_lt x h1.2).2, List.filter_cons, if_neg (by simp; (first | lia | omega))]
      exact ⟨rfl, rfl⟩
    · have n1 : L.filter (fun y => decide (y < x)) = [] := List.filter_eq_nil_iff.mpr fun y hy => by have := h1.1 y hy; simp; (first | lia | omega)
      have n2 : L.filter (fun y => decide (x ≤ y)) = L := List.filter_eq_self.mpr fun y hy => by have := h1.1 y hy; simp; (first | lia | omega)
      rw [List.filter_cons, if_neg (by simpa using e), n1, List.filter_cons, if_pos (by simp; (first | lia | omega)), n2]
      exact ⟨rfl, rfl⟩
/-- one number more in a filtered range -/
theorem range_more {q q' : Nat → Bool} {x : Nat} : ∀ {n : Nat}, x < n → q x = false → (∀ y, q' y = (q y || y == x)) → (List.range n).filter q' = ((List.range n).filter q).filter (fun y => decide (y < x)) ++ x :: ((List.range n).filter q).filter fun y => decide (x ≤ y)
  | 0, hx, _, _ => by (first | lia | omega)
  | n + 1, hx, hq, h => by
    rw [List.range_succ, List.filter_append, List.filter_append]
    by_cases e : x = n
    · subst e
      have e1 : (List.range x).filter q' = (List.range x).filter q := List.filter_congr fun y hy => by
        have := List.mem_range.mp hy
        rw [h, show (y == x) = false from beq_eq_false_iff_ne.mpr (by (first | lia | omega)), Bool.or_false]
      have e2 : [x].filter q' = [x] := by simp [h]
      have e3 : [x].filter q = [] := by simp [hq]
      have e4 : ((List.range x).filter q).filter (fun y => decide (y < x)) = (List.range x).filter q := List.filter_eq_self.mpr fun y hy => by
        have := List.mem_range.mp (List.mem_filter.mp hy).1
        exact decide_eq_true this
      have e5 : ((List.range x).filter q).filter (fun y => decide (x ≤ y)) = [] := List.filter_eq_nil_iff.mpr fun y hy => by
        have := List.mem_range.mp (List.mem_filter.mp hy).1
        simp; (first | lia | omega)
      rw [e1, e2, e3, List.append_nil, e4, e5]
    · have ih := range_more (n := n) (by (first | lia | omega)) hq h
      have e1 : [n].filter q' = [n].filter q := List.filter_congr fun y hy => by
        rw [List.mem_singleton.mp hy, h, show (n == x) = false from beq_eq_false_iff_ne.mpr (by (first | lia | omega)), Bool.or_false]
      have e2 : ([n].filter q).filter (fun y => decide (y < x)) = [] := List.filter_eq_nil_iff.mpr fun y hy => by
        have := List.mem_singleton.mp (List.mem_filter.mp hy).1
        simp; (first | lia | omega)
      have e3 : ([n].filter q).filter (fun y => decide (x ≤ y)) = [n].filter q := List.filter_eq_self.mpr fun y hy => by
        have := List.mem_singleton.mp (List.mem_filter.mp hy).1
        simp; (first | lia | omega)
      rw [ih, e1, List.filter_append, List.filter_append, e2, e3, List.append_nil, List.append_assoc, List.cons_append]
noncomputable def below (L : List Nat) (x : Nat) : Nat := (L.filter fun y => decide (y < x)).length
/-- a tie more: the row of its one end -/
theorem row_more {E : List Tie} {a b : Nat} (hab : a ≠ b) (hb : b < 16) (hn : ed a b ∉ E) : row (ed a b :: E) a = (row E a).take (below (row E a) b) ++ b :: (row E a).drop (below (row E a) b) := by
  have h1 := cut_lt b (row_lt E a)
  unfold below
  rw [h1.1, h1.2]
  refine range_more hb (decide_eq_false hn) fun y => ?_
  by_cases e : y = b
  · subst e
    rw [decide_eq_true (List.mem_cons_self ..), beq_self_eq_true, Bool.or_true]
  · rw [beq_eq_false_iff_ne.mpr e, Bool.or_false]
    refine decide_eq_decide.mpr ⟨fun h => ?_, List.mem_cons_of_mem _⟩
    rcases List.mem_cons.mp h with h | h
    · rcases ed_inj h with h | h <;> (first | lia | omega)
    · exact h
theorem row_more' {E : List Tie} {a b : Nat} (hab : a ≠ b) (ha : a < 16) (hn : ed a b ∉ E) : row (ed a b :: E) b = (row E b).take (below (row E b) a) ++ a :: (row E b).drop (below (row E b) a) := by
  rw [ed_comm a b] at hn ⊢
  exact row_more (Ne.symm hab) ha hn
theorem row_else {E : List Tie} {a b p : Nat} (h1 : p ≠ a) (h2 : p ≠ b) : row (ed a b :: E) p = row E p := by
  unfold row
  refine List.filter_congr fun x _ => decide_eq_decide.mpr ⟨fun h => ?_, List.mem_cons_of_mem _⟩
  rcases List.mem_cons.mp h with h | h
  · rcases ed_inj h with h | h <;> (first | lia | omega)
  · exact h
theorem below_le (L : List Nat) (x : Nat) : below L x ≤ L.length := List.length_filter_le ..
theorem deg_more {E : List Tie} {a b : Nat} (hab : a ≠ b) (ha : a < 16) (hb : b < 16) (hn : ed a b ∉ E) (p : Nat) : (row (ed a b :: E) p).length = (row E p).length + if p = a ∨ p = b then 1 else 0 := by
  by_cases e1 : p = a
  · subst e1
    have := below_le (row E p) b
    rw [row_more hab hb hn, if_pos (Or.inl rfl)]
    simp; (first | lia | omega)
  · by_cases e2 : p = b
    · subst e2
      have := below_le (row E p) a
      rw [row_more' hab ha hn, if_pos (Or.inr rfl)]
      simp; (first | lia | omega)
    · rw [row_else e1 e2, if_neg (by (first | lia | omega))]; rfl

/-! trees, taken apart leaf by leaf -/
noncomputable def Sch : List Nat → List Tie → Prop
  | S, [] => S.length = 2
  | S, (l, c) :: z => l ∈ S ∧ c ∈ S ∧ c ≠ l ∧ Sch (S.erase l) z
noncomputable def edg : List Nat → List Tie → List Tie
  | S, [] => [ed (S.getD 0 0) (S.getD 1 0)]
  | S, (l, c) :: z => ed l c :: edg (S.erase l) z
noncomputable abbrev cod (z : List Tie) : List Nat := z.map Prod.snd
structure Pts (S : List Nat) : Prop where
  lt : S.Pairwise (· < ·)
  small : ∀ x ∈ S, x < 16
theorem Pts.nd {S : List Nat} (h : Pts S) : S.Nodup := h.lt.imp fun h => Nat.ne_of_lt h
theorem Pts.er {S : List Nat} (h : Pts S) (l : Nat) : Pts (S.erase l) := ⟨h.lt.sublist List.erase_sublist, fun x hx => h.small x (List.mem_of_mem_erase hx)⟩
theorem Pts.mem {S : List Nat} (h : Pts S) {l x : Nat} : x ∈ S.erase l ↔ x ≠ l ∧ x ∈ S := h.nd.mem_erase_iff
theorem Pts.len {S : List Nat} {l : Nat} (hl : l ∈ S) : (S.erase l).length + 1 = S.length := by
  have := List.length_erase_of_mem hl
  have := List.length_pos_of_mem hl
  (first | lia | omega)
theorem sch_len : ∀ {z : List Tie} {S : List Nat}, Sch S z → z.length + 2 = S.length
  | [], _, h => h.symm ▸ rfl
  | (l, c) :: z, S, h => by
    have := sch_len h.2.2.2
    have := Pts.len h.1
    simp only [List.length_cons]; (first | lia | omega)
theorem two_pts {S : List Nat} (hS : Pts S) (h2 : S.length = 2) {x y : Nat} (hx : x ∈ S) (hy : y ∈ S) (h : x ≠ y) : edg S [] = [ed x y] := by
  match S, h2 with
  | [a, b], _ =>
    simp only [List.mem_cons, List.not_mem_nil, or_false] at hx hy
    show [ed a b] = _
    rcases hx with rfl | rfl <;> rcases hy with rfl | rfl
    · exact absurd rfl h
    · rfl
    · rw [ed_comm]
    · exact absurd rfl h
theorem edg_in : ∀ {z : List Tie} {S : List Nat}, Sch S z → Pts S → ∀ {a b : Nat}, ed a b ∈ edg S z → a ∈ S ∧ b ∈ S ∧ a ≠ b
  | [], S, h, hS, a, b, e => by
    have h2 : S.length = 2 := h
    match S, h2 with
    | [x, y], _ =>
      have hxy : x < y := (List.pairwise_cons.mp hS.lt).1 y (by simp)
      have e : ed a b = ed x y := by simpa [edg] using e
      rcases ed_inj e with ⟨rfl, rfl⟩ | ⟨rfl, rfl⟩
      · exact ⟨by simp, by simp, by (first | lia | omega)⟩
      · exact ⟨by simp, by simp, by (first | lia | omega)⟩
  | (l, c) :: z, S, h, hS, a, b, e => by
    obtain ⟨h1, h2, h3, h4⟩ := h
    rcases List.mem_cons.mp e with e | e
    · rcases ed_inj e with ⟨rfl, rfl⟩ | ⟨rfl, rfl⟩
      · exact ⟨h1, h2, Ne.symm h3⟩
      · exact ⟨h2, h1, h3⟩
    · obtain ⟨g1, g2, g3⟩ := edg_in h4 (hS.er l) e
      exact ⟨List.mem_of_mem_erase g1, List.mem_of_mem_erase g2, g3⟩
theorem cod_in : ∀ {z : List Tie} {S : List Nat}, Sch S z → ∀ x ∈ cod z, x ∈ S
  | [], _, _, _, h => nomatch h
  | (l, c) :: z, S, h, x, hx => by
    rcases List.mem_cons.mp hx with rfl | hx
    · exact h.2.1
    · exact List.mem_of_mem_erase (cod_in h.2.2.2 x hx)
theorem row_out {z : List Tie} {S : List Nat} (h : Sch S z) (hS : Pts S) {p : Nat} (hp : p ∉ S) : row (edg S z) p = [] :=
  List.filter_eq_nil_iff.mpr fun x _ => by
    intro e
    exact hp (edg_in h hS (of_decide_eq_true e)).1
theorem new_tie {z : List Tie} {S : List Nat} {l c : Nat} (hS : Pts S) (h : Sch (S.erase l) z) : ed l c ∉ edg (S.erase l) z := fun e => ((hS.mem).mp (edg_in h (hS.er l) e).1).1 rfl
theorem deg_sch : ∀ {z : List Tie} {S : List Nat}, Sch S z → Pts S → ∀ {p : Nat}, p ∈ S → (row (edg S z) p).length = (cod z).count p + 1
  | [], S, h, hS, p, hp => by
    have h2 : S.length = 2 := h
    match S, h2 with
    | [x, y], _ =>
      have hxy : x < y := (List.pairwise_cons.mp hS.lt).1 y (by simp)
      have hx := hS.small x (by simp)
      have hy := hS.small y (by simp)
      have e : edg [x, y] [] = ed x y :: [] := rfl
      have e0 : row [] p = [] := List.filter_eq_nil_iff.mpr fun x _ => by simp
      rw [e, deg_more (by (first | lia | omega)) hx hy (by simp), e0, if_pos (by simpa using hp)]
      simp
  | (l, c) :: z, S, h, hS, p, hp => by
    obtain ⟨h1, h2, h3, h4⟩ := h
    show (row (ed l c :: edg (S.erase l) z) p).length = _
    rw [deg_more (Ne.symm h3) (hS.small l h1) (hS.small c h2) (new_tie hS h4)]
    by_cases e : p = l
    · subst e
      have n1 : p ∉ S.erase p := fun h => ((hS.mem).mp h).1 rfl
      have n2 : (cod z).count p = 0 := List.count_eq_zero.mpr fun h => n1 (cod_in h4 p h)
      rw [row_out h4 (hS.er p) n1, if_pos (Or.inl rfl)]
      show 0 + 1 = (c :: cod z).count p + 1
      rw [List.count_cons_of_ne h3, n2]
    · rw [deg_sch h4 (hS.er l) ((hS.mem).mpr ⟨e, hp⟩)]
      show _ = (c :: cod z).count p + 1
      by_cases e2 : p = c
      · subst e2
        rw [if_pos (Or.inr rfl), List.count_cons_self]
      · rw [if_neg (by (first | lia | omega)), List.count_cons_of_ne (Ne.symm e2)]
theorem leaf_iff {z : List Tie} {S : List Nat} (h : Sch S z) (hS : Pts S) {p : Nat} (hp : p ∈ S) : (row (edg S z) p).length = 1 ↔ p ∉ cod z := by
  rw [deg_sch h hS hp, ← List.count_eq_zero]; (first | lia | omega)
theorem nodup_le : ∀ {S L : List Nat}, S.Nodup → (∀ x ∈ S, x ∈ L) → S.length ≤ L.length
  | [], L, _, _ => Nat.zero_le _
  | x :: S, L, hn, h => by
    have hn' := List.nodup_cons.mp hn
    have hx := h x (List.mem_cons_self ..)
    have := nodup_le (L := L.erase x) hn'.2 fun y hy => (List.mem_erase_of_ne (fun (e : y = x) => hn'.1 (e ▸ hy))).mpr (h y (List.mem_cons_of_mem _ hy))
    have := Pts.len hx
    simp only [List.length_cons]; (first | lia | omega)
theorem pick {S L : List Nat} (hS : S.Nodup) (h : L.length < S.length) : ∃ p ∈ S, p ∉ L := by
  refine Classical.byContradiction fun hn => ?_
  have := nodup_le hS fun x hx => Classical.byContradiction fun hl => hn ⟨x, hx, hl⟩
  (first | lia | omega)
theorem row_one {E : List Tie} {l c : Nat} (h : c ≠ l) (hc : c < 16) (hn : ed l c ∉ E) (h0 : row E l = []) : row (ed l c :: E) l = [c] := by
  rw [row_more (Ne.symm h) hc hn, h0]; rfl
/-- any leaf may go first -/
theorem drop_leaf : ∀ {z : List Tie} {S : List Nat}, Sch S z → Pts S → 3 ≤ S.length → ∀ {l : Nat}, l ∈ S → l ∉ cod z → ∃ c z', c ∈ S ∧ c ≠ l ∧ Sch (S.erase l) z' ∧ (edg S z).Perm (ed l c :: edg (S.erase l) z')
  | [], S, h, hS, h3, l, hl, hc => by
    have h2 : S.length = 2 := h
    (first | lia | omega)
  | (l0, c0) :: z1, S, h, hS, h3, l, hl, hc => by
    obtain ⟨h1, h2, h4, h5⟩ := h
    have hc' : l ≠ c0 ∧ l ∉ cod z1 := by simpa using hc
    by_cases e : l = l0
    · subst e
      exact ⟨c0, z1, h2, h4, h5, .refl _⟩
    · have hlen := Pts.len h1
      have hlen' := Pts.len hl
      have m1 : l ∈ S.erase l0 := (hS.mem).mpr ⟨e, hl⟩
      have m2 : c0 ∈ S.erase l0 := (hS.mem).mpr ⟨h4, h2⟩
      have m3 : l0 ∈ S.erase l := (hS.mem).mpr ⟨Ne.symm e, h1⟩
      have m4 : c0 ∈ S.erase l := (hS.mem).mpr ⟨Ne.symm hc'.1, h2⟩
      cases z1 with
      | nil =>
        have k2 : (S.erase l0).length = 2 := h5
        refine ⟨c0, [], h2, Ne.symm hc'.1, (show (S.erase l).length = 2 by (first | lia | omega)), ?_⟩
        show (ed l0 c0 :: edg (S.erase l0) []).Perm (ed l c0 :: edg (S.erase l) [])
        rw [two_pts (hS.er l0) k2 m1 m2 hc'.1, two_pts (hS.er l) (by (first | lia | omega)) m3 m4 (Ne.symm h4)]
        exact .swap ..
      | cons w z2 =>
        have := sch_len h5
        obtain ⟨c, z', g1, g2, g3, g4⟩ := drop_leaf h5 (hS.er l0) (by simp at this; (first | lia | omega)) m1 hc'.2
        rw [List.erase_comm] at g3 g4
        refine ⟨c, (l0, c0) :: z', List.mem_of_mem_erase g1, g2, ⟨m3, m4, h4, g3⟩, ?_⟩
        exact (g4.cons _).trans (.swap ..)

/-! who goes -/
noncomputable def kl (t : Bool) (rm : Nat) (r : Nat → Nat) (p q : Nat) : Prop := p / rm < q / rm ∨ (p / rm = q / rm ∧ cond t (r p < r q ∨ (r p = r q ∧ p < q)) (r q < r p ∨ (r p = r q ∧ q < p)))
theorem kl_asym {t : Bool} {rm : Nat} {r : Nat → Nat} {p q : Nat} (h1 : kl t rm r p q) (h2 : kl t rm r q p) : False := by
  unfold kl at h1 h2
  generalize p / rm = a at *
  generalize q / rm = b at *
  cases t <;> simp only [cond_true, cond_false] at h1 h2 <;> (first | lia | omega)
noncomputable def upd (r : Nat → Nat) (c v : Nat) : Nat → Nat := fun x => if x = c then v else r x
noncomputable def Grd (t : Bool) (rm : Nat) : Nat → (Nat → Nat) → List Nat → List Tie → Prop
  | _, _, _, [] => True
  | i, r, S, (l, c) :: z => l ∉ c :: cod z ∧ (∀ q ∈ S, q ≠ l → q ∉ c :: cod z → kl t rm r l q) ∧ Grd t rm (i + 1) (upd r c (i + 1)) (S.erase l) z
theorem grd_code {t : Bool} {rm : Nat} : ∀ {z z' : List Tie} {i : Nat} {r : Nat → Nat} {S : List Nat}, Sch S z → Sch S z' → Grd t rm i r S z → Grd t rm i r S z' → cod z = cod z' → z = z'
  | [], [], _, _, _, _, _, _, _, _ => rfl
  | [], _ :: _, _, _, _, _, _, _, _, e => nomatch e
  | _ :: _, [], _, _, _, _, _, _, _, e => nomatch e
  | (l, c) :: z, (l', c') :: z', i, r, S, h1, h2, g1, g2, e => by
    have e' := List.cons.inj (show c :: cod z = c' :: cod z' from e)
    have e1 : c = c' := e'.1
    subst e1
    have el : l = l' := by
      refine Classical.byContradiction fun n => ?_
      exact kl_asym (g1.2.1 l' h2.1 (Ne.symm n) (by rw [e'.2]; exact g2.1)) (g2.2.1 l h1.1 n (by rw [← e'.2]; exact g1.1))
    subst el
    rw [grd_code h1.2.2.2 h2.2.2.2 g1.2.2 g2.2.2 e'.2]
theorem grd_ties {t : Bool} {rm : Nat} : ∀ {z z' : List Tie} {i : Nat} {r : Nat → Nat} {S : List Nat}, Pts S → Sch S z → Sch S z' → Grd t rm i r S z → Grd t rm i r S z' → (edg S z).Perm (edg S z') → z = z'
  | [], [], _, _, _, _, _, _, _, _, _ => rfl
  | [], _ :: _, _, _, _, _, h1, h2, _, _, _ => by have := sch_len h1; have := sch_len h2; simp at *; (first | lia | omega)
  | _ :: _, [], _, _, _, _, h1, h2, _, _, _ => by have := sch_len h1; have := sch_len h2; simp at *; (first | lia | omega)
  | (l, c) :: z, (l', c') :: z', i, r, S, hS, h1, h2, g1, g2, e => by
    have lf : ∀ p ∈ S, (p ∉ c :: cod z ↔ p ∉ c' :: cod z') := fun p hp => by
      have a1 := leaf_iff h1 hS hp
      have a2 := leaf_iff h2 hS hp
      rw [row_perm e] at a1
      exact a1.symm.trans a2
    have el : l = l' := by
      refine Classical.byContradiction fun n => ?_
      exact kl_asym (g1.2.1 l' h2.1 (Ne.symm n) ((lf l' h2.1).mpr g2.1)) (g2.2.1 l h1.1 n ((lf l h1.1).mp g1.1))
    subst el
    have n1 : l ∉ S.erase l := fun h => ((hS.mem).mp h).1 rfl
    have r1 : row (edg S ((l, c) :: z)) l = [c] := row_one h1.2.2.1 (hS.small c h1.2.1) (new_tie hS h1.2.2.2) (row_out h1.2.2.2 (hS.er l) n1)
    have r2 : row (edg S ((l, c') :: z')) l = [c'] := row_one h2.2.2.1 (hS.small c' h2.2.1) (new_tie hS h2.2.2.2) (row_out h2.2.2.2 (hS.er l) n1)
    rw [row_perm e, r2] at r1
    have ec : c = c' := (List.cons.inj r1).1.symm
    subst ec
    rw [grd_ties (hS.er l) h1.2.2.2 h2.2.2.2 g1.2.2 g2.2.2 (List.Perm.cons_inv e)]

theorem cutf {p : Nat → Bool} : ∀ {L : List Nat}, L.Pairwise (fun a b => p b = true → p a = true) → L.take (L.filter p).length = L.filter p ∧ L.drop (L.filter p).length = L.filter fun a => !p a
  | [], _ => ⟨rfl, rfl⟩
  | a :: L, h => by
    have h1 := List.pairwise_cons.mp h
    cases e : p a with
    | true =>
      have ih := cutf h1.2
      rw [List.filter_cons, if_pos e, List.length_cons, List.take_succ_cons, List.drop_succ_cons, ih.1, ih.2, List.filter_cons, if_neg (by simp [e])]
      exact ⟨rfl, rfl⟩
    | false =>
      have n1 : L.filter p = [] := List.filter_eq_nil_iff.mpr fun y hy hp => by
        have := h1.1 y hy hp
        rw [e] at this; cases this
      have n2 : L.filter (fun a => !p a) = L := List.filter_eq_self.mpr fun y hy => by
        cases ey : p y with
        | false => rfl
        | true =>
          have := h1.1 y hy ey
          rw [e] at this; cases this
      rw [List.filter_cons, if_neg (by simp [e]), n1, List.filter_cons, if_pos (by simp [e]), n2]
      exact ⟨rfl, rfl⟩
/-! those that wait -/
noncomputable def cls (t : Bool) (rm : Nat) (v q : Nat) : Bool := cond t (decide (q / rm ≤ v / rm)) (decide (q / rm < v / rm))
noncomputable def lay (t : Bool) (rm : Nat) (Q : List Nat) (v : Nat) : List Nat := Q.take (Q.filter (cls t rm v)).length ++ v :: Q.drop (Q.filter (cls t rm v)).length
theorem mem_lay {t : Bool} {rm : Nat} {Q : List Nat} {v p : Nat} : p ∈ lay t rm Q v ↔ p = v ∨ p ∈ Q := by
  unfold lay
  conv => rhs; rw [← List.take_append_drop (Q.filter (cls t rm v)).length Q]
  simp only [List.mem_append, List.mem_cons]
  constructor
  · rintro (h | h | h)
    · exact Or.inr (Or.inl h)
    · exact Or.inl h
    · exact Or.inr (Or.inr h)
  · rintro (h | h | h)
    · exact Or.inr (Or.inl h)
    · exact Or.inl h
    · exact Or.inr (Or.inr h)
theorem lay_srt {t : Bool} {rm : Nat} {r : Nat → Nat} {Q : List Nat} {v : Nat} (h : Q.Pairwise (kl t rm r)) (hv : ∀ q ∈ Q, r q < r v ∨ (r q = r v ∧ q < v)) : (lay t rm Q v).Pairwise (kl t rm r) := by
  have hc := cutf (p := cls t rm v) (h.imp fun {a b} hab hb => by
    unfold kl at hab
    unfold cls at hb ⊢
    cases t <;> simp only [cond_true, cond_false, decide_eq_true_iff] at hb ⊢ <;> (first | lia | omega))
  have hq := h
  rw [← List.take_append_drop (Q.filter (cls t rm v)).length Q] at hq
  have hq := List.pairwise_append.mp hq
  unfold lay
  refine List.pairwise_append.mpr ⟨hq.1, List.pairwise_cons.mpr ⟨fun b hb => ?_, hq.2.1⟩, fun a ha b hb => ?_⟩
  · rw [hc.2] at hb
    obtain ⟨h1, h2⟩ := List.mem_filter.mp hb
    have h3 := hv b h1
    unfold cls at h2
    unfold kl
    cases t <;> simp only [cond_true, cond_false, Bool.not_eq_true', decide_eq_false_iff_not] at h2 ⊢ <;> (first | lia | omega)
  · rcases List.mem_cons.mp hb with rfl | hb
    · rw [hc.1] at ha
      obtain ⟨h1, h2⟩ := List.mem_filter.mp ha
      have h3 := hv a h1
      unfold cls at h2
      unfold kl
      cases t <;> simp only [cond_true, cond_false, decide_eq_true_iff] at h2 ⊢ <;> (first | lia | omega)
    · exact hq.2.2 a ha b hb

structure Wst (t : Bool) (rm i : Nat) (r : Nat → Nat) (S : List Nat) (z : List Tie) (Q : List Nat) : Prop where
  sch : Sch S z
  pts : Pts S
  mem : ∀ p, p ∈ Q ↔ p ∈ S ∧ p ∉ cod z
  srt : Q.Pairwise (kl t rm r)
  le : ∀ p, r p ≤ i
theorem kl_upd {t : Bool} {rm : Nat} {r : Nat → Nat} {c v p q : Nat} (hp : p ≠ c) (hq : q ≠ c) (h : kl t rm r p q) : kl t rm (upd r c v) p q := by
  unfold kl upd at *
  rw [if_neg hp, if_neg hq]; exact h
theorem wst_step {t : Bool} {rm i : Nat} {r : Nat → Nat} {S Q : List Nat} {z : List Tie} (w : Wst t rm i r S z Q) (h3 : 3 ≤ S.length) :
    ∃ l Q1 c z', Q = l :: Q1 ∧ l ∈ S ∧ c ∈ S ∧ c ≠ l ∧ l ∉ cod z ∧ (edg S z).Perm (ed l c :: edg (S.erase l) z') ∧ row (edg S z) l = [c] ∧ 2 ≤ (row (edg S z) c).length ∧
      Wst t rm (i + 1) (upd r c (i + 1)) (S.erase l) z' (if (row (edg (S.erase l) z') c).length = 1 then lay t rm Q1 c else Q1) := by
  have hlen := sch_len w.sch
  obtain ⟨p, hp1, hp2⟩ := pick (L := cod z) w.pts.nd (by rw [List.length_map]; (first | lia | omega))
  have hpQ := (w.mem p).mpr ⟨hp1, hp2⟩
  cases hQ : Q with
  | nil => rw [hQ] at hpQ; cases hpQ
  | cons l Q1 =>
    have hl := (w.mem l).mp (by rw [hQ]; exact List.mem_cons_self ..)
    obtain ⟨c, z', g1, g2, g3, g4⟩ := drop_leaf w.sch w.pts h3 hl.1 hl.2
    have hS' := w.pts.er l
    have hnew := new_tie w.pts g3 (c := c)
    have n1 : l ∉ S.erase l := fun h => ((w.pts.mem).mp h).1 rfl
    have hc' : c ∈ S.erase l := (w.pts.mem).mpr ⟨g2, g1⟩
    have hl16 := w.pts.small l hl.1
    have hc16 := w.pts.small c g1
    have hd : ∀ p, (row (edg S z) p).length = (row (edg (S.erase l) z') p).length + if p = l ∨ p = c then 1 else 0 := fun p => by
      rw [row_perm g4, deg_more (Ne.symm g2) hl16 hc16 hnew]
    have hsrt := w.srt
    rw [hQ] at hsrt
    have hs1 := List.pairwise_cons.mp hsrt
    have hcdeg : 2 ≤ (row (edg S z) c).length := by
      rw [hd, if_pos (Or.inr rfl), deg_sch g3 hS' hc']; (first | lia | omega)
    have hcQ : c ∉ Q := fun h => by
      have h1 := (w.mem c).mp h
      have := (leaf_iff w.sch w.pts h1.1).mpr h1.2
      (first | lia | omega)
    have hcQ1 : c ∉ Q1 := fun h => hcQ (by rw [hQ]; exact List.mem_cons_of_mem _ h)
    -- the leaves that are left
    have hlf : ∀ p, p ≠ c → (p ∈ Q1 ↔ p ∈ S.erase l ∧ p ∉ cod z') := fun p hpc => by
      constructor
      · intro h
        have h1 := (w.mem p).mp (by rw [hQ]; exact List.mem_cons_of_mem _ h)
        have hpl : p ≠ l := fun e => kl_asym (e ▸ hs1.1 p h) (e ▸ hs1.1 p h)
        have h2 : p ∈ S.erase l := (w.pts.mem).mpr ⟨hpl, h1.1⟩
        refine ⟨h2, (leaf_iff g3 hS' h2).mp ?_⟩
        have := (leaf_iff w.sch w.pts h1.1).mpr h1.2
        rw [hd, if_neg (by (first | lia | omega))] at this
        exact this
      · intro h
        have h1 := (w.pts.mem).mp h.1
        have h2 := (leaf_iff g3 hS' h.1).mpr h.2
        have h4 : (row (edg S z) p).length = 1 := by rw [hd, if_neg (by (first | lia | omega))]; exact h2
        have h5 := (w.mem p).mpr ⟨h1.2, (leaf_iff w.sch w.pts h1.2).mp h4⟩
        rw [hQ] at h5
        exact (List.mem_cons.mp h5).resolve_left h1.1
    have hQ1u : Q1.Pairwise (kl t rm (upd r c (i + 1))) := hs1.2.imp_of_mem fun {a b} ha hb h => kl_upd (fun e => hcQ1 (e ▸ ha)) (fun e => hcQ1 (e ▸ hb)) h
    refine ⟨l, Q1, c, z', rfl, hl.1, g1, g2, hl.2, g4, ?_, hcdeg, g3, hS', fun p => ?_, ?_, fun p => ?_⟩
    · rw [row_perm g4]
      exact row_one g2 hc16 hnew (row_out g3 hS' n1)
    · by_cases e : (row (edg (S.erase l) z') c).length = 1
      · rw [if_pos e, mem_lay]
        by_cases hpc : p = c
        · subst hpc
          exact ⟨fun _ => ⟨hc', (leaf_iff g3 hS' hc').mp e⟩, fun _ => Or.inl rfl⟩
        · rw [← hlf p hpc]
          exact ⟨fun h => h.resolve_left hpc, Or.inr⟩
      · rw [if_neg e]
        by_cases hpc : p = c
        · subst hpc
          exact ⟨fun h => absurd h hcQ1, fun h => absurd ((leaf_iff g3 hS' hc').mpr h.2) e⟩
        · exact hlf p hpc
    · by_cases e : (row (edg (S.erase l) z') c).length = 1
      · rw [if_pos e]
        refine lay_srt hQ1u fun q hq => Or.inl ?_
        have hqc : q ≠ c := fun e => hcQ1 (e ▸ hq)
        have := w.le q
        unfold upd
        rw [if_neg hqc, if_pos rfl]; (first | lia | omega)
      · rw [if_neg e]; exact hQ1u
    · unfold upd
      have := w.le p
      by_cases e : p = c
      · rw [if_pos e]; (first | lia | omega)
      · rw [if_neg e]; (first | lia | omega)
/-- what the steps make, put together -/
theorem wst_glue {t : Bool} {rm i : Nat} {r : Nat → Nat} {S Q Q1 : List Nat} {z z' zz : List Tie} {l c : Nat} (w : Wst t rm i r S z Q) (hQ : Q = l :: Q1) (hl : l ∈ S) (hc : c ∈ S) (hcl : c ≠ l) (hp : (edg S z).Perm (ed l c :: edg (S.erase l) z'))
    (h1 : Sch (S.erase l) zz) (h2 : (edg (S.erase l) zz).Perm (edg (S.erase l) z')) (h3 : Grd t rm (i + 1) (upd r c (i + 1)) (S.erase l) zz) :
    Sch S ((l, c) :: zz) ∧ (edg S ((l, c) :: zz)).Perm (edg S z) ∧ Grd t rm i r S ((l, c) :: zz) := by
  have hs : Sch S ((l, c) :: zz) := ⟨hl, hc, hcl, h1⟩
  have hpp : (edg S ((l, c) :: zz)).Perm (edg S z) := (h2.cons (ed l c)).trans hp.symm
  have n1 : l ∉ S.erase l := fun h => ((w.pts.mem).mp h).1 rfl
  refine ⟨hs, hpp, ?_, fun q hq hql hqc => ?_, h3⟩
  · intro h
    rcases List.mem_cons.mp h with h | h
    · exact hcl h.symm
    · exact n1 (cod_in h1 l h)
  · have a1 := (leaf_iff hs w.pts hq).mpr hqc
    rw [row_perm hpp] at a1
    have a2 := (w.mem q).mpr ⟨hq, (leaf_iff w.sch w.pts hq).mp a1⟩
    rw [hQ] at a2
    have hsrt := w.srt
    rw [hQ] at hsrt
    exact (List.pairwise_cons.mp hsrt).1 q ((List.mem_cons.mp a2).resolve_left hql)

noncomputable def trn (t : Bool) : Int := cond t 1 (-1)
noncomputable def fin' : Nat → (Nat → Nat) → List Nat → Nat → Nat
  | _, r, [] => r
  | i, r, c :: code => fin' (i + 1) (upd r c (i + 1)) code
theorem upd_self (r : Nat → Nat) (c v : Nat) : upd r c v c = v := if_pos rfl
theorem upd_ne {r : Nat → Nat} {c v q : Nat} (h : q ≠ c) : upd r c v q = r q := if_neg h
theorem fin_out : ∀ {code : List Nat} {i : Nat} {r : Nat → Nat} {q : Nat}, q ∉ code → fin' i r code q = r q
  | [], _, _, _, _ => rfl
  | c :: code, i, r, q, h => by
    have h' : q ≠ c ∧ q ∉ code := by simpa using h
    exact (fin_out (code := code) h'.2).trans (upd_ne h'.1)
theorem fin_in : ∀ {code : List Nat} {i : Nat} {r : Nat → Nat} {q : Nat}, q ∈ code → i < fin' i r code q
  | [], _, _, _, h => nomatch h
  | c :: code, i, r, q, h => by
    show i < fin' (i + 1) (upd r c (i + 1)) code q
    by_cases e : q ∈ code
    · have := fin_in (i := i + 1) (r := upd r c (i + 1)) e; (first | lia | omega)
    · rw [fin_out e]
      rcases List.mem_cons.mp h with rfl | h
      · rw [upd_self]; (first | lia | omega)
      · exact absurd h e
noncomputable def tri (t : Bool) (rm : Nat) (r : Nat → Nat) (q : Nat) : List Int := [((q / rm : Nat) : Int), trn t * (r q : Int), trn t * (q : Int)]
theorem tri_lt {t : Bool} {rm : Nat} {r : Nat → Nat} {p q : Nat} : lexLt (tri t rm r p) (tri t rm r q) = true ↔ kl t rm r p q := by
  unfold tri kl
  generalize p / rm = a
  generalize q / rm = b
  generalize r p = x
  generalize r q = y
  have e : ∀ (A B C A' B' C' : Int), lexLt [A, B, C] [A', B', C'] = true ↔ A < A' ∨ (A = A' ∧ (B < B' ∨ (B = B' ∧ C < C'))) := fun A B C A' B' C' => by
    show (if A = A' then (if B = B' then (if C = C' then false else decide (C < C')) else decide (B < B')) else decide (A < A')) = true ↔ _
    by_cases h1 : A = A'
    · rw [if_pos h1]
      by_cases h2 : B = B'
      · rw [if_pos h2]
        by_cases h3 : C = C'
        · rw [if_pos h3]
          exact ⟨fun h => (nomatch h), fun h => by (first | lia | omega)⟩
        · rw [if_neg h3, decide_eq_true_iff]; (first | lia | omega)
      · rw [if_neg h2, decide_eq_true_iff]; (first | lia | omega)
    · rw [if_neg h1, decide_eq_true_iff]; (first | lia | omega)
  rw [e]
  cases t <;> simp only [trn, cond_true, cond_false] <;> (first | lia | omega)
theorem kl_tot {t : Bool} {rm : Nat} {r : Nat → Nat} {p q : Nat} (h : p ≠ q) (hn : ¬ kl t rm r p q) : kl t rm r q p := by
  unfold kl at *
  generalize p / rm = a at *
  generalize q / rm = b at *
  cases t <;> simp only [cond_true, cond_false] at hn ⊢ <;> (first | lia | omega)
theorem kl_tr {t : Bool} {rm : Nat} {r : Nat → Nat} {p q s : Nat} (h1 : kl t rm r p q) (h2 : kl t rm r q s) : kl t rm r p s := by
  unfold kl at *
  generalize p / rm = a at *
  generalize q / rm = b at *
  generalize s / rm = c at *
  cases t <;> simp only [cond_true, cond_false] at h1 h2 ⊢ <;> (first | lia | omega)
theorem best_tri {t : Bool} {rm : Nat} {r : Nat → Nat} : ∀ (ms : List Nat) (m : Nat), ∃ b ∈ m :: ms, minL (tri t rm r m) (ms.map (tri t rm r)) = tri t rm r b ∧ ∀ q ∈ m :: ms, q ≠ b → kl t rm r b q
  | [], m => ⟨m, List.mem_cons_self .., rfl, fun q hq hn => absurd (List.mem_singleton.mp hq) hn⟩
  | x :: xs, m => by
    by_cases e : kl t rm r x m
    · obtain ⟨b, h1, h2, h3⟩ := best_tri (t := t) (rm := rm) (r := r) xs x
      refine ⟨b, List.mem_cons_of_mem _ h1, ?_, fun q hq hn => ?_⟩
      · show minL (if lexLt (tri t rm r x) (tri t rm r m) = true then _ else _) _ = _
        rw [if_pos (tri_lt.mpr e)]; exact h2
      · rcases List.mem_cons.mp hq with rfl | hq
        · by_cases ex : x = b
          · subst ex; exact e
          · exact kl_tr (h3 x (List.mem_cons_self ..) ex) e
        · exact h3 q hq hn
    · obtain ⟨b, h1, h2, h3⟩ := best_tri (t := t) (rm := rm) (r := r) xs m
      refine ⟨b, ?_, ?_, fun q hq hn => ?_⟩
      · rcases List.mem_cons.mp h1 with h | h
        · rw [h]; exact List.mem_cons_self ..
        · exact List.mem_cons_of_mem _ (List.mem_cons_of_mem _ h)
      · show minL (if lexLt (tri t rm r x) (tri t rm r m) = true then _ else _) _ = _
        rw [if_neg (fun h => e (tri_lt.mp h))]; exact h2
      · rcases List.mem_cons.mp hq with rfl | hq
        · exact h3 q (List.mem_cons_self ..) hn
        · rcases List.mem_cons.mp hq with rfl | hq
          · by_cases ex : q = m
            · subst ex; exact h3 q (List.mem_cons_self ..) hn
            · have k1 := kl_tot ex e
              by_cases em : m = b
              · subst em; exact k1
              · exact kl_tr (h3 m (List.mem_cons_self ..) em) k1
          · exact h3 q (List.mem_cons_of_mem _ hq) hn
/-- reading: who goes at a place -/
structure Rst (t : Bool) (rm i : Nat) (r : Nat → Nat) (S code : List Nat) : Prop where
  pts : Pts S
  len : S.length = code.length + 2
  sub : ∀ x ∈ code, x ∈ S
  le : ∀ p, r p ≤ i
theorem rst_due {t : Bool} {rm i : Nat} {r : Nat → Nat} {S code : List Nat} (w : Rst t rm i r S code) : (S.filter fun q => decide (fin' i r code q ≤ i)) = S.filter fun q => decide (q ∉ code) := by
  refine List.filter_congr fun q _ => decide_eq_decide.mpr ⟨fun h hq => ?_, fun h => ?_⟩
  · have := fin_in (i := i) (r := r) hq; (first | lia | omega)
  · rw [fin_out h]; exact w.le q
theorem rst_step {t : Bool} {rm i c : Nat} {r : Nat → Nat} {S code : List Nat} (w : Rst t rm i r S (c :: code)) :
    ∃ m ms l, (S.filter fun q => decide (fin' i r (c :: code) q ≤ i)) = m :: ms ∧ minL (tri t rm (fin' i r (c :: code)) m) (ms.map (tri t rm (fin' i r (c :: code)))) = tri t rm (fin' i r (c :: code)) l ∧ l ∈ S ∧ c ∈ S ∧ c ≠ l ∧ l ∉ c :: code ∧
      (∀ q ∈ S, q ≠ l → q ∉ c :: code → kl t rm r l q) ∧ Rst t rm (i + 1) (upd r c (i + 1)) (S.erase l) code := by
  have hdue := rst_due w
  have hlen := w.len
  obtain ⟨p, hp1, hp2⟩ := pick (L := c :: code) w.pts.nd (by (first | lia | omega))
  have hpd : p ∈ S.filter fun q => decide (fin' i r (c :: code) q ≤ i) := by
    rw [hdue]; exact List.mem_filter.mpr ⟨hp1, decide_eq_true hp2⟩
  cases hF : (S.filter fun q => decide (fin' i r (c :: code) q ≤ i)) with
  | nil => rw [hF] at hpd; cases hpd
  | cons m ms =>
    obtain ⟨l, h1, h2, h3⟩ := best_tri (t := t) (rm := rm) (r := fin' i r (c :: code)) ms m
    have hmem : ∀ q, q ∈ m :: ms ↔ q ∈ S ∧ q ∉ c :: code := fun q => by
      rw [← hF, hdue, List.mem_filter, decide_eq_true_iff]
    have hl := (hmem l).mp h1
    have hc := w.sub c (List.mem_cons_self ..)
    have hcl : c ≠ l := fun e => hl.2 (by rw [e]; exact List.mem_cons_self ..)
    refine ⟨m, ms, l, rfl, h2, hl.1, hc, hcl, hl.2, fun q hq hql hqc => ?_, w.pts.er l, ?_, fun x hx => ?_, fun p => ?_⟩
    · have := h3 q ((hmem q).mpr ⟨hq, hqc⟩) hql
      unfold kl at this ⊢
      rw [fin_out hl.2, fin_out hqc] at this
      exact this
    · have := Pts.len hl.1
      simp at hlen; (first | lia | omega)
    · exact (w.pts.mem).mpr ⟨fun e => hl.2 (by rw [← e]; exact List.mem_cons_of_mem _ hx), w.sub x (List.mem_cons_of_mem _ hx)⟩
    · have := w.le p
      unfold upd
      by_cases e : p = c
      · rw [if_pos e]; (first | lia | omega)
      · rw [if_neg e]; (first | lia | omega)

/-! bisect and insort without a key -/
section
variable {Φ : FnT} {H : HP} {a : Nat} {ks : List Int} {x : Int}
theorem lt_ii {H : HP} {a b : Int} : cmpV .lt (.int a) (.int b) H = some (decide (a < b)) := nd rfl
theorem brN_body (hx : H[a]? = some (ks.map V.int)) (hs : ks.Pairwise (· ≤ ·)) (hl : ks.length ≤ 1000) : BsBody Φ H a .none (ks.map V.int) ks x brN (cLe ks x) where
  le := cLe_le ..
  run := fun lo hi m hlt h3 => by
    have hd : binI .div ((lo : Int) + (hi : Int)) 2 = some (((lo + hi) / 2 : Nat) : Int) := (div_p (by decide) (by decide)).trans (by congr 1)
    generalize hmid : (lo + hi) / 2 = c at hd ⊢
    obtain ⟨k, hk⟩ : ∃ k, ks[c]? = some k := ⟨_, List.getElem?_eq_getElem (by (first | lia | omega))⟩
    have hiff := cLe_iff (x := x) hs hk
    have hg : getI (.list a) (.int (c : Int)) H = some (.int k) := getI_at hx (by (first | lia | omega)) (by rw [List.getElem?_map, hk]; rfl)
    refine ⟨k, hk, ?_⟩
    by_cases h : x < k
    · refine Or.inl ⟨by (first | lia | omega), ?_⟩
      exact seq_of (asg_of (int_of (int_of (var_of rfl) (var_of rfl) rfl) e_lit hd)) (seq_of (ite_t (evB_of' (cmp_of (var_of rfl) (idx_of (var_of rfl) (var_of rfl) hg) (lt_ii.trans (congrArg some (decide_eq_true h)))) rfl) (seq_of (asg_of (var_of rfl)) r_skip)) r_skip)
    · refine Or.inr ⟨by (first | lia | omega), ?_⟩
      exact seq_of (asg_of (int_of (int_of (var_of rfl) (var_of rfl) rfl) e_lit hd)) (seq_of (ite_f (evB_of' (cmp_of (var_of rfl) (idx_of (var_of rfl) (var_of rfl) hg) (lt_ii.trans (congrArg some (decide_eq_false h)))) rfl) (seq_of (asg_of (int_of (var_of rfl) e_lit rfl)) r_skip)) r_skip)
theorem blN_body (hx : H[a]? = some (ks.map V.int)) (hs : ks.Pairwise (· ≤ ·)) (hl : ks.length ≤ 1000) : BsBody Φ H a .none (ks.map V.int) ks x blN (cLt ks x) where
  le := cLt_le ..
  run := fun lo hi m hlt h3 => by
    have hd : binI .div ((lo : Int) + (hi : Int)) 2 = some (((lo + hi) / 2 : Nat) : Int) := (div_p (by decide) (by decide)).trans (by congr 1)
    generalize hmid : (lo + hi) / 2 = c at hd ⊢
    obtain ⟨k, hk⟩ : ∃ k, ks[c]? = some k := ⟨_, List.getElem?_eq_getElem (by (first | lia | omega))⟩
    have hiff := cLt_iff (x := x) hs hk
    have hg : getI (.list a) (.int (c : Int)) H = some (.int k) := getI_at hx (by (first | lia | omega)) (by rw [List.getElem?_map, hk]; rfl)
    refine ⟨k, hk, ?_⟩
    by_cases h : k < x
    · refine Or.inr ⟨by (first | lia | omega), ?_⟩
      exact seq_of (asg_of (int_of (int_of (var_of rfl) (var_of rfl) rfl) e_lit hd)) (seq_of (ite_t (evB_of' (cmp_of (idx_of (var_of rfl) (var_of rfl) hg) (var_of rfl) (lt_ii.trans (congrArg some (decide_eq_true h)))) rfl) (seq_of (asg_of (int_of (var_of rfl) e_lit rfl)) r_skip)) r_skip)
    · refine Or.inl ⟨by (first | lia | omega), ?_⟩
      exact seq_of (asg_of (int_of (int_of (var_of rfl) (var_of rfl) rfl) e_lit hd)) (seq_of (ite_f (evB_of' (cmp_of (idx_of (var_of rfl) (var_of rfl) hg) (var_of rfl) (lt_ii.trans (congrArg some (decide_eq_false h)))) rfl) (seq_of (asg_of (var_of rfl)) r_skip)) r_skip)
theorem bs_runN {k n : St} {c : Nat} (B : BsBody Φ H a .none (ks.map V.int) ks x n c) (hx : H[a]? = some (ks.map V.int)) (hl : ks.length < 190) :
    ∃ ρ', run Φ (bsT k n).body ([some (.list a), some (.int x), some (.int 0), some .none, some .none, none], H) = some (.ret (.int (c : Int)), (ρ', H)) := by
  obtain ⟨m', hm⟩ := bs_loop B WF 0 ks.length none (by simp only [WF]; (first | lia | omega)) (Nat.zero_le _) B.le (Nat.le_refl _)
  have hm2 : run Φ (.whl brW n) ([some (.list a), some (.int x), some (.int 0), some (.int (ks.length : Int)), some .none, none], H) = some (.next, (bsS a x c c .none m', H)) := hm
  have hln := len_l hx (by rw [List.length_map]; (first | lia | omega))
  rw [List.length_map] at hln
  exact ⟨bsS a x c c .none m', seq_of (ite_f (evB_of' (cmp_of (var_of rfl) e_lit (t := false) lt_ii) rfl) r_skip) (seq_of (ite_t (evB_of' (cmp_of (var_of rfl) e_lit (t := true) rfl) rfl) (seq_of (asg_of (bi_of (es1 (var_of rfl) es0) hln)) r_skip)) (seq_of (ite_t (evB_of' (cmp_of (var_of rfl) e_lit (t := true) rfl) rfl) (seq_of hm2 r_skip)) (seq_ret (ret_of (var_of rfl)))))⟩
end
theorem ins_list {i c : Nat} {xs : List V} {v : V} {H : HP} (h : H[i]? = some xs) (hi : i ≠ 0) (hc : c ≤ xs.length) (hl : xs.length ≤ 1000) : meth .insert (.list i) [.int (c : Int), v] H = some (.none, H.set i (xs.take c ++ v :: xs.drop c)) := by
  have hlo : lenOk xs.length = true := by simp [lenOk]; (first | lia | omega)
  simp [meth, hi, meth0, mtInsert, h, hlo]
  (first | lia | omega)
section
variable {Δ : Nat → Option Fn} {n i b : Nat} {H : HP} {a : Nat} {ks : List Int} {x : Int} {k nn : St} {c : Nat}
theorem bsN_call2 (hb : Δ b = some (bsT k nn)) (B : BsBody (callF Δ n) H a .none (ks.map V.int) ks x nn c) (hx : H[a]? = some (ks.map V.int)) (hl : ks.length < 190) :
    callF Δ (n + 1) b [.list a, .int x] none H = some (.int (c : Int), H) := by
  obtain ⟨ρ', h⟩ := bs_runN (k := k) (n := nn) B hx hl
  exact call_of hb rfl h
theorem bsN_call4 (hb : Δ b = some (bsT k nn)) (B : BsBody (callF Δ n) H a .none (ks.map V.int) ks x nn c) (hx : H[a]? = some (ks.map V.int)) (hl : ks.length < 190) :
    callF Δ (n + 1) b [.list a, .int x, .int 0, .none] none H = some (.int (c : Int), H) := by
  obtain ⟨ρ', h⟩ := bs_runN (k := k) (n := nn) B hx hl
  exact call_of hb rfl h
theorem insN_call (hi : Δ i = some (fIns b)) (hb : Δ b = some (bsT k nn)) (B : BsBody (callF Δ n) H a .none (ks.map V.int) ks x nn c) (hx : H[a]? = some (ks.map V.int)) (hl : ks.length < 190) (ha : a ≠ 0) :
    callF Δ (n + 2) i [.list a, .int x] none H = some (.none, H.set a ((ks.map V.int).take c ++ .int x :: (ks.map V.int).drop c)) := by
  have hbs := bsN_call4 hb B hx hl
  have hc := B.le
  have hm := ins_list (v := .int x) hx ha (c := c) (by rw [List.length_map]; exact hc) (by rw [List.length_map]; (first | lia | omega))
  exact call_of_none (ρ' := [some (.list a), some (.int x), some (.int c), some .none, some .none]) hi rfl (seq_of (ite_t (evB_of' (cmp_of (var_of rfl) e_lit (t := true) rfl) rfl) (seq_of (asg_of (fn_of (es1 (var_of rfl) (es1 (var_of rfl) (es1 (var_of rfl) (es1 (var_of rfl) es0)))) hbs)) r_skip)) (seq_of (exp_of (meth_of (var_of rfl) (es1 (var_of rfl) (es1 (var_of rfl) es0)) hm)) r_skip))
end

/-! on rows of points -/
section
variable {n a : Nat} {H : HP} {L : List Nat} (h : H[a]? = some (iV L)) (hs : L.Pairwise (· < ·)) (hl : L.length ≤ 100)
theorem iV_int (L : List Nat) : iV L = (L.map fun (x : Nat) => (x : Int)).map V.int := by unfold iV; rw [List.map_map]; rfl
theorem cast_le {L : List Nat} (hs : L.Pairwise (· < ·)) : (L.map fun (x : Nat) => (x : Int)).Pairwise (· ≤ ·) := List.pairwise_map.mpr (hs.imp fun h => by (first | lia | omega))
theorem cLt_below (L : List Nat) (x : Nat) : cLt (L.map fun (x : Nat) => (x : Int)) (x : Int) = below L x := by
  unfold cLt below
  rw [List.filter_map, List.length_map]
  congr 1
  refine List.filter_congr fun y _ => ?_
  show decide ((y : Int) < (x : Int)) = _
  exact decide_eq_decide.mpr (by (first | lia | omega))
theorem cLe_below {L : List Nat} {x : Nat} (hx : x ∉ L) : cLe (L.map fun (x : Nat) => (x : Int)) (x : Int) = below L x := by
  unfold cLe below
  rw [List.filter_map, List.length_map]
  congr 1
  refine List.filter_congr fun y hy => ?_
  show decide ((y : Int) ≤ (x : Int)) = _
  have : y ≠ x := fun e => hx (e ▸ hy)
  exact decide_eq_decide.mpr (by (first | lia | omega))
include h hs hl
theorem bisL1 (x : Nat) : callF d01 (n + 1) 3 [.list a, .int (x : Int)] none H = some (.int (below L x : Int), H) := by
  rw [iV_int] at h
  have B := blN_body (Φ := callF d01 n) (x := (x : Int)) h (cast_le hs) (by rw [List.length_map]; (first | lia | omega))
  rw [cLt_below] at B
  exact bsN_call2 (Δ := d01) (b := 3) rfl B h (by rw [List.length_map]; (first | lia | omega))
theorem bisR1 (x : Nat) : callF d01 (n + 1) 1 [.list a, .int (x : Int)] none H = some (.int (cLe (L.map fun (x : Nat) => (x : Int)) (x : Int) : Int), H) := by
  rw [iV_int] at h
  have B := brN_body (Φ := callF d01 n) (x := (x : Int)) h (cast_le hs) (by rw [List.length_map]; (first | lia | omega))
  exact bsN_call2 (Δ := d01) (b := 1) rfl B h (by rw [List.length_map]; (first | lia | omega))
theorem insL1 (ha : a ≠ 0) (x : Nat) : callF d01 (n + 2) 2 [.list a, .int (x : Int)] none H = some (.none, H.set a (iV (L.take (below L x) ++ x :: L.drop (below L x)))) := by
  rw [iV_int] at h
  have B := blN_body (Φ := callF d01 n) (x := (x : Int)) h (cast_le hs) (by rw [List.length_map]; (first | lia | omega))
  rw [cLt_below] at B
  have := insN_call (Δ := d01) (i := 2) (b := 3) rfl rfl B h (by rw [List.length_map]; (first | lia | omega)) ha
  rw [this, ← iV_int]
  unfold iV
  rw [List.map_append, List.map_cons, List.map_take, List.map_drop]
theorem insR1 (ha : a ≠ 0) {x : Nat} (hx : x ∉ L) : callF d01 (n + 2) 0 [.list a, .int (x : Int)] none H = some (.none, H.set a (iV (L.take (below L x) ++ x :: L.drop (below L x)))) := by
  rw [iV_int] at h
  have B := brN_body (Φ := callF d01 n) (x := (x : Int)) h (cast_le hs) (by rw [List.length_map]; (first | lia | omega))
  rw [cLe_below hx] at B
  have := insN_call (Δ := d01) (i := 0) (b := 1) rfl rfl B h (by rw [List.length_map]; (first | lia | omega)) ha
  rw [this, ← iV_int]
  unfold iV
  rw [List.map_append, List.map_cons, List.map_take, List.map_drop]
end

/-! _law_class, _law_lay -/
noncomputable def wV (rm q : Nat) : V := .tup [.int ((q / rm : Nat) : Int), .int (q : Int)]
theorem class_call {n : Nat} {H : HP} {x : V} {l : List V} : callF d01 (n + 1) 11 [.tup (x :: l)] none H = some (x, H) :=
  call_of (ρ' := [some (.tup (x :: l))]) (show d01 11 = some f01__law_class from rfl) rfl (seq_ret (ret_of (idx_of (var_of rfl) e_lit getI_tup0)))
theorem wait_keyed {n a rm : Nat} {H : HP} {Q : List Nat} (h : H[a]? = some (Q.map (wV rm))) : Keyed (callF d01 (n + 1)) H a (.fn 11) (Q.map (wV rm)) (Q.map fun (q : Nat) => ((q / rm : Nat) : Int)) where
  at' := h
  len := by rw [List.length_map, List.length_map]
  ans := fun i v hv => by
    rw [List.getElem?_map] at hv
    cases hr : Q[i]? with
    | none => rw [hr] at hv; cases hv
    | some q =>
      rw [hr] at hv; cases hv
      exact ⟨((q / rm : Nat) : Int), by rw [List.getElem?_map, hr]; rfl, class_call (n := n)⟩
theorem kl_class {t : Bool} {rm : Nat} {r : Nat → Nat} {Q : List Nat} (h : Q.Pairwise (kl t rm r)) : (Q.map fun (q : Nat) => ((q / rm : Nat) : Int)).Pairwise (· ≤ ·) := List.pairwise_map.mpr (h.imp fun {a b} hab => by
  unfold kl at hab
  generalize a / rm = x at *
  generalize b / rm = y at *
  (first | lia | omega))
theorem lay_count (rm : Nat) (Q : List Nat) (v : Nat) : cLe (Q.map fun (q : Nat) => ((q / rm : Nat) : Int)) ((v / rm : Nat) : Int) = (Q.filter (cls true rm v)).length ∧ cLt (Q.map fun (q : Nat) => ((q / rm : Nat) : Int)) ((v / rm : Nat) : Int) = (Q.filter (cls false rm v)).length := by
  unfold cLe cLt
  rw [List.filter_map, List.length_map, List.filter_map, List.length_map]
  constructor
  · congr 1
    refine List.filter_congr fun y _ => ?_
    show decide (((y / rm : Nat) : Int) ≤ ((v / rm : Nat) : Int)) = decide (y / rm ≤ v / rm)
    exact decide_eq_decide.mpr Int.ofNat_le
  · congr 1
    refine List.filter_congr fun y _ => ?_
    show decide (((y / rm : Nat) : Int) < ((v / rm : Nat) : Int)) = decide (y / rm < v / rm)
    exact decide_eq_decide.mpr Int.ofNat_lt
theorem lay_map (t : Bool) (rm : Nat) (Q : List Nat) (v : Nat) : (Q.map (wV rm)).take (Q.filter (cls t rm v)).length ++ wV rm v :: (Q.map (wV rm)).drop (Q.filter (cls t rm v)).length = (lay t rm Q v).map (wV rm) := by
  unfold lay
  rw [List.map_append, List.map_cons, List.map_take, List.map_drop]
theorem lay_call {n a rm : Nat} {H : HP} {Q : List Nat} {t : Bool} {r : Nat → Nat} {v : Nat} (h : H[a]? = some (Q.map (wV rm))) (hs : Q.Pairwise (kl t rm r)) (hl : Q.length ≤ 100) (ha : a ≠ 0) (hrm : 1 ≤ rm) (hrm2 : rm ≤ 16) :
    callF d01 (n + 4) 12 [.list a, .int (v : Int), .int (rm : Int), .int (trn t)] none H = some (.none, H.set a ((lay t rm Q v).map (wV rm))) := by
  have K := wait_keyed (n := n) h
  have hd : binI .div (v : Int) (rm : Int) = some ((v / rm : Nat) : Int) := (div_p (by (first | lia | omega)) (by (first | lia | omega))).trans rfl
  have hlen : (Q.map fun (q : Nat) => ((q / rm : Nat) : Int)).length < 190 := by rw [List.length_map]; (first | lia | omega)
  have hc := lay_count rm Q v
  cases t with
  | true =>
    have B := br_body (x := ((v / rm : Nat) : Int)) K (kl_class hs) (by rw [List.length_map]; (first | lia | omega))
    rw [hc.1] at B
    have hi := ins_call (Δ := d01) (i := 0) (b := 1) (j := 11) (n := n + 1) (xv := wV rm v) rfl rfl class_call B h (by rw [List.length_map, List.length_map]) hlen ha
    rw [lay_map true] at hi
    exact call_of (ρ' := [some (.list a), some (.int (v : Int)), some (.int (rm : Int)), some (.int 1)]) (show d01 12 = some f01__law_lay from rfl) rfl
      (seq_ret (ite_t (evB_of' (cmp_of (var_of rfl) e_lit eq_ii) rfl) (seq_ret (ret_of (fnK_of (es1 (var_of rfl) (es1 (tpl_of (es1 (int_of (var_of rfl) (var_of rfl) hd) (es1 (var_of rfl) es0)) (by simp)) es0)) e_lit hi)))))
  | false =>
    have B := bl_body (x := ((v / rm : Nat) : Int)) K (kl_class hs) (by rw [List.length_map]; (first | lia | omega))
    rw [hc.2] at B
    have hi := ins_call (Δ := d01) (i := 2) (b := 3) (j := 11) (n := n + 1) (xv := wV rm v) rfl rfl class_call B h (by rw [List.length_map, List.length_map]) hlen ha
    rw [lay_map false] at hi
    exact call_of (ρ' := [some (.list a), some (.int (v : Int)), some (.int (rm : Int)), some (.int (-1))]) (show d01 12 = some f01__law_lay from rfl) rfl
      (seq_of (ite_f (evB_of' (cmp_of (var_of rfl) e_lit eq_ii) rfl) r_skip) (seq_ret (ret_of (fnK_of (es1 (var_of rfl) (es1 (tpl_of (es1 (int_of (var_of rfl) (var_of rfl) hd) (es1 (var_of rfl) es0)) (by simp)) es0)) e_lit hi))))

/-! _law_read: small facts -/
noncomputable def pV (e : Tie) : V := .tup [.int (e.1 : Int), .int (e.2 : Int)]
theorem tups_ints : ∀ (l : List (List Int)), tupsOf (l.map ofInts) = some l
  | [] => rfl
  | x :: l => by
    have e : tupOf (ofInts x) = some x := intsOf_map x
    show (tupOf (ofInts x)).bind (fun i => (tupsOf (l.map ofInts)).map fun is => i :: is) = _
    rw [e, Option.bind_some, tups_ints l]; rfl
theorem min_list {H : HP} {d k : Nat} {m : List Int} {ms : List (List Int)} (h : H[d]? = some ((m :: ms).map ofInts)) (hl : ms.length ≤ 100) (hm : m.length = k) (hs : ∀ t ∈ ms, t.length = k) : bi .min [.list d] H = some (ofInts (minL m ms), H) := by
  show ((H[d]?).bind fun xs => minT xs H) = _
  rw [h, Option.bind_some]
  show ((tupsOf ((m :: ms).map ofInts)).bind _) = _
  rw [tups_ints, Option.bind_some]
  show (if (lenOk _ && _) = true then _ else _) = _
  rw [if_pos]
  rw [Bool.and_eq_true]
  refine ⟨decide_eq_true (by simp; (first | lia | omega)), List.all_eq_true.mpr fun t ht => ?_⟩
  rw [beq_iff_eq, hs t ht, hm]
theorem min_two {H : HP} {a b : Int} : bi .min [.int a, .int b] H = some (.int (if b < a then b else a), H) := nd rfl
theorem max_two {H : HP} {a b : Int} : bi .max [.int a, .int b] H = some (.int (if a < b then b else a), H) := nd rfl
theorem idx_cast (x : Nat) : ∀ (L : List Nat), (L.map fun (x : Nat) => (x : Int)).idxOf (x : Int) = L.idxOf x
  | [] => rfl
  | y :: L => by rw [List.map_cons, List.idxOf_cons, List.idxOf_cons, int_beq, idx_cast x L]
theorem remove_list {H : HP} {i l : Nat} {S : List Nat} (h : H[i]? = some (iV S)) (hi : i ≠ 0) (hl : l ∈ S) (hn : S.length ≤ 1000) : meth .remove (.list i) [.int (l : Int)] H = some (.none, H.set i (iV (S.erase l))) := by
  show ((H[i]?).bind fun xs => if i ≠ 0 then mtRemove i xs [.int (l : Int)] H else none) = _
  rw [h, Option.bind_some, if_pos hi]
  show ((intsOf (iV S)).bind fun is => if (lenOk (iV S).length && is.contains (l : Int)) = true then some (V.none, H.set i ((iV S).eraseIdx (is.idxOf (l : Int)))) else none) = _
  rw [ints_iV, Option.bind_some, has_iV, if_pos]
  · rw [idx_cast, show (iV S).eraseIdx (S.idxOf l) = iV (S.eraseIdx (S.idxOf l)) from erase_map .., ← List.erase_eq_eraseIdx_of_idxOf rfl]
  · rw [Bool.and_eq_true]
    exact ⟨decide_eq_true (by rw [List.length_map]; show _ ≤ 2 ^ 20; (first | lia | omega)), by simpa using hl⟩
noncomputable def rV (r : Nat → Nat) : List V := (List.range 16).map fun q => V.int (r q : Int)
theorem rV_at {r : Nat → Nat} {q : Nat} (h : q < 16) : (rV r)[q]? = some (.int (r q : Int)) := by unfold rV; rw [List.getElem?_map, List.getElem?_range h]; rfl
theorem rV_set {r : Nat → Nat} {c v : Nat} (h : c < 16) : (rV r).set c (.int (v : Int)) = rV (upd r c v) := by
  refine List.ext_getElem? fun k => ?_
  by_cases hk : k < 16
  · by_cases e : c = k
    · subst e
      rw [List.getElem?_set_self (by simp [rV]; (first | lia | omega)), rV_at hk, upd_self]
    · rw [List.getElem?_set_ne e, rV_at hk, rV_at hk, upd_ne (Ne.symm e)]
  · rw [List.getElem?_eq_none (by simp [rV]; (first | lia | omega)), List.getElem?_eq_none (by simp [rV]; (first | lia | omega))]
noncomputable def readR : St := .seq (.setI (.var 3) (.idx (.var 0) (.var 4)) (.bin .add (.var 4) (.lit (.int 1)))) .skip
theorem rng14_at {i : Nat} (h : i < 14) : ((List.range (14 - 0)).map fun i => V.int ((0 + i : Nat) : Int))[i]? = some (.int (i : Int)) := by
  rw [List.getElem?_map, List.getElem?_range (by (first | lia | omega))]
  show some (V.int ((0 + i : Nat) : Int)) = _
  rw [Nat.zero_add]
theorem rng14_end {i : Nat} (h : 14 ≤ i) : ((List.range (14 - 0)).map fun i => V.int ((0 + i : Nat) : Int))[i]? = none := List.getElem?_eq_none (by simp; (first | lia | omega))
theorem ready_loop {Φ : FnT} {H0 : HP} {c : Nat} {code : List Nat} {v1 v2 v5 v6 v7 v8 : Option V} (hc : H0[c]? = some (iV code)) (hcode : ∀ x ∈ code, x < 16) (hlen : code.length = 14) (h0 : H0.length ≠ 0) : ∀ (U : List Nat) (i : Nat) (r : Nat → Nat) (m : Option V), code.drop i = U → U.length + i = 14 →
    ∃ m', forGo [4] false (fun σ => run Φ readR σ) (.fixed ((List.range (14 - 0)).map fun i => V.int ((0 + i : Nat) : Int))) (U.length + 1) i ([some (.list c), v1, v2, some (.list H0.length), m, v5, v6, v7, v8], H0 ++ [rV r]) = some (.next, ([some (.list c), v1, v2, some (.list H0.length), m', v5, v6, v7, v8], H0 ++ [rV (fin' i r U)]))
  | [], i, r, m, hd, hl => ⟨m, fg_end (xs := (List.range (14 - 0)).map fun i => V.int ((0 + i : Nat) : Int)) rfl (rng14_end (by simpa using Nat.le_of_eq hl.symm))⟩
  | x :: U, i, r, m, hd, hl => by
    have hx : code[i]? = some x := by
      have := congrArg (·[0]?) hd
      simpa [List.getElem?_drop] using this
    have hd' : code.drop (i + 1) = U := by rw [← List.drop_drop, hd]; rfl
    have hx16 := hcode x (List.mem_of_getElem? hx)
    simp only [List.length_cons] at hl
    obtain ⟨m', ih⟩ := ready_loop (Φ := Φ) (v1 := v1) (v2 := v2) (v5 := v5) (v6 := v6) (v7 := v7) (v8 := v8) hc hcode hlen h0 U (i + 1) (upd r x (i + 1)) (some (.int (i : Int))) hd' (by (first | lia | omega))
    refine ⟨m', fg_next rfl (rng14_at (by (first | lia | omega))) rfl (seq_of (setI_of (int_of (var_of rfl) e_lit rfl) (var_of rfl) (idx_of (var_of rfl) (var_of rfl) (getI_at (app_get hc) (by (first | lia | omega)) (by rw [List.getElem?_map, hx]; rfl))) ?_) r_skip) ih⟩
    have := setL_of (ρ := [some (.list c), v1, v2, some (.list H0.length), some (.int (i : Int)), v5, v6, v7, v8]) (H := H0 ++ [rV r]) (k := (x : Int)) (v := .int ((i + 1 : Nat) : Int)) get_last (Int.natCast_nonneg x) (by simp [rV]; (first | lia | omega)) (by simp [rV]) h0
    rw [Int.toNat_natCast, rV_set hx16, set_last] at this
    exact this

noncomputable def readB : St := .seq (.asg 7 (.comp (.tpl (.cons (.bin .div (.var 9) (.var 1)) (.cons (.bin .mul (.var 2) (.idx (.var 3) (.var 9))) (.cons (.bin .mul (.var 2) (.var 9)) .nil)))) 1 false (.var 5) (.cmp .le (.idx (.var 3) (.var 9)) (.var 4)))) (.seq (.asg 8 (.bin .mul (.var 2) (.idx (.call (.lit (.bi .min)) (.cons (.var 7) .nil)) (.lit (.int 2))))) (.seq (.exp (.meth .remove (.var 5) (.cons (.var 8) .nil))) (.seq (.exp (.meth .append (.var 6) (.cons (.tpl (.cons (.call (.lit (.bi .min)) (.cons (.var 8) (.cons (.idx (.var 0) (.var 4)) .nil))) (.cons (.call (.lit (.bi .max)) (.cons (.var 8) (.cons (.idx (.var 0) (.var 4)) .nil))) .nil))) .nil))) .skip)))
noncomputable abbrev R9 (c rm : Nat) (t : Bool) (rd th ti : Nat) (m4 m7 m8 : Option V) : Rho := [some (.list c), some (.int (rm : Int)), some (.int (trn t)), some (.list rd), m4, some (.list th), some (.list ti), m7, m8]
theorem trn_mul (t : Bool) (z : Int) : binI .mul (trn t) z = some (trn t * z) := mul_s (by cases t <;> decide)
theorem trn_trn (t : Bool) (z : Int) : trn t * (trn t * z) = z := by cases t <;> simp [trn]
theorem min_ed {l c : Nat} (h : c ≠ l) : (V.tup [.int (if (c : Int) < (l : Int) then (c : Int) else (l : Int)), .int (if (l : Int) < (c : Int) then (c : Int) else (l : Int))]) = pV (ed l c) := by
  unfold pV ed
  by_cases e : l < c
  · rw [if_pos e, if_neg (by (first | lia | omega)), if_pos (by (first | lia | omega))]
  · rw [if_neg e, if_pos (by (first | lia | omega)), if_neg (by (first | lia | omega))]
/-- one place of the reading -/
theorem read_turn {Φ : FnT} {HB J : HP} {c rm rd i x l m : Nat} {t : Bool} {R : Nat → Nat} {S ms code : List Nat} {ts : List V} {m7 m8 : Option V} (hc : HB[c]? = some (iV code)) (hr : HB[rd]? = some (rV R)) (hx : code[i]? = some x) (hi : i < 14) (hS : Pts S) (hrm : 1 ≤ rm) (hrm2 : rm ≤ 16) (h0 : HB.length ≠ 0) (hts : ts.length ≤ 100)
    (hF : (S.filter fun q => decide (R q ≤ i)) = m :: ms) (hm : minL (tri t rm R m) (ms.map (tri t rm R)) = tri t rm R l) (hl : l ∈ S) (hxl : x ≠ l) :
    ∃ m7' m8' J', run Φ readB (R9 c rm t rd HB.length (HB.length + 1) (some (.int (i : Int))) m7 m8, HB ++ iV S :: ts :: J) = some (.next, (R9 c rm t rd HB.length (HB.length + 1) (some (.int (i : Int))) m7' m8', HB ++ iV (S.erase l) :: (ts ++ [pV (ed l x)]) :: J')) := by
  have hSl : S.length ≤ 16 := by
    have := nodup_le (L := List.range 16) hS.nd fun y hy => List.mem_range.mpr (hS.small y hy)
    simpa using this
  -- those that are due
  have hcomp := comp_filter (Φ := Φ) (elt := .tpl (.cons (.bin .div (.var 9) (.var 1)) (.cons (.bin .mul (.var 2) (.idx (.var 3) (.var 9))) (.cons (.bin .mul (.var 2) (.var 9)) .nil)))) (it := .var 5) (cond := .cmp .le (.idx (.var 3) (.var 9)) (.var 4)) (ρ := R9 c rm t rd HB.length (HB.length + 1) (some (.int (i : Int))) m7 m8) (H := HB ++ iV S :: ts :: J) (natV fun q => ofInts (tri t rm R q)) (natB fun q => decide (R q ≤ i)) (var_of rfl) (src_list get_mid (by simp; (first | lia | omega))) get_mid
    (fun y hy => by
      obtain ⟨q, hq, rfl⟩ := List.mem_map.mp hy
      have g := getI_at (app_get (K := iV S :: ts :: J) hr) (i := q) (by have := hS.small q hq; (first | lia | omega)) (rV_at (hS.small q hq))
      refine evB_of' (cmp_of (idx_of (var_of rfl) (var_of rfl) g) (var_of rfl) (t := decide (R q ≤ i)) ?_) rfl
      show some (decide ((R q : Int) ≤ (i : Int))) = _
      exact congrArg some (decide_eq_decide.mpr Int.ofNat_le))
    (fun y hy _ => by
      obtain ⟨q, hq, rfl⟩ := List.mem_map.mp hy
      have g := getI_at (app_get (K := iV S :: ts :: J) hr) (i := q) (by have := hS.small q hq; (first | lia | omega)) (rV_at (hS.small q hq))
      have hd : binI .div (q : Int) (rm : Int) = some ((q / rm : Nat) : Int) := (div_p (by (first | lia | omega)) (by (first | lia | omega))).trans rfl
      exact tpl_of (es1 (int_of (var_of rfl) (var_of rfl) hd) (es1 (int_of (var_of rfl) (idx_of (var_of rfl) (var_of rfl) g) (trn_mul t _)) (es1 (int_of (var_of rfl) (var_of rfl) (trn_mul t _)) es0))) (show 3 ≤ 1048576 by decide))
  have e1 : ((iV S).filter (natB fun q => decide (R q ≤ i))).map (natV fun q => ofInts (tri t rm R q)) = ((tri t rm R m :: ms.map (tri t rm R))).map ofInts := by
    unfold iV
    rw [List.filter_map, List.map_map]
    show (S.filter fun q => decide (R q ≤ i)).map (fun q => ofInts (tri t rm R q)) = _
    rw [hF, List.map_cons, List.map_cons, List.map_map]; rfl
  rw [e1] at hcomp
  have hmsl : ms.length ≤ 16 := by
    have := congrArg List.length hF
    have h2 := List.length_filter_le (fun q => decide (R q ≤ i)) S
    simp only [List.length_cons] at this
    (first | lia | omega)
  generalize hD : ((tri t rm R m :: ms.map (tri t rm R))).map ofInts = D at *
  have hmin := min_list (H := HB ++ iV S :: ts :: J ++ [D]) (d := (HB ++ iV S :: ts :: J).length) (k := 3) (m := tri t rm R m) (ms := ms.map (tri t rm R)) (by rw [hD]; exact get_last) (by rw [List.length_map]; (first | lia | omega)) rfl (fun y hy => by
    obtain ⟨q, _, rfl⟩ := List.mem_map.mp hy; rfl)
  rw [hm] at hmin
  have hg2 : ∀ K : HP, getI (ofInts (tri t rm R l)) (.int 2) K = some (.int (trn t * (l : Int))) := fun K => getI_tup (i := 2) (by decide) rfl
  have hleaf : binI .mul (trn t) (trn t * (l : Int)) = some (l : Int) := (trn_mul t _).trans (by rw [trn_trn])
  have eA : HB ++ iV S :: ts :: J ++ [D] = HB ++ iV S :: ts :: (J ++ [D]) := by simp
  rw [eA] at hcomp hmin
  have hrem := remove_list (H := HB ++ iV S :: ts :: (J ++ [D])) (i := HB.length) (l := l) (S := S) get_mid h0 hl (by (first | lia | omega))
  rw [set_mid] at hrem
  have eB : ∀ (X : List V) (Y : List V), HB ++ X :: Y :: (J ++ [D]) = (HB ++ [X]) ++ Y :: (J ++ [D]) := fun X Y => by simp
  have hti : (HB ++ iV (S.erase l) :: ts :: (J ++ [D]))[HB.length + 1]? = some ts := by rw [getA]; rfl
  have happ := app_list (v := pV (ed l x)) hti (by (first | lia | omega)) (by (first | lia | omega))
  have eC : (HB ++ iV (S.erase l) :: ts :: (J ++ [D])).set (HB.length + 1) (ts ++ [pV (ed l x)]) = HB ++ iV (S.erase l) :: (ts ++ [pV (ed l x)]) :: (J ++ [D]) := by
    rw [List.set_append_right _ _ (by (first | lia | omega)), show HB.length + 1 - HB.length = 1 by (first | lia | omega)]; rfl
  rw [eC] at happ
  have hcx := getI_at (app_get (K := iV (S.erase l) :: ts :: (J ++ [D])) hc) (i := i) (v := .int (x : Int)) (by (first | lia | omega)) (by rw [List.getElem?_map, hx]; rfl)
  have htp := tpl_of (Φ := Φ) (H := HB ++ iV (S.erase l) :: ts :: (J ++ [D])) (es1 (bi_of (es1 (var_of (ρ := R9 c rm t rd HB.length (HB.length + 1) (some (.int (i : Int))) (some (.list (HB ++ iV S :: ts :: J).length)) (some (.int (l : Int)))) (i := 8) rfl) (es1 (idx_of (o := .var 0) (i := .var 4) (var_of rfl) (var_of rfl) hcx) es0)) min_two) (es1 (bi_of (es1 (var_of (i := 8) rfl) (es1 (idx_of (o := .var 0) (i := .var 4) (var_of rfl) (var_of rfl) hcx) es0)) max_two) es0)) (by simp)
  rw [min_ed hxl] at htp
  refine ⟨some (.list (HB ++ iV S :: ts :: J).length), some (.int (l : Int)), J ++ [D], ?_⟩
  exact seq_of (asg_of hcomp) (seq_of (asg_of (int_of (var_of rfl) (idx_of (bi_of (es1 (var_of rfl) es0) hmin) e_lit (hg2 _)) hleaf)) (seq_of (exp_of (meth_of (var_of rfl) (es1 (var_of rfl) es0) hrem)) (seq_of (exp_of (meth_of (var_of rfl) (es1 htp es0) happ)) r_skip)))

theorem read_loop {Φ : FnT} {HB : HP} {c rm rd : Nat} {t : Bool} {R : Nat → Nat} {code : List Nat} (hc : HB[c]? = some (iV code)) (hr : HB[rd]? = some (rV R)) (hrm : 1 ≤ rm) (hrm2 : rm ≤ 16) (h0 : HB.length ≠ 0) : ∀ (U : List Nat) (i : Nat) (r : Nat → Nat) (S : List Nat) (ts : List V) (J : HP) (m4 m7 m8 : Option V), code.drop i = U → U.length + i = 14 → Rst t rm i r S U → R = fin' i r U → ts.length ≤ i →
    ∀ {P : Prop}, (∀ (zz es : List Tie) (S' : List Nat) (J' : HP) (m4' m7' m8' : Option V), Sch S zz → Grd t rm i r S zz → cod zz = U → edg S zz = es ++ [ed (S'.getD 0 0) (S'.getD 1 0)] → S'.length = 2 → Pts S' → es.length = U.length →
      forGo [4] false (fun σ => run Φ readB σ) (.fixed ((List.range (14 - 0)).map fun i => V.int ((0 + i : Nat) : Int))) (U.length + 1) i (R9 c rm t rd HB.length (HB.length + 1) m4 m7 m8, HB ++ iV S :: ts :: J) = some (.next, (R9 c rm t rd HB.length (HB.length + 1) m4' m7' m8', HB ++ iV S' :: (ts ++ es.map pV) :: J')) → P) → P
  | [], i, r, S, ts, J, m4, m7, m8, hd, hl, w, hR, hts, P, K => by
    refine K [] [] S J m4 m7 m8 w.len trivial rfl rfl w.len w.pts rfl ?_
    rw [List.map_nil, List.append_nil]
    exact fg_end (xs := (List.range (14 - 0)).map fun i => V.int ((0 + i : Nat) : Int)) rfl (rng14_end (by simpa using Nat.le_of_eq hl.symm))
  | x :: U, i, r, S, ts, J, m4, m7, m8, hd, hl, w, hR, hts, P, K => by
    have hx : code[i]? = some x := by
      have := congrArg (·[0]?) hd
      simpa [List.getElem?_drop] using this
    have hd' : code.drop (i + 1) = U := by rw [← List.drop_drop, hd]; rfl
    simp only [List.length_cons] at hl
    obtain ⟨m, ms, l, hF, hm, hlS, hxS, hxl, hlU, hleast, w'⟩ := rst_step w
    rw [← hR] at hF hm
    obtain ⟨a7, a8, J1, h1⟩ := read_turn (Φ := Φ) (J := J) (ts := ts) (c := c) (rm := rm) (rd := rd) (m7 := m7) (m8 := m8) hc hr hx (by (first | lia | omega)) w.pts hrm hrm2 h0 (by (first | lia | omega)) hF hm hlS hxl
    refine read_loop (Φ := Φ) (t := t) hc hr hrm hrm2 h0 U (i + 1) (upd r x (i + 1)) (S.erase l) (ts ++ [pV (ed l x)]) J1 (some (.int (i : Int))) a7 a8 hd' (by (first | lia | omega)) w' hR (by rw [List.length_append]; simp; (first | lia | omega)) fun zz es S' J' b4 b7 b8 g1 g2 g3 g4 g5 g6 g7 g8 => ?_
    refine K ((l, x) :: zz) (ed l x :: es) S' J' b4 b7 b8 ⟨hlS, hxS, hxl, g1⟩ ⟨by rw [g3]; exact hlU, fun q hq hql hqc => hleast q hq hql (by rw [g3] at hqc; exact hqc), g2⟩ (by show x :: cod zz = _; rw [g3]) (by show ed l x :: edg (S.erase l) zz = _; rw [g4]; rfl) g5 g6 (by rw [List.length_cons, List.length_cons, g7]) ?_
    rw [List.append_assoc] at g8
    exact fg_next rfl (rng14_at (by (first | lia | omega))) rfl h1 g8
theorem edg_ed : ∀ {z : List Tie} {S : List Nat} {e : Tie}, e ∈ edg S z → ∃ a b, e = ed a b
  | [], S, e, h => ⟨_, _, List.mem_singleton.mp h⟩
  | (l, c) :: z, S, e, h => by
    rcases List.mem_cons.mp h with h | h
    · exact ⟨_, _, h⟩
    · exact edg_ed h
theorem edg_nd : ∀ {z : List Tie} {S : List Nat}, Sch S z → Pts S → (edg S z).Nodup
  | [], S, h, hS => List.pairwise_singleton ..
  | (l, c) :: z, S, h, hS => List.nodup_cons.mpr ⟨new_tie hS h.2.2.2, edg_nd h.2.2.2 (hS.er l)⟩
theorem edg_len : ∀ {z : List Tie} {S : List Nat}, (edg S z).length = z.length + 1
  | [], _ => rfl
  | (l, c) :: z, S => by show (edg (S.erase l) z).length + 1 = _; rw [edg_len]; rfl
theorem edg_small {z : List Tie} {S : List Nat} {e : Tie} (h : Sch S z) (hS : Pts S) (he : e ∈ edg S z) : e.1 < e.2 ∧ e.2 < 16 := by
  obtain ⟨a, b, rfl⟩ := edg_ed he
  obtain ⟨h1, h2, h3⟩ := edg_in h hS he
  have h1 := hS.small a h1
  have h2 := hS.small b h2
  unfold ed
  by_cases e : a < b
  · rw [if_pos e]; exact ⟨e, h2⟩
  · rw [if_neg e]; exact ⟨show b < a by (first | lia | omega), h1⟩
noncomputable def eL (e : Tie) : List Int := [(e.1 : Int), (e.2 : Int)]
noncomputable def tiesV (E : List Tie) : List V := (sortL (E.map eL)).map ofInts
theorem eL_ok {z : List Tie} {S : List Nat} (h : Sch S z) (hS : Pts S) : (∀ t ∈ (edg S z).map eL, pairOk t = true) ∧ (((edg S z).map eL).map enc).Nodup := by
  constructor
  · intro t ht
    obtain ⟨e, he, rfl⟩ := List.mem_map.mp ht
    have := edg_small h hS he
    show (decide (0 ≤ (e.1 : Int)) && decide ((e.1 : Int) < 1000) && decide (0 ≤ (e.2 : Int)) && decide ((e.2 : Int) < 1000)) = true
    rw [decide_eq_true (show 0 ≤ (e.1 : Int) by (first | lia | omega)), decide_eq_true (show (e.1 : Int) < 1000 by (first | lia | omega)), decide_eq_true (show 0 ≤ (e.2 : Int) by (first | lia | omega)), decide_eq_true (show (e.2 : Int) < 1000 by (first | lia | omega))]; rfl
  · rw [List.map_map]
    refine List.pairwise_map.mpr ((edg_nd h hS).imp_of_mem fun {a b} ha hb hab e => hab ?_)
    have h1 := edg_small h hS ha
    have h2 := edg_small h hS hb
    have e : (a.1 : Int) * 1000 + (a.2 : Int) = (b.1 : Int) * 1000 + (b.2 : Int) := e
    exact Prod.ext (by (first | lia | omega)) (by (first | lia | omega))
theorem ties_perm {z z' : List Tie} {S : List Nat} (h : Sch S z) (h' : Sch S z') (hS : Pts S) (hp : (edg S z).Perm (edg S z')) : tiesV (edg S z) = tiesV (edg S z') := by
  unfold tiesV
  have a := eL_ok h hS
  have b := eL_ok h' hS
  rw [enc_uniq ((sortL_perm _).trans ((hp.map eL).trans (sortL_perm _).symm)) (sortL_srt a.1 a.2) (sortL_srt b.1 b.2)]
theorem sorted_list {H : HP} {i : Nat} {z : List Tie} {S : List Nat} (h : Sch S z) (hS : Pts S) (hz : z.length = 14) (hi : H[i]? = some ((edg S z).map pV)) : bi .sorted [.list i] H = some (.list H.length, H ++ [tiesV (edg S z)]) := by
  show ((H[i]?).bind fun xs => (tupsOf xs).bind fun ts => if ((decide (2 ≤ xs.length) && decide (xs.length ≤ 60)) && (ts.all pairOk && decide (ts.map enc).Nodup)) = true then some (V.list H.length, H ++ [(sortL ts).map ofInts]) else none) = _
  have e : (edg S z).map pV = ((edg S z).map eL).map ofInts := by rw [List.map_map]; rfl
  have a := eL_ok h hS
  have hl : (edg S z).length = 15 := by rw [edg_len, hz]
  rw [hi, Option.bind_some, e, tups_ints, Option.bind_some, if_pos]
  · rfl
  · rw [Bool.and_eq_true, Bool.and_eq_true, Bool.and_eq_true]
    exact ⟨⟨decide_eq_true (by simp; (first | lia | omega)), decide_eq_true (by simp; (first | lia | omega))⟩, List.all_eq_true.mpr a.1, decide_eq_true a.2⟩
theorem pts16 : Pts (List.range 16) := ⟨List.pairwise_lt_range, fun x hx => List.mem_range.mp hx⟩

/-! _law_cells -/
noncomputable def celS : St := .seq (.aug (.var 1) (.bin .mod (.var 2) (.lit (.int 2))) .add (.idx (.var 0) (.var 2))) .skip
noncomputable def celP (X : List V) (k : Nat) (σ : Cfg) : Prop := ∃ (C : List Int) (m : Option V), C.length = 2 ∧ σ = ([some (.list 0), some (.list 1), m], [X, C.map .int])
theorem cells_body {Φ : FnT} {X : List Int} (hx : X.length ≤ 63) (k : Nat) (x : V) (σ : Cfg) (hxk : ((List.range (X.length - 0)).map fun i => V.int ((0 + i : Nat) : Int))[k]? = some x) (hp : celP (X.map .int) k σ) : ∃ ps σ', parts false [2].length x σ.2 = some ps ∧
      run Φ celS (setAll σ.1 [2] ps, σ.2) = some (.next, σ') ∧ celP (X.map .int) (k + 1) σ' := by
  obtain ⟨C, m, hC, rfl⟩ := hp
  rw [List.getElem?_map] at hxk
  cases hr : (List.range (X.length - 0))[k]? with
  | none => rw [hr] at hxk; cases hxk
  | some i =>
    rw [hr] at hxk; cases hxk
    have hi : i = k ∧ k < X.length := by
      have h1 := lt_of_get' hr
      rw [List.getElem?_eq_getElem h1] at hr
      simp at hr h1
      exact ⟨hr.symm, h1⟩
    obtain ⟨rfl, hk⟩ := hi
    simp only [Nat.zero_add]
    obtain ⟨y, hy⟩ : ∃ y, X[i]? = some y := ⟨_, List.getElem?_eq_getElem hk⟩
    obtain ⟨c, hc⟩ : ∃ c, C[i % 2]? = some c := ⟨_, List.getElem?_eq_getElem (by (first | lia | omega))⟩
    have hg : getI (.list 0) (.int (i : Int)) [X.map .int, C.map .int] = some (.int y) := getI_at (xs := X.map .int) rfl (by (first | lia | omega)) (by simp [hy])
    have hg1 : getI (.list 1) (.int ((i % 2 : Nat) : Int)) [X.map .int, C.map .int] = some (.int c) := getI_at (xs := C.map .int) rfl (by (first | lia | omega)) (by simp [hc])
    have hm : binI .mod (i : Int) 2 = some ((i % 2 : Nat) : Int) := mod_p (by decide)
    refine ⟨[.int (i : Int)], ([some (.list 0), some (.list 1), some (.int (i : Int))], [X.map .int, (C.set (i % 2) (c + y)).map .int]), rfl, ?_, C.set (i % 2) (c + y), _, by rw [List.length_set]; exact hC, rfl⟩
    have := r_aug (Φ := Φ) (o := .var 1) (i := .bin .mod (.var 2) (.lit (.int 2))) (e := .idx (.var 0) (.var 2)) (ρ := [some (.list 0), some (.list 1), some (.int (i : Int))]) (H := [X.map .int, C.map .int]) (j := 1) (var_of rfl) (int_of (var_of rfl) e_lit hm) hg1 (idx_of (var_of rfl) (var_of rfl) hg) (xs := C.map .int) rfl (by (first | lia | omega)) (by rw [List.length_map]; (first | lia | omega)) (by rw [List.length_map]; (first | lia | omega)) (by decide)
    rw [Int.toNat_natCast, ← List.map_set] at this
    exact seq_of this r_skip
theorem cells_call {n : Nat} {X : List Int} (hx : X.length ≤ 63) : ∃ c0 c1, callF d01 (n + 1) 8 [.list 0] none [X.map .int] = some (.list 1, [X.map .int, [.int c0, .int c1]]) := by
  have hl : lenOk X.length = true := by simp [lenOk]; (first | lia | omega)
  obtain ⟨σ', h1, C, m, hC, rfl⟩ := for_run (Φ := callF d01 n) (is := [2]) (tp := false) (it := .call (.lit (.bi .range)) (.cons (.call (.lit (.bi .len)) (.cons (.var 0) .nil)) .nil)) (b := celS)
    (ρ := [some (.list 0), some (.list 1), none]) (H := [X.map .int, [25142436057939499, 3].map .int]) (H' := [X.map .int, [25142436057939499, 3].map .int]) (x := .range ((0 : Nat) : Int) (X.length : Int) 1)
    (by
      have := len_l (H := [X.map .int, [25142436057939499, 3].map .int]) (i := 0) (xs := X.map .int) rfl (by simp; (first | lia | omega))
      rw [List.length_map] at this
      exact bi_of (es1 (bi_of (es1 (var_of rfl) es0) this) es0) (range_1 (by (first | lia | omega)))) (rng_src 0 X.length _ (by (first | lia | omega)) (by (first | lia | omega))) (celP (X.map .int)) (fun k σ _ => rfl) ⟨[25142436057939499, 3], none, rfl, rfl⟩ (cells_body hx)
  obtain ⟨c0, c1, rfl⟩ : ∃ c0 c1, C = [c0, c1] := by
    match C, hC with
    | [a, b], _ => exact ⟨a, b, rfl⟩
  refine ⟨c0, c1, call_of (ρ' := [some (.list 0), some (.list 1), m]) (show d01 8 = some f01__law_cells from rfl) rfl ?_⟩
  exact seq_of (asg_of (lst_of (es1 e_lit (es1 e_lit es0)) (by simp))) (seq_of h1 (seq_ret (ret_of (var_of rfl))))

/-! _law_letters -/
theorem dg_ring : ∀ (k : Nat) (R : List Nat), R.length = k → (∀ x ∈ R, x < 16) → (dg (dval R)).length ≤ R.length ∧ List.replicate (R.length - (dg (dval R)).length) 0 ++ dg (dval R) = R
  | 0, R, h, hR => by
    have := List.eq_nil_of_length_eq_zero h
    subst this
    have : dval [] = 0 := rfl
    rw [this, dg_zero]; simp
  | k + 1, R, h, hR => by
    have hne : R ≠ [] := fun e => by rw [e] at h; cases h
    obtain ⟨S, d, rfl⟩ : ∃ S d, R = S ++ [d] := ⟨_, _, (List.dropLast_concat_getLast hne).symm⟩
    have hS : S.length = k := by simpa using h
    have hd : d < 16 := hR d (by simp)
    obtain ⟨i1, i2⟩ := dg_ring k S hS fun x hx => hR x (List.mem_append_left _ hx)
    rw [dval_snoc]
    by_cases e : 16 * dval S + d = 0
    · have e1 : dval S = 0 := by (first | lia | omega)
      have e2 : d = 0 := by (first | lia | omega)
      rw [e, dg_zero]
      rw [e1, dg_zero] at i2
      simp only [List.length_nil, Nat.sub_zero, List.append_nil] at i2 ⊢
      refine ⟨Nat.zero_le _, ?_⟩
      rw [List.length_append, List.length_singleton, List.replicate_succ', i2, e2]
    · have e1 : (16 * dval S + d) / 16 = dval S := by (first | lia | omega)
      have e2 : (16 * dval S + d) % 16 = d := by (first | lia | omega)
      rw [dg_pos e, e1, e2, List.length_append, List.length_append, List.length_singleton]
      refine ⟨by (first | lia | omega), ?_⟩
      rw [Nat.add_sub_add_right, ← List.append_assoc, i2]
theorem letters_call {n : Nat} {H : HP} {R : List Nat} {i : Int} (hi : i.natAbs = dval R) (hl : R.length = 14) (hR : ∀ x ∈ R, x < 16) : ∃ X Y Z, callF d01 (n + 2) 9 [.int i] none H = some (.list (H.length + 3), H ++ [X, Y, Z, iV R]) := by
  obtain ⟨h1, h2⟩ := dg_ring 14 R hl hR
  have hal : (ap (dval R)).length = (dg (dval R)).length := by rw [ap, List.length_map]
  have hb : dval R < 16 ^ 100 := by
    have h8 : dval R < 16 ^ 14 := by
      have := dg_len
      have : ∀ (k : Nat) (S : List Nat), S.length = k → (∀ x ∈ S, x < 16) → dval S < 16 ^ k := by
        intro k
        induction k with
        | zero => intro S h _; have := List.eq_nil_of_length_eq_zero h; subst this; decide
        | succ k ih =>
          intro S h hS
          have hne : S ≠ [] := fun e => by rw [e] at h; cases h
          obtain ⟨T, d, rfl⟩ : ∃ T d, S = T ++ [d] := ⟨_, _, (List.dropLast_concat_getLast hne).symm⟩
          have := ih T (by simpa using h) fun x hx => hS x (List.mem_append_left _ hx)
          have hd := hS d (by simp)
          rw [dval_snoc, Nat.pow_succ]; (first | lia | omega)
      exact this 14 R hl hR
    exact Nat.lt_of_lt_of_le h8 (Nat.pow_le_pow_right (by decide) (by decide))
  have hap := ap_call (Δ := d01) (n := n) (k := 4) (H := H) (i := i) rfl (Nat.lt_of_lt_of_le (by rw [hi]; exact hb) (Nat.pow_le_pow_right (by decide) (by decide)))
  rw [hi] at hap
  have hlen : bi .len [.bytes (ap (dval R))] H = some (.int ((dg (dval R)).length : Int), H) := by rw [← hal]; exact len_b (by rw [hal]; (first | lia | omega))
  refine ⟨[.int 0], (List.replicate (14 - (dg (dval R)).length) [V.int 0]).flatten, iV (dg (dval R)), call_of (ρ' := [some (.int i), some (.bytes (ap (dval R)))]) (show d01 9 = some f01__law_letters from rfl) rfl ?_⟩
  refine seq_of (asg_of (fn_of (es1 (var_of rfl) es0) hap)) (seq_of (ite_f (or_ff (not_of (bi_of (es1 (var_of rfl) (es1 e_lit es0)) isi_by) rfl) (or_ff' (head_ev rfl hb) (cmp_of (bi_of (es1 (var_of rfl) es0) hlen) e_lit (t := false) ?_))) r_skip) (seq_ret (ret_of ?_)))
  · show some (decide ((14 : Int) < _)) = _
    rw [decide_eq_false (by (first | lia | omega))]
  · have hsub : binI .sub 14 ((dg (dval R)).length : Int) = some ((14 - (dg (dval R)).length : Nat) : Int) := by
      show some _ = _
      congr 1; (first | lia | omega)
    have hmul : bin .mul (.list H.length) (.int ((14 - (dg (dval R)).length : Nat) : Int)) (H ++ [[.int 0]]) = some (.list (H.length + 1), H ++ [[.int 0], (List.replicate (14 - (dg (dval R)).length) [V.int 0]).flatten]) := by
      rw [bin_li, get_last, Option.bind_some, if_pos (by simp; (first | lia | omega))]
      simp
    have hlen' : ∀ K, bi .len [.bytes (ap (dval R))] K = some (.int ((dg (dval R)).length : Int), K) := fun K => by rw [← hal]; exact len_b (by rw [hal]; (first | lia | omega))
    have hcomp := comp_map (Φ := callF d01 (n + 1)) (elt := .bin .sub (.var 2) (.lit (.int 65))) (it := .var 1) (ρ := [some (.int i), some (.bytes (ap (dval R)))]) (H := H ++ [[.int 0], (List.replicate (14 - (dg (dval R)).length) [V.int 0]).flatten]) (src := .fixed ((ap (dval R)).map fun x => .int x.toNat)) (natV fun x => .int ((x : Int) - 65)) (var_of rfl)
      (show (if lenOk (ap (dval R)).length then _ else _) = _ from if_pos (decide_eq_true (by rw [hal]; (first | lia | omega)))) rfl fun x hx => by
        obtain ⟨v, _, rfl⟩ := List.mem_map.mp hx
        exact int_of (var_of rfl) e_lit rfl
    have e1 : ((ap (dval R)).map fun x => V.int (x.toNat : Int)).map (natV fun x => .int ((x : Int) - 65)) = iV (dg (dval R)) := by
      rw [ap_ints, List.map_map]
      refine List.map_congr_left fun d hd => ?_
      show V.int ((((65 + d : Nat) : Int).toNat : Int) - 65) = _
      congr 1; (first | lia | omega)
    rw [e1] at hcomp
    refine bin_of (r := (.list (H.length + 3), H ++ [[.int 0], (List.replicate (14 - (dg (dval R)).length) [V.int 0]).flatten, iV (dg (dval R)), iV R])) (bin_of (lst_of (es1 e_lit es0) (by simp)) (int_of e_lit (bi_of (es1 (var_of rfl) es0) (hlen' _)) hsub) hmul) hcomp ?_
    rw [bin_ll, List.append_assoc, getA]
    show (some (List.replicate (14 - (dg (dval R)).length) [V.int 0]).flatten).bind _ = _
    rw [Option.bind_some]
    have e2 : (H ++ ([[V.int 0], (List.replicate (14 - (dg (dval R)).length) [V.int 0]).flatten] ++ [iV (dg (dval R))]))[(H ++ [[V.int 0], (List.replicate (14 - (dg (dval R)).length) [V.int 0]).flatten]).length]? = some (iV (dg (dval R))) := by rw [← List.append_assoc]; exact get_last
    rw [e2, Option.bind_some]
    have e3 : (List.replicate (14 - (dg (dval R)).length) [V.int 0]).flatten = iV (List.replicate (14 - (dg (dval R)).length) 0) := by
      generalize 14 - (dg (dval R)).length = k
      induction k with
      | zero => rfl
      | succ k ih => rw [List.replicate_succ, List.replicate_succ, List.flatten_cons, ih]; rfl
    have e4 : (List.replicate (14 - (dg (dval R)).length) [V.int 0]).flatten ++ iV (dg (dval R)) = iV R := by
      rw [e3, ← List.map_append]
      rw [hl] at h2
      rw [h2]
    have e5 : lenOk ((List.replicate (14 - (dg (dval R)).length) [V.int 0]).flatten.length + (iV (dg (dval R))).length) = true := by
      rw [← List.length_append, e4, List.length_map, hl]; rfl
    rw [if_pos e5, e4]
    simp


/-! _law_read -/
theorem list16 {H : HP} : bi .list [.range ((0 : Nat) : Int) ((16 : Nat) : Int) 1] H = some (.list H.length, H ++ [iV (List.range 16)]) := by
  show (rangeV (.range ((0 : Nat) : Int) ((16 : Nat) : Int) 1)).map (fun xs => (V.list H.length, H ++ [xs])) = _
  have : rangeV (.range ((0 : Nat) : Int) ((16 : Nat) : Int) 1) = some (rangeL ((0 : Nat) : Int) ((16 : Nat) : Int) 1) := by
    show (if (lenOk (rangeL ((0 : Nat) : Int) ((16 : Nat) : Int) 1).length && okR ((0 : Nat) : Int) && okR ((16 : Nat) : Int) && okR 1 && decide ((1 : Int) ≠ 0)) = true then some _ else none) = _
    rw [if_pos (by rw [rangeL_nat]; decide)]
  rw [this, rangeL_nat]
  simp [iV]
theorem read_call {n c rm : Nat} {H : HP} {code : List Nat} (t : Bool) (hc : H[c]? = some (iV code)) (hcode : ∀ x ∈ code, x < 16) (hlen : code.length = 14) (hrm : 1 ≤ rm) (hrm2 : rm ≤ 16) (h0 : H.length ≠ 0) :
    ∃ zz J, Sch (List.range 16) zz ∧ Grd t rm 0 (fun _ => 0) (List.range 16) zz ∧ cod zz = code ∧ callF d01 (n + 1) 10 [.list c, .int (rm : Int), .int (trn t)] none H = some (.list (H ++ J).length, H ++ J ++ [tiesV (edg (List.range 16) zz)]) := by
  obtain ⟨m4, hl1⟩ := ready_loop (Φ := callF d01 n) (H0 := H ++ [[.int 0]]) (v1 := some (.int (rm : Int))) (v2 := some (.int (trn t))) (v5 := none) (v6 := none) (v7 := none) (v8 := none) (app_get hc) hcode hlen (by simp) code 0 (fun _ => 0) none rfl (by (first | lia | omega))
  generalize hHB : H ++ [[V.int 0]] ++ [rV (fin' 0 (fun _ => 0) code)] = HB at *
  have hcB : HB[c]? = some (iV code) := by rw [← hHB]; exact app_get (app_get hc)
  have hrB : HB[(H ++ [[V.int 0]]).length]? = some (rV (fin' 0 (fun _ => 0) code)) := by rw [← hHB]; exact get_last
  have hB0 : HB.length ≠ 0 := by rw [← hHB]; simp
  refine read_loop (Φ := callF d01 n) (t := t) (rm := rm) hcB hrB hrm hrm2 hB0 code 0 (fun _ => 0) (List.range 16) [] [] m4 none none rfl (by (first | lia | omega)) ⟨pts16, by rw [hlen]; rfl, fun x hx => List.mem_range.mpr (hcode x hx), fun _ => Nat.le_refl _⟩ rfl (Nat.le_refl _) fun zz es S' J' b4 b7 b8 g1 g2 g3 g4 g5 g6 g7 g8 => ?_
  rw [List.nil_append] at g8
  have hz : zz.length = 14 := by rw [← hlen, ← g3, List.length_map]
  match S', g5, g6 with
  | [x, y], _, hP =>
    have hxy : x < y := (List.pairwise_cons.mp hP.lt).1 y (by simp)
    have e1 : es.map pV ++ [pV (ed x y)] = (edg (List.range 16) zz).map pV := by rw [g4, List.map_append]; rfl
    have hti : (HB ++ iV [x, y] :: es.map pV :: J')[HB.length + 1]? = some (es.map pV) := by rw [getA]; rfl
    have happ := app_list (v := pV (ed x y)) hti (by (first | lia | omega)) (by rw [List.length_map, g7]; (first | lia | omega))
    have eC : (HB ++ iV [x, y] :: es.map pV :: J').set (HB.length + 1) (es.map pV ++ [pV (ed x y)]) = HB ++ iV [x, y] :: (edg (List.range 16) zz).map pV :: J' := by
      rw [List.set_append_right _ _ (by (first | lia | omega)), show HB.length + 1 - HB.length = 1 by (first | lia | omega), e1]; rfl
    rw [eC] at happ
    have ep : V.tup [.int (x : Int), .int (y : Int)] = pV (ed x y) := by unfold pV ed; rw [if_pos hxy]
    have hsrt := sorted_list (H := HB ++ iV [x, y] :: (edg (List.range 16) zz).map pV :: J') (i := HB.length + 1) g1 pts16 hz (by rw [getA]; rfl)
    have htp := tpl_of (Φ := callF d01 n) (H := HB ++ iV [x, y] :: es.map pV :: J') (ρ := R9 c rm t (H ++ [[V.int 0]]).length HB.length (HB.length + 1) b4 b7 b8) (es1 (idx_of (o := .var 5) (i := .lit (.int 0)) (var_of rfl) e_lit (getI_lst0 get_mid)) (es1 (idx_of (o := .var 5) (i := .lit (.int 1)) (var_of rfl) e_lit (getI_lst1 get_mid)) es0)) (by simp)
    rw [ep] at htp
    refine ⟨zz, [[V.int 0], rV (fin' 0 (fun _ => 0) code), iV [x, y], (edg (List.range 16) zz).map pV] ++ J', g1, g2, g3, ?_⟩
    have eH : H ++ ([[V.int 0], rV (fin' 0 (fun _ => 0) code), iV [x, y], (edg (List.range 16) zz).map pV] ++ J') = HB ++ iV [x, y] :: (edg (List.range 16) zz).map pV :: J' := by rw [← hHB]; simp
    rw [eH]
    refine call_of (ρ' := R9 c rm t (H ++ [[V.int 0]]).length HB.length (HB.length + 1) b4 b7 b8) (show d01 10 = some f01__law_read from rfl) rfl ?_
    have hmul : bin .mul (.list H.length) (.int 16) (H ++ [[V.int 0]]) = some (.list (H ++ [[V.int 0]]).length, H ++ [[V.int 0]] ++ [rV fun _ => 0]) := by
      rw [bin_li, get_last, Option.bind_some]; rfl
    have l1 : code.length + 1 = ((List.range (14 - 0)).map fun i => V.int ((0 + i : Nat) : Int)).length + 1 := by rw [hlen]; rfl
    rw [l1] at hl1 g8
    exact seq_of (asg_of (bin_of (lst_of (es1 e_lit es0) (by simp)) e_lit hmul)) (seq_of (fr_of (rng_ev (n := 14) rfl (by (first | lia | omega))) (rng_src 0 14 _ (by (first | lia | omega)) (by (first | lia | omega))) rfl hl1) (seq_of (asg_of (bi_of (es1 (rng_ev (n := 16) rfl (by (first | lia | omega))) es0) list16)) (seq_of (asg_of (lst_of es0 (by simp))) (seq_of (fr_of (rng_ev (n := 14) rfl (by (first | lia | omega))) (rng_src 0 14 _ (by (first | lia | omega)) (by (first | lia | omega))) rfl (by
      have eL : (HB ++ [iV (List.range 16)]).length = HB.length + 1 := by simp
      rw [eL]
      have eM : HB ++ [iV (List.range 16)] ++ [[]] = HB ++ iV (List.range 16) :: [] :: [] := by simp
      rw [eM]
      exact g8)) (seq_of (exp_of (meth_of (var_of rfl) (es1 htp es0) happ)) (seq_ret (ret_of (bi_of (es1 (var_of rfl) es0) hsrt))))))))

/-! _law_written: the rows of neighbours on the heap -/
/-- J: what lies behind H, at N = H.length: the rows, then the list of them -/
structure NR (N : Nat) (J : HP) (E : List Tie) : Prop where
  row : ∀ p, p < 16 → J[p]? = some (iV (row E p))
  lst : J[16]? = some ((List.range 16).map fun p => V.list (N + p))
theorem NR.perm {N : Nat} {J : HP} {E F : List Tie} (h : NR N J E) (hp : E.Perm F) : NR N J F := ⟨fun p hp' => by rw [← row_perm hp]; exact h.row p hp', h.lst⟩
theorem NR.app {N : Nat} {J K : HP} {E : List Tie} (h : NR N J E) : NR N (J ++ K) E := ⟨fun p hp => app_get (h.row p hp), app_get h.lst⟩
theorem NR.set17 {N : Nat} {J : HP} {E : List Tie} {W : List V} (h : NR N J E) : NR N (J.set 17 W) E := ⟨fun p hp => by rw [List.getElem?_set_ne (by (first | lia | omega))]; exact h.row p hp, by rw [List.getElem?_set_ne (by (first | lia | omega))]; exact h.lst⟩
theorem NR.len {N : Nat} {J : HP} {E : List Tie} (h : NR N J E) : 17 ≤ J.length := lt_of_get' h.lst
/-- two rows are changed -/
theorem NR.two {N : Nat} {J : HP} {E F : List Tie} {a b : Nat} (h : NR N J E) (ha : a < 16) (hb : b < 16) (hab : a ≠ b) (hF : ∀ p, p ≠ a → p ≠ b → Mp.row F p = Mp.row E p) : NR N ((J.set a (iV (Mp.row F a))).set b (iV (Mp.row F b))) F := by
  have hl := h.len
  refine ⟨fun p hp => ?_, ?_⟩
  · by_cases e1 : p = b
    · subst e1
      rw [List.getElem?_set_self (by rw [List.length_set]; (first | lia | omega))]
    · rw [List.getElem?_set_ne (Ne.symm e1)]
      by_cases e2 : p = a
      · subst e2
        rw [List.getElem?_set_self (by (first | lia | omega))]
      · rw [List.getElem?_set_ne (Ne.symm e2), hF p e2 e1]
        exact h.row p hp
  · rw [List.getElem?_set_ne (by (first | lia | omega)), List.getElem?_set_ne (by (first | lia | omega))]
    exact h.lst
theorem row_len (E : List Tie) (p : Nat) : (row E p).length ≤ 16 := by
  have := List.length_filter_le (fun x => decide (ed p x ∈ E)) (List.range 16)
  rw [List.length_range] at this
  exact this
section
variable {H J : HP} {E : List Tie}
theorem near_at (h : NR H.length J E) {p : Nat} (hp : p < 16) : (H ++ J)[H.length + p]? = some (iV (row E p)) := by rw [getA]; exact h.row p hp
theorem near_get (h : NR H.length J E) {p : Nat} (hp : p < 16) : getI (.list (H.length + 16)) (.int (p : Int)) (H ++ J) = some (.list (H.length + p)) := by
  refine getI_at (xs := (List.range 16).map fun p => V.list (H.length + p)) (by rw [getA]; exact h.lst) (by (first | lia | omega)) ?_
  rw [List.getElem?_map, List.getElem?_range hp]; rfl
theorem near_ev {Φ : FnT} {ρ : Rho} {k j p : Nat} (h : NR H.length J E) (hp : p < 16) (hk : ρ[k]? = some (some (.list (H.length + 16)))) (hj : ρ[j]? = some (some (.int (p : Int)))) : ev Φ (.idx (.var k) (.var j)) ρ (H ++ J) = some (.list (H.length + p), H ++ J) :=
  idx_of (var_of hk) (var_of hj) (near_get h hp)
theorem near_len {p : Nat} (h : NR H.length J E) (hp : p < 16) : bi .len [.list (H.length + p)] (H ++ J) = some (.int ((row E p).length : Int), H ++ J) := by
  have := len_l (near_at h hp) (by have := row_len E p; simp; (first | lia | omega))
  rw [List.length_map] at this
  exact this
theorem set_hi {a : Nat} {X : List V} : (H ++ J).set (H.length + a) X = H ++ J.set a X := by
  rw [List.set_append_right _ _ (by (first | lia | omega))]; congr 2; (first | lia | omega)
/-- 256 and the ties over two, times the stride -/
theorem deg_ev {Φ : FnT} {ρ : Rho} {j p : Nat} {s : Int} (h : NR H.length J E) (hp : p < 16) (hk : ρ[5]? = some (some (.list (H.length + 16)))) (hj : ρ[j]? = some (some (.int (p : Int)))) (hs : ρ[3]? = some (some (.int s))) :
    ev Φ (.bin .add (.lit (.int 256)) (.bin .mul (.bin .sub (.call (.lit (.bi .len)) (.cons (.idx (.var 5) (.var j)) .nil)) (.lit (.int 2))) (.var 3))) ρ (H ++ J) = some (.int (256 + (((row E p).length : Int) - 2) * s), H ++ J) := by
  have := row_len E p
  exact int_of e_lit (int_of (int_of (bi_of (es1 (near_ev h hp hk hj) es0) (near_len h hp)) e_lit rfl) (var_of hs) (mul_s (by (first | lia | omega)))) rfl
end
theorem term_deg {d : Nat} {s : Int} (hs : 1 ≤ s) (hd : 1 ≤ d) : decide (256 + ((d : Int) - 2) * s < 256) = decide (d = 1) := by
  refine decide_eq_decide.mpr ⟨fun h => ?_, fun h => ?_⟩
  · by_cases e : d = 1
    · exact e
    · have : 0 ≤ ((d : Int) - 2) * s := Int.mul_nonneg (by (first | lia | omega)) (by (first | lia | omega))
      (first | lia | omega)
  · subst h
    have : (((1 : Nat) : Int) - 2) * s = -s := by rw [show (((1 : Nat) : Int) - 2) = -1 from rfl, Int.neg_mul, Int.one_mul]
    (first | lia | omega)
theorem nont_deg {d : Nat} {s : Int} (hs : 1 ≤ s) (hd : 1 ≤ d) : decide (256 ≤ 256 + ((d : Int) - 2) * s) = decide (2 ≤ d) := by
  refine decide_eq_decide.mpr ⟨fun h => ?_, fun h => ?_⟩
  · by_cases e : d = 1
    · subst e
      have : (((1 : Nat) : Int) - 2) * s = -s := by rw [show (((1 : Nat) : Int) - 2) = -1 from rfl, Int.neg_mul, Int.one_mul]
      (first | lia | omega)
    · (first | lia | omega)
  · have : 0 ≤ ((d : Int) - 2) * s := Int.mul_nonneg (by (first | lia | omega)) (by (first | lia | omega))
    (first | lia | omega)
/-- sixteen empty rows -/
theorem lay_go {Φ : FnT} {vs : List V} {ρ : Rho} : ∀ (U : List V) (i : Nat) (H : HP), vs.drop i = U → compGo (cstp Φ (.lst .nil) 1 false (.lit (.bool true)) ρ) (.fixed vs) (U.length + 1) i H = some ((List.range U.length).map fun k => V.list (H.length + k), H ++ List.replicate U.length [])
  | [], i, H, hd => by
    have hn : vs[i]? = none := List.getElem?_eq_none_iff.mpr (List.drop_eq_nil_iff.mp hd)
    show (vs[i]?).elim _ _ = _
    rw [hn]
    show some ([], H) = some ([], H ++ [])
    rw [List.append_nil]
  | x :: U, i, H, hd => by
    have hx : vs[i]? = some x := by
      have := congrArg (·[0]?) hd
      simpa [List.getElem?_drop] using this
    have hd' : vs.drop (i + 1) = U := by rw [← List.drop_drop, hd]; rfl
    have ih := lay_go (Φ := Φ) (ρ := ρ) U (i + 1) (H ++ [[]]) hd'
    show (vs[i]?).elim _ _ = _
    rw [hx, Option.elim_some]
    show (cstp Φ (.lst .nil) 1 false (.lit (.bool true)) ρ x H).bind (fun r => (compGo (cstp Φ (.lst .nil) 1 false (.lit (.bool true)) ρ) (.fixed vs) (U.length + 1) (i + 1) r.2).map fun q => (r.1.elim q.1 (· :: q.1), q.2)) = _
    have e1 : cstp Φ (.lst .nil) 1 false (.lit (.bool true)) ρ x H = some (some (.list H.length), H ++ [[]]) := by
      rw [cstp_one, evB_eq]; rfl
    rw [e1, Option.bind_some, ih, Option.map_some]
    congr 2
    · rw [List.length_cons, List.range_succ_eq_map, List.map_cons, List.map_map]
      show V.list H.length :: _ = _
      rw [Nat.add_zero]
      congr 1
      refine List.map_congr_left fun k _ => ?_
      show V.list ((H ++ [[]]).length + k) = V.list (H.length + (k + 1))
      rw [List.length_append, List.length_singleton]
      congr 1; (first | lia | omega)
    · rw [List.append_assoc]; rfl
theorem near_comp {Φ : FnT} {ρ : Rho} {H : HP} : ∃ J, ev Φ (.comp (.lst .nil) 1 false (.call (.lit (.bi .range)) (.cons (.lit (.int 16)) .nil)) (.lit (.bool true))) ρ H = some (.list (H.length + 16), H ++ J) ∧ NR H.length J [] ∧ J.length = 17 := by
  refine ⟨List.replicate 16 [] ++ [(List.range 16).map fun p => V.list (H.length + p)], ?_, ⟨fun p hp => ?_, ?_⟩, rfl⟩
  · rw [ev_comp_eq, rng_ev (z := 16) (n := 16) rfl (by (first | lia | omega)), Option.bind_some, rng_src 0 16 _ (by (first | lia | omega)) (by (first | lia | omega)), Option.bind_some]
    have h := lay_go (Φ := Φ) (ρ := ρ) (vs := (List.range (16 - 0)).map fun i => V.int ((0 + i : Nat) : Int)) ((List.range (16 - 0)).map fun i => V.int ((0 + i : Nat) : Int)) 0 H rfl
    have e : (Src.fixed ((List.range (16 - 0)).map fun i => V.int ((0 + i : Nat) : Int))).fuel H = ((List.range (16 - 0)).map fun i => V.int ((0 + i : Nat) : Int)).length + 1 := rfl
    show (compGo _ (.fixed _) ((Src.fixed _).fuel H) 0 H).map _ = _
    rw [e, h, Option.map_some]
    have e2 : ((List.range (16 - 0)).map fun i => V.int ((0 + i : Nat) : Int)).length = 16 := rfl
    rw [e2]
    simp only [List.length_append, List.length_replicate, List.append_assoc]
  · have e : row [] p = [] := List.filter_eq_nil_iff.mpr fun x _ => by simp
    rw [e, List.getElem?_append_left (by simpa using hp), List.getElem?_replicate, if_pos hp]; rfl
  · rw [List.getElem?_append_right (by simp)]; rfl

/-! _law_written: the rows are filled -/
noncomputable def decT (l : List Int) : Tie := ((l.getD 0 0).toNat, (l.getD 1 0).toNat)
theorem decT_eL (e : Tie) : decT (eL e) = e := by
  show (((e.1 : Int)).toNat, ((e.2 : Int)).toNat) = e
  rw [Int.toNat_natCast, Int.toNat_natCast]
theorem ties_list (E : List Tie) : ∃ T : List Tie, T.Perm E ∧ tiesV E = T.map pV := by
  have hp := sortL_perm (E.map eL)
  refine ⟨(sortL (E.map eL)).map decT, ?_, ?_⟩
  · have h1 := hp.map decT
    rw [List.map_map] at h1
    have e : E.map (decT ∘ eL) = E := by
      conv => rhs; rw [← List.map_id E]
      exact List.map_congr_left fun e _ => decT_eL e
    rw [e] at h1
    exact h1
  · unfold tiesV
    rw [List.map_map]
    refine List.map_congr_left fun x hx => ?_
    obtain ⟨e, _, rfl⟩ := List.mem_map.mp (hp.mem_iff.mp hx)
    show ofInts (eL e) = pV (decT (eL e))
    rw [decT_eL]; rfl
theorem rngN_at {n i : Nat} (h : i < n) : ((List.range (n - 0)).map fun i => V.int ((0 + i : Nat) : Int))[i]? = some (.int (i : Int)) := by
  rw [List.getElem?_map, List.getElem?_range (by (first | lia | omega))]
  show some (V.int ((0 + i : Nat) : Int)) = _
  rw [Nat.zero_add]
theorem rngN_end {n i : Nat} (h : n ≤ i) : ((List.range (n - 0)).map fun i => V.int ((0 + i : Nat) : Int))[i]? = none := List.getElem?_eq_none (by simp; (first | lia | omega))
noncomputable abbrev WR (ti rm : Nat) (t : Bool) (s : Int) (N : Nat) (m4 m6 m7 m8 m9 m10 m11 m12 m13 m14 m15 : Option V) : Rho := [some (.list ti), some (.int (rm : Int)), some (.int (trn t)), some (.int s), m4, some (.list (N + 16)), m6, m7, m8, m9, m10, m11, m12, m13, m14, m15]
noncomputable def wrN : St := .seq (.unp [7, 8] (.idx (.var 0) (.bin .mod (.bin .mul (.lit (.int 2)) (.var 6)) (.lit (.int 15))))) (.seq (.ite (.or (.cmp .isn (.call (.lit (.fn 2)) (.cons (.idx (.var 5) (.var 7)) (.cons (.var 8) .nil))) (.lit .none)) (.cmp .isn (.call (.lit (.fn 0)) (.cons (.idx (.var 5) (.var 8)) (.cons (.var 7) .nil))) (.lit .none))) (.seq (.ret (.lit .none)) .skip) .skip) .skip)
theorem near_turn {n ti rm i a b : Nat} {t : Bool} {s : Int} {H J : HP} {T F : List Tie} {m4 m7 m8 m9 m10 m11 m12 m13 m14 m15 : Option V} (ht : H[ti]? = some (T.map pV)) (hi : i < 15) (h0 : H.length ≠ 0) (hN : NR H.length J F) (he : T[2 * i % 15]? = some (a, b)) (hab : a < b) (hb : b < 16) (hn : (a, b) ∉ F) :
    ∃ J', NR H.length J' ((a, b) :: F) ∧ J'.length = J.length ∧ run (callF d01 (n + 2)) wrN (WR ti rm t s H.length m4 (some (.int (i : Int))) m7 m8 m9 m10 m11 m12 m13 m14 m15, H ++ J) =
      some (.next, (WR ti rm t s H.length m4 (some (.int (i : Int))) (some (.int (a : Int))) (some (.int (b : Int))) m9 m10 m11 m12 m13 m14 m15, H ++ J')) := by
  have ee : ed a b = (a, b) := if_pos hab
  have hn' : ed a b ∉ F := by rw [ee]; exact hn
  have ha : a < 16 := by (first | lia | omega)
  have hJ := hN.len
  have h1 := insL1 (n := n) (near_at hN ha) (row_lt F a) (by have := row_len F a; (first | lia | omega)) (by (first | lia | omega)) b
  rw [set_hi, ← row_more (by (first | lia | omega)) hb hn'] at h1
  have hK : (H ++ J.set a (iV (row (ed a b :: F) a)))[H.length + b]? = some (iV (row F b)) := by
    rw [getA, List.getElem?_set_ne (by (first | lia | omega))]; exact hN.row b hb
  have hnb : a ∉ row F b := fun h => hn' (by rw [ed_comm]; exact (mem_row.mp h).2)
  have h2 := insR1 (n := n) hK (row_lt F b) (by have := row_len F b; (first | lia | omega)) (by (first | lia | omega)) hnb
  rw [set_hi, ← row_more' (by (first | lia | omega)) ha hn'] at h2
  have hN' := hN.two (F := ed a b :: F) ha hb (by (first | lia | omega)) fun p h1 h2 => row_else h1 h2
  have hg : getI (.list ti) (.int ((2 * i % 15 : Nat) : Int)) (H ++ J) = some (pV (a, b)) := getI_at (app_get ht) (by (first | lia | omega)) (by rw [List.getElem?_map, he]; rfl)
  have hm : binI .mod (2 * (i : Int)) 15 = some ((2 * i % 15 : Nat) : Int) := (mod_p (by decide)).trans (by congr 1)
  have hg2 : getI (.list (H.length + 16)) (.int (b : Int)) (H ++ J.set a (iV (row (ed a b :: F) a))) = some (.list (H.length + b)) := by
    refine getI_at (xs := (List.range 16).map fun p => V.list (H.length + p)) (by rw [getA, List.getElem?_set_ne (by (first | lia | omega))]; exact hN.lst) (by (first | lia | omega)) ?_
    rw [List.getElem?_map, List.getElem?_range hb]; rfl
  rw [ee] at hN' h1 h2 hg2
  refine ⟨_, hN', by rw [List.length_set, List.length_set], ?_⟩
  exact seq_of (unp_of (ps := [.int (a : Int), .int (b : Int)]) (idx_of (var_of rfl) (int_of (int_of e_lit (var_of rfl) (mul_s (by decide))) e_lit hm) hg) rfl)
    (seq_of (ite_f (or_ff (cmp_of (fn_of (es1 (near_ev hN ha rfl rfl) (es1 (var_of rfl) es0)) h1) e_lit (t := false) rfl) (cmp_of (fn_of (es1 (idx_of (var_of rfl) (var_of rfl) hg2) (es1 (var_of rfl) es0)) h2) e_lit (t := false) rfl)) r_skip) r_skip)
theorem near_loop {n ti rm : Nat} {t : Bool} {s : Int} {H : HP} {T : List Tie} {m4 m9 m10 m11 m12 m13 m14 m15 : Option V} (ht : H[ti]? = some (T.map pV)) (h0 : H.length ≠ 0) (hT : T.length = 15) (hs : ∀ e ∈ T, e.1 < e.2 ∧ e.2 < 16) : ∀ (U : List Nat) (i : Nat) (F : List Tie) (J : HP) (m6 m7 m8 : Option V), (List.range 15).drop i = U → U.length + i = 15 → NR H.length J F → J.length = 17 → (U.map (fun j => T.getD (2 * j % 15) (0, 0)) ++ F).Nodup →
    ∀ {P : Prop}, (∀ (m6' m7' m8' : Option V) (J' : HP) (F' : List Tie), F'.Perm (U.map (fun j => T.getD (2 * j % 15) (0, 0)) ++ F) → NR H.length J' F' → J'.length = 17 →
      forGo [6] false (fun σ => run (callF d01 (n + 2)) wrN σ) (.fixed ((List.range (15 - 0)).map fun i => V.int ((0 + i : Nat) : Int))) (U.length + 1) i (WR ti rm t s H.length m4 m6 m7 m8 m9 m10 m11 m12 m13 m14 m15, H ++ J) = some (.next, (WR ti rm t s H.length m4 m6' m7' m8' m9 m10 m11 m12 m13 m14 m15, H ++ J')) → P) → P
  | [], i, F, J, m6, m7, m8, hd, hl, hN, hJ, hnd, P, K => K m6 m7 m8 J F (.refl _) hN hJ (fg_end (xs := (List.range (15 - 0)).map fun i => V.int ((0 + i : Nat) : Int)) rfl (rngN_end (by simpa using Nat.le_of_eq hl.symm)))
  | x :: U, i, F, J, m6, m7, m8, hd, hl, hN, hJ, hnd, P, K => by
    simp only [List.length_cons] at hl
    have hx : x = i := by
      have := congrArg (·[0]?) hd
      simp only [List.getElem?_drop, Nat.add_zero] at this
      rw [List.getElem?_range (by (first | lia | omega))] at this
      exact (Option.some.inj this).symm
    subst hx
    have hd' : (List.range 15).drop (x + 1) = U := by rw [← List.drop_drop, hd]; rfl
    obtain ⟨e, he⟩ : ∃ e, T[2 * x % 15]? = some e := ⟨_, List.getElem?_eq_getElem (by (first | lia | omega))⟩
    have heD : T.getD (2 * x % 15) (0, 0) = e := by rw [List.getD, he]; rfl
    have hse := hs e (List.mem_of_getElem? he)
    obtain ⟨a, b⟩ := e
    rw [List.map_cons, heD, List.cons_append] at hnd
    have hnd' := List.nodup_cons.mp hnd
    obtain ⟨J1, hN1, hJ1, h1⟩ := near_turn (n := n) (ti := ti) (rm := rm) (t := t) (s := s) (m4 := m4) (m7 := m7) (m8 := m8) (m9 := m9) (m10 := m10) (m11 := m11) (m12 := m12) (m13 := m13) (m14 := m14) (m15 := m15) ht (by (first | lia | omega)) h0 hN he hse.1 hse.2 fun h => hnd'.1 (List.mem_append_right _ h)
    have hpm : (U.map (fun j => T.getD (2 * j % 15) (0, 0)) ++ (a, b) :: F).Perm ((a, b) :: (U.map (fun j => T.getD (2 * j % 15) (0, 0)) ++ F)) := List.perm_middle
    refine near_loop (n := n) (rm := rm) (t := t) (s := s) (m4 := m4) (m9 := m9) (m10 := m10) (m11 := m11) (m12 := m12) (m13 := m13) (m14 := m14) (m15 := m15) ht h0 hT hs U (x + 1) ((a, b) :: F) J1 (some (.int (x : Int))) (some (.int (a : Int))) (some (.int (b : Int))) hd' (by (first | lia | omega)) hN1 (by (first | lia | omega)) (hpm.nodup_iff.mpr hnd) fun a6 a7 a8 J2 F' g1 g2 g3 g4 => ?_
    refine K a6 a7 a8 J2 F' ?_ g2 g3 (fg_next rfl (rngN_at (by (first | lia | omega))) rfl h1 g4)
    rw [List.map_cons, heD]
    exact g1.trans hpm
theorem ring_perm {T : List Tie} (hT : T.length = 15) : ((List.range 15).map fun j => T.getD (2 * j % 15) (0, 0)).Perm T := by
  have h1 : ((List.range 15).map fun j => 2 * j % 15).Perm (List.range 15) := by decide
  have h2 := h1.map fun k => T.getD k (0, 0)
  rw [List.map_map] at h2
  have e : (List.range 15).map (fun k => T.getD k (0, 0)) = T := by
    refine List.ext_getElem? fun k => ?_
    by_cases hk : k < 15
    · rw [List.getElem?_map, List.getElem?_range hk, Option.map_some, List.getD, List.getElem?_eq_getElem (by (first | lia | omega))]; rfl
    · rw [List.getElem?_eq_none (by simp; (first | lia | omega)), List.getElem?_eq_none (by (first | lia | omega))]
  rw [e] at h2
  exact h2

/-! _law_written: those that wait -/
theorem kl_nd {t : Bool} {rm : Nat} {r : Nat → Nat} {Q : List Nat} (h : Q.Pairwise (kl t rm r)) : Q.Nodup := List.Pairwise.imp (R := kl t rm r) (S := (· ≠ ·)) (fun {a b} (hab : kl t rm r a b) (e : a = b) => by subst e; exact kl_asym hab hab) h
theorem kl_len {t : Bool} {rm : Nat} {r : Nat → Nat} {Q : List Nat} (h : Q.Pairwise (kl t rm r)) (hs : ∀ q ∈ Q, q < 16) : Q.length ≤ 16 := by
  have := nodup_le (L := List.range 16) (kl_nd h) fun y hy => List.mem_range.mpr (hs y hy)
  rwa [List.length_range] at this
noncomputable def layS (j : Nat) : St := .ite (.and (.cmp .is (.call (.lit (.fn 5)) (.cons (.bin .add (.lit (.int 256)) (.bin .mul (.bin .sub (.call (.lit (.bi .len)) (.cons (.idx (.var 5) (.var j)) .nil)) (.lit (.int 2))) (.var 3))) .nil)) (.lit (.bool true))) (.cmp .isn (.call (.lit (.fn 12)) (.cons (.var 9) (.cons (.var j) (.cons (.var 1) (.cons (.var 2) .nil))))) (.lit .none))) (.seq (.ret (.lit .none)) .skip) .skip
theorem lay_st {n j p rm : Nat} {t : Bool} {s : Int} {H J : HP} {E : List Tie} {Q : List Nat} {r : Nat → Nat} {ρ : Rho} (e1 : ρ[1]? = some (some (.int (rm : Int)))) (e2 : ρ[2]? = some (some (.int (trn t)))) (e3 : ρ[3]? = some (some (.int s))) (e5 : ρ[5]? = some (some (.list (H.length + 16)))) (e9 : ρ[9]? = some (some (.list (H.length + 17)))) (ej : ρ[j]? = some (some (.int (p : Int))))
    (hN : NR H.length J E) (hp : p < 16) (hQ : J[17]? = some (Q.map (wV rm))) (hs : Q.Pairwise (kl t rm r)) (hl : Q.length ≤ 100) (hst : 1 ≤ s) (hd : 1 ≤ (row E p).length) (hrm : 1 ≤ rm) (hrm2 : rm ≤ 16) :
    ∃ J', run (callF d01 (n + 4)) (layS j) (ρ, H ++ J) = some (.next, (ρ, H ++ J')) ∧ NR H.length J' E ∧ J'[17]? = some ((if (row E p).length = 1 then lay t rm Q p else Q).map (wV rm)) ∧ J'.length = J.length := by
  have ht := term_call (Δ := d01) (n := n + 3) (k := 5) (H := H ++ J) (i := 256 + (((row E p).length : Int) - 2) * s) rfl
  rw [term_deg hst hd] at ht
  have hde := deg_ev (Φ := callF d01 (n + 4)) hN hp e5 ej e3
  by_cases e : (row E p).length = 1
  · rw [decide_eq_true e] at ht
    have hw : (H ++ J)[H.length + 17]? = some (Q.map (wV rm)) := by rw [getA]; exact hQ
    have hc := lay_call (n := n) (v := p) hw hs hl (by (first | lia | omega)) hrm hrm2
    rw [set_hi] at hc
    have hlt := lt_of_get' hQ
    refine ⟨J.set 17 ((lay t rm Q p).map (wV rm)), ite_f (evB_of' (and_t (cmp_of (fn_of (es1 hde es0) ht) e_lit is_bb) rfl (cmp_of (fn_of (es1 (var_of e9) (es1 (var_of ej) (es1 (var_of e1) (es1 (var_of e2) es0)))) hc) e_lit (t := false) rfl)) rfl) r_skip, hN.set17, ?_, by rw [List.length_set]⟩
    rw [if_pos e, List.getElem?_set_self hlt]
  · rw [decide_eq_false e] at ht
    exact ⟨J, ite_f (evB_of' (and_f (cmp_of (fn_of (es1 hde es0) ht) e_lit is_bb) rfl) rfl) r_skip, hN, by rw [if_neg e]; exact hQ, rfl⟩
noncomputable def wrL : St := .seq (layS 4) .skip
theorem wait_loop {n ti rm : Nat} {t : Bool} {s : Int} {H : HP} {E : List Tie} {m6 m7 m8 m10 m11 m12 m13 m14 m15 : Option V} (hst : 1 ≤ s) (hrm : 1 ≤ rm) (hrm2 : rm ≤ 16) (hdeg : ∀ p, p < 16 → 1 ≤ (row E p).length) : ∀ (U : List Nat) (i : Nat) (Q : List Nat) (J : HP) (m4 : Option V), U.length + i = 16 → NR H.length J E → J[17]? = some (Q.map (wV rm)) → Q.Pairwise (kl t rm fun _ => 0) → (∀ p, p ∈ Q ↔ p < i ∧ (row E p).length = 1) →
    ∀ {P : Prop}, (∀ (m4' : Option V) (J' : HP) (Q' : List Nat), NR H.length J' E → J'[17]? = some (Q'.map (wV rm)) → Q'.Pairwise (kl t rm fun _ => 0) → (∀ p, p ∈ Q' ↔ p < 16 ∧ (row E p).length = 1) →
      forGo [4] false (fun σ => run (callF d01 (n + 4)) wrL σ) (.fixed ((List.range (16 - 0)).map fun i => V.int ((0 + i : Nat) : Int))) (U.length + 1) i (WR ti rm t s H.length m4 m6 m7 m8 (some (.list (H.length + 17))) m10 m11 m12 m13 m14 m15, H ++ J) = some (.next, (WR ti rm t s H.length m4' m6 m7 m8 (some (.list (H.length + 17))) m10 m11 m12 m13 m14 m15, H ++ J')) → P) → P
  | [], i, Q, J, m4, hl, hN, hQ, hs, hm, P, K => by
    have hi : i = 16 := by simpa using hl
    subst hi
    exact K m4 J Q hN hQ hs hm (fg_end (xs := (List.range (16 - 0)).map fun i => V.int ((0 + i : Nat) : Int)) rfl (rngN_end (Nat.le_refl _)))
  | x :: U, i, Q, J, m4, hl, hN, hQ, hs, hm, P, K => by
    simp only [List.length_cons] at hl
    have hlen := kl_len hs fun q hq => by have := ((hm q).mp hq).1; (first | lia | omega)
    obtain ⟨J1, h1, hN1, hQ1, _⟩ := lay_st (n := n) (j := 4) (t := t) (r := fun _ => 0) (s := s) (ρ := WR ti rm t s H.length (some (.int (i : Int))) m6 m7 m8 (some (.list (H.length + 17))) m10 m11 m12 m13 m14 m15) rfl rfl rfl rfl rfl rfl hN (show i < 16 by (first | lia | omega)) hQ hs (by (first | lia | omega)) hst (hdeg i (by (first | lia | omega))) hrm hrm2
    have hs1 : (if (row E i).length = 1 then lay t rm Q i else Q).Pairwise (kl t rm fun _ => 0) := by
      by_cases e : (row E i).length = 1
      · rw [if_pos e]
        exact lay_srt hs fun q hq => Or.inr ⟨rfl, ((hm q).mp hq).1⟩
      · rw [if_neg e]; exact hs
    have hm1 : ∀ p, p ∈ (if (row E i).length = 1 then lay t rm Q i else Q) ↔ p < i + 1 ∧ (row E p).length = 1 := fun p => by
      by_cases e : (row E i).length = 1
      · rw [if_pos e, mem_lay, hm]
        constructor
        · rintro (h | h)
          · subst h; exact ⟨by (first | lia | omega), e⟩
          · exact ⟨by (first | lia | omega), h.2⟩
        · intro h
          by_cases ep : p = i
          · exact Or.inl ep
          · exact Or.inr ⟨by (first | lia | omega), h.2⟩
      · rw [if_neg e, hm]
        constructor
        · intro h; exact ⟨by (first | lia | omega), h.2⟩
        · intro h
          by_cases ep : p = i
          · subst ep; exact absurd h.2 e
          · exact ⟨by (first | lia | omega), h.2⟩
    refine wait_loop (n := n) (ti := ti) (t := t) (s := s) (m6 := m6) (m7 := m7) (m8 := m8) (m10 := m10) (m11 := m11) (m12 := m12) (m13 := m13) (m14 := m14) (m15 := m15) hst hrm hrm2 hdeg U (i + 1) _ J1 (some (.int (i : Int))) (by (first | lia | omega)) hN1 hQ1 hs1 hm1 fun a4 J2 Q2 g1 g2 g3 g4 g5 => ?_
    exact K a4 J2 Q2 g1 g2 g3 g4 (fg_next rfl (rngN_at (by (first | lia | omega))) rfl (seq_of h1 r_skip) g5)

/-! _law_written: one place of the writing -/
section
variable {L : List Nat} {x : Nat}
theorem gap_below : below (L.take (below L x) ++ x :: L.drop (below L x)) x = below L x := by
  unfold below
  rw [List.filter_append, List.filter_cons, if_neg (by simp), ← List.filter_append, List.take_append_drop]
theorem gap_drop : (L.take (below L x) ++ x :: L.drop (below L x)).drop (below L x) = x :: L.drop (below L x) := by
  have h : (L.take (below L x)).length = below L x := by rw [List.length_take]; exact Nat.min_eq_left (below_le L x)
  rw [List.drop_append_of_le_length (by (first | lia | omega)), List.drop_of_length_le (by (first | lia | omega)), List.nil_append]
theorem gap_erase : (L.take (below L x) ++ x :: L.drop (below L x)).eraseIdx (below L x) = L := by
  have h : (L.take (below L x)).length = below L x := by rw [List.length_take]; exact Nat.min_eq_left (below_le L x)
  rw [List.eraseIdx_append_of_length_le (by (first | lia | omega)), h, Nat.sub_self]
  show L.take (below L x) ++ L.drop (below L x) = L
  exact List.take_append_drop ..
theorem gap_cle (hx : x ∉ L) : cLe ((L.take (below L x) ++ x :: L.drop (below L x)).map fun (x : Nat) => (x : Int)) (x : Int) = below L x + 1 := by
  have h := cLe_below hx
  unfold cLe at h ⊢
  conv at h => lhs; rw [← List.take_append_drop (below L x) L]
  rw [List.map_append, List.filter_append, List.length_append] at h
  rw [List.map_append, List.map_cons, List.filter_append, List.length_append, List.filter_cons, if_pos (by simp), List.length_cons]
  (first | lia | omega)
end
theorem exp_int {Φ : FnT} {e : Ex} {ρ : Rho} {H H' : HP} {i : Int} (h : ev Φ e ρ H = some (.int i, H')) : run Φ (.exp e) (ρ, H) = some (.next, (ρ, H')) := by
  rw [r_exp, h]; rfl
theorem pop_end {i : Nat} {v : V} {H : HP} (h : H[i]? = some [v]) (hi : i ≠ 0) : meth .pop (.list i) [] H = some (v, H.set i []) := by
  show ((H[i]?).bind fun xs => if i ≠ 0 then mtPop i xs [] H else none) = _
  rw [h, Option.bind_some, if_pos hi]; rfl
noncomputable def wrT : St := .seq (.asg 11 (.idx (.meth .pop (.var 9) (.cons (.lit (.int 0)) .nil)) (.lit (.int 1)))) (.seq (.asg 12 (.idx (.idx (.var 5) (.var 11)) (.lit (.int 0)))) (.seq (.asg 13 (.comp (.call (.lit (.fn 6)) (.cons (.bin .add (.lit (.int 256)) (.bin .mul (.bin .sub (.call (.lit (.bi .len)) (.cons (.idx (.var 5) (.var 16)) .nil)) (.lit (.int 2))) (.var 3))) .nil)) 1 false (.lst (.cons (.var 11) (.cons (.var 12) .nil))) (.lit (.bool true)))) (.seq (.ite (.or (.cmp .isn (.idx (.var 13) (.lit (.int 0))) (.lit (.bool false))) (.cmp .isn (.idx (.var 13) (.lit (.int 1))) (.lit (.bool true)))) (.seq (.ret (.lit .none)) .skip) .skip) (.seq (.asg 14 (.call (.lit (.fn 3)) (.cons (.idx (.var 5) (.var 12)) (.cons (.var 11) .nil)))) (.seq (.ite (.or (.cmp .ne (.sl (.idx (.var 5) (.var 12)) (.var 14) (.bin .add (.var 14) (.lit (.int 1))) (.lit .none)) (.lst (.cons (.var 11) .nil))) (.cmp .ne (.call (.lit (.fn 1)) (.cons (.idx (.var 5) (.var 12)) (.cons (.var 11) .nil))) (.bin .add (.var 14) (.lit (.int 1))))) (.seq (.ret (.lit .none)) .skip) .skip) (.seq (.exp (.meth .pop (.idx (.var 5) (.var 11)) .nil)) (.seq (.exp (.meth .pop (.idx (.var 5) (.var 12)) (.cons (.var 14) .nil))) (.seq (.ite (.cmp .ne (.call (.lit (.fn 1)) (.cons (.idx (.var 5) (.var 12)) (.cons (.var 11) .nil))) (.var 14)) (.seq (.ret (.lit .none)) .skip) .skip) (.seq (.asg 10 (.bin .add (.bin .mul (.lit (.int 16)) (.var 10)) (.var 12))) (.seq (layS 12) .skip))))))))))
theorem wr_turn {n ti rm l c num : Nat} {t : Bool} {s : Int} {H J : HP} {E F : List Tie} {Q1 : List Nat} {r : Nat → Nat} {m4 m6 m7 m8 m11 m12 m13 m14 m15 : Option V} (h0 : H.length ≠ 0) (hst : 1 ≤ s) (hrm : 1 ≤ rm) (hrm2 : rm ≤ 16) (hE : E.Perm (ed l c :: F)) (hn : ed l c ∉ F) (hl : l < 16) (hc : c < 16) (hcl : c ≠ l) (hFl : row F l = []) (hFc : 1 ≤ (row F c).length)
    (hN : NR H.length J E) (hQ : J[17]? = some ((l :: Q1).map (wV rm))) (hs : Q1.Pairwise (kl t rm r)) (hlen : Q1.length ≤ 50) :
    ∀ {P : Prop}, (∀ (m11' m12' m13' m14' : Option V) (J' : HP), NR H.length J' F → J'[17]? = some ((if (row F c).length = 1 then lay t rm Q1 c else Q1).map (wV rm)) →
      run (callF d01 (n + 4)) wrT (WR ti rm t s H.length m4 m6 m7 m8 (some (.list (H.length + 17))) (some (.int (num : Int))) m11 m12 m13 m14 m15, H ++ J) = some (.next, (WR ti rm t s H.length m4 m6 m7 m8 (some (.list (H.length + 17))) (some (.int ((16 * num + c : Nat) : Int))) m11' m12' m13' m14' m15, H ++ J')) → P) → P := by
  intro P K
  -- rows
  have rl : row E l = [c] := by rw [row_perm hE]; exact row_one hcl hc hn hFl
  have rc : row E c = (row F c).take (below (row F c) l) ++ l :: (row F c).drop (below (row F c) l) := by rw [row_perm hE]; exact row_more' (Ne.symm hcl) hl hn
  have hnl : l ∉ row F c := fun h => hn (by rw [ed_comm]; exact (mem_row.mp h).2)
  have hdc : (row E c).length = (row F c).length + 1 := by
    have := below_le (row F c) l
    rw [rc, List.length_append, List.length_cons, List.length_take, List.length_drop]; (first | lia | omega)
  have hF16 := row_len F c
  have hbw := below_le (row F c) l
  have hlt := lt_of_get' hQ
  -- the leaf
  have hw : (H ++ J)[H.length + 17]? = some ((l :: Q1).map (wV rm)) := by rw [getA]; exact hQ
  have hpop : meth .pop (.list (H.length + 17)) [.int 0] (H ++ J) = some (wV rm l, H ++ J.set 17 (Q1.map (wV rm))) := by
    have := pop_list (k := 0) (v := wV rm l) hw (by (first | lia | omega)) rfl (by simp; (first | lia | omega))
    rw [set_hi] at this
    exact this
  obtain ⟨J1, hJ1⟩ : ∃ J1, J1 = J.set 17 (Q1.map (wV rm)) := ⟨_, rfl⟩
  have hN1 : NR H.length J1 E := by rw [hJ1]; exact hN.set17
  have hQ1 : J1[17]? = some (Q1.map (wV rm)) := by rw [hJ1, List.getElem?_set_self hlt]
  rw [← hJ1] at hpop
  -- the neighbour
  have hinto : getI (.list (H.length + l)) (.int 0) (H ++ J1) = some (.int (c : Int)) := getI_lst0 (l := []) (by rw [near_at hN1 hl, rl]; rfl)
  -- what is told
  have hN2 : NR H.length (J1 ++ [[V.int (l : Int), V.int (c : Int)]]) E := hN1.app
  have hcomp := comp_map (Φ := callF d01 (n + 4)) (elt := .call (.lit (.fn 6)) (.cons (.bin .add (.lit (.int 256)) (.bin .mul (.bin .sub (.call (.lit (.bi .len)) (.cons (.idx (.var 5) (.var 16)) .nil)) (.lit (.int 2))) (.var 3))) .nil)) (it := .lst (.cons (.var 11) (.cons (.var 12) .nil))) (ρ := WR ti rm t s H.length m4 m6 m7 m8 (some (.list (H.length + 17))) (some (.int (num : Int))) (some (.int (l : Int))) (some (.int (c : Int))) m13 m14 m15) (H := H ++ J1) (H₁ := H ++ J1 ++ [[.int (l : Int), .int (c : Int)]]) (vs := [.int (l : Int), .int (c : Int)])
    (natV fun p => .bool (decide (2 ≤ (row E p).length))) (lst_of (es1 (var_of rfl) (es1 (var_of rfl) es0)) (by simp)) (src_list get_last (by simp)) get_last fun x hx => by
      have key : ∀ p : Nat, p < 16 → 1 ≤ (row E p).length → ev (callF d01 (n + 4)) (.call (.lit (.fn 6)) (.cons (.bin .add (.lit (.int 256)) (.bin .mul (.bin .sub (.call (.lit (.bi .len)) (.cons (.idx (.var 5) (.var 16)) .nil)) (.lit (.int 2))) (.var 3))) .nil)) (WR ti rm t s H.length m4 m6 m7 m8 (some (.list (H.length + 17))) (some (.int (num : Int))) (some (.int (l : Int))) (some (.int (c : Int))) m13 m14 m15 ++ [some (.int (p : Int))]) (H ++ J1 ++ [[.int (l : Int), .int (c : Int)]]) = some (.bool (decide (2 ≤ (row E p).length)), H ++ J1 ++ [[.int (l : Int), .int (c : Int)]]) := fun p hp hd => by
        rw [List.append_assoc]
        have ht := nont_call (Δ := d01) (n := n + 3) (k := 6) (H := H ++ (J1 ++ [[V.int (l : Int), V.int (c : Int)]])) (i := 256 + (((row E p).length : Int) - 2) * s) rfl
        rw [nont_deg hst hd] at ht
        exact fn_of (es1 (deg_ev hN2 hp rfl rfl rfl) es0) ht
      rcases List.mem_cons.mp hx with rfl | hx
      · exact key l hl (by rw [rl]; exact Nat.le_refl _)
      · rw [List.mem_singleton.mp hx]
        exact key c hc (by (first | lia | omega))
  have etold : [V.int (l : Int), V.int (c : Int)].map (natV fun p => .bool (decide (2 ≤ (row E p).length))) = [.bool false, .bool true] := by
    show [V.bool (decide (2 ≤ (row E l).length)), V.bool (decide (2 ≤ (row E c).length))] = _
    rw [rl, decide_eq_true (show 2 ≤ (row E c).length by (first | lia | omega))]; rfl
  rw [etold] at hcomp
  have eJ2 : H ++ J1 ++ [[V.int (l : Int), V.int (c : Int)]] ++ [[V.bool false, V.bool true]] = H ++ (J1 ++ [[V.int (l : Int), V.int (c : Int)], [V.bool false, V.bool true]]) := by simp
  have htold : (H ++ (J1 ++ [[V.int (l : Int), V.int (c : Int)], [V.bool false, V.bool true]]))[(H ++ J1 ++ [[V.int (l : Int), V.int (c : Int)]]).length]? = some [.bool false, .bool true] := by rw [← eJ2]; exact get_last
  rw [eJ2] at hcomp
  generalize (H ++ J1 ++ [[V.int (l : Int), V.int (c : Int)]]).length = told at hcomp htold
  obtain ⟨J2, hJ2⟩ : ∃ J2, J2 = J1 ++ [[V.int (l : Int), V.int (c : Int)], [V.bool false, V.bool true]] := ⟨_, rfl⟩
  have hN3 : NR H.length J2 E := by rw [hJ2]; exact hN1.app
  have hQ2 : J2[17]? = some (Q1.map (wV rm)) := by rw [hJ2]; exact app_get hQ1
  rw [← hJ2] at hcomp htold
  -- where the leaf lies
  have hcl16 : (row E c).length ≤ 100 := by have := row_len E c; (first | lia | omega)
  have hsp := bisL1 (n := n + 3) (near_at hN3 hc) (row_lt E c) hcl16 l
  have eb : below (row E c) l = below (row F c) l := by rw [rc]; exact gap_below
  rw [eb] at hsp
  have hsl := slV_l (lo := .int (below (row F c) l : Int)) (hi := .int ((below (row F c) l + 1 : Nat) : Int)) (near_at hN3 hc) (cut_nn (a := below (row F c) l) (b := below (row F c) l + 1)) (by rw [List.length_map]; (first | lia | omega))
  have ecut : ((iV (row E c)).drop (below (row F c) l)).take (below (row F c) l + 1 - below (row F c) l) = [V.int (l : Int)] := by
    rw [Nat.add_sub_cancel_left, ← List.map_drop, rc, gap_drop]; rfl
  rw [ecut] at hsl
  have heq : cmpV .ne (.list (H ++ J2).length) (.list (H ++ J2 ++ [[V.int (l : Int)]]).length) (H ++ J2 ++ [[V.int (l : Int)]] ++ [[V.int (l : Int)]]) = some false := by
    have := eqL_same (H := H ++ J2 ++ [[V.int (l : Int)]] ++ [[V.int (l : Int)]]) (i := (H ++ J2).length) (j := (H ++ J2 ++ [[V.int (l : Int)]]).length) (xs := [V.int (l : Int)]) (ys := [V.int (l : Int)]) (app_get get_last) get_last rfl (by simp)
    rw [eqs_one] at this
    exact cmp_ne this
  have eJ4 : H ++ J2 ++ [[V.int (l : Int)]] ++ [[V.int (l : Int)]] = H ++ (J2 ++ [[V.int (l : Int)], [V.int (l : Int)]]) := by simp
  have hlst := lst_of (Φ := callF d01 (n + 4)) (H := H ++ J2 ++ [[V.int (l : Int)]]) (ρ := WR ti rm t s H.length m4 m6 m7 m8 (some (.list (H.length + 17))) (some (.int (num : Int))) (some (.int (l : Int))) (some (.int (c : Int))) (some (.list told)) (some (.int (below (row F c) l : Int))) m15) (es1 (e := .var 11) (var_of rfl) es0) (by simp)
  rw [eJ4] at heq hlst
  obtain ⟨J4, hJ4⟩ : ∃ J4, J4 = J2 ++ [[V.int (l : Int)], [V.int (l : Int)]] := ⟨_, rfl⟩
  have hN4 : NR H.length J4 E := by rw [hJ4]; exact hN3.app
  have hQ4 : J4[17]? = some (Q1.map (wV rm)) := by rw [hJ4]; exact app_get hQ2
  rw [← hJ4] at heq hlst
  have hbr := bisR1 (n := n + 3) (near_at hN4 hc) (row_lt E c) hcl16 l
  have ecle : cLe ((row E c).map fun (x : Nat) => (x : Int)) (l : Int) = below (row F c) l + 1 := by rw [rc]; exact gap_cle hnl
  rw [ecle] at hbr
  -- both go
  have hp1 := pop_end (v := .int (c : Int)) (by rw [near_at hN4 hl, rl]; rfl) (show H.length + l ≠ 0 by (first | lia | omega))
  rw [set_hi] at hp1
  have hJ4len := hN4.len
  have hc5 : (H ++ J4.set l [])[H.length + c]? = some (iV (row E c)) := by
    rw [getA, List.getElem?_set_ne (Ne.symm hcl)]; exact hN4.row c hc
  have hp2 := pop_list (k := below (row F c) l) (v := .int (l : Int)) hc5 (by (first | lia | omega)) (by
    have := congrArg (·[0]?) (gap_drop (L := row F c) (x := l))
    rw [← rc] at this
    simp only [List.getElem?_drop, Nat.add_zero] at this
    rw [List.getElem?_map, this]; rfl) (by rw [List.length_map]; (first | lia | omega))
  rw [erase_map, rc, gap_erase, set_hi] at hp2
  have hg5 : getI (.list (H.length + 16)) (.int (c : Int)) (H ++ J4.set l []) = some (.list (H.length + c)) := by
    refine getI_at (xs := (List.range 16).map fun p => V.list (H.length + p)) (by rw [getA, List.getElem?_set_ne (by (first | lia | omega))]; exact hN4.lst) (by (first | lia | omega)) ?_
    rw [List.getElem?_map, List.getElem?_range hc]; rfl
  have hN6 : NR H.length ((J4.set l []).set c (iV (row F c))) F := by
    have := hN4.two (F := F) hl hc (Ne.symm hcl) fun p h1 h2 => by rw [row_perm hE, row_else h1 h2]
    rw [hFl] at this
    exact this
  have hQ6 : ((J4.set l []).set c (iV (row F c)))[17]? = some (Q1.map (wV rm)) := by
    rw [List.getElem?_set_ne (by (first | lia | omega)), List.getElem?_set_ne (by (first | lia | omega))]; exact hQ4
  obtain ⟨J6, hJ6⟩ : ∃ J6, J6 = (J4.set l []).set c (iV (row F c)) := ⟨_, rfl⟩
  rw [← hJ6] at hN6 hQ6 hp2
  have hbr2 := bisR1 (n := n + 3) (near_at hN6 hc) (row_lt F c) (by (first | lia | omega)) l
  rw [cLe_below hnl] at hbr2
  have hnum : binI .mul 16 (num : Int) = some (16 * (num : Int)) := mul_s (by decide)
  obtain ⟨J7, h7, hN7, hQ7, _⟩ := lay_st (n := n) (j := 12) (t := t) (r := r) (s := s) (ρ := WR ti rm t s H.length m4 m6 m7 m8 (some (.list (H.length + 17))) (some (.int ((16 * num + c : Nat) : Int))) (some (.int (l : Int))) (some (.int (c : Int))) (some (.list told)) (some (.int (below (row F c) l : Int))) m15) rfl rfl rfl rfl rfl rfl hN6 hc hQ6 hs (by (first | lia | omega)) hst hFc hrm hrm2
  refine K (some (.int (l : Int))) (some (.int (c : Int))) (some (.list told)) (some (.int (below (row F c) l : Int))) J7 hN7 hQ7 ?_
  refine seq_of (asg_of (idx_of (meth_of (var_of rfl) (es1 e_lit es0) hpop) e_lit getI_tup1)) ?_
  refine seq_of (asg_of (idx_of (near_ev hN1 hl rfl rfl) e_lit hinto)) ?_
  refine seq_of (asg_of hcomp) ?_
  refine seq_of (ite_f (or_ff (cmp_of (idx_of (var_of rfl) e_lit (getI_lst0 htold)) e_lit (t := false) isn_bb) (cmp_of (idx_of (var_of rfl) e_lit (getI_lst1 htold)) e_lit (t := false) isn_bb)) r_skip) ?_
  refine seq_of (asg_of (fn_of (es1 (near_ev hN3 hc rfl rfl) (es1 (var_of rfl) es0)) hsp)) ?_
  refine seq_of (ite_f (or_ff (cmp_of (sl_of (near_ev hN3 hc rfl rfl) (var_of rfl) (int_of (var_of rfl) e_lit rfl) e_lit hsl) hlst heq) (cmp_of (t := false) (fn_of (es1 (near_ev hN4 hc rfl rfl) (es1 (var_of rfl) es0)) hbr) (int_of (var_of rfl) e_lit rfl) ?_)) r_skip) ?_
  · rw [ne_ii]
    exact congrArg some (by rw [Bool.not_eq_false']; exact beq_iff_eq.mpr rfl)
  refine seq_of (exp_int (meth_of (near_ev hN4 hl rfl rfl) es0 hp1)) ?_
  refine seq_of (exp_int (meth_of (idx_of (var_of rfl) (var_of rfl) hg5) (es1 (var_of rfl) es0) hp2)) ?_
  refine seq_of (ite_f (evB_of' (cmp_of (t := false) (fn_of (es1 (near_ev hN6 hc rfl rfl) (es1 (var_of rfl) es0)) hbr2) (var_of rfl) ?_) rfl) r_skip) ?_
  · rw [ne_ii, beq_self_eq_true]; rfl
  exact seq_of (asg_of (int_of (int_of e_lit (var_of rfl) hnum) (var_of rfl) rfl)) (seq_of h7 r_skip)

/-! _law_written: the loop of the writing -/
theorem write_loop {n ti rm : Nat} {t : Bool} {s : Int} {H : HP} {m4 m7 m8 m15 : Option V} (h0 : H.length ≠ 0) (hst : 1 ≤ s) (hrm : 1 ≤ rm) (hrm2 : rm ≤ 16) : ∀ (k i : Nat) (r : Nat → Nat) (S : List Nat) (z : List Tie) (Q : List Nat) (J : HP) (num : Nat) (m6 m11 m12 m13 m14 : Option V), k + i = 14 → S.length = k + 2 → Wst t rm i r S z Q → NR H.length J (edg S z) → J[17]? = some (Q.map (wV rm)) →
    ∀ {P : Prop}, (∀ (zz : List Tie) (S' Q' : List Nat) (J' : HP) (m6' m11' m12' m13' m14' : Option V), Sch S zz → (edg S zz).Perm (edg S z) → Grd t rm i r S zz → S'.length = 2 → Pts S' → NR H.length J' (edg S' []) → (∀ p, p ∈ Q' ↔ p ∈ S') → Q'.length ≤ 16 → J'[17]? = some (Q'.map (wV rm)) →
      forGo [6] false (fun σ => run (callF d01 (n + 4)) wrT σ) (.fixed ((List.range (14 - 0)).map fun i => V.int ((0 + i : Nat) : Int))) (k + 1) i (WR ti rm t s H.length m4 m6 m7 m8 (some (.list (H.length + 17))) (some (.int (num : Int))) m11 m12 m13 m14 m15, H ++ J) =
        some (.next, (WR ti rm t s H.length m4 m6' m7 m8 (some (.list (H.length + 17))) (some (.int (((cod zz).foldl (fun v d => 16 * v + d) num : Nat) : Int))) m11' m12' m13' m14' m15, H ++ J')) → P) → P
  | 0, i, r, S, z, Q, J, num, m6, m11, m12, m13, m14, hk, hS, w, hN, hQ, P, K => by
    have hz : z = [] := List.eq_nil_of_length_eq_zero (by have := sch_len w.sch; (first | lia | omega))
    subst hz
    have hl := kl_len w.srt fun q hq => w.pts.small q ((w.mem q).mp hq).1
    refine K [] S Q J m6 m11 m12 m13 m14 w.sch (.refl _) trivial hS w.pts hN (fun p => ⟨fun h => ((w.mem p).mp h).1, fun h => (w.mem p).mpr ⟨h, by simp⟩⟩) hl hQ ?_
    exact fg_end (xs := (List.range (14 - 0)).map fun i => V.int ((0 + i : Nat) : Int)) rfl (rngN_end (by (first | lia | omega)))
  | k + 1, i, r, S, z, Q, J, num, m6, m11, m12, m13, m14, hk, hS, w, hN, hQ, P, K => by
    obtain ⟨l, Q1, c, z', hQl, hlS, hcS, hcl, hlz, hp, _, _, w'⟩ := wst_step w (by (first | lia | omega))
    have hl16 := w.pts.small l hlS
    have hc16 := w.pts.small c hcS
    have n1 : l ∉ S.erase l := fun h => ((w.pts.mem).mp h).1 rfl
    have hc' : c ∈ S.erase l := (w.pts.mem).mpr ⟨hcl, hcS⟩
    have hlen := kl_len w.srt fun q hq => w.pts.small q ((w.mem q).mp hq).1
    have hsrt := w.srt
    rw [hQl] at hsrt hQ hlen
    simp only [List.length_cons] at hlen
    refine wr_turn (n := n) (ti := ti) (t := t) (s := s) (num := num) (m4 := m4) (m6 := some (.int (i : Int))) (m7 := m7) (m8 := m8) (m11 := m11) (m12 := m12) (m13 := m13) (m14 := m14) (m15 := m15) h0 hst hrm hrm2 hp (new_tie w.pts w'.sch) hl16 hc16 hcl (row_out w'.sch w'.pts n1) (by rw [deg_sch w'.sch w'.pts hc']; (first | lia | omega)) hN hQ (List.pairwise_cons.mp hsrt).2 (by (first | lia | omega)) fun b11 b12 b13 b14 J1 hN1 hQ1 h1 => ?_
    have hSl := Pts.len hlS
    refine write_loop (n := n) (ti := ti) (m4 := m4) (m7 := m7) (m8 := m8) (m15 := m15) h0 hst hrm hrm2 k (i + 1) (upd r c (i + 1)) (S.erase l) z' _ J1 (16 * num + c) (some (.int (i : Int))) b11 b12 b13 b14 (by (first | lia | omega)) (by (first | lia | omega)) w' hN1 hQ1 fun zz S' Q' J' c6 c11 c12 c13 c14 g1 g2 g3 g4 g5 g6 g7 g8 g9 g10 => ?_
    obtain ⟨f1, f2, f3⟩ := wst_glue w hQl hlS hcS hcl hp g1 g2 g3
    exact K ((l, c) :: zz) S' Q' J' c6 c11 c12 c13 c14 f1 f2 f3 g4 g5 g6 g7 g8 g9 (fg_next rfl (rngN_at (by (first | lia | omega))) rfl h1 g10)

/-! _law_written: those that are left -/
noncomputable def sndV (v : V) : V := match v with
  | .tup [_, x] => x
  | _ => .none
theorem rest_ev {Φ : FnT} {rm a : Nat} {Q : List Nat} {ρ : Rho} {H : HP} (h9 : ρ[9]? = some (some (.list a))) (hlen : ρ.length = 16) (h : H[a]? = some (Q.map (wV rm))) (hl : Q.length ≤ 100) : ev Φ (.comp (.var 17) 2 true (.var 9) (.lit (.bool true))) ρ H = some (.list H.length, H ++ [iV Q]) := by
  have := comp_ev (Φ := Φ) (elt := .var 17) (nt := 2) (tp := true) (cond := .lit (.bool true)) (ρ := ρ) (fun v => some (sndV v)) (var_of h9) (src_list h (by simp; (first | lia | omega))) h fun x hx => by
    obtain ⟨q, _, rfl⟩ := List.mem_map.mp hx
    have hv : ∀ K, ev Φ (.var 17) (ρ ++ [some (.int ((q / rm : Nat) : Int)), some (.int (q : Int))]) K = some (.int (q : Int), K) := fun K => var_of (by rw [List.getElem?_append_right (by (first | lia | omega)), hlen]; rfl)
    show (ev Φ (.lit (.bool true)) (ρ ++ [some (.int ((q / rm : Nat) : Int)), some (.int (q : Int))]) H).bind (fun c => (tr c.1).bind fun t => cond t ((ev Φ (.var 17) (ρ ++ [some (.int ((q / rm : Nat) : Int)), some (.int (q : Int))]) c.2).map fun y => (some y.1, y.2)) (some (none, c.2))) = _
    rw [e_lit, Option.bind_some]
    show (ev Φ (.var 17) (ρ ++ [some (.int ((q / rm : Nat) : Int)), some (.int (q : Int))]) H).map (fun y => (some y.1, y.2)) = _
    rw [hv]; rfl
  rw [this]
  congr 4
  clear this h hl
  induction Q with
  | nil => rfl
  | cons q Q ih => exact congrArg (V.int (q : Int) :: ·) ih
noncomputable def wrE : St := .seq (.ite (.cmp .isn (.call (.lit (.fn 7)) (.cons (.bin .mul (.bin .mul (.var 2) (.var 3)) (.call (.lit (.bi .len)) (.cons (.idx (.var 5) (.var 4)) .nil))) .nil)) (.cmp .nin (.var 4) (.var 15))) (.seq (.ret (.lit .none)) .skip) .skip) .skip
theorem mul_s' {a b : Int} (h : b.natAbs < 2 ^ 64) : binI .mul a b = some (a * b) := by
  have : small b = true := decide_eq_true h
  show (if (small a || small b || (mid a && mid b)) = true then some (a * b) else none) = _
  rw [this, Bool.or_true, Bool.true_or, if_pos rfl]
theorem end_turn {n ti rm a p : Nat} {t : Bool} {s : Int} {H J : HP} {S Q : List Nat} {m6 m7 m8 m9 m10 m11 m12 m13 m14 : Option V} (hst : 1 ≤ s) (hS2 : S.length = 2) (hS : Pts S) (hN : NR H.length J (edg S [])) (hQ : ∀ p, p ∈ Q ↔ p ∈ S) (ha : (H ++ J)[a]? = some (iV Q)) (hp : p < 16) :
    run (callF d01 (n + 4)) wrE (WR ti rm t s H.length (some (.int (p : Int))) m6 m7 m8 m9 m10 m11 m12 m13 m14 (some (.list a)), H ++ J) = some (.next, (WR ti rm t s H.length (some (.int (p : Int))) m6 m7 m8 m9 m10 m11 m12 m13 m14 (some (.list a)), H ++ J)) := by
  have h16 := row_len (edg S []) p
  have he := eof_call (Δ := d01) (n := n + 3) (k := 7) (H := H ++ J) (i := trn t * s * ((row (edg S []) p).length : Int)) rfl
  have hin : cmpV .nin (.int (p : Int)) (.list a) (H ++ J) = some (!Q.contains p) := by
    show (((H ++ J)[a]?).bind fun ys => (intsOf ys).map fun is => is.contains (p : Int)).map (fun b => !b) = _
    rw [ha, Option.bind_some, ints_iV, Option.map_some, Option.map_some, has_iV]
  have hb : (trn t * s * ((row (edg S []) p).length : Int) == 0) = !Q.contains p := by
    by_cases e : p ∈ S
    · have hd := deg_sch (z := []) (S := S) hS2 hS e
      have h1 : Q.contains p = true := by simpa using (hQ p).mpr e
      rw [h1, hd, Bool.not_true, beq_eq_false_iff_ne]
      intro h
      rcases Int.mul_eq_zero.mp h with h | h
      · rcases Int.mul_eq_zero.mp h with h | h
        · cases t <;> simp [trn] at h
        · (first | lia | omega)
      · (first | lia | omega)
    · have h1 : Q.contains p = false := by
        cases hb : Q.contains p with
        | false => rfl
        | true => exact absurd ((hQ p).mp (by simpa using hb)) e
      rw [h1, row_out (z := []) hS2 hS e]
      simp
  rw [hb] at he
  have hm1 : binI .mul (trn t) s = some (trn t * s) := trn_mul t s
  exact seq_of (ite_f (evB_of' (cmp_of (t := false) (fn_of (es1 (int_of (int_of (var_of rfl) (var_of rfl) hm1) (bi_of (es1 (near_ev hN hp rfl rfl) es0) (near_len hN hp)) (mul_s' (by (first | lia | omega)))) es0) he) (cmp_of (var_of rfl) (var_of rfl) hin) (by rw [isn_bb, beq_self_eq_true]; rfl)) rfl) r_skip) r_skip
theorem end_loop {n ti rm a : Nat} {t : Bool} {s : Int} {H J : HP} {S Q : List Nat} {m6 m7 m8 m9 m10 m11 m12 m13 m14 : Option V} (hst : 1 ≤ s) (hS2 : S.length = 2) (hS : Pts S) (hN : NR H.length J (edg S [])) (hQ : ∀ p, p ∈ Q ↔ p ∈ S) (ha : (H ++ J)[a]? = some (iV Q)) : ∀ (k i : Nat) (m4 : Option V), k + i = 16 →
    ∃ m4', forGo [4] false (fun σ => run (callF d01 (n + 4)) wrE σ) (.fixed ((List.range (16 - 0)).map fun i => V.int ((0 + i : Nat) : Int))) (k + 1) i (WR ti rm t s H.length m4 m6 m7 m8 m9 m10 m11 m12 m13 m14 (some (.list a)), H ++ J) = some (.next, (WR ti rm t s H.length m4' m6 m7 m8 m9 m10 m11 m12 m13 m14 (some (.list a)), H ++ J))
  | 0, i, m4, hk => ⟨m4, fg_end (xs := (List.range (16 - 0)).map fun i => V.int ((0 + i : Nat) : Int)) rfl (rngN_end (by (first | lia | omega)))⟩
  | k + 1, i, m4, hk => by
    have h1 := end_turn (n := n) (ti := ti) (rm := rm) (t := t) (m6 := m6) (m7 := m7) (m8 := m8) (m9 := m9) (m10 := m10) (m11 := m11) (m12 := m12) (m13 := m13) (m14 := m14) hst hS2 hS hN hQ ha (show i < 16 by (first | lia | omega))
    obtain ⟨a4, h2⟩ := end_loop (n := n) (ti := ti) (rm := rm) (t := t) (m6 := m6) (m7 := m7) (m8 := m8) (m9 := m9) (m10 := m10) (m11 := m11) (m12 := m12) (m13 := m13) (m14 := m14) hst hS2 hS hN hQ ha k (i + 1) (some (.int (i : Int))) (by (first | lia | omega))
    exact ⟨a4, fg_next rfl (rngN_at (by (first | lia | omega))) rfl h1 h2⟩

theorem written_call {n ti rm : Nat} {s : Int} {H : HP} {z : List Tie} (t : Bool) (h0 : H.length ≠ 0) (hst : 1 ≤ s) (hrm : 1 ≤ rm) (hrm2 : rm ≤ 16) (hz : Sch (List.range 16) z) (ht : H[ti]? = some (tiesV (edg (List.range 16) z))) :
    ∃ (zz : List Tie) (J : HP), Sch (List.range 16) zz ∧ (edg (List.range 16) zz).Perm (edg (List.range 16) z) ∧ Grd t rm 0 (fun _ => 0) (List.range 16) zz ∧ callF d01 (n + 5) 13 [.list ti, .int (rm : Int), .int (trn t), .int s] none H = some (.int (dval (cod zz) : Int), H ++ J) := by
  have hzl : z.length = 14 := by have := sch_len hz; rw [List.length_range] at this; (first | lia | omega)
  obtain ⟨T, hT, hTv⟩ := ties_list (edg (List.range 16) z)
  rw [hTv] at ht
  have hT15 : T.length = 15 := by rw [hT.length_eq, edg_len, hzl]
  have hTs : ∀ e ∈ T, e.1 < e.2 ∧ e.2 < 16 := fun e he => edg_small hz pts16 (hT.mem_iff.mp he)
  have hring := ring_perm hT15
  have hnd := hring.nodup_iff.mpr (hT.nodup_iff.mpr (edg_nd hz pts16))
  -- the rows
  obtain ⟨J0, n1, n2, n3⟩ := near_comp (Φ := callF d01 (n + 4)) (ρ := [some (.list ti), some (.int (rm : Int)), some (.int (trn t)), some (.int s), none, none, none, none, none, none, none, none, none, none, none, none]) (H := H)
  refine near_loop (n := n + 2) (rm := rm) (t := t) (s := s) (m4 := none) (m9 := none) (m10 := none) (m11 := none) (m12 := none) (m13 := none) (m14 := none) (m15 := none) ht h0 hT15 hTs (List.range 15) 0 [] J0 none none none rfl rfl n2 n3 (by rw [List.append_nil]; exact hnd) fun a6 a7 a8 J1 F f1 f2 f3 f4 => ?_
  rw [List.append_nil] at f1
  have hN := f2.perm ((f1.trans hring).trans hT)
  -- those that wait
  have hdeg : ∀ p, p < 16 → 1 ≤ (row (edg (List.range 16) z) p).length := fun p hp => by rw [deg_sch hz pts16 (List.mem_range.mpr hp)]; (first | lia | omega)
  refine wait_loop (n := n) (ti := ti) (t := t) (s := s) (m6 := a6) (m7 := a7) (m8 := a8) (m10 := none) (m11 := none) (m12 := none) (m13 := none) (m14 := none) (m15 := none) hst hrm hrm2 hdeg (List.range 16) 0 [] (J1 ++ [[]]) none rfl hN.app (by rw [← f3]; exact get_last) List.Pairwise.nil (fun p => ⟨fun h => (nomatch h), fun h => absurd h.1 (Nat.not_lt_zero p)⟩) fun b4 J2 Q q1 q2 q3 q4 q5 => ?_
  -- the places
  have w : Wst t rm 0 (fun _ => 0) (List.range 16) z Q := ⟨hz, pts16, fun p => by
    rw [q4, List.mem_range]
    constructor
    · intro h; exact ⟨h.1, (leaf_iff hz pts16 (List.mem_range.mpr h.1)).mp h.2⟩
    · intro h; exact ⟨h.1, (leaf_iff hz pts16 (List.mem_range.mpr h.1)).mpr h.2⟩, q3, fun _ => Nat.le_refl _⟩
  refine write_loop (n := n) (ti := ti) (m4 := b4) (m7 := a7) (m8 := a8) (m15 := none) h0 hst hrm hrm2 14 0 (fun _ => 0) (List.range 16) z Q J2 0 a6 none none none none rfl rfl w q1 q2 fun zz S' Q' J3 c6 c11 c12 c13 c14 g1 g2 g3 g4 g5 g6 g7 g8 g9 g10 => ?_
  -- those that are left
  have hw : (H ++ J3)[H.length + 17]? = some (Q'.map (wV rm)) := by rw [getA]; exact g9
  have hrest := rest_ev (Φ := callF d01 (n + 4)) (ρ := WR ti rm t s H.length b4 c6 a7 a8 (some (.list (H.length + 17))) (some (.int ((dval (cod zz) : Nat) : Int))) c11 c12 c13 c14 none) rfl rfl hw (by (first | lia | omega))
  have hend : (H ++ (J3 ++ [iV Q']))[(H ++ J3).length]? = some (iV Q') := by rw [← List.append_assoc]; exact get_last
  obtain ⟨d4, h5⟩ := end_loop (n := n) (ti := ti) (rm := rm) (t := t) (m6 := c6) (m7 := a7) (m8 := a8) (m9 := some (.list (H.length + 17))) (m10 := some (.int ((dval (cod zz) : Nat) : Int))) (m11 := c11) (m12 := c12) (m13 := c13) (m14 := c14) hst g4 g5 (g6.app (K := [iV Q'])) g7 hend 16 0 b4 rfl
  refine ⟨zz, J3 ++ [iV Q'], g1, g2, g3, ?_⟩
  refine call_of (ρ' := WR ti rm t s H.length d4 c6 a7 a8 (some (.list (H.length + 17))) (some (.int ((dval (cod zz) : Nat) : Int))) c11 c12 c13 c14 (some (.list (H ++ J3).length))) (show d01 13 = some f01__law_written from rfl) rfl ?_
  refine seq_of (asg_of n1) ?_
  refine seq_of (fr_of (rng_ev (n := 15) rfl (by (first | lia | omega))) (rng_src 0 15 _ (by (first | lia | omega)) (by (first | lia | omega))) rfl f4) ?_
  have e9 : (H ++ J1).length = H.length + 17 := by rw [List.length_append, f3]
  have hl9 := lst_of (Φ := callF d01 (n + 4)) (H := H ++ J1) (ρ := WR ti rm t s H.length none a6 a7 a8 none none none none none none none) (es0) (by simp)
  rw [e9, List.append_assoc] at hl9
  refine seq_of (asg_of hl9) ?_
  refine seq_of (fr_of (rng_ev (n := 16) rfl (by (first | lia | omega))) (rng_src 0 16 _ (by (first | lia | omega)) (by (first | lia | omega))) rfl q5) ?_
  refine seq_of (asg_of e_lit) ?_
  refine seq_of (fr_of (rng_ev (n := 14) rfl (by (first | lia | omega))) (rng_src 0 14 _ (by (first | lia | omega)) (by (first | lia | omega))) rfl g10) ?_
  rw [List.append_assoc] at hrest
  refine seq_of (asg_of hrest) ?_
  refine seq_of (fr_of (rng_ev (n := 16) rfl (by (first | lia | omega))) (rng_src 0 16 _ (by (first | lia | omega)) (by (first | lia | omega))) rfl h5) ?_
  exact seq_ret (ret_of (var_of rfl))

theorem ex_seq1 {Φ : FnT} {a b : St} {σ σ' : Cfg} (h1 : run Φ a σ = some (.next, σ')) (h2 : ∃ τ, run Φ b σ' = some (.ret (.bool true), τ)) : ∃ τ, run Φ (.seq a b) σ = some (.ret (.bool true), τ) := by
  obtain ⟨τ, h⟩ := h2
  exact ⟨τ, seq_of h1 h⟩
theorem code_of : ∀ (k n : Nat), n < 16 ^ k → ∃ R : List Nat, R.length = k ∧ (∀ x ∈ R, x < 16) ∧ dval R = n
  | 0, n, h => ⟨[], rfl, (fun _ h => nomatch h), (show 0 = n by (first | lia | omega))⟩
  | k + 1, n, h => by
    rw [Nat.pow_succ] at h
    obtain ⟨R, h1, h2, h3⟩ := code_of k (n / 16) (by (first | lia | omega))
    refine ⟨R ++ [n % 16], by rw [List.length_append, h1]; rfl, fun x hx => ?_, by rw [dval_snoc, h3]; (first | lia | omega)⟩
    rcases List.mem_append.mp hx with h | h
    · exact h2 x h
    · rw [List.mem_singleton.mp h]; (first | lia | omega)
theorem law01_run (xs : List Int) (hx : xs.length ≤ 63) : ∃ σ : Cfg, run (callF d01 11) f01_law.body (some (.list 0) :: List.replicate 8 none, [xs.map .int]) = some (.ret (.bool true), σ) := by
  obtain ⟨c0, c1, hcell⟩ := cells_call (n := 10) (X := xs) hx
  generalize hX : xs.map V.int = X at *
  obtain ⟨N, hN, hNlt⟩ : ∃ N : Nat, c0 % (72057594037927936 : Int) = (N : Int) ∧ N < 72057594037927936 := ⟨(c0 % 72057594037927936).toNat, by (first | lia | omega), by (first | lia | omega)⟩
  obtain ⟨rm, hrm, hrm1, hrm2⟩ : ∃ rm : Nat, 1 + c1 % 16 = (rm : Int) ∧ 1 ≤ rm ∧ rm ≤ 16 := ⟨(1 + c1 % 16).toNat, by (first | lia | omega), by (first | lia | omega), by (first | lia | omega)⟩
  obtain ⟨s, hs, hs1⟩ : ∃ s : Int, 1 + ((c1 / 16).natAbs : Int) = s ∧ 1 ≤ s := ⟨_, rfl, by (first | lia | omega)⟩
  obtain ⟨R, hRl, hR16, hRd⟩ := code_of 14 N (Nat.lt_of_lt_of_le hNlt (by decide))
  have hpow : binI .pow 16 14 = some (72057594037927936 : Int) := by
    show (if (decide ((16 : Int).natAbs < 2 ^ 20) && decide ((0 : Int) ≤ 14) && decide ((14 : Int) ≤ 64)) = true then some ((16 : Int) ^ (14 : Int).toNat) else none) = _
    rw [if_pos (by decide)]
    exact congrArg some (by decide)
  have hmod : binI .mod c0 72057594037927936 = some (N : Int) := by rw [← hN]; exact mod_p (by decide)
  -- the heaps
  generalize hH1 : ([X, [.int c0, .int c1]] : HP) = H1 at *
  have g1 : H1[1]? = some [.int c0, .int c1] := by rw [← hH1]; rfl
  obtain ⟨X', Y, Z, hlet⟩ := letters_call (n := 9) (H := H1) (i := (N : Int)) (R := R) (by rw [hRd]; rfl) hRl hR16
  generalize hH2 : H1 ++ [X', Y, Z, iV R] = H2 at *
  have r2 : H2[H1.length + 3]? = some (iV R) := by rw [← hH2, getA]; rfl
  have z2 : H2.length ≠ 0 := by rw [← hH2]; simp
  obtain ⟨zz, J3, a1, a2, a3, hread⟩ := read_call (n := 10) (rm := rm) true r2 hR16 hRl hrm1 hrm2 z2
  generalize hH3 : H2 ++ J3 ++ [tiesV (edg (List.range 16) zz)] = H3 at *
  generalize hti : (H2 ++ J3).length = ti at *
  have t3 : H3[ti]? = some (tiesV (edg (List.range 16) zz)) := by rw [← hH3, ← hti]; exact get_last
  have z3 : H3.length ≠ 0 := by rw [← hH3]; simp
  -- written
  obtain ⟨z1, J4, b1, b2, b3, hwr⟩ := written_call (n := 6) (s := s) true z3 hs1 hrm1 hrm2 a1 t3
  have e1 : z1 = zz := grd_ties pts16 b1 a1 b3 a2 b2
  rw [e1, a3, hRd] at hwr
  generalize hH4 : H3 ++ J4 = H4 at *
  have t4 : H4[ti]? = some (tiesV (edg (List.range 16) zz)) := by rw [← hH4]; exact app_get t3
  have z4 : H4.length ≠ 0 := by rw [← hH4, List.length_append]; (first | lia | omega)
  obtain ⟨y, J5, d1, d2, d3, hwr2⟩ := written_call (n := 6) (s := s) false z4 hs1 hrm1 hrm2 a1 t4
  generalize hH5 : H4 ++ J5 = H5 at *
  have t5 : H5[ti]? = some (tiesV (edg (List.range 16) zz)) := by rw [← hH5]; exact app_get t4
  have hyl : (cod y).length = 14 := by have := sch_len d1; rw [List.length_range] at this; rw [List.length_map]; (first | lia | omega)
  have hy16 : ∀ x ∈ cod y, x < 16 := fun x h => List.mem_range.mp (cod_in d1 x h)
  -- read again
  obtain ⟨X2, Y2, Z2, hlet2⟩ := letters_call (n := 9) (H := H5) (i := -(dval (cod y) : Int)) (R := cod y) (by (first | lia | omega)) hyl hy16
  generalize hH6 : H5 ++ [X2, Y2, Z2, iV (cod y)] = H6 at *
  have r6 : H6[H5.length + 3]? = some (iV (cod y)) := by rw [← hH6, getA]; rfl
  have t6 : H6[ti]? = some (tiesV (edg (List.range 16) zz)) := by rw [← hH6]; exact app_get t5
  have z6 : H6.length ≠ 0 := by rw [← hH6]; simp
  obtain ⟨y2, J7, k1, k2, k3, hread2⟩ := read_call (n := 10) (rm := rm) false r6 hy16 hyl hrm1 hrm2 z6
  have e2 : y2 = y := grd_code k1 d1 k2 d3 k3
  subst e2
  rw [ties_perm d1 a1 pts16 d2] at hread2
  have hlt := lt_of_get' t6
  have heq : eqV (H6 ++ J7 ++ [tiesV (edg (List.range 16) zz)]) (.list (H6 ++ J7).length) (.list ti) = some true := by
    rw [eqL_same (xs := tiesV (edg (List.range 16) zz)) (ys := tiesV (edg (List.range 16) zz)) get_last (app_get (app_get t6)) rfl (by rw [List.length_append]; (first | lia | omega))]
    obtain ⟨T, _, hT⟩ := ties_list (edg (List.range 16) zz)
    rw [hT]
    refine eqs_of fun x hx => ?_
    obtain ⟨e, _, rfl⟩ := List.mem_map.mp hx
    refine eq1_tup fun v hv => ?_
    rcases List.mem_cons.mp hv with rfl | hv
    · exact eq0_int
    · rw [List.mem_singleton.mp hv]; exact eq0_int
  unfold f01_law
  refine ex_seq1 (asg_of (fn_of (es1 (var_of rfl) es0) hcell)) ?_
  refine ex_seq1 (asg_of (int_of (idx_of (var_of rfl) e_lit (getI_lst0 g1)) (int_of e_lit e_lit hpow) hmod)) ?_
  refine ex_seq1 (asg_of (int_of e_lit (int_of (idx_of (var_of rfl) e_lit (getI_lst1 g1)) e_lit (mod_p (by decide))) (congrArg some hrm))) ?_
  refine ex_seq1 (asg_of (int_of e_lit (bi_of (es1 (int_of (idx_of (var_of rfl) e_lit (getI_lst1 g1)) e_lit (div_p (by decide) (by decide))) es0) abs_i) (congrArg some hs))) ?_
  refine ex_seq1 (asg_of (fn_of (es1 (var_of rfl) es0) hlet)) ?_
  refine ex_seq1 (ite_f (evB_of' (cmp_of (var_of rfl) e_lit (t := false) rfl) rfl) r_skip) ?_
  refine ex_seq1 (asg_of (fn_of (es1 (var_of rfl) (es1 (var_of rfl) (es1 e_lit es0))) hread)) ?_
  refine ex_seq1 (ite_f (evB_of' (cmp_of (t := false) (fn_of (es1 (var_of rfl) (es1 (var_of rfl) (es1 e_lit (es1 (var_of rfl) es0)))) hwr) (var_of rfl) (by rw [ne_ii, beq_self_eq_true]; rfl)) rfl) r_skip) ?_
  refine ex_seq1 (asg_of (fn_of (es1 (var_of rfl) (es1 (var_of rfl) (es1 (neg_of e_lit) (es1 (var_of rfl) es0)))) hwr2)) ?_
  refine ex_seq1 (ite_f (evB_of' (cmp_of (var_of rfl) e_lit (t := false) rfl) rfl) r_skip) ?_
  refine ex_seq1 (asg_of (fn_of (es1 (neg_of (var_of rfl)) es0) hlet2)) ?_
  exact ⟨_, seq_ret (ret_of (and_t (cmp_of (var_of rfl) e_lit (t := true) rfl) rfl (cmp_of (fn_of (es1 (var_of rfl) (es1 (var_of rfl) (es1 (neg_of e_lit) es0))) hread2) (var_of rfl) heq)))⟩
end Mp

theorem PySem.Challenge.cw_ul0001_01_holds : PySem.Challenge.rw_ul0001_01.Holds := by
  exact Mp.main01 Mp.law01_run
