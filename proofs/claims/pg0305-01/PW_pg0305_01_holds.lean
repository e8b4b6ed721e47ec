import PyProof.Rows.All
import Wide.All
import OpenK.AllK
import Wide.FinOn
import PySem.Challenge.RW_pg0305_01
open PySem PySem.W PyProof.Rows PySem.Challenge
set_option Elab.async false
set_option maxRecDepth 100000
set_option maxHeartbeats 8000000
set_option linter.all false
set_option compiler.extract_closed false
set_option genInjectivity false
set_option genSizeOf false
namespace Mine
def TeK {α β : Type} (_ : α) (_ : β) : Prop := True
theorem TeK.self {α : Type} (a : α) : TeK a a := trivial
theorem teL {s : Str} (cs : List Char) (ns : List Nat) (h : List.map Char.toNat cs = ns) (e : Str.ofString (String.ofList cs) = s) : s = ⟨⟨ns⟩⟩ := by
 subst h; rw [← e]; exact PySem.W.Fast.ofString_ofList cs
theorem teN : List.map Char.toNat [] = [] := rfl
theorem teS {n : Nat} {cs : List Char} {ns : List Nat} (h : List.map Char.toNat cs = ns) (e : (Char.ofNat n).toNat = n) : List.map Char.toNat (Char.ofNat n :: cs) = n :: ns := by rw [List.map_cons, h, e]
noncomputable def te0.tw18120723118411603040 : Program := by
 refine (?f : ∀ {b : Program}, TeK pw_pg0305_01 b → Program) (b := ?b) ?pr
 case f => exact fun {b} _ => b
 case pr =>
   delta pw_pg0305_01
   iterate 218 (generalize h : Str.ofString _ = x; replace h := teL _ _ (by (repeat (refine' teS ?_ (by rfl); rotate_left)); exact teN) h; subst h)
   exact TeK.self _
theorem te0.te18120723118411603040 : pw_pg0305_01 = te0.tw18120723118411603040 := by kernel_rfl
set_option Elab.async true in
theorem te0 : (!(pw_pg0305_01.main.body.isEmpty)) = true := by k_qdec
theorem te1 : True := trivial
open_top hd for rw_pg0305_01
abbrev Led := List (Addr × Obj)
noncomputable abbrev KK (w : World) : Frag := hd.heap_39 w.params
structure Site (w : World) (A₀ : Around) (base h₀ : Heap) (outer : List Env) (cs : Scope) (L : Addr) (m : Str → Option Value) (news : Led) (s : Shared) (dp un d u : Nat)
   (p : Program) (loose : List Str) (mean : ExcName → Option Value) (mg mb : Str → Option Value) : Prop where
 B : Below A₀ base outer h₀
 F : Fr h₀ L s.heap m
 X : (hd.heap_39 w.params).In h₀
 N : News h₀ L s.heap news
 T : Top p loose mean mg mb h₀
 k : cs.kind = .function
 hd : dp + d < recursionLimit
 hu : un + u < cLine
def Ctr (w : World) (f : Addr) (d u : Nat) (news : Led) (vs : List Value) (P : Value → Led → Prop) : Prop :=
 ∀ (p : Program) (loose : List Str) (mean : ExcName → Option Value) (mg mb : Str → Option Value) (dp un : Nat) (gd : Option (List Code)) (cn : Str) (cs : Scope) (a : Addr) (ccd : Value) (cl : List (Str × Addr)) (outer : List Env)
   (A₀ : Around) (base h₀ : Heap) (L : Addr) (m : Str → Option Value) (s : Shared) (Q E : Value → Shared → Prop),
   Site w A₀ base h₀ outer cs L m news s dp un d u p loose mean mg mb →
   (∀ (v : Value) (news' : Led) (h' : Heap) (tk' : Nat), P v news' → Fr h₀ L h' m → News h₀ L h' news' → Q v { s with heap := h', toks := tk' }) →
   wpAny (model rw_pg0305_01.row.prog w) (ktrTop dp un gd cn cs L a ccd cl outer) (call (.ref f) vs) Q E s
set_option hygiene false in
local macro_rules | `(tactic| omega) => `(tactic| first | lia | omega (config := {}))
theorem mc {α : Type _} {a b : α} {l : List α} (h : a ∈ b :: l) : a = b ∨ a ∈ l := List.mem_cons.mp h
theorem ma {α : Type _} {a : α} {l r : List α} (h : a ∈ l ++ r) : a ∈ l ∨ a ∈ r := List.mem_append.mp h
theorem ms {α : Type _} {a b : α} (h : a ∈ [b]) : a = b := List.mem_singleton.mp h
theorem ml {α : Type _} {a : α} {l : List α} (r : List α) (h : a ∈ l) : a ∈ l ++ r := List.mem_append_left r h
theorem mr {α : Type _} {a : α} {r : List α} (l : List α) (h : a ∈ r) : a ∈ l ++ r := List.mem_append_right l h
theorem lM {α : Type _} {β : Type _} {l : List α} {f : α → β} : (l.map f).length = l.length := List.length_map f
theorem lA {α : Type _} {l r : List α} : (l ++ r).length = l.length + r.length := List.length_append
noncomputable def Drk {α : Type} (i : Nonempty α) (C : α → Prop) : α := @Classical.epsilon α i (fun b => ¬ C b)
@[irreducible] def Ap {α : Type} (C : α → Prop) (x : α) : Prop := C x
theorem Ap.mk {α : Type} {C : α → Prop} {x : α} (h : C x) : Ap C x := by unfold Ap; exact h
theorem Ap.un {α : Type} {C : α → Prop} {x : α} (h : Ap C x) : C x := by unfold Ap at h; exact h
abbrev All {α : Type} (C : α → Prop) : Prop := ∀ x, Ap C x
theorem Drk.one {α : Type} (i : Nonempty α) {C : α → Prop} (h : C (Drk i C)) : ∀ b, C b := fun b => Classical.byContradiction fun hb => (@Classical.epsilon_spec_aux α i (fun b => ¬ C b) ⟨b, hb⟩) h
theorem Drk.all {α : Type} (i : Nonempty α) {C : α → Prop} (h : Ap C (Drk i C)) : ∀ b, C b := Drk.one i h.un
@[irreducible] def Ap2 {A B : Type} (Z : A → B → Prop) (a : A) (b : B) : Prop := Z a b
theorem Ap2.mk {A B : Type} {Z : A → B → Prop} {a : A} {b : B} (h : Z a b) : Ap2 Z a b := by unfold Ap2; exact h
abbrev All2 {A B : Type} (Z : A → B → Prop) : Prop := ∀ a b, Ap2 Z a b
noncomputable def Drk2.x0 {A B : Type} (i : Nonempty (A × B)) (Z : A → B → Prop) : A := (Drk i (fun p => Z p.1 p.2)).1
noncomputable def Drk2.x1 {A B : Type} (i : Nonempty (A × B)) (Z : A → B → Prop) : B := (Drk i (fun p => Z p.1 p.2)).2
theorem Drk2.all {A B : Type} (i : Nonempty (A × B)) {Z : A → B → Prop} (h : Ap2 Z (Drk2.x0 i Z) (Drk2.x1 i Z)) : ∀ a b, Z a b :=
 fun a b => Drk.one i (C := fun p => Z p.1 p.2) (by unfold Ap2 at h; exact h) (a, b)
@[irreducible] def Ap3 {A B C : Type} (Z : A → B → C → Prop) (a : A) (b : B) (c : C) : Prop := Z a b c
theorem Ap3.mk {A B C : Type} {Z : A → B → C → Prop} {a : A} {b : B} {c : C} (h : Z a b c) : Ap3 Z a b c := by unfold Ap3; exact h
abbrev All3 {A B C : Type} (Z : A → B → C → Prop) : Prop := ∀ a b c, Ap3 Z a b c
noncomputable def Drk3.x0 {A B C : Type} (i : Nonempty (A × B × C)) (Z : A → B → C → Prop) : A := (Drk i (fun p => Z p.1 p.2.1 p.2.2)).1
noncomputable def Drk3.x1 {A B C : Type} (i : Nonempty (A × B × C)) (Z : A → B → C → Prop) : B := (Drk i (fun p => Z p.1 p.2.1 p.2.2)).2.1
noncomputable def Drk3.x2 {A B C : Type} (i : Nonempty (A × B × C)) (Z : A → B → C → Prop) : C := (Drk i (fun p => Z p.1 p.2.1 p.2.2)).2.2
theorem Drk3.all {A B C : Type} (i : Nonempty (A × B × C)) {Z : A → B → C → Prop} (h : Ap3 Z (Drk3.x0 i Z) (Drk3.x1 i Z) (Drk3.x2 i Z)) : ∀ a b c, Z a b c :=
 fun a b c => Drk.one i (C := fun p => Z p.1 p.2.1 p.2.2) (by unfold Ap3 at h; exact h) (a, b, c)
@[irreducible] def Ap4 {A B C D : Type} (Z : A → B → C → D → Prop) (a : A) (b : B) (c : C) (d : D) : Prop := Z a b c d
theorem Ap4.mk {A B C D : Type} {Z : A → B → C → D → Prop} {a : A} {b : B} {c : C} {d : D} (h : Z a b c d) : Ap4 Z a b c d := by unfold Ap4; exact h
abbrev All4 {A B C D : Type} (Z : A → B → C → D → Prop) : Prop := ∀ a b c d, Ap4 Z a b c d
noncomputable def Drk4.x0 {A B C D : Type} (i : Nonempty (A × B × C × D)) (Z : A → B → C → D → Prop) : A := (Drk i (fun p => Z p.1 p.2.1 p.2.2.1 p.2.2.2)).1
noncomputable def Drk4.x1 {A B C D : Type} (i : Nonempty (A × B × C × D)) (Z : A → B → C → D → Prop) : B := (Drk i (fun p => Z p.1 p.2.1 p.2.2.1 p.2.2.2)).2.1
noncomputable def Drk4.x2 {A B C D : Type} (i : Nonempty (A × B × C × D)) (Z : A → B → C → D → Prop) : C := (Drk i (fun p => Z p.1 p.2.1 p.2.2.1 p.2.2.2)).2.2.1
noncomputable def Drk4.x3 {A B C D : Type} (i : Nonempty (A × B × C × D)) (Z : A → B → C → D → Prop) : D := (Drk i (fun p => Z p.1 p.2.1 p.2.2.1 p.2.2.2)).2.2.2
theorem Drk4.all {A B C D : Type} (i : Nonempty (A × B × C × D)) {Z : A → B → C → D → Prop} (h : Ap4 Z (Drk4.x0 i Z) (Drk4.x1 i Z) (Drk4.x2 i Z) (Drk4.x3 i Z)) : ∀ a b c d, Z a b c d :=
 fun a b c d => Drk.one i (C := fun p => Z p.1 p.2.1 p.2.2.1 p.2.2.2) (by unfold Ap4 at h; exact h) (a, b, c, d)
@[irreducible] def Ap5 {A B C D E : Type} (Z : A → B → C → D → E → Prop) (a : A) (b : B) (c : C) (d : D) (e : E) : Prop := Z a b c d e
theorem Ap5.mk {A B C D E : Type} {Z : A → B → C → D → E → Prop} {a : A} {b : B} {c : C} {d : D} {e : E} (h : Z a b c d e) : Ap5 Z a b c d e := by unfold Ap5; exact h
abbrev All5 {A B C D E : Type} (Z : A → B → C → D → E → Prop) : Prop := ∀ a b c d e, Ap5 Z a b c d e
noncomputable def Drk5.x0 {A B C D E : Type} (i : Nonempty (A × B × C × D × E)) (Z : A → B → C → D → E → Prop) : A := (Drk i (fun p => Z p.1 p.2.1 p.2.2.1 p.2.2.2.1 p.2.2.2.2)).1
noncomputable def Drk5.x1 {A B C D E : Type} (i : Nonempty (A × B × C × D × E)) (Z : A → B → C → D → E → Prop) : B := (Drk i (fun p => Z p.1 p.2.1 p.2.2.1 p.2.2.2.1 p.2.2.2.2)).2.1
noncomputable def Drk5.x2 {A B C D E : Type} (i : Nonempty (A × B × C × D × E)) (Z : A → B → C → D → E → Prop) : C := (Drk i (fun p => Z p.1 p.2.1 p.2.2.1 p.2.2.2.1 p.2.2.2.2)).2.2.1
noncomputable def Drk5.x3 {A B C D E : Type} (i : Nonempty (A × B × C × D × E)) (Z : A → B → C → D → E → Prop) : D := (Drk i (fun p => Z p.1 p.2.1 p.2.2.1 p.2.2.2.1 p.2.2.2.2)).2.2.2.1
noncomputable def Drk5.x4 {A B C D E : Type} (i : Nonempty (A × B × C × D × E)) (Z : A → B → C → D → E → Prop) : E := (Drk i (fun p => Z p.1 p.2.1 p.2.2.1 p.2.2.2.1 p.2.2.2.2)).2.2.2.2
theorem Drk5.all {A B C D E : Type} (i : Nonempty (A × B × C × D × E)) {Z : A → B → C → D → E → Prop} (h : Ap5 Z (Drk5.x0 i Z) (Drk5.x1 i Z) (Drk5.x2 i Z) (Drk5.x3 i Z) (Drk5.x4 i Z)) : ∀ a b c d e, Z a b c d e :=
 fun a b c d e => Drk.one i (C := fun p => Z p.1 p.2.1 p.2.2.1 p.2.2.2.1 p.2.2.2.2) (by unfold Ap5 at h; exact h) (a, b, c, d, e)
@[irreducible] def Ap6 {A B C D E F : Type} (Z : A → B → C → D → E → F → Prop) (a : A) (b : B) (c : C) (d : D) (e : E) (f : F) : Prop := Z a b c d e f
theorem Ap6.mk {A B C D E F : Type} {Z : A → B → C → D → E → F → Prop} {a : A} {b : B} {c : C} {d : D} {e : E} {f : F} (h : Z a b c d e f) : Ap6 Z a b c d e f := by unfold Ap6; exact h
abbrev All6 {A B C D E F : Type} (Z : A → B → C → D → E → F → Prop) : Prop := ∀ a b c d e f, Ap6 Z a b c d e f
noncomputable def Drk6.x0 {A B C D E F : Type} (i : Nonempty (A × B × C × D × E × F)) (Z : A → B → C → D → E → F → Prop) : A := (Drk i (fun p => Z p.1 p.2.1 p.2.2.1 p.2.2.2.1 p.2.2.2.2.1 p.2.2.2.2.2)).1
noncomputable def Drk6.x1 {A B C D E F : Type} (i : Nonempty (A × B × C × D × E × F)) (Z : A → B → C → D → E → F → Prop) : B := (Drk i (fun p => Z p.1 p.2.1 p.2.2.1 p.2.2.2.1 p.2.2.2.2.1 p.2.2.2.2.2)).2.1
noncomputable def Drk6.x2 {A B C D E F : Type} (i : Nonempty (A × B × C × D × E × F)) (Z : A → B → C → D → E → F → Prop) : C := (Drk i (fun p => Z p.1 p.2.1 p.2.2.1 p.2.2.2.1 p.2.2.2.2.1 p.2.2.2.2.2)).2.2.1
noncomputable def Drk6.x3 {A B C D E F : Type} (i : Nonempty (A × B × C × D × E × F)) (Z : A → B → C → D → E → F → Prop) : D := (Drk i (fun p => Z p.1 p.2.1 p.2.2.1 p.2.2.2.1 p.2.2.2.2.1 p.2.2.2.2.2)).2.2.2.1
noncomputable def Drk6.x4 {A B C D E F : Type} (i : Nonempty (A × B × C × D × E × F)) (Z : A → B → C → D → E → F → Prop) : E := (Drk i (fun p => Z p.1 p.2.1 p.2.2.1 p.2.2.2.1 p.2.2.2.2.1 p.2.2.2.2.2)).2.2.2.2.1
noncomputable def Drk6.x5 {A B C D E F : Type} (i : Nonempty (A × B × C × D × E × F)) (Z : A → B → C → D → E → F → Prop) : F := (Drk i (fun p => Z p.1 p.2.1 p.2.2.1 p.2.2.2.1 p.2.2.2.2.1 p.2.2.2.2.2)).2.2.2.2.2
theorem Drk6.all {A B C D E F : Type} (i : Nonempty (A × B × C × D × E × F)) {Z : A → B → C → D → E → F → Prop} (h : Ap6 Z (Drk6.x0 i Z) (Drk6.x1 i Z) (Drk6.x2 i Z) (Drk6.x3 i Z) (Drk6.x4 i Z) (Drk6.x5 i Z)) : ∀ a b c d e f, Z a b c d e f :=
 fun a b c d e f => Drk.one i (C := fun p => Z p.1 p.2.1 p.2.2.1 p.2.2.2.1 p.2.2.2.2.1 p.2.2.2.2.2) (by unfold Ap6 at h; exact h) (a, b, c, d, e, f)
@[irreducible] def Ap7 {A B C D E F G : Type} (Z : A → B → C → D → E → F → G → Prop) (a : A) (b : B) (c : C) (d : D) (e : E) (f : F) (g : G) : Prop := Z a b c d e f g
theorem Ap7.mk {A B C D E F G : Type} {Z : A → B → C → D → E → F → G → Prop} {a : A} {b : B} {c : C} {d : D} {e : E} {f : F} {g : G} (h : Z a b c d e f g) : Ap7 Z a b c d e f g := by unfold Ap7; exact h
abbrev All7 {A B C D E F G : Type} (Z : A → B → C → D → E → F → G → Prop) : Prop := ∀ a b c d e f g, Ap7 Z a b c d e f g
noncomputable def Drk7.x0 {A B C D E F G : Type} (i : Nonempty (A × B × C × D × E × F × G)) (Z : A → B → C → D → E → F → G → Prop) : A := (Drk i (fun p => Z p.1 p.2.1 p.2.2.1 p.2.2.2.1 p.2.2.2.2.1 p.2.2.2.2.2.1 p.2.2.2.2.2.2)).1
noncomputable def Drk7.x1 {A B C D E F G : Type} (i : Nonempty (A × B × C × D × E × F × G)) (Z : A → B → C → D → E → F → G → Prop) : B := (Drk i (fun p => Z p.1 p.2.1 p.2.2.1 p.2.2.2.1 p.2.2.2.2.1 p.2.2.2.2.2.1 p.2.2.2.2.2.2)).2.1
noncomputable def Drk7.x2 {A B C D E F G : Type} (i : Nonempty (A × B × C × D × E × F × G)) (Z : A → B → C → D → E → F → G → Prop) : C := (Drk i (fun p => Z p.1 p.2.1 p.2.2.1 p.2.2.2.1 p.2.2.2.2.1 p.2.2.2.2.2.1 p.2.2.2.2.2.2)).2.2.1
noncomputable def Drk7.x3 {A B C D E F G : Type} (i : Nonempty (A × B × C × D × E × F × G)) (Z : A → B → C → D → E → F → G → Prop) : D := (Drk i (fun p => Z p.1 p.2.1 p.2.2.1 p.2.2.2.1 p.2.2.2.2.1 p.2.2.2.2.2.1 p.2.2.2.2.2.2)).2.2.2.1
noncomputable def Drk7.x4 {A B C D E F G : Type} (i : Nonempty (A × B × C × D × E × F × G)) (Z : A → B → C → D → E → F → G → Prop) : E := (Drk i (fun p => Z p.1 p.2.1 p.2.2.1 p.2.2.2.1 p.2.2.2.2.1 p.2.2.2.2.2.1 p.2.2.2.2.2.2)).2.2.2.2.1
noncomputable def Drk7.x5 {A B C D E F G : Type} (i : Nonempty (A × B × C × D × E × F × G)) (Z : A → B → C → D → E → F → G → Prop) : F := (Drk i (fun p => Z p.1 p.2.1 p.2.2.1 p.2.2.2.1 p.2.2.2.2.1 p.2.2.2.2.2.1 p.2.2.2.2.2.2)).2.2.2.2.2.1
noncomputable def Drk7.x6 {A B C D E F G : Type} (i : Nonempty (A × B × C × D × E × F × G)) (Z : A → B → C → D → E → F → G → Prop) : G := (Drk i (fun p => Z p.1 p.2.1 p.2.2.1 p.2.2.2.1 p.2.2.2.2.1 p.2.2.2.2.2.1 p.2.2.2.2.2.2)).2.2.2.2.2.2
theorem Drk7.all {A B C D E F G : Type} (i : Nonempty (A × B × C × D × E × F × G)) {Z : A → B → C → D → E → F → G → Prop} (h : Ap7 Z (Drk7.x0 i Z) (Drk7.x1 i Z) (Drk7.x2 i Z) (Drk7.x3 i Z) (Drk7.x4 i Z) (Drk7.x5 i Z) (Drk7.x6 i Z)) : ∀ a b c d e f g, Z a b c d e f g :=
 fun a b c d e f g => Drk.one i (C := fun p => Z p.1 p.2.1 p.2.2.1 p.2.2.2.1 p.2.2.2.2.1 p.2.2.2.2.2.1 p.2.2.2.2.2.2) (by unfold Ap7 at h; exact h) (a, b, c, d, e, f, g)
@[irreducible] def Ap8 {A B C D E F G H : Type} (Z : A → B → C → D → E → F → G → H → Prop) (a : A) (b : B) (c : C) (d : D) (e : E) (f : F) (g : G) (k : H) : Prop := Z a b c d e f g k
theorem Ap8.mk {A B C D E F G H : Type} {Z : A → B → C → D → E → F → G → H → Prop} {a : A} {b : B} {c : C} {d : D} {e : E} {f : F} {g : G} {k : H} (h : Z a b c d e f g k) : Ap8 Z a b c d e f g k := by unfold Ap8; exact h
abbrev All8 {A B C D E F G H : Type} (Z : A → B → C → D → E → F → G → H → Prop) : Prop := ∀ a b c d e f g k, Ap8 Z a b c d e f g k
noncomputable def Drk8.x0 {A B C D E F G H : Type} (i : Nonempty (A × B × C × D × E × F × G × H)) (Z : A → B → C → D → E → F → G → H → Prop) : A := (Drk i (fun p => Z p.1 p.2.1 p.2.2.1 p.2.2.2.1 p.2.2.2.2.1 p.2.2.2.2.2.1 p.2.2.2.2.2.2.1 p.2.2.2.2.2.2.2)).1
noncomputable def Drk8.x1 {A B C D E F G H : Type} (i : Nonempty (A × B × C × D × E × F × G × H)) (Z : A → B → C → D → E → F → G → H → Prop) : B := (Drk i (fun p => Z p.1 p.2.1 p.2.2.1 p.2.2.2.1 p.2.2.2.2.1 p.2.2.2.2.2.1 p.2.2.2.2.2.2.1 p.2.2.2.2.2.2.2)).2.1
noncomputable def Drk8.x2 {A B C D E F G H : Type} (i : Nonempty (A × B × C × D × E × F × G × H)) (Z : A → B → C → D → E → F → G → H → Prop) : C := (Drk i (fun p => Z p.1 p.2.1 p.2.2.1 p.2.2.2.1 p.2.2.2.2.1 p.2.2.2.2.2.1 p.2.2.2.2.2.2.1 p.2.2.2.2.2.2.2)).2.2.1
noncomputable def Drk8.x3 {A B C D E F G H : Type} (i : Nonempty (A × B × C × D × E × F × G × H)) (Z : A → B → C → D → E → F → G → H → Prop) : D := (Drk i (fun p => Z p.1 p.2.1 p.2.2.1 p.2.2.2.1 p.2.2.2.2.1 p.2.2.2.2.2.1 p.2.2.2.2.2.2.1 p.2.2.2.2.2.2.2)).2.2.2.1
noncomputable def Drk8.x4 {A B C D E F G H : Type} (i : Nonempty (A × B × C × D × E × F × G × H)) (Z : A → B → C → D → E → F → G → H → Prop) : E := (Drk i (fun p => Z p.1 p.2.1 p.2.2.1 p.2.2.2.1 p.2.2.2.2.1 p.2.2.2.2.2.1 p.2.2.2.2.2.2.1 p.2.2.2.2.2.2.2)).2.2.2.2.1
noncomputable def Drk8.x5 {A B C D E F G H : Type} (i : Nonempty (A × B × C × D × E × F × G × H)) (Z : A → B → C → D → E → F → G → H → Prop) : F := (Drk i (fun p => Z p.1 p.2.1 p.2.2.1 p.2.2.2.1 p.2.2.2.2.1 p.2.2.2.2.2.1 p.2.2.2.2.2.2.1 p.2.2.2.2.2.2.2)).2.2.2.2.2.1
noncomputable def Drk8.x6 {A B C D E F G H : Type} (i : Nonempty (A × B × C × D × E × F × G × H)) (Z : A → B → C → D → E → F → G → H → Prop) : G := (Drk i (fun p => Z p.1 p.2.1 p.2.2.1 p.2.2.2.1 p.2.2.2.2.1 p.2.2.2.2.2.1 p.2.2.2.2.2.2.1 p.2.2.2.2.2.2.2)).2.2.2.2.2.2.1
noncomputable def Drk8.x7 {A B C D E F G H : Type} (i : Nonempty (A × B × C × D × E × F × G × H)) (Z : A → B → C → D → E → F → G → H → Prop) : H := (Drk i (fun p => Z p.1 p.2.1 p.2.2.1 p.2.2.2.1 p.2.2.2.2.1 p.2.2.2.2.2.1 p.2.2.2.2.2.2.1 p.2.2.2.2.2.2.2)).2.2.2.2.2.2.2
theorem Drk8.all {A B C D E F G H : Type} (i : Nonempty (A × B × C × D × E × F × G × H)) {Z : A → B → C → D → E → F → G → H → Prop} (h : Ap8 Z (Drk8.x0 i Z) (Drk8.x1 i Z) (Drk8.x2 i Z) (Drk8.x3 i Z) (Drk8.x4 i Z) (Drk8.x5 i Z) (Drk8.x6 i Z) (Drk8.x7 i Z)) : ∀ a b c d e f g k, Z a b c d e f g k :=
 fun a b c d e f g k => Drk.one i (C := fun p => Z p.1 p.2.1 p.2.2.1 p.2.2.2.1 p.2.2.2.2.1 p.2.2.2.2.2.1 p.2.2.2.2.2.2.1 p.2.2.2.2.2.2.2) (by unfold Ap8 at h; exact h) (a, b, c, d, e, f, g, k)
structure CS where
 (p : Program) (loose : List Str) (mean : ExcName → Option Value) (mg mb : Str → Option Value) (dp un : Nat) (gd : Option (List Code)) (cn : Str) (cs : Scope) (a : Addr) (ccd : Value) (cl : List (Str × Addr)) (outer : List Env)
 (A₀ : Around) (base h₀ : Heap) (L : Addr) (m : Str → Option Value) (s : Shared) (Q E : Value → Shared → Prop)
def A00 : Around := {}
noncomputable def S00 : Shared := {}
noncomputable def W00 : World := ⟨fun _ _ => 0, { strHash := default, shareClass := default, mergeTok := default, idOf := default, idOfShared := default, followText := default, idOfImm := default }⟩
theorem neA : Nonempty Around := ⟨{}⟩
theorem neS : Nonempty Shared := ⟨{}⟩
theorem neW : Nonempty World := ⟨W00⟩
theorem neD : Nonempty Drawn := ⟨{}⟩
theorem neCS : Nonempty CS := by
 refine ⟨⟨default, default, default, default, default, default, default, default, default, default, default, default, default, default, A00, default, default, default, default, S00, default, default⟩⟩
def Ctr.At (w : World) (f : Addr) (d u : Nat) (news : Led) (vs : List Value) (P : Value → Led → Prop) (b : CS) : Prop :=
   Site w b.A₀ b.base b.h₀ b.outer b.cs b.L b.m news b.s b.dp b.un d u b.p b.loose b.mean b.mg b.mb →
   (∀ (v : Value) (news' : Led) (h' : Heap) (tk' : Nat), P v news' → Fr b.h₀ b.L h' b.m → News b.h₀ b.L h' news' → b.Q v { b.s with heap := h', toks := tk' }) →
   wpAny (model rw_pg0305_01.row.prog w) (ktrTop b.dp b.un b.gd b.cn b.cs b.L b.a b.ccd b.cl b.outer) (call (.ref f) vs) b.Q b.E b.s
noncomputable def Ctr.cs (w : World) (f : Addr) (d u : Nat) (news : Led) (vs : List Value) (P : Value → Led → Prop) : CS := Drk neCS (Ctr.At w f d u news vs P)
theorem Ctr.open {w : World} {f : Addr} {d u : Nat} {news : Led} {vs : List Value} {P : Value → Led → Prop} (h : Ctr.At w f d u news vs P (Ctr.cs w f d u news vs P)) : Ctr w f d u news vs P :=
 fun p loose mean mg mb dp un gd cn cs a ccd cl outer A₀ base h₀ L m s Q E => Drk.one neCS (C := Ctr.At w f d u news vs P) h ⟨p, loose, mean, mg, mb, dp, un, gd, cn, cs, a, ccd, cl, outer, A₀, base, h₀, L, m, s, Q, E⟩
structure Named {α : Type} (Q q : α) : Prop where
 eq : Q = q
theorem wp_named {α : Type} {M : Model} {A : Around} {t : Sem α} {Q : α → Shared → Prop} {E : Value → Shared → Prop} {s : Shared} (h : ∀ q, Named Q q → wpAny M A t q E s) : wpAny M A t Q E s := h Q ⟨rfl⟩
theorem Named.use {α : Type} {Q q : α → Shared → Prop} {v : α} {s : Shared} (n : Named Q q) (h : Q v s) : q v s := n.eq ▸ h
theorem sub_one_one {n : Nat} (h : 0 < n) : n = n - 1 + 1 := (Nat.sub_add_cancel h).symm
theorem c14 {a b : Nat} (hl : a ≤ b) (hj : b ≤ 14) : 14 - a = b - a + (14 - b) := by
 rw [Nat.add_comm]; exact (Nat.sub_add_sub_cancel hj hl).symm
theorem sub_succ_lt {n i : Nat} (h : i < n) : n + 1 - (i + 1) < n + 1 - i := Nat.sub_lt_sub_left (Nat.lt_succ_of_lt h) (Nat.lt_succ_self i)
theorem succ_sub1 {k i : Nat} (h : i < k) : (k - 1 - i).succ = k + 1 - 1 - i := by
 rw [Nat.add_sub_cancel, Nat.sub_right_comm]; exact Nat.sub_add_cancel (Nat.sub_pos_of_lt h)
def wordF : Nat → Nat → List Nat
 | 0, _ => []
 | k + 1, n => if n = 0 then [] else wordF k (n / 16) ++ [65 + n % 16]
theorem wordF_eq : ∀ (k m n : Nat), n ≤ k → n ≤ m → wordF k n = wordF m n
 | 0, 0, _, _, _ => rfl
 | 0, m + 1, n, h, _ => by simp [wordF, show n = 0 by omega]
 | k + 1, 0, n, _, h => by simp [wordF, show n = 0 by omega]
 | k + 1, m + 1, n, h1, h2 => by rw [wordF, wordF, wordF_eq k m (n / 16) (by omega) (by omega)]
def wordL (n : Nat) : List Nat := wordF n n
theorem wordL_zero : wordL 0 = [] := rfl
theorem wordL_pos {n : Nat} (h : n ≠ 0) : wordL n = wordL (n / 16) ++ [65 + n % 16] := by
 unfold wordL
 rw [wordF_eq (n / 16) (n - 1) (n / 16) (by omega) (by omega), show n = n - 1 + 1 by omega, wordF, if_neg (by omega)]
 rfl
theorem wordL_len : ∀ (k n : Nat), n < 16 ^ k → (wordL n).length ≤ k
 | 0, n, h => by
   have : n = 0 := by simpa using h
   subst this; rw [wordL_zero]; exact Nat.le_refl _
 | k + 1, n, h => by
   by_cases h0 : n = 0
   · subst h0; rw [wordL_zero]; exact Nat.zero_le _
   rw [wordL_pos h0, lA, List.length_singleton]
   exact Nat.succ_le_succ (wordL_len k _ (by rw [Nat.pow_succ] at h; omega))
def wordI (n : Nat) : List Int := (wordL n).map fun x : Nat => (x : Int)
theorem wordI_zero : wordI 0 = [] := by unfold wordI; rw [wordL_zero]; rfl
theorem wordI_pos {n : Nat} (h : n ≠ 0) : wordI n = wordI (n / 16) ++ [65 + ((n % 16 : Nat) : Int)] := by unfold wordI; rw [wordL_pos h]; simp
def wordS (n : Nat) : Str := ⟨(wordL n).toArray⟩
noncomputable def padL : Nat → Nat → List Nat
 | 0, _ => []
 | k + 1, n => padL k (n / 16) ++ [65 + n % 16]
theorem padL_range : ∀ (k n : Nat), (List.range k).map (fun i => 65 + n / 16 ^ (k - 1 - i) % 16) = padL k n
 | 0, _ => rfl
 | k + 1, n => by
   rw [List.range_succ, List.map_append, padL, ← padL_range k (n / 16)]
   congr 1
   · refine List.map_congr_left fun i hi => ?_
     have hi := List.mem_range.mp hi
     rw [Nat.div_div_eq_div_mul, show 16 * 16 ^ (k - 1 - i) = 16 ^ (k + 1 - 1 - i) by rw [← Nat.pow_succ']; congr 1; exact succ_sub1 hi]
   simp
theorem wordL_ne {n : Nat} (h : n ≠ 0) : wordL n ≠ [] := by rw [wordL_pos h]; simp
theorem padL_word : ∀ (k n : Nat), n < 16 ^ k → (padL k n).dropWhile (· == 65) = wordL n
 | 0, n, h => by
   have : n = 0 := by simpa using h
   subst this; rw [wordL_zero]; rfl
 | k + 1, n, h => by
   rw [padL, List.dropWhile_append, padL_word k (n / 16) (by rw [Nat.pow_succ] at h; omega)]
   by_cases h1 : n / 16 = 0
   · rw [h1, wordL_zero]
     simp only [List.isEmpty_nil, if_true]
     by_cases h0 : n = 0
     · subst h0; rw [wordL_zero]; rfl
     rw [wordL_pos h0, h1, wordL_zero, List.nil_append, List.dropWhile_cons]
     have : (65 + n % 16 == 65) = false := by simp; omega
     rw [this]; rfl
   have h0 : n ≠ 0 := by rintro rfl; exact h1 rfl
   have : (wordL (n / 16)).isEmpty = false := by simp [wordL_ne h1]
   rw [this, wordL_pos h0]; rfl
theorem str_ext {a b : Str} (h : a.cps.toList = b.cps.toList) : a = b := by
 cases a with | mk x => cases b with | mk y => exact congrArg Str.mk (Array.toList_inj.mp h)
theorem list_append (a b : Str) : (a ++ b).cps.toList = a.cps.toList ++ b.cps.toList := Array.toList_append
theorem join_list : ∀ ys : List Str, (Txt.join (Str.ofString "") ys).cps.toList = (ys.map fun y => y.cps.toList).flatten := by
 rintro ys
 show (Builtin.Str.glued (Str.ofString "") ys).cps.toList = _
 rw [PySem.StrLaws.glued_eq_join]
 induction ys with
 | nil => rfl
 | cons y r ih =>
   cases r with
   | nil => simp [Str.join]
   | cons z r =>
     rw [show Str.join (Str.ofString "") (y :: z :: r) = y ++ Str.ofString "" ++ Str.join (Str.ofString "") (z :: r) from rfl, list_append, list_append, ih, List.map_cons, List.flatten_cons, show (Str.ofString "").cps.toList = [] from by decide +kernel, List.append_nil, List.map_cons, List.map_cons, List.flatten_cons, List.flatten_cons]
theorem lstrip_list (x : Str) (c : Nat) : (Txt.lstripChars x ⟨#[c]⟩).cps.toList = x.cps.toList.dropWhile (· == c) := by
 unfold Txt.lstripChars
 rw [PyProof.Rows.stripBy_eq, PySem.StrLaws.strSub_toList]
 have e : (fun d => (#[c] : Array Nat).contains d) = fun d => d == c := by funext d; simp; rfl
 show (x.cps.toList.drop (x.cps.toList.takeWhile (fun d => (#[c] : Array Nat).contains d)).length).take (x.length - (x.cps.toList.takeWhile (fun d => (#[c] : Array Nat).contains d)).length) = _
 rw [e]
 generalize hl : x.cps.toList = l
 have hx : x.length = l.length := by rw [← hl]; simp [Str.length]
 rw [hx, ← List.length_drop, List.take_length]
 clear hl hx e
 induction l with
 | nil => rfl
 | cons a r ih =>
   rw [List.takeWhile_cons, List.dropWhile_cons]
   split
   · simpa using ih
   rfl
noncomputable def letterAt (n : Int) (i : Nat) : Str := Txt.item (Str.ofString "ABCDEFGHIJKLMNOP") ((n.fdiv (16 ^ (13 - (i : Int)).toNat)).fmod 16)
theorem letter_item : ∀ d : Nat, d < 16 → (Txt.item (Str.ofString "ABCDEFGHIJKLMNOP") (d : Int)) = ⟨#[65 + d]⟩ := by decide +kernel
theorem letterAt_nat (n i : Nat) (hi : i < 14) : letterAt (n : Int) i = ⟨#[65 + n / 16 ^ (14 - 1 - i) % 16]⟩ := by
 unfold letterAt
 have e : (13 - (i : Int)).toNat = 14 - 1 - i := by rw [show (13 : Int) = ((13 : Nat) : Int) from rfl, Int.toNat_sub]
 rw [e]
 have e2 : ((n : Int).fdiv (16 ^ (14 - 1 - i))).fmod 16 = ((n / 16 ^ (14 - 1 - i) % 16 : Nat) : Int) := by
   rw [Int.fdiv_eq_ediv_of_nonneg _ (by exact Int.pow_nonneg (by decide)), Int.fmod_eq_emod_of_nonneg _ (by decide)]
   norm_cast
 rw [e2]
 exact letter_item _ (Nat.mod_lt _ (by decide))
theorem word_join (n : Nat) (h : n < 16 ^ 14) : Txt.lstripChars (Txt.join (Str.ofString "") ((List.range 14).map (letterAt n))) (Str.ofString "A") = wordS n := by
 refine str_ext ?_
 rw [show Str.ofString "A" = ⟨#[65]⟩ from by decide +kernel, lstrip_list, join_list]
 have e : (((List.range 14).map (letterAt n)).map fun y => y.cps.toList).flatten = padL 14 n := by
   rw [← padL_range, List.map_map]
   have : (List.range 14).map ((fun y : Str => y.cps.toList) ∘ letterAt (n : Int)) = (List.range 14).map (fun i => [65 + n / 16 ^ (14 - 1 - i) % 16]) := List.map_congr_left fun i hi => by
     show (letterAt (n : Int) i).cps.toList = _
     rw [letterAt_nat n i (List.mem_range.mp hi)]
   rw [this]
   generalize List.range 14 = l
   induction l with
   | nil => rfl
   | cons a r ih => rw [List.map_cons, List.flatten_cons, ih]; rfl
 rw [e, padL_word 14 n h]
 rfl
theorem pow16_log : ∀ k, k < 14 → ((16 : Int) ^ k).natAbs.log2 < 9000 := by decide +kernel
theorem runs_toks {M : Model} {Γ : Ctx} {p : Pos} {t : Sem Fin} {fs : List Frame} {s : Shared} {e : End} {s' : Shared} (h : Runs M Γ p t fs s e s') : s.toks ≤ s'.toks := by
 induction h with
 | done => exact Nat.le_refl _
 | raise => exact Nat.le_refl _
 | again _ _ ih => exact ih
 | rule _ ih => exact ih
 | «at» _ ih => exact ih
 | load _ _ ih => exact ih
 | update _ _ ih => exact ih
 | loadIfAlive _ ih => exact ih
 | point _ ih => exact ih
 | alloc _ ih => exact ih
 | fresh _ ih => exact Nat.le_of_succ_le ih
 | ask _ ih => exact ih
 | choose _ _ ih => exact ih
 | os _ ih => exact ih
 | handled _ ih => exact ih
 | genState _ _ ih => exact ih
 | stack _ ih => exact ih
 | thread _ ih => exact ih
 | newGen _ ih => exact ih
 | call _ _ h1 h2 => exact Nat.le_trans h1 h2
 | callSusp _ h1 => exact h1
 | yield => exact Nat.le_refl _
 | resumeFresh _ _ _ _ h1 h2 => exact Nat.le_trans h1 h2
 | resumeSuspended _ _ _ _ h1 h2 => exact Nat.le_trans h1 h2
 | resumeJustStarted _ _ _ ih => exact ih
 | resumeThrowFresh _ _ ih => exact ih
 | resumeRunning _ _ ih => exact ih
 | resumeFinished _ _ ih => exact ih
 | segRet _ _ h1 h2 => exact Nat.le_trans h1 h2
 | segGen _ _ h1 h2 => exact Nat.le_trans h1 h2
 | segSuspOut _ _ h1 => exact h1
 | segSuspGen _ _ _ _ h1 h2 => exact Nat.le_trans h1 h2
theorem wakes_toks {M : Model} {Γ : Ctx} {p : Pos} {g : Nat} {r : Resume} {s : Shared} {res : GenResult} {s' : Shared} (h : Wakes M Γ p g r s res s') : s.toks ≤ s'.toks := by
 unfold Wakes at h
 split at h
 · exact h.elim
 · split at h
   · obtain ⟨e₁, s₁, hr, _, _, rfl⟩ := h; have hq := runs_toks hr; exact hq
   · rw [h.2]; exact Nat.le_refl _
   rw [h.2]; exact Nat.le_refl _
 · obtain ⟨e₁, s₁, hr, _, _, rfl⟩ := h; have hq := runs_toks hr; exact hq
 · rw [h.2]; exact Nat.le_refl _
 rw [h.2]; exact Nat.le_refl _
theorem wp_toks_le {α : Type} {M : Model} {Γ : Ctx} : ∀ (t : Sem α) (n : Nat) (Q : α → Pos → Shared → Prop) (E : Value → Pos → Shared → Prop) (p : Pos) (s : Shared), n ≤ s.toks →
   Sem.wp M Γ t (fun a p' s' => n ≤ s'.toks → Q a p' s') (fun e p' s' => n ≤ s'.toks → E e p' s') p s → Sem.wp M Γ t Q E p s := by
 rintro t
 induction t with
 | pure a => rintro n Q E p s hn h; rw [Sem.wp] at h ⊢; exact h hn
 | raise e => rintro n Q E p s hn h; rw [Sem.wp] at h ⊢; exact h hn
 | unsupported _ => rintro n Q E p s hn h; rw [Sem.wp] at h; exact h.elim
 | finish _ => rintro n Q E p s hn h; rw [Sem.wp] at h; exact h.elim
 | rule _ k ih => rintro n Q E p s hn h; rw [Sem.wp] at h ⊢; exact ih _ n Q E p s hn h
 | «at» _ k ih => rintro n Q E p s hn h; rw [Sem.wp] at h ⊢; exact ih _ n Q E _ s hn h
 | load a _ k ih => rintro n Q E p s hn h; rw [Sem.wp] at h ⊢; obtain ⟨o, e, h⟩ := h; exact ⟨o, e, ih _ n Q E p s hn h⟩
 | update a _ f k ih => rintro n Q E p s hn h; rw [Sem.wp] at h ⊢; exact ⟨h.1, ih _ n Q E p _ hn h.2⟩
 | loadIfAlive a k ih => rintro n Q E p s hn h; rw [Sem.wp] at h ⊢; exact ih _ n Q E p s hn h
 | point _ k ih => rintro n Q E p s hn h; rw [Sem.wp] at h ⊢; exact ih _ n Q E p s hn h
 | register _ _ ih => rintro n Q E p s hn h; rw [Sem.wp] at h; exact h.elim
 | alloc o k ih => rintro n Q E p s hn h; rw [Sem.wp] at h ⊢; exact ih _ n Q E p _ hn h
 | fresh k ih => rintro n Q E p s hn h; rw [Sem.wp] at h ⊢; exact ih _ n Q E p _ (Nat.le_succ_of_le hn) h
 | ask k ih => rintro n Q E p s hn h; rw [Sem.wp] at h ⊢; exact ih _ n Q E p s hn h
 | choose src m k ih => rintro n Q E p s hn h; rw [Sem.wp] at h ⊢; exact ⟨h.1, ih _ n Q E p _ hn h.2⟩
 | os q _ k ih => rintro n Q E p s hn h; rw [Sem.wp] at h ⊢; exact ih _ n Q E p _ hn h
 | call c hd _ _ k ih =>
   rintro n Q E p s hn h; rw [Sem.wp] at h ⊢
   obtain ⟨r, s', hr, h⟩ := h
   exact ⟨r, s', hr, ih _ n Q E p s' (Nat.le_trans hn (runs_toks hr)) h⟩
 | handled own k ih => rintro n Q E p s hn h; rw [Sem.wp] at h ⊢; exact ih _ n Q E p s hn h
 | genState g k ih => rintro n Q E p s hn h; rw [Sem.wp] at h ⊢; obtain ⟨o, e, h⟩ := h; exact ⟨o, e, ih _ n Q E p s hn h⟩
 | newGen c k ih => rintro n Q E p s hn h; rw [Sem.wp] at h ⊢; exact ih _ n Q E p _ hn h
 | resume g r _ k ih =>
   rintro n Q E p s hn h; rw [Sem.wp] at h ⊢
   obtain ⟨res, s', hr, h⟩ := h
   exact ⟨res, s', hr, ih _ n Q E p s' (Nat.le_trans hn (wakes_toks hr)) h⟩
 | yield _ _ _ _ ih => rintro n Q E p s hn h; rw [Sem.wp] at h; exact h.elim
 | stack k ih => rintro n Q E p s hn h; rw [Sem.wp] at h ⊢; exact ih _ n Q E p s hn h
 | fork _ _ ih => rintro n Q E p s hn h; rw [Sem.wp] at h; exact h.elim
 | thread k ih => rintro n Q E p s hn h; rw [Sem.wp] at h ⊢; exact ih _ n Q E p s hn h
 | await _ _ _ _ _ ih => rintro n Q E p s hn h; rw [Sem.wp] at h; exact h.elim
theorem wpAny_le {α : Type} {M : Model} {A : Around} {t : Sem α} {Q : α → Shared → Prop} {E : Value → Shared → Prop} {s : Shared} (h : wpAny M A t (fun a s' => s.toks ≤ s'.toks → Q a s') (fun e s' => s.toks ≤ s'.toks → E e s') s) : wpAny M A t Q E s :=
 fun Γ p hΓ => wp_toks_le t s.toks _ _ p s (Nat.le_refl _) (h Γ p hΓ)
theorem wp_pos {α : Type} {M : Model} {A : Around} {t : Sem α} {Q : α → Shared → Prop} {s : Shared} (ht : 0 < s.toks) (h : wpAny M A t (fun a s' => 0 < s'.toks → Q a s') (fun _ _ => False) s) : wpAny M A t Q (fun _ _ => False) s :=
 wpAny_le (wpAny_mono h (fun _ _ x y => x (Nat.lt_of_lt_of_le ht y)) fun _ _ x => x.elim)
theorem wp_ge {α : Type} {M : Model} {A : Around} {t : Sem α} {Q : α → Shared → Prop} {E : Value → Shared → Prop} {s : Shared} {n : Nat} (ht : n ≤ s.toks) (h : wpAny M A t (fun a s' => n ≤ s'.toks → Q a s') E s) : wpAny M A t Q E s :=
 wpAny_le (wpAny_mono h (fun _ _ x y => x (Nat.le_trans ht y)) fun _ _ x _ => x)
def fm (ps : List (Str × Value)) (u : Str → Option Value) : Str → Option Value := fun y => match ps.lookup y with | some v => some v | none => u y
theorem fm_eq {ps : List (Str × Value)} {m : Str → Option Value} (h : ∀ p ∈ ps, m p.1 = some p.2) : fm ps m = m := by
 funext y
 unfold fm
 cases e : ps.lookup y with
 | none => rfl
 | some v =>
   dsimp only
   induction ps with
   | nil => cases e
   | cons p r ih =>
     obtain ⟨a, b⟩ := p
     rw [List.lookup_cons] at e
     split at e
     · rename_i hy
       have hy' : y = a := by simpa using hy
       cases e; rw [hy']; exact (h (a, v) (.head _)).symm
     exact ih (fun p hp => h p (.tail _ hp)) e
section
variable {prog : Program} {w : World} {A : Around} {E : Value → Shared → Prop} {Q : Flow → Shared → Prop} {s : Shared} {env : Env} {h₀ : Heap} {L : Addr}
inductive WEnd {σ : Type} (h₀ : Heap) (L : Addr) (s : Shared) (ps : σ → List (Str × Value)) (Led' : σ → Led) (Ok : σ → Prop) (μ : σ → Nat) (c : σ) (s₂ : Shared) : Prop
 | mk (c' : σ) (h' : Heap) (tk' : Nat) (m' : Str → Option Value) (news' : Led) (x0 : s₂ = { s with heap := h', toks := tk' }) (x1 : Fr h₀ L h' m') (x2 : News h₀ L h' news') (x3 : (∀ p ∈ Led' c', p ∈ news')) (x4 : (∀ p ∈ ps c', m' p.1 = some p.2)) (x5 : Ok c') (x6 : μ c' < μ c) : WEnd h₀ L s ps Led' Ok μ c s₂
def WPost {σ : Type} (h₀ : Heap) (L : Addr) (s : Shared) (ps : σ → List (Str × Value)) (Led' : σ → Led) (Ok : σ → Prop) (μ : σ → Nat) (Q : Flow → Shared → Prop) (c : σ) (f : Flow) (s₂ : Shared) : Prop :=
 match f with
 | .ret v => Q (.ret v) s₂
 | .brk => Q .next s₂
 | _ => WEnd h₀ L s ps Led' Ok μ c s₂
theorem WEnd.intro {σ : Type} {ps : σ → List (Str × Value)} {Led' : σ → Led} {Ok : σ → Prop} {μ : σ → Nat} {c : σ} {h' : Heap} {tk' : Nat} {m' : Str → Option Value} {news' : Led} (c' : σ)
   (F : Fr h₀ L h' m') (N : News h₀ L h' news') (hl : ∀ p ∈ Led' c', p ∈ news') (hm : ∀ p ∈ ps c', m' p.1 = some p.2) (ok : Ok c') (hμ : μ c' < μ c) :
   WEnd h₀ L s ps Led' Ok μ c { s with heap := h', toks := tk' } := ⟨c', h', tk', m', news', rfl, F, N, hl, hm, ok, hμ⟩
theorem while_inv {σ : Type} {test : Expr} {body : List Stmt} {pos : Pos} {m₀ : Str → Option Value} {news₀ : Led} (ps : σ → List (Str × Value)) (Led' : σ → Led) (Ok : σ → Prop) (μ : σ → Nat) (c₀ : σ)
   (F : Fr h₀ L s.heap m₀) (N : News h₀ L s.heap news₀) (hl : ∀ p ∈ Led' c₀, p ∈ news₀) (hm : ∀ p ∈ ps c₀, m₀ p.1 = some p.2) (ok : Ok c₀)
   (turn : ∀ (c : σ) (u : Str → Option Value) h tk, Ok c → Fr h₀ L h (fm (ps c) u) → News h₀ L h (Led' c) →
     wpAny (model prog w) A (isTrue test env (eval test env)) (fun b s₂ =>
       if b = true then wpAny (model prog w) A (execs body env) (WPost h₀ L s ps Led' Ok μ Q c) (fun _ _ => False) s₂ else Q .next s₂) (fun _ _ => False) { s with heap := h, toks := tk }) :
   wpAny (model prog w) A (exec (.While test body [] pos) env) Q (fun _ _ => False) s := by
 refine While_inv2 (fun n m nx => ∃ c : σ, nx = Led' c ∧ μ c = n ∧ (∀ p ∈ ps c, m p.1 = some p.2) ∧ Ok c) F (fun p hp => N p (hl p hp)) ⟨c₀, rfl, rfl, hm, ok⟩ ?_ .never
 rintro n m₁ nx h tk F₁ N₁ ⟨c, rfl, rfl, h1, hp'⟩
 refine wpAny_mono (turn c m₁ h tk hp' (by rw [fm_eq h1]; exact F₁) N₁) (fun b s₂ p => ?_) fun _ _ x => x
 cases b with
 | false => simpa using p
 | true =>
   simp only [if_true] at p ⊢
   refine wpAny_mono p (fun f s₃ q => ?_) fun _ _ x => x
   cases f with
   | ret v => exact q
   | brk => exact q
   | next =>
     obtain ⟨c', h', tk', m', news', rfl, F', N', hn, hk, ok', hm'⟩ := q
     exact ⟨h', tk', m', Led' c', μ c', rfl, F', fun p hp => N' p (hn p hp), hm', c', rfl, rfl, hk, ok'⟩
   | cont =>
     obtain ⟨c', h', tk', m', news', rfl, F', N', hn, hk, ok', hm'⟩ := q
     exact ⟨h', tk', m', Led' c', μ c', rfl, F', fun p hp => N' p (hn p hp), hm', c', rfl, rfl, hk, ok'⟩
end
theorem wp_noE {α : Type} {M : Model} {A : Around} {t : Sem α} {Q : α → Shared → Prop} {E : Value → Shared → Prop} {s : Shared} (h : wpAny M A t Q (fun _ _ => False) s) : wpAny M A t Q E s :=
 wpAny_mono h (fun _ _ h => h) (fun _ _ h => h.elim)
theorem wp_toks {α : Type} {M : Model} {A : Around} {t : Sem α} {Q : α → Shared → Prop} {E : Value → Shared → Prop} {s : Shared} (h : ∀ tk, wpAny M A t Q E ⟨s.heap, s.gens, s.drawn, tk, s.os⟩) : wpAny M A t Q E s := h s.toks
theorem allLt_ne {d : Addr} : ∀ {l : Led}, AllLt d l → ∀ p ∈ l, p.1 ≠ d
 | [], _, _, h => nomatch h
 | q :: r, ⟨h1, h2⟩, p, hp => by
   rcases mc hp with rfl | hp
   · exact Nat.ne_of_lt h1
   exact allLt_ne h2 p hp
theorem allLt_mem {d : Addr} : ∀ {l : Led}, AllLt d l → ∀ p ∈ l, p.1 < d
 | [], _, _, h => nomatch h
 | q :: r, ⟨h1, h2⟩, p, hp => by
   rcases mc hp with rfl | hp
   · exact h1
   exact allLt_mem h2 p hp
theorem room {x d b a c : Nat} (h : x + d < c) (hd : b ≤ d) (hab : a ≤ b) : x + a < c := Nat.lt_of_le_of_lt (Nat.add_le_add_left (Nat.le_trans hab hd) x) h
theorem room2 {x d b k a c : Nat} (h : x + d < c) (hd : b ≤ d) (hab : k + a ≤ b) : x + k + a < c := by rw [Nat.add_assoc]; exact room h hd hab
theorem lt_ne {d : Addr} {l : Led} (h : ∀ p ∈ l, p.1 < d) : ∀ p ∈ l, p.1 ≠ d := fun p hp => Nat.ne_of_lt (h p hp)
theorem app_ne {d : Addr} {l l' : Led} (h1 : ∀ p ∈ l, p.1 ≠ d) (h2 : ∀ p ∈ l', p.1 ≠ d) : ∀ p ∈ l ++ l', p.1 ≠ d := fun p hp => (ma hp).elim (h1 p) (h2 p)
theorem fr_eq {h₀ h : Heap} {L : Addr} {m m' : Str → Option Value} (F : Fr h₀ L h m) (e : m = m') : Fr h₀ L h m' := e ▸ F
theorem Ctr.use {w : World} {f : Addr} {d u : Nat} {news : Led} {vs : List Value} {P : Value → Led → Prop} (c : Ctr w f d u news vs P)
   {p : Program} {loose : List Str} {mean : ExcName → Option Value} {mg mb : Str → Option Value} {dp un : Nat} {gd : Option (List Code)} {cn : Str} {cs : Scope} {a : Addr} {ccd : Value} {cl : List (Str × Addr)} {outer : List Env}
   {A A₀ : Around} {base h₀ : Heap} {L : Addr} {m : Str → Option Value} {s : Shared} {Q E : Value → Shared → Prop}
   (hA : A = ktrTop dp un gd cn cs L a ccd cl outer) (B : Below A₀ base outer h₀) (F : Fr h₀ L s.heap m) (X : (hd.heap_39 w.params).In h₀) (N : News h₀ L s.heap news) (T : Top p loose mean mg mb h₀) (hk : cs.kind = .function) (hd : dp + d < recursionLimit) (hu : un + u < cLine)
   (k : ∀ (v : Value) (news' : Led) (h' : Heap) (tk' : Nat), P v news' → Fr h₀ L h' m → News h₀ L h' news' → Q v { s with heap := h', toks := tk' }) :
   wpAny (model rw_pg0305_01.row.prog w) A (call (.ref f) vs) Q E s := by
 subst hA
 exact c p loose mean mg mb dp un gd cn cs a ccd cl outer A₀ base h₀ L m s Q E ⟨B, F, X, N, T, hk, hd, hu⟩ k
theorem lt_ne_add {L k : Nat} {l : Led} (h : ∀ p ∈ l, @LT.lt Nat _ p.1 L) : ∀ p ∈ l, p.1 ≠ (L + k : Nat) := fun p hp => Nat.ne_of_lt (Nat.lt_of_lt_of_le (h p hp) (Nat.le_add_right _ _))
theorem allLt_ne_add {L k : Nat} {l : Led} (h : AllLt L l) : ∀ p ∈ l, p.1 ≠ (L + k : Nat) := lt_ne_add (allLt_mem h)
def CtrP (w : World) (f : Addr) (d u : Nat) (news : Led) (vs : List Value) (P : Value → Led → Prop) : Prop :=
 ∀ (p : Program) (loose : List Str) (mean : ExcName → Option Value) (mg mb : Str → Option Value) (dp un : Nat) (gd : Option (List Code)) (cn : Str) (cs : Scope) (a : Addr) (ccd : Value) (cl : List (Str × Addr)) (outer : List Env)
   (A₀ : Around) (base h₀ : Heap) (L : Addr) (m : Str → Option Value) (s : Shared) (Q E : Value → Shared → Prop),
   Site w A₀ base h₀ outer cs L m news s dp un d u p loose mean mg mb → 0 < s.toks →
   (∀ (v : Value) (news' : Led) (h' : Heap) (tk' : Nat), P v news' → Fr h₀ L h' m → News h₀ L h' news' → Q v { s with heap := h', toks := tk' }) →
   wpAny (model rw_pg0305_01.row.prog w) (ktrTop dp un gd cn cs L a ccd cl outer) (call (.ref f) vs) Q E s
def CtrP.At (w : World) (f : Addr) (d u : Nat) (news : Led) (vs : List Value) (P : Value → Led → Prop) (b : CS) : Prop :=
   Site w b.A₀ b.base b.h₀ b.outer b.cs b.L b.m news b.s b.dp b.un d u b.p b.loose b.mean b.mg b.mb → 0 < b.s.toks →
   (∀ (v : Value) (news' : Led) (h' : Heap) (tk' : Nat), P v news' → Fr b.h₀ b.L h' b.m → News b.h₀ b.L h' news' → b.Q v { b.s with heap := h', toks := tk' }) →
   wpAny (model rw_pg0305_01.row.prog w) (ktrTop b.dp b.un b.gd b.cn b.cs b.L b.a b.ccd b.cl b.outer) (call (.ref f) vs) b.Q b.E b.s
noncomputable def CtrP.cs (w : World) (f : Addr) (d u : Nat) (news : Led) (vs : List Value) (P : Value → Led → Prop) : CS := Drk neCS (CtrP.At w f d u news vs P)
theorem CtrP.open {w : World} {f : Addr} {d u : Nat} {news : Led} {vs : List Value} {P : Value → Led → Prop} (h : CtrP.At w f d u news vs P (CtrP.cs w f d u news vs P)) : CtrP w f d u news vs P :=
 fun p loose mean mg mb dp un gd cn cs a ccd cl outer A₀ base h₀ L m s Q E => Drk.one neCS (C := CtrP.At w f d u news vs P) h ⟨p, loose, mean, mg, mb, dp, un, gd, cn, cs, a, ccd, cl, outer, A₀, base, h₀, L, m, s, Q, E⟩
theorem CtrP.use {w : World} {f : Addr} {d u : Nat} {news : Led} {vs : List Value} {P : Value → Led → Prop} (c : CtrP w f d u news vs P)
   {p : Program} {loose : List Str} {mean : ExcName → Option Value} {mg mb : Str → Option Value} {dp un : Nat} {gd : Option (List Code)} {cn : Str} {cs : Scope} {a : Addr} {ccd : Value} {cl : List (Str × Addr)} {outer : List Env}
   {A A₀ : Around} {base h₀ : Heap} {L : Addr} {m : Str → Option Value} {s : Shared} {Q : Value → Shared → Prop}
   (hA : A = ktrTop dp un gd cn cs L a ccd cl outer) (B : Below A₀ base outer h₀) (F : Fr h₀ L s.heap m) (X : (hd.heap_39 w.params).In h₀) (N : News h₀ L s.heap news) (T : Top p loose mean mg mb h₀) (hk : cs.kind = .function) (hd : dp + d < recursionLimit) (hu : un + u < cLine)
   (ht : 0 < s.toks)
   (k : ∀ (v : Value) (news' : Led) (h' : Heap) (tk' : Nat), 0 < tk' → P v news' → Fr h₀ L h' m → News h₀ L h' news' → Q v { s with heap := h', toks := tk' }) :
   wpAny (model rw_pg0305_01.row.prog w) A (call (.ref f) vs) Q (fun _ _ => False) s := by
 subst hA
 exact wp_pos ht (c p loose mean mg mb dp un gd cn cs a ccd cl outer A₀ base h₀ L m s _ _ ⟨B, F, X, N, T, hk, hd, hu⟩ ht fun v n' h' tk' a b c d => k v n' h' tk' d a b c)
theorem wp_toksP {α : Type} {M : Model} {A : Around} {t : Sem α} {Q : α → Shared → Prop} {E : Value → Shared → Prop} {s : Shared} (ht : 0 < s.toks) (h : ∀ tk, 0 < tk → wpAny M A t Q E ⟨s.heap, s.gens, s.drawn, tk, s.os⟩) : wpAny M A t Q E s := h s.toks ht
theorem execs_pos {M : Model} {A : Around} {st : Stmt} {rest : List Stmt} {env : Env} {Q : Flow → Shared → Prop} {E : Value → Shared → Prop} {s : Shared} (ht : 0 < s.toks)
   (h : wpAny M A (exec st env) (fun f s' => 0 < s'.toks → match f with | .next => wpAny M A (execs rest env) Q E s' | f => Q f s') E s) : wpAny M A (execs (st :: rest) env) Q E s :=
 wpAny_execs_cons (wp_ge (n := 1) ht h)
set_option hygiene false in
local macro_rules | `(tactic| k_all) => `(tactic| first
 | assumption
 | exact lt_ne (by assumption)
 | exact lt_ne_add (by assumption)
 | exact allLt_ne_add (by assumption)
 | exact allLt_ne (by assumption)
 | exact allLt_ne (by assumption : _ ∧ AllLt _ _).2
 | exact allLt_ne (by assumption : _ ∧ _ ∧ AllLt _ _).2.2
 | exact allLt_ne (by assumption : _ ∧ _ ∧ _ ∧ AllLt _ _).2.2.2
 | exact allLt_ne (by assumption : _ ∧ _ ∧ _ ∧ _ ∧ AllLt _ _).2.2.2.2
 | exact allLt_ne (by assumption : _ ∧ _ ∧ _ ∧ _ ∧ _ ∧ AllLt _ _).2.2.2.2.2
 | (refine app_ne ?_ ?_ <;> k_all)
 | fail)
theorem z1 (h : wpAny x1 x2 (exec (Stmt.While x3 x4 x5 x6) x7) x8 x9 x10) : wpAny x1 x2 (exec (Stmt.While x3 x4 x5 x6) x7) x8 x9 x10 := h
theorem z2 (h : wpAny x1 x2 (exec (Stmt.For x3 x4 x5 x6 x7) x8) x9 x10 x11) : wpAny x1 x2 (exec (Stmt.For x3 x4 x5 x6 x7) x8) x9 x10 x11 := h
theorem z3 (h : wpAny x1 x2 (exec (Stmt.Assign x3 (Expr.ListComp x4 x5 x6 x7) x8) x9) x10 x11 x12) : wpAny x1 x2 (exec (Stmt.Assign x3 (Expr.ListComp x4 x5 x6 x7) x8) x9) x10 x11 x12 := h
theorem z4 (h : wpAny x1 x2 (eval (Expr.ListComp x3 x4 x5 x6) x7) x8 x9 x10) : wpAny x1 x2 (eval (Expr.ListComp x3 x4 x5 x6) x7) x8 x9 x10 := h
theorem z5 (h : wpAny x1 x2 (eval (Expr.DictComp x3 x4 x5 x6 x7) x8) x9 x10 x11) : wpAny x1 x2 (eval (Expr.DictComp x3 x4 x5 x6 x7) x8) x9 x10 x11 := h
theorem z6 (h : wpAny x1 x2 (eval (Expr.Dict (x3 :: x4) x5 x6) x7) x8 x9 x10) : wpAny x1 x2 (eval (Expr.Dict (x3 :: x4) x5 x6) x7) x8 x9 x10 := h
theorem z7 {K : Type} [DecidableEq K] {x1 : Program} {x2 : World} {x3 : KeyKind x1 x2 K} (h : KdnMade x1 x2 x3 x4 x5 x6 x7) : KdnMade x1 x2 x3 x4 x5 x6 x7 := h
theorem z9 (h : LeaveK x1 x2 x3 x4 x5 x6 x7) : LeaveK x1 x2 x3 x4 x5 x6 x7 := h
theorem z10 (h : wpAny x1 x2 (subscriptTail x3 (Expr.Slice x4 x5 x6 x7) x8 x9) x10 x11 x12) : wpAny x1 x2 (subscriptTail x3 (Expr.Slice x4 x5 x6 x7) x8 x9) x10 x11 x12 := h
theorem z11 (h : wpAny x1 x2 (call (Value.builtin "str.rsplit") x3 x4) x5 x6 x7) : wpAny x1 x2 (call (Value.builtin "str.rsplit") x3 x4) x5 x6 x7 := h
theorem z13 (h : wpAny x1 x2 (pyIter x3) x4 x5 x6) : wpAny x1 x2 (pyIter x3) x4 x5 x6 := h
theorem z14 (h : wpAny x1 x2 (getMethod (Value.ref x3) (Str.ofString "_iter_namespaces") x4) x5 x6 x7) : wpAny x1 x2 (getMethod (Value.ref x3) (Str.ofString "_iter_namespaces") x4) x5 x6 x7 := h
theorem z15 (h : wpAny x1 x2 (call (Value.type "set") x3 x4) x5 x6 x7) : wpAny x1 x2 (call (Value.type "set") x3 x4) x5 x6 x7 := h
theorem z16 (h : wpAny x1 x2 (subscriptTail (Expr.Name x3 x4) x5 (Value.ref x6) (Value.int x7 x8)) x9 x10 x11) : wpAny x1 x2 (subscriptTail (Expr.Name x3 x4) x5 (Value.ref x6) (Value.int x7 x8)) x9 x10 x11 := h
theorem z17 (h : wpAny x1 x2 (call (Value.builtin "list.append") x3 x4) x5 x6 x7) : wpAny x1 x2 (call (Value.builtin "list.append") x3 x4) x5 x6 x7 := h
theorem z18 (h : wpAny x1 x2 (exec (Stmt.Assign x3 (Expr.DictComp x4 x5 x6 x7 x8) x9) x10) x11 x12 x13) : wpAny x1 x2 (exec (Stmt.Assign x3 (Expr.DictComp x4 x5 x6 x7 x8) x9) x10) x11 x12 x13 := h
theorem z19 (h : wpAny x1 x2 (call (Value.builtin "sorted") x3 x4) x5 x6 x7) : wpAny x1 x2 (call (Value.builtin "sorted") x3 x4) x5 x6 x7 := h
theorem z20 (h : wpAny x1 x2 (call (Value.builtin "str.split") x3 x4) x5 x6 x7) : wpAny x1 x2 (call (Value.builtin "str.split") x3 x4) x5 x6 x7 := h
theorem z21 (h : wpAny x1 x2 (call (Value.builtin "list.sort") x3 x4) x5 x6 x7) : wpAny x1 x2 (call (Value.builtin "list.sort") x3 x4) x5 x6 x7 := h
theorem z27 (h : wpAny x1 x2 (call (Value.ref x3) [Value.str x4 x5]) x6 x7 x8) : wpAny x1 x2 (call (Value.ref x3) [Value.str x4 x5]) x6 x7 x8 := h
theorem z28 (h : wpAny x1 x2 (truthy (Value.ref x3)) x4 x5 x6) : wpAny x1 x2 (truthy (Value.ref x3)) x4 x5 x6 := h
theorem z29 (h : wpAny x1 x2 (subscriptTail x3 x4 (Value.ref x5) (Value.int (-1) x6)) x7 x8 x9) : wpAny x1 x2 (subscriptTail x3 x4 (Value.ref x5) (Value.int (-1) x6)) x7 x8 x9 := h
theorem z30 (h : wpAny x1 x2 (call (Value.builtin "dict.get") x3 x4) x5 x6 x7) : wpAny x1 x2 (call (Value.builtin "dict.get") x3 x4) x5 x6 x7 := h
theorem z31 (h : wpAny x1 x2 (call (Value.builtin "str.join") x3 x4) x5 x6 x7) : wpAny x1 x2 (call (Value.builtin "str.join") x3 x4) x5 x6 x7 := h
theorem z43 (h : wpAny x1 x2 (call (Value.type "enumerate") x3 x4) x5 x6 x7) : wpAny x1 x2 (call (Value.type "enumerate") x3 x4) x5 x6 x7 := h
theorem z45 (h : wpAny x1 x2 (call (Value.builtin "list.pop") x3 x4) x5 x6 x7) : wpAny x1 x2 (call (Value.builtin "list.pop") x3 x4) x5 x6 x7 := h
theorem z50 (h : wpAny x1 x2 (binaryOp Operator.FloorDiv x3 x4) x5 x6 x7) : wpAny x1 x2 (binaryOp Operator.FloorDiv x3 x4) x5 x6 x7 := h
theorem z51 (h : wpAny x1 x2 (getMethod (Value.ref x3) (Str.ofString "items") x4) x5 x6 x7) : wpAny x1 x2 (getMethod (Value.ref x3) (Str.ofString "items") x4) x5 x6 x7 := h
theorem z52 (h : wpAny x1 x2 (subscriptTail (Expr.Name x3 x4) (Expr.Name x5 x6) (Value.ref x7) x8) x9 x10 x11) : wpAny x1 x2 (subscriptTail (Expr.Name x3 x4) (Expr.Name x5 x6) (Value.ref x7) x8) x9 x10 x11 := h
theorem z53 (h : wpAny x1 x2 (call (Value.ref x3) x4 x5) x6 x7 x8) : wpAny x1 x2 (call (Value.ref x3) x4 x5) x6 x7 x8 := h
theorem z54 {α : Type} {a b : α} (h : a = b) : a = b := h
theorem z55 (h : wpAny x1 x2 (subscriptTail (Expr.Attribute x3 x4 x5) x6 (Value.ref x7) x8) x9 x10 x11) : wpAny x1 x2 (subscriptTail (Expr.Attribute x3 x4 x5) x6 (Value.ref x7) x8) x9 x10 x11 := h
theorem z44 (h : wpAny x1 x2 (execs (Stmt.If x3 x4 x5 x6 :: x7) x8) x9 x10 x11) : wpAny x1 x2 (execs (Stmt.If x3 x4 x5 x6 :: x7) x8) x9 x10 x11 := h
theorem zc {n : Nat} (hn : n ∈ [199, 219, 161, 168, 90, 126, 106, 192, 204, 209, 182, 187, 214, 226, 120, 133, 97, 175]) (h : wpAny x1 x2 (call (Value.ref n) x3 x4) x5 x6 x7) : wpAny x1 x2 (call (Value.ref n) x3 x4) x5 x6 x7 := h
theorem ne_at {d a : Nat} {o : Obj} {l : Led} (h : AllLt d l) (hm : (a, o) ∈ l) : d ≠ a := Nat.ne_of_gt (allLt_mem h _ hm)
theorem ne_at' {d a : Nat} {o : Obj} {l : Led} (h : AllLt d l) (hm : (a, o) ∈ l) : a ≠ d := Nat.ne_of_lt (allLt_mem h _ hm)
theorem allLt_t1 {d : Nat} {p : Addr × Obj} {l : Led} (h : AllLt d (p :: l)) : AllLt d l := h.2
theorem lt_at {d a : Nat} {o : Obj} {l : Led} (h : AllLt d l) (hm : (a, o) ∈ l) : @LT.lt Nat _ a d := allLt_mem h _ hm
set_option hygiene false in
local macro_rules | `(tactic| size_fits) => `(tactic| ((try simp only [PySem.Str.empty_append, PySem.Str.length_append]); rw [PySem.sizeLine_eq]; omega))
set_option hygiene false in
local macro_rules | `(tactic| k_lt $h:ident) => `(tactic| (have hAL := allLt_of $h; replace $h := hAL; dsimp only [AllLt] at $h:ident))
set_option hygiene false in
local macro_rules | `(tactic| k_ne) => `(tactic| (refine neN ?_; (try dsimp only); first | with_reducible assumption | with_reducible exact Ne.symm (by assumption) | exact ne_at (by with_reducible assumption) (by k_mem) | exact ne_at' (by with_reducible assumption) (by k_mem) | omega))
set_option hygiene false in
local macro_rules | `(tactic| tb_rel) => `(tactic| ((fail_if_success with_reducible first | refine z1 ?_ | refine z2 ?_ | refine z3 ?_ | refine z4 ?_ | refine z5 ?_ | refine z6 ?_ | refine z7 ?_ | refine zc (by decide) ?_ | refine z9 ?_ | refine z10 ?_ | refine z11 ?_ | refine z13 ?_ | refine z14 ?_ | refine z15 ?_ | refine z16 ?_ | refine z17 ?_ | refine z18 ?_ | refine z19 ?_ | refine z20 ?_ | refine z21 ?_); (first | (k_unfold; try dsimp only) | (dsimp only; k_unfold; try dsimp only) | walk1 | (dsimp only; walk1) | fail)))
set_option hygiene false in
local macro_rules | `(tactic| allgen_close_more) => `(tactic| first | exact room hdp (by with_reducible assumption) (by decide) | exact room2 hdp (by with_reducible assumption) (by decide) | exact room hup (by with_reducible assumption) (by decide) | exact room2 hup (by with_reducible assumption) (by decide) | omega | (rw [ktr_depth]; omega) | (dsimp only [cLine] at *; omega))
set_option hygiene false in
local macro_rules | `(tactic| kpf_c) => `(tactic| (first | infer_instance | exact neW | exact neA | exact neS | exact neD | (refine ⟨?_⟩; repeat' (first | exact default | exact W00 | exact A00 | exact S00 | constructor))))
local macro_rules | `(tactic| tb_start) => `(tactic| with_reducible refine (no_implicit_lambda% (Drk.all (by kpf_c) (no_implicit_lambda% ((?_ : All _) _)))))
local macro_rules
 | `(tactic| intro $x:ident) => `(tactic| first | (tb_start; refine fun $x:ident => Ap.mk ?_) | (refine (?_ : ∀ _, _); tb_start; refine fun $x:ident => Ap.mk ?_) | intro ($x : _))
 | `(tactic| intro _) => `(tactic| first | (tb_start; refine fun _ => Ap.mk ?_) | intros _)
 | `(tactic| intro $x:term $y:term $ys:term*) => `(tactic| (intro $x:term; intro $y:term $ys:term*))
local macro_rules | `(tactic| k_fold) => `(tactic| (refine wp_named ?_; intro qk; intro (nqk : _)))
local macro_rules | `(tactic| k_unfold) => `(tactic| with_reducible refine Named.use (by with_reducible assumption) ?_)
set_option hygiene false in
local macro_rules | `(tactic| walk_at "execs cons") => `(tactic| (k_here; k_gentoks; revert tk; tb_start; refine fun tk => Ap.mk ?_))
set_option hygiene false in
local macro_rules | `(tactic| walk_at "execs nil") => `(tactic| (k_here; k_gentoks; revert tk; tb_start; refine fun tk => Ap.mk ?_))
theorem ap_cut (k : Nat) : List.take (clipAt ([65, 66, 67, 68, 69, 70, 71, 72, 73, 74, 75, 76, 77, 78, 79, 80] : List Int).length ((k : Int).fmod 16 + 1) - clipAt ([65, 66, 67, 68, 69, 70, 71, 72, 73, 74, 75, 76, 77, 78, 79, 80] : List Int).length ((k : Int).fmod 16))
     (List.drop (clipAt ([65, 66, 67, 68, 69, 70, 71, 72, 73, 74, 75, 76, 77, 78, 79, 80] : List Int).length ((k : Int).fmod 16)) ([65, 66, 67, 68, 69, 70, 71, 72, 73, 74, 75, 76, 77, 78, 79, 80] : List Int)) = [65 + ((k % 16 : Nat) : Int)] := by
 have e : (k : Int).fmod 16 = ((k % 16 : Nat) : Int) := by rw [Int.fmod_eq_emod_of_nonneg _ (by decide)]; rfl
 rw [e]
 generalize hr : k % 16 = r
 have hlt : r < 16 := by rw [← hr]; exact Nat.mod_lt _ (by decide)
 clear hr e
 revert r
 decide
abbrev ApSt := Int × Array UInt8 × List Int × Tok × Tok × Tok
theorem ap_ctr {w : World} {news : Led} (n : Int) (t : Tok) (h1 : n.natAbs < 16 ^ 14) :
  Ctr w 175 1 8 news [.int n t] (fun v l => l = news ∧ ∃ b t', v = .bytes b t' ∧ KBw.bInts b = wordI n.natAbs) := by
 w_top off
 (revert h1; revert w news n t; with_reducible refine (no_implicit_lambda% (Drk4.all (by kpf_c) ((?_ : All4 _) _ _ _ _))); refine fun w news n t => Ap4.mk ?_; intros h1)
 (refine Ctr.open ?_; generalize Ctr.cs _ _ _ _ _ _ _ = bCS; unfold Ctr.At; generalize bCS.p = p, bCS.loose = loose, bCS.mean = mean, bCS.mg = mg, bCS.mb = mb, bCS.dp = dp, bCS.un = un, bCS.gd = gd, bCS.cn = cn, bCS.cs = cs, bCS.a = a, bCS.ccd = ccd, bCS.cl = cl, bCS.outer = outer, bCS.A₀ = A₀, bCS.base = base, bCS.h₀ = h₀, bCS.L = L, bCS.m = m, bCS.s = s, bCS.Q = Q, bCS.E = E; clear bCS; intros St hret; obtain ⟨B, F, X, N, T, hk, hdp, hup⟩ := St; revert X; k_fill; intro X; refine wpAny_call ?_)
 (k_dflt (refine' code_def ?k1 ?k2 ?k3 ?k4 ?k5 ?kA ?kF ?kK ?k6 ?k7 ?k8 ?k9 ?kB ?_ ?c2 ?c3 ?c4 ?c5; (case kA => exact rfl); (case kF => exact rfl); (case kK => assumption); (case k1 => k_asm); (case k2 => k_asm); (case k3 => k_asm); (case k4 => k_asm); (case k5 => k_asm); (case k6 => k_is); (case k7 => k_is); (case k8 => first | allgen_close_more | (simp only [depth_in1, depth_deeper] at *; omega)); (case k9 => first | exact BindsTo.of_eq rfl | exact binds_K (by k_in) rfl (by k_is) rfl rfl rfl); (case c5 => decide); (case kB => exact locs rfl); (case c2 => exact rfl); (case c3 => exact rfl); (case c4 => exact rfl); k_whole; intro g' L' h' FG' F' N' B' X' T'); (try dsimp only); (refine wp_noE ?_); (refine wp_toks ?_); intro tk0; (try dsimp only); (try k_fold))
 (repeat' ((fail_if_success with_reducible first | refine z1 ?_ | refine z2 ?_ | refine z3 ?_ | refine z4 ?_ | refine z5 ?_ | refine z6 ?_ | refine z7 ?_ | refine zc (by decide) ?_ | refine z9 ?_); (first | (k_unfold; try dsimp only) | (dsimp only; k_unfold; try dsimp only) | walk1 | (dsimp only; walk1) | fail)))
 have hlen : (wordI n.natAbs).length ≤ 14 := by unfold wordI; rw [lM]; exact wordL_len 14 _ h1
 refine while_inv (σ := ApSt) (fun c => [(Str.ofString "num", .int c.1 c.2.2.2.1), (Str.ofString "val", .bytes c.2.1 c.2.2.2.2.1), (Str.ofString "AP", .bytes #[65, 66, 67, 68, 69, 70, 71, 72, 73, 74, 75, 76, 77, 78, 79, 80] c.2.2.2.2.2)]) (fun _ => news) (fun c => 0 ≤ c.1 ∧ KBw.bInts c.2.1 = c.2.2.1 ∧ wordI c.1.toNat ++ c.2.2.1 = wordI n.natAbs) (fun c => c.1.toNat) (if n < 0 then -n else n, #[], [], _, _, _) (by k_asm) (by k_asm) (fun _ h => h) (List.forall_mem_cons.mpr ⟨rfl, List.forall_mem_cons.mpr ⟨rfl, List.forall_mem_cons.mpr ⟨rfl, nofun⟩⟩⟩) ?_ ?_
 · dsimp only
   refine ⟨by split <;> omega, rfl, ?_⟩
   rw [List.append_nil]; congr 1; split <;> omega
 rintro ⟨num, val, ks, t1, t2, t3⟩ u h tk ⟨h0, hb, hw⟩ Fw Nw
 (revert h0 hb hw Fw Nw; revert num val ks t1 t2 t3 u h tk; with_reducible refine (no_implicit_lambda% (Drk5.all (by kpf_c) ((?_ : All5 _) _ _ _ _ _))); refine fun num val ks t1 t2 => Ap5.mk ?_; with_reducible refine (no_implicit_lambda% (Drk4.all (by kpf_c) ((?_ : All4 _) _ _ _ _))); refine fun t3 u h tk => Ap4.mk ?_; intros h0 hb hw Fw Nw)
 dsimp only at h0 hb hw Fw Nw ⊢
 have hkl : ks.length ≤ 14 := by
   have := congrArg List.length hw; rw [lA] at this; omega
 have hAP : KBw.bInts #[65, 66, 67, 68, 69, 70, 71, 72, 73, 74, 75, 76, 77, 78, 79, 80] = [65, 66, 67, 68, 69, 70, 71, 72, 73, 74, 75, 76, 77, 78, 79, 80] := rfl
 (repeat' ((fail_if_success with_reducible first | refine z1 ?_ | refine z2 ?_ | refine z3 ?_ | refine z4 ?_ | refine z5 ?_ | refine z6 ?_ | refine z7 ?_ | refine zc (by decide) ?_ | refine z9 ?_); (first | (k_unfold; try dsimp only) | (dsimp only; k_unfold; try dsimp only) | walk1 | (dsimp only; walk1) | fail)))
 · (with_reducible rename Fr _ _ _ _ => F1); (with_reducible rename News _ _ _ _ => N1)
   rename KBw.bInts (_ ++ _) = _ => hap
   refine WEnd.intro (num.fdiv 16, _, _, _, _, _) F1 N1 (fun p hp => .tail _ hp) (List.forall_mem_cons.mpr ⟨rfl, List.forall_mem_cons.mpr ⟨rfl, List.forall_mem_cons.mpr ⟨rfl, nofun⟩⟩⟩) ⟨?_, hap, ?_⟩ ?_
   · exact Int.fdiv_nonneg h0 (by decide)
   · obtain ⟨k, rfl⟩ := Int.eq_ofNat_of_zero_le h0
     (revert k; tb_start; refine fun k => Ap.mk ?_; intros h0 hw _ _ hap F1 N1)
     rw [← hw, ap_cut k, ← List.append_assoc]
     have hk : k ≠ 0 := by rename (k : Int) ≠ 0 => hne; omega
     rw [show ((k : Int).toNat) = k from rfl, wordI_pos hk]
     dsimp only
     rw [Int.fdiv_eq_ediv_of_nonneg _ (by decide)]
     rfl
   dsimp only
   rw [Int.fdiv_eq_ediv_of_nonneg _ (by decide)]
   rename num ≠ 0 => hne
   omega
 ((try (k_unfold; (try dsimp only))); k_dflt (refine' leaveK_ ?k1 ?k2 ?_; (case k1 => k_asm); (case k2 => k_asm)); intro kF kN; (try dsimp only))
 refine hret _ news _ _ ⟨rfl, _, _, rfl, ?_⟩ kF kN
 rename num = 0 => e0
 rw [← hw, e0]
 rw [show (0 : Int).toNat = 0 from rfl, wordI_zero]; exact hb
section
open PySem.Calls
def Source (prog : Program) (w : World) (A : Around) (target : Expr) (h₀ : Heap) (L : Addr) (m : Str → Option Value) (news : Led) (n : Nat) (P : Nat → Value → Heap → Prop) (it : Value) (s₂ : Shared)
   (I : Addr) (fp wr : List Addr) (Md : Nat → Value → Heap → Prop) (St : Nat → Heap → Prop) : Prop :=
 it = .ref I ∧ KTurns prog w A target I fp wr n P Md St ∧ (∀ (s : Shared) (Q : Value → Shared → Prop) (E : Value → Shared → Prop), St 0 s.heap → Q (.ref I) s → wpAny (model prog w) A (pyIter (.ref I)) Q E s) ∧
   (∀ i h, St i h → ∀ b ∈ wr, ∃ o, h.get? b = some o) ∧ L ∉ fp ∧ (∀ b ∈ wr, h₀.get? b = none) ∧ OwnOff news wr ∧ St 0 s₂.heap ∧ (∀ b ∈ fp, b < s₂.heap.objs.size) ∧ Fr h₀ L s₂.heap m ∧ News h₀ L s₂.heap news ∧ n ≤ sizeLine
variable {prog : Program} {w : World} {A : Around} {E : Value → Shared → Prop} {s : Shared} {h₀ : Heap} {L : Addr} {m : Str → Option Value} {env : Env} {news : Led} {target : Expr}
theorem off_nil {l : Led} : OwnOff l [] := fun _ _ _ h => nomatch h
theorem off_cons {l : Led} {a : Addr} {bs : List Addr} (h : ∀ p ∈ l, p.1 ≠ a) (t : OwnOff l bs) : OwnOff l (a :: bs) := fun p hp b hb => by
 rcases mc hb with rfl | hb
 · exact h p hp
 exact t p hp b hb
theorem off_sub {l l' : Led} {bs : List Addr} (t : OwnOff l bs) (h : ∀ p ∈ l', p ∈ l) : OwnOff l' bs := fun p hp => t p (h p hp)
theorem isList_news {h : Heap} {ax : Addr} {its : Array Value} {k : Nat} (N : News h₀ L h news) (hm : (ax, ({ cls := .type "list", data := .seq its k } : Obj)) ∈ news) : h.IsList ax its := ⟨_, (N _ hm).1, rfl, _, rfl⟩
theorem source_listO {ax : Addr} {its : Array Value} {k : Nat} {K : Value → Shared → Prop} (hh : A.handled = none) (F : Fr h₀ L s.heap m) (N : News h₀ L s.heap news) (hm : (ax, ({ cls := .type "list", data := .seq its k } : Obj)) ∈ news) (hsz : its.size ≤ sizeLine)
   (hgo : ∀ (i : Nat) (v : Value) (s : Shared) (Q : Unit → Shared → Prop) (E : Value → Shared → Prop) (I : Addr) (j : Nat), s.heap.IsListIter I ax j → its[i]? = some v → Q () s → wpAny (model prog w) A (letOwnedTupleGo target (.ref I) v) Q E s)
   (h : ∀ g I fp wr Md St, Source prog w A target h₀ L m news its.size (fun i v _ => its[i]? = some v) (.ref I) { s with heap := g } I fp wr Md St → (∀ b ∈ fp, b = ax ∨ ∀ p ∈ news, p.1 < b) → K (.ref I) { s with heap := g }) :
   wpAny (model prog w) A (pyIter (.ref ax)) K E s := by
 have hl := isList_news N hm
 have hlt : ax < s.heap.objs.size := Heap.lt_size (N _ hm).1
 have W := Walks.list (prog := prog) (w := w) hh s.heap.objs.size ax (Nat.ne_of_lt hlt) its
 have WT : KTurns prog w A target s.heap.objs.size [s.heap.objs.size, ax] [s.heap.objs.size] its.size (fun i v _ => its[i]? = some v) (fun i v h => its[i]? = some v ∧ (h.IsListIter s.heap.objs.size ax (i + 1) ∧ h.IsList ax its)) (fun i h => h.IsListIter s.heap.objs.size ax i ∧ h.IsList ax its) :=
   { sub := W.sub, frame := W.frame, item := fun i s Q E hi st hQ => W.item i s Q E hi st fun v h' tk hP st' hk => hQ v h' tk ⟨hP, st'⟩ hk,
     go := fun i v s Q E hm hQ => hgo i v s Q E _ (i + 1) hm.2.1 hm.1 (hQ s.heap hm.1 hm.2 fun _ _ _ e => e), done := W.done }
 refine wpAny_pyIter_list hl ?_
 refine h _ s.heap.objs.size [s.heap.objs.size, ax] [s.heap.objs.size] _ _ ⟨rfl, WT, fun s Q E st q => W.self 0 s Q E st q, ?_, ?_, ?_, ?_, ⟨⟨_, Heap.get?_push_size _ rfl, rfl, rfl⟩, hl.push _⟩, ?_, F.push _, (fun p hp => ⟨Heap.get?_push_of_some _ (N p hp).1, (N p hp).2⟩), hsz⟩ fun b hb => ?_
 · rintro i h ⟨⟨o, e, _⟩, _⟩ b hb
   rw [ms hb]; exact ⟨o, e⟩
 · rintro hL
   rcases mc hL with e | hL
   · exact absurd F.ns.lt (e ▸ Nat.lt_irrefl _)
   exact (N _ hm).2.1 (ms hL).symm
 · rintro b hb; rw [ms hb]; exact next_is_new F
 · rintro p hp b hb e
   exact absurd (Heap.lt_size (N p hp).1) (by rw [e, ms hb]; exact Nat.lt_irrefl _)
 · rintro b hb
   show b < (s.heap.push _).objs.size
   rw [Heap.size_push]
   rcases mc hb with rfl | hb
   · exact Nat.lt_succ_self _
   rw [ms hb]; exact Nat.lt_succ_of_lt hlt
 rcases mc hb with rfl | hb
 · exact .inr fun p hp => Heap.lt_size (N p hp).1
 exact .inl (ms hb)
theorem source_list {ax : Addr} {its : Array Value} {k : Nat} {K : Value → Shared → Prop} (hh : A.handled = none) (F : Fr h₀ L s.heap m) (N : News h₀ L s.heap news) (hm : (ax, ({ cls := .type "list", data := .seq its k } : Obj)) ∈ news) (hsz : its.size ≤ sizeLine)
   (hgo : ∀ (i : Nat) (v : Value) (s : Shared) (Q : Unit → Shared → Prop) (E : Value → Shared → Prop) (I : Addr) (j : Nat), s.heap.IsListIter I ax j → its[i]? = some v → Q () s → wpAny (model prog w) A (letOwnedTupleGo target (.ref I) v) Q E s)
   (h : ∀ g I fp wr Md St, Source prog w A target h₀ L m news its.size (fun i v _ => its[i]? = some v) (.ref I) { s with heap := g } I fp wr Md St → (∀ b ∈ fp, b = ax ∨ ∀ p ∈ news, p.1 ≠ b) → K (.ref I) { s with heap := g }) :
   wpAny (model prog w) A (pyIter (.ref ax)) K E s :=
 source_listO hh F N hm hsz hgo fun g I fp wr Md St X hf => h g I fp wr Md St X fun b hb => (hf b hb).imp id fun q p hp => Nat.ne_of_lt (q p hp)
theorem hgo_name {x : Str} {px : Pos} {I : Addr} {v : Value} {Q : Unit → Shared → Prop} (q : Q () s) : wpAny (model prog w) A (letOwnedTupleGo (.Name x px) (.ref I) v) Q E s := wpAny_of_eq (a := ()) rfl q
theorem source_range {r : Addr} {a b c : Int} {t u v : Tok} {n : Nat} {K : Value → Shared → Prop} {x : Str} {px : Pos} (hh : A.handled = none) (F : Fr h₀ L s.heap m) (N : News h₀ L s.heap news) (hr : IsRange s.heap r a b c t u v) (hsm : Builtin.Range.small a b c = true) (hn : Builtin.Range.rangeSize a b c = ((n : Nat) : Int)) (hsz : n ≤ sizeLine)
   (h : ∀ g I fp wr Md St, Source prog w A (.Name x px) h₀ L m news n (fun i v _ => ∃ t, v = .int (a + i * c) t) (.ref I) { s with heap := g } I fp wr Md St → K (.ref I) { s with heap := g }) :
   wpAny (model prog w) A (pyIter (.ref r)) K E s := by
 have W := Walks.range (prog := prog) (w := w) hh s.heap.objs.size a c n
 refine wpAny_pyIter_range hr hsm ?_
 refine h _ s.heap.objs.size [s.heap.objs.size] [s.heap.objs.size] _ _ ⟨rfl, KTurns.ofWalks W fun i v s Q E st q => hgo_name q, fun s Q E st q => W.self 0 s Q E st q, ?_, ?_, ?_, ?_, ?_, ?_, F.push _, (fun p hp => ⟨Heap.get?_push_of_some _ (N p hp).1, (N p hp).2⟩), hsz⟩
 · rintro i h st b hb
   rw [ms hb]; exact ⟨_, st⟩
 · rintro hL
   exact absurd F.ns.lt ((ms hL) ▸ Nat.lt_irrefl _)
 · rintro b hb; rw [ms hb]; exact next_is_new F
 · rintro p hp b hb e
   exact absurd (Heap.lt_size (N p hp).1) (by rw [e, ms hb]; exact Nat.lt_irrefl _)
 · show IsRangeIter _ _ _ _ _
   rw [hn]; simpa using Heap.get?_push_size _ rfl
 rintro b hb
 show b < (s.heap.push _).objs.size
 rw [Heap.size_push, ms hb]; exact Nat.lt_succ_self _
theorem source_str {y : Str} {t : Tok} {K : Value → Shared → Prop} {x : Str} {px : Pos} (hh : A.handled = none) (F : Fr h₀ L s.heap m) (N : News h₀ L s.heap news) (hsz : y.cps.size ≤ sizeLine)
   (h : ∀ g I fp wr Md St, Source prog w A (.Name x px) h₀ L m news y.cps.size (fun i v _ => SignAt y i v) (.ref I) { s with heap := g } I fp wr Md St → K (.ref I) { s with heap := g }) :
   wpAny (model prog w) A (pyIter (.str y t)) K E s := by
 have gen : ∀ (o : Obj) (ty : String), (∀ A' : Around, A'.handled = none → Walks prog w A' s.heap.objs.size [s.heap.objs.size] [s.heap.objs.size] y.cps.size (SignAt y) (fun i h => h.IsStrIter s.heap.objs.size ty y t i)) → (s.heap.push o).IsStrIter s.heap.objs.size ty y t 0 → K (.ref s.heap.objs.size) { s with heap := s.heap.push o } := by
   rintro o ty W st
   have W := W A hh
   refine h _ s.heap.objs.size [s.heap.objs.size] [s.heap.objs.size] _ _ ⟨rfl, KTurns.ofWalks W fun i v s Q E st q => hgo_name q, fun s Q E st q => W.self 0 s Q E st q, ?_, ?_, ?_, ?_, st, ?_, F.push _, (fun p hp => ⟨Heap.get?_push_of_some _ (N p hp).1, (N p hp).2⟩), hsz⟩
   · rintro i h ⟨o, e, _⟩ b hb
     rw [ms hb]; exact ⟨_, e⟩
   · rintro hL
     exact absurd F.ns.lt ((ms hL) ▸ Nat.lt_irrefl _)
   · rintro b hb; rw [ms hb]; exact next_is_new F
   · rintro p hp b hb e
     exact absurd (Heap.lt_size (N p hp).1) (by rw [e, ms hb]; exact Nat.lt_irrefl _)
   rintro b hb
   show b < (s.heap.push _).objs.size
   rw [Heap.size_push, ms hb]; exact Nat.lt_succ_self _
 cases ha : y.cps.all (· < 128)
 · exact wpAny_pyIter_wide ha (gen _ _ (fun A' hA => Walks.strWide hA _ y t) ⟨_, Heap.get?_push_size _ rfl, rfl, rfl⟩)
 exact wpAny_pyIter_ascii ha (gen _ _ (fun A' hA => Walks.strAscii hA _ y t) ⟨_, Heap.get?_push_size _ rfl, rfl, rfl⟩)
end
section
open PySem.Calls
variable {prog : Program} {w : World} {A : Around} {E : Value → Shared → Prop} {s : Shared} {h₀ : Heap} {L : Addr} {m : Str → Option Value} {env : Env} {news : Led} {target : Expr}
inductive FEnd {σ : Type} (h₀ : Heap) (L : Addr) (ps : σ → List (Str × Value)) (Led' : σ → Led) (Ok : Nat → σ → Prop) (i : Nat) (wr : List Addr) (own : Led) (s₁ s₂ : Shared) : Prop
 | mk (c' : σ) (h' : Heap) (tk' : Nat) (m' : Str → Option Value) (news' : Led) (x0 : s₂ = { s₁ with heap := h', toks := tk' }) (x1 : Fr h₀ L h' m') (x2 : News h₀ L h' news') (x3 : (∀ p ∈ Led' c', p ∈ news')) (x4 : (∀ p ∈ own, p ∈ news')) (x5 : OwnOff (Led' c') wr) (x6 : (∀ p ∈ ps c', m' p.1 = some p.2)) (x7 : Ok (i + 1) c') : FEnd h₀ L ps Led' Ok i wr own s₁ s₂
theorem FEnd.intro {σ : Type} {ps : σ → List (Str × Value)} {Led' : σ → Led} {Ok : Nat → σ → Prop} {i : Nat} {wr : List Addr} {own : Led} {s₁ : Shared} {h' : Heap} {tk' : Nat} {m' : Str → Option Value} {news' : Led} (c' : σ)
   (F : Fr h₀ L h' m') (N : News h₀ L h' news') (hl : ∀ p ∈ Led' c', p ∈ news') (ho : ∀ p ∈ own, p ∈ news') (off : OwnOff (Led' c') wr) (hm : ∀ p ∈ ps c', m' p.1 = some p.2) (ok : Ok (i + 1) c') :
   FEnd h₀ L ps Led' Ok i wr own s₁ { s₁ with heap := h', toks := tk' } := ⟨c', h', tk', m', news', rfl, F, N, hl, ho, off, hm, ok⟩
def FPost {σ : Type} (h₀ : Heap) (L : Addr) (ps : σ → List (Str × Value)) (Led' : σ → Led) (Ok : Nat → σ → Prop) (i : Nat) (wr : List Addr) (own : Led) (s₁ : Shared) (Q : Flow → Shared → Prop) (f : Flow) (s₂ : Shared) : Prop :=
 match f with
 | .ret v => Q (.ret v) s₂
 | .brk => Q .next s₂
 | _ => FEnd h₀ L ps Led' Ok i wr own s₁ s₂
inductive ForSrc {σ : Type} (prog : Program) (w : World) (A : Around) (h₀ : Heap) (env : Env) (target : Expr) (body : List Stmt) (Q : Flow → Shared → Prop) (ps : σ → List (Str × Value)) (Led' : σ → Led) (Ok : Nat → σ → Prop) (it : Value) (s₂ : Shared) : Prop
 | mk (m : Str → Option Value) (news : Led) (n : Nat) (P : Nat → Value → Heap → Prop) (I : Addr) (fp wr : List Addr) (Md : Nat → Value → Heap → Prop) (St : Nat → Heap → Prop) (c₀ : σ) (x0 : Source prog w A target h₀ env.locals m news n P it s₂ I fp wr Md St) (x1 : (∀ p ∈ Led' c₀, p ∈ news)) (x2 : (∀ p ∈ ps c₀, m p.1 = some p.2)) (x3 : Ok 0 c₀) (x4 : (∀ i v c u h tk own, s₂.toks ≤ tk → i < n → P i v h → Ok i c → OwnOff (Led' c) wr → (∀ b ∈ wr, ∃ o, (b, o) ∈ own) → (∀ p ∈ own, p.1 ∈ fp) → Fr h₀ env.locals h (fm (ps c) u) → News h₀ env.locals h (Led' c ++ own) →
     wpAny (model prog w) A (assign target env v) (fun _ s₃ => wpAny (model prog w) A (execs body env) (FPost h₀ env.locals ps Led' Ok i wr own { s₂ with heap := h, toks := tk } Q) (fun _ _ => False) s₃) (fun _ _ => False) { s₂ with heap := h, toks := tk })) (x5 : ∀ c u h tk, s₂.toks ≤ tk → Ok n c → Fr h₀ env.locals h (fm (ps c) u) → News h₀ env.locals h (Led' c) → Q .next { s₂ with heap := h, toks := tk }) : ForSrc prog w A h₀ env target body Q ps Led' Ok it s₂
inductive FEndG {σ : Type} (Dp : Drawn → Prop) (h₀ : Heap) (L : Addr) (ps : σ → List (Str × Value)) (Led' : σ → Led) (Ok : Nat → σ → Prop) (i : Nat) (wr : List Addr) (own : Led) (s₁ s₂ : Shared) : Prop
 | mk (c' : σ) (h' : Heap) (tk' : Nat) (dr' : Drawn) (m' : Str → Option Value) (news' : Led) (x0 : Dp dr') (x1 : s₂ = { s₁ with heap := h', toks := tk', drawn := dr' }) (x2 : Fr h₀ L h' m') (x3 : News h₀ L h' news') (x4 : (∀ p ∈ Led' c', p ∈ news')) (x5 : (∀ p ∈ own, p ∈ news')) (x6 : OwnOff (Led' c') wr) (x7 : (∀ p ∈ ps c', m' p.1 = some p.2)) (x8 : Ok (i + 1) c') : FEndG Dp h₀ L ps Led' Ok i wr own s₁ s₂
def FPostG {σ : Type} (Dp : Drawn → Prop) (h₀ : Heap) (L : Addr) (ps : σ → List (Str × Value)) (Led' : σ → Led) (Ok : Nat → σ → Prop) (i : Nat) (wr : List Addr) (own : Led) (s₁ : Shared) (Q : Flow → Shared → Prop) (f : Flow) (s₂ : Shared) : Prop :=
 match f with
 | .ret v => Q (.ret v) s₂
 | .brk => Q .next s₂
 | _ => FEndG Dp h₀ L ps Led' Ok i wr own s₁ s₂
inductive ForSrcG {σ : Type} (Dp : Drawn → Prop) (prog : Program) (w : World) (A : Around) (h₀ : Heap) (env : Env) (target : Expr) (body : List Stmt) (Q : Flow → Shared → Prop) (ps : σ → List (Str × Value)) (Led' : σ → Led) (Ok : Nat → σ → Prop) (it : Value) (s₂ : Shared) : Prop
 | mk (m : Str → Option Value) (news : Led) (n : Nat) (P : Nat → Value → Heap → Prop) (I : Addr) (fp wr : List Addr) (Md : Nat → Value → Heap → Prop) (St : Nat → Heap → Prop) (c₀ : σ) (x0 : Source prog w A target h₀ env.locals m news n P it s₂ I fp wr Md St) (x1 : (∀ p ∈ Led' c₀, p ∈ news)) (x2 : (∀ p ∈ ps c₀, m p.1 = some p.2)) (x3 : Ok 0 c₀) (x4 : Dp s₂.drawn) (x5 : (∀ i v c u h tk dr own, Dp dr → s₂.toks ≤ tk → i < n → P i v h → Ok i c → OwnOff (Led' c) wr → (∀ b ∈ wr, ∃ o, (b, o) ∈ own) → (∀ p ∈ own, p.1 ∈ fp) → Fr h₀ env.locals h (fm (ps c) u) → News h₀ env.locals h (Led' c ++ own) →
     wpAny (model prog w) A (assign target env v) (fun _ s₃ => wpAny (model prog w) A (execs body env) (FPostG Dp h₀ env.locals ps Led' Ok i wr own { s₂ with heap := h, toks := tk, drawn := dr } Q) (fun _ _ => False) s₃) (fun _ _ => False) { s₂ with heap := h, toks := tk, drawn := dr })) (x6 : ∀ c u h tk dr, Dp dr → s₂.toks ≤ tk → Ok n c → Fr h₀ env.locals h (fm (ps c) u) → News h₀ env.locals h (Led' c) → Q .next { s₂ with heap := h, toks := tk, drawn := dr }) : ForSrcG Dp prog w A h₀ env target body Q ps Led' Ok it s₂
theorem for_invG {σ : Type} {iter : Expr} {body : List Stmt} {pos : Pos} {Q : Flow → Shared → Prop} (F : Fr h₀ env.locals s.heap m)
   (h : wpAny (model prog w) A (eval iter env) (fun xv s₁ => wpAny (model prog w) A (pyIter xv) (fun it s₂ => ∃ (Dp : Drawn → Prop) (ps : σ → List (Str × Value)) (Led' : σ → Led) (Ok : Nat → σ → Prop), ForSrcG Dp prog w A h₀ env target body Q ps Led' Ok it s₂) (fun _ _ => False) s₁) (fun _ _ => False) s)
   (hs : ∀ x, foldedSetIterable iter env x = pure x) :
   wpAny (model prog w) A (exec (.For target iter body [] pos) env) Q (fun _ _ => False) s := by
 refine wpAny_For (wpAny_mono h (fun xv s₁ h₁ => wpAny_mono h₁ (fun it s₂ h₂ => ?_) fun _ _ e => e) fun _ _ e => e) hs
 obtain ⟨Dp, ps, Led', Ok, m₀, news, n, P, I, fp, wr, Md, St, c₀, ⟨rfl, W, self, hex, hL, hwr, off, st, hfp, F₀, N₀, hsz⟩, hl, hm, ok, hdp0, turn, done⟩ := h₂
 have hLw : env.locals ∉ wr := fun h => hL (W.sub _ h)
 have old : ∀ b o, h₀.get? b = some o → b ∉ wr := fun b o e hb => by rw [hwr b hb] at e; cases e
 refine codeAny_forLoop_any
   (fun k s' => ∃ h' tk dr m' i c, Dp dr ∧ s' = { s₂ with heap := h', toks := tk, drawn := dr } ∧ s₂.toks ≤ tk ∧ St i h' ∧ Fr h₀ env.locals h' m' ∧ News h₀ env.locals h' (Led' c) ∧ OwnOff (Led' c) wr ∧ (∀ p ∈ ps c, m' p.1 = some p.2) ∧ Ok i c ∧ i ≤ n ∧ k = n + 1 - i) ?_ (n + 1)
   ⟨s₂.heap, s₂.toks, s₂.drawn, m₀, 0, c₀, hdp0, rfl, Nat.le_refl _, st, F₀, (fun p hp => N₀ p (hl p hp)), off_sub off hl, hm, ok, Nat.zero_le _, rfl⟩
 rintro k s' ⟨h', tk, dr, m', i, c, hdp, rfl, htk, hst', F', N', hoff, hm', hok, hi, rfl⟩
 have next : ∀ h₁ : Heap, (∀ b o, b ∉ wr → h'.get? b = some o → h₁.get? b = some o) → Fr h₀ env.locals h₁ m' ∧ News h₀ env.locals h₁ (Led' c) := fun h₁ hk₁ =>
   ⟨⟨F'.ns.at' fun o e => hk₁ _ o hLw e, fun b o e => hk₁ b o (old b o e) (F'.keep b o e), F'.above⟩, fun p hp => ⟨hk₁ _ _ (fun hb => hoff p hp _ hb rfl) (N' p hp).1, (N' p hp).2⟩⟩
 refine wp_noE (wp_ge (n := s₂.toks) htk ?_)
 by_cases hlt : i < n
 · refine W.item i _ _ _ hlt hst' fun v h₁ tk₁ hMd hk₁ htk₁ => ?_
   refine W.go i v _ _ _ hMd fun h₂ hP hst₂ hk₂ => ?_
   obtain ⟨F₂, N₂⟩ := next h₂ fun b o hb x => hk₂ b o hb (hk₁ b o hb x)
   have Nown : News h₀ env.locals h₂ (ownOf h₀ fp h₂) := news_ownOf hL
   refine wp_noE ?_
   refine wp_ge (n := s₂.toks) htk₁ (wpAny_mono (turn i v c m' h₂ tk₁ dr (ownOf h₀ fp h₂) hdp htk₁ hlt hP hok hoff (fun b hb => ?_) (fun p hp => ownOf_sub p hp) (by rw [fm_eq hm']; exact F₂) fun p hp => (ma hp).elim (N₂ p) (Nown p)) (fun _ s₃ h₃ => fun ht₃ => ?_) fun _ _ e => e)
   · obtain ⟨o, e⟩ := hex _ _ hst₂ b hb
     exact ⟨o, mem_ownOf (W.sub b hb) (hwr b hb) e⟩
   refine wp_noE (wp_ge (n := s₂.toks) ht₃ (wpAny_mono h₃ (fun f s₄ q => fun ht₄ => ?_) fun _ _ e => e))
   have fin : FEndG Dp h₀ env.locals ps Led' Ok i wr (ownOf h₀ fp h₂) { s₂ with heap := h₂, toks := tk₁, drawn := dr } s₄ → ∃ mm, mm < n + 1 - i ∧ ∃ h' tk dr m' i c, Dp dr ∧ s₄ = { s₂ with heap := h', toks := tk, drawn := dr } ∧ s₂.toks ≤ tk ∧ St i h' ∧ Fr h₀ env.locals h' m' ∧ News h₀ env.locals h' (Led' c) ∧ OwnOff (Led' c) wr ∧ (∀ p ∈ ps c, m' p.1 = some p.2) ∧ Ok i c ∧ i ≤ n ∧ mm = n + 1 - i := by
     rintro ⟨c', h₄, tk₄, dr₄, m₄, news₄, hdp4, rfl, F₄, N₄, hl', ho', hoff', hm₄, ok'⟩
     refine ⟨n + 1 - (i + 1), by omega, h₄, tk₄, dr₄, m₄, i + 1, c', hdp4, rfl, ht₄, ?_, F₄, (fun p hp => N₄ p (hl' p hp)), hoff', hm₄, ok', hlt, rfl⟩
     refine W.frame _ _ _ hst₂ fun b hb o e => ?_
     cases hn : h₀.get? b with
     | some o₀ =>
       have : o₀ = o := by have q := F₂.keep b o₀ hn; rw [e] at q; exact (Option.some.inj q).symm
       exact this ▸ F₄.keep b o₀ hn
     | none => exact (N₄ _ (ho' _ (mem_ownOf hb hn e))).1
   cases f with
   | ret v => exact q
   | brk => exact q
   | next => exact fin q
   | cont => exact fin q
 have hin : i = n := by omega
 subst hin
 refine W.done _ _ _ hst' fun h₁ tk₁ hk₁ htk₁ => wp_noE (wpAny_execs_nil ?_)
 obtain ⟨F₁, N₁⟩ := next h₁ hk₁
 exact done c m' h₁ tk₁ dr hdp htk₁ hok (by rw [fm_eq hm']; exact F₁) N₁
theorem ForSrc.toG {σ : Type} {body : List Stmt} {Q : Flow → Shared → Prop} {ps : σ → List (Str × Value)} {Led' : σ → Led} {Ok : Nat → σ → Prop} {it : Value} {s₂ : Shared} (h : ForSrc prog w A h₀ env target body Q ps Led' Ok it s₂) : ForSrcG (fun dr => dr = s₂.drawn) prog w A h₀ env target body Q ps Led' Ok it s₂ := by
 obtain ⟨m₀, news, n, P, I, fp, wr, Md, St, c₀, S, hl, hm, ok, turn, done⟩ := h
 refine ⟨m₀, news, n, P, I, fp, wr, Md, St, c₀, S, hl, hm, ok, rfl, ?_, ?_⟩
 · rintro i v c u h tk dr own rfl h1 h2 h3 h4 h5 h6 h7 F N
   refine wpAny_mono (turn i v c u h tk own h1 h2 h3 h4 h5 h6 h7 F N) (fun _ s₃ q => wpAny_mono q (fun f s₄ q => ?_) fun _ _ e => e) fun _ _ e => e
   have fin : FEnd h₀ env.locals ps Led' Ok i wr own { s₂ with heap := h, toks := tk } s₄ → FEndG (fun dr => dr = s₂.drawn) h₀ env.locals ps Led' Ok i wr own { s₂ with heap := h, toks := tk } s₄ := by
     rintro ⟨c', h', tk', m', news', rfl, r1, r2, r3, r4, r5, r6, r7⟩
     exact ⟨c', h', tk', _, m', news', rfl, rfl, r1, r2, r3, r4, r5, r6, r7⟩
   cases f with
   | ret v => exact q
   | brk => exact q
   | next => exact fin q
   | cont => exact fin q
 rintro c u h tk dr rfl h1 h2 F N
 exact done c u h tk h1 h2 F N
theorem for_inv {σ : Type} {iter : Expr} {body : List Stmt} {pos : Pos} {Q : Flow → Shared → Prop} (ps : σ → List (Str × Value)) (Led' : σ → Led) (Ok : Nat → σ → Prop) (F : Fr h₀ env.locals s.heap m)
   (h : wpAny (model prog w) A (eval iter env) (fun xv s₁ => wpAny (model prog w) A (pyIter xv) (ForSrc prog w A h₀ env target body Q ps Led' Ok) (fun _ _ => False) s₁) (fun _ _ => False) s)
   (hs : ∀ x, foldedSetIterable iter env x = pure x) :
   wpAny (model prog w) A (exec (.For target iter body [] pos) env) Q (fun _ _ => False) s   :=
 for_invG F (wpAny_mono h (fun _ _ h₁ => wpAny_mono h₁ (fun _ _ h₂ => ⟨_, ps, Led', Ok, h₂.toG⟩) fun _ _ e => e) fun _ _ e => e) hs
def CEnd (h₀ : Heap) (L : Addr) (m : Str → Option Value) (s₁ : Shared) (C D : Addr) (oD : Obj) (wr : List Addr) (own : Led) (rest : Led → Prop) (s₂ : Shared) : Prop :=
 ∃ h' tk oC' m₂' news', s₂ = { s₁ with heap := h', toks := tk } ∧ Fr h₀ L h' m ∧ News h₀ L h' ((C, oC') :: (D, oD) :: (news' ++ own)) ∧ LCg.NsObj oC' m₂' ∧ OwnOff news' (C :: D :: wr) ∧ rest news'
abbrev testsOf (ifs : List Expr) (env : Env) : Sem Bool := forIn ifs true fun c r => if r = true then do let ok ← isTrue c env (eval c env); pure (ForInStep.yield ok) else pure (ForInStep.yield r)
theorem CEnd.intro {s₁ : Shared} {C D : Addr} {oD : Obj} {wr : List Addr} {own all : Led} {rest : Led → Prop} {oC' : Obj} {m₂' : Str → Option Value} {h' : Heap} {tk : Nat}
   (F : Fr h₀ L h' m) (N : News h₀ L h' all) (hC : LCg.NsObj oC' m₂') (news' : Led) (sub : ∀ p ∈ (C, oC') :: (D, oD) :: (news' ++ own), p ∈ all) (off : OwnOff news' (C :: D :: wr)) (r : rest news') :
   CEnd h₀ L m s₁ C D oD wr own rest { s₁ with heap := h', toks := tk } :=
 ⟨h', tk, oC', m₂', news', rfl, F, fun p hp => N p (sub p hp), hC, off, r⟩
def CTurnL (prog : Program) (w : World) (A : Around) (h₀ : Heap) (L : Addr) (m : Str → Option Value) (env : Env) (elt target : Expr) (ifs : List Expr) (scope : Scope) (cl : List (Str × Addr)) (s₂ : Shared) (wr : List Addr) (n : Nat) (P : Nat → Value → Heap → Prop) (J : Nat → List Value → Led → Prop) : Prop :=
 ∀ i v C oC D m₂ h tk ys nw own, s₂.toks ≤ tk → i < n → P i v h → J i ys nw → LCg.NsObj oC m₂ → Fr h₀ L h m → News h₀ L h ((C, oC) :: (D, LCg.lst ys) :: (nw ++ own)) → OwnOff nw (C :: D :: wr) → OwnOff own [C, D] → (∀ b ∈ wr, ∃ o, (b, o) ∈ own) → (@Ne Nat C D) → (@Ne Nat C L) → (@Ne Nat D L) → h₀.get? C = none →
   wpAny (model prog w) A (assign target (compEnvC scope cl C env) v) (fun _ s₃ => wpAny (model prog w) A (testsOf ifs (compEnvC scope cl C env)) (fun ok s₄ =>
     if ok = true then wpAny (model prog w) A (eval elt (compEnvC scope cl C env)) (fun y => CEnd h₀ L m { s₂ with heap := h, toks := tk } C D (LCg.lst ys) wr own (fun nw' => J (i + 1) (ys ++ [y]) nw')) (fun _ _ => False) s₄
     else CEnd h₀ L m { s₂ with heap := h, toks := tk } C D (LCg.lst ys) wr own (fun nw' => J (i + 1) ys nw') s₄) (fun _ _ => False) s₃) (fun _ _ => False) { s₂ with heap := h, toks := tk }
theorem codeAny_compLoop_gen {elt target iter : Expr} {ifs : List Expr} {scope : Scope} {pos : Pos} {it acc : Value} {R : Result → Shared → Prop} (I : Nat → Shared → Prop)
   (turn : ∀ n s, I n s → wpAny (model prog w) A (pyNext it) (fun r s₁ => match r with
     | none => R (.ok .next) s₁
     | some v => wpAny (model prog w) A (letOwnedTupleGo target it v) (fun _ s₀ => wpAny (model prog w) A (assign target env v) (fun _ s₂ =>
         wpAny (model prog w) A (testsOf ifs env) (fun ok s₃ =>
           if ok = true then wpAny (model prog w) A (eval elt env) (fun x s₄ =>
             wpAny (model prog w) A (call (.builtin "list.append") [acc, x]) (fun _ s₅ => ∃ m, m < n ∧ I m s₅) (fun _ _ => False) s₄) (fun _ _ => False) s₃
           else ∃ m, m < n ∧ I m s₃) (fun _ _ => False) s₂) (fun _ _ => False) s₀) (fun _ _ => False) s₁) (fun _ _ => False) s)
   (n : Nat) (h : I n s) :
   codeAny (model prog w) A (.compLoop (.ListComp elt [⟨target, iter, ifs, 0⟩] scope pos) 0 it acc env) R s := by
 refine codeAny_loop rfl I (fun n s hI => ?_) n h
 show wpAny _ A ((compTurn (.ListComp elt [⟨target, iter, ifs, 0⟩] scope pos) 0 it acc env).onRaise (fun x => do noteFrame x env; theTreesLotGoes x)) _ _ s
 refine wpAny_noted (wp_noE ?_)
 rw [compTurn_list]
 refine wpAny_bind (wpAny_standAt (wpAny_bind (wpAny_mono (turn n s hI) (fun r s₁ h₁ => ?_) fun _ _ h' => h')))
 cases r with
 | none => exact wpAny_pure h₁
 | some v =>
   refine wpAny_bind (wpAny_mono h₁ (fun _ s₀ h₀' => ?_) fun _ _ h' => h')
   refine wpAny_bind (wpAny_mono h₀' (fun _ s₂ h₂ => wpAny_bind (wpAny_mono h₂ (fun ok s₃ h₃ => ?_) fun _ _ h' => h')) fun _ _ h' => h')
   cases ok with
   | false => exact wpAny_pure ⟨rfl, h₃⟩
   | true =>
     exact wpAny_bind (wpAny_bind (wpAny_mono h₃ (fun x s₄ h₄ => wpAny_bind (wpAny_mono h₄ (fun _ s₅ h₅ => wpAny_pure (wpAny_pure ⟨rfl, h₅⟩)) fun _ _ h' => h')) fun _ _ h' => h'))
theorem codeAny_compLoop_genD {kx vx target iter : Expr} {ifs : List Expr} {scope : Scope} {pos : Pos} {it : Value} {D : Addr} {R : Result → Shared → Prop} (I : Nat → Shared → Prop)
   (turn : ∀ n s, I n s → wpAny (model prog w) A (pyNext it) (fun r s₁ => match r with
     | none => R (.ok .next) s₁
     | some v => wpAny (model prog w) A (letOwnedTupleGo target it v) (fun _ s₀ => wpAny (model prog w) A (assign target env v) (fun _ s₂ =>
         wpAny (model prog w) A (testsOf ifs env) (fun ok s₃ =>
           if ok = true then wpAny (model prog w) A (eval kx env) (fun kv s₄ => wpAny (model prog w) A (eval vx env) (fun vv s₅ =>
             wpAny (model prog w) A (dictSet D kv vv) (fun _ s₆ => ∃ m, m < n ∧ I m s₆) (fun _ _ => False) s₅) (fun _ _ => False) s₄) (fun _ _ => False) s₃
           else ∃ m, m < n ∧ I m s₃) (fun _ _ => False) s₂) (fun _ _ => False) s₀) (fun _ _ => False) s₁) (fun _ _ => False) s)
   (n : Nat) (h : I n s) :
   codeAny (model prog w) A (.compLoop (.DictComp kx vx [⟨target, iter, ifs, 0⟩] scope pos) 0 it (.ref D) env) R s := by
 (revert turn h; revert prog w A s env kx vx target iter ifs scope pos it D R I n; with_reducible refine (no_implicit_lambda% (Drk6.all (by kpf_c) ((?_ : All6 _) _ _ _ _ _ _))); refine fun prog w A s env kx => Ap6.mk ?_; with_reducible refine (no_implicit_lambda% (Drk6.all (by kpf_c) ((?_ : All6 _) _ _ _ _ _ _))); refine fun vx target iter ifs scope pos => Ap6.mk ?_; with_reducible refine (no_implicit_lambda% (Drk5.all (by kpf_c) ((?_ : All5 _) _ _ _ _ _))); refine fun it D R I n => Ap5.mk ?_; intros turn h)
 refine codeAny_loop rfl I (fun n s hI => ?_) n h
 show wpAny _ A ((compTurn (.DictComp kx vx [⟨target, iter, ifs, 0⟩] scope pos) 0 it (.ref D) env).onRaise (fun x => do noteFrame x env; theTreesLotGoes x)) _ _ s
 refine wpAny_noted (wp_noE ?_)
 rw [compTurn_dict]
 refine wpAny_bind (wpAny_standAt (wpAny_bind (wpAny_mono (turn n s hI) (fun r s₁ h₁ => ?_) fun _ _ h' => h')))
 cases r with
 | none => exact wpAny_pure h₁
 | some v =>
   refine wpAny_bind (wpAny_mono h₁ (fun _ s₀ h₀' => ?_) fun _ _ h' => h')
   refine wpAny_bind (wpAny_mono h₀' (fun _ s₂ h₂ => wpAny_bind (wpAny_mono h₂ (fun ok s₃ h₃ => ?_) fun _ _ h' => h')) fun _ _ h' => h')
   cases ok with
   | false => exact wpAny_pure ⟨rfl, h₃⟩
   | true =>
     exact wpAny_bind (wpAny_bind (wpAny_mono h₃ (fun kv s₄ h₄ => wpAny_bind (wpAny_holding (wpAny_mono h₄ (fun vv s₅ h₅ => wpAny_bind (wpAny_standAt (wpAny_holding (wpAny_mono h₅ (fun _ s₆ h₆ => wpAny_pure ⟨rfl, h₆⟩) fun _ _ h' => h')))) fun _ _ h' => h'))) fun _ _ h' => h'))
theorem block_own {n : Nat} {P : Nat → Value → Heap → Prop} {I : Addr} {fp wr : List Addr} {Md : Nat → Value → Heap → Prop} {St : Nat → Heap → Prop} (W : KTurns prog w A target I fp wr n P Md St)
   (hex : ∀ i h, St i h → ∀ b ∈ wr, ∃ o, h.get? b = some o) (hwr : ∀ b ∈ wr, h₀.get? b = none) {i : Nat} {h : Heap} (st : St i h) : ∀ b ∈ wr, ∃ o, (b, o) ∈ ownOf h₀ fp h := fun b hb => by
 obtain ⟨o, e⟩ := hex _ _ st b hb
 exact ⟨o, mem_ownOf (W.sub b hb) (hwr b hb) e⟩
theorem block_st {n : Nat} {P : Nat → Value → Heap → Prop} {I : Addr} {fp wr : List Addr} {Md : Nat → Value → Heap → Prop} {St : Nat → Heap → Prop} (W : KTurns prog w A target I fp wr n P Md St) {i : Nat} {h h' : Heap} {all : Led}
   (st : St i h) (keep : ∀ b o, h₀.get? b = some o → h.get? b = some o) (F : Fr h₀ L h' m) (N : News h₀ L h' all) (hs : ∀ p ∈ ownOf h₀ fp h, p ∈ all) : St i h' :=
 W.frame _ _ _ st fun b hb o e => by
   cases hn : h₀.get? b with
   | some o₀ =>
     have : o₀ = o := by have q := keep b o₀ hn; rw [e] at q; exact (Option.some.inj q).symm
     exact this ▸ F.keep b o₀ hn
   | none => exact (N _ (hs _ (mem_ownOf hb hn e))).1
theorem block_keep {wr : List Addr} {D C : Addr} {m' : Str → Option Value} {oD : Obj} {nw : Led} {h h' : Heap} (F : Fr h₀ L h m) (N : News h₀ L h ((D, oD) :: nw)) (hn : h.Ns C m') (off : OwnOff nw (C :: D :: wr)) (hwr : ∀ b ∈ wr, h₀.get? b = none)
   (hLw : L ∉ wr) (hDw : D ∉ wr) (hCw : C ∉ wr) (hk : ∀ b o, b ∉ wr → h.get? b = some o → h'.get? b = some o) : Fr h₀ L h' m ∧ News h₀ L h' ((D, oD) :: nw) ∧ h'.Ns C m' :=
 ⟨⟨F.ns.at' fun o e => hk _ o hLw e, fun b o e => hk b o (fun hb => by rw [hwr b hb] at e; cases e) (F.keep b o e), F.above⟩, fun p hp => by
   refine ⟨hk _ _ ?_ (N p hp).1, (N p hp).2⟩
   rcases mc hp with rfl | hp
   · exact hDw
   exact fun hb => off p hp _ (.tail _ (.tail _ hb)) rfl, hn.at' fun o e => hk _ o hCw e⟩
theorem block_L {elt iter : Expr} {ifs : List Expr} {scope : Scope} {cl : List (Str × Addr)} {pos : Pos} {s₂ : Shared} {I : Addr} {fp wr : List Addr} {n : Nat} {P Md : Nat → Value → Heap → Prop} {St : Nat → Heap → Prop} {it : Value}
   {RR : Value → Addr → Result → Shared → Prop} (J : Nat → List Value → Led → Prop) {nw₀ : Led}
   (X : Source prog w A target h₀ L m news n P it s₂ I fp wr Md St) (hsub : ∀ p ∈ nw₀, p ∈ news)
   (hcell : ∀ y ∈ scope.names, y.2 ≠ .cell) (hkind : scope.kind = .function) (h0 : J 0 [] nw₀)
   (turn : CTurnL prog w A h₀ L m env elt target ifs scope cl s₂ wr n P J)
   (hRR : ∀ D C h tk m' ys nw, s₂.toks ≤ tk → Fr h₀ L h m → News h₀ L h ((D, LCg.lst ys) :: nw) → OwnOff nw [C, D] → h.Ns C m' → h₀.get? C = none → h₀.get? D = none → C ≠ L → D ≠ L → C ≠ D → (∀ p ∈ news, p.1 < D) → J n ys nw → RR (.ref D) C (.ok .next) { s₂ with heap := h, toks := tk }) :
   wpAny (model prog w) A (newList []) (fun acc s₃ => wpAny (model prog w) A (newFunctionEnv scope env.globals cl [] env.qual none .none (some env)) (fun cenv s₄ =>
     codeAny (model prog w) A (.compStart (.ListComp elt [⟨target, iter, ifs, 0⟩] scope pos) 0 it acc { cenv with scope := relabel scope env }) (RR acc cenv.locals) s₄) E s₃) E s₂ := by
 (revert X hsub hcell hkind h0 turn hRR; revert prog w A E h₀ L m env news target elt iter ifs scope cl pos s₂ I fp wr n P Md St it RR J nw₀; with_reducible refine (no_implicit_lambda% (Drk7.all (by kpf_c) ((?_ : All7 _) _ _ _ _ _ _ _))); refine fun prog w A E h₀ L m => Ap7.mk ?_; with_reducible refine (no_implicit_lambda% (Drk7.all (by kpf_c) ((?_ : All7 _) _ _ _ _ _ _ _))); refine fun env news target elt iter ifs scope => Ap7.mk ?_; with_reducible refine (no_implicit_lambda% (Drk7.all (by kpf_c) ((?_ : All7 _) _ _ _ _ _ _ _))); refine fun cl pos s₂ I fp wr n => Ap7.mk ?_; with_reducible refine (no_implicit_lambda% (Drk7.all (by kpf_c) ((?_ : All7 _) _ _ _ _ _ _ _))); refine fun P Md St it RR J nw₀ => Ap7.mk ?_; intros X hsub hcell hkind h0 turn hRR)
 obtain ⟨rfl, W, self, hex, hLf, hwr, off, hst, hfp, F, N, hsz⟩ := X
 refine wpAny_newObj_type (wpAny_newFunctionEnv hcell (by rintro y hy; simp at hy) (fun h₁ hns₁ hsb₁ => ?_) hkind)
 dsimp only at hns₁ hsb₁ ⊢
 generalize hH2 : s₂.heap.push { cls := .type "list", dict := none, data := .seq ([] : List Value).toArray } = H2 at hns₁ hsb₁ ⊢
 have hC : H2.objs.size = s₂.heap.objs.size + 1 := by rw [← hH2, Heap.size_push]
 have hDC : s₂.heap.objs.size ≠ H2.objs.size := by rw [hC]; exact Nat.ne_of_lt (Nat.lt_succ_self _)
 have below : ∀ b, b < s₂.heap.objs.size → b ≠ H2.objs.size ∧ b ≠ s₂.heap.objs.size := fun b hb => ⟨by rw [hC]; exact Nat.ne_of_lt (Nat.lt_succ_of_lt hb), Nat.ne_of_lt hb⟩
 have hDf : s₂.heap.objs.size ∉ fp := fun hm => Nat.lt_irrefl _ (hfp _ hm)
 have hCf : H2.objs.size ∉ fp := fun hm => by have := hfp _ hm; rw [hC] at this; exact Nat.lt_irrefl _ (Nat.lt_of_succ_lt this)
 have hLw : L ∉ wr := fun h => hLf (W.sub _ h)
 have hDw : s₂.heap.objs.size ∉ wr := fun h => hDf (W.sub _ h)
 have hCw : H2.objs.size ∉ wr := fun h => hCf (W.sub _ h)
 have old : ∀ b o, s₂.heap.get? b = some o → h₁.get? b = some o := fun b o e => hsb₁.extBut b o (below b (Heap.lt_size e)).1 (Heap.get?_push_of_some _ (hH2 ▸ Heap.get?_push_of_some _ e))
 have hacc : h₁.get? s₂.heap.objs.size = some (LCg.lst []) := hsb₁.extBut _ _ hDC (Heap.get?_push_of_some _ (hH2 ▸ Heap.get?_push_size _ rfl))
 have hst₁ : St 0 h₁ := W.frame _ _ _ hst fun b _ o e => old b o e
 have fresh₀ : ∀ a, s₂.heap.objs.size ≤ a → h₀.get? a = none := fun a ha => by
   cases e : h₀.get? a with
   | none => rfl
   | some o' => exact absurd (Heap.lt_size (F.keep a o' e)) (Nat.not_lt.mpr ha)
 have hD₀ : h₀.get? s₂.heap.objs.size = none := fresh₀ _ (Nat.le_refl _)
 have hC₀ : h₀.get? H2.objs.size = none := fresh₀ _ (by rw [hC]; exact Nat.le_succ _)
 have hLlt : L < s₂.heap.objs.size := F.ns.lt
 have hDL : s₂.heap.objs.size ≠ L := Ne.symm (below L hLlt).2
 have hCL : H2.objs.size ≠ L := Ne.symm (below L hLlt).1
 have off₀ : OwnOff nw₀ (H2.objs.size :: s₂.heap.objs.size :: wr) := off_cons (fun p hp => (below _ (Heap.lt_size (N p (hsub p hp)).1)).1) (off_cons (fun p hp => (below _ (Heap.lt_size (N p (hsub p hp)).1)).2) (off_sub off hsub))
 have loop : ∀ s₃ : Shared, s₃ = { s₂ with heap := h₁, toks := s₂.toks + ([] : List (Str × Value)).length } →
     codeAny (model prog w) A (.compLoop (.ListComp elt [⟨target, iter, ifs, 0⟩] scope pos) 0 (.ref I) (.ref s₂.heap.objs.size) (compEnvC scope cl H2.objs.size env))
       (RR (.ref s₂.heap.objs.size) H2.objs.size) s₃ := by
   rintro s₃ rfl
   (revert hH2 hns₁ hsb₁ hC hDC below hCf hCw old hacc hst₁ hC₀ hCL off₀; revert h₁ H2; with_reducible refine Drk2.all (by kpf_c) ((?_ : All2 _) _ _); refine fun h₁ H2 => Ap2.mk ?_; intros hH2 hns₁ hsb₁ hC hDC below hCf hCw old hacc hst₁ hC₀ hCL off₀)
   refine codeAny_compLoop_gen
     (fun k s' => ∃ h' tk i ys m' nw, s' = { s₂ with heap := h', toks := tk } ∧ s₂.toks ≤ tk ∧ i ≤ n ∧ k = n + 1 - i ∧ ys.length ≤ i ∧ St i h' ∧ Fr h₀ L h' m ∧ h'.Ns H2.objs.size m' ∧ News h₀ L h' ((s₂.heap.objs.size, LCg.lst ys) :: nw) ∧
       OwnOff nw (H2.objs.size :: s₂.heap.objs.size :: wr) ∧ J i ys nw) ?_ (n + 1)
     ⟨h₁, _, 0, [], _, nw₀, rfl, Nat.le_add_right _ _, Nat.zero_le _, rfl, Nat.le_refl _, hst₁, F.keeps old, hns₁, fun p hp => ?_, off₀, h0⟩
   · rintro k s' ⟨h', tk, i, ys, m', nw, rfl, htk, hi, rfl, hyl, hst', F', hn', N', off', j'⟩
     (revert htk hi hyl hst' F' hn' N' off' j'; revert h' tk i ys m' nw; with_reducible refine Drk6.all (by kpf_c) ((?_ : All6 _) _ _ _ _ _ _); refine fun h' tk i ys m' nw => Ap6.mk ?_; intros htk hi hyl hst' F' hn' N' off' j')
     refine wp_ge (n := s₂.toks) htk ?_
     by_cases hlt : i < n
     · refine W.item i _ _ _ hlt hst' fun v h₂ tk₂ hMd hk₂ htk₂ => ?_
       (revert hMd hk₂ htk₂; revert v h₂ tk₂; with_reducible refine Drk3.all (by kpf_c) ((?_ : All3 _) _ _ _); refine fun v h₂ tk₂ => Ap3.mk ?_; intros hMd hk₂ htk₂)
       refine W.go i v _ _ _ hMd fun h₃ hP hst₃ hk₃ => ?_
       (revert hP hst₃ hk₃; revert h₃; tb_start; refine fun h₃ => Ap.mk ?_; intros hP hst₃ hk₃)
       obtain ⟨F₃, N₃, hn₃⟩ := block_keep (h' := h₃) F' N' hn' off' hwr hLw hDw hCw fun b o hb e => hk₃ b o hb (hk₂ b o hb e)
       obtain ⟨oC, heC, hoC⟩ := LCg.ns_obj hn₃
       (revert heC hoC; revert oC; tb_start; refine fun oC => Ap.mk ?_; intros heC hoC)
       have No := news_ownOf (h₀ := h₀) (h := h₃) (L := L) (fp := fp) hLf
       refine wp_ge (n := s₂.toks) htk₂ ?_
       refine wpAny_mono (turn i v H2.objs.size oC s₂.heap.objs.size _ h₃ tk₂ ys nw (ownOf h₀ fp h₃) htk₂ hlt hP j' hoC F₃ (fun p hp => ?_) off' (fun p hp b hb e => by
         have hpf := ownOf_sub p hp
         rcases mc hb with rfl | hb
         · exact hCf (e ▸ hpf)
         rw [ms hb] at e; exact hDf (e ▸ hpf)) (block_own W hex hwr hst₃) (Ne.symm hDC) hCL hDL hC₀) (fun _ s₃ h₃' => fun ht₃ => ?_) fun _ _ e => e.elim
       · rcases mc hp with rfl | hp
         · exact ⟨heC, hCL, hC₀⟩
         rcases mc hp with rfl | hp
         · exact N₃ _ (.head _)
         rcases ma hp with hp | hp
         · exact N₃ _ (.tail _ hp)
         exact No p hp
       refine wp_ge (n := s₂.toks) ht₃ (wpAny_mono h₃' (fun ok s₄ h₄ => fun ht₄ => ?_) fun _ _ e => e.elim)
       cases ok with
       | true =>
         simp only [if_true] at h₄ ⊢
         refine wp_ge (n := s₂.toks) ht₄ (wpAny_mono h₄ (fun y s₅ h₅ => fun ht₅ => ?_) fun _ _ e => e.elim)
         obtain ⟨h₄, tk₄, oC', m₂', nw₄, rfl, F₄, N₄, hoC', off₄, R₄⟩ := h₅
         (revert s₃ s₄ y h₄ tk₄ oC' m₂' nw₄; tb_start; refine fun s₃ => Ap.mk ?_; intros h₃' ht₃; tb_start; refine fun s₄ => Ap.mk ?_; intros ht₄ _; with_reducible refine Drk6.all (by kpf_c) ((?_ : All6 _) _ _ _ _ _ _); refine fun y h₄ tk₄ oC' m₂' nw₄ => Ap6.mk ?_; intros ht₅ F₄ N₄ hoC' off₄ R₄)
         have zC := (N₄ (H2.objs.size, oC') (.head _)).1
         have zD := (N₄ (s₂.heap.objs.size, LCg.lst ys) (.tail _ (.head _))).1
         have hst₄ : St (i + 1) h₄ := block_st W hst₃ F₃.keep F₄ N₄ fun p hp => .tail _ (.tail _ (mr _ hp))
         refine append_at (hsz := by show ys.toArray.size ≤ sizeLine; rw [List.size_toArray]; exact Nat.le_trans (Nat.le_trans hyl hi) hsz) zD fun h₅ hs₅ hD₅ => ?_
         (revert hs₅ hD₅; revert h₅; tb_start; refine fun h₅ => Ap.mk ?_; intros hs₅ hD₅)
         refine ⟨n + 1 - (i + 1), by omega, h₅, tk₄, i + 1, ys ++ [y], _, nw₄, rfl, ht₅, hlt, rfl, by rw [lA, List.length_singleton]; exact Nat.succ_le_succ hyl, W.frame _ _ _ hst₄ fun b hb o e => hs₅.extBut b o (fun q => hDf (q ▸ hb)) e, F₄.change hs₅ hDL hD₀,
           (hoC'.ns zC).sameBut hs₅ (Ne.symm hDC), fun p hp => ?_, off₄, R₄⟩
         rcases mc hp with rfl | hp
         · exact ⟨hD₅.trans (congrArg some (LCg.lst_snoc ys y)), hDL, hD₀⟩
         have z := N₄ p (.tail _ (.tail _ (ml _ hp)))
         exact ⟨hs₅.extBut _ _ (off₄ p hp _ (.tail _ (.head _))) z.1, z.2⟩
       | false =>
         simp only [Bool.false_eq_true, if_false] at h₄ ⊢
         obtain ⟨h₅, tk₄, oC', m₂', nw₄, rfl, F₄, N₄, hoC', off₄, R₄⟩ := h₄
         (revert h₃' ht₃ ht₄ F₄ N₄ hoC' off₄ R₄; revert s₃ h₅ tk₄ oC' m₂' nw₄; with_reducible refine Drk6.all (by kpf_c) ((?_ : All6 _) _ _ _ _ _ _); refine fun s₃ h₅ tk₄ oC' m₂' nw₄ => Ap6.mk ?_; intros h₃' ht₃ ht₄ F₄ N₄ hoC' off₄ R₄)
         have zC := (N₄ (H2.objs.size, oC') (.head _)).1
         have hst₄ : St (i + 1) h₅ := block_st W hst₃ F₃.keep F₄ N₄ fun p hp => .tail _ (.tail _ (mr _ hp))
         refine ⟨n + 1 - (i + 1), by omega, h₅, tk₄, i + 1, ys, _, nw₄, rfl, ht₄, hlt, rfl, Nat.le_succ_of_le hyl, hst₄, F₄, hoC'.ns zC, fun p hp => ?_, off₄, R₄⟩
         rcases mc hp with rfl | hp
         · exact N₄ _ (.tail _ (.head _))
         exact N₄ p (.tail _ (.tail _ (ml _ hp)))
     obtain rfl : i = n := Nat.le_antisymm hi (Nat.not_lt.mp hlt)
     refine W.done _ _ _ hst' fun h₂ tk₂ hk₂ htk₂ => ?_
     (revert hk₂ htk₂; revert h₂ tk₂; with_reducible refine Drk2.all (by kpf_c) ((?_ : All2 _) _ _); refine fun h₂ tk₂ => Ap2.mk ?_; intros hk₂ htk₂)
     obtain ⟨F₃, N₃, hn₃⟩ := block_keep (h' := h₂) F' N' hn' off' hwr hLw hDw hCw hk₂
     exact hRR _ _ h₂ tk₂ _ ys nw htk₂ F₃ N₃ (fun p hp b hb => off' p hp b (by rcases mc hb with rfl | hb; exact .head _; rw [ms hb]; exact .tail _ (.head _))) hn₃ hC₀ hD₀ hCL hDL (Ne.symm hDC) (fun p hp => Heap.lt_size (N p hp).1) j'
   rcases mc hp with rfl | hp
   · exact ⟨hacc, hDL, hD₀⟩
   exact ⟨old _ _ (N p (hsub p hp)).1, (N p (hsub p hp)).2⟩
 exact codeAny_compStart_list (loop _ rfl) (self _ _ _ hst₁ (loop _ rfl))
def SrcL (prog : Program) (w : World) (A : Around) (h₀ : Heap) (L : Addr) (m : Str → Option Value) (env : Env) (elt target : Expr) (ifs : List Expr) (scope : Scope) (cl : List (Str × Addr)) (Fin : Shared → Addr → List Value → Led → Prop) (it : Value) (s₂ : Shared) : Prop :=
 ∃ (news nw₀ : Led) (n : Nat) (P Md : Nat → Value → Heap → Prop) (I : Addr) (fp wr : List Addr) (St : Nat → Heap → Prop) (J : Nat → List Value → Led → Prop), Source prog w A target h₀ L m news n P it s₂ I fp wr Md St ∧ (∀ p ∈ nw₀, p ∈ news) ∧ J 0 [] nw₀ ∧
   CTurnL prog w A h₀ L m env elt target ifs scope cl s₂ wr n P J ∧ ∀ D ys nw, (∀ p ∈ news, p.1 < D) → (∀ p ∈ nw, p.1 ≠ D) → J n ys nw → Fin s₂ D ys nw
def FinE (h₀ : Heap) (L : Addr) (m : Str → Option Value) (Q : Value → Shared → Prop) (s : Shared) (D : Addr) (ys : List Value) (news : Led) : Prop :=
 ∀ h tk, s.toks ≤ tk → Fr h₀ L h m → News h₀ L h ((D, LCg.lst ys) :: news) → Q (.ref D) { s with heap := h, toks := tk }
def FinA (h₀ : Heap) (L : Addr) (m : Str → Option Value) (y : Str) (Q : Flow → Shared → Prop) (s : Shared) (D : Addr) (ys : List Value) (news : Led) : Prop :=
 ∀ h tk, s.toks ≤ tk → Fr h₀ L h (fun z => if z = y then some (.ref D) else m z) → News h₀ L h ((D, LCg.lst ys) :: news) → Q .next { s with heap := h, toks := tk }
theorem listComp_G {elt iter : Expr} {ifs : List Expr} {scope : Scope} {cl : List (Str × Addr)} {pos : Pos} {Q : Value → Shared → Prop} (F₀ : Fr h₀ L s.heap m)
   (hclos : closureFor scope env = pure cl) (hcell : ∀ y ∈ scope.names, y.2 ≠ .cell) (hkind : scope.kind = .function)
   (hnames : ∀ y ∈ scope.names, y.2 = .local → scope.names.lookup y.1 = some .local)
   (h : wpAny (model prog w) A (eval iter env) (fun xv s₁ => wpAny (model prog w) A (pyIter xv) (SrcL prog w A h₀ L m env elt target ifs scope cl (FinE h₀ L m Q)) E s₁) E s)
   (hs : ∀ x, foldedSetIterable iter env x = pure x) :
   wpAny (model prog w) A (eval (.ListComp elt [⟨target, iter, ifs, 0⟩] scope pos) env) Q E s := by
 (revert F₀ hclos hcell hkind hnames h hs; revert prog w A E s h₀ L m env target elt iter ifs scope cl pos Q; with_reducible refine (no_implicit_lambda% (Drk6.all (by kpf_c) ((?_ : All6 _) _ _ _ _ _ _))); refine fun prog w A E s h₀ => Ap6.mk ?_; with_reducible refine (no_implicit_lambda% (Drk6.all (by kpf_c) ((?_ : All6 _) _ _ _ _ _ _))); refine fun L m env target elt iter => Ap6.mk ?_; with_reducible refine (no_implicit_lambda% (Drk5.all (by kpf_c) ((?_ : All5 _) _ _ _ _ _))); refine fun ifs scope cl pos Q => Ap5.mk ?_; intros F₀ hclos hcell hkind hnames h hs)
 rw [eval_ListComp]
 refine wpAny_comprehension_free (use := none) rfl hs hclos hkind hnames (wpAny_mono h (fun xv s₁ h₁ => wpAny_mono h₁ (fun it s₂ h₂ => ?_) fun _ _ e => e) fun _ _ e => e)
 obtain ⟨news, nw₀, n, P, Md, I, fp, wr, St, J, X, hsub, j0, turn, fin⟩ := h₂
 (revert h₁ X hsub j0 turn fin; revert xv s₁ it s₂ news nw₀ n P Md I fp wr St J; with_reducible refine (no_implicit_lambda% (Drk7.all (by kpf_c) ((?_ : All7 _) _ _ _ _ _ _ _))); refine fun xv s₁ it s₂ news nw₀ n => Ap7.mk ?_; with_reducible refine (no_implicit_lambda% (Drk7.all (by kpf_c) ((?_ : All7 _) _ _ _ _ _ _ _))); refine fun P Md I fp wr St J => Ap7.mk ?_; intros h₁ X hsub j0 turn fin)
 refine block_L J X hsub hcell hkind j0 turn ?_
 rintro D C h tk m' ys nw ht F' N' o1 hn hC₀ hD₀ hCL hDL hCD hlt j
 refine ⟨m', hn, fun h'' hs'' => fin D _ _ hlt (fun p hp => o1 p hp D (.tail _ (.head _))) j h'' tk ht (F'.change hs'' hCL hC₀) (fun p hp => ?_)⟩
 refine ⟨hs''.extBut _ _ ?_ (N' p hp).1, (N' p hp).2⟩
 rcases mc hp with rfl | hp
 · exact Ne.symm hCD
 exact o1 p hp C (.head _)
theorem assign_listComp_G {elt iter : Expr} {ifs : List Expr} {y : Str} {py : Pos} {scope : Scope} {cl : List (Str × Addr)} {pos spos : Pos} {Q : Flow → Shared → Prop} (F₀ : Fr h₀ L s.heap m) (hLe : env.locals = L)
   (hsw : swapsWith (.ListComp elt [⟨target, iter, ifs, 0⟩] scope pos) (some (.Name y py)) spos.line env = pure true)
   (hclos : closureFor scope env = pure cl) (hcell : ∀ z ∈ scope.names, z.2 ≠ .cell) (hkind : scope.kind = .function)
   (hnames : ∀ z ∈ scope.names, z.2 = .local → scope.names.lookup z.1 = some .local)
   (hy : env.kindOf y = some .local) (hp : (env.scope.kind == .class || (env.scope.kind == .module && env.locals != env.globals)) = false)
   (h : wpAny (model prog w) A (eval iter env) (fun xv s₁ => wpAny (model prog w) A (pyIter xv) (SrcL prog w A h₀ L m env elt target ifs scope cl (FinA h₀ L m y Q)) E s₁) E s)
   (hs : ∀ x, foldedSetIterable iter env x = pure x) :
   wpAny (model prog w) A (exec (.Assign [.Name y py] (.ListComp elt [⟨target, iter, ifs, 0⟩] scope pos) spos) env) Q E s := by
 (revert F₀ hLe hsw hclos hcell hkind hnames hy hp h hs; revert prog w A E s h₀ L m env target elt iter ifs y py scope cl pos spos Q; with_reducible refine (no_implicit_lambda% (Drk7.all (by kpf_c) ((?_ : All7 _) _ _ _ _ _ _ _))); refine fun prog w A E s h₀ L => Ap7.mk ?_; with_reducible refine (no_implicit_lambda% (Drk7.all (by kpf_c) ((?_ : All7 _) _ _ _ _ _ _ _))); refine fun m env target elt iter ifs y => Ap7.mk ?_; with_reducible refine (no_implicit_lambda% (Drk6.all (by kpf_c) ((?_ : All6 _) _ _ _ _ _ _))); refine fun py scope cl pos spos Q => Ap6.mk ?_; intros F₀ hLe hsw hclos hcell hkind hnames hy hp h hs)
 subst hLe
 rw [exec_Assign_Name_used _ _ _ _ hsw]
 refine wpAny_bind (wpAny_standAt (wpAny_bind ?_))
 show wpAny _ A (do let _ ← comprehension (.ListComp elt [⟨target, iter, ifs, 0⟩] scope pos) scope env _ (newList []) false (eval iter env) (some (assign (.Name y py) env))) _ _ s
 refine wpAny_bind (wpAny_mono (wpAny_comprehension_free (use := some (assign (.Name y py) env)) (Q := fun _ s' => Q .next s') rfl hs hclos hkind hnames
   (wpAny_mono h (fun xv s₁ h₁ => wpAny_mono h₁ (fun it s₂ h₂ => ?_) fun _ _ e => e) fun _ _ e => e)) (fun _ s' hq => wpAny_pure (wpAny_pure hq)) fun _ _ e => e)
 obtain ⟨news, nw₀, n, P, Md, I, fp, wr, St, J, X, hsub, j0, turn, fin⟩ := h₂
 (revert h₁ X hsub j0 turn fin; revert xv s₁ it s₂ news nw₀ n P Md I fp wr St J; with_reducible refine (no_implicit_lambda% (Drk7.all (by kpf_c) ((?_ : All7 _) _ _ _ _ _ _ _))); refine fun xv s₁ it s₂ news nw₀ n => Ap7.mk ?_; with_reducible refine (no_implicit_lambda% (Drk7.all (by kpf_c) ((?_ : All7 _) _ _ _ _ _ _ _))); refine fun P Md I fp wr St J => Ap7.mk ?_; intros h₁ X hsub j0 turn fin)
 refine block_L J X hsub hcell hkind j0 turn ?_
 rintro D C h' tk m' ys nw ht F' N' o1 hn hC₀ hD₀ hCL hDL hCD hlt j
 show wpAny _ A (assign (.Name y py) env (.ref D)) _ _ _
 refine wpAny_assign_Name (wpAny_storeName_local hy F'.ns (fun h₂ hn₂ hs₂ => ?_) hp)
 have hL₀ : h₀.get? env.locals = none := Heap.get?_none_of_le F'.above
 have F₂ : Fr h₀ env.locals h₂ (fun z => if z = y then some (.ref D) else m z) := ⟨hn₂, fun b o e => hs₂.extBut b o (fun q => by rw [q, hL₀] at e; cases e) (F'.keep b o e), F'.above⟩
 refine ⟨m', hn.sameBut hs₂ hCL, fun h'' hs'' => fin D _ _ hlt (fun p hp => o1 p hp D (.tail _ (.head _))) j h'' _ (Nat.le_succ_of_le ht) (F₂.change hs'' hCL hC₀) (fun p hp => ?_)⟩
 have z : h₂.get? p.1 = some p.2 := hs₂.extBut _ _ (N' p hp).2.1 (N' p hp).1
 refine ⟨hs''.extBut _ _ ?_ z, (N' p hp).2⟩
 rcases mc hp with rfl | hp
 · exact Ne.symm hCD
 exact o1 p hp C (.head _)
theorem off_rest {C D : Addr} {oD : Obj} {nw own : Led} {bs bs' : List Addr} (hCD : C ≠ D) (h1 : OwnOff nw (C :: bs)) (h2 : OwnOff own (C :: bs')) : ∀ p ∈ (D, oD) :: (nw ++ own), p.1 ≠ C := fun p hp => by
 rcases mc hp with rfl | hp
 · exact Ne.symm hCD
 rcases ma hp with hp | hp
 · exact h1 p hp C (.head _)
 exact h2 p hp C (.head _)
theorem assign_own {C : Addr} {oC : Obj} {m₂ : Str → Option Value} {x : Str} {px : Pos} {v : Value} {scope : Scope} {cl : List (Str × Addr)} {rest : Led} {Q : Unit → Shared → Prop} (hx : scope.names.lookup x = some .local) (hkind : scope.kind = .function)
   (F : Fr h₀ L s.heap m) (N : News h₀ L s.heap ((C, oC) :: rest)) (hC : LCg.NsObj oC m₂) (off : ∀ p ∈ rest, p.1 ≠ C) (hCL : C ≠ L) (hC₀ : h₀.get? C = none)
   (h : ∀ h' oC' m₃, Fr h₀ L h' m → News h₀ L h' ((C, oC') :: rest) → LCg.NsObj oC' m₃ → m₃ x = some v → Q () { s with heap := h', toks := s.toks + 1 }) :
   wpAny (model prog w) A (assign (.Name x px) (compEnvC scope cl C env) v) Q E s := by
 refine wpAny_assign_Name (wpAny_storeName_local (lookup_relabel_local hx) (hC.ns (N _ (.head _)).1) (fun h₃ hn₃ hs₃ => ?_) (by simp [compEnvC, relabel, hkind]))
 obtain ⟨oC', heC, hoC⟩ := LCg.ns_obj hn₃
 refine h h₃ oC' _ (F.change hs₃ hCL hC₀) (fun p hp => ?_) hoC (if_pos rfl)
 rcases mc hp with rfl | hp
 · exact ⟨heC, hCL, hC₀⟩
 exact ⟨hs₃.extBut _ _ (off p hp) (N _ (.tail _ hp)).1, (N _ (.tail _ hp)).2⟩
theorem assign_own2 {C T : Addr} {oC : Obj} {m₂ : Str → Option Value} {x y : Str} {px py tp : Pos} {kk : Nat} {a b : Value} {scope : Scope} {cl : List (Str × Addr)} {rest : Led} {Q : Unit → Shared → Prop} (hh : A.handled = none) (hx : scope.names.lookup x = some .local) (hy : scope.names.lookup y = some .local) (hxy : x ≠ y) (hkind : scope.kind = .function)
   (F : Fr h₀ L s.heap m) (N : News h₀ L s.heap ((C, oC) :: rest)) (hC : LCg.NsObj oC m₂) (ht : s.heap.IsTuple T #[a, b]) (off : ∀ p ∈ rest, p.1 ≠ C) (hCL : C ≠ L) (hC₀ : h₀.get? C = none)
   (h : ∀ h' oC' m₃ tk, Fr h₀ L h' m → News h₀ L h' ((C, oC') :: rest) → LCg.NsObj oC' m₃ → m₃ x = some a → m₃ y = some b → Q () { s with heap := h', toks := tk }) :
   wpAny (model prog w) A (assign (.Tuple [.Name x px, .Name y py] kk tp) (compEnvC scope cl C env) (.ref T)) Q E s := by
 refine kcp_assign hh ht (lookup_relabel_local hx) (lookup_relabel_local hy) (by simp [compEnvC, relabel, hkind]) (hC.ns (N _ (.head _)).1) fun h₃ tk hn₃ hk => ?_
 obtain ⟨oC', heC, hoC⟩ := LCg.ns_obj hn₃
 refine h h₃ oC' _ tk ⟨F.ns.at' fun o e => hk _ o (Ne.symm hCL) e, fun b o e => hk b o (fun q => by have q' : b = C := q; rw [q', hC₀] at e; cases e) (F.keep b o e), F.above⟩ (fun p hp => ?_) hoC (by rw [if_neg hxy, if_pos rfl]) (if_pos rfl)
 rcases mc hp with rfl | hp
 · exact ⟨heC, hCL, hC₀⟩
 exact ⟨hk _ _ (off p hp) (N _ (.tail _ hp)).1, (N _ (.tail _ hp)).2⟩
theorem CTurnL.name {elt : Expr} {ifs : List Expr} {x : Str} {px : Pos} {scope : Scope} {cl : List (Str × Addr)} {s₂ : Shared} {wr : List Addr} {n : Nat} {P : Nat → Value → Heap → Prop} {J : Nat → List Value → Led → Prop} (hx : scope.names.lookup x = some .local) (hkind : scope.kind = .function)
   (h : ∀ i v C oC D m₂ g h tk ys nw own, s₂.toks ≤ tk → i < n → P i v g → J i ys nw → LCg.NsObj oC m₂ → m₂ x = some v → Fr h₀ L h m → News h₀ L h ((C, oC) :: (D, LCg.lst ys) :: (nw ++ own)) → OwnOff nw (C :: D :: wr) → OwnOff own [C, D] → (∀ b ∈ wr, ∃ o, (b, o) ∈ own) → (@Ne Nat C D) → (@Ne Nat C L) → (@Ne Nat D L) →
     wpAny (model prog w) A (testsOf ifs (compEnvC scope cl C env)) (fun ok s₄ =>
       if ok = true then wpAny (model prog w) A (eval elt (compEnvC scope cl C env)) (fun y => CEnd h₀ L m { s₂ with heap := h, toks := tk } C D (LCg.lst ys) wr own (fun nw' => J (i + 1) (ys ++ [y]) nw')) (fun _ _ => False) s₄
       else CEnd h₀ L m { s₂ with heap := h, toks := tk } C D (LCg.lst ys) wr own (fun nw' => J (i + 1) ys nw') s₄) (fun _ _ => False) { s₂ with heap := h, toks := tk }) :
   CTurnL prog w A h₀ L m env elt (.Name x px) ifs scope cl s₂ wr n P J := by
 rintro i v C oC D m₂ g tk ys nw own htk hi hP hJ hC F N off hown hw hCD hCL hDL hC₀
 exact assign_own hx hkind F N hC (off_rest hCD off hown) hCL hC₀ fun h' oC' m₃ F' N' hC' hv => h i v C oC' D m₃ g h' _ ys nw own (Nat.le_succ_of_le htk) hi hP hJ hC' hv F' N' off hown hw hCD hCL hDL
theorem CTurnL.pair {elt : Expr} {ifs : List Expr} {x y : Str} {px py tp : Pos} {kk : Nat} {scope : Scope} {cl : List (Str × Addr)} {s₂ : Shared} {wr : List Addr} {n : Nat} {P : Nat → Value → Heap → Prop} {J : Nat → List Value → Led → Prop} (hh : A.handled = none) (hx : scope.names.lookup x = some .local) (hy : scope.names.lookup y = some .local) (hxy : x ≠ y) (hkind : scope.kind = .function)
   (R : Nat → Value → Value → Prop) (hR : ∀ i v h ys nw own, i < n → P i v h → J i ys nw → News h₀ L h (nw ++ own) → ∃ T a b, v = .ref T ∧ h.IsTuple T #[a, b] ∧ R i a b)
   (h : ∀ i a b C oC D m₂ h tk ys nw own, s₂.toks ≤ tk → i < n → R i a b → J i ys nw → LCg.NsObj oC m₂ → m₂ x = some a → m₂ y = some b → Fr h₀ L h m → News h₀ L h ((C, oC) :: (D, LCg.lst ys) :: (nw ++ own)) → OwnOff nw (C :: D :: wr) → OwnOff own [C, D] → (∀ b ∈ wr, ∃ o, (b, o) ∈ own) → (@Ne Nat C D) → (@Ne Nat C L) → (@Ne Nat D L) →
     wpAny (model prog w) A (testsOf ifs (compEnvC scope cl C env)) (fun ok s₄ =>
       if ok = true then wpAny (model prog w) A (eval elt (compEnvC scope cl C env)) (fun y => CEnd h₀ L m { s₂ with heap := h, toks := tk } C D (LCg.lst ys) wr own (fun nw' => J (i + 1) (ys ++ [y]) nw')) (fun _ _ => False) s₄
       else CEnd h₀ L m { s₂ with heap := h, toks := tk } C D (LCg.lst ys) wr own (fun nw' => J (i + 1) ys nw') s₄) (fun _ _ => False) { s₂ with heap := h, toks := tk }) :
   CTurnL prog w A h₀ L m env elt (.Tuple [.Name x px, .Name y py] kk tp) ifs scope cl s₂ wr n P J := by
 rintro i v C oC D m₂ g tk ys nw own htk hi hP hJ hC F N off hown hw hCD hCL hDL hC₀
 obtain ⟨T, a, b, rfl, ht, hab⟩ := hR i v g ys nw own hi hP hJ fun p hp => N p (.tail _ (.tail _ hp))
 exact wp_ge (n := s₂.toks) htk (assign_own2 hh hx hy hxy hkind F N hC ht (off_rest hCD off hown) hCL hC₀ fun h' oC' m₃ tk' F' N' hC' ha hb htk' => h i a b C oC' D m₃ h' tk' ys nw own htk' hi hab hJ hC' ha hb F' N' off hown hw hCD hCL hDL)
end
noncomputable def signs (n : Int) : Str := Txt.item (Str.ofString "&<>\"\t\n\r;") (n.fmod 8) ++ Str.ofString "=" ++ Txt.item (Str.ofString "&<>\"\t\n\r;") ((n.fdiv 8).fmod 8)
theorem signs_ctr {w : World} {news : Led} (n : Int) (t : Tok) : Ctr w 199 1 8 news [.int n t] (fun v l => l = news ∧ ∃ t', v = .str (signs n) t') := by
 w_top off
 (revert w news n t; with_reducible refine (no_implicit_lambda% (Drk4.all (by kpf_c) ((?_ : All4 _) _ _ _ _))); refine fun w news n t => Ap4.mk ?_)
 (refine Ctr.open ?_; generalize Ctr.cs _ _ _ _ _ _ _ = bCS; unfold Ctr.At; generalize bCS.p = p, bCS.loose = loose, bCS.mean = mean, bCS.mg = mg, bCS.mb = mb, bCS.dp = dp, bCS.un = un, bCS.gd = gd, bCS.cn = cn, bCS.cs = cs, bCS.a = a, bCS.ccd = ccd, bCS.cl = cl, bCS.outer = outer, bCS.A₀ = A₀, bCS.base = base, bCS.h₀ = h₀, bCS.L = L, bCS.m = m, bCS.s = s, bCS.Q = Q, bCS.E = E; clear bCS; intros St hret; obtain ⟨B, F, X, N, T, hk, hdp, hup⟩ := St; revert X; k_fill; intro X; refine wpAny_call ?_)
 (k_dflt (refine' code_def ?k1 ?k2 ?k3 ?k4 ?k5 ?kA ?kF ?kK ?k6 ?k7 ?k8 ?k9 ?kB ?_ ?c2 ?c3 ?c4 ?c5; (case kA => exact rfl); (case kF => exact rfl); (case kK => assumption); (case k1 => k_asm); (case k2 => k_asm); (case k3 => k_asm); (case k4 => k_asm); (case k5 => k_asm); (case k6 => k_is); (case k7 => k_is); (case k8 => first | allgen_close_more | (simp only [depth_in1, depth_deeper] at *; omega)); (case k9 => first | exact BindsTo.of_eq rfl | exact binds_K (by k_in) rfl (by k_is) rfl rfl rfl); (case c5 => decide); (case kB => exact locs rfl); (case c2 => exact rfl); (case c3 => exact rfl); (case c4 => exact rfl); k_whole; intro g' L' h' FG' F' N' B' X' T'); (try dsimp only); (refine wp_noE ?_); (refine wp_toks ?_); intro tk0; (try dsimp only); (try k_fold))
 (repeat' ((fail_if_success with_reducible first | refine z1 ?_ | refine z2 ?_ | refine z3 ?_ | refine z4 ?_ | refine z5 ?_ | refine z6 ?_ | refine z7 ?_ | refine zc (by decide) ?_ | refine z9 ?_); (first | (k_unfold; try dsimp only) | (dsimp only; k_unfold; try dsimp only) | walk1 | (dsimp only; walk1) | fail)))
 ((try (k_unfold; (try dsimp only))); k_dflt (refine' leaveK_ ?k1 ?k2 ?_; (case k1 => k_asm); (case k2 => k_asm)); intro kF kN; (try dsimp only))
 exact hret _ news _ _ ⟨rfl, _, rfl⟩ kF kN
theorem strsAre_snoc {vs : List Value} {ys : List Str} {y : Str} {t : Tok} (h : StrsAre vs ys) : StrsAre (vs ++ [.str y t]) (ys ++ [y]) := by
 induction h with
 | nil => exact .cons _ _ .nil
 | cons a u _ ih => exact .cons a u ih
theorem word_ctr {w : World} {news : Led} (n : Int) (t : Tok) (h0 : 0 < n) (h1 : n < 16 ^ 14) : Ctr w 192 1 8 news [.int n t] (fun v l => l = news ∧ ∃ t', v = .str (wordS n.toNat) t') := by
 w_top off
 (revert h0 h1; revert w news n t; with_reducible refine (no_implicit_lambda% (Drk4.all (by kpf_c) ((?_ : All4 _) _ _ _ _))); refine fun w news n t => Ap4.mk ?_; intros h0 h1)
 (refine Ctr.open ?_; generalize Ctr.cs _ _ _ _ _ _ _ = bCS; unfold Ctr.At; generalize bCS.p = p, bCS.loose = loose, bCS.mean = mean, bCS.mg = mg, bCS.mb = mb, bCS.dp = dp, bCS.un = un, bCS.gd = gd, bCS.cn = cn, bCS.cs = cs, bCS.a = a, bCS.ccd = ccd, bCS.cl = cl, bCS.outer = outer, bCS.A₀ = A₀, bCS.base = base, bCS.h₀ = h₀, bCS.L = L, bCS.m = m, bCS.s = s, bCS.Q = Q, bCS.E = E; clear bCS; intros St hret; obtain ⟨B, F, X, N, T, hk, hdp, hup⟩ := St; revert X; k_fill; intro X; refine wpAny_call ?_)
 (k_dflt (refine' code_defC ?k1 ?k2 ?k3 ?k4 ?k5 ?kA ?kF ?kK ?k6 ?k7 ?k8 ?k9 ?kB ?kD ?_ ?c2 ?c3 ?c4; (case kA => exact rfl); (case kF => exact rfl); (case kK => assumption); (case k1 => k_asm); (case k2 => k_asm); (case k3 => k_asm); (case k4 => k_asm); (case k5 => k_asm); (case k6 => k_is); (case k7 => k_is); (case k8 => first | allgen_close_more | (simp only [depth_in1, depth_deeper] at *; omega)); (case k9 => first | exact BindsTo.of_eq rfl | exact binds_K (by k_in) rfl (by k_is) rfl rfl rfl); (case kB => exact rfl); (case kD => decide +kernel); (case c2 => exact rfl); (case c3 => exact rfl); (case c4 => exact rfl); k_whole; intro g' L' h' tk' cells' FG' F' N' Y' B' X' T' l1); (try k_lt l1); k_cells Y'; (try simp only [List.cons_append, List.nil_append] at N'); (try dsimp only); (refine wp_noE ?_); (refine wp_toks ?_); intro tk0; (try dsimp only); (try k_fold))
 replace F' : Fr g' L' h' (fun _ => none) := fr_eq F' (by kernel_rfl)
 rename Obj => o'
 (revert o'; tb_start; refine fun o' => Ap.mk ?_; intros _ N')
 rename Obj.data _ = _ => hd1
 replace hd1 : o'.data = .cell (some (.int n t)) := hd1.trans (by kernel_rfl)
 (repeat' ((fail_if_success with_reducible first | refine z1 ?_ | refine z2 ?_ | refine z3 ?_ | refine z4 ?_ | refine z5 ?_ | refine z6 ?_ | refine z7 ?_ | refine zc (by decide) ?_ | refine z9 ?_); (first | (k_unfold; try dsimp only) | (dsimp only; k_unfold; try dsimp only) | walk1 | (dsimp only; walk1) | fail)))
 first | k_dflt (refine listComp_G (by k_asm) (by with_unfolding_all rfl) (by decide) (by rfl) (by decide) ?_ (fun _ => rfl)) | fail
 (repeat' ((fail_if_success with_reducible first | refine z13 ?_ | refine z1 ?_ | refine z2 ?_ | refine z3 ?_ | refine z4 ?_ | refine z5 ?_ | refine z6 ?_ | refine z7 ?_ | refine zc (by decide) ?_ | refine z9 ?_); (first | (k_unfold; try dsimp only) | (dsimp only; k_unfold; try dsimp only) | walk1 | (dsimp only; walk1) | fail)))
 (with_reducible rename Fr _ _ _ _ => F1); (with_reducible rename News _ _ _ _ => N1)
 rename IsRange _ _ _ _ _ _ _ _ => hr
 refine source_range rfl F1 N1 hr (by decide) (n := 14) (by decide) (by decide) fun gI I fp wr Md St X => ⟨_, _, _, _, _, _, _, _, _, fun i ys nw => nw = (L' + 1, o') :: news ∧ StrsAre ys ((List.range i).map (letterAt n)), X, fun p hp => hp, ⟨rfl, .nil⟩, ?_, ?_⟩
 · refine CTurnL.name (by rfl) (by rfl) ?_
   rintro i v C oC D m₂ g h tk ys nw own htk hi ⟨t1, rfl⟩ ⟨rfl, hS⟩ hC hv Fc Nc off hown hw hCD hCL hDL
   (revert X htk hi hS hC hv Fc Nc off hown hw hCD hCL hDL; revert gI I fp wr Md St i C oC D m₂ g h tk ys own t1; with_reducible refine Drk6.all (by kpf_c) ((?_ : All6 _) _ _ _ _ _ _); refine fun gI I fp wr Md St => Ap6.mk ?_; with_reducible refine Drk6.all (by kpf_c) ((?_ : All6 _) _ _ _ _ _ _); refine fun i C oC D m₂ g => Ap6.mk ?_; with_reducible refine Drk5.all (by kpf_c) ((?_ : All5 _) _ _ _ _ _); refine fun h tk ys own t1 => Ap5.mk ?_; intros X htk hi hS hC hv Fc Nc off hown hw hCD hCL hDL)
   dsimp only [List.cons_append] at Nc
   dsimp only
   (repeat' ((fail_if_success with_reducible first | refine z50 ?_ | refine z1 ?_ | refine z2 ?_ | refine z3 ?_ | refine z4 ?_ | refine z5 ?_ | refine z6 ?_ | refine z7 ?_ | refine zc (by decide) ?_ | refine z9 ?_); (first | (k_unfold; try dsimp only) | (dsimp only; k_unfold; try dsimp only) | walk1 | (dsimp only; walk1) | fail)))
   have hpow : (16 : Int) ^ (13 + (i : Int) * -1).toNat ≠ 0 := Int.pow_ne_zero (by decide)
   refine floordiv_int hpow ?_ (Or.inl (PyProof.noPylong_of_log2 (pow16_log _ (by omega))))
   (repeat' ((fail_if_success with_reducible first | refine z1 ?_ | refine z2 ?_ | refine z3 ?_ | refine z4 ?_ | refine z5 ?_ | refine z6 ?_ | refine z7 ?_ | refine zc (by decide) ?_ | refine z9 ?_); (first | (k_unfold; try dsimp only) | (dsimp only; k_unfold; try dsimp only) | walk1 | (dsimp only; walk1) | fail)))
   (with_reducible rename Fr _ _ _ _ => F1); (with_reducible rename News _ _ _ _ => N1)
   refine CEnd.intro F1 N1 hC _ (fun p hp => hp) off ⟨rfl, ?_⟩
   rw [List.range_succ, List.map_append]
   have e : letterAt n i = Txt.item (Str.ofString "ABCDEFGHIJKLMNOP") ((n.fdiv (16 ^ (13 + (i : Int) * -1).toNat)).fmod 16) := by
     unfold letterAt; rw [show (13 - (i : Int)) = 13 + (i : Int) * -1 by omega]
   rw [List.map_singleton, e]
   exact strsAre_snoc hS
 rintro D ys nw hlt hD ⟨rfl, hS⟩ h tk htk Fe Ne
 (revert X hlt hS hD htk Fe Ne; revert gI I fp wr Md St D ys h tk; with_reducible refine Drk5.all (by kpf_c) ((?_ : All5 _) _ _ _ _ _); refine fun gI I fp wr Md => Ap5.mk ?_; with_reducible refine Drk5.all (by kpf_c) ((?_ : All5 _) _ _ _ _ _); refine fun St D ys h tk => Ap5.mk ?_; intros X hlt hS hD htk Fe Ne)
 dsimp only
 (repeat' ((fail_if_success with_reducible first | refine z31 ?_ | refine z1 ?_ | refine z2 ?_ | refine z3 ?_ | refine z4 ?_ | refine z5 ?_ | refine z6 ?_ | refine z7 ?_ | refine zc (by decide) ?_ | refine z9 ?_); (first | (k_unfold; try dsimp only) | (dsimp only; k_unfold; try dsimp only) | walk1 | (dsimp only; walk1) | fail)))
 have hw : ((List.map (letterAt n) (List.range 14)).map (·.length)).sum + (List.map (letterAt n) (List.range 14)).length ≤ 1048576 := by
   rw [List.map_map, lM, show ((fun x : Str => x.length) ∘ letterAt n) = fun _ => 1 from rfl]
   decide
 refine join_listW (isList_news Ne (.head _)) hS (by decide) hw ?_
 intro t2 k2
 have hj : (Txt.join (Str.ofString "") (List.map (letterAt n) (List.range 14))).length = 14 := by
   show (Txt.join (Str.ofString "") (List.map (letterAt n) (List.range 14))).cps.size = 14
   rw [← Array.length_toList, join_list, List.map_map, List.length_flatten, List.map_map, show (List.length ∘ ((fun y : Str => y.cps.toList) ∘ letterAt n)) = fun _ => 1 from rfl]
   decide
 have hl2 : (Txt.join (Str.ofString "") (List.map (letterAt n) (List.range 14))).length ≤ 1048576 := by rw [hj]; decide
 (repeat' ((fail_if_success with_reducible first | refine z1 ?_ | refine z2 ?_ | refine z3 ?_ | refine z4 ?_ | refine z5 ?_ | refine z6 ?_ | refine z7 ?_ | refine zc (by decide) ?_ | refine z9 ?_); (first | (k_unfold; try dsimp only) | (dsimp only; k_unfold; try dsimp only) | walk1 | (dsimp only; walk1) | fail)))
 ((try (k_unfold; (try dsimp only))); k_dflt (refine' leaveK_ ?k1 ?k2 ?_; (case k1 => k_asm); (case k2 => k_asm)); intro kF kN; (try dsimp only))
 have e : Txt.lstripChars (Txt.join (Str.ofString "") ((List.range 14).map (letterAt n))) (Str.ofString "A") = wordS n.toNat := by
   obtain ⟨k, rfl⟩ := Int.eq_ofNat_of_zero_le (Int.le_of_lt h0)
   (revert k; tb_start; refine fun k => Ap.mk ?_; intros h0 h1 hret hd1 hS hw hj hl2 _)
   exact word_join k (by exact_mod_cast h1)
 exact hret _ news _ _ ⟨rfl, _, congrArg (Value.str · _) e⟩ kF (cb_drop kN fun p hp => .tail _ (.tail _ hp))
theorem look_one (a c : Nat) (v : PyData) (r : List (PyData × PyData)) : PySem.Spec.lookup (.str ⟨#[c]⟩) ((.str ⟨#[a]⟩, v) :: r) = if a = c then some v else PySem.Spec.lookup (.str ⟨#[c]⟩) r := by
 rw [PySem.Spec.lookup]
 have e : PySem.Spec.same (.str ⟨#[a]⟩) (.str ⟨#[c]⟩) = decide (a = c) := by
   rw [PySem.Spec.same]
   by_cases h : a = c
   · subst h; simp
   rw [decide_eq_false h]
   apply beq_eq_false_iff_ne.mpr
   intro q
   injection q with q
   injection q with q
   injection q with q
   exact h q
 rw [e]
 by_cases h : a = c
 · rw [if_pos h, if_pos (decide_eq_true h)]
 rw [if_neg h, if_neg (by rw [decide_eq_false h]; exact Bool.false_ne_true)]
theorem flat_str2 {v : Value} {d : PyData} {x : Str} (g : Heap) (h : PyProof.V.Flat v d) (e : d = .str x) : ∃ t, v = .str x t := by
 subst e
 cases h g
 exact ⟨_, rfl⟩
theorem signs_size (n : Int) : (signs n).cps.size = 3 := by
 show ((_ : Array Nat) ++ _ ++ _).size = 3
 rw [Array.size_append, Array.size_append]
 rfl
theorem take_succ_map {α β : Type} (f : α → β) {l : List α} {i : Nat} {c : α} (h : l[i]? = some c) : (l.take (i + 1)).map f = (l.take i).map f ++ [f c] := by
 rw [List.take_add_one, h, List.map_append]; rfl
noncomputable def escV (c : Nat) : Str := if 38 = c then Str.ofString "&amp;" else if 60 = c then Str.ofString "&lt;" else if 34 = c then Str.ofString "&quot;" else if 9 = c then Str.ofString "&#x9;" else if 10 = c then Str.ofString "&#xA;" else if 13 = c then Str.ofString "&#xD;" else ⟨#[c]⟩
theorem escV_len (c : Nat) : (escV c).length ≤ 6 := by
 unfold escV
 repeat' split
 all_goals first | decide +kernel | exact (by decide : (1 : Nat) ≤ 6)
noncomputable def valS (n : Int) : Str := Txt.join (Str.ofString "") ((signs n).cps.toList.map escV)
theorem valS_sum (n : Int) : (((signs n).cps.toList.map escV).map (·.length)).sum + ((signs n).cps.toList.map escV).length ≤ 1048576 := by
 have h : ∀ l : List Nat, ((l.map escV).map (·.length)).sum ≤ 6 * l.length := by
   intros l
   induction l with
   | nil => exact Nat.le_refl _
   | cons a r ih => rw [List.map_cons, List.map_cons, List.sum_cons, List.length_cons]; have := escV_len a; omega
 have h2 := h (signs n).cps.toList
 have h3 : (signs n).cps.toList.length = 3 := by rw [Array.length_toList, signs_size]
 rw [lM]; omega
theorem value_ctr {w : World} {news : Led} (n : Int) (t : Tok) : Ctr w 204 2 12 news [.int n t] (fun v l => l = news ∧ ∃ t', v = .str (valS n) t') := by
 w_top off
 (revert w news n t; with_reducible refine (no_implicit_lambda% (Drk4.all (by kpf_c) ((?_ : All4 _) _ _ _ _))); refine fun w news n t => Ap4.mk ?_)
 (refine Ctr.open ?_; generalize Ctr.cs _ _ _ _ _ _ _ = bCS; unfold Ctr.At; generalize bCS.p = p, bCS.loose = loose, bCS.mean = mean, bCS.mg = mg, bCS.mb = mb, bCS.dp = dp, bCS.un = un, bCS.gd = gd, bCS.cn = cn, bCS.cs = cs, bCS.a = a, bCS.ccd = ccd, bCS.cl = cl, bCS.outer = outer, bCS.A₀ = A₀, bCS.base = base, bCS.h₀ = h₀, bCS.L = L, bCS.m = m, bCS.s = s, bCS.Q = Q, bCS.E = E; clear bCS; intros St hret; obtain ⟨B, F, X, N, T, hk, hdp, hup⟩ := St; revert X; k_fill; intro X; refine wpAny_call ?_)
 (k_dflt (refine' code_defC ?k1 ?k2 ?k3 ?k4 ?k5 ?kA ?kF ?kK ?k6 ?k7 ?k8 ?k9 ?kB ?kD ?_ ?c2 ?c3 ?c4; (case kA => exact rfl); (case kF => exact rfl); (case kK => assumption); (case k1 => k_asm); (case k2 => k_asm); (case k3 => k_asm); (case k4 => k_asm); (case k5 => k_asm); (case k6 => k_is); (case k7 => k_is); (case k8 => first | allgen_close_more | (simp only [depth_in1, depth_deeper] at *; omega)); (case k9 => first | exact BindsTo.of_eq rfl | exact binds_K (by k_in) rfl (by k_is) rfl rfl rfl); (case kB => exact rfl); (case kD => decide +kernel); (case c2 => exact rfl); (case c3 => exact rfl); (case c4 => exact rfl); k_whole; intro g' L' h' tk' cells' FG' F' N' Y' B' X' T' l1); (try k_lt l1); k_cells Y'; (try simp only [List.cons_append, List.nil_append] at N'); (try dsimp only); (refine wp_noE ?_); (refine wp_toks ?_); intro tk0; (try dsimp only); (try k_fold))
 replace F' : Fr g' L' h' (fun y => if y = Str.ofString "number" then some (.int n t) else none) := fr_eq F' (by kernel_rfl)
 rename Obj => o'
 (revert o'; tb_start; refine fun o' => Ap.mk ?_; intros _ N')
 rename Obj.data _ = _ => hd1
 replace hd1 : o'.data = .cell none := hd1.trans (by kernel_rfl)
 (repeat' ((fail_if_success with_reducible first | refine z1 ?_ | refine z2 ?_ | refine z3 ?_ | refine z4 ?_ | refine z5 ?_ | refine z6 ?_ | refine z7 ?_ | refine zc (by decide) ?_ | refine z9 ?_); (first | (k_unfold; try dsimp only) | (dsimp only; k_unfold; try dsimp only) | walk1 | (dsimp only; walk1) | fail)))
 (k_dflt (refine' kdn_str ?q ?F ?N ?b ?a ?l ?e ?n ?_; (case q => rfl); (case F => k_asm); (case N => first | k_asm | exact News.nil); (case b => exact Top.nolimit (by k_asm)); (case a => rfl); (case l => rfl); (case e => exact List.cons_ne_nil _ _); (case n => exact Nat.le_of_ble_eq_true rfl)))
 intro d h1 od F1 N1 l1 lo hd
 k_lt l1
 (repeat' ((fail_if_success with_reducible first | refine z1 ?_ | refine z2 ?_ | refine z3 ?_ | refine z4 ?_ | refine z5 ?_ | refine z6 ?_ | refine z7 ?_ | refine zc (by decide) ?_ | refine z9 ?_); (first | (k_unfold; try dsimp only) | (dsimp only; k_unfold; try dsimp only) | walk1 | (dsimp only; walk1) | fail)))
 dsimp only
 (refine' kdn_made_strF ?F ?N ?U ?d ?k ?n ?v ?_; (case F => k_asm); (case N => k_asm); (case U => k_updF); (case d => k_asm); (case k => rfl); (case n => exact of_decide_eq_true (by first | rfl | kernel_rfl!)); (case v => rfl))
 intro h2 o2 F2 N2 hd2 hf2
 (repeat' ((fail_if_success with_reducible first | refine z1 ?_ | refine z2 ?_ | refine z3 ?_ | refine z4 ?_ | refine z5 ?_ | refine z6 ?_ | refine z7 ?_ | refine zc (by decide) ?_ | refine z9 ?_); (first | (k_unfold; try dsimp only) | (dsimp only; k_unfold; try dsimp only) | walk1 | (dsimp only; walk1) | fail)))
 first | k_dflt (refine listComp_G (by k_asm) (by with_unfolding_all rfl) (by decide) (by rfl) (by decide) ?_ (fun _ => rfl)) | fail
 (repeat' ((fail_if_success with_reducible first | refine z1 ?_ | refine z2 ?_ | refine z3 ?_ | refine z4 ?_ | refine z5 ?_ | refine z6 ?_ | refine z7 ?_ | refine zc (by decide) ?_ | refine z9 ?_); (first | (k_unfold; try dsimp only) | (dsimp only; k_unfold; try dsimp only) | walk1 | (dsimp only; walk1) | fail)))
 (k_dflt (refine' Ctr.use (signs_ctr n _) ?hA ?B ?F ?X ?N ?T ?kk ?hd ?hu ?_; (case hA => exact rfl); (case B => k_asm); (case F => k_asm); (case X => k_asm); (case N => k_asm); (case T => k_asm); (case kk => first | exact rfl | assumption); (case hd => allgen_close_more); (case hu => allgen_close_more)))
 rintro _ _ h3 tk3 ⟨rfl, t3, rfl⟩ F3 N3
 (revert F3 N3; revert h3 tk3 t3; with_reducible refine Drk3.all (by kpf_c) ((?_ : All3 _) _ _ _); refine fun h3 tk3 t3 => Ap3.mk ?_; intros F3 N3)
 dsimp only
 rename Obj => o3
 rename Obj.data o3 = _ => hd3
 have hsz := signs_size n
 refine source_str rfl F3 N3 (by rw [hsz]; decide) fun gI I fp wr Md St Xs => ⟨_, _, _, _, _, _, _, _, _, fun i ys nw => nw = (d, o2) :: (L' + 1, o3) :: news ∧ StrsAre ys (((signs n).cps.toList.take i).map escV), Xs, fun p hp => hp, ⟨rfl, .nil⟩, ?_, ?_⟩
 · refine CTurnL.name (by rfl) (by rfl) ?_
   rintro i v C oC D m₂ g h tk ys nw own htk hi ⟨c, u, hc, rfl⟩ ⟨rfl, hS⟩ hC hv Fc Nc off hown hw hCD hCL hDL
   (revert Xs htk hi hc hS hC hv Fc Nc off hown hw hCD hCL hDL; revert gI I fp wr Md St i C oC D m₂ g h tk ys own c u; with_reducible refine Drk6.all (by kpf_c) ((?_ : All6 _) _ _ _ _ _ _); refine fun gI I fp wr Md St => Ap6.mk ?_; with_reducible refine Drk6.all (by kpf_c) ((?_ : All6 _) _ _ _ _ _ _); refine fun i C oC D m₂ g => Ap6.mk ?_; with_reducible refine Drk6.all (by kpf_c) ((?_ : All6 _) _ _ _ _ _ _); refine fun h tk ys own c u => Ap6.mk ?_; intros Xs htk hi hc hS hC hv Fc Nc off hown hw hCD hCL hDL)
   dsimp only [List.cons_append] at Nc
   dsimp only
   (repeat' ((fail_if_success with_reducible first | refine z1 ?_ | refine z2 ?_ | refine z3 ?_ | refine z4 ?_ | refine z5 ?_ | refine z6 ?_ | refine z7 ?_ | refine zc (by decide) ?_ | refine z9 ?_); (first | (k_unfold; try dsimp only) | (dsimp only; k_unfold; try dsimp only) | walk1 | (dsimp only; walk1) | fail)))
   rename PyProof.V.Flat _ _ => hfl
   obtain ⟨t', rfl⟩ := flat_str2 (x := escV c) g' hfl (by
     simp only [strData, datumOf, Option.getD_some, show Str.ofString "&" = ⟨#[38]⟩ from by decide +kernel, show Str.ofString "<" = ⟨#[60]⟩ from by decide +kernel, show Str.ofString "\"" = ⟨#[34]⟩ from by decide +kernel, show Str.ofString "\t" = ⟨#[9]⟩ from by decide +kernel, show Str.ofString "\n" = ⟨#[10]⟩ from by decide +kernel, show Str.ofString "\r" = ⟨#[13]⟩ from by decide +kernel, look_one]
     unfold escV
     repeat' split
     all_goals first | rfl | simp_all [PySem.Spec.lookup])
   refine CEnd.intro Fc Nc hC _ (fun p hp => hp) off ⟨rfl, ?_⟩
   rw [take_succ_map escV (show (signs n).cps.toList[i]? = some c from by rw [Array.getElem?_toList]; exact hc)]
   exact strsAre_snoc hS
 rintro D ys nw hlt hD ⟨rfl, hS⟩ h tk htk Fe Ne
 (revert Xs hlt hS hD htk Fe Ne; revert gI I fp wr Md St D ys h tk; with_reducible refine Drk5.all (by kpf_c) ((?_ : All5 _) _ _ _ _ _); refine fun gI I fp wr Md => Ap5.mk ?_; with_reducible refine Drk5.all (by kpf_c) ((?_ : All5 _) _ _ _ _ _); refine fun St D ys h tk => Ap5.mk ?_; intros Xs hlt hS hD htk Fe Ne)
 dsimp only
 rw [show (signs n).cps.size = (signs n).cps.toList.length from (Array.length_toList).symm, List.take_length] at hS
 (repeat' ((fail_if_success with_reducible first | refine z31 ?_ | refine z1 ?_ | refine z2 ?_ | refine z3 ?_ | refine z4 ?_ | refine z5 ?_ | refine z6 ?_ | refine z7 ?_ | refine zc (by decide) ?_ | refine z9 ?_); (first | (k_unfold; try dsimp only) | (dsimp only; k_unfold; try dsimp only) | walk1 | (dsimp only; walk1) | fail)))
 refine join_listW (isList_news Ne (.head _)) hS (by decide) (valS_sum n) ?_
 intro t2 k2
 (repeat' ((fail_if_success with_reducible first | refine z1 ?_ | refine z2 ?_ | refine z3 ?_ | refine z4 ?_ | refine z5 ?_ | refine z6 ?_ | refine z7 ?_ | refine zc (by decide) ?_ | refine z9 ?_); (first | (k_unfold; try dsimp only) | (dsimp only; k_unfold; try dsimp only) | walk1 | (dsimp only; walk1) | fail)))
 ((try (k_unfold; (try dsimp only))); k_dflt (refine' leaveK_ ?k1 ?k2 ?_; (case k1 => k_asm); (case k2 => k_asm)); intro kF kN; (try dsimp only))
 exact hret _ news _ _ ⟨rfl, _, rfl⟩ kF (cb_drop kN fun p hp => .tail _ (.tail _ (.tail _ hp)))
noncomputable def escT (c : Nat) : Str := if 38 = c then Str.ofString "&amp;" else if 60 = c then Str.ofString "&lt;" else if 62 = c then Str.ofString "&gt;" else if 13 = c then Str.ofString "&#xD;" else ⟨#[c]⟩
theorem escT_len (c : Nat) : (escT c).length ≤ 6 := by
 unfold escT
 repeat' split
 all_goals first | decide +kernel | exact (by decide : (1 : Nat) ≤ 6)
noncomputable def txtS (n : Int) : Str := Txt.join (Str.ofString "") ((signs n).cps.toList.map escT)
theorem txtS_sum (n : Int) : (((signs n).cps.toList.map escT).map (·.length)).sum + ((signs n).cps.toList.map escT).length ≤ 1048576 := by
 have h : ∀ l : List Nat, ((l.map escT).map (·.length)).sum ≤ 6 * l.length := by
   intros l
   induction l with
   | nil => exact Nat.le_refl _
   | cons a r ih => rw [List.map_cons, List.map_cons, List.sum_cons, List.length_cons]; have := escT_len a; omega
 have h2 := h (signs n).cps.toList
 have h3 : (signs n).cps.toList.length = 3 := by rw [Array.length_toList, signs_size]
 rw [lM]; omega
theorem text_ctr {w : World} {news : Led} (n : Int) (t : Tok) : Ctr w 209 2 12 news [.int n t] (fun v l => l = news ∧ ∃ t', v = .str (txtS n) t') := by
 w_top off
 (revert w news n t; with_reducible refine (no_implicit_lambda% (Drk4.all (by kpf_c) ((?_ : All4 _) _ _ _ _))); refine fun w news n t => Ap4.mk ?_)
 (refine Ctr.open ?_; generalize Ctr.cs _ _ _ _ _ _ _ = bCS; unfold Ctr.At; generalize bCS.p = p, bCS.loose = loose, bCS.mean = mean, bCS.mg = mg, bCS.mb = mb, bCS.dp = dp, bCS.un = un, bCS.gd = gd, bCS.cn = cn, bCS.cs = cs, bCS.a = a, bCS.ccd = ccd, bCS.cl = cl, bCS.outer = outer, bCS.A₀ = A₀, bCS.base = base, bCS.h₀ = h₀, bCS.L = L, bCS.m = m, bCS.s = s, bCS.Q = Q, bCS.E = E; clear bCS; intros St hret; obtain ⟨B, F, X, N, T, hk, hdp, hup⟩ := St; revert X; k_fill; intro X; refine wpAny_call ?_)
 (k_dflt (refine' code_defC ?k1 ?k2 ?k3 ?k4 ?k5 ?kA ?kF ?kK ?k6 ?k7 ?k8 ?k9 ?kB ?kD ?_ ?c2 ?c3 ?c4; (case kA => exact rfl); (case kF => exact rfl); (case kK => assumption); (case k1 => k_asm); (case k2 => k_asm); (case k3 => k_asm); (case k4 => k_asm); (case k5 => k_asm); (case k6 => k_is); (case k7 => k_is); (case k8 => first | allgen_close_more | (simp only [depth_in1, depth_deeper] at *; omega)); (case k9 => first | exact BindsTo.of_eq rfl | exact binds_K (by k_in) rfl (by k_is) rfl rfl rfl); (case kB => exact rfl); (case kD => decide +kernel); (case c2 => exact rfl); (case c3 => exact rfl); (case c4 => exact rfl); k_whole; intro g' L' h' tk' cells' FG' F' N' Y' B' X' T' l1); (try k_lt l1); k_cells Y'; (try simp only [List.cons_append, List.nil_append] at N'); (try dsimp only); (refine wp_noE ?_); (refine wp_toks ?_); intro tk0; (try dsimp only); (try k_fold))
 replace F' : Fr g' L' h' (fun y => if y = Str.ofString "number" then some (.int n t) else none) := fr_eq F' (by kernel_rfl)
 rename Obj => o'
 (revert o'; tb_start; refine fun o' => Ap.mk ?_; intros _ N')
 rename Obj.data _ = _ => hd1
 replace hd1 : o'.data = .cell none := hd1.trans (by kernel_rfl)
 (repeat' ((fail_if_success with_reducible first | refine z1 ?_ | refine z2 ?_ | refine z3 ?_ | refine z4 ?_ | refine z5 ?_ | refine z6 ?_ | refine z7 ?_ | refine zc (by decide) ?_ | refine z9 ?_); (first | (k_unfold; try dsimp only) | (dsimp only; k_unfold; try dsimp only) | walk1 | (dsimp only; walk1) | fail)))
 (k_dflt (refine' kdn_str ?q ?F ?N ?b ?a ?l ?e ?n ?_; (case q => rfl); (case F => k_asm); (case N => first | k_asm | exact News.nil); (case b => exact Top.nolimit (by k_asm)); (case a => rfl); (case l => rfl); (case e => exact List.cons_ne_nil _ _); (case n => exact Nat.le_of_ble_eq_true rfl)))
 intro d h1 od F1 N1 l1 lo hd
 k_lt l1
 (repeat' ((fail_if_success with_reducible first | refine z1 ?_ | refine z2 ?_ | refine z3 ?_ | refine z4 ?_ | refine z5 ?_ | refine z6 ?_ | refine z7 ?_ | refine zc (by decide) ?_ | refine z9 ?_); (first | (k_unfold; try dsimp only) | (dsimp only; k_unfold; try dsimp only) | walk1 | (dsimp only; walk1) | fail)))
 dsimp only
 (refine' kdn_made_strF ?F ?N ?U ?d ?k ?n ?v ?_; (case F => k_asm); (case N => k_asm); (case U => k_updF); (case d => k_asm); (case k => rfl); (case n => exact of_decide_eq_true (by first | rfl | kernel_rfl!)); (case v => rfl))
 intro h2 o2 F2 N2 hd2 hf2
 (repeat' ((fail_if_success with_reducible first | refine z1 ?_ | refine z2 ?_ | refine z3 ?_ | refine z4 ?_ | refine z5 ?_ | refine z6 ?_ | refine z7 ?_ | refine zc (by decide) ?_ | refine z9 ?_); (first | (k_unfold; try dsimp only) | (dsimp only; k_unfold; try dsimp only) | walk1 | (dsimp only; walk1) | fail)))
 first | k_dflt (refine listComp_G (by k_asm) (by with_unfolding_all rfl) (by decide) (by rfl) (by decide) ?_ (fun _ => rfl)) | fail
 (repeat' ((fail_if_success with_reducible first | refine z1 ?_ | refine z2 ?_ | refine z3 ?_ | refine z4 ?_ | refine z5 ?_ | refine z6 ?_ | refine z7 ?_ | refine zc (by decide) ?_ | refine z9 ?_); (first | (k_unfold; try dsimp only) | (dsimp only; k_unfold; try dsimp only) | walk1 | (dsimp only; walk1) | fail)))
 (k_dflt (refine' Ctr.use (signs_ctr n _) ?hA ?B ?F ?X ?N ?T ?kk ?hd ?hu ?_; (case hA => exact rfl); (case B => k_asm); (case F => k_asm); (case X => k_asm); (case N => k_asm); (case T => k_asm); (case kk => first | exact rfl | assumption); (case hd => allgen_close_more); (case hu => allgen_close_more)))
 rintro _ _ h3 tk3 ⟨rfl, t3, rfl⟩ F3 N3
 (revert F3 N3; revert h3 tk3 t3; with_reducible refine Drk3.all (by kpf_c) ((?_ : All3 _) _ _ _); refine fun h3 tk3 t3 => Ap3.mk ?_; intros F3 N3)
 dsimp only
 rename Obj => o3
 rename Obj.data o3 = _ => hd3
 have hsz := signs_size n
 refine source_str rfl F3 N3 (by rw [hsz]; decide) fun gI I fp wr Md St Xs => ⟨_, _, _, _, _, _, _, _, _, fun i ys nw => nw = (d, o2) :: (L' + 1, o3) :: news ∧ StrsAre ys (((signs n).cps.toList.take i).map escT), Xs, fun p hp => hp, ⟨rfl, .nil⟩, ?_, ?_⟩
 · refine CTurnL.name (by rfl) (by rfl) ?_
   rintro i v C oC D m₂ g h tk ys nw own htk hi ⟨c, u, hc, rfl⟩ ⟨rfl, hS⟩ hC hv Fc Nc off hown hw hCD hCL hDL
   (revert Xs htk hi hc hS hC hv Fc Nc off hown hw hCD hCL hDL; revert gI I fp wr Md St i C oC D m₂ g h tk ys own c u; with_reducible refine Drk6.all (by kpf_c) ((?_ : All6 _) _ _ _ _ _ _); refine fun gI I fp wr Md St => Ap6.mk ?_; with_reducible refine Drk6.all (by kpf_c) ((?_ : All6 _) _ _ _ _ _ _); refine fun i C oC D m₂ g => Ap6.mk ?_; with_reducible refine Drk6.all (by kpf_c) ((?_ : All6 _) _ _ _ _ _ _); refine fun h tk ys own c u => Ap6.mk ?_; intros Xs htk hi hc hS hC hv Fc Nc off hown hw hCD hCL hDL)
   dsimp only [List.cons_append] at Nc
   dsimp only
   (repeat' ((fail_if_success with_reducible first | refine z1 ?_ | refine z2 ?_ | refine z3 ?_ | refine z4 ?_ | refine z5 ?_ | refine z6 ?_ | refine z7 ?_ | refine zc (by decide) ?_ | refine z9 ?_); (first | (k_unfold; try dsimp only) | (dsimp only; k_unfold; try dsimp only) | walk1 | (dsimp only; walk1) | fail)))
   rename PyProof.V.Flat _ _ => hfl
   obtain ⟨t', rfl⟩ := flat_str2 (x := escT c) g' hfl (by
     simp only [strData, datumOf, Option.getD_some, show Str.ofString "&" = ⟨#[38]⟩ from by decide +kernel, show Str.ofString "<" = ⟨#[60]⟩ from by decide +kernel, show Str.ofString ">" = ⟨#[62]⟩ from by decide +kernel, show Str.ofString "\r" = ⟨#[13]⟩ from by decide +kernel, look_one]
     unfold escT
     repeat' split
     all_goals first | rfl | simp_all [PySem.Spec.lookup])
   refine CEnd.intro Fc Nc hC _ (fun p hp => hp) off ⟨rfl, ?_⟩
   rw [take_succ_map escT (show (signs n).cps.toList[i]? = some c from by rw [Array.getElem?_toList]; exact hc)]
   exact strsAre_snoc hS
 rintro D ys nw hlt hD ⟨rfl, hS⟩ h tk htk Fe Ne
 (revert Xs hlt hS hD htk Fe Ne; revert gI I fp wr Md St D ys h tk; with_reducible refine Drk5.all (by kpf_c) ((?_ : All5 _) _ _ _ _ _); refine fun gI I fp wr Md => Ap5.mk ?_; with_reducible refine Drk5.all (by kpf_c) ((?_ : All5 _) _ _ _ _ _); refine fun St D ys h tk => Ap5.mk ?_; intros Xs hlt hS hD htk Fe Ne)
 dsimp only
 rw [show (signs n).cps.size = (signs n).cps.toList.length from (Array.length_toList).symm, List.take_length] at hS
 (repeat' ((fail_if_success with_reducible first | refine z31 ?_ | refine z1 ?_ | refine z2 ?_ | refine z3 ?_ | refine z4 ?_ | refine z5 ?_ | refine z6 ?_ | refine z7 ?_ | refine zc (by decide) ?_ | refine z9 ?_); (first | (k_unfold; try dsimp only) | (dsimp only; k_unfold; try dsimp only) | walk1 | (dsimp only; walk1) | fail)))
 refine join_listW (isList_news Ne (.head _)) hS (by decide) (txtS_sum n) ?_
 intro t2 k2
 (repeat' ((fail_if_success with_reducible first | refine z1 ?_ | refine z2 ?_ | refine z3 ?_ | refine z4 ?_ | refine z5 ?_ | refine z6 ?_ | refine z7 ?_ | refine zc (by decide) ?_ | refine z9 ?_); (first | (k_unfold; try dsimp only) | (dsimp only; k_unfold; try dsimp only) | walk1 | (dsimp only; walk1) | fail)))
 ((try (k_unfold; (try dsimp only))); k_dflt (refine' leaveK_ ?k1 ?k2 ?_; (case k1 => k_asm); (case k2 => k_asm)); intro kF kN; (try dsimp only))
 exact hret _ news _ _ ⟨rfl, _, rfl⟩ kF (cb_drop kN fun p hp => .tail _ (.tail _ (.tail _ hp)))
def esc1 (c r y : Str) : Str := if (Builtin.Str.occurrences y c 0 y.length 1).isEmpty = true then y else Txt.replace y c r
def EscAt (g : Heap) (L : Addr) (news : Led) (s : Shared) (y : Str) (f : Flow) (s' : Shared) : Prop :=
 f = .next ∧ ∃ h' tk' m' t', s' = { s with heap := h', toks := tk' } ∧ Fr g L h' m' ∧ m' (Str.ofString "text") = some (.str y t') ∧ News g L h' news
theorem join_esc {M : Model} {A : Around} {st : Stmt} {env : Env} {Q : Flow → Shared → Prop} {E : Value → Shared → Prop} {s : Shared} {g : Heap} {L : Addr} {news : Led} (y : Str)
   (h : wpAny M A (exec st env) (EscAt g L news s y) (fun _ _ => False) s)
   (k : ∀ h' tk' u t', Fr g L h' (fm [(Str.ofString "text", .str y t')] u) → News g L h' news → Q .next { s with heap := h', toks := tk' }) : wpAny M A (exec st env) Q E s := by
 refine wpAny_mono h (fun f s' q => ?_) fun _ _ e => e.elim
 obtain ⟨rfl, h', tk', m', t', rfl, F, hm, N⟩ := q
 refine k h' tk' m' t' (by rw [fm_eq (fun p hp => by rw [ms hp]; exact hm)]; exact F) N
theorem esc1_yes {c r y : Str} (h : (Builtin.Str.occurrences y c 0 y.length 1).isEmpty = true) : esc1 c r y = y := if_pos h
theorem esc1_no {c r y : Str} (h : (Builtin.Str.occurrences y c 0 y.length 1).isEmpty = false) : esc1 c r y = Txt.replace y c r := if_neg (by rw [h]; exact Bool.false_ne_true)
theorem esc1_len (c r y : Str) (hr : r.length ≤ 6) : (esc1 c r y).length ≤ y.length + (y.length + 1) * 6 := by
 unfold esc1
 split
 · omega
 unfold Txt.replace
 split
 · omega
 have h1 := PySem.StrLaws.occ_length_le y c 0 y.length (y.length + 1)
 have hy : (Builtin.Str.glued c (Builtin.Str.partsBetween y (Builtin.Str.occurrences y c 0 y.length (y.length + 1)) c.length)).length = y.length := by rw [PySem.StrLaws.glued_between_self]
 rw [size_glued, length_partsBetween, Nat.add_sub_cancel] at hy
 rw [size_glued, length_partsBetween, Nat.add_sub_cancel]
 have h2 : (Builtin.Str.occurrences y c 0 y.length (y.length + 1)).length * r.length ≤ (y.length + 1) * 6 := Nat.mul_le_mul h1 hr
 omega
section
local macro_rules | `(tactic| walk_at "execs cons") => `(tactic| (with_reducible refine wpAny_execs_cons ?_))
local macro_rules | `(tactic| walk_at "execs nil") => `(tactic| (with_reducible refine wpAny_execs_nil ?_))
noncomputable def escAttr (x : Str) : Str := (esc1 (Str.ofString "\r") (Str.ofString "&#xD;") (esc1 (Str.ofString "\n") (Str.ofString "&#xA;") (esc1 (Str.ofString "\t") (Str.ofString "&#x9;") (esc1 (Str.ofString "\"") (Str.ofString "&quot;") (esc1 (Str.ofString "<") (Str.ofString "&lt;") (esc1 (Str.ofString "&") (Str.ofString "&amp;") x))))))
theorem attr_ctr {w : World} {news : Led} (x : Str) (t : Tok) (hx : x.length ≤ 14) : CtrP w 168 2 12 news [.str x t] (fun v l => l = news ∧ ∃ t', v = .str (escAttr x) t') := by
 w_top off
 (revert hx; revert w news x t; with_reducible refine (no_implicit_lambda% (Drk4.all (by kpf_c) ((?_ : All4 _) _ _ _ _))); refine fun w news x t => Ap4.mk ?_; intros hx)
 (refine CtrP.open ?_; generalize CtrP.cs _ _ _ _ _ _ _ = bCS; unfold CtrP.At; generalize bCS.p = p, bCS.loose = loose, bCS.mean = mean, bCS.mg = mg, bCS.mb = mb, bCS.dp = dp, bCS.un = un, bCS.gd = gd, bCS.cn = cn, bCS.cs = cs, bCS.a = a, bCS.ccd = ccd, bCS.cl = cl, bCS.outer = outer, bCS.A₀ = A₀, bCS.base = base, bCS.h₀ = h₀, bCS.L = L, bCS.m = m, bCS.s = s, bCS.Q = Q, bCS.E = E; clear bCS; intros St ht hret; obtain ⟨B, F, X, N, T, hk, hdp, hup⟩ := St; revert X; k_fill; intro X; refine wpAny_call ?_)
 (k_dflt (refine' code_def ?k1 ?k2 ?k3 ?k4 ?k5 ?kA ?kF ?kK ?k6 ?k7 ?k8 ?k9 ?kB ?_ ?c2 ?c3 ?c4 ?c5; (case kA => exact rfl); (case kF => exact rfl); (case kK => assumption); (case k1 => k_asm); (case k2 => k_asm); (case k3 => k_asm); (case k4 => k_asm); (case k5 => k_asm); (case k6 => k_is); (case k7 => k_is); (case k8 => first | allgen_close_more | (simp only [depth_in1, depth_deeper] at *; omega)); (case k9 => first | exact BindsTo.of_eq rfl | exact binds_K (by k_in) rfl (by k_is) rfl rfl rfl); (case c5 => decide); (case kB => exact locs rfl); (case c2 => exact rfl); (case c3 => exact rfl); (case c4 => exact rfl); k_whole; intro g' L' h' FG' F' N' B' X' T'); (try dsimp only); (refine wp_noE ?_); (refine wp_toksP (by first | exact ht | (dsimp only; omega)) ?_); intro tk0 ht0; (try dsimp only); (try k_fold))
 replace F' : Fr g' L' h' (fun y => List.lookup y [(Str.ofString "text", .str x t)]) := fr_eq F' (by kernel_rfl)
 have hl0 : x.length ≤ 14 := hx
 (repeat' ((fail_if_success with_reducible first | refine z1 ?_ | refine z2 ?_ | refine z3 ?_ | refine z4 ?_ | refine z5 ?_ | refine z6 ?_ | refine z7 ?_ | refine zc (by decide) ?_ | refine z9 ?_ | refine z44 ?_); (first | (k_unfold; try dsimp only) | (dsimp only; k_unfold; try dsimp only) | walk1 | (dsimp only; walk1) | fail)))
 refine execs_pos (by exact ht0) ?_
 refine join_esc (g := g') (L := L') (news := news) (esc1 (Str.ofString "&") (Str.ofString "&amp;") x) ?_ ?_
 · (repeat' ((fail_if_success with_reducible first | refine z1 ?_ | refine z2 ?_ | refine z3 ?_ | refine z4 ?_ | refine z5 ?_ | refine z6 ?_ | refine z7 ?_ | refine zc (by decide) ?_ | refine z9 ?_); (first | (k_unfold; try dsimp only) | (dsimp only; k_unfold; try dsimp only) | walk1 | (dsimp only; walk1) | fail)))
   · rename (Builtin.Str.occurrences _ _ _ _ _).isEmpty = _ => hq
     rw [esc1_yes hq]
     exact ⟨rfl, _, _, _, _, rfl, by k_asm, rfl, by k_asm⟩
   rename (Builtin.Str.occurrences _ _ _ _ _).isEmpty = _ => hq
   rw [esc1_no hq]
   exact ⟨rfl, _, _, _, _, rfl, by k_asm, rfl, by k_asm⟩
 intro h1 tk1 u1 t1 F1 N1 ht1
 have hl1 : (esc1 (Str.ofString "&") (Str.ofString "&amp;") x).length ≤ 104 := Nat.le_trans (esc1_len (Str.ofString "&") (Str.ofString "&amp;") x (by decide)) (by omega)
 generalize hy1 : (esc1 (Str.ofString "&") (Str.ofString "&amp;") x) = y1 at *
 (revert hy1 F1 hl1; revert y1; tb_start; refine fun y1 => Ap.mk ?_; intros hy1 F1 hl1)
 dsimp only at ht1 ⊢
 refine execs_pos (by exact ht1) ?_
 refine join_esc (g := g') (L := L') (news := news) (esc1 (Str.ofString "<") (Str.ofString "&lt;") y1) ?_ ?_
 · (repeat' ((fail_if_success with_reducible first | refine z1 ?_ | refine z2 ?_ | refine z3 ?_ | refine z4 ?_ | refine z5 ?_ | refine z6 ?_ | refine z7 ?_ | refine zc (by decide) ?_ | refine z9 ?_); (first | (k_unfold; try dsimp only) | (dsimp only; k_unfold; try dsimp only) | walk1 | (dsimp only; walk1) | fail)))
   · rename (Builtin.Str.occurrences _ _ _ _ _).isEmpty = _ => hq
     rw [esc1_yes hq]
     exact ⟨rfl, _, _, _, _, rfl, by k_asm, rfl, by k_asm⟩
   rename (Builtin.Str.occurrences _ _ _ _ _).isEmpty = _ => hq
   rw [esc1_no hq]
   exact ⟨rfl, _, _, _, _, rfl, by k_asm, rfl, by k_asm⟩
 intro h2 tk2 u2 t2 F2 N2 ht2
 have hl2 : (esc1 (Str.ofString "<") (Str.ofString "&lt;") y1).length ≤ 734 := Nat.le_trans (esc1_len (Str.ofString "<") (Str.ofString "&lt;") y1 (by decide)) (by omega)
 generalize hy2 : (esc1 (Str.ofString "<") (Str.ofString "&lt;") y1) = y2 at *
 (revert hy2 F2 hl2; revert y2; tb_start; refine fun y2 => Ap.mk ?_; intros hy2 F2 hl2)
 dsimp only at ht2 ⊢
 refine execs_pos (by exact ht2) ?_
 refine join_esc (g := g') (L := L') (news := news) (esc1 (Str.ofString "\"") (Str.ofString "&quot;") y2) ?_ ?_
 · (repeat' ((fail_if_success with_reducible first | refine z1 ?_ | refine z2 ?_ | refine z3 ?_ | refine z4 ?_ | refine z5 ?_ | refine z6 ?_ | refine z7 ?_ | refine zc (by decide) ?_ | refine z9 ?_); (first | (k_unfold; try dsimp only) | (dsimp only; k_unfold; try dsimp only) | walk1 | (dsimp only; walk1) | fail)))
   · rename (Builtin.Str.occurrences _ _ _ _ _).isEmpty = _ => hq
     rw [esc1_yes hq]
     exact ⟨rfl, _, _, _, _, rfl, by k_asm, rfl, by k_asm⟩
   rename (Builtin.Str.occurrences _ _ _ _ _).isEmpty = _ => hq
   rw [esc1_no hq]
   exact ⟨rfl, _, _, _, _, rfl, by k_asm, rfl, by k_asm⟩
 intro h3 tk3 u3 t3 F3 N3 ht3
 have hl3 : (esc1 (Str.ofString "\"") (Str.ofString "&quot;") y2).length ≤ 5144 := Nat.le_trans (esc1_len (Str.ofString "\"") (Str.ofString "&quot;") y2 (by decide)) (by omega)
 generalize hy3 : (esc1 (Str.ofString "\"") (Str.ofString "&quot;") y2) = y3 at *
 (revert hy3 F3 hl3; revert y3; tb_start; refine fun y3 => Ap.mk ?_; intros hy3 F3 hl3)
 dsimp only at ht3 ⊢
 refine execs_pos (by exact ht3) ?_
 refine join_esc (g := g') (L := L') (news := news) (esc1 (Str.ofString "\t") (Str.ofString "&#x9;") y3) ?_ ?_
 · (repeat' ((fail_if_success with_reducible first | refine z1 ?_ | refine z2 ?_ | refine z3 ?_ | refine z4 ?_ | refine z5 ?_ | refine z6 ?_ | refine z7 ?_ | refine zc (by decide) ?_ | refine z9 ?_); (first | (k_unfold; try dsimp only) | (dsimp only; k_unfold; try dsimp only) | walk1 | (dsimp only; walk1) | fail)))
   · rename (Builtin.Str.occurrences _ _ _ _ _).isEmpty = _ => hq
     rw [esc1_yes hq]
     exact ⟨rfl, _, _, _, _, rfl, by k_asm, rfl, by k_asm⟩
   rename (Builtin.Str.occurrences _ _ _ _ _).isEmpty = _ => hq
   rw [esc1_no hq]
   exact ⟨rfl, _, _, _, _, rfl, by k_asm, rfl, by k_asm⟩
 intro h4 tk4 u4 t4 F4 N4 ht4
 have hl4 : (esc1 (Str.ofString "\t") (Str.ofString "&#x9;") y3).length ≤ 36014 := Nat.le_trans (esc1_len (Str.ofString "\t") (Str.ofString "&#x9;") y3 (by decide)) (by omega)
 generalize hy4 : (esc1 (Str.ofString "\t") (Str.ofString "&#x9;") y3) = y4 at *
 (revert hy4 F4 hl4; revert y4; tb_start; refine fun y4 => Ap.mk ?_; intros hy4 F4 hl4)
 dsimp only at ht4 ⊢
 refine execs_pos (by exact ht4) ?_
 refine join_esc (g := g') (L := L') (news := news) (esc1 (Str.ofString "\n") (Str.ofString "&#xA;") y4) ?_ ?_
 · (repeat' ((fail_if_success with_reducible first | refine z1 ?_ | refine z2 ?_ | refine z3 ?_ | refine z4 ?_ | refine z5 ?_ | refine z6 ?_ | refine z7 ?_ | refine zc (by decide) ?_ | refine z9 ?_); (first | (k_unfold; try dsimp only) | (dsimp only; k_unfold; try dsimp only) | walk1 | (dsimp only; walk1) | fail)))
   · rename (Builtin.Str.occurrences _ _ _ _ _).isEmpty = _ => hq
     rw [esc1_yes hq]
     exact ⟨rfl, _, _, _, _, rfl, by k_asm, rfl, by k_asm⟩
   rename (Builtin.Str.occurrences _ _ _ _ _).isEmpty = _ => hq
   rw [esc1_no hq]
   exact ⟨rfl, _, _, _, _, rfl, by k_asm, rfl, by k_asm⟩
 intro h5 tk5 u5 t5 F5 N5 ht5
 have hl5 : (esc1 (Str.ofString "\n") (Str.ofString "&#xA;") y4).length ≤ 252104 := Nat.le_trans (esc1_len (Str.ofString "\n") (Str.ofString "&#xA;") y4 (by decide)) (by omega)
 generalize hy5 : (esc1 (Str.ofString "\n") (Str.ofString "&#xA;") y4) = y5 at *
 (revert hy5 F5 hl5; revert y5; tb_start; refine fun y5 => Ap.mk ?_; intros hy5 F5 hl5)
 dsimp only at ht5 ⊢
 refine execs_pos (by exact ht5) ?_
 refine join_esc (g := g') (L := L') (news := news) (esc1 (Str.ofString "\r") (Str.ofString "&#xD;") y5) ?_ ?_
 · (repeat' ((fail_if_success with_reducible first | refine z1 ?_ | refine z2 ?_ | refine z3 ?_ | refine z4 ?_ | refine z5 ?_ | refine z6 ?_ | refine z7 ?_ | refine zc (by decide) ?_ | refine z9 ?_); (first | (k_unfold; try dsimp only) | (dsimp only; k_unfold; try dsimp only) | walk1 | (dsimp only; walk1) | fail)))
   · rename (Builtin.Str.occurrences _ _ _ _ _).isEmpty = _ => hq
     rw [esc1_yes hq]
     exact ⟨rfl, _, _, _, _, rfl, by k_asm, rfl, by k_asm⟩
   rename (Builtin.Str.occurrences _ _ _ _ _).isEmpty = _ => hq
   rw [esc1_no hq]
   exact ⟨rfl, _, _, _, _, rfl, by k_asm, rfl, by k_asm⟩
 intro h6 tk6 u6 t6 F6 N6 ht6
 have hl6 : (esc1 (Str.ofString "\r") (Str.ofString "&#xD;") y5).length ≤ 1764734 := Nat.le_trans (esc1_len (Str.ofString "\r") (Str.ofString "&#xD;") y5 (by decide)) (by omega)
 generalize hy6 : (esc1 (Str.ofString "\r") (Str.ofString "&#xD;") y5) = y6 at *
 (revert hy6 F6 hl6; revert y6; tb_start; refine fun y6 => Ap.mk ?_; intros hy6 F6 hl6)
 dsimp only at ht6 ⊢
 (repeat' ((fail_if_success with_reducible first | refine z1 ?_ | refine z2 ?_ | refine z3 ?_ | refine z4 ?_ | refine z5 ?_ | refine z6 ?_ | refine z7 ?_ | refine zc (by decide) ?_ | refine z9 ?_); (first | (k_unfold; try dsimp only) | (dsimp only; k_unfold; try dsimp only) | walk1 | (dsimp only; walk1) | fail)))
 ((try (k_unfold; (try dsimp only))); k_dflt (refine' leaveK_ ?k1 ?k2 ?_; (case k1 => k_asm); (case k2 => k_asm)); intro kF kN; (try dsimp only))
 exact hret _ news _ _ ⟨rfl, _, by rw [← hy6, ← hy5, ← hy4, ← hy3, ← hy2, ← hy1]; rfl⟩ kF kN
noncomputable def escText (x : Str) : Str := (esc1 (Str.ofString "\r") (Str.ofString "&#xD;") (esc1 (Str.ofString ">") (Str.ofString "&gt;") (esc1 (Str.ofString "<") (Str.ofString "&lt;") (esc1 (Str.ofString "&") (Str.ofString "&amp;") x))))
theorem cdata_ctr {w : World} {news : Led} (x : Str) (t : Tok) (hx : x.length ≤ 3) : CtrP w 161 2 12 news [.str x t] (fun v l => l = news ∧ ∃ t', v = .str (escText x) t') := by
 w_top off
 (revert hx; revert w news x t; with_reducible refine (no_implicit_lambda% (Drk4.all (by kpf_c) ((?_ : All4 _) _ _ _ _))); refine fun w news x t => Ap4.mk ?_; intros hx)
 (refine CtrP.open ?_; generalize CtrP.cs _ _ _ _ _ _ _ = bCS; unfold CtrP.At; generalize bCS.p = p, bCS.loose = loose, bCS.mean = mean, bCS.mg = mg, bCS.mb = mb, bCS.dp = dp, bCS.un = un, bCS.gd = gd, bCS.cn = cn, bCS.cs = cs, bCS.a = a, bCS.ccd = ccd, bCS.cl = cl, bCS.outer = outer, bCS.A₀ = A₀, bCS.base = base, bCS.h₀ = h₀, bCS.L = L, bCS.m = m, bCS.s = s, bCS.Q = Q, bCS.E = E; clear bCS; intros St ht hret; obtain ⟨B, F, X, N, T, hk, hdp, hup⟩ := St; revert X; k_fill; intro X; refine wpAny_call ?_)
 (k_dflt (refine' code_def ?k1 ?k2 ?k3 ?k4 ?k5 ?kA ?kF ?kK ?k6 ?k7 ?k8 ?k9 ?kB ?_ ?c2 ?c3 ?c4 ?c5; (case kA => exact rfl); (case kF => exact rfl); (case kK => assumption); (case k1 => k_asm); (case k2 => k_asm); (case k3 => k_asm); (case k4 => k_asm); (case k5 => k_asm); (case k6 => k_is); (case k7 => k_is); (case k8 => first | allgen_close_more | (simp only [depth_in1, depth_deeper] at *; omega)); (case k9 => first | exact BindsTo.of_eq rfl | exact binds_K (by k_in) rfl (by k_is) rfl rfl rfl); (case c5 => decide); (case kB => exact locs rfl); (case c2 => exact rfl); (case c3 => exact rfl); (case c4 => exact rfl); k_whole; intro g' L' h' FG' F' N' B' X' T'); (try dsimp only); (refine wp_noE ?_); (refine wp_toksP (by first | exact ht | (dsimp only; omega)) ?_); intro tk0 ht0; (try dsimp only); (try k_fold))
 replace F' : Fr g' L' h' (fun y => List.lookup y [(Str.ofString "text", .str x t)]) := fr_eq F' (by kernel_rfl)
 have hl0 : x.length ≤ 3 := hx
 (repeat' ((fail_if_success with_reducible first | refine z1 ?_ | refine z2 ?_ | refine z3 ?_ | refine z4 ?_ | refine z5 ?_ | refine z6 ?_ | refine z7 ?_ | refine zc (by decide) ?_ | refine z9 ?_ | refine z44 ?_); (first | (k_unfold; try dsimp only) | (dsimp only; k_unfold; try dsimp only) | walk1 | (dsimp only; walk1) | fail)))
 refine execs_pos (by exact ht0) ?_
 refine join_esc (g := g') (L := L') (news := news) (esc1 (Str.ofString "&") (Str.ofString "&amp;") x) ?_ ?_
 · (repeat' ((fail_if_success with_reducible first | refine z1 ?_ | refine z2 ?_ | refine z3 ?_ | refine z4 ?_ | refine z5 ?_ | refine z6 ?_ | refine z7 ?_ | refine zc (by decide) ?_ | refine z9 ?_); (first | (k_unfold; try dsimp only) | (dsimp only; k_unfold; try dsimp only) | walk1 | (dsimp only; walk1) | fail)))
   · rename (Builtin.Str.occurrences _ _ _ _ _).isEmpty = _ => hq
     rw [esc1_yes hq]
     exact ⟨rfl, _, _, _, _, rfl, by k_asm, rfl, by k_asm⟩
   rename (Builtin.Str.occurrences _ _ _ _ _).isEmpty = _ => hq
   rw [esc1_no hq]
   exact ⟨rfl, _, _, _, _, rfl, by k_asm, rfl, by k_asm⟩
 intro h1 tk1 u1 t1 F1 N1 ht1
 have hl1 : (esc1 (Str.ofString "&") (Str.ofString "&amp;") x).length ≤ 27 := Nat.le_trans (esc1_len (Str.ofString "&") (Str.ofString "&amp;") x (by decide)) (by omega)
 generalize hy1 : (esc1 (Str.ofString "&") (Str.ofString "&amp;") x) = y1 at *
 (revert hy1 F1 hl1; revert y1; tb_start; refine fun y1 => Ap.mk ?_; intros hy1 F1 hl1)
 dsimp only at ht1 ⊢
 refine execs_pos (by exact ht1) ?_
 refine join_esc (g := g') (L := L') (news := news) (esc1 (Str.ofString "<") (Str.ofString "&lt;") y1) ?_ ?_
 · (repeat' ((fail_if_success with_reducible first | refine z1 ?_ | refine z2 ?_ | refine z3 ?_ | refine z4 ?_ | refine z5 ?_ | refine z6 ?_ | refine z7 ?_ | refine zc (by decide) ?_ | refine z9 ?_); (first | (k_unfold; try dsimp only) | (dsimp only; k_unfold; try dsimp only) | walk1 | (dsimp only; walk1) | fail)))
   · rename (Builtin.Str.occurrences _ _ _ _ _).isEmpty = _ => hq
     rw [esc1_yes hq]
     exact ⟨rfl, _, _, _, _, rfl, by k_asm, rfl, by k_asm⟩
   rename (Builtin.Str.occurrences _ _ _ _ _).isEmpty = _ => hq
   rw [esc1_no hq]
   exact ⟨rfl, _, _, _, _, rfl, by k_asm, rfl, by k_asm⟩
 intro h2 tk2 u2 t2 F2 N2 ht2
 have hl2 : (esc1 (Str.ofString "<") (Str.ofString "&lt;") y1).length ≤ 195 := Nat.le_trans (esc1_len (Str.ofString "<") (Str.ofString "&lt;") y1 (by decide)) (by omega)
 generalize hy2 : (esc1 (Str.ofString "<") (Str.ofString "&lt;") y1) = y2 at *
 (revert hy2 F2 hl2; revert y2; tb_start; refine fun y2 => Ap.mk ?_; intros hy2 F2 hl2)
 dsimp only at ht2 ⊢
 refine execs_pos (by exact ht2) ?_
 refine join_esc (g := g') (L := L') (news := news) (esc1 (Str.ofString ">") (Str.ofString "&gt;") y2) ?_ ?_
 · (repeat' ((fail_if_success with_reducible first | refine z1 ?_ | refine z2 ?_ | refine z3 ?_ | refine z4 ?_ | refine z5 ?_ | refine z6 ?_ | refine z7 ?_ | refine zc (by decide) ?_ | refine z9 ?_); (first | (k_unfold; try dsimp only) | (dsimp only; k_unfold; try dsimp only) | walk1 | (dsimp only; walk1) | fail)))
   · rename (Builtin.Str.occurrences _ _ _ _ _).isEmpty = _ => hq
     rw [esc1_yes hq]
     exact ⟨rfl, _, _, _, _, rfl, by k_asm, rfl, by k_asm⟩
   rename (Builtin.Str.occurrences _ _ _ _ _).isEmpty = _ => hq
   rw [esc1_no hq]
   exact ⟨rfl, _, _, _, _, rfl, by k_asm, rfl, by k_asm⟩
 intro h3 tk3 u3 t3 F3 N3 ht3
 have hl3 : (esc1 (Str.ofString ">") (Str.ofString "&gt;") y2).length ≤ 1371 := Nat.le_trans (esc1_len (Str.ofString ">") (Str.ofString "&gt;") y2 (by decide)) (by omega)
 generalize hy3 : (esc1 (Str.ofString ">") (Str.ofString "&gt;") y2) = y3 at *
 (revert hy3 F3 hl3; revert y3; tb_start; refine fun y3 => Ap.mk ?_; intros hy3 F3 hl3)
 dsimp only at ht3 ⊢
 refine execs_pos (by exact ht3) ?_
 refine join_esc (g := g') (L := L') (news := news) (esc1 (Str.ofString "\r") (Str.ofString "&#xD;") y3) ?_ ?_
 · (repeat' ((fail_if_success with_reducible first | refine z1 ?_ | refine z2 ?_ | refine z3 ?_ | refine z4 ?_ | refine z5 ?_ | refine z6 ?_ | refine z7 ?_ | refine zc (by decide) ?_ | refine z9 ?_); (first | (k_unfold; try dsimp only) | (dsimp only; k_unfold; try dsimp only) | walk1 | (dsimp only; walk1) | fail)))
   · rename (Builtin.Str.occurrences _ _ _ _ _).isEmpty = _ => hq
     rw [esc1_yes hq]
     exact ⟨rfl, _, _, _, _, rfl, by k_asm, rfl, by k_asm⟩
   rename (Builtin.Str.occurrences _ _ _ _ _).isEmpty = _ => hq
   rw [esc1_no hq]
   exact ⟨rfl, _, _, _, _, rfl, by k_asm, rfl, by k_asm⟩
 intro h4 tk4 u4 t4 F4 N4 ht4
 have hl4 : (esc1 (Str.ofString "\r") (Str.ofString "&#xD;") y3).length ≤ 9603 := Nat.le_trans (esc1_len (Str.ofString "\r") (Str.ofString "&#xD;") y3 (by decide)) (by omega)
 generalize hy4 : (esc1 (Str.ofString "\r") (Str.ofString "&#xD;") y3) = y4 at *
 (revert hy4 F4 hl4; revert y4; tb_start; refine fun y4 => Ap.mk ?_; intros hy4 F4 hl4)
 dsimp only at ht4 ⊢
 (repeat' ((fail_if_success with_reducible first | refine z1 ?_ | refine z2 ?_ | refine z3 ?_ | refine z4 ?_ | refine z5 ?_ | refine z6 ?_ | refine z7 ?_ | refine zc (by decide) ?_ | refine z9 ?_); (first | (k_unfold; try dsimp only) | (dsimp only; k_unfold; try dsimp only) | walk1 | (dsimp only; walk1) | fail)))
 ((try (k_unfold; (try dsimp only))); k_dflt (refine' leaveK_ ?k1 ?k2 ?_; (case k1 => k_asm); (case k2 => k_asm)); intro kF kN; (try dsimp only))
 exact hret _ news _ _ ⟨rfl, _, by rw [← hy4, ← hy3, ← hy2, ← hy1]; rfl⟩ kF kN
end
noncomputable def rowS (q : Str × Str) : Str := Str.empty ++ Str.ofString " " ++ q.1 ++ Str.ofString "=\"" ++ escAttr q.2 ++ Str.ofString "\""
theorem la_look : typeLookup (.type "list") (Str.ofString "append") = pure (some (.builtin "list.append")) := by rw [typeLookup_type, builtinLookup_eq_fast]; kernel_rfl
theorem la_get : specialOf (.builtin "list.append") (Str.ofString "__get__") = pure (some (.builtin "method_descriptor.__get__")) := by
 show (typeOf (.builtin "list.append") >>= fun t => typeLookup t _) = _
 rw [type_list_append]
 show typeLookup (.type "method_descriptor") _ = _
 rw [typeLookup_type, builtinLookup_eq_fast]; kernel_rfl
theorem la_set : specialOf (.builtin "list.append") (Str.ofString "__set__") = pure none := by
 show (typeOf (.builtin "list.append") >>= fun t => typeLookup t _) = _
 rw [type_list_append]
 show typeLookup (.type "method_descriptor") _ = _
 rw [typeLookup_type, builtinLookup_eq_fast]; kernel_rfl
theorem la_del : specialOf (.builtin "list.append") (Str.ofString "__delete__") = pure none := by
 show (typeOf (.builtin "list.append") >>= fun t => typeLookup t _) = _
 rw [type_list_append]
 show typeLookup (.type "method_descriptor") _ = _
 rw [typeLookup_type, builtinLookup_eq_fast]; kernel_rfl
theorem find_append {prog : Program} {w : World} {A : Around} {E : Value → Shared → Prop} {s : Shared} {a : Addr} {xs : Array Value} {k : Nat} {sl : Array (Option Value)} {Q : Builtin.ObjectAttr.Found → Shared → Prop}
   (hx : s.heap.get? a = some { cls := .type "list", dict := none, data := .seq xs k, slots := sl }) (h : Q (.bind (.builtin "method_descriptor.__get__") (.builtin "list.append")) s) :
   wpAny (model prog w) A (Builtin.ObjectAttr.find (.ref a) (.type "list") (Str.ofString "append")) Q E s := by
 unfold Builtin.ObjectAttr.find
 refine wpAny_bind (wpAny_of_eq la_look ?_)
 refine wpAny_bind (wpAny_of_eq (show Builtin.ObjectAttr.getOf (some (.builtin "list.append")) = pure (some (.builtin "method_descriptor.__get__")) from la_get) ?_)
 refine wpAny_bind ?_
 unfold Builtin.ObjectAttr.dataDescriptor? Builtin.ObjectAttr.takesStores
 refine wpAny_bind (wpAny_bind (wpAny_of_eq la_set ?_))
 simp only [Option.isSome_none, Bool.false_eq_true, if_false]
 refine wpAny_bind (wpAny_of_eq la_del ?_)
 refine wpAny_pure ?_
 simp only [Option.isSome_none, Bool.false_eq_true, if_false]
 refine wpAny_pure ?_
 dsimp only
 unfold Builtin.ObjectAttr.ownThenClass Builtin.ObjectAttr.inOwnDict
 refine wpAny_bind ?_
 dsimp only
 obtain ⟨hp, g, d, tk, os⟩ := s
 have hT : (⟨hp, g, d, tk, os⟩ : Shared).TypeIs (.ref a) "list" := ⟨_, hx, rfl⟩
 unfold Builtin.ObjectAttr.ownDict
 repeat (any_goals (first | assumption | wp_step))
theorem slot_mdget : Slot "method_descriptor" "__get__" "method_descriptor.__get__" := .of (owner := "method_descriptor") (n := "__get__") (by rw [typeLookup_type, builtinLookup_eq_fast]; kernel_rfl) (by decide +kernel) (by decide +kernel) (by decide +kernel)
   (by first | exact .inl (by decide +kernel) | exact .inr (by decide +kernel)) (by rw [isSubtype_type]; kernel_rfl)
theorem entry_mdget : entryFor table "method_descriptor.__get__" = some Builtin.«method_descriptor.__get__» := entryFor_of_tree (by kernel_rfl)
theorem args_mdget (a b c : Value) : argsOk "method_descriptor.__get__" ⟨[a, b, c], []⟩ := by unfold argsOk; kernel_rfl
theorem get_append {prog : Program} {w : World} {A : Around} {E : Value → Shared → Prop} {s : Shared} {a : Addr} {xs : Array Value} {k : Nat} {sl : Array (Option Value)} {Q : Value → Shared → Prop}
   (hx : s.heap.get? a = some { cls := .type "list", dict := none, data := .seq xs k, slots := sl }) (h : ∀ tk, Q (.ref s.heap.objs.size) { s with heap := s.heap.push { cls := .type "builtin_function_or_method", data := .fields #[.builtin "list.append", .ref a] }, toks := tk }) :
   wpAny (model prog w) A (call (.builtin "method_descriptor.__get__") [.builtin "list.append", .ref a, .type "list"]) Q E s := by
 obtain ⟨hp, g, d, tk, os⟩ := s
 have hT : (⟨hp, g, d, tk, os⟩ : Shared).TypeIs (.ref a) "list" := ⟨_, hx, rfl⟩
 refine wpAny_call_entry slot_mdget (type_list_append : typeOf (.builtin "list.append") = _) entry_mdget ?_ (args_mdget _ _ _)
 unfold Builtin.«method_descriptor.__get__»
 dsimp only
 repeat (any_goals (first | assumption | wp_step))
 rw [show ".".intercalate ("list.append".cutAt '.').dropLast = "list" from by decide +kernel]
 refine wpAny_of_eq (show isSubtype (.type "list") (.type "list") = pure true from by rw [isSubtype_type]; kernel_rfl) ?_
 simp only [Bool.not_true, Bool.false_eq_true, if_false]
 refine wpAny_pure (wpAny_bind ?_)
 refine wpAny_newObj_type (wpAny_pure ⟨_, rfl, h _⟩)
theorem meets_append (a : Addr) (xs : Array Value) (k : Nat) (sl : Array (Option Value)) (u : Tok) :
   Meets (Builtin.«object.__getattribute__» ⟨[.ref a, .str (Str.ofString "append") u], []⟩) (fun A R s => s.heap.get? a = some { cls := .type "list", dict := none, data := .seq xs k, slots := sl } ∧
     ∀ tk, R (.ok (.ret (.ref s.heap.objs.size))) { s with heap := s.heap.push { cls := .type "builtin_function_or_method", data := .fields #[.builtin "list.append", .ref a] }, toks := tk }) :=
 Meets.of_wp fun prog w A R s hs => by
   obtain ⟨hp, g, d, tk, os⟩ := s
   obtain ⟨hx, hs⟩ := hs
   have hT : (⟨hp, g, d, tk, os⟩ : Shared).TypeIs (.ref a) "list" := ⟨_, hx, rfl⟩
   unfold Builtin.«object.__getattribute__»
   repeat (any_goals (first | assumption | ((with_reducible show wpAny _ _ (Builtin.ObjectAttr.find _ _ _) _ _ _); refine find_append hx ?_) | ((with_reducible show wpAny _ _ (call (Value.builtin "method_descriptor.__get__") _) _ _ _); refine get_append hx fun tk => ?_) | wp_step))
   exact ⟨_, rfl, hs _⟩
theorem getAttr_append {prog : Program} {w : World} {A : Around} {E : Value → Shared → Prop} {s : Shared} {a : Addr} {xs : Array Value} {k : Nat} {sl : Array (Option Value)} {Q : Value → Shared → Prop}
   (hx : s.heap.get? a = some { cls := .type "list", dict := none, data := .seq xs k, slots := sl })
   (h : ∀ tk, Q (.ref s.heap.objs.size) { s with heap := s.heap.push { cls := .type "builtin_function_or_method", data := .fields #[.builtin "list.append", .ref a] }, toks := tk }) :
   wpAny (model prog w) A (getAttr (.ref a) (Str.ofString "append") true) Q E s := by
 obtain ⟨hp, g, d, tk, os⟩ := s
 have hT : ∀ tk', (⟨hp, g, d, tk', os⟩ : Shared).TypeIs (.ref a) "list" := fun _ => ⟨_, hx, rfl⟩
 have f3 := PySem.F.slot_list_getattribute.lookup
 have f4 := PySem.F.slot_list_getattribute.bind (.ref a)
 have f5 := am_list_getattr_none
 unfold getAttr getAttrBy
 repeat (any_goals (first | assumption | exact hT _ | ((with_reducible show wpAny _ _ (call (Value.builtin "list.__getattribute__") _ _) _ _ _); refine call_meets PySem.F.slot_list_getattribute (hT _) am_entry_list_getattribute (PySem.F.args_list_getattribute_2 _ _) (meets_append a xs k sl _) ⟨hx, fun tk' => ?_⟩) | wp_step))
 show wpAny _ _ (handedOut (.ref hp.objs.size)) _ _ _
 exact wpAny_pure (h _)
noncomputable abbrev bndAp (a : Addr) : Obj := { cls := .type "builtin_function_or_method", data := .fields #[.builtin "list.append", .ref a] }
theorem check_ap {prog : Program} {w : World} {A : Around} {E : Value → Shared → Prop} {s : Shared} {a : Addr} {xs : Array Value} {k : Nat} {sl : Array (Option Value)} {x : Value} {Q : Unit → Shared → Prop}
   (hx : s.heap.get? a = some { cls := .type "list", dict := none, data := .seq xs k, slots := sl }) (hQ : Q () s) :
   wpAny (model prog w) A (checkBoundCall "list.append" ⟨[.ref a, x], []⟩) Q E s := by
 have hsig : Manifest.signature? "list.append" = some ⟨.oneArg, "list.append", "append", .self, [⟨"object", .posOnly, true⟩]⟩ := by rw [signature?_of (id := "list.append") (n := ['d', 'n', 'e', 'p', 'p', 'a']) (o := ['t', 's', 'i', 'l']) (by kernel_rfl) PySem.F.owner_list]; kernel_rfl
 have hkind : builtinKind "list.append" = some .method := by kernel_rfl
 obtain ⟨hp, g, d, tk, os⟩ := s
 have hT : (⟨hp, g, d, tk, os⟩ : Shared).TypeIs (.ref a) "list" := ⟨_, hx, rfl⟩
 unfold checkBoundCall
 rw [hsig, hkind]
 dsimp only
 rw [if_neg (by decide)]
 unfold isInstance
 repeat (any_goals (first | assumption | wp_step))
 refine wpAny_of_eq (show isSubtype (.type "list") (.type "module") = pure false from by rw [isSubtype_type]; kernel_rfl) ?_
 rw [if_neg (by decide +kernel)]
 repeat (any_goals (first | assumption | wp_step))
theorem iteT {α : Type} {M : Model} {A : Around} {c : Prop} [Decidable c] {a b : Sem α} {Q : α → Shared → Prop} {E : Value → Shared → Prop} {s : Shared} (hc : c) (h : wpAny M A a Q E s) : wpAny M A (if c then a else b) Q E s := by rw [if_pos hc]; exact h
theorem call_bnd {prog : Program} {w : World} {A : Around} {E : Value → Shared → Prop} {s : Shared} {q a : Addr} {xs : Array Value} {k : Nat} {x : Value} {Q : Value → Shared → Prop}
   (hq : s.heap.get? q = some (bndAp a)) (hx : s.heap.get? a = some (listOf xs k))
   (h : ∀ h', h'.get? a = some (listOf (xs.push x) (k + 1)) → Heap.SameBut a s.heap h' → Q .none { s with heap := h' }) (hsz : xs.size ≤ sizeLine) :
   wpAny (model prog w) A (call (.ref q) [x]) Q E s := by
 refine wpAny_call (codeAny_of_tree ?_)
 show wpAny _ A.in1 (callAny (.ref q) ⟨[x], []⟩) _ _ s
 simp only [callAny]
 refine wpAny_bind (wpAny_load hq ?_)
 simp only [bndAp, show (Value.type "builtin_function_or_method" == Value.type "method" || Value.type "builtin_function_or_method" == Value.type "builtin_function_or_method" || Value.type "builtin_function_or_method" == Value.type "method-wrapper") = true by decide, if_true]
 refine iteT (by decide) ?_
 refine wpAny_bind (check_ap hx ?_)
 refine wpAny_bind (wpAny_pure (wpAny_pure ?_))
 refine ⟨Code.quiet_builtin _ (by decide +kernel), codeAny_builtin entry_list_append ?_⟩
 show wpAny _ _ (updateSeq a (·.push x) >>= fun _ => ret .none) _ _ s
 refine wpAny_bind ?_
 refine wpAny_updateSeq hx rfl (wpAny_pure ?_)
 exact h _ (by rw [Heap.get?_update_self _ hx (by rw [Obj.mapSeq_push_plain]; rfl), Obj.mapSeq_push_plain]) (Heap.SameBut.update ..)
theorem call_bndK {prog : Program} {w : World} {A : Around} {E : Value → Shared → Prop} {s : Shared} {h₀ : Heap} {L : Addr} {m : Str → Option Value} {news news' : Led} {q D : Addr} {its : Array Value} {n : Nat} {x : Value} {Q : Value → Shared → Prop}
   (F : Fr h₀ L s.heap m) (N : News h₀ L s.heap news) (hq : (q, bndAp D) ∈ news) (U : Upd D (listOf its n) (listOf (its.push x) (n + 1)) news news')
   (h : ∀ h', Fr h₀ L h' m → News h₀ L h' news' → Q .none { s with heap := h' }) (hsz : its.size ≤ sizeLine) : wpAny (model prog w) A (call (.ref q) [x]) Q E s := by
 obtain ⟨pre, post, rfl, rfl, a, b⟩ := U.split
 have z := N (D, listOf its n) (List.mem_append.mpr (.inr (.head _)))
 exact call_bnd (N.get hq) z.1 (fun h' ho' hs => h h' (F.change hs z.2.1 z.2.2) (news_set N a b hs ho')) hsz
theorem callWith_bndK {prog : Program} {w : World} {A : Around} {E : Value → Shared → Prop} {s : Shared} {pos : Pos} {q D : Addr} {env : Env} {e : Expr} {Q : Value → Shared → Prop}
   (h : wpAny (model prog w) A (eval e env) (fun v s₁ => s₁.heap.get? q = some (bndAp D) ∧ wpAny (model prog w) A (call (.ref q) [v]) Q E s₁) E s)
   (hplain : backTo pos (starEach [e] env) = [(false, eval e env)] := by rfl) :
   wpAny (model prog w) A (callWith pos (.ref q) [] (backTo pos (starEach [e] env)) []) Q E s := by
 rw [hplain]
 unfold callWith
 refine wpAny_bind (wpAny_holding (wpAny_mono (PySem.Calls.evalArgs_plain (PySem.Calls.spliced_cons (wpAny_mono h (fun v s₁ h₁ => ?_) fun _ _ x => x)) (Q := fun x s₁ => s₁.heap.get? q = some (bndAp D) ∧ wpAny (model prog w) A (call (.ref q) x.pos x.kw) Q E s₁)) (fun x s₁ h₁ => wpAny_bind (wpAny_standAt ?_)) fun _ _ x => x))
 · exact PySem.Calls.spliced_nil h₁
 obtain ⟨ho, hcall⟩ := h₁
 simp only [show [(false, eval e env)].any (·.1) = false from rfl, List.any_nil, Bool.or_false]
 refine wpAny_bind (m := keeperOf (.ref q)) ?_
 unfold keeperOf
 refine wpAny_bind (wpAny_load ho ?_)
 simp only [bndAp, show (Value.type "builtin_function_or_method" != Value.type "method") = true by decide, show (Value.type "builtin_function_or_method" == Value.type "builtin_function_or_method" || Value.type "builtin_function_or_method" == Value.type "method-wrapper") = true by decide, if_true]
 refine wpAny_pure ?_
 exact wpAny_bind (wpAny_mono hcall (fun r s₂ hr => wpAny_bind (wpAny_holding (wpAny_point (wpAny_pure hr)))) fun _ _ x => x)
theorem getAttr_appendK {prog : Program} {w : World} {A : Around} {E : Value → Shared → Prop} {s : Shared} {h₀ : Heap} {L : Addr} {m : Str → Option Value} {news : Led} {a : Addr} {xs : Array Value} {k : Nat} {Q : Value → Shared → Prop}
   (F : Fr h₀ L s.heap m) (N : News h₀ L s.heap news) (hm : (a, listOf xs k) ∈ news)
   (h : ∀ q h' tk, Fr h₀ L h' m → News h₀ L h' ((q, bndAp a) :: news) → (∀ p ∈ news, p.1 < q) → Q (.ref q) { s with heap := h', toks := tk }) :
   wpAny (model prog w) A (getAttr (.ref a) (Str.ofString "append") true) Q E s :=
 getAttr_append (N.get hm) fun tk => h _ _ tk (F.push _) (News.push F N _) fun p hp => Heap.lt_size (N p hp).1
noncomputable def ent (w : World) (n : String) (t : Tok) (v : Value) : DictEntry := { hash := PyData.keyHash w.params (Str.ofString n), key := .str (Str.ofString n) t, val := v }
structure WA where
 (pc q dx x da t0 d0 dns ns pm ps : Nat)
structure WT where
 (κ : Nat → Tok) (z : Tok) (u v : Tok) (seen done : Bool)
def xmlUri : Str := Str.ofString "http://www.w3.org/XML/1998/namespace"
noncomputable def wDict (w : World) (A : WA) (κ : WT) : Obj := dictOf
 [ent w "_write" (κ.κ 0) (.ref A.q), ent w "_data" (κ.κ 1) (.ref A.da), ent w "_with_comments" (κ.κ 2) (.bool false), ent w "_strip_text" (κ.κ 3) (.bool false), ent w "_exclude_attrs" (κ.κ 4) .none, ent w "_exclude_tags" (κ.κ 5) .none,
  ent w "_rewrite_prefixes" (κ.κ 6) (.bool true), ent w "_qname_aware_tags" (κ.κ 7) .none, ent w "_find_qname_aware_attrs" (κ.κ 8) .none, ent w "_declared_ns_stack" (κ.κ 9) (.ref A.dns), ent w "_ns_stack" (κ.κ 10) (.ref A.ns),
  ent w "_prefix_map" (κ.κ 11) (.ref A.pm), ent w "_preserve_space" (κ.κ 12) (.ref A.ps), ent w "_pending_start" (κ.κ 13) .none, ent w "_root_seen" (κ.κ 14) (.bool κ.seen), ent w "_root_done" (κ.κ 15) (.bool κ.done),
  ent w "_ignored_depth" (κ.κ 16) (.int 0 κ.z), ent w "_iter_namespaces" (κ.κ 17) (.ref 219)] 18
structure WL where
 (pcs : Array Value) (np : Nat) (dat : Array Value) (nd : Nat) (lv : Array Value) (nl : Nat) (nss : Array Value) (nn : Nat) (pv : Array Value) (nv : Nat) (opm : Obj)
noncomputable def wLed (w : World) (A : WA) (κ : WT) (S : WL) (R : Led) : Led :=
 (A.ps, listOf S.pv S.nv) :: (A.pm, S.opm) :: (A.ns, listOf S.nss S.nn) :: (A.dns, listOf S.lv S.nl) :: (A.d0, listOf #[.ref A.t0] 0) ::
 (A.t0, { cls := .type "tuple", data := .seq #[.str xmlUri κ.u, .str (Str.ofString "xml") κ.v] }) :: (A.da, listOf S.dat S.nd) :: (A.x, instObj 150 A.dx) :: (A.dx, wDict w A κ) :: (A.q, bndAp A.pc) :: (A.pc, listOf S.pcs S.np) :: R
structure WA.Ord (A : WA) (R : Led) : Prop where
 o : A.pc < A.q ∧ A.q < A.dx ∧ A.dx < A.x ∧ A.x < A.da ∧ A.da < A.t0 ∧ A.t0 < A.d0 ∧ A.d0 < A.dns ∧ A.dns < A.ns ∧ A.ns < A.pm ∧ A.pm < A.ps
 off : ∀ p ∈ R, p.1 < A.pc ∨ A.ps < p.1
theorem WA.Ord.ne {A : WA} {R : Led} (O : A.Ord R) {a : Nat} (h1 : A.pc ≤ a) (h2 : a ≤ A.ps) : ∀ p ∈ R, p.1 ≠ a := fun p hp e => by
 rcases O.off p hp with h | h
 · exact absurd (Nat.lt_of_le_of_lt (Nat.le_of_eq e.symm) h) (Nat.not_lt.mpr h1)
 exact absurd (Nat.lt_of_lt_of_le h (Nat.le_of_eq e)) (Nat.not_lt.mpr h2)
def WriterPost (w : World) (pc : Addr) (nw : Led) (v : Value) (l : Led) : Prop := ∃ A κ n2 opm, v = .ref A.x ∧ A.pc = pc ∧ A.Ord nw ∧ Obj.IsDictOf (strKind rw_pg0305_01.row.prog w) opm [] ∧ (A.pm == sysModules) = false ∧ κ.seen = false ∧
     l = wLed w A κ { pcs := #[], np := 0, dat := #[], nd := 0, lv := #[.ref A.d0], nl := 0, nss := #[n2], nn := 1, pv := #[.bool false], nv := 0, opm := opm } nw
theorem writer_fin {w : World} {h₀ h : Heap} {L : Addr} {pc q dx x da t0 d0 dns n2 ns pm ps : Addr} {nw : Led} {opm : Obj} {k0 k1 k2 k3 k4 k5 k6 k7 k8 k9 k10 k11 k12 k13 k14 k15 k16 k17 z tu tv : Tok}
   (kN : News h₀ L h ((ps, listOf #[.bool false] 0) :: (pm, opm) :: (n2, listOf #[] 0) :: (ns, listOf (#[].push (.ref n2)) (0 + 1)) :: (dns, listOf #[.ref d0] 0) :: (d0, listOf #[.ref t0] 0) ::
     (t0, { cls := .type "tuple", data := .seq #[.str (Str.ofString "http://www.w3.org/XML/1998/namespace") tu, .str (Str.ofString "xml") tv] }) :: (da, listOf #[] 0) :: (x, instObj 150 dx) ::
     (dx, dictOf [{ hash := PyData.keyHash w.params (Str.ofString "_write"), key := .str (Str.ofString "_write") k0, val := (.ref q) }, { hash := PyData.keyHash w.params (Str.ofString "_data"), key := .str (Str.ofString "_data") k1, val := (.ref da) }, { hash := PyData.keyHash w.params (Str.ofString "_with_comments"), key := .str (Str.ofString "_with_comments") k2, val := (.bool false) }, { hash := PyData.keyHash w.params (Str.ofString "_strip_text"), key := .str (Str.ofString "_strip_text") k3, val := (.bool false) }, { hash := PyData.keyHash w.params (Str.ofString "_exclude_attrs"), key := .str (Str.ofString "_exclude_attrs") k4, val := .none }, { hash := PyData.keyHash w.params (Str.ofString "_exclude_tags"), key := .str (Str.ofString "_exclude_tags") k5, val := .none }, { hash := PyData.keyHash w.params (Str.ofString "_rewrite_prefixes"), key := .str (Str.ofString "_rewrite_prefixes") k6, val := (.bool true) }, { hash := PyData.keyHash w.params (Str.ofString "_qname_aware_tags"), key := .str (Str.ofString "_qname_aware_tags") k7, val := .none }, { hash := PyData.keyHash w.params (Str.ofString "_find_qname_aware_attrs"), key := .str (Str.ofString "_find_qname_aware_attrs") k8, val := .none }, { hash := PyData.keyHash w.params (Str.ofString "_declared_ns_stack"), key := .str (Str.ofString "_declared_ns_stack") k9, val := (.ref dns) }, { hash := PyData.keyHash w.params (Str.ofString "_ns_stack"), key := .str (Str.ofString "_ns_stack") k10, val := (.ref ns) }, { hash := PyData.keyHash w.params (Str.ofString "_prefix_map"), key := .str (Str.ofString "_prefix_map") k11, val := (.ref pm) }, { hash := PyData.keyHash w.params (Str.ofString "_preserve_space"), key := .str (Str.ofString "_preserve_space") k12, val := (.ref ps) }, { hash := PyData.keyHash w.params (Str.ofString "_pending_start"), key := .str (Str.ofString "_pending_start") k13, val := .none }, { hash := PyData.keyHash w.params (Str.ofString "_root_seen"), key := .str (Str.ofString "_root_seen") k14, val := (.bool false) }, { hash := PyData.keyHash w.params (Str.ofString "_root_done"), key := .str (Str.ofString "_root_done") k15, val := (.bool false) }, { hash := PyData.keyHash w.params (Str.ofString "_ignored_depth"), key := .str (Str.ofString "_ignored_depth") k16, val := (.int 0 z) }, { hash := PyData.keyHash w.params (Str.ofString "_iter_namespaces"), key := .str (Str.ofString "_iter_namespaces") k17, val := (.ref 219) }] 18) :: (q, bndAp pc) :: (pc, listOf #[] 0) :: nw))
   (hi : Obj.IsDictOf (strKind rw_pg0305_01.row.prog w) opm []) (hsm : (pm == sysModules) = false)
   (o : (pc : Nat) < q ∧ (q : Nat) < dx ∧ (dx : Nat) < x ∧ (x : Nat) < da ∧ (da : Nat) < t0 ∧ (t0 : Nat) < d0 ∧ (d0 : Nat) < dns ∧ (dns : Nat) < ns ∧ (ns : Nat) < pm ∧ (pm : Nat) < ps) (hn : ∀ p ∈ nw, @LT.lt Nat _ p.1 pc) :
   ∃ l, WriterPost w pc nw (.ref x) l ∧ News h₀ L h l := by
 refine ⟨_, ⟨⟨pc, q, dx, x, da, t0, d0, dns, ns, pm, ps⟩, ⟨fun | 0 => k0 | 1 => k1 | 2 => k2 | 3 => k3 | 4 => k4 | 5 => k5 | 6 => k6 | 7 => k7 | 8 => k8 | 9 => k9 | 10 => k10 | 11 => k11 | 12 => k12 | 13 => k13 | 14 => k14 | 15 => k15 | 16 => k16 | 17 => k17 | _ => 0, z, tu, tv, false, false⟩, .ref n2, opm, rfl, rfl, ⟨o, fun p hp => .inl (hn p hp)⟩, hi, hsm, rfl, rfl⟩, fun p hp => kN p ?_⟩
 rcases mc hp with rfl | hp
 · exact .head _
 rcases mc hp with rfl | hp
 · exact .tail _ (.head _)
 exact .tail _ (.tail _ (.tail _ hp))
theorem writer_ctr {w : World} {d u : Nat} {pc : Addr} {nw : Led} (hu : 40 ≤ u) (hd : 10 ≤ d) (hn : ∀ p ∈ nw, @LT.lt Nat _ p.1 pc) :
   Ctr w 226 d u ((pc, listOf #[] 0) :: nw) [.ref pc] (WriterPost w pc nw) := by
 w_top off
 (revert hu hd hn; revert w d u pc nw; with_reducible refine (no_implicit_lambda% (Drk5.all (by kpf_c) ((?_ : All5 _) _ _ _ _ _))); refine fun w d u pc nw => Ap5.mk ?_; intros hu hd hn)
 (refine Ctr.open ?_; generalize Ctr.cs _ _ _ _ _ _ _ = bCS; unfold Ctr.At; generalize bCS.p = p, bCS.loose = loose, bCS.mean = mean, bCS.mg = mg, bCS.mb = mb, bCS.dp = dp, bCS.un = un, bCS.gd = gd, bCS.cn = cn, bCS.cs = cs, bCS.a = a, bCS.ccd = ccd, bCS.cl = cl, bCS.outer = outer, bCS.A₀ = A₀, bCS.base = base, bCS.h₀ = h₀, bCS.L = L, bCS.m = m, bCS.s = s, bCS.Q = Q, bCS.E = E; clear bCS; intros St hret; obtain ⟨B, F, X, N, T, hk, hdp, hup⟩ := St; revert X; k_fill; intro X; refine wpAny_call ?_)
 (k_dflt (refine' code_def ?k1 ?k2 ?k3 ?k4 ?k5 ?kA ?kF ?kK ?k6 ?k7 ?k8 ?k9 ?kB ?_ ?c2 ?c3 ?c4 ?c5; (case kA => exact rfl); (case kF => exact rfl); (case kK => assumption); (case k1 => k_asm); (case k2 => k_asm); (case k3 => k_asm); (case k4 => k_asm); (case k5 => k_asm); (case k6 => k_is); (case k7 => k_is); (case k8 => first | allgen_close_more | (simp only [depth_in1, depth_deeper] at *; omega)); (case k9 => first | exact BindsTo.of_eq rfl | exact binds_K (by k_in) rfl (by k_is) rfl rfl rfl); (case c5 => decide); (case kB => exact locs rfl); (case c2 => exact rfl); (case c3 => exact rfl); (case c4 => exact rfl); k_whole; intro g' L' h' FG' F' N' B' X' T'); (try dsimp only); (refine wp_noE ?_); (refine wp_toks ?_); intro tk0; (try dsimp only); (try k_fold))
 replace F' : Fr g' L' h' (fun y => List.lookup y [(Str.ofString "pieces", .ref pc)]) := fr_eq F' (by kernel_rfl)
 (repeat' ((fail_if_success with_reducible first | refine z1 ?_ | refine z2 ?_ | refine z3 ?_ | refine z4 ?_ | refine z5 ?_ | refine z6 ?_ | refine z7 ?_ | refine zc (by decide) ?_ | refine z9 ?_); (first | (k_unfold; try dsimp only) | (dsimp only; k_unfold; try dsimp only) | walk1 | (dsimp only; walk1) | fail)))
 first | k_dflt (refine getAttr_appendK F' N' (.head _) ?_) | fail
 intro q h1 tk1 F1 N1 l1
 k_lt l1
 (repeat' ((fail_if_success with_reducible first | refine z1 ?_ | refine z2 ?_ | refine z3 ?_ | refine z4 ?_ | refine z5 ?_ | refine z6 ?_ | refine z7 ?_ | refine zc (by decide) ?_ | refine z9 ?_); (first | (k_unfold; try dsimp only) | (dsimp only; k_unfold; try dsimp only) | walk1 | (dsimp only; walk1) | fail)))
 (k_dflt (refine' call_cls ?k1 ?k2 ?k3 ?k4 ?k5 ?k6 ?_; (case k1 => k_asm); (case k2 => k_asm); (case k3 => k_asm); (case k4 => k_is); (case k5 => k_is); (case k6 => k_is); k_whole; intro x' d' h' F' N' l1 l2; (try k_lt l1); (try k_lt2 l2); (try k_sweep)))
 (k_dflt (refine' code_def ?k1 ?k2 ?k3 ?k4 ?k5 ?kA ?kF ?kK ?k6 ?k7 ?k8 ?k9 ?kB ?_ ?c2 ?c3 ?c4 ?c5; (case kA => exact rfl); (case kF => exact rfl); (case kK => first | exact rfl | assumption); (case k1 => k_asm); (case k2 => k_asm); (case k3 => k_asm); (case k4 => k_asm); (case k5 => k_asm); (case k6 => k_is); (case k7 => k_is); (case k8 => first | exact room hdp (by with_reducible assumption) (by decide) | exact room2 hdp (by with_reducible assumption) (by decide) | (simp only [depth_in1, depth_deeper, depth_under_make, depth_under_kw] at *; omega)); (case k9 => first | exact BindsTo.of_eq rfl | exact binds_K (by k_in) rfl (by k_is) rfl rfl rfl | (refine' kp_binds ?kx ?ke; (case kx => k_in); (case ke => exact fun _ => rfl))); (case c5 => decide); (case kB => exact locs rfl); (case c2 => exact rfl); (case c3 => exact rfl); (case c4 => exact rfl); k_whole; intro g' L' h' FG' F' N' B' X' T'); (try dsimp only); (refine wp_noE ?_); (refine wp_toks ?_); intro tk0; (try dsimp only); (try k_fold))
 replace F' : Fr g' L' h' (fun y => List.lookup y [(Str.ofString "exclude_tags", .none), (Str.ofString "exclude_attrs", .none), (Str.ofString "qname_aware_attrs", .none), (Str.ofString "qname_aware_tags", .none),
   (Str.ofString "rewrite_prefixes", .bool true), (Str.ofString "strip_text", .bool false), (Str.ofString "with_comments", .bool false), (Str.ofString "write", .ref q), (Str.ofString "self", .ref x')]) := fr_eq F' (by kernel_rfl)
 (repeat' ((fail_if_success with_reducible first | refine z1 ?_ | refine z2 ?_ | refine z3 ?_ | refine z4 ?_ | refine z5 ?_ | refine z6 ?_ | refine z7 ?_ | refine zc (by decide) ?_ | refine z9 ?_); (first | (k_unfold; try dsimp only) | (dsimp only; k_unfold; try dsimp only) | walk1 | (dsimp only; walk1) | fail)))
 walk1
 (repeat' ((fail_if_success with_reducible first | refine z1 ?_ | refine z2 ?_ | refine z3 ?_ | refine z4 ?_ | refine z5 ?_ | refine z6 ?_ | refine z7 ?_ | refine zc (by decide) ?_ | refine z9 ?_); (first | (k_unfold; try dsimp only) | (dsimp only; k_unfold; try dsimp only) | walk1 | (dsimp only; walk1) | fail)))
 ((try (k_unfold; (try dsimp only))); k_dflt (refine' leaveK_ ?k1 ?k2 ?_; (case k1 => k_asm); (case k2 => k_asm)); intro kF kN; (try dsimp only))
 dsimp only at kN
 rename Obj => opm
 have oo := writer_fin kN (by assumption) (by assumption)
 obtain ⟨l, hP, kN'⟩ := oo ⟨by (refine ltN ?_; omega), by (refine ltN ?_; omega), by (refine ltN ?_; omega), by (refine ltN ?_; omega), by (refine ltN ?_; omega), by (refine ltN ?_; omega), by (refine ltN ?_; omega), by (refine ltN ?_; omega), by (refine ltN ?_; omega), by (refine ltN ?_; omega)⟩ hn
 (revert hP kN'; revert l; tb_start; refine fun l => Ap.mk ?_; intros hP kN')
 exact hret _ l _ _ hP kF kN'
theorem Upd.blk {D : Addr} {o o' : Obj} {R : Led} (hR : ∀ p ∈ R, p.1 ≠ D) : ∀ (E : Led) (i : Nat), E.Pairwise (fun a b => a.1 ≠ b.1) → E[i]? = some (D, o) → Upd D o o' (E ++ R) (E.set i (D, o') ++ R)
 | [], i, _, h => by simp at h
 | e :: E, 0, hp, h => by
   have e' : e = (D, o) := by simpa using h
   subst e'
   refine .head fun p hp' => ?_
   rcases ma hp' with h1 | h1
   · exact Ne.symm ((List.pairwise_cons.mp hp).1 p h1)
   exact hR p h1
 | e :: E, i + 1, hp, h => by
   have h1 : E[i]? = some (D, o) := by simpa using h
   exact .tail ((List.pairwise_cons.mp hp).1 _ (List.mem_of_getElem? h1)) (Upd.blk hR E i (List.pairwise_cons.mp hp).2 h1)
theorem UpdF.blk {D : Addr} {o : Obj} {R : Led} (hR : ∀ p ∈ R, p.1 ≠ D) : ∀ (E : Led) (i : Nat), E.Pairwise (fun a b => a.1 ≠ b.1) → E[i]? = some (D, o) → UpdF D o (E ++ R) (fun o' => E.set i (D, o') ++ R)
 | [], i, _, h => by simp at h
 | e :: E, 0, hp, h => by
   have e' : e = (D, o) := by simpa using h
   subst e'
   refine .head fun p hp' => ?_
   rcases ma hp' with h1 | h1
   · exact Ne.symm ((List.pairwise_cons.mp hp).1 p h1)
   exact hR p h1
 | e :: E, i + 1, hp, h => by
   have h1 : E[i]? = some (D, o) := by simpa using h
   exact .tail ((List.pairwise_cons.mp hp).1 _ (List.mem_of_getElem? h1)) (UpdF.blk hR E i (List.pairwise_cons.mp hp).2 h1)
theorem Upd.skip {D : Addr} {o o' : Obj} {l l' : Led} (U : Upd D o o' l l') : ∀ (E : Led), (∀ p ∈ E, p.1 ≠ D) → Upd D o o' (E ++ l) (E ++ l')
 | [], _ => U
 | e :: E, h => .tail (h e (.head _)) (Upd.skip U E fun p hp => h p (.tail _ hp))
theorem UpdF.skip {D : Addr} {o : Obj} {l : Led} {g : Obj → Led} (U : UpdF D o l g) : ∀ (E : Led), (∀ p ∈ E, p.1 ≠ D) → UpdF D o (E ++ l) (fun o' => E ++ g o')
 | [], _ => U
 | e :: E, h => .tail (h e (.head _)) (UpdF.skip U E fun p hp => h p (.tail _ hp))
noncomputable def wE (w : World) (A : WA) (κ : WT) (S : WL) : Led :=
 [(A.ps, listOf S.pv S.nv), (A.pm, S.opm), (A.ns, listOf S.nss S.nn), (A.dns, listOf S.lv S.nl), (A.d0, listOf #[.ref A.t0] 0),
 (A.t0, { cls := .type "tuple", data := .seq #[.str xmlUri κ.u, .str (Str.ofString "xml") κ.v] }), (A.da, listOf S.dat S.nd), (A.x, instObj 150 A.dx), (A.dx, wDict w A κ), (A.q, bndAp A.pc), (A.pc, listOf S.pcs S.np)]
theorem desc_cons {a b : Nat} {l : List Nat} (h : b < a) (p : (b :: l).Pairwise (fun a b => b < a)) : (a :: b :: l).Pairwise (fun a b => b < a) := List.pairwise_cons.mpr ⟨fun c hc => (mc hc).elim (fun e => e ▸ h) (fun hc => Nat.lt_trans ((List.pairwise_cons.mp p).1 c hc) h), p⟩
theorem WA.Ord.gt {A : WA} {R : Led} (O : A.Ord R) (w : World) (κ : WT) (S : WL) : (wE w A κ S).Pairwise (fun a b => @LT.lt Nat _ b.1 a.1) := by
 have o := O.o
 obtain ⟨pc, q, dx, x, da, t0, d0, dns, ns, pm, ps⟩ := A
 dsimp only at o
 have key : [ps, pm, ns, dns, d0, t0, da, x, dx, q, pc].Pairwise (fun a b => b < a) := by
   obtain ⟨o1, o2, o3, o4, o5, o6, o7, o8, o9, o10⟩ := o
   exact desc_cons o10 (desc_cons o9 (desc_cons o8 (desc_cons o7 (desc_cons o6 (desc_cons o5 (desc_cons o4 (desc_cons o3 (desc_cons o2 (desc_cons o1 (List.pairwise_singleton _ _))))))))))
 exact (List.pairwise_map (f := fun p : Addr × Obj => (p.1 : Nat)) (R := fun a b => b < a) (l := wE w ⟨pc, q, dx, x, da, t0, d0, dns, ns, pm, ps⟩ κ S)).mp key
theorem WA.Ord.pw {A : WA} {R : Led} (O : A.Ord R) (w : World) (κ : WT) (S : WL) : (wE w A κ S).Pairwise (fun a b => a.1 ≠ b.1) := (O.gt w κ S).imp fun h => Nat.ne_of_gt h
theorem WA.Ord.bds {A : WA} {R : Led} (O : A.Ord R) {w : World} {κ : WT} {S : WL} : ∀ p ∈ wE w A κ S, @LE.le Nat _ A.pc p.1 ∧ @LE.le Nat _ p.1 A.ps := by
 have h1 := O.gt w κ S
 refine fun p hp => ⟨?_, ?_⟩
 · rcases ma (show p ∈ (wE w A κ S).take 10 ++ [(A.pc, listOf S.pcs S.np)] from hp) with hp | hp
   · exact Nat.le_of_lt ((List.pairwise_append.mp (show ((wE w A κ S).take 10 ++ [(A.pc, listOf S.pcs S.np)]).Pairwise _ from h1)).2.2 p hp _ (.head _))
   rw [ms hp]; exact Nat.le_refl _
 rcases mc hp with rfl | hp
 · exact Nat.le_refl _
 exact Nat.le_of_lt ((List.pairwise_cons.mp h1).1 p hp)
theorem WA.Ord.ne_of {A : WA} {R : Led} (O : A.Ord R) {w : World} {κ : WT} {S : WL} {p : Addr × Obj} (hp : p ∈ wE w A κ S) : ∀ r ∈ R, r.1 ≠ p.1 := O.ne (O.bds p hp).1 (O.bds p hp).2
theorem WA.Ord.of_eq {A : WA} {R R₂ : Led} (O : A.Ord R) (e : R.map (·.1) = R₂.map (·.1)) : A.Ord R₂ := ⟨O.o, fun p hp => by
 have h1 : p.1 ∈ R.map (·.1) := by rw [e]; exact List.mem_map_of_mem hp
 obtain ⟨q, hq, eq⟩ := List.mem_map.mp h1
 have := O.off q hq
 rw [eq] at this; exact this⟩
theorem allLt_top {d : Nat} {w : World} {A : WA} {κ : WT} {S : WL} {R : Led} (h : AllLt d (wLed w A κ S R)) : @LT.lt Nat _ A.ps d := h.1
theorem allLt_R {d : Nat} {w : World} {A : WA} {κ : WT} {S : WL} {R : Led} (h : AllLt d (wLed w A κ S R)) : AllLt d R := h.2.2.2.2.2.2.2.2.2.2.2
theorem updW_ps {w : World} {R : Led} {A : WA} {κ : WT} {np nd nl nn nv : Nat} {pcs dat lv nss pv : Array Value} {opm : Obj} (O : A.Ord R) {pv' : Array Value} {nv' : Nat} : Upd A.ps (listOf pv nv) (listOf pv' nv') (wLed w A κ ⟨pcs, np, dat, nd, lv, nl, nss, nn, pv, nv, opm⟩ R) (wLed w A κ ⟨pcs, np, dat, nd, lv, nl, nss, nn, pv', nv', opm⟩ R) := Upd.blk (O.ne_of (w := w) (κ := κ) (S := ⟨pcs, np, dat, nd, lv, nl, nss, nn, pv, nv, opm⟩) (p := (A.ps, listOf pv nv)) (List.mem_of_getElem? (i := 0) rfl)) (wE w A κ ⟨pcs, np, dat, nd, lv, nl, nss, nn, pv, nv, opm⟩) 0 (O.pw w κ _) rfl
theorem updWF_pm {w : World} {R : Led} {A : WA} {κ : WT} {np nd nl nn nv : Nat} {pcs dat lv nss pv : Array Value} {opm : Obj} (O : A.Ord R) : UpdF A.pm opm (wLed w A κ ⟨pcs, np, dat, nd, lv, nl, nss, nn, pv, nv, opm⟩ R) (fun o' => wLed w A κ ⟨pcs, np, dat, nd, lv, nl, nss, nn, pv, nv, o'⟩ R) := UpdF.blk (O.ne_of (w := w) (κ := κ) (S := ⟨pcs, np, dat, nd, lv, nl, nss, nn, pv, nv, opm⟩) (p := (A.pm, opm)) (List.mem_of_getElem? (i := 1) rfl)) (wE w A κ ⟨pcs, np, dat, nd, lv, nl, nss, nn, pv, nv, opm⟩) 1 (O.pw w κ _) rfl
theorem updW_pm {w : World} {R : Led} {A : WA} {κ : WT} {np nd nl nn nv : Nat} {pcs dat lv nss pv : Array Value} {opm : Obj} (O : A.Ord R) {opm' : Obj} : Upd A.pm opm opm' (wLed w A κ ⟨pcs, np, dat, nd, lv, nl, nss, nn, pv, nv, opm⟩ R) (wLed w A κ ⟨pcs, np, dat, nd, lv, nl, nss, nn, pv, nv, opm'⟩ R) := Upd.blk (O.ne_of (w := w) (κ := κ) (S := ⟨pcs, np, dat, nd, lv, nl, nss, nn, pv, nv, opm⟩) (p := (A.pm, opm)) (List.mem_of_getElem? (i := 1) rfl)) (wE w A κ ⟨pcs, np, dat, nd, lv, nl, nss, nn, pv, nv, opm⟩) 1 (O.pw w κ _) rfl
theorem updW_ns {w : World} {R : Led} {A : WA} {κ : WT} {np nd nl nn nv : Nat} {pcs dat lv nss pv : Array Value} {opm : Obj} (O : A.Ord R) {nss' : Array Value} {nn' : Nat} : Upd A.ns (listOf nss nn) (listOf nss' nn') (wLed w A κ ⟨pcs, np, dat, nd, lv, nl, nss, nn, pv, nv, opm⟩ R) (wLed w A κ ⟨pcs, np, dat, nd, lv, nl, nss', nn', pv, nv, opm⟩ R) := Upd.blk (O.ne_of (w := w) (κ := κ) (S := ⟨pcs, np, dat, nd, lv, nl, nss, nn, pv, nv, opm⟩) (p := (A.ns, listOf nss nn)) (List.mem_of_getElem? (i := 2) rfl)) (wE w A κ ⟨pcs, np, dat, nd, lv, nl, nss, nn, pv, nv, opm⟩) 2 (O.pw w κ _) rfl
theorem updW_dns {w : World} {R : Led} {A : WA} {κ : WT} {np nd nl nn nv : Nat} {pcs dat lv nss pv : Array Value} {opm : Obj} (O : A.Ord R) {lv' : Array Value} {nl' : Nat} : Upd A.dns (listOf lv nl) (listOf lv' nl') (wLed w A κ ⟨pcs, np, dat, nd, lv, nl, nss, nn, pv, nv, opm⟩ R) (wLed w A κ ⟨pcs, np, dat, nd, lv', nl', nss, nn, pv, nv, opm⟩ R) := Upd.blk (O.ne_of (w := w) (κ := κ) (S := ⟨pcs, np, dat, nd, lv, nl, nss, nn, pv, nv, opm⟩) (p := (A.dns, listOf lv nl)) (List.mem_of_getElem? (i := 3) rfl)) (wE w A κ ⟨pcs, np, dat, nd, lv, nl, nss, nn, pv, nv, opm⟩) 3 (O.pw w κ _) rfl
theorem updW_da {w : World} {R : Led} {A : WA} {κ : WT} {np nd nl nn nv : Nat} {pcs dat lv nss pv : Array Value} {opm : Obj} (O : A.Ord R) {dat' : Array Value} {nd' : Nat} : Upd A.da (listOf dat nd) (listOf dat' nd') (wLed w A κ ⟨pcs, np, dat, nd, lv, nl, nss, nn, pv, nv, opm⟩ R) (wLed w A κ ⟨pcs, np, dat', nd', lv, nl, nss, nn, pv, nv, opm⟩ R) := Upd.blk (O.ne_of (w := w) (κ := κ) (S := ⟨pcs, np, dat, nd, lv, nl, nss, nn, pv, nv, opm⟩) (p := (A.da, listOf dat nd)) (List.mem_of_getElem? (i := 6) rfl)) (wE w A κ ⟨pcs, np, dat, nd, lv, nl, nss, nn, pv, nv, opm⟩) 6 (O.pw w κ _) rfl
theorem updW_pc {w : World} {R : Led} {A : WA} {κ : WT} {np nd nl nn nv : Nat} {pcs dat lv nss pv : Array Value} {opm : Obj} (O : A.Ord R) {pcs' : Array Value} {np' : Nat} : Upd A.pc (listOf pcs np) (listOf pcs' np') (wLed w A κ ⟨pcs, np, dat, nd, lv, nl, nss, nn, pv, nv, opm⟩ R) (wLed w A κ ⟨pcs', np', dat, nd, lv, nl, nss, nn, pv, nv, opm⟩ R) := Upd.blk (O.ne_of (w := w) (κ := κ) (S := ⟨pcs, np, dat, nd, lv, nl, nss, nn, pv, nv, opm⟩) (p := (A.pc, listOf pcs np)) (List.mem_of_getElem? (i := 10) rfl)) (wE w A κ ⟨pcs, np, dat, nd, lv, nl, nss, nn, pv, nv, opm⟩) 10 (O.pw w κ _) rfl
theorem updW_R {w : World} {A : WA} {κ : WT} {S : WL} {R R' : Led} {D : Addr} {o o' : Obj} (O : A.Ord R) (hD : @LT.lt Nat _ D A.pc ∨ @LT.lt Nat _ A.ps D) (U : Upd D o o' R R') : Upd D o o' (wLed w A κ S R) (wLed w A κ S R') := Upd.skip U (wE w A κ S) fun p hp => by
 have b := O.bds p hp
 rcases hD with h | h
 · exact Nat.ne_of_gt (Nat.lt_of_lt_of_le h b.1)
 exact Nat.ne_of_lt (Nat.lt_of_le_of_lt b.2 h)
theorem updWF_R {w : World} {A : WA} {κ : WT} {S : WL} {R : Led} {g : Obj → Led} {D : Addr} {o : Obj} (O : A.Ord R) (hD : @LT.lt Nat _ D A.pc ∨ @LT.lt Nat _ A.ps D) (U : UpdF D o R g) : UpdF D o (wLed w A κ S R) (fun o' => wLed w A κ S (g o')) := UpdF.skip U (wE w A κ S) fun p hp => by
 have b := O.bds p hp
 rcases hD with h | h
 · exact Nat.ne_of_gt (Nat.lt_of_lt_of_le h b.1)
 exact Nat.ne_of_lt (Nat.lt_of_le_of_lt b.2 h)
theorem lt_neW {w : World} {A : WA} {κ κ' : WT} {S S' : WL} {R : Led} {d : Nat} (h : AllLt d (wLed w A κ S R)) : ∀ p ∈ wLed w A κ' S' R, p.1 ≠ d := allLt_ne (l := wLed w A κ' S' R) (show AllLt d (wLed w A κ' S' R) from h)
theorem leW_ps {R : Led} {A : WA} (O : A.Ord R) : @LE.le Nat _ A.ps A.ps := Nat.le_refl _
theorem leW_pm {R : Led} {A : WA} (O : A.Ord R) : @LE.le Nat _ A.pm A.ps := Nat.le_of_lt (O.o.2.2.2.2.2.2.2.2.2)
theorem leW_ns {R : Led} {A : WA} (O : A.Ord R) : @LE.le Nat _ A.ns A.ps := Nat.le_of_lt (Nat.lt_trans (O.o.2.2.2.2.2.2.2.2.1) (O.o.2.2.2.2.2.2.2.2.2))
theorem leW_dns {R : Led} {A : WA} (O : A.Ord R) : @LE.le Nat _ A.dns A.ps := Nat.le_of_lt (Nat.lt_trans (O.o.2.2.2.2.2.2.2.1) (Nat.lt_trans (O.o.2.2.2.2.2.2.2.2.1) (O.o.2.2.2.2.2.2.2.2.2)))
theorem leW_d0 {R : Led} {A : WA} (O : A.Ord R) : @LE.le Nat _ A.d0 A.ps := Nat.le_of_lt (Nat.lt_trans (O.o.2.2.2.2.2.2.1) (Nat.lt_trans (O.o.2.2.2.2.2.2.2.1) (Nat.lt_trans (O.o.2.2.2.2.2.2.2.2.1) (O.o.2.2.2.2.2.2.2.2.2))))
theorem leW_t0 {R : Led} {A : WA} (O : A.Ord R) : @LE.le Nat _ A.t0 A.ps := Nat.le_of_lt (Nat.lt_trans (O.o.2.2.2.2.2.1) (Nat.lt_trans (O.o.2.2.2.2.2.2.1) (Nat.lt_trans (O.o.2.2.2.2.2.2.2.1) (Nat.lt_trans (O.o.2.2.2.2.2.2.2.2.1) (O.o.2.2.2.2.2.2.2.2.2)))))
theorem leW_da {R : Led} {A : WA} (O : A.Ord R) : @LE.le Nat _ A.da A.ps := Nat.le_of_lt (Nat.lt_trans (O.o.2.2.2.2.1) (Nat.lt_trans (O.o.2.2.2.2.2.1) (Nat.lt_trans (O.o.2.2.2.2.2.2.1) (Nat.lt_trans (O.o.2.2.2.2.2.2.2.1) (Nat.lt_trans (O.o.2.2.2.2.2.2.2.2.1) (O.o.2.2.2.2.2.2.2.2.2))))))
theorem leW_x {R : Led} {A : WA} (O : A.Ord R) : @LE.le Nat _ A.x A.ps := Nat.le_of_lt (Nat.lt_trans (O.o.2.2.2.1) (Nat.lt_trans (O.o.2.2.2.2.1) (Nat.lt_trans (O.o.2.2.2.2.2.1) (Nat.lt_trans (O.o.2.2.2.2.2.2.1) (Nat.lt_trans (O.o.2.2.2.2.2.2.2.1) (Nat.lt_trans (O.o.2.2.2.2.2.2.2.2.1) (O.o.2.2.2.2.2.2.2.2.2)))))))
theorem leW_dx {R : Led} {A : WA} (O : A.Ord R) : @LE.le Nat _ A.dx A.ps := Nat.le_of_lt (Nat.lt_trans (O.o.2.2.1) (Nat.lt_trans (O.o.2.2.2.1) (Nat.lt_trans (O.o.2.2.2.2.1) (Nat.lt_trans (O.o.2.2.2.2.2.1) (Nat.lt_trans (O.o.2.2.2.2.2.2.1) (Nat.lt_trans (O.o.2.2.2.2.2.2.2.1) (Nat.lt_trans (O.o.2.2.2.2.2.2.2.2.1) (O.o.2.2.2.2.2.2.2.2.2))))))))
theorem leW_q {R : Led} {A : WA} (O : A.Ord R) : @LE.le Nat _ A.q A.ps := Nat.le_of_lt (Nat.lt_trans (O.o.2.1) (Nat.lt_trans (O.o.2.2.1) (Nat.lt_trans (O.o.2.2.2.1) (Nat.lt_trans (O.o.2.2.2.2.1) (Nat.lt_trans (O.o.2.2.2.2.2.1) (Nat.lt_trans (O.o.2.2.2.2.2.2.1) (Nat.lt_trans (O.o.2.2.2.2.2.2.2.1) (Nat.lt_trans (O.o.2.2.2.2.2.2.2.2.1) (O.o.2.2.2.2.2.2.2.2.2)))))))))
theorem leW_pc {R : Led} {A : WA} (O : A.Ord R) : @LE.le Nat _ A.pc A.ps := Nat.le_of_lt (Nat.lt_trans (O.o.1) (Nat.lt_trans (O.o.2.1) (Nat.lt_trans (O.o.2.2.1) (Nat.lt_trans (O.o.2.2.2.1) (Nat.lt_trans (O.o.2.2.2.2.1) (Nat.lt_trans (O.o.2.2.2.2.2.1) (Nat.lt_trans (O.o.2.2.2.2.2.2.1) (Nat.lt_trans (O.o.2.2.2.2.2.2.2.1) (Nat.lt_trans (O.o.2.2.2.2.2.2.2.2.1) (O.o.2.2.2.2.2.2.2.2.2))))))))))
noncomputable def WA.all (A : WA) : List Nat := [A.ps, A.pm, A.ns, A.dns, A.d0, A.t0, A.da, A.x, A.dx, A.q, A.pc]
theorem leW {R : Led} {A : WA} {a : Nat} (O : A.Ord R) (h : a ∈ A.all) : @LE.le Nat _ a A.ps := by
 have h' : a ∈ [A.ps, A.pm, A.ns, A.dns, A.d0, A.t0, A.da, A.x, A.dx, A.q, A.pc] := h
 simp only [List.mem_cons, List.not_mem_nil, or_false] at h'
 rcases h' with rfl | rfl | rfl | rfl | rfl | rfl | rfl | rfl | rfl | rfl | rfl
 · exact leW_ps O
 · exact leW_pm O
 · exact leW_ns O
 · exact leW_dns O
 · exact leW_d0 O
 · exact leW_t0 O
 · exact leW_da O
 · exact leW_x O
 · exact leW_dx O
 · exact leW_q O
 exact leW_pc O
theorem allLt_w0 {d : Nat} {w : World} {A : WA} {κ : WT} {S : WL} {R : Led} (_ : AllLt d (wLed w A κ S R)) : True := trivial
theorem neW_of {d a : Nat} {w : World} {A : WA} {κ : WT} {S : WL} {R : Led} (h : AllLt d (wLed w A κ S R)) (ha : @LE.le Nat _ a A.ps) : d ≠ a := Nat.ne_of_gt (Nat.lt_of_le_of_lt ha (allLt_top h))
theorem neW_of' {d a : Nat} {w : World} {A : WA} {κ : WT} {S : WL} {R : Led} (h : AllLt d (wLed w A κ S R)) (ha : @LE.le Nat _ a A.ps) : a ≠ d := Nat.ne_of_lt (Nat.lt_of_le_of_lt ha (allLt_top h))
theorem updW_dx {w : World} {R : Led} {A : WA} {S : WL} {κ : WT} (κ' : WT) (O : A.Ord R) {o o' : Obj} (e : o = wDict w A κ) (e' : o' = wDict w A κ') (hu : κ'.u = κ.u) (hv : κ'.v = κ.v) : Upd A.dx o o' (wLed w A κ S R) (wLed w A κ' S R) := by
 subst e e'
 have h := Upd.blk (o := wDict w A κ) (o' := wDict w A κ') (O.ne_of (w := w) (κ := κ) (S := S) (p := (A.dx, wDict w A κ)) (List.mem_of_getElem? (i := 8) rfl)) (wE w A κ S) 8 (O.pw w _ _) rfl
 have e2 : wLed w A κ' S R = (wE w A κ S).set 8 (A.dx, wDict w A κ') ++ R := by
   show wLed w A κ' S R = _
   unfold wLed
   rw [hu, hv]; rfl
 rw [e2]; exact h
theorem wLed_app {w : World} {A : WA} {κ : WT} {S : WL} {R R' : Led} : wLed w A κ S R ++ R' = wLed w A κ S (R ++ R') := rfl
theorem neW_add {d a k : Nat} {w : World} {A : WA} {κ : WT} {S : WL} {R : Led} (h : AllLt d (wLed w A κ S R)) (ha : @LE.le Nat _ a A.ps) : d + k ≠ a := Nat.ne_of_gt (Nat.lt_of_le_of_lt ha (Nat.lt_of_lt_of_le (allLt_top h) (Nat.le_add_right _ _)))
theorem lt_neW_add {w : World} {A : WA} {κ κ' : WT} {S S' : WL} {R : Led} {d k : Nat} (h : AllLt d (wLed w A κ S R)) : ∀ p ∈ wLed w A κ' S' R, p.1 ≠ (d + k : Nat) := allLt_ne_add (l := wLed w A κ' S' R) (show AllLt d (wLed w A κ' S' R) from h)
theorem neW_add2 {d a k j : Nat} {w : World} {A : WA} {κ : WT} {S : WL} {R : Led} (h : AllLt d (wLed w A κ S R)) (ha : @LE.le Nat _ a A.ps) : d + k + j ≠ a := by rw [Nat.add_assoc]; exact neW_add h ha
theorem lt_neW_add2 {w : World} {A : WA} {κ κ' : WT} {S S' : WL} {R : Led} {d k j : Nat} (h : AllLt d (wLed w A κ S R)) : ∀ p ∈ wLed w A κ' S' R, p.1 ≠ (d + k + j : Nat) := by rw [Nat.add_assoc]; exact lt_neW_add h
theorem aw5 {a0 a1 a2 a3 a4 P : Prop} (h : a0 ∧ a1 ∧ a2 ∧ a3 ∧ a4 ∧ P) : P := h.2.2.2.2.2
theorem updW_seen {w : World} {R : Led} {A : WA} {S : WL} {κκ : Nat → Tok} {κz κu κv : Tok} {κs κd : Bool} {o o' : Obj} (O : A.Ord R) (e : o = wDict w A ⟨κκ, κz, κu, κv, κs, κd⟩) (e' : o' = wDict w A ⟨κκ, κz, κu, κv, true, κd⟩) : Upd A.dx o o' (wLed w A ⟨κκ, κz, κu, κv, κs, κd⟩ S R) (wLed w A ⟨κκ, κz, κu, κv, true, κd⟩ S R) := updW_dx _ O e e' rfl rfl
theorem neR_at {A : WA} {R : Led} (O : A.Ord R) (w : World) (κ : WT) (S : WL) (i : Nat) {q p : Addr × Obj} (e : (wE w A κ S)[i]? = some q) (h : p ∈ R) : p.1 ≠ q.1 := O.ne_of (List.mem_of_getElem? e) p h
theorem neR_ps {A : WA} {R : Led} (O : A.Ord R) (w : World) (κ : WT) (S : WL) {p : Addr × Obj} (h : p ∈ R) : p.1 ≠ A.ps := neR_at O w κ S 0 rfl h
theorem neR_ns {A : WA} {R : Led} (O : A.Ord R) (w : World) (κ : WT) (S : WL) {p : Addr × Obj} (h : p ∈ R) : p.1 ≠ A.ns := neR_at O w κ S 2 rfl h
theorem neR_dx {A : WA} {R : Led} (O : A.Ord R) (w : World) (κ : WT) (S : WL) {p : Addr × Obj} (h : p ∈ R) : p.1 ≠ A.dx := neR_at O w κ S 8 rfl h
theorem neR_pc {A : WA} {R : Led} (O : A.Ord R) (w : World) (κ : WT) (S : WL) {p : Addr × Obj} (h : p ∈ R) : p.1 ≠ A.pc := neR_at O w κ S 10 rfl h
theorem lt_neW3 {d : Nat} {w : World} {A : WA} {κ κ' : WT} {S S' : WL} {a b c : Addr} {oa ob oc oa' ob' oc' : Obj} {R R' : Led} (h : AllLt d (wLed w A κ S ((a, oa) :: (b, ob) :: (c, oc) :: R))) (hR : ∀ p ∈ R', p.1 ≠ d) : ∀ p ∈ wLed w A κ' S' ((a, oa') :: (b, ob') :: (c, oc') :: R'), p.1 ≠ d := fun p hp => by
 have h' : AllLt d (wLed w A κ' S' ((a, oa') :: (b, ob') :: (c, oc') :: R)) := h
 rcases ma (show p ∈ wE w A κ' S' ++ ([(a, oa'), (b, ob'), (c, oc')] ++ R') from hp) with h1 | h1
 · exact Nat.ne_of_lt (allLt_mem h' p (List.mem_append_left (as := wE w A κ' S') _ h1))
 rcases ma h1 with h1 | h1
 · exact Nat.ne_of_lt (allLt_mem h' p (mr (wE w A κ' S') (List.mem_append_left (as := [(a, oa'), (b, ob'), (c, oc')]) _ h1)))
 exact hR p h1
theorem allLt_lt {a b : Nat} (hab : a < b) : ∀ {l : Led}, AllLt a l → AllLt b l
 | [], _ => trivial
 | _ :: _, h => ⟨Nat.lt_trans h.1 hab, allLt_lt hab h.2⟩
def NextAnd (F : Shared → Prop) (f : Flow) (s : Shared) : Prop := f = .next ∧ F s
theorem execs_mid {M : Model} {A : Around} {st : Stmt} {rest : List Stmt} {env : Env} {Q : Flow → Shared → Prop} {E : Value → Shared → Prop} {s : Shared} (F : Shared → Prop) (h1 : wpAny M A (exec st env) (NextAnd F) E s) (h2 : ∀ s', F s' → wpAny M A (execs rest env) Q E s') : wpAny M A (execs (st :: rest) env) Q E s :=
 wpAny_execs_cons (wpAny_mono h1 (fun f s' h => by obtain ⟨rfl, h⟩ := h; exact h2 s' h) fun _ _ h => h)
def DatOk (dat : Array Value) : Prop := dat = #[] ∨ ∃ y ty, dat = #[.str y ty] ∧ y.length ≤ 3 ∧ 1 ≤ y.length
def FlR (dat pcs : Array Value) (np : Nat) (pcs' : Array Value) (np' : Nat) : Prop :=
 (dat = #[] ∧ pcs' = pcs ∧ np' = np) ∨ (∃ y ty tw, dat = #[.str y ty] ∧ pcs' = pcs.push (.str (escText y) tw) ∧ np' = np + 1)
theorem FlR.size {dat pcs pcs' : Array Value} {np np' : Nat} (h : FlR dat pcs np pcs' np') : pcs'.size ≤ pcs.size + 1 := by
 rcases h with ⟨_, rfl, _⟩ | ⟨_, _, _, _, rfl, _⟩
 · exact Nat.le_succ _
 exact Nat.le_of_eq (Array.size_push _)
theorem FlR.nil {pcs pcs' : Array Value} {np np' : Nat} (h : FlR #[] pcs np pcs' np') : pcs' = pcs ∧ np' = np := by
 rcases h with ⟨_, h⟩ | ⟨_, _, _, h, _⟩
 · exact h
 cases h
theorem FlR.one {pcs pcs' : Array Value} {np np' : Nat} {y : Str} {ty : Tok} (h : FlR #[.str y ty] pcs np pcs' np') : ∃ tw, pcs' = pcs.push (.str (escText y) tw) ∧ np' = np + 1 := by
 rcases h with ⟨h, _⟩ | ⟨_, _, tw, h, h2⟩
 · cases h
 cases h; exact ⟨tw, h2⟩
theorem zQ1 (h : wpAny x1 x2 (callWith x3 (Value.ref (WA.q x4)) x5 x6 x7) x8 x9 x10) : wpAny x1 x2 (callWith x3 (Value.ref (WA.q x4)) x5 x6 x7) x8 x9 x10 := h
theorem zQ2 (h : wpAny x1 x2 (call (Value.ref (WA.q x4)) x5 x6) x8 x9 x10) : wpAny x1 x2 (call (Value.ref (WA.q x4)) x5 x6) x8 x9 x10 := h
theorem zQ3 (h : wpAny x1 x2 (truthy (Value.ref (WA.da x4))) x8 x9 x10) : wpAny x1 x2 (truthy (Value.ref (WA.da x4))) x8 x9 x10 := h
theorem zX (h : wpAny x1 x2 (getMethod (Value.ref (WA.x x4)) x5 x6) x7 x8 x9) : wpAny x1 x2 (getMethod (Value.ref (WA.x x4)) x5 x6) x7 x8 x9 := h
set_option hygiene false in
local macro_rules | `(tactic| k_lt $h:ident) => `(tactic| (have hAW := allLt_of $h; (repeat ((fail_if_success (have hX := allLt_w0 hAW)); replace hAW := allLt_t1 hAW)); have hAL := allLt_of $h; replace $h := hAL; (try dsimp only [AllLt] at $h:ident)))
set_option hygiene false in
local macro_rules | `(tactic| regstrif_fact) => `(tactic| first | with_reducible assumption | exact WA.Ord.of_eq (by with_reducible assumption) rfl | fail)
local macro_rules | `(tactic| regstrif_gather) => `(tactic| with_reducible assumption)
set_option hygiene false in
local macro_rules | `(tactic| regstrif_slice) => `(tactic| exact leW (by regstrif_fact) (by k_mem))
set_option hygiene false in
local macro_rules | `(tactic| k_ne) => `(tactic| (refine neN ?_; (try dsimp only); first | with_reducible assumption | with_reducible exact Ne.symm (by assumption) | ((with_reducible refine neW_of (by assumption) ?_); regstrif_slice) | ((with_reducible refine neW_of' (by assumption) ?_); regstrif_slice) | ((with_reducible refine neW_add (by assumption) ?_); regstrif_slice) | ((with_reducible refine neW_add2 (by assumption) ?_); regstrif_slice) | exact ne_at (by with_reducible assumption) (by k_mem) | exact ne_at' (by with_reducible assumption) (by k_mem) | omega))
set_option hygiene false in
local macro_rules | `(tactic| k_all) => `(tactic| with_reducible first | exact lt_neW (by assumption) | exact lt_neW3 (by assumption) (by assumption) | exact lt_neW_add (by assumption) | exact lt_neW_add2 (by assumption) | exact allLt_ne (allLt_R (by assumption)) | fail)
local macro_rules | `(tactic| k_upd) => `(tactic| first | exact updW_pc (by regstrif_fact) | exact updW_ps (by regstrif_fact) | exact updW_dns (by regstrif_fact) | exact updW_ns (by regstrif_fact) | exact updW_da (by regstrif_fact) | exact updW_pm (by regstrif_fact) | exact updW_seen (by regstrif_fact) rfl rfl | (refine' updW_R ?wo ?wd ?wu; (case wo => regstrif_fact); (case wd => with_reducible assumption); (case wu => k_upd)) | fail)
local macro_rules | `(tactic| k_updF) => `(tactic| first | exact updWF_pm (by regstrif_fact) | (refine' updWF_R ?wo ?wd ?wu; (case wo => regstrif_fact); (case wd => with_reducible assumption); (case wu => k_updF)) | fail)
set_option hygiene false in
local macro_rules | `(tactic| walk_at "getMethod ref") => `(tactic| ((with_reducible refine zX ?_); walk_at "last getMethod ref"))
section
open PySem.Calls
variable {prog : Program} {w : World} {A : Around} {E : Value → Shared → Prop} {s : Shared} {h₀ : Heap} {L : Addr} {m : Str → Option Value} {env : Env} {news : Led}
noncomputable abbrev nestE (x y : Str) (px py pi pe : Pos) (iter : Expr) (scope : Scope) (pos : Pos) : Expr := .ListComp (.Name y pe) [⟨.Name x px, iter, [], 0⟩, ⟨.Name y py, .Name x pi, [], 0⟩] scope pos
theorem nest_inner {x y : Str} {px py pi pe : Pos} {iter : Expr} {scope : Scope} {pos : Pos} {it acc : Value} :
   compTurn (nestE x y px py pi pe iter scope pos) 1 it acc env = (standAt pi >>= fun _ => pyNext it >>= fun r => match r with
     | none => pure (.done .next)
     | some v => letOwnedTupleGo (.Name y py) it v >>= fun _ => assign (.Name y py) env v >>= fun _ =>
       (eval (.Name y pe) env >>= fun x => call (.builtin "list.append") [acc, x] >>= fun _ => pure ()) >>= fun _ =>
         again (.compLoop (nestE x y px py pi pe iter scope pos) 1 it acc env)) := by rfl
theorem nest_outer {x y : Str} {px py pi pe : Pos} {iter : Expr} {scope : Scope} {pos : Pos} {it acc : Value} :
   compTurn (nestE x y px py pi pe iter scope pos) 0 it acc env = (standAt iter.pos >>= fun _ => pyNext it >>= fun r => match r with
     | none => pure (.done .next)
     | some v => letOwnedTupleGo (.Name x px) it v >>= fun _ => assign (.Name x px) env v >>= fun _ =>
       eval (.Name x pi) env >>= fun z => standAt pi >>= fun _ => holding [z] (pyIter z) >>= fun it2 => runOwn (.compStart (nestE x y px py pi pe iter scope pos) 1 it2 acc env) env >>= fun _ =>
         again (.compLoop (nestE x y px py pi pe iter scope pos) 0 it acc env)) := by rfl
theorem nest_start1 {x y : Str} {px py pi pe : Pos} {iter : Expr} {scope : Scope} {pos : Pos} {it acc : Value} {R : Result → Shared → Prop}
   (h0 : codeAny (model prog w) A (.compLoop (nestE x y px py pi pe iter scope pos) 1 it acc env) R s)
   (h : wpAny (model prog w) A (pyIter it) (fun it' s' => codeAny (model prog w) A (.compLoop (nestE x y px py pi pe iter scope pos) 1 it' acc env) R s')
     (notedBy (model prog w) A env fun x s' => R (.error x) s') s) :
   codeAny (model prog w) A (.compStart (nestE x y px py pi pe iter scope pos) 1 it acc env) R s := by
 refine codeAny_of_tree ?_
 show wpAny _ _ ((compStart (nestE x y px py pi pe iter scope pos) 1 it acc env).onRaise (fun x => do noteFrame x env; standAt theWindowsPlace)) _ _ s
 refine wpAny_notedAt ?_
 unfold compStart
 show wpAny _ _ (ask >>= _) _ _ s
 refine wpAny_bind (wpAny_askSetting (wpAny_ite ?_))
 split
 · first
     | exact wpAny_bind (wpAny_pure (wpAny_pure (And.intro rfl h0)))
     | exact wpAny_pure (And.intro rfl h0)
 first
   | exact wpAny_bind (wpAny_rule (wpAny_bind (wpAny_standAt (wpAny_bind (wpAny_mono h (fun it' s' h' => wpAny_pure (And.intro rfl h')) fun _ _ x => x)))))
   | (refine wpAny_bind (wpAny_rule ?_); show wpAny _ _ (standAt pi >>= _) _ _ s; exact wpAny_bind (wpAny_standAt (wpAny_bind (wpAny_mono h (fun it' s' h' => wpAny_pure (And.intro rfl h')) fun _ _ x => x))))
theorem nest_in {A₁ : Around} {x y : Str} {px py pi pe : Pos} {iter : Expr} {scope : Scope} {cl : List (Str × Addr)} {pos : Pos} {ax C D : Addr} {oC : Obj} {m₂ : Str → Option Value} {its : Array Value} {k : Nat} {ys : List Value} {rest : Led} {R : Result → Shared → Prop}
   (hh : ∀ c, (A.under c).handled = none) (hy : scope.names.lookup y = some .local) (hdy : (y == ("__debug__" : Str)) = false) (hkind : scope.kind = .function)
   (F : Fr h₀ L s.heap m) (N : News h₀ L s.heap ((C, oC) :: (D, LCg.lst ys) :: rest)) (hC : LCg.NsObj oC m₂) (hm : (ax, listOf its k) ∈ rest) (offC : ∀ p ∈ rest, p.1 ≠ C) (offD : ∀ p ∈ rest, p.1 ≠ D) (hCD : C ≠ D) (hCL : C ≠ L) (hDL : D ≠ L) (hC₀ : h₀.get? C = none)
   (hsz : ys.length + its.size ≤ sizeLine)
   (h : ∀ h' tk oC' m₂', Fr h₀ L h' m → News h₀ L h' ((C, oC') :: (D, LCg.lst (ys ++ its.toList)) :: rest) → LCg.NsObj oC' m₂' → R (.ok .next) { s with heap := h', toks := tk }) :
   wpAny (model prog w) A₁ (pyIter (.ref ax)) (fun it2 s₂ => codeAny (model prog w) A (.compStart (nestE x y px py pi pe iter scope pos) 1 it2 (.ref D) (compEnvC scope cl C env)) R s₂) E s := by
 (revert hh hy hdy hkind F N hC hm offC offD hCD hCL hDL hC₀ hsz h; revert prog w A E s h₀ L m env A₁ x y px py pi pe iter scope cl pos ax C D oC m₂ its k ys rest R; with_reducible refine (no_implicit_lambda% (Drk8.all (by kpf_c) ((?_ : All8 _) _ _ _ _ _ _ _ _))); refine fun prog w A E s h₀ L m => Ap8.mk ?_; with_reducible refine (no_implicit_lambda% (Drk8.all (by kpf_c) ((?_ : All8 _) _ _ _ _ _ _ _ _))); refine fun env A₁ x y px py pi pe => Ap8.mk ?_; with_reducible refine (no_implicit_lambda% (Drk8.all (by kpf_c) ((?_ : All8 _) _ _ _ _ _ _ _ _))); refine fun iter scope cl pos ax C D oC => Ap8.mk ?_; with_reducible refine (no_implicit_lambda% (Drk6.all (by kpf_c) ((?_ : All6 _) _ _ _ _ _ _))); refine fun m₂ its k ys rest R => Ap6.mk ?_; intros hh hy hdy hkind F N hC hm offC offD hCD hCL hDL hC₀ hsz h)
 have hl := isList_news N (.tail _ (.tail _ hm))
 have hlt : ax < s.heap.objs.size := Heap.lt_size (N _ (.tail _ (.tail _ hm))).1
 have hD₀ : h₀.get? D = none := (N _ (.tail _ (.head _))).2.2
 have hCs : C < s.heap.objs.size := Heap.lt_size (N _ (.head _)).1
 have hDs : D < s.heap.objs.size := Heap.lt_size (N _ (.tail _ (.head _))).1
 have hI₀ : h₀.get? s.heap.objs.size = none := next_is_new F
 refine wpAny_pyIter_list hl ?_
 have loop : codeAny (model prog w) A (.compLoop (nestE x y px py pi pe iter scope pos) 1 (.ref s.heap.objs.size) (.ref D) (compEnvC scope cl C env)) R { s with heap := s.heap.push { cls := .type "list_iterator", data := .fields #[.ref ax, rawInt 0] } } := by
   refine codeAny_loop rfl (fun n s' => ∃ h' tk i oC' m₂', s' = { s with heap := h', toks := tk } ∧ i ≤ its.size ∧ n = its.size + 1 - i ∧ h'.IsListIter s.heap.objs.size ax i ∧ Fr h₀ L h' m ∧ News h₀ L h' ((C, oC') :: (D, LCg.lst (ys ++ its.toList.take i)) :: rest) ∧ LCg.NsObj oC' m₂')
     (fun n s' hI => ?_) (its.size + 1) ⟨_, s.toks, 0, oC, m₂, rfl, Nat.zero_le _, rfl, ⟨_, Heap.get?_push_size _ rfl, rfl, rfl⟩, F.push _, fun p hp => ?_, hC⟩
   · obtain ⟨h', tk, i, oC', m₂', rfl, hi, rfl, hit, F', N', hC'⟩ := hI
     (revert hi hit F' N' hC'; revert h' tk i oC' m₂'; with_reducible refine (no_implicit_lambda% (Drk5.all (by kpf_c) ((?_ : All5 _) _ _ _ _ _))); refine fun h' tk i oC' m₂' => Ap5.mk ?_; intros hi hit F' N' hC')
     show wpAny _ _ ((compTurn (nestE x y px py pi pe iter scope pos) 1 (.ref s.heap.objs.size) (.ref D) (compEnvC scope cl C env)).onRaise (fun x => do noteFrame x (compEnvC scope cl C env); theTreesLotGoes x)) _ _ _
     refine wpAny_noted (wp_noE ?_)
     rw [nest_inner]
     refine wpAny_bind (wpAny_standAt (wpAny_bind ?_))
     have hl' : h'.IsList ax its := isList_news N' (.tail _ (.tail _ hm))
     have W := Walks.list (prog := prog) (w := w) (hh (.compLoop (nestE x y px py pi pe iter scope pos) 1 (.ref s.heap.objs.size) (.ref D) (compEnvC scope cl C env))) s.heap.objs.size ax (Nat.ne_of_lt hlt) its
     have sub : ∀ h'' : Heap, (∀ b o, b ∉ [s.heap.objs.size] → h'.get? b = some o → h''.get? b = some o) → Fr h₀ L h'' m ∧ News h₀ L h'' ((C, oC') :: (D, LCg.lst (ys ++ its.toList.take i)) :: rest) := fun h'' hk => by
       have k1 : ∀ b o, b ≠ s.heap.objs.size → h'.get? b = some o → h''.get? b = some o := fun b o hb e => hk b o (fun q => hb (ms q)) e
       refine ⟨⟨F'.ns.at' fun o e => k1 _ o (Nat.ne_of_lt F.ns.lt) e, fun b o e => k1 b o (fun q => by rw [q, hI₀] at e; cases e) (F'.keep b o e), F'.above⟩, fun p hp => ⟨k1 _ _ ?_ (N' p hp).1, (N' p hp).2⟩⟩
       rcases mc hp with rfl | hp
       · exact Nat.ne_of_lt hCs
       rcases mc hp with rfl | hp
       · exact Nat.ne_of_lt hDs
       exact Nat.ne_of_lt (Heap.lt_size (N p (.tail _ (.tail _ hp))).1)
     by_cases hlt' : i < its.size
     · refine W.item i _ _ _ hlt' ⟨hit, hl'⟩ fun v h₂ tk₂ hv st₂ hk₂ => ?_
       (revert hv st₂ hk₂; revert v h₂ tk₂; with_reducible refine Drk3.all (by kpf_c) ((?_ : All3 _) _ _ _); refine fun v h₂ tk₂ => Ap3.mk ?_; intros hv st₂ hk₂)
       obtain ⟨F₂, N₂⟩ := sub h₂ hk₂
       obtain ⟨oI, eI, cI, dI⟩ := st₂.1
       (revert eI cI dI; revert oI; tb_start; refine fun oI => Ap.mk ?_; intros eI cI dI)
       have N₂' : News h₀ L h₂ ((C, oC') :: (s.heap.objs.size, oI) :: (D, LCg.lst (ys ++ its.toList.take i)) :: rest) := fun p hp => by
         rcases mc hp with rfl | hp
         · exact N₂ _ (.head _)
         rcases mc hp with rfl | hp
         · exact ⟨eI, Nat.ne_of_gt F.ns.lt, hI₀⟩
         exact N₂ _ (.tail _ hp)
       refine wpAny_bind (hgo_name (wpAny_bind ?_))
       refine assign_own hy hkind F₂ N₂' hC' (fun p hp => ?_) hCL hC₀ fun h₃ oC₃ m₃ F₃ N₃ hC₃ hv₃ => ?_
       · rcases mc hp with rfl | hp
         · exact Nat.ne_of_gt hCs
         rcases mc hp with rfl | hp
         · exact Ne.symm hCD
         exact offC p hp
       refine wpAny_bind (wpAny_bind ?_)
       refine LCgL.ld_own N₃ (.head _) hC₃ hv₃ ?_ (by simp [compEnvC, relabel, hkind]) (lookup_relabel_local hy) hdy
       refine wpAny_bind ?_
       have zD := (N₃ (D, LCg.lst (ys ++ its.toList.take i)) (.tail _ (.tail _ (.head _)))).1
       refine append_at (hsz := by show (ys ++ its.toList.take i).toArray.size ≤ sizeLine; rw [List.size_toArray, lA, List.length_take]; omega) zD fun h₅ hs₅ hD₅ => ?_
       (revert F₃ N₃ hC₃ hv₃ zD hs₅ hD₅; revert h₃ oC₃ m₃ h₅; with_reducible refine Drk4.all (by kpf_c) ((?_ : All4 _) _ _ _ _); refine fun h₃ oC₃ m₃ h₅ => Ap4.mk ?_; intros F₃ N₃ hC₃ hv₃ zD hs₅ hD₅)
       refine wpAny_pure (wpAny_pure ⟨rfl, its.size + 1 - (i + 1), sub_succ_lt (by first | assumption | omega), h₅, _, i + 1, oC₃, m₃, rfl, hlt', rfl, ?_, F₃.change hs₅ hDL hD₀, fun p hp => ?_, hC₃⟩)
       · exact ⟨oI, hs₅.extBut _ _ (Nat.ne_of_gt hDs) (N₃ (s.heap.objs.size, oI) (.tail _ (.head _))).1, cI, dI⟩
       have et : ys ++ its.toList.take (i + 1) = (ys ++ its.toList.take i) ++ [v] := by
         rw [List.append_assoc, List.take_add_one, show its.toList[i]? = some v from by rw [Array.getElem?_toList]; exact hv]; rfl
       rcases mc hp with rfl | hp
       · exact ⟨hs₅.extBut _ _ hCD (N₃ _ (.head _)).1, hCL, hC₀⟩
       rcases mc hp with rfl | hp
       · exact ⟨hD₅.trans (congrArg some ((LCg.lst_snoc _ v).trans (congrArg LCg.lst et.symm))), hDL, hD₀⟩
       have z := N₃ p (.tail _ (.tail _ (.tail _ hp)))
       exact ⟨hs₅.extBut _ _ (offD p hp) z.1, z.2⟩
     obtain rfl : i = its.size := Nat.le_antisymm hi (Nat.not_lt.mp hlt')
     refine W.done _ _ _ ⟨hit, hl'⟩ fun h₂ tk₂ hk₂ => ?_
     (revert hk₂; revert h₂ tk₂; with_reducible refine Drk2.all (by kpf_c) ((?_ : All2 _) _ _); refine fun h₂ tk₂ => Ap2.mk ?_; intros hk₂)
     obtain ⟨F₂, N₂⟩ := sub h₂ hk₂
     rw [List.take_of_length_le (by simp)] at N₂
     exact wpAny_pure (h _ _ _ _ F₂ N₂ hC')
   rw [List.take_zero, List.append_nil] at hp; exact ⟨Heap.get?_push_of_some _ (N p hp).1, (N p hp).2⟩
 exact nest_start1 loop (wpAny_pyIter_listiter ⟨_, Heap.get?_push_size _ rfl, rfl, rfl⟩ loop)
theorem block_N {x y : Str} {px py pi pe : Pos} {iter : Expr} {scope : Scope} {cl : List (Str × Addr)} {pos : Pos} {s₂ : Shared} {I : Addr} {fp wr : List Addr} {n : Nat} {P Md : Nat → Value → Heap → Prop} {St : Nat → Heap → Prop} {it : Value}
   {RR : Value → Addr → Result → Shared → Prop} (xss : Nat → List Value) (X : Source prog w A (.Name x px) h₀ L m news n P it s₂ I fp wr Md St)
   (hP : ∀ i v h, i < n → P i v h → ∃ ax its k, v = .ref ax ∧ (ax, listOf its k) ∈ news ∧ its.toList = xss i)
   (hh : ∀ c, ((A.mark none).under c).handled = none) (hx : scope.names.lookup x = some .local) (hdx : (x == ("__debug__" : Str)) = false) (hy : scope.names.lookup y = some .local) (hdy : (y == ("__debug__" : Str)) = false)
   (hcell : ∀ y ∈ scope.names, y.2 ≠ .cell) (hkind : scope.kind = .function) (hfits : ((List.range n).flatMap xss).length ≤ sizeLine)
   (hRR : ∀ D C h tk m', s₂.toks ≤ tk → Fr h₀ L h m → News h₀ L h ((D, LCg.lst ((List.range n).flatMap xss)) :: news) → OwnOff news [C, D] → h.Ns C m' → h₀.get? C = none → h₀.get? D = none → C ≠ L → D ≠ L → C ≠ D → (∀ p ∈ news, p.1 < D) → RR (.ref D) C (.ok .next) { s₂ with heap := h, toks := tk }) :
   wpAny (model prog w) A (newList []) (fun acc s₃ => wpAny (model prog w) A (newFunctionEnv scope env.globals cl [] env.qual none .none (some env)) (fun cenv s₄ =>
     codeAny (model prog w) A (.compStart (nestE x y px py pi pe iter scope pos) 0 it acc { cenv with scope := relabel scope env }) (RR acc cenv.locals) s₄) E s₃) E s₂ := by
 (revert X hP hh hx hdx hy hdy hcell hkind hfits hRR; revert prog w A E h₀ L m env news x y px py pi pe iter scope cl pos s₂ I fp wr n P Md St it RR xss; with_reducible refine (no_implicit_lambda% (Drk8.all (by kpf_c) ((?_ : All8 _) _ _ _ _ _ _ _ _))); refine fun prog w A E h₀ L m env => Ap8.mk ?_; with_reducible refine (no_implicit_lambda% (Drk8.all (by kpf_c) ((?_ : All8 _) _ _ _ _ _ _ _ _))); refine fun news x y px py pi pe iter => Ap8.mk ?_; with_reducible refine (no_implicit_lambda% (Drk8.all (by kpf_c) ((?_ : All8 _) _ _ _ _ _ _ _ _))); refine fun scope cl pos s₂ I fp wr n => Ap8.mk ?_; with_reducible refine (no_implicit_lambda% (Drk6.all (by kpf_c) ((?_ : All6 _) _ _ _ _ _ _))); refine fun P Md St it RR xss => Ap6.mk ?_; intros X hP hh hx hdx hy hdy hcell hkind hfits hRR)
 obtain ⟨rfl, W, self, hex, hLf, hwr, off, hst, hfp, F, N, hsz⟩ := X
 refine wpAny_newObj_type (wpAny_newFunctionEnv hcell (by rintro y hy; simp at hy) (fun h₁ hns₁ hsb₁ => ?_) hkind)
 dsimp only at hns₁ hsb₁ ⊢
 generalize hH2 : s₂.heap.push { cls := .type "list", dict := none, data := .seq ([] : List Value).toArray } = H2 at hns₁ hsb₁ ⊢
 have hC : H2.objs.size = s₂.heap.objs.size + 1 := by rw [← hH2, Heap.size_push]
 have hDC : s₂.heap.objs.size ≠ H2.objs.size := by rw [hC]; exact Nat.ne_of_lt (Nat.lt_succ_self _)
 have below : ∀ b, b < s₂.heap.objs.size → b ≠ H2.objs.size ∧ b ≠ s₂.heap.objs.size := fun b hb => ⟨by rw [hC]; exact Nat.ne_of_lt (Nat.lt_succ_of_lt hb), Nat.ne_of_lt hb⟩
 have hDf : s₂.heap.objs.size ∉ fp := fun hm => Nat.lt_irrefl _ (hfp _ hm)
 have hCf : H2.objs.size ∉ fp := fun hm => by have := hfp _ hm; rw [hC] at this; exact Nat.lt_irrefl _ (Nat.lt_of_succ_lt this)
 have hLw : L ∉ wr := fun h => hLf (W.sub _ h)
 have hDw : s₂.heap.objs.size ∉ wr := fun h => hDf (W.sub _ h)
 have hCw : H2.objs.size ∉ wr := fun h => hCf (W.sub _ h)
 have old : ∀ b o, s₂.heap.get? b = some o → h₁.get? b = some o := fun b o e => hsb₁.extBut b o (below b (Heap.lt_size e)).1 (Heap.get?_push_of_some _ (hH2 ▸ Heap.get?_push_of_some _ e))
 have hacc : h₁.get? s₂.heap.objs.size = some (LCg.lst []) := hsb₁.extBut _ _ hDC (Heap.get?_push_of_some _ (hH2 ▸ Heap.get?_push_size _ rfl))
 have hst₁ : St 0 h₁ := W.frame _ _ _ hst fun b _ o e => old b o e
 have fresh₀ : ∀ a, s₂.heap.objs.size ≤ a → h₀.get? a = none := fun a ha => by
   cases e : h₀.get? a with
   | none => rfl
   | some o' => exact absurd (Heap.lt_size (F.keep a o' e)) (Nat.not_lt.mpr ha)
 have hD₀ : h₀.get? s₂.heap.objs.size = none := fresh₀ _ (Nat.le_refl _)
 have hC₀ : h₀.get? H2.objs.size = none := fresh₀ _ (by rw [hC]; exact Nat.le_succ _)
 have hLlt : L < s₂.heap.objs.size := F.ns.lt
 have hDL : s₂.heap.objs.size ≠ L := Ne.symm (below L hLlt).2
 have hCL : H2.objs.size ≠ L := Ne.symm (below L hLlt).1
 have offC : ∀ p ∈ news, p.1 ≠ H2.objs.size := fun p hp => (below _ (Heap.lt_size (N p hp).1)).1
 have offD : ∀ p ∈ news, p.1 ≠ s₂.heap.objs.size := fun p hp => (below _ (Heap.lt_size (N p hp).1)).2
 have off₀ : OwnOff news (H2.objs.size :: s₂.heap.objs.size :: wr) := off_cons offC (off_cons offD off)
 have loop : ∀ s₃ : Shared, s₃ = { s₂ with heap := h₁, toks := s₂.toks + ([] : List (Str × Value)).length } →
     codeAny (model prog w) A (.compLoop (nestE x y px py pi pe iter scope pos) 0 (.ref I) (.ref s₂.heap.objs.size) (compEnvC scope cl H2.objs.size env))
       (RR (.ref s₂.heap.objs.size) H2.objs.size) s₃ := by
   rintro s₃ rfl
   (revert hH2 hns₁ hsb₁ hC hDC below hCf hCw old hacc hst₁ hC₀ hCL offC off₀; revert h₁ H2; with_reducible refine Drk2.all (by kpf_c) ((?_ : All2 _) _ _); refine fun h₁ H2 => Ap2.mk ?_; intros hH2 hns₁ hsb₁ hC hDC below hCf hCw old hacc hst₁ hC₀ hCL offC off₀)
   refine codeAny_loop rfl
     (fun k s' => ∃ h' tk i m', s' = { s₂ with heap := h', toks := tk } ∧ s₂.toks ≤ tk ∧ i ≤ n ∧ k = n + 1 - i ∧ St i h' ∧ Fr h₀ L h' m ∧ h'.Ns H2.objs.size m' ∧ News h₀ L h' ((s₂.heap.objs.size, LCg.lst ((List.range i).flatMap xss)) :: news)) (fun k s' hI => ?_) (n + 1)
     ⟨h₁, _, 0, _, rfl, Nat.le_add_right _ _, Nat.zero_le _, rfl, hst₁, F.keeps old, hns₁, fun p hp => ?_⟩
   · obtain ⟨h', tk, i, m', rfl, htk, hi, rfl, hst', F', hn', N'⟩ := hI
     (revert htk hi hst' F' hn' N'; revert h' tk i m'; with_reducible refine Drk4.all (by kpf_c) ((?_ : All4 _) _ _ _ _); refine fun h' tk i m' => Ap4.mk ?_; intros htk hi hst' F' hn' N')
     show wpAny _ A ((compTurn (nestE x y px py pi pe iter scope pos) 0 (.ref I) (.ref s₂.heap.objs.size) (compEnvC scope cl H2.objs.size env)).onRaise (fun x => do noteFrame x (compEnvC scope cl H2.objs.size env); theTreesLotGoes x)) _ _ _
     refine wpAny_noted (wp_noE ?_)
     rw [nest_outer]
     refine wpAny_bind (wpAny_standAt (wpAny_bind ?_))
     refine wp_ge (n := s₂.toks) htk ?_
     by_cases hlt : i < n
     · refine W.item i _ _ _ hlt hst' fun v h₂ tk₂ hMd hk₂ htk₂ => ?_
       (revert hMd hk₂ htk₂; revert v h₂ tk₂; with_reducible refine Drk3.all (by kpf_c) ((?_ : All3 _) _ _ _); refine fun v h₂ tk₂ => Ap3.mk ?_; intros hMd hk₂ htk₂)
       refine wpAny_bind ?_
       refine W.go i v _ _ _ hMd fun h₃ hPi hst₃ hk₃ => ?_
       (revert hPi hst₃ hk₃; revert h₃; tb_start; refine fun h₃ => Ap.mk ?_; intros hPi hst₃ hk₃)
       obtain ⟨F₃, N₃, hn₃⟩ := block_keep (h' := h₃) F' N' hn' off₀ hwr hLw hDw hCw fun b o hb e => hk₃ b o hb (hk₂ b o hb e)
       obtain ⟨oC, heC, hoC⟩ := LCg.ns_obj hn₃
       (revert heC hoC; revert oC; tb_start; refine fun oC => Ap.mk ?_; intros heC hoC)
       have No := news_ownOf (h₀ := h₀) (h := h₃) (L := L) (fp := fp) hLf
       have oC' : ∀ p ∈ ownOf h₀ fp h₃, p.1 ≠ H2.objs.size := fun p hp e => hCf (e ▸ ownOf_sub p hp)
       have oD' : ∀ p ∈ ownOf h₀ fp h₃, p.1 ≠ s₂.heap.objs.size := fun p hp e => hDf (e ▸ ownOf_sub p hp)
       obtain ⟨ax, its, kk, rfl, hm, hits⟩ := hP i v h₃ hlt hPi
       (revert hMd hPi hm hits; revert ax its kk; with_reducible refine Drk3.all (by kpf_c) ((?_ : All3 _) _ _ _); refine fun ax its kk => Ap3.mk ?_; intros hMd hPi hm hits)
       have N₄ : News h₀ L h₃ ((H2.objs.size, oC) :: (s₂.heap.objs.size, LCg.lst ((List.range i).flatMap xss)) :: (news ++ ownOf h₀ fp h₃)) := fun p hp => by
         rcases mc hp with rfl | hp
         · exact ⟨heC, hCL, hC₀⟩
         rcases mc hp with rfl | hp
         · exact N₃ _ (.head _)
         rcases ma hp with hp | hp
         · exact N₃ _ (.tail _ hp)
         exact No p hp
       have offC' : ∀ p ∈ news ++ ownOf h₀ fp h₃, p.1 ≠ H2.objs.size := fun p hp => (ma hp).elim (offC p) (oC' p)
       have offD' : ∀ p ∈ news ++ ownOf h₀ fp h₃, p.1 ≠ s₂.heap.objs.size := fun p hp => (ma hp).elim (offD p) (oD' p)
       refine wpAny_bind (wp_ge (n := s₂.toks) htk₂ (assign_own hx hkind F₃ N₄ hoC (fun p hp => ?_) hCL hC₀ fun h₅ oC₅ m₅ F₅ N₅ hC₅ hv₅ => fun ht₅ => ?_))
       · rcases mc hp with rfl | hp
         · exact hDC
         exact offC' p hp
       refine wpAny_bind (LCgL.ld_own N₅ (.head _) hC₅ hv₅ ?_ (by simp [compEnvC, relabel, hkind]) (lookup_relabel_local hx) hdx)
       refine wpAny_bind (wpAny_standAt (wpAny_bind (wpAny_holding ?_)))
       have efl : (List.range (i + 1)).flatMap xss = (List.range i).flatMap xss ++ its.toList := by rw [List.range_succ, List.flatMap_append, List.flatMap_singleton, hits]
       have hlen : ((List.range i).flatMap xss).length + its.size ≤ sizeLine := by
         have e1 : n = (i + 1) + (n - (i + 1)) := by omega
         have e2 : ((List.range n).flatMap xss).length = ((List.range (i + 1)).flatMap xss).length + (((List.range (n - (i + 1))).map (i + 1 + ·)).flatMap xss).length := by
           conv => lhs; rw [e1, List.range_add, List.flatMap_append, lA]
         rw [efl, lA, show its.toList.length = its.size from Array.length_toList] at e2
         have e3 := hfits
         rw [e2] at e3
         exact Nat.le_trans (Nat.le_add_right _ _) e3
       refine wp_ge (n := s₂.toks) ht₅ (wpAny_mono (nest_in (A := A.mark none) (env := env) (x := x) (y := y) (px := px) (py := py) (pi := pi) (pe := pe) (iter := iter) (scope := scope) (cl := cl) (pos := pos) hh hy hdy hkind F₅ N₅ hC₅ (ml _ hm) offC' offD' (Ne.symm hDC) hCL hDL hC₀ hlen (E := fun _ _ => False)
         (R := fun r s' => ∃ h' tk oC' m₂', r = .ok .next ∧ s' = { s₂ with heap := h', toks := tk } ∧ Fr h₀ L h' m ∧ News h₀ L h' ((H2.objs.size, oC') :: (s₂.heap.objs.size, LCg.lst ((List.range i).flatMap xss ++ its.toList)) :: (news ++ ownOf h₀ fp h₃)) ∧ LCg.NsObj oC' m₂')
         (fun h₆ tk₆ oC₆ m₆ F₆ N₆ hC₆ => ⟨h₆, tk₆, oC₆, m₆, rfl, rfl, F₆, N₆, hC₆⟩)) (fun it2 s₇ h₇ => fun ht₇ => ?_) fun _ _ e => e.elim)
       refine wpAny_bind (wp_ge (n := s₂.toks) ht₇ (wpAny_runOwn (codeAny_mono h₇ fun r s₈ h₈ => ?_)))
       (revert F₅ N₅ hC₅ hv₅ ht₅ h₇ ht₇ h₈; revert h₅ oC₅ m₅ it2 s₇ r s₈; with_reducible refine Drk7.all (by kpf_c) ((?_ : All7 _) _ _ _ _ _ _ _); refine fun h₅ oC₅ m₅ it2 s₇ r s₈ => Ap7.mk ?_; intros F₅ N₅ hC₅ hv₅ ht₅ h₇ ht₇ h₈)
       obtain ⟨h₆, tk₆, oC₆, m₆, rfl, rfl, F₆, N₆, hC₆⟩ := h₈
       (revert F₆ N₆ hC₆; revert h₆ tk₆ oC₆ m₆; with_reducible refine Drk4.all (by kpf_c) ((?_ : All4 _) _ _ _ _); refine fun h₆ tk₆ oC₆ m₆ => Ap4.mk ?_; intros F₆ N₆ hC₆)
       refine fun ht₆ => wpAny_pure ⟨rfl, n + 1 - (i + 1), sub_succ_lt (by first | assumption | omega), h₆, tk₆, i + 1, m₆, rfl, ht₆, hlt, rfl, ?_, F₆, hC₆.ns (N₆ _ (.head _)).1, fun p hp => ?_⟩
       · exact block_st W hst₃ F₃.keep F₆ N₆ fun p hp => .tail _ (.tail _ (mr _ hp))
       rcases mc hp with rfl | hp
       · rw [efl]; exact N₆ _ (.tail _ (.head _))
       exact N₆ _ (.tail _ (.tail _ (ml _ hp)))
     obtain rfl : i = n := Nat.le_antisymm hi (Nat.not_lt.mp hlt)
     refine W.done _ _ _ hst' fun h₂ tk₂ hk₂ htk₂ => ?_
     (revert hk₂ htk₂; revert h₂ tk₂; with_reducible refine Drk2.all (by kpf_c) ((?_ : All2 _) _ _); refine fun h₂ tk₂ => Ap2.mk ?_; intros hk₂ htk₂)
     obtain ⟨F₃, N₃, hn₃⟩ := block_keep (h' := h₂) F' N' hn' off₀ hwr hLw hDw hCw hk₂
     exact wpAny_pure (hRR _ _ h₂ tk₂ _ htk₂ F₃ N₃ (off_cons offC (off_cons offD off_nil)) hn₃ hC₀ hD₀ hCL hDL (Ne.symm hDC) (fun p hp => Heap.lt_size (N p hp).1))
   rcases mc hp with rfl | hp
   · exact ⟨hacc, hDL, hD₀⟩
   exact ⟨old _ _ (N p hp).1, (N p hp).2⟩
 exact codeAny_compStart_list (loop _ rfl) (self _ _ _ hst₁ (loop _ rfl))
theorem listComp_N {x y : Str} {px py pi pe : Pos} {iter : Expr} {scope : Scope} {cl : List (Str × Addr)} {pos : Pos} {Q : Value → Shared → Prop}
   (_F₀ : Fr h₀ L s.heap m) (hclos : closureFor scope env = pure cl) (hcell : ∀ y ∈ scope.names, y.2 ≠ .cell) (hkind : scope.kind = .function)
   (hnames : ∀ y ∈ scope.names, y.2 = .local → scope.names.lookup y.1 = some .local)
   (hh : ∀ c, ((A.mark none).under c).handled = none) (hx : scope.names.lookup x = some .local) (hdx : (x == ("__debug__" : Str)) = false) (hy : scope.names.lookup y = some .local) (hdy : (y == ("__debug__" : Str)) = false)
   (h : wpAny (model prog w) A (eval iter env) (fun xv s₁ => wpAny (model prog w) A (pyIter xv) (fun it s₂ => ∃ (news : Led) (n : Nat) (P Md : Nat → Value → Heap → Prop) (I : Addr) (fp wr : List Addr) (St : Nat → Heap → Prop) (xss : Nat → List Value),
     Source prog w A (.Name x px) h₀ L m news n P it s₂ I fp wr Md St ∧ (∀ i v h, i < n → P i v h → ∃ ax its k, v = .ref ax ∧ (ax, listOf its k) ∈ news ∧ its.toList = xss i) ∧ ((List.range n).flatMap xss).length ≤ sizeLine ∧
     ∀ D h tk, s₂.toks ≤ tk → Fr h₀ L h m → News h₀ L h ((D, LCg.lst ((List.range n).flatMap xss)) :: news) → (∀ p ∈ news, p.1 < D) → Q (.ref D) { s₂ with heap := h, toks := tk }) E s₁) E s)
   (hs : ∀ x, foldedSetIterable iter env x = pure x) :
   wpAny (model prog w) A (eval (nestE x y px py pi pe iter scope pos) env) Q E s := by
 (revert _F₀ hclos hcell hkind hnames hh hx hdx hy hdy h hs; revert prog w A E s h₀ L m env x y px py pi pe iter scope cl pos Q; with_reducible refine (no_implicit_lambda% (Drk7.all (by kpf_c) ((?_ : All7 _) _ _ _ _ _ _ _))); refine fun prog w A E s h₀ L => Ap7.mk ?_; with_reducible refine (no_implicit_lambda% (Drk7.all (by kpf_c) ((?_ : All7 _) _ _ _ _ _ _ _))); refine fun m env x y px py pi => Ap7.mk ?_; with_reducible refine (no_implicit_lambda% (Drk6.all (by kpf_c) ((?_ : All6 _) _ _ _ _ _ _))); refine fun pe iter scope cl pos Q => Ap6.mk ?_; intros _F₀ hclos hcell hkind hnames hh hx hdx hy hdy h hs)
 rw [eval_ListComp]
 refine wpAny_comprehension_free (use := none) rfl hs hclos hkind hnames (wpAny_mono h (fun xv s₁ h₁ => wpAny_mono h₁ (fun it s₂ h₂ => ?_) fun _ _ e => e) fun _ _ e => e)
 obtain ⟨news, n, P, Md, I, fp, wr, St, xss, X, hP, hfits, fin⟩ := h₂
 (revert h₁ X hP hfits fin; revert xv s₁ it s₂ news n P Md I fp wr St xss; with_reducible refine (no_implicit_lambda% (Drk7.all (by kpf_c) ((?_ : All7 _) _ _ _ _ _ _ _))); refine fun xv s₁ it s₂ news n P => Ap7.mk ?_; with_reducible refine (no_implicit_lambda% (Drk6.all (by kpf_c) ((?_ : All6 _) _ _ _ _ _ _))); refine fun Md I fp wr St xss => Ap6.mk ?_; intros h₁ X hP hfits fin)
 refine block_N xss X hP hh hx hdx hy hdy hcell hkind hfits ?_
 rintro D C h tk m' ht F' N' o1 hn hC₀ hD₀ hCL hDL hCD hlt
 refine ⟨m', hn, fun h'' hs'' => fin D h'' tk ht (F'.change hs'' hCL hC₀) (fun p hp => ?_) hlt⟩
 refine ⟨hs''.extBut _ _ ?_ (N' p hp).1, (N' p hp).2⟩
 rcases mc hp with rfl | hp
 · exact Ne.symm hCD
 exact o1 p hp C (.head _)
end
theorem range_flat {α β : Type} (f : α → List β) : ∀ l : List α, (List.range l.length).flatMap (fun i => (l[i]?).elim [] f) = l.flatMap f
 | [] => rfl
 | a :: l => by
   rw [List.length_cons, List.range_succ_eq_map, List.flatMap_cons, List.flatMap_map, List.flatMap_cons, ← range_flat f l]
   rfl
theorem walk_ctr {w : World} {d u : Nat} {news : Led} {ax : Addr} {lk : Nat} {Ls : List (Addr × Array Value × Nat)} (hd : 2 ≤ d) (hu : 10 ≤ u) (hm : (ax, listOf (Ls.map fun q => Value.ref q.1).toArray lk) ∈ news) (hL : ∀ q ∈ Ls, (q.1, listOf q.2.1 q.2.2) ∈ news)
   (hsz : (Ls.reverse.flatMap fun q => q.2.1.toList).length ≤ 1000) (hl : Ls.length ≤ 1000) :
   Ctr w 219 d u news [.ref ax] (fun v l => ∃ D, v = .ref D ∧ l = (D, LCg.lst (Ls.reverse.flatMap fun q => q.2.1.toList)) :: news ∧ ∀ p ∈ news, p.1 < D) := by
 w_top off
 have h1000 : 1000 ≤ sizeLine := by decide
 (revert hd hu hm hL hsz hl; revert w d u news ax lk Ls; with_reducible refine (no_implicit_lambda% (Drk7.all (by kpf_c) ((?_ : All7 _) _ _ _ _ _ _ _))); refine fun w d u news ax lk Ls => Ap7.mk ?_; intros hd hu hm hL hsz hl)
 (refine Ctr.open ?_; generalize Ctr.cs _ _ _ _ _ _ _ = bCS; unfold Ctr.At; generalize bCS.p = p, bCS.loose = loose, bCS.mean = mean, bCS.mg = mg, bCS.mb = mb, bCS.dp = dp, bCS.un = un, bCS.gd = gd, bCS.cn = cn, bCS.cs = cs, bCS.a = a, bCS.ccd = ccd, bCS.cl = cl, bCS.outer = outer, bCS.A₀ = A₀, bCS.base = base, bCS.h₀ = h₀, bCS.L = L, bCS.m = m, bCS.s = s, bCS.Q = Q, bCS.E = E; clear bCS; intros St hret; obtain ⟨B, F, X, N, T, hk, hdp, hup⟩ := St; revert X; k_fill; intro X; refine wpAny_call ?_)
 (k_dflt (refine' code_def ?k1 ?k2 ?k3 ?k4 ?k5 ?kA ?kF ?kK ?k6 ?k7 ?k8 ?k9 ?kB ?_ ?c2 ?c3 ?c4 ?c5; (case kA => exact rfl); (case kF => exact rfl); (case kK => assumption); (case k1 => k_asm); (case k2 => k_asm); (case k3 => k_asm); (case k4 => k_asm); (case k5 => k_asm); (case k6 => k_is); (case k7 => k_is); (case k8 => first | allgen_close_more | (simp only [depth_in1, depth_deeper] at *; omega)); (case k9 => first | exact BindsTo.of_eq rfl | exact binds_K (by k_in) rfl (by k_is) rfl rfl rfl); (case c5 => decide); (case kB => exact locs rfl); (case c2 => exact rfl); (case c3 => exact rfl); (case c4 => exact rfl); k_whole; intro g' L' h' FG' F' N' B' X' T'); (try dsimp only); (refine wp_noE ?_); (refine wp_toks ?_); intro tk0; (try dsimp only); (try k_fold))
 replace F' : Fr g' L' h' (fun y => List.lookup y [(Str.ofString "levels", .ref ax)]) := fr_eq F' (by kernel_rfl)
 (repeat' ((fail_if_success with_reducible first | refine zQ1 ?_ | refine zQ2 ?_ | refine zQ3 ?_ | refine zJ ?_ | refine z1 ?_ | refine z2 ?_ | refine z3 ?_ | refine z4 ?_ | refine z5 ?_ | refine z6 ?_ | refine z7 ?_ | refine zc (by decide) ?_ | refine z9 ?_); (first | (k_unfold; try dsimp only) | (dsimp only; k_unfold; try dsimp only) | walk1 | (dsimp only; walk1) | fail)))
 first | k_dflt (refine listComp_N F' (by with_unfolding_all rfl) (by decide) (by rfl) (by decide) (fun _ => rfl) (by rfl) (by decide) (by rfl) (by decide) ?_ (fun _ => rfl)) | fail
 (repeat' ((fail_if_success with_reducible first | refine zQ1 ?_ | refine zQ2 ?_ | refine zQ3 ?_ | refine zJ ?_ | refine z1 ?_ | refine z2 ?_ | refine z3 ?_ | refine z4 ?_ | refine z5 ?_ | refine z6 ?_ | refine z7 ?_ | refine zc (by decide) ?_ | refine z9 ?_ | refine z10 ?_); (first | (k_unfold; try dsimp only) | (dsimp only; k_unfold; try dsimp only) | walk1 | (dsimp only; walk1) | fail)))
 first | k_dflt (refine' krv_lit ?F ?N ?l ?k ?e ?_ ?s ?t ?z; (case F => k_asm); (case N => k_asm); (case l => exact isList_news N' hm); (case k => exact IsPart.int _ _); (case e => exact rfl); (case s => with_unfolding_all rfl); (case t => kmk_pure); (case z => (rw [List.size_toArray, lM]; omega))) | fail
 intro D1 h1 F1 N1 l1
 dsimp only
 have eN : (Ls.map fun q => Value.ref q.1).toArray.toList.reverse.toArray.size = Ls.reverse.length := by simp
 have ef := range_flat (fun q : Addr × Array Value × Nat => q.2.1.toList) Ls.reverse
 refine source_list rfl F1 N1 (.head _) (by rw [eN, List.length_reverse]; omega) (fun _ _ _ _ _ _ _ _ _ q => hgo_name q) fun gI I fp wr Md St X _ => ⟨_, _, _, _, _, _, _, _, fun i => (Ls.reverse[i]?).elim [] fun q => q.2.1.toList, X, ?_, ?_, ?_⟩
 · (revert gI I fp wr Md St; with_reducible refine (no_implicit_lambda% (Drk6.all (by kpf_c) ((?_ : All6 _) _ _ _ _ _ _))); refine fun gI I fp wr Md St => Ap6.mk ?_; intros X _)
   intro i v h hi hv
   have hv : (Ls.map fun q => Value.ref q.1).toArray.toList.reverse.toArray[i]? = some v := hv
   rw [show (Ls.map fun q => Value.ref q.1).toArray.toList.reverse.toArray = (Ls.reverse.map fun q => Value.ref q.1).toArray from by simp, List.getElem?_toArray, List.getElem?_map] at hv
   cases hq : Ls.reverse[i]? with
   | none => rw [hq] at hv; cases hv
   | some q =>
     rw [hq] at hv
     exact ⟨q.1, q.2.1, q.2.2, (Option.some.inj hv).symm, .tail _ (hL q (List.mem_reverse.mp (List.mem_of_getElem? hq))), by show _ = (Ls.reverse[i]?).elim [] _; rw [hq]; rfl⟩
 · rw [eN, ef]; omega
 rw [eN, ef]
 intro D h tk htk F2 N2 l2
 dsimp only
 (repeat' ((fail_if_success with_reducible first | refine zQ1 ?_ | refine zQ2 ?_ | refine zQ3 ?_ | refine zJ ?_ | refine z1 ?_ | refine z2 ?_ | refine z3 ?_ | refine z4 ?_ | refine z5 ?_ | refine z6 ?_ | refine z7 ?_ | refine zc (by decide) ?_ | refine z9 ?_); (first | (k_unfold; try dsimp only) | (dsimp only; k_unfold; try dsimp only) | walk1 | (dsimp only; walk1) | fail)))
 ((try (k_unfold; (try dsimp only))); k_dflt (refine' leaveK_ ?k1 ?k2 ?_; (case k1 => k_asm); (case k2 => k_asm)); intro kF kN; (try dsimp only))
 exact hret _ ((D, LCg.lst (Ls.reverse.flatMap fun q => q.2.1.toList)) :: news) _ _ ⟨D, rfl, rfl, fun p hp => l2 p (.tail _ hp)⟩ kF (fun p hp => kN p ((mc hp).elim (fun e => e ▸ .head _) fun hp => .tail _ (.tail _ hp)))
section
variable {prog : Program} {w : World} {A : Around} {E : Value → Shared → Prop} {s : Shared} {K : Frag} {h₀ : Heap} {L x C : Addr} {m : Str → Option Value} {ox : Obj} {od : Option Obj} {name : Str} {pl : Sem Bool} {es : List DictEntry} {n : Nat}
theorem findObj_over {o : Obj} {a g v : Value} (hh : hasDictIn K C = true) (ha : findIn K (.ref C) name = some (some a)) (hg : specialIn K a "__get__" = some (some g)) (ht : takesIn K a = some false) (hl : lookIn name o = some (some v)) :
   findObj K C (some o) name = some (.value v) := by
 obtain ⟨cd, hc, hd⟩ := any_some hh
 unfold findObj
 have ho : W.ownOf cd (some o) name = some (some v) := by unfold W.ownOf; rw [if_pos hd]; exact hl
 rw [hc, Option.bind_some, ha, Option.bind_some]
 simp [hg, ht, ho]
theorem method_over {f : Addr} {g v : Value} {Q : Value × List Value → Shared → Prop} (F : Fr h₀ L s.heap m) (X₀ : K.In h₀) (I : InstAt s.heap x ox C (some (dictOf es n))) (hp : plainGet K C name = true) (hh : hasDictIn K C = true)
   (hf : findIn K (.ref C) name = some (some (.ref f))) (ht : isFn K (.ref f) = true) (hg : specialIn K (.ref f) "__get__" = some (some g)) (hk : takesIn K (.ref f) = some false) (hl : getL name es = some (some v)) (hv : handedIn v = true)
   (hd : ∃ dx, ox.dict = some dx) (h : Q (v, []) { s with toks := s.toks + 1 }) : wpAny (model prog w) A (getMethod (.ref x) name pl) Q E s := by
 have X := X₀.keeps F.keep
 have hga := (plainGet_of hp).1
 have hgn := (plainGet_of hp).2
 have htf : typeIn K (.ref f) = some (.type "function") := beq_iff_eq.mp ht
 have hcan := PySem.F.canon_object_ga
 have hlk : lookIn name (dictOf es n) = some (some v) := by rw [lookIn_dict, hl]
 have hu : wpAny (model prog w) A (getAttr (.ref x) name >>= fun v => pure (v, [])) Q E s := wpAny_bind (get_value X I hga (findObj_over hh hf hg hk hlk) hv (wpAny_pure h))
 unfold getMethod specialOf
 refine wpAny_bind (wpAny_bind (I.type.here ((looks_findIn X hga).here ?_)))
 dsimp only
 rw [hcan, if_neg (by decide)]
 refine wpAny_bind (wpAny_bind (I.type.here ((looks_findIn X hgn).here ?_)))
 refine wpAny_bind (wpAny_bind (I.type.here ((looks_findIn X hf).here (wpAny_bind ((looks_typeIn X htf).here ?_)))))
 rw [if_neg (by decide +kernel)]
 refine wpAny_bind (wpAny_loadPart I.at_ ?_)
 have hdd := I.dict
 obtain ⟨dx, e⟩ := hd
 rw [e] at hdd ⊢
 refine wpAny_bind (wpAny_bind (wpAny_loadPart hdd ?_))
 rw [nsLook_of hlk]
 refine wpAny_pure ?_
 exact hu
end
theorem ktr_depth {dp un : Nat} {gd : Option (List Code)} {cn : Str} {cs : Scope} {L a : Addr} {ccd : Value} {cl : List (Str × Addr)} {outer : List Env} : (ktrTop dp un gd cn cs L a ccd cl outer).depth = dp := rfl
def CtrC (w : World) (f : Addr) (d u : Nat) (news : Led) (vs : List Value) (P : Value → Led → Prop) : Prop :=
 ∀ (p : Program) (loose : List Str) (mean : ExcName → Option Value) (mg mb : Str → Option Value) (dp un : Nat) (gd : Option (List Code)) (cn : Str) (cs : Scope) (a : Addr) (ccd : Value) (cl : List (Str × Addr)) (outer : List Env)
   (A₀ : Around) (base h₀ : Heap) (L : Addr) (m : Str → Option Value) (s : Shared) (Q E : Value → Shared → Prop),
   Site w A₀ base h₀ outer cs L m news s dp un d u p loose mean mg mb →
   (∀ (v : Value) (news' : Led) (h' : Heap) (tk' : Nat), P v news' → Fr h₀ L h' m → News h₀ L h' news' → Q v { s with heap := h', toks := tk' }) →
   codeAny (model rw_pg0305_01.row.prog w) (ktrTop dp un gd cn cs L a ccd cl outer) (.call (.ref f) ⟨vs, []⟩) (fun r s' => match r with | .ok (.ret v) => Q v s' | .ok _ => False | .error e => E e s') s
def CtrC.At (w : World) (f : Addr) (d u : Nat) (news : Led) (vs : List Value) (P : Value → Led → Prop) (b : CS) : Prop :=
   Site w b.A₀ b.base b.h₀ b.outer b.cs b.L b.m news b.s b.dp b.un d u b.p b.loose b.mean b.mg b.mb →
   (∀ (v : Value) (news' : Led) (h' : Heap) (tk' : Nat), P v news' → Fr b.h₀ b.L h' b.m → News b.h₀ b.L h' news' → b.Q v { b.s with heap := h', toks := tk' }) →
   codeAny (model rw_pg0305_01.row.prog w) (ktrTop b.dp b.un b.gd b.cn b.cs b.L b.a b.ccd b.cl b.outer) (.call (.ref f) ⟨vs, []⟩) (fun r s' => match r with | .ok (.ret v) => b.Q v s' | .ok _ => False | .error e => b.E e s') b.s
noncomputable def CtrC.cs (w : World) (f : Addr) (d u : Nat) (news : Led) (vs : List Value) (P : Value → Led → Prop) : CS := Drk neCS (CtrC.At w f d u news vs P)
theorem CtrC.open {w : World} {f : Addr} {d u : Nat} {news : Led} {vs : List Value} {P : Value → Led → Prop} (h : CtrC.At w f d u news vs P (CtrC.cs w f d u news vs P)) : CtrC w f d u news vs P :=
 fun p loose mean mg mb dp un gd cn cs a ccd cl outer A₀ base h₀ L m s Q E => Drk.one neCS (C := CtrC.At w f d u news vs P) h ⟨p, loose, mean, mg, mb, dp, un, gd, cn, cs, a, ccd, cl, outer, A₀, base, h₀, L, m, s, Q, E⟩
theorem CtrC.toC {w : World} {f : Addr} {d u : Nat} {news : Led} {vs : List Value} {P : Value → Led → Prop} (c : CtrC w f d u news vs P) : Ctr w f d u news vs P :=
 fun p loose mean mg mb dp un gd cn cs a ccd cl outer A₀ base h₀ L m s Q E S k => wpAny_call (c p loose mean mg mb dp un gd cn cs a ccd cl outer A₀ base h₀ L m s Q E S k)
theorem CtrC.useM {w : World} {f q : Addr} {self : Value} {d u : Nat} {news : Led} {vs : List Value} {P : Value → Led → Prop} (c : CtrC w f d u news (self :: vs) P)
   {p : Program} {loose : List Str} {mean : ExcName → Option Value} {mg mb : Str → Option Value} {dp un : Nat} {gd : Option (List Code)} {cn : Str} {cs : Scope} {a : Addr} {ccd : Value} {cl : List (Str × Addr)} {outer : List Env}
   {A A₀ : Around} {base h₀ : Heap} {L : Addr} {m : Str → Option Value} {s : Shared} {Q E : Value → Shared → Prop} {all : Led}
   (hA : A = ktrTop dp un gd cn cs L a ccd cl outer) (hq : (q, methodObj (.ref f) self) ∈ all) (B : Below A₀ base outer h₀) (F : Fr h₀ L s.heap m) (X : (hd.heap_39 w.params).In h₀) (NA : News h₀ L s.heap all) (N : News h₀ L s.heap news) (T : Top p loose mean mg mb h₀) (hk : cs.kind = .function) (hd : dp + d < recursionLimit) (hu : un + u < cLine)
   (k : ∀ (v : Value) (news' : Led) (h' : Heap) (tk' : Nat), P v news' → Fr h₀ L h' m → News h₀ L h' news' → Q v { s with heap := h', toks := tk' }) :
   wpAny (model rw_pg0305_01.row.prog w) A (call (.ref q) vs) Q E s := by
 subst hA
 exact call_meth NA hq (c p loose mean mg mb dp un gd cn cs a ccd cl outer A₀ base h₀ L m s Q E ⟨B, F, X, N, T, hk, hd, hu⟩ k)
structure QN (x uri tag : Str) : Prop where
 len : x.length ≤ 1000
 head : Txt.slice x none (some 1) = Str.ofString "{"
 parts : Txt.rsplitMax (Txt.slice x (some 1) none) (Str.ofString "}") 1 = [uri, tag]
structure NT where
 (a : Addr) (u : Str) (tu : Tok) (p : Str) (tp : Tok)
noncomputable abbrev NT.obj (q : NT) : Obj := { cls := .type "tuple", data := .seq #[.str q.u q.tu, .str q.p q.tp] }
structure NSt (l : Led) (lv : Array Value) (Ls : List (Addr × Array Value × Nat)) (tl : List NT) : Prop where
 lv : lv = (Ls.map fun q => Value.ref q.1).toArray
 mem : ∀ q ∈ Ls, (q.1, listOf q.2.1 q.2.2) ∈ l
 flat : (Ls.reverse.flatMap fun q => q.2.1.toList) = tl.map fun q => Value.ref q.a
 tup : ∀ q ∈ tl, (q.a, q.obj) ∈ l
 small : tl.length ≤ 100 ∧ Ls.length ≤ 100
 nodup : (tl.map (·.p)).Nodup
 plen : ∀ q ∈ tl, 1 ≤ q.p.length ∧ q.p.length ≤ 100
noncomputable abbrev trip (x y z : Str) (t u v : Tok) : Obj := { cls := .type "tuple", data := .seq #[.str x t, .str y u, .str z v] }
theorem ref_of {tl : List NT} {i : Nat} {v : Value} (h : (tl.map fun q => Value.ref q.a).toArray[i]? = some v) : ∃ q, tl[i]? = some q ∧ v = .ref q.a := by
 rw [List.getElem?_toArray, List.getElem?_map] at h
 cases e : tl[i]? with
 | none => rw [e] at h; cases h
 | some q => rw [e] at h; exact ⟨q, rfl, (Option.some.inj h).symm⟩
theorem drop23 {h₀ h : Heap} {L : Addr} {q0 q1 q2 : Addr × Obj} {l own : Led} (N : News h₀ L h (q0 :: q1 :: q2 :: (l ++ own))) : News h₀ L h (q0 :: l) := fun p hp => by
 rcases mc hp with rfl | hp
 · exact N _ (.head _)
 exact N p (.tail _ (.tail _ (.tail _ (ml own hp))))
theorem CtrC.mono {w : World} {f : Addr} {d u : Nat} {news : Led} {vs : List Value} {P P' : Value → Led → Prop} (c : CtrC w f d u news vs P) (h : ∀ v l, P v l → P' v l) : CtrC w f d u news vs P' :=
 fun p loose mean mg mb dp un gd cn cs a ccd cl outer A₀ base h₀ L m s Q E S k => c p loose mean mg mb dp un gd cn cs a ccd cl outer A₀ base h₀ L m s Q E S fun v n' h' tk' hp => k v n' h' tk' (h v n' hp)
theorem one_named {l : List (Str × Tok)} {x : Str} (e : l.map (·.1) = [x]) : ∃ ta, l = [(x, ta)] := by
 cases l with
 | nil => cases e
 | cons a r =>
   obtain ⟨a1, ta⟩ := a
   rw [List.map_cons] at e
   injection e with e1 e3
   have e3 := List.map_eq_nil_iff.mp e3
   subst e3
   dsimp only at e1
   subst e1
   exact ⟨ta, rfl⟩
theorem two_named {l : List (Str × Tok)} {x y : Str} (e : l.map (·.1) = [x, y]) : ∃ ta tb, l = [(x, ta), (y, tb)] := by
 cases l with
 | nil => cases e
 | cons a r =>
   cases r with
   | nil => cases e
   | cons b r =>
     obtain ⟨a1, ta⟩ := a
     obtain ⟨b1, tb⟩ := b
     rw [List.map_cons, List.map_cons] at e
     injection e with e1 e2
     injection e2 with e2 e3
     have e3 := List.map_eq_nil_iff.mp e3
     subst e3
     dsimp only at e1 e2
     subst e1 e2
     exact ⟨ta, tb, rfl⟩
def nName (n : Nat) : Str := Str.ofString "n" ++ Str.ofString (toString (n : Int))
def QNew (w : World) (A : WA) (κ : WT) (S : WL) (R' : Led) (tag uri : Str) (D₀ : List (PyData × PyData)) (dl : Addr) (xs : Array Value) (xk : Nat) (v : Value) (l : Led) : Prop :=
 ∃ (Dr Dn : Addr) (opm' : Obj) (kvs' : List (Str × Value)) (t1 t2 t3 t4 t5 : Tok), v = .ref Dr ∧ opm'.IsDictOf (strKind rw_pg0305_01.row.prog w) kvs' ∧
   PyProof.V.FlatPairs PyData.str kvs' (PyProof.V.putD (PyData.str uri) (PyData.str (nName D₀.length)) D₀) ∧
   l = (Dr, trip (Str.empty ++ nName D₀.length ++ Str.ofString ":" ++ tag) tag uri t1 t2 t3) :: (Dn, ({ cls := .type "tuple", data := .seq #[.str uri t4, .str (nName D₀.length) t5] } : Obj)) ::
     wLed w A κ { S with opm := opm' } ((dl, listOf (xs.push (.ref Dn)) (xk + 1)) :: R') ∧
   (∀ p ∈ wLed w A κ { S with opm := opm' } ((dl, listOf (xs.push (.ref Dn)) (xk + 1)) :: R'), p.1 < Dn) ∧ Dn < Dr
theorem drop3 {h₀ h : Heap} {L : Addr} {q0 q1 q2 : Addr × Obj} {l : Led} (N : News h₀ L h (q0 :: q1 :: q2 :: l)) : News h₀ L h (q0 :: q1 :: l) := fun p hp => by
 rcases mc hp with rfl | hp
 · exact N _ (.head _)
 rcases mc hp with rfl | hp
 · exact N _ (.tail _ (.head _))
 exact N p (.tail _ (.tail _ (.tail _ hp)))
def NewOk (w : World) (A : WA) (S : WL) (R : Led) (uri : Str) (kvs : List (Str × Value)) (D₀ : List (PyData × PyData)) (dl : Addr) (xs : Array Value) (xk : Nat) (R' : Led) (Ls Ls' : List (Addr × Array Value × Nat)) : Prop :=
 S.opm.IsDictOf (strKind rw_pg0305_01.row.prog w) kvs ∧ PyProof.V.FlatPairs PyData.str kvs D₀ ∧ Spec.lookup (PyData.str uri) D₀ = none ∧ D₀.length ≤ 100 ∧ kvs.length = D₀.length ∧
   R = (dl, listOf xs xk) :: R' ∧ Ls = Ls' ++ [(dl, xs, xk)] ∧ xs.size ≤ 100 ∧ (A.pm == sysModules) = false ∧ ∀ p ∈ R', p.1 ≠ dl
theorem qname_bothC {w : World} {d u : Nat} {A : WA} {κ : WT} {S : WL} {R : Led} (hd : 10 ≤ d) (hu : 40 ≤ u) (O : A.Ord R) {qs uri tag : Str} (H : QN qs uri tag) (t : Tok)
   {Ls : List (Addr × Array Value × Nat)} {tl : List NT} (V : NSt (wLed w A κ S R) S.lv Ls tl)
   {kvs : List (Str × Value)} {D₀ : List (PyData × PyData)} {dl : Addr} {xs : Array Value} {xk : Nat} {R' : Led} {Ls' : List (Addr × Array Value × Nat)} (hN : (∀ q ∈ tl, q.u ≠ uri) → NewOk w A S R uri kvs D₀ dl xs xk R' Ls Ls') :
   CtrC w 90 d u (wLed w A κ S R) [.ref A.x, .str qs t] (fun v l => (∃ q ∈ tl, q.u = uri ∧ ∃ D t1 t2 t3, v = .ref D ∧ l = (D, trip (Str.empty ++ q.p ++ Str.ofString ":" ++ tag) tag uri t1 t2 t3) :: wLed w A κ S R ∧ ∀ p ∈ wLed w A κ S R, p.1 < D) ∨
     ((∀ q ∈ tl, q.u ≠ uri) ∧ QNew w A κ S R' tag uri D₀ dl xs xk v l)) := by
 w_top off
 obtain ⟨pcs, np, dat, nd, _, nl, nss, nn, pv, nv, opm⟩ := S
 have o1 := O.o
 have o2 := O.off
 have h1000 : 1000 ≤ sizeLine := by decide
 have hlen := H.len
 have V1 := V.lv
 have V2 := V.mem
 have V3 := V.tup
 have V4 := V.small
 dsimp only at V1 V2 V3 ⊢
 subst V1
 (revert hd hu O H o1 o2 hlen V4 V hN V2 V3; revert w d u A κ R qs uri tag t Ls tl kvs D₀ dl xs xk R' Ls' pcs np dat nd nl nss nn pv nv opm; with_reducible refine (no_implicit_lambda% (Drk8.all (by kpf_c) ((?_ : All8 _) _ _ _ _ _ _ _ _))); refine fun w d u A κ R qs uri => Ap8.mk ?_; with_reducible refine (no_implicit_lambda% (Drk8.all (by kpf_c) ((?_ : All8 _) _ _ _ _ _ _ _ _))); refine fun tag t Ls tl kvs D₀ dl xs => Ap8.mk ?_; with_reducible refine (no_implicit_lambda% (Drk8.all (by kpf_c) ((?_ : All8 _) _ _ _ _ _ _ _ _))); refine fun xk R' Ls' pcs np dat nd nl => Ap8.mk ?_; with_reducible refine (no_implicit_lambda% (Drk5.all (by kpf_c) ((?_ : All5 _) _ _ _ _ _))); refine fun nss nn pv nv opm => Ap5.mk ?_; intros hd hu O H o1 o2 hlen V4 V hN V2 V3)
 (refine CtrC.open ?_; generalize CtrC.cs _ _ _ _ _ _ _ = bCS; unfold CtrC.At; generalize bCS.p = p, bCS.loose = loose, bCS.mean = mean, bCS.mg = mg, bCS.mb = mb, bCS.dp = dp, bCS.un = un, bCS.gd = gd, bCS.cn = cn, bCS.cs = cs, bCS.a = a, bCS.ccd = ccd, bCS.cl = cl, bCS.outer = outer, bCS.A₀ = A₀, bCS.base = base, bCS.h₀ = h₀, bCS.L = L, bCS.m = m, bCS.s = s, bCS.Q = Q, bCS.E = E; clear bCS; intros St hret; obtain ⟨B, F, X, N, T, hk, hdp, hup⟩ := St; revert X; k_fill; intro X)
 (k_dflt (refine' code_def ?k1 ?k2 ?k3 ?k4 ?k5 ?kA ?kF ?kK ?k6 ?k7 ?k8 ?k9 ?kB ?_ ?c2 ?c3 ?c4 ?c5; (case kA => exact rfl); (case kF => exact rfl); (case kK => assumption); (case k1 => k_asm); (case k2 => k_asm); (case k3 => k_asm); (case k4 => k_asm); (case k5 => k_asm); (case k6 => k_is); (case k7 => k_is); (case k8 => first | allgen_close_more | (simp only [depth_in1, depth_deeper] at *; omega)); (case k9 => first | exact BindsTo.of_eq rfl | exact binds_K (by k_in) rfl (by k_is) rfl rfl rfl); (case c5 => decide); (case kB => exact locs rfl); (case c2 => exact rfl); (case c3 => exact rfl); (case c4 => exact rfl); k_whole; intro g' L' h' FG' F' N' B' X' T'); (try dsimp only); (refine wp_noE ?_); (refine wp_toks ?_); intro tk0; (try dsimp only); (try k_fold))
 replace F' : Fr g' L' h' (fun y => List.lookup y [(Str.ofString "uri", .none), (Str.ofString "qname", .str qs t), (Str.ofString "self", .ref A.x)]) := fr_eq F' (by kernel_rfl)
 (repeat' ((fail_if_success with_reducible first | refine zQ1 ?_ | refine zQ2 ?_ | refine zQ3 ?_ | refine zJ ?_ | refine z1 ?_ | refine z2 ?_ | refine z3 ?_ | refine z4 ?_ | refine z5 ?_ | refine z6 ?_ | refine z7 ?_ | refine zc (by decide) ?_ | refine z9 ?_ | refine z10 ?_ | refine z11 ?_ | refine z13 ?_ | refine z14 ?_ | refine z15 ?_); (first | (k_unfold; try dsimp only) | (dsimp only; k_unfold; try dsimp only) | walk1 | (dsimp only; walk1) | fail)))
 refine slice_strN_ns (hsz := ?hsz) (s := ⟨_, _, _, _, _⟩) F' N' ?_
 case hsz => omega
 intro h1 t1 k1 F1 N1
 rw [H.head]
 dsimp only
 (repeat' ((fail_if_success with_reducible first | refine zQ1 ?_ | refine zQ2 ?_ | refine zQ3 ?_ | refine zJ ?_ | refine z1 ?_ | refine z2 ?_ | refine z3 ?_ | refine z4 ?_ | refine z5 ?_ | refine z6 ?_ | refine z7 ?_ | refine zc (by decide) ?_ | refine z9 ?_ | refine z10 ?_ | refine z11 ?_ | refine z13 ?_ | refine z14 ?_ | refine z15 ?_); (first | (k_unfold; try dsimp only) | (dsimp only; k_unfold; try dsimp only) | walk1 | (dsimp only; walk1) | fail)))
 refine slice_strN_sn (hsz := ?hsz) (s := ⟨_, _, _, _, _⟩) F1 N1 ?_
 case hsz => omega
 intro h2 t2 k2 F2 N2
 dsimp only
 (repeat' ((fail_if_success with_reducible first | refine zQ1 ?_ | refine zQ2 ?_ | refine zQ3 ?_ | refine zJ ?_ | refine z1 ?_ | refine z2 ?_ | refine z3 ?_ | refine z4 ?_ | refine z5 ?_ | refine z6 ?_ | refine z7 ?_ | refine zc (by decide) ?_ | refine z9 ?_ | refine z10 ?_ | refine z11 ?_ | refine z13 ?_ | refine z14 ?_ | refine z15 ?_); (first | (k_unfold; try dsimp only) | (dsimp only; k_unfold; try dsimp only) | walk1 | (dsimp only; walk1) | fail)))
 have hsl : (Txt.slice qs (some 1) none).length ≤ qs.length := PyProof.Txt.length_slice_le _ _ _
 refine rsplitN2A (hsz := ?hsz) F2 N2 (by rfl) (by decide) ?_
 case hsz => exact Nat.le_trans (Nat.add_le_add_right (Nat.le_trans hsl hlen) 2) (by decide)
 intro l h3 tk3 hl hS hle hL F3 N3
 obtain ⟨ta, tb, rfl⟩ := two_named (hl.trans H.parts)
 (revert hl hS hle hL N3; revert ta tb; with_reducible refine (no_implicit_lambda% (Drk2.all (by kpf_c) ((?_ : All2 _) _ _))); refine fun ta tb => Ap2.mk ?_; intros hl hS hle hL N3)
 dsimp only [strValues, List.map_cons, List.map_nil] at N3 hL ⊢
 (repeat' ((fail_if_success with_reducible first | refine zQ1 ?_ | refine zQ2 ?_ | refine zQ3 ?_ | refine zJ ?_ | refine z1 ?_ | refine z2 ?_ | refine z3 ?_ | refine z4 ?_ | refine z5 ?_ | refine z6 ?_ | refine z7 ?_ | refine zc (by decide) ?_ | refine z9 ?_ | refine z10 ?_ | refine z11 ?_ | refine z13 ?_ | refine z14 ?_ | refine z15 ?_); (first | (k_unfold; try dsimp only) | (dsimp only; k_unfold; try dsimp only) | walk1 | (dsimp only; walk1) | fail)))
 (with_reducible rename Fr _ _ _ _ => F1); (with_reducible rename News _ _ _ _ => N1)
 first | k_dflt (refine kse_new F1 N1 ?_) | fail
 intro ds h5 led5 F5 N5 l5 _ hz
 have l6 := l5
 k_lt l6
 dsimp only
 (repeat' ((fail_if_success with_reducible first | refine zQ1 ?_ | refine zQ2 ?_ | refine zQ3 ?_ | refine zJ ?_ | refine z1 ?_ | refine z2 ?_ | refine z3 ?_ | refine z4 ?_ | refine z5 ?_ | refine z6 ?_ | refine z7 ?_ | refine zc (by decide) ?_ | refine z9 ?_ | refine z10 ?_ | refine z11 ?_ | refine z13 ?_ | refine z14 ?_ | refine z15 ?_); (first | (k_unfold; try dsimp only) | (dsimp only; k_unfold; try dsimp only) | walk1 | (dsimp only; walk1) | fail)))
 (with_reducible rename Fr _ _ _ _ => F1); (with_reducible rename News _ _ _ _ => N1)
 first | k_dflt (refine for_inv (σ := Obj) (fun _ => [(Str.ofString "prefixes_seen", .ref ds), (Str.ofString "tag", .str tag tb), (Str.ofString "uri", .str uri ta), (Str.ofString "self", .ref A.x)]) (fun so => (ds, so) :: wLed w A κ ⟨pcs, np, dat, nd, (Ls.map fun q => Value.ref q.1).toArray, nl, nss, nn, pv, nv, opm⟩ R) (fun i so => ∃ f n, so.SetObjOf (strKind rw_pg0305_01.row.prog w) f n ∧ n ≤ i ∧ (∀ p, f p = true → p ∈ (tl.take i).map (·.p)) ∧ ∀ q ∈ tl.take i, q.u ≠ uri) F1 ?_ (fun _ => rfl)) | fail
 (repeat' ((fail_if_success with_reducible first | refine zQ1 ?_ | refine zQ2 ?_ | refine zQ3 ?_ | refine zJ ?_ | refine z1 ?_ | refine z2 ?_ | refine z3 ?_ | refine z4 ?_ | refine z5 ?_ | refine z6 ?_ | refine z7 ?_ | refine zc (by decide) ?_ | refine z9 ?_ | refine z10 ?_ | refine z11 ?_ | refine z13 ?_ | refine z14 ?_ | refine z15 ?_); (first | (k_unfold; try dsimp only) | (dsimp only; k_unfold; try dsimp only) | walk1 | (dsimp only; walk1) | fail)))
 first | k_dflt (refine' method_over ?mo1 ?mo2 ?mo3 ?mo4 ?mo5 ?mo6 ?mo7 ?mo8 ?mo9 ?mo10 ?mo11 ?mo12 ?_; (case mo1 => k_asm); (case mo2 => k_asm); (case mo3 => k_inst); (case mo4 => k_is); (case mo5 => k_is); (case mo6 => k_is); (case mo7 => k_is); (case mo8 => k_is); (case mo9 => k_is); (case mo10 => k_get); (case mo11 => k_handed); (case mo12 => exact ⟨_, rfl⟩)) | fail
 dsimp only
 (repeat' ((fail_if_success with_reducible first | refine zQ1 ?_ | refine zQ2 ?_ | refine zQ3 ?_ | refine zJ ?_ | refine z1 ?_ | refine z2 ?_ | refine z3 ?_ | refine z4 ?_ | refine z5 ?_ | refine z6 ?_ | refine z7 ?_ | refine zc (by decide) ?_ | refine z9 ?_ | refine z10 ?_ | refine z11 ?_ | refine z13 ?_ | refine z14 ?_ | refine z15 ?_); (first | (k_unfold; try dsimp only) | (dsimp only; k_unfold; try dsimp only) | walk1 | (dsimp only; walk1) | fail)))
 (k_dflt (refine' Ctr.use (walk_ctr (d := 3) (u := 12) (Ls := Ls) (lk := nl) (by decide) (by decide) (.tail _ (.tail _ (.tail _ (.tail _ (.tail _ (.head _)))))) (fun q hq => .tail _ (.tail _ (V2 q hq))) (by rw [V.flat, lM]; omega) (by omega)) ?hA ?B ?F ?X ?N ?T ?kk ?hd ?hu ?_; (case hA => exact rfl); (case B => k_asm); (case F => k_asm); (case X => k_asm); (case N => k_asm); (case T => k_asm); (case kk => first | exact rfl | assumption); (case hd => allgen_close_more); (case hu => allgen_close_more)))
 rintro _ _ h6 tk6 ⟨D, rfl, rfl, hD⟩ F6 N6
 (revert hD F6 N6; revert h6 tk6 D; with_reducible refine Drk3.all (by kpf_c) ((?_ : All3 _) _ _ _); refine fun h6 tk6 D => Ap3.mk ?_; intros hD F6 N6)
 dsimp only
 (repeat' ((fail_if_success with_reducible first | refine zQ1 ?_ | refine zQ2 ?_ | refine zQ3 ?_ | refine zJ ?_ | refine z1 ?_ | refine z2 ?_ | refine z3 ?_ | refine z4 ?_ | refine z5 ?_ | refine z6 ?_ | refine z7 ?_ | refine zc (by decide) ?_ | refine z9 ?_ | refine z10 ?_ | refine z11 ?_ | refine z13 ?_ | refine z14 ?_ | refine z15 ?_); (first | (k_unfold; try dsimp only) | (dsimp only; k_unfold; try dsimp only) | walk1 | (dsimp only; walk1) | fail)))
 rw [V.flat] at N6
 have N7 : News g' L' h6 ((D, LCg.lst (tl.map fun q => Value.ref q.a)) :: (ds, _) :: wLed w A κ ⟨pcs, np, dat, nd, _, nl, nss, nn, pv, nv, opm⟩ R) := fun p hp => N6 p (by
   rcases mc hp with rfl | hp
   · exact .head _
   rcases mc hp with rfl | hp
   · exact .tail _ (.head _)
   exact .tail _ (.tail _ (.tail _ hp)))
 have hlt : ∀ p ∈ wLed w A κ ⟨pcs, np, dat, nd, _, nl, nss, nn, pv, nv, opm⟩ R, @LT.lt Nat _ p.1 ds := fun p hp => l5 p (.tail _ hp)
 have hD1 : @LT.lt Nat _ ds D := hD _ (.head _)
 have hD2 : ∀ p ∈ wLed w A κ ⟨pcs, np, dat, nd, _, nl, nss, nn, pv, nv, opm⟩ R, @LT.lt Nat _ p.1 D := fun p hp => hD p (.tail _ (.tail _ hp))
 refine source_list rfl F6 N7 (.head _) (by rw [List.size_toArray, lM]; omega) (fun i v _ _ _ _ _ hit hv q => (by obtain ⟨z, _, rfl⟩ := ref_of hv; exact wpAny_letOwnedTupleGo_listiter hit q)) fun gI I fp wr Md St Xs hfp => ⟨_, _, _, _, I, fp, wr, Md, St, _, Xs, fun p hp => .tail _ hp, ?_, ⟨_, 0, hz, Nat.le_refl _, fun _ h => absurd h (by decide), fun _ h => absurd h (by simp)⟩, ?_, ?_⟩
 · intro p hp
   rcases mc hp with rfl | hp
   · kernel_rfl
   rcases mc hp with rfl | hp
   · kernel_rfl
   rcases mc hp with rfl | hp
   · kernel_rfl
   rcases mc hp with rfl | hp
   · kernel_rfl
   cases hp
 · rintro i v c u h tk own htk hi hv ⟨f, n, hso, hn, hf, hne⟩ off hw hown Fi Ni
   (revert Xs hfp htk hi hv hso hn hf hne off hw hown Fi Ni; revert gI I fp wr Md St i v c u h tk own f n; with_reducible refine Drk8.all (by kpf_c) ((?_ : All8 _) _ _ _ _ _ _ _ _); refine fun gI I fp wr Md St i v => Ap8.mk ?_; with_reducible refine Drk7.all (by kpf_c) ((?_ : All7 _) _ _ _ _ _ _ _); refine fun c u h tk own f n => Ap7.mk ?_; intros Xs hfp htk hi hv hso hn hf hne off hw hown Fi Ni)
   clear F6 N6 N7 F1 N1
   obtain ⟨z, hz', rfl⟩ := ref_of hv
   (revert hz' hv; revert z; tb_start; refine fun z => Ap.mk ?_; intros hz' hv)
   have hzm : z ∈ tl := List.mem_of_getElem? hz'
   have hzL := V3 z hzm
   have hzd : @LT.lt Nat _ z.a ds := hlt _ hzL
   have hod : ∀ p ∈ own, p.1 ≠ ds := fun p hp => (hfp _ (hown p hp)).elim (fun e => by rw [e]; exact Nat.ne_of_gt hD1) fun h => Ne.symm (h (ds, _) (.tail _ (.head _)))
   have hRd : ∀ p ∈ R, p.1 ≠ ds := fun p hp => Nat.ne_of_lt (hlt p (.tail _ (.tail _ (.tail _ (.tail _ (.tail _ (.tail _ (.tail _ (.tail _ (.tail _ (.tail _ (.tail _ hp))))))))))))
   have Nj : News g' L' h ((z.a, z.obj) :: (ds, c) :: (wLed w A κ ⟨pcs, np, dat, nd, _, nl, nss, nn, pv, nv, opm⟩ R ++ own)) := fun p hp => by
     rcases mc hp with rfl | hp
     · exact Ni _ (.tail _ (ml _ hzL))
     exact Ni _ hp
   clear Ni
   have hzp := V.plen z hzm
   have htl : tag.length ≤ 1000 := Nat.le_trans (hle tag (by simp)) (Nat.le_trans hsl hlen)
   have hil : i < tl.length := by rw [List.size_toArray, lM] at hi; exact hi
   have hn' : n ≤ 100 := by omega
   have hfz : f z.p = false := by
     cases e : f z.p with
     | false => rfl
     | true =>
       exfalso
       obtain ⟨y, hy, ey⟩ := List.mem_map.mp (hf _ e)
       (revert hy ey; revert y; tb_start; refine fun y => Ap.mk ?_; intros hy ey)
       obtain ⟨j, hj, ej⟩ := List.mem_take_iff_getElem.mp hy
       (revert hj ej; revert j; tb_start; refine fun j => Ap.mk ?_; intros hj ej)
       have hj' : j < i := by omega
       have hzi : tl[i] = z := Option.some.inj ((List.getElem?_eq_getElem hil).symm.trans hz')
       have hne' := List.pairwise_iff_getElem.mp V.nodup j i (by rw [lM]; omega) (by rw [lM]; exact hil) hj'
       rw [List.getElem_map, List.getElem_map, hzi] at hne'
       exact hne' ((congrArg NT.p ej).trans ey)
   (repeat' ((fail_if_success with_reducible first | refine zQ1 ?_ | refine zQ2 ?_ | refine zQ3 ?_ | refine zJ ?_ | refine z1 ?_ | refine z2 ?_ | refine z3 ?_ | refine z4 ?_ | refine z5 ?_ | refine z6 ?_ | refine z7 ?_ | refine zc (by decide) ?_ | refine z9 ?_ | refine z10 ?_ | refine z11 ?_ | refine z13 ?_ | refine z14 ?_ | refine z15 ?_); (first | (k_unfold; try dsimp only) | (dsimp only; k_unfold; try dsimp only) | walk1 | (dsimp only; walk1) | fail)))
   all_goals (try (exfalso; rename (z.p.length : Int) = 0 => hx; omega))
   · rename (z.u == uri) = true => hzu
     dsimp only [FPost]
     (repeat' ((fail_if_success with_reducible first | refine zQ1 ?_ | refine zQ2 ?_ | refine zQ3 ?_ | refine zJ ?_ | refine z1 ?_ | refine z2 ?_ | refine z3 ?_ | refine z4 ?_ | refine z5 ?_ | refine z6 ?_ | refine z7 ?_ | refine zc (by decide) ?_ | refine z9 ?_ | refine z10 ?_ | refine z11 ?_ | refine z13 ?_ | refine z14 ?_ | refine z15 ?_); (first | (k_unfold; try dsimp only) | (dsimp only; k_unfold; try dsimp only) | walk1 | (dsimp only; walk1) | fail)))
     ((try (k_unfold; (try dsimp only))); k_dflt (refine' leaveK_ ?k1 ?k2 ?_; (case k1 => k_asm); (case k2 => k_asm)); intro kF kN; (try dsimp only))
     (with_reducible rename Fr _ _ _ _ => F1); (with_reducible rename News _ _ _ _ => N1)
     have hl1 : _ ∧ _ := (by with_reducible assumption : z.a < _ ∧ _)
     have N9 := drop23 (l := wLed w A κ ⟨pcs, np, dat, nd, _, nl, nss, nn, pv, nv, opm⟩ R) (own := own) N1
     refine hret _ _ _ _ (.inl ⟨z, hzm, eq_of_beq hzu, _, _, _, _, rfl, rfl, ?_⟩) F1 N9
     intro p hp
     exact allLt_mem hl1.2.2 p (ml _ hp)
   rename (z.u == uri) = false => hzu
   rename Obj.SetObjOf (strKind _ _) _ _ _ => hso2
   (with_reducible rename Fr _ _ _ _ => F1); (with_reducible rename News _ _ _ _ => N1)
   dsimp only [FPost]
   refine FEnd.intro (c' := _) F1 N1 ?_ ?_ ?_ ?_ ⟨_, _, hso2, ?_, ?_, ?_⟩
   · intro p hp
     rcases mc hp with rfl | hp
     · exact .tail _ (.head _)
     exact .tail _ (.tail _ (ml own hp))
   · exact fun p hp => .tail _ (.tail _ (mr (wLed w A κ ⟨pcs, np, dat, nd, _, nl, nss, nn, pv, nv, opm⟩ R) hp))
   · intro p hp b hb
     rcases mc hp with rfl | hp
     · exact off (ds, c) (.head _) b hb
     exact off p (.tail _ hp) b hb
   · intro p hp
     rcases mc hp with rfl | hp
     · kernel_rfl
     rcases mc hp with rfl | hp
     · kernel_rfl
     rcases mc hp with rfl | hp
     · kernel_rfl
     rcases mc hp with rfl | hp
     · kernel_rfl
     cases hp
   · rw [hfz]; simp only [Bool.false_eq_true, if_false]; omega
   · intro p hp
     rw [List.take_add_one, hz', List.map_append]
     rcases Bool.or_eq_true_iff.mp hp with hp | hp
     · exact ml _ (hf p hp)
     exact mr _ (by rw [of_decide_eq_true hp]; exact .head _)
   intro q hq
   rw [List.take_add_one, hz'] at hq
   rcases ma hq with hq | hq
   · exact hne q hq
   rcases ms hq with rfl
   intro e; rw [e] at hzu; simp at hzu
 rintro c u h tk htk ⟨f, n, hso, hn, hf, hne⟩ Fi Ni
 (revert Xs hfp htk hso hn hf Fi Ni; revert gI I fp wr Md St c u h tk f n; with_reducible refine Drk6.all (by kpf_c) ((?_ : All6 _) _ _ _ _ _ _); refine fun gI I fp wr Md St => Ap6.mk ?_; with_reducible refine Drk6.all (by kpf_c) ((?_ : All6 _) _ _ _ _ _ _); refine fun c u h tk f n => Ap6.mk ?_; intros Xs hfp htk hso hn hf Fi Ni)
 have hall : ∀ q ∈ tl, q.u ≠ uri := fun q hq => hne q (by rw [List.take_of_length_le (by simp)]; exact hq)
 obtain ⟨hpm, hfl, hku, hkl, hkk, hR, hLs, hxs, hsm, hdl⟩ := hN hall
 dsimp only at hpm
 clear F6 N6 N7 F1 N1
 have hRd : ∀ p ∈ R, p.1 ≠ ds := fun p hp => Nat.ne_of_lt (hlt p (.tail _ (.tail _ (.tail _ (.tail _ (.tail _ (.tail _ (.tail _ (.tail _ (.tail _ (.tail _ (.tail _ hp))))))))))))
 subst hR hLs
 (repeat' ((fail_if_success with_reducible first | refine zQ1 ?_ | refine zQ2 ?_ | refine zQ3 ?_ | refine zJ ?_ | refine z1 ?_ | refine z2 ?_ | refine z3 ?_ | refine z4 ?_ | refine z5 ?_ | refine z6 ?_ | refine z7 ?_ | refine zc (by decide) ?_ | refine z9 ?_ | refine z10 ?_ | refine z11 ?_ | refine z13 ?_ | refine z14 ?_ | refine z15 ?_); (first | (k_unfold; try dsimp only) | (dsimp only; k_unfold; try dsimp only) | walk1 | (dsimp only; walk1) | fail)))
 · exfalso
   rename (Spec.lookup _ _).isSome = true => hx
   rw [hku] at hx
   cases hx
 have htl : tag.length ≤ 1000 := Nat.le_trans (hle tag (by simp)) (Nat.le_trans hsl hlen)
 have hnl : (Str.ofString (toString (D₀.length : Int))).length ≤ 3 := (by decide +kernel : ∀ n : Fin 101, (Str.ofString (toString ((n.val : Nat) : Int))).length ≤ 3) ⟨D₀.length, by omega⟩
 (with_reducible rename Fr _ _ _ _ => F1); (with_reducible rename News _ _ _ _ => N1)
 first | k_dflt (refine' setItem_K PyProof.V.same_str (strKind_is _ _ _ _) ?si1 ?si2 ?si3 ?si4 ?si5 ?si6 ?_ ?si7; (case si1 => k_flat); (case si2 => exact F1); (case si3 => exact N1); (case si4 => k_updF); (case si5 => exact hpm); (case si6 => exact hfl); (case si7 => omega)) | fail
 intro h8 opm8 F8 N8 hpm8 hfl8
 dsimp only at N8 ⊢
 have hdd : @Ne Nat dl ds := hRd _ (.head _)
 have hdo : @LT.lt Nat _ dl A.pc ∨ @LT.lt Nat _ A.ps dl := o2 _ (.head _)
 (repeat' ((fail_if_success with_reducible first | refine zQ1 ?_ | refine zQ2 ?_ | refine zQ3 ?_ | refine zJ ?_ | refine z1 ?_ | refine z2 ?_ | refine z3 ?_ | refine z4 ?_ | refine z5 ?_ | refine z6 ?_ | refine z7 ?_ | refine zc (by decide) ?_ | refine z9 ?_ | refine z10 ?_ | refine z11 ?_ | refine z13 ?_ | refine z14 ?_ | refine z15 ?_ | refine z16 ?_ | refine z17 ?_); (first | (k_unfold; try dsimp only) | (dsimp only; k_unfold; try dsimp only) | walk1 | (dsimp only; walk1) | fail)))
 first | k_dflt (refine' kim_back (lo := listOf ((Ls' ++ [(dl, xs, xk)]).map fun q => Value.ref q.1).toArray nl) (l := (Ls' ++ [(dl, xs, xk)]).map fun q => Value.ref q.1) (x := .ref dl) ?kb1 ?kb2 rfl rfl (by decide) ?kb3 (by decide) ?kb4 ?_; (case kb1 => k_asm); (case kb2 => k_mem); (case kb3 => (rw [lM, lA, List.length_singleton]; omega)); (case kb4 => (rw [List.map_append, lA, lM, lM, List.length_singleton, show ((-1 : Int) + ((Ls'.length + 1 : Nat) : Int)).toNat = Ls'.length from by omega, List.getElem?_append_right (by rw [lM]; exact Nat.le_refl _), lM, Nat.sub_self]; rfl))) | fail
 dsimp only
 (repeat' ((fail_if_success with_reducible first | refine zQ1 ?_ | refine zQ2 ?_ | refine zQ3 ?_ | refine zJ ?_ | refine z1 ?_ | refine z2 ?_ | refine z3 ?_ | refine z4 ?_ | refine z5 ?_ | refine z6 ?_ | refine z7 ?_ | refine zc (by decide) ?_ | refine z9 ?_ | refine z10 ?_ | refine z11 ?_ | refine z13 ?_ | refine z14 ?_ | refine z15 ?_ | refine z16 ?_ | refine z17 ?_); (first | (k_unfold; try dsimp only) | (dsimp only; k_unfold; try dsimp only) | walk1 | (dsimp only; walk1) | fail)))
 (with_reducible rename Fr _ _ _ _ => F1); (with_reducible rename News _ _ _ _ => N1)
 first | k_dflt (refine' append_K ?ap1 ?ap2 ?ap3 ?_ ?ap4; (case ap1 => exact F1); (case ap2 => exact N1); (case ap3 => k_upd); (case ap4 => omega)) | fail
 intro h9 F9 N9
 dsimp only at N9 ⊢
 (repeat' ((fail_if_success with_reducible first | refine zQ1 ?_ | refine zQ2 ?_ | refine zQ3 ?_ | refine zJ ?_ | refine z1 ?_ | refine z2 ?_ | refine z3 ?_ | refine z4 ?_ | refine z5 ?_ | refine z6 ?_ | refine z7 ?_ | refine zc (by decide) ?_ | refine z9 ?_ | refine z10 ?_ | refine z11 ?_ | refine z13 ?_ | refine z14 ?_ | refine z15 ?_ | refine z16 ?_ | refine z17 ?_); (first | (k_unfold; try dsimp only) | (dsimp only; k_unfold; try dsimp only) | walk1 | (dsimp only; walk1) | fail)))
 ((try (k_unfold; (try dsimp only))); k_dflt (refine' leaveK_ ?k1 ?k2 ?_; (case k1 => k_asm); (case k2 => k_asm)); intro kF kN; (try dsimp only))
 (with_reducible rename Fr _ _ _ _ => F1); (with_reducible rename News _ _ _ _ => N1)
 have hl1 : _ ∧ _ := (by with_reducible assumption : ds < _ ∧ AllLt _ _)
 refine hret _ _ _ _ (.inr ⟨hall, _, _, opm8, _, _, _, _, _, _, rfl, hpm8, hfl8, rfl, ?_, ?_⟩) F1 (drop3 N1)
 · intro p hp
   exact allLt_mem (by exact hl1.2) p hp
 refine ltN ?_
 omega
theorem qname_oldC {w : World} {d u : Nat} {A : WA} {κ : WT} {S : WL} {R : Led} (hd : 10 ≤ d) (hu : 40 ≤ u) (O : A.Ord R) {qs uri tag : Str} (H : QN qs uri tag) (t : Tok)
   {Ls : List (Addr × Array Value × Nat)} {tl : List NT} (V : NSt (wLed w A κ S R) S.lv Ls tl) (hin : ∃ q ∈ tl, q.u = uri) :
   CtrC w 90 d u (wLed w A κ S R) [.ref A.x, .str qs t] (fun v l => ∃ q ∈ tl, q.u = uri ∧ ∃ D t1 t2 t3, v = .ref D ∧ l = (D, trip (Str.empty ++ q.p ++ Str.ofString ":" ++ tag) tag uri t1 t2 t3) :: wLed w A κ S R ∧ ∀ p ∈ wLed w A κ S R, p.1 < D) := by
 refine (qname_bothC hd hu O H t V (kvs := []) (D₀ := []) (dl := 0) (xs := #[]) (xk := 0) (R' := []) (Ls' := []) fun h => ?_).mono fun v l h => ?_
 · obtain ⟨q, hq, e⟩ := hin
   exact absurd e (h q hq)
 rcases h with h | ⟨h, _⟩
 · exact h
 obtain ⟨q, hq, e⟩ := hin
 exact absurd e (h q hq)
theorem qname_newC {w : World} {d u : Nat} {A : WA} {κ : WT} {S : WL} {R : Led} (hd : 10 ≤ d) (hu : 40 ≤ u) (O : A.Ord R) {qs uri tag : Str} (H : QN qs uri tag) (t : Tok)
   {Ls : List (Addr × Array Value × Nat)} {tl : List NT} (V : NSt (wLed w A κ S R) S.lv Ls tl) (hnew : ∀ q ∈ tl, q.u ≠ uri)
   {kvs : List (Str × Value)} {D₀ : List (PyData × PyData)} (hpm : S.opm.IsDictOf (strKind rw_pg0305_01.row.prog w) kvs) (hfl : PyProof.V.FlatPairs PyData.str kvs D₀) (hku : Spec.lookup (PyData.str uri) D₀ = none) (hkl : D₀.length ≤ 100) (hkk : kvs.length = D₀.length)
   {dl : Addr} {xs : Array Value} {xk : Nat} {R' : Led} {Ls' : List (Addr × Array Value × Nat)} (hR : R = (dl, listOf xs xk) :: R') (hLs : Ls = Ls' ++ [(dl, xs, xk)]) (hxs : xs.size ≤ 100) (hsm : (A.pm == sysModules) = false) (hdl : ∀ p ∈ R', p.1 ≠ dl) :
   CtrC w 90 d u (wLed w A κ S R) [.ref A.x, .str qs t] (QNew w A κ S R' tag uri D₀ dl xs xk) := by
 refine (qname_bothC hd hu O H t V fun _ => ⟨hpm, hfl, hku, hkl, hkk, hR, hLs, hxs, hsm, hdl⟩).mono fun v l h => ?_
 rcases h with ⟨q, hq, e, _⟩ | ⟨_, h⟩
 · exact absurd e (hnew q hq)
 exact h
theorem data_ctr {w : World} {d u : Nat} {A : WA} {κ : WT} {S : WL} {R : Led} (hd : 4 ≤ d) (hu : 20 ≤ u) (O : A.Ord R) (y : Str) (t : Tok) (hs : S.dat.size ≤ 100) :
   Ctr w 97 d u (wLed w A κ S R) [.ref A.x, .str y t] (fun v l => v = .none ∧ l = wLed w A κ { S with dat := S.dat.push (.str y t), nd := S.nd + 1 } R) := by
 w_top off
 obtain ⟨pcs, np, dat, nd, lv, nl, nss, nn, pv, nv, opm⟩ := S
 dsimp only at hs ⊢
 (revert hd hu O hs; revert w d u A κ R y t pcs np dat nd lv nl nss nn pv nv opm; with_reducible refine (no_implicit_lambda% (Drk7.all (by kpf_c) ((?_ : All7 _) _ _ _ _ _ _ _))); refine fun w d u A κ R y => Ap7.mk ?_; with_reducible refine (no_implicit_lambda% (Drk7.all (by kpf_c) ((?_ : All7 _) _ _ _ _ _ _ _))); refine fun t pcs np dat nd lv nl => Ap7.mk ?_; with_reducible refine (no_implicit_lambda% (Drk5.all (by kpf_c) ((?_ : All5 _) _ _ _ _ _))); refine fun nss nn pv nv opm => Ap5.mk ?_; intros hd hu O hs)
 (refine Ctr.open ?_; generalize Ctr.cs _ _ _ _ _ _ _ = bCS; unfold Ctr.At; generalize bCS.p = p, bCS.loose = loose, bCS.mean = mean, bCS.mg = mg, bCS.mb = mb, bCS.dp = dp, bCS.un = un, bCS.gd = gd, bCS.cn = cn, bCS.cs = cs, bCS.a = a, bCS.ccd = ccd, bCS.cl = cl, bCS.outer = outer, bCS.A₀ = A₀, bCS.base = base, bCS.h₀ = h₀, bCS.L = L, bCS.m = m, bCS.s = s, bCS.Q = Q, bCS.E = E; clear bCS; intros St hret; obtain ⟨B, F, X, N, T, hk, hdp, hup⟩ := St; revert X; k_fill; intro X; refine wpAny_call ?_)
 (k_dflt (refine' code_def ?k1 ?k2 ?k3 ?k4 ?k5 ?kA ?kF ?kK ?k6 ?k7 ?k8 ?k9 ?kB ?_ ?c2 ?c3 ?c4 ?c5; (case kA => exact rfl); (case kF => exact rfl); (case kK => assumption); (case k1 => k_asm); (case k2 => k_asm); (case k3 => k_asm); (case k4 => k_asm); (case k5 => k_asm); (case k6 => k_is); (case k7 => k_is); (case k8 => first | allgen_close_more | (simp only [depth_in1, depth_deeper] at *; omega)); (case k9 => first | exact BindsTo.of_eq rfl | exact binds_K (by k_in) rfl (by k_is) rfl rfl rfl); (case c5 => decide); (case kB => exact locs rfl); (case c2 => exact rfl); (case c3 => exact rfl); (case c4 => exact rfl); k_whole; intro g' L' h' FG' F' N' B' X' T'); (try dsimp only); (refine wp_noE ?_); (refine wp_toks ?_); intro tk0; (try dsimp only); (try k_fold))
 replace F' : Fr g' L' h' (fun y' => List.lookup y' [(Str.ofString "data", .str y t), (Str.ofString "self", .ref A.x)]) := fr_eq F' (by kernel_rfl)
 (repeat' ((fail_if_success with_reducible first | refine zQ1 ?_ | refine zQ2 ?_ | refine zQ3 ?_ | refine zJ ?_ | refine z1 ?_ | refine z2 ?_ | refine z3 ?_ | refine z4 ?_ | refine z5 ?_ | refine z6 ?_ | refine z7 ?_ | refine zc (by decide) ?_ | refine z9 ?_ | refine z10 ?_ | refine z11 ?_ | refine z13 ?_ | refine z14 ?_ | refine z15 ?_ | refine z16 ?_ | refine z17 ?_); (first | (k_unfold; try dsimp only) | (dsimp only; k_unfold; try dsimp only) | walk1 | (dsimp only; walk1) | fail)))
 (with_reducible rename Fr _ _ _ _ => F1); (with_reducible rename News _ _ _ _ => N1)
 first | k_dflt (refine' append_K ?ap1 ?ap2 ?ap3 ?_ ?ap4; (case ap1 => exact F1); (case ap2 => exact N1); (case ap3 => k_upd); (case ap4 => (have : 100 ≤ sizeLine := by decide); omega)) | fail
 intro h9 F9 N9
 dsimp only at N9 ⊢
 (repeat' ((fail_if_success with_reducible first | refine zQ1 ?_ | refine zQ2 ?_ | refine zQ3 ?_ | refine zJ ?_ | refine z1 ?_ | refine z2 ?_ | refine z3 ?_ | refine z4 ?_ | refine z5 ?_ | refine z6 ?_ | refine z7 ?_ | refine zc (by decide) ?_ | refine z9 ?_ | refine z10 ?_ | refine z11 ?_ | refine z13 ?_ | refine z14 ?_ | refine z15 ?_ | refine z16 ?_ | refine z17 ?_); (first | (k_unfold; try dsimp only) | (dsimp only; k_unfold; try dsimp only) | walk1 | (dsimp only; walk1) | fail)))
 ((try (k_unfold; (try dsimp only))); k_dflt (refine' leaveK_ ?k1 ?k2 ?_; (case k1 => k_asm); (case k2 => k_asm)); intro kF kN; (try dsimp only))
 exact hret _ _ _ _ ⟨rfl, rfl⟩ kF kN
section
open PySem.Calls
noncomputable abbrev bndJoin (e : Str) (te : Tok) : Obj := { cls := .type "builtin_function_or_method", data := .fields #[.builtin "str.join", .str e te] }
theorem check_join {e : Str} {te : Tok} {D : Addr} : checkBoundCall "str.join" ⟨[.str e te, .ref D], []⟩ = pure () := by first | kernel_rfl | rfl
theorem call_bndJoin {prog : Program} {w : World} {A : Around} {E : Value → Shared → Prop} {s : Shared} {q D : Addr} {e : Str} {te : Tok} {l : List (Str × Tok)} {Q : Value → Shared → Prop}
   (hq : s.heap.get? q = some (bndJoin e te)) (hl : s.heap.IsList D (strValues l).toArray) (hok : JoinOk e (l.map (·.1)) = true) (h : ∀ t' k, Q (.str (Txt.join e (l.map (·.1))) t') { s with toks := k }) :
   wpAny (model prog w) A (call (.ref q) [.ref D]) Q E s := by
 unfold JoinOk at hok
 rw [Bool.not_eq_true'] at hok
 refine wpAny_call (codeAny_of_tree ?_)
 show wpAny _ A.in1 (callAny (.ref q) ⟨[.ref D], []⟩) _ _ s
 simp only [callAny]
 refine wpAny_bind (wpAny_load hq ?_)
 simp only [bndJoin, show (Value.type "builtin_function_or_method" == Value.type "method" || Value.type "builtin_function_or_method" == Value.type "builtin_function_or_method" || Value.type "builtin_function_or_method" == Value.type "method-wrapper") = true by decide, if_true]
 refine iteT (by decide) ?_
 refine wpAny_bind (wpAny_of_eq check_join ?_)
 refine wpAny_bind (wpAny_pure (wpAny_pure ?_))
 exact ⟨Code.quiet_builtin _ (by decide +kernel), codeAny_builtin F.entry_str_join (meets_str_join_list e te D l hok prog w A (wants Q E) s ⟨hl, post_join l ⟨joinFit_length hok, h⟩⟩)⟩
theorem callWith_bndJ {prog : Program} {w : World} {A : Around} {E : Value → Shared → Prop} {s : Shared} {pos : Pos} {q : Addr} {je : Str} {jt : Tok} {env : Env} {e : Expr} {Q : Value → Shared → Prop}
   (h : wpAny (model prog w) A (eval e env) (fun v s₁ => s₁.heap.get? q = some (bndJoin je jt) ∧ wpAny (model prog w) A (call (.ref q) [v]) Q E s₁) E s)
   (hplain : backTo pos (starEach [e] env) = [(false, eval e env)] := by rfl) :
   wpAny (model prog w) A (callWith pos (.ref q) [] (backTo pos (starEach [e] env)) []) Q E s := by
 rw [hplain]
 unfold callWith
 refine wpAny_bind (wpAny_holding (wpAny_mono (PySem.Calls.evalArgs_plain (PySem.Calls.spliced_cons (wpAny_mono h (fun v s₁ h₁ => ?_) fun _ _ x => x)) (Q := fun x s₁ => s₁.heap.get? q = some (bndJoin je jt) ∧ wpAny (model prog w) A (call (.ref q) x.pos x.kw) Q E s₁)) (fun x s₁ h₁ => wpAny_bind (wpAny_standAt ?_)) fun _ _ x => x))
 · exact PySem.Calls.spliced_nil h₁
 obtain ⟨ho, hcall⟩ := h₁
 simp only [show [(false, eval e env)].any (·.1) = false from rfl, List.any_nil, Bool.or_false]
 refine wpAny_bind (m := keeperOf (.ref q)) ?_
 unfold keeperOf
 refine wpAny_bind (wpAny_load ho ?_)
 simp only [bndJoin, show (Value.type "builtin_function_or_method" != Value.type "method") = true by decide, show (Value.type "builtin_function_or_method" == Value.type "builtin_function_or_method" || Value.type "builtin_function_or_method" == Value.type "method-wrapper") = true by decide, if_true]
 refine wpAny_pure ?_
 exact wpAny_bind (wpAny_mono hcall (fun r s₂ hr => wpAny_bind (wpAny_holding (wpAny_point (wpAny_pure hr)))) fun _ _ x => x)
end
section
open PySem.Calls
theorem del_all1 {prog : Program} {w : World} {A : Around} {E : Value → Shared → Prop} {s : Shared} {h₀ : Heap} {L D sl : Addr} {m : Str → Option Value} {news news' : Led} {v : Value} {n : Nat} {Q : Unit → Shared → Prop}
   (F : Fr h₀ L s.heap m) (N : News h₀ L s.heap news) (U : Upd D (listOf #[v] n) (listOf #[] (n + 1)) news news') (hs : s.heap.IsSliceOf sl .none .none .none) (h : ∀ h', Fr h₀ L h' m → News h₀ L h' news' → Q () { s with heap := h' }) :
   wpAny (model prog w) A (delItem (.ref D) (.ref sl)) Q E s := by
 obtain ⟨pre, post, rfl, rfl, a, b⟩ := U.split
 have z := N (D, listOf #[v] n) (List.mem_append.mpr (.inr (.head _)))
 have ho : s.heap.get? D = some (listOf #[v] n) := z.1
 obtain ⟨os, hos, hcs, hds⟩ := id hs
 have hTs : s.TypeIs (.ref sl) "slice" := ⟨os, hos, hcs⟩
 have hT : s.TypeIs (.ref D) "list" := ⟨_, ho, rfl⟩
 refine wpAny_delItem_slot hT (by decide) PySem.F.slot_list_delitem (wpAny_call_entry PySem.F.slot_list_delitem hT PySem.F.entry_list_delitem ?_ (PySem.F.args_list_delitem_2 _ _))
 show wpAny _ _ (Builtin.List.listSubscript? (.ref sl) >>= _) _ _ s
 refine wpAny_bind ?_
 unfold Builtin.List.listSubscript?
 refine wpAny_bind (wpAny_specialOf hTs slice_no_index ?_)
 simp only [Option.isNone_none, if_true]
 refine wpAny_pure ?_
 show wpAny _ _ (typeOf (.ref sl) >>= _) _ _ s
 refine wpAny_bind (wpAny_typeOf hTs ?_)
 rw [if_neg (by decide), listSliceParts_eq]
 refine wpAny_bind (wpAny_bind (wpAny_field hos hds (x := .none) rfl (wpAny_bind (wpAny_listPart .none ?_))))
 rw [if_neg (show ¬ ((rawPart none == rawInt 0) = true) from Bool.false_ne_true)]
 refine wpAny_bind (wpAny_field hos hds (x := .none) rfl (wpAny_bind (wpAny_listPart .none ?_)))
 refine wpAny_bind (wpAny_field hos hds (x := .none) rfl (wpAny_bind (wpAny_listPart .none (wpAny_pure ?_))))
 refine wpAny_bind (m := Builtin.List.listItems (.ref D)) ?_
 unfold Builtin.List.listItems
 refine wpAny_bind (wpAny_seqItems ho rfl (wpAny_pure ?_))
 refine wpAny_bind (wpAny_of_eq (sliceIndices_raw none none none 1 (by simp)) ?_)
 dsimp only
 refine wpAny_bind (wpAny_rule ?_)
 refine wpAny_bind (listUpdate_at ho rfl ?_ (show 1 ≤ sizeLine by decide) (Nat.zero_le _))
 refine wpAny_bind (wpAny_letGo ?_)
 refine wpAny_pure ⟨_, rfl, ?_⟩
 exact h _ (F.change (Heap.SameBut.update ..) z.2.1 z.2.2) (ki_turn _ N a b (by rfl) (by rfl))
theorem del_all1P {prog : Program} {w : World} {A : Around} {E : Value → Shared → Prop} {s : Shared} {h₀ : Heap} {L D : Addr} {m : Str → Option Value} {news news' : Led} {v : Value} {n : Nat} {Q : Unit → Shared → Prop}
   (F : Fr h₀ L s.heap m) (N : News h₀ L s.heap news) (U : Upd D (listOf #[v] n) (listOf #[] (n + 1)) news news') (h : ∀ h', Fr h₀ L h' m → News h₀ L h' news' → Q () { s with heap := h' }) :
   wpAny (model prog w) A (delItem (.ref D) (.ref s.heap.objs.size)) Q E { s with heap := s.heap.push { cls := .type "slice", data := .fields #[.none, .none, .none] } } :=
 del_all1 (s := { s with heap := s.heap.push { cls := .type "slice", data := .fields #[.none, .none, .none] } }) (F.push _) (N.grown fun _ _ e => Heap.get?_push_of_some _ e) U (Heap.IsSliceOf.new _ _ _ _) h
end
def KOk {α : Type} (lt : Nat → Nat → Bool) (n : Nat) : KasT α → (α → Prop) → Prop
 | .ret a, Q => Q a
 | .ask i j k, Q => i < n ∧ j < n ∧ KOk lt n (k (lt i j)) Q
section
variable {lt : Nat → Nat → Bool} {n : Nat}
theorem KOk.bind {α β : Type} {f : α → KasT β} {Q : β → Prop} : ∀ {t : KasT α}, KOk lt n t (fun a => KOk lt n (f a) Q) → KOk lt n (t.bind f) Q
 | .ret _, h => h
 | .ask _ _ _, h => ⟨h.1, h.2.1, KOk.bind h.2.2⟩
theorem KOk.mono {α : Type} {Q Q' : α → Prop} (hq : ∀ a, Q a → Q' a) : ∀ {t : KasT α}, KOk lt n t Q → KOk lt n t Q'
 | .ret _, h => hq _ h
 | .ask _ _ _, h => ⟨h.1, h.2.1, KOk.mono hq h.2.2⟩
theorem KOk.wp {α : Type} {cmp : Nat → Nat → (Bool → Shared → Prop) → Shared → Prop} {I : Shared → Prop} (hc : ∀ i j C s, i < n → j < n → I s → (∀ s', I s' → C (lt i j) s') → cmp i j C s) {P : α → Prop} {Q : α → Shared → Prop} (hQ : ∀ a s', P a → I s' → Q a s') :
   ∀ {t : KasT α} {s : Shared}, KOk lt n t P → I s → t.kasWp cmp Q s
 | .ret a, s, h, hI => hQ a s h hI
 | .ask i j k, s, h, hI => hc i j _ s h.1 h.2.1 hI fun s' hI' => KOk.wp hc hQ h.2.2 hI'
structure SLt (lt : Nat → Nat → Bool) (n : Nat) : Prop where
 trans : ∀ i j k, i < n → j < n → k < n → lt i j = true → lt j k = true → lt i k = true
 tri : ∀ i j, i < n → j < n → i ≠ j → lt i j = false → lt j i = true
 asym : ∀ i j, i < n → j < n → lt i j = true → lt j i = false
def PermR (n : Nat) (p : Array Nat) : Prop := p.toList.Perm (List.range n)
def AscTo (lt : Nat → Nat → Bool) (p : Array Nat) (k : Nat) : Prop := ∀ i j, i < j → j < k → lt (p.getD i 0) (p.getD j 0) = true
theorem PermR.size {p : Array Nat} (h : PermR n p) : p.size = n := by
 have := h.length_eq; rw [List.length_range, Array.length_toList] at this; exact this
theorem getD_some {p : Array Nat} {i : Nat} (hi : i < p.size) : p[i]? = some (p.getD i 0) := by simp [Array.getD, hi]
theorem PermR.lq {p : Array Nat} (h : PermR n p) {i : Nat} (hi : i < n) : p.getD i 0 < n := by
 have hs := h.size
 have : p.getD i 0 ∈ p.toList := by
   have e := getD_some (p := p) (i := i) (by omega)
   rw [← Array.getElem?_toList] at e
   exact List.mem_of_getElem? e
 exact List.mem_range.mp (h.mem_iff.mp this)
theorem PermR.ne {p : Array Nat} (h : PermR n p) {i j : Nat} (hi : i < n) (hj : j < n) (hij : i ≠ j) : p.getD i 0 ≠ p.getD j 0 := by
 have hs := h.size
 have nd : p.toList.Nodup := h.nodup_iff.mpr List.nodup_range
 rintro e
 have e1 := getD_some (p := p) (i := i) (by omega)
 have e2 := getD_some (p := p) (i := j) (by omega)
 rw [← Array.getElem?_toList] at e1 e2
 rw [e, ← e2] at e1
 exact hij ((List.getElem?_inj (by rw [Array.length_toList]; omega) nd).mp e1)
theorem getD_of_eq {p q : Array Nat} {i j : Nat} (h : p[i]? = q[j]?) : p.getD i 0 = q.getD j 0 := by
 rw [Array.getD_eq_getD_getElem?, Array.getD_eq_getD_getElem?, h]
theorem rev_getD {p : Array Nat} {m : Nat} (hm : m ≤ p.size) {k : Nat} (hk : k < m) : (kas_rev p 0 m).getD k 0 = p.getD (m - 1 - k) 0 := by
 have e := getElem?_mirror_all (xs := p) (i := 0) hm k
 rw [if_pos ⟨Nat.zero_le _, hk⟩] at e
 have := getD_of_eq e
 rw [show 0 + m - 1 - k = m - 1 - k by rw [Nat.zero_add]] at this
 exact this
theorem asc_ok (S : SLt lt n) {p : Array Nat} (hp : PermR n p) : ∀ (f m : Nat), 1 ≤ m → m + f = n → AscTo lt p m → KOk lt n (kas_asc p f m) fun r => m ≤ r ∧ r ≤ n ∧ AscTo lt p r ∧ (r < n → lt (p.getD r 0) (p.getD (r - 1) 0) = true)
 | 0, m, h1, hf, ha => ⟨Nat.le_refl _, by omega, ha, fun h => by omega⟩
 | f + 1, m, h1, hf, ha => by
   have hm : m < n := by omega
   refine ⟨hp.lq hm, hp.lq (by omega), ?_⟩
   dsimp only
   cases hc : lt (p.getD m 0) (p.getD (m - 1) 0) with
   | true => rw [if_pos rfl]; exact ⟨Nat.le_refl _, by omega, ha, fun _ => hc⟩
   | false =>
     rw [if_neg Bool.false_ne_true]
     have ht := S.tri _ _ (hp.lq hm) (hp.lq (by omega)) (hp.ne hm (by omega) (by omega)) hc
     refine KOk.mono (fun r hr => ⟨by omega, hr.2⟩) (asc_ok S hp f (m + 1) (by omega) (by omega) fun i j hij hj => ?_)
     by_cases hjm : j < m
     · exact ha i j hij hjm
     have : j = m := by omega
     subst this
     by_cases him : i = j - 1
     · subst him; exact ht
     exact S.trans _ _ _ (hp.lq (by omega)) (hp.lq (by omega)) (hp.lq (by omega)) (ha i (j - 1) (by omega) (by omega)) ht
theorem desc_ok (S : SLt lt n) {p : Array Nat} (hp : PermR n p) : ∀ (f m : Nat), 1 ≤ m → m + f = n → (∀ i j, i < j → j < m → lt (p.getD j 0) (p.getD i 0) = true) →
   KOk lt n (kas_desc f p m 0) fun r => r.1 = p ∧ m ≤ r.2.1 ∧ r.2.1 ≤ n ∧ r.2.2 = 0 ∧ ∀ i j, i < j → j < r.2.1 → lt (p.getD j 0) (p.getD i 0) = true
 | 0, m, h1, hf, ha => ⟨rfl, Nat.le_refl _, by dsimp only; omega, rfl, ha⟩
 | f + 1, m, h1, hf, ha => by
   have hm : m < n := by omega
   refine ⟨hp.lq hm, hp.lq (by omega), ?_⟩
   dsimp only
   cases hc : lt (p.getD m 0) (p.getD (m - 1) 0) with
   | true =>
     rw [if_pos rfl, if_neg (Nat.lt_irrefl 0)]
     refine KOk.mono (fun r hr => ⟨hr.1, by omega, hr.2.2⟩) (desc_ok S hp f (m + 1) (by omega) (by omega) fun i j hij hj => ?_)
     by_cases hjm : j < m
     · exact ha i j hij hjm
     have : j = m := by omega
     subst this
     by_cases him : i = j - 1
     · subst him; exact hc
     exact S.trans _ _ _ (hp.lq (by omega)) (hp.lq (by omega)) (hp.lq (by omega)) hc (ha i (j - 1) (by omega) (by omega))
   | false =>
     rw [if_neg Bool.false_ne_true]
     have ht := S.tri _ _ (hp.lq hm) (hp.lq (by omega)) (hp.ne hm (by omega) (by omega)) hc
     refine ⟨hp.lq (by omega), hp.lq hm, ?_⟩
     dsimp only
     rw [ht, if_pos rfl]
     exact ⟨rfl, Nat.le_refl _, by dsimp only; omega, rfl, ha⟩
theorem rev_perm {p : Array Nat} (hp : PermR n p) (i j : Nat) : PermR n (kas_rev p i j) :=
 (Array.perm_iff_toList_perm.mp (mirror_perm p i j _)).trans hp
theorem tail3_ok (S : SLt lt n) {p : Array Nat} (hp : PermR n p) {m : Nat} (h1 : 1 ≤ m) (hm : m ≤ n) (hd : ∀ i j, i < j → j < m → lt (p.getD j 0) (p.getD i 0) = true) :
   KOk lt n (kas_tail3 m n p) fun r => PermR n r.2 ∧ 1 ≤ r.1 ∧ r.1 ≤ n ∧ AscTo lt r.2 r.1 := by
 have hs := hp.size
 refine KOk.bind (KOk.mono (fun r hr => ?_) (asc_ok S (rev_perm hp 0 m) (n - m) m h1 (by first | exact Nat.add_sub_of_le (by assumption) | omega) fun i j hij hj => ?_))
 · exact ⟨rev_perm hp 0 m, by dsimp only; omega, hr.2.1, hr.2.2.1⟩
 rw [rev_getD (by omega) (by omega), rev_getD (by omega) (by omega)]
 exact hd _ _ (by first | exact Nat.sub_lt_sub_left (by omega) hij | omega) (by first | exact Nat.lt_of_le_of_lt (Nat.sub_le _ _) (Nat.sub_lt (by omega) Nat.zero_lt_one) | omega)
theorem count_ok (S : SLt lt n) {p : Array Nat} (hp : PermR n p) (h1 : 1 ≤ n) : KOk lt n (kas_count n p) fun r => PermR n r.2 ∧ 1 ≤ r.1 ∧ r.1 ≤ n ∧ AscTo lt r.2 r.1 := by
 refine KOk.bind (KOk.mono (fun m hm => ?_) (asc_ok S hp (n - 1) 1 (Nat.le_refl _) (by first | exact Nat.add_sub_of_le (by assumption) | omega) fun i j hij hj => by omega))
 obtain ⟨a, b, c, d⟩ := hm
 by_cases e1 : (m == n) = true
 · rw [if_pos e1]; exact ⟨hp, a, b, c⟩
 rw [if_neg e1]
 have hlt : m < n := by
   have : m ≠ n := fun q => e1 (by rw [q]; exact beq_self_eq_true _)
   omega
 by_cases e2 : m > 1
 · rw [if_pos e2]
   refine ⟨hp.lq (by omega), hp.lq (by omega), ?_⟩
   dsimp only
   rw [c 0 (m - 1) (by omega) (by omega), if_pos rfl]
   exact ⟨hp, a, b, c⟩
 rw [if_neg e2]
 have : m = 1 := by omega
 subst this
 refine KOk.bind (KOk.mono (fun r hr => ?_) (desc_ok S hp (n - (1 + 1)) (1 + 1) (by omega) (by first | exact Nat.add_sub_of_le (by omega) | omega) fun i j hij hj => ?_))
 · obtain ⟨r1, r2, r3⟩ := r
   dsimp only at hr ⊢
   obtain ⟨rfl, h2, h3, rfl, h5⟩ := hr
   rw [if_neg (Nat.lt_irrefl 0)]
   exact tail3_ok S hp (by omega) h3 h5
 have : i = 0 := by omega
 have : j = 1 := by omega
 subst i; subst j
 exact d hlt
theorem mid_l {l r f : Nat} (h : l < r) (hf : r - l ≤ f + 1) : (l + r) / 2 - l ≤ f :=
 Nat.sub_le_of_le_add (Nat.le_of_lt_succ (Nat.lt_of_lt_of_le (Nat.div_lt_of_lt_mul (by rw [Nat.two_mul]; exact Nat.add_lt_add_right h r)) (by have := Nat.sub_le_iff_le_add.mp hf; rwa [Nat.add_right_comm] at this)))
theorem mid_r {l r f : Nat} (h : l < r) (hf : r - l ≤ f + 1) : r - ((l + r) / 2 + 1) ≤ f := by
 refine Nat.sub_le_of_le_add (Nat.le_trans (Nat.sub_le_iff_le_add.mp hf) ?_)
 rw [Nat.add_assoc, Nat.add_comm 1]
 exact Nat.add_le_add_left (Nat.succ_le_succ ((Nat.le_div_iff_mul_le (by decide)).mpr (by rw [Nat.mul_two]; exact Nat.add_le_add_left (Nat.le_of_lt h) l))) f
theorem place_ok (S : SLt lt n) {p : Array Nat} (hp : PermR n p) {k : Nat} (hk : k < n) (ha : AscTo lt p k) : ∀ (f l r : Nat), l ≤ r → r ≤ k → r - l ≤ f → (∀ i, i < l → lt (p.getD i 0) (p.getD k 0) = true) → (∀ i, r ≤ i → i < k → lt (p.getD k 0) (p.getD i 0) = true) →
   KOk lt n (kas_place p k f l r) fun l' => l' ≤ k ∧ (∀ i, i < l' → lt (p.getD i 0) (p.getD k 0) = true) ∧ (∀ i, l' ≤ i → i < k → lt (p.getD k 0) (p.getD i 0) = true)
 | 0, l, r, h1, h2, h3, hlo, hhi => ⟨by omega, hlo, fun i hi hik => hhi i (by omega) hik⟩
 | f + 1, l, r, h1, h2, h3, hlo, hhi => by
   show KOk lt n (if l ≥ r then _ else _) _
   by_cases hge : l ≥ r
   · rw [if_pos hge]; exact ⟨by omega, hlo, fun i hi hik => hhi i (by omega) hik⟩
   rw [if_neg hge]
   have hmk : (l + r) / 2 < k := by omega
   refine ⟨hp.lq hk, hp.lq (by omega), ?_⟩
   dsimp only
   cases hc : lt (p.getD k 0) (p.getD ((l + r) / 2) 0) with
   | true =>
     rw [if_pos rfl]
     refine place_ok S hp hk ha f l ((l + r) / 2) (by omega) (by omega) (by first | exact mid_l (by omega) (by assumption) | omega) hlo fun i hi hik => ?_
     by_cases e : i = (l + r) / 2
     · subst e; exact hc
     exact S.trans _ _ _ (hp.lq hk) (hp.lq (by omega)) (hp.lq (by omega)) hc (ha _ _ (by omega) hik)
   | false =>
     rw [if_neg Bool.false_ne_true]
     have ht := S.tri _ _ (hp.lq hk) (hp.lq (by omega)) (hp.ne hk (by omega) (by omega)) hc
     refine place_ok S hp hk ha f ((l + r) / 2 + 1) r (by omega) h2 (by first | exact mid_r (by omega) (by assumption) | omega) (fun i hi => ?_) hhi
     by_cases e : i = (l + r) / 2
     · subst e; exact ht
     exact S.trans _ _ _ (hp.lq (by omega)) (hp.lq (by omega)) (hp.lq hk) (ha _ _ (by omega) (by omega)) ht
theorem bin_ok (S : SLt lt n) : ∀ (f : Nat) (p : Array Nat) (k : Nat), PermR n p → k + f = n → AscTo lt p k → KOk lt n (kas_bin f p k) fun q => PermR n q ∧ AscTo lt q n
 | 0, p, k, hp, hf, ha => ⟨hp, by rw [← hf]; exact ha⟩
 | f + 1, p, k, hp, hf, ha => by
   have hk : k < n := by omega
   have hs := hp.size
   refine KOk.bind (KOk.mono (fun l hl => ?_) (place_ok S hp hk ha k 0 k (Nat.zero_le _) (Nat.le_refl _) (by omega) (fun i hi => by omega) fun i h1 h2 => by omega))
   obtain ⟨hlk, hlo, hhi⟩ := hl
   refine bin_ok S f _ (k + 1) ((Array.perm_iff_toList_perm.mp (bubble_perm _ _ _)).trans hp) (by omega) fun i j hij hj => ?_
   have B : ∀ x, (bubble p k (k - l)).getD x 0 = if x = l then p.getD k 0 else if l < x ∧ x ≤ k then p.getD (x - 1) 0 else p.getD x 0 := by
     rintro x
     have e := getElem?_bubble (xs := p) (src := k) (by omega) (k - l) (by omega) x
     rw [show k - (k - l) = l by first | exact Nat.sub_sub_self (by assumption) | omega] at e
     by_cases h1 : x = l
     · rw [if_pos h1] at e ⊢; exact getD_of_eq e
     rw [if_neg h1] at e ⊢
     by_cases h2 : l < x ∧ x ≤ k
     · rw [if_pos h2] at e ⊢; exact getD_of_eq e
     rw [if_neg h2] at e ⊢; exact getD_of_eq e
   rw [B, B]
   repeat' split
   all_goals first
     | (exfalso; omega)
     | exact hlo _ (by omega)
     | exact hhi _ (by omega) (by omega)
     | exact ha _ _ (by omega) (by omega)
theorem kas_sort_ok (S : SLt lt n) (h1 : 1 ≤ n) : KOk lt n (kas_sort n) fun q => PermR n q ∧ AscTo lt q n := by
 have hp : PermR n (List.toArray (List.range n)) := by unfold PermR; rw [List.toList_toArray]
 refine KOk.bind (KOk.mono (fun r hr => ?_) (count_ok S hp h1))
 obtain ⟨a, b, c, d⟩ := hr
 by_cases hlt : r.1 < n
 · rw [if_pos hlt]
   exact bin_ok S _ _ _ a (by omega) (by rw [show max r.1 1 = r.1 by omega]; exact d)
 rw [if_neg hlt]
 have : r.1 = n := by omega
 exact ⟨a, by rw [this] at d; exact d⟩
end
section
variable {prog : Program} {w : World} {A : Around} {E : Value → Shared → Prop} {s : Shared}
def StrSet (prog : Program) (w : World) (o : Obj) (ys : List Str) : Prop :=
 o.ExactSet ∧ ∃ es ep t, o.data = .set es ep t ∧ t.fits es.size = true ∧ ElemsOf (strKind prog w) es.toList ∧ (∃ zs : List (Str × Tok), es.toList.map (·.2) = zs.map (fun z => Value.str z.1 z.2) ∧ (zs.map (·.1)).Perm ys) ∧
   t.led = (!w.params.followText "set-order") ∧ (ys ≠ [] → t.plain = false)
theorem arr_one {α : Type} {es : Array α} (h : es.size = 1) : ∃ e, es = #[e] := by
 obtain ⟨a, ha⟩ := List.length_eq_one_iff.mp (show es.toList.length = 1 by rw [Array.length_toList]; exact h)
 exact ⟨a, by rw [← Array.toArray_toList (xs := es), ha]⟩
theorem StrSet.nil (prog : Program) (w : World) : StrSet prog w { cls := .type "set", dict := none, data := .set #[] 0 (.fresh 0 0 (!w.params.followText "set-order")) } [] :=
 ⟨⟨rfl, rfl, rfl⟩, #[], 0, _, rfl, by rfl, fun e he => by simp at he, ⟨[], rfl, .refl _⟩, rfl, fun h => absurd rfl h⟩
theorem orStandIn_flags (t : SetTable) (n : Nat) : (t.orStandIn n).led = t.led ∧ ((t.orStandIn n).plain = true → t.plain = true) := by
 unfold SetTable.orStandIn
 split
 · exact ⟨rfl, id⟩
 exact ⟨rfl, fun h => by cases h⟩
theorem layNew_flags (t : SetTable) (es : Array (Int × Value)) (h : Int) (x : Value) : (layNew t es h x).2.1.led = t.led ∧ ((layNew t es h x).2.1.plain = true → t.plain = true) := by
 unfold layNew
 split
 · exact orStandIn_flags (t.put _).1 _
 exact ⟨rfl, fun h => by cases h⟩
theorem laid_flags {mask finger moves : Nat} {led plain : Bool} {hs : Array Int} {r : SetTable × Array Nat} (h : SetTable.laid mask finger moves led plain hs = some r) : r.1.led = led ∧ r.1.plain = plain := by
 unfold SetTable.laid at h
 cases hc : SetTable.layClean mask hs with
 | none => rw [hc] at h; cases h
 | some ow =>
   rw [hc] at h
   obtain rfl := Option.some.inj h
   exact ⟨rfl, rfl⟩
theorem relayAll_flags (t : SetTable) (es : Array (Int × Value)) (n : Nat) : (relayAll t es n).2.1.led = t.led ∧ (t.plain = false → (relayAll t es n).2.1.plain = false) := by
 unfold relayAll
 split
 · rename_i t' order h
   obtain ⟨a, b⟩ := laid_flags h
   dsimp only
   split
   · exact ⟨a, fun hp => b.trans hp⟩
   exact ⟨rfl, fun _ => rfl⟩
 exact ⟨rfl, fun _ => rfl⟩
theorem StrSet.keys {es : Array (Int × Value)} {zs : List (Str × Tok)} {ys : List Str} (hz : es.toList.map (·.2) = zs.map (fun z => Value.str z.1 z.2)) (hp : (zs.map (·.1)).Perm ys) {y : Str} : (∃ e ∈ es.toList, (strKind prog w).is y e.2 = true) ↔ y ∈ ys := by
 constructor
 · rintro ⟨e, he, hk⟩
   have : e.2 ∈ zs.map (fun z => Value.str z.1 z.2) := hz ▸ List.mem_map_of_mem he
   obtain ⟨z, hz', e2⟩ := List.mem_map.mp this
   rw [← e2] at hk
   have hk' : (z.1 == y) = true := hk
   exact hp.mem_iff.mp (List.mem_map.mpr ⟨z, hz', eq_of_beq hk'⟩)
 rintro hy
 obtain ⟨z, hz', rfl⟩ := List.mem_map.mp (hp.mem_iff.mpr hy)
 have : Value.str z.1 z.2 ∈ es.toList.map (·.2) := hz ▸ List.mem_map.mpr ⟨z, hz', rfl⟩
 obtain ⟨e, he, e2⟩ := List.mem_map.mp this
 exact ⟨e, he, by rw [e2]; exact strKind_is _ _ _ _⟩
theorem strSet_addHashed {a : Addr} {o : Obj} {ys : List Str} {y : Str} {tk : Tok} {Q : Bool → Shared → Prop} (ho : s.heap.get? a = some o) (hs : StrSet prog w o ys) (hy : y ∉ ys) (hb : ys.length + 1 < scanBound)
   (h : ∀ h' o', Heap.SameBut a s.heap h' → h'.get? a = some o' → StrSet prog w o' (y :: ys) → Q true { s with heap := h' }) :
   wpAny (model prog w) A (setAddHashed a (.str y tk) ((strKind prog w).hash y)) Q E s := by
 (revert ho hs hy hb h; revert prog w A E s a o ys y tk Q; with_reducible refine (no_implicit_lambda% (Drk6.all (by kpf_c) ((?_ : All6 _) _ _ _ _ _ _))); refine fun prog w A E s a => Ap6.mk ?_; with_reducible refine (no_implicit_lambda% (Drk5.all (by kpf_c) ((?_ : All5 _) _ _ _ _ _))); refine fun o ys y tk Q => Ap5.mk ?_; intros ho hs hy hb h)
 obtain ⟨hex, es, ep, t, hd, hf, hel, ⟨zs, hz, hp⟩, hled, hpl⟩ := hs
 (revert hd hf hel hz hp hled hpl; revert es ep t zs; with_reducible refine (no_implicit_lambda% (Drk4.all (by kpf_c) ((?_ : All4 _) _ _ _ _))); refine fun es ep t zs => Ap4.mk ?_; intros hd hf hel hz hp hled hpl)
 have hsz : es.size = ys.length := by
   have h1 := congrArg List.length hz
   have h2 := hp.length_eq
   rw [lM, lM, Array.length_toList] at h1
   rw [lM] at h2
   omega
 have hb0 : es.size < scanBound := by omega
 have hkey : (strKind prog w).is y (.str y tk) = true := strKind_is _ _ _ _
 unfold setAddHashed setAddHashedIn
 refine wpAny_holding (wpAny_bind (wpAny_setState_of ho hd hf ?_))
 dsimp only
 rw [byScan_of (knd := strKind prog w) rfl hb0 hel]
 simp only [↓reduceIte]
 unfold setAddByScan
 refine wpAny_bind ?_
 refine wpAny_bind (wpAny_rule ?_)
 refine wpAny_bind (wpAny_setScan_of hkey ho hd hf hel ?_)
 have hnone : List.findIdx? (fun e => (strKind prog w).is y e.2) es.toList = none := by
   rw [List.findIdx?_eq_none_iff]
   rintro e he
   cases hc : (strKind prog w).is y e.2 with
   | false => rfl
   | true => exact absurd ((StrSet.keys hz hp).mp ⟨e, he, hc⟩) hy
 rw [hnone]
 dsimp only
 have hgw : ∀ (b : Bool) {s₁ : Shared} {Q' : Unit → Shared → Prop}, Q' () s₁ → wpAny (model prog w) A (match b with | true => rule "set.scan.the-table-gave-way" | false => pure ()) Q' E s₁ :=
   fun b s₁ Q' hq => by cases b <;> first | exact wpAny_pure hq | exact wpAny_rule hq
 have hperm := layNew_perm t es ((strKind prog w).hash y) (.str y tk)
 have hfits := layNew_fits t es ((strKind prog w).hash y) (.str y tk)
 have hfl := layNew_flags t es ((strKind prog w).hash y) (.str y tk)
 generalize layNew t es ((strKind prog w).hash y) (.str y tk) = Lr at hperm hfits hfl ⊢
 obtain ⟨es1, t1, wasDummy, gave⟩ := Lr
 (revert hperm hfits hfl; revert es1 t1 wasDummy gave; with_reducible refine Drk4.all (by kpf_c) ((?_ : All4 _) _ _ _ _); refine fun es1 t1 wasDummy gave => Ap4.mk ?_; intros hperm hfits hfl)
 dsimp only at hperm hfits hfl ⊢
 rw [Array.toList_push] at hperm
 have hel1 : ElemsOf (strKind prog w) es1.toList := (hel.push hkey rfl).perm hperm
 have hsz1 : es1.size = ys.length + 1 := by rw [← Array.length_toList, hperm.length_eq, lA, Array.length_toList, hsz]; rfl
 have hb1 : es1.size < scanBound := by omega
 obtain ⟨zs1, hz1, hp1⟩ : ∃ zs1 : List (Str × Tok), es1.toList.map (·.2) = zs1.map (fun z => Value.str z.1 z.2) ∧ (zs1.map (·.1)).Perm (y :: ys) := by
   have h1 : (es1.toList.map (·.2)).Perm ((zs ++ [(y, tk)]).map (fun z => Value.str z.1 z.2)) := by
     refine (hperm.map (·.2)).trans (List.Perm.of_eq ?_)
     rw [List.map_append, List.map_append, hz]; rfl
   have aux : ∀ (vs : List Value) (qs : List (Str × Tok)), vs.Perm (qs.map (fun z => Value.str z.1 z.2)) → ∃ rs : List (Str × Tok), vs = rs.map (fun z => Value.str z.1 z.2) := by
     rintro vs qs hvq
     have hall : ∀ v ∈ vs, ∃ z : Str × Tok, v = Value.str z.1 z.2 := fun v hv => by
       obtain ⟨z, _, e⟩ := List.mem_map.mp (hvq.mem_iff.mp hv); exact ⟨z, e.symm⟩
     clear hvq
     induction vs with
     | nil => exact ⟨[], rfl⟩
     | cons v r ih =>
       obtain ⟨z, rfl⟩ := hall v (.head _)
       (revert ih hall; revert qs r z; with_reducible refine Drk3.all (by kpf_c) ((?_ : All3 _) _ _ _); refine fun qs r z => Ap3.mk ?_; intros ih hall)
       obtain ⟨rs, rfl⟩ := ih fun v hv => hall v (.tail _ hv)
       (revert ih hall; revert qs rs; with_reducible refine Drk2.all (by kpf_c) ((?_ : All2 _) _ _); refine fun qs rs => Ap2.mk ?_; intros ih hall)
       exact ⟨z :: rs, rfl⟩
   obtain ⟨rs, hr⟩ := aux _ _ h1
   (revert hr; revert rs; tb_start; refine fun rs => Ap.mk ?_; intros hr)
   refine ⟨rs, hr, ?_⟩
   rw [hr] at h1
   let g : Value → Str := fun v => match v with | .str x _ => x | _ => y
   have h2 := h1.map g
   rw [List.map_map, List.map_map] at h2
   have h3 : (rs.map (·.1)).Perm ((zs ++ [(y, tk)]).map (·.1)) := h2
   refine h3.trans ?_
   rw [List.map_append]
   exact (List.perm_append_comm).trans (hp.cons y)
 refine wpAny_bind (hgw _ ?_)
 have done : ∀ (h' : Heap) (es2 : Array (Int × Value)) (t2 : SetTable) (n2 : Nat), Heap.SameBut a s.heap h' → h'.get? a = some { o with data := .set es2 n2 t2 } → es2.toList.Perm es1.toList → t2.fits es2.size = true → t2.led = t.led → t2.plain = false → Q true { s with heap := h' } := by
   rintro h' es2 t2 n2 hsb hg hp2 hf2 hl2 hpl2
   refine h h' _ hsb hg ⟨hex, es2, n2, t2, rfl, hf2, hel1.perm hp2, ?_, hl2.trans hled, fun _ => hpl2⟩
   have h1 : (es2.toList.map (·.2)).Perm (zs1.map (fun z => Value.str z.1 z.2)) := hz1 ▸ hp2.map (·.2)
   have hall : ∀ v ∈ es2.toList.map (·.2), ∃ z : Str × Tok, v = Value.str z.1 z.2 := fun v hv => by
     obtain ⟨z, _, e⟩ := List.mem_map.mp (h1.mem_iff.mp hv); exact ⟨z, e.symm⟩
   obtain ⟨rs, hr⟩ : ∃ rs : List (Str × Tok), es2.toList.map (·.2) = rs.map (fun z => Value.str z.1 z.2) := by
     generalize es2.toList.map (·.2) = vs at hall
     clear h1
     induction vs with
     | nil => exact ⟨[], rfl⟩
     | cons v r ih =>
       obtain ⟨z, rfl⟩ := hall v (.head _)
       (revert hz1 hp1 hsb hg hp2 hf2 hl2 hpl2 ih hall; revert zs1 h' es2 t2 n2 r z; with_reducible refine Drk7.all (by kpf_c) ((?_ : All7 _) _ _ _ _ _ _ _); refine fun zs1 h' es2 t2 n2 r z => Ap7.mk ?_; intros hz1 hp1 hsb hg hp2 hf2 hl2 hpl2 ih hall)
       obtain ⟨rs, rfl⟩ := ih fun v hv => hall v (.tail _ hv)
       (revert ih hall; revert rs; tb_start; refine fun rs => Ap.mk ?_; intros ih hall)
       exact ⟨z :: rs, rfl⟩
   refine ⟨rs, hr, ?_⟩
   rw [hr] at h1
   have h2 := h1.map (fun v : Value => match v with | .str x _ => x | _ => y)
   rw [List.map_map, List.map_map] at h2
   have h3 : (rs.map (·.1)).Perm (zs1.map (·.1)) := h2
   exact h3.trans hp1
 have tailp : ∀ (t2 : SetTable), t2.fits es1.size = true → t2.led = t.led → t2.plain = false → ∀ {g : Bool → Sem Unit}, (∀ (b : Bool) (s₁ : Shared) (Q' : Unit → Shared → Prop), Q' () s₁ → wpAny (model prog w) A (g b) Q' E s₁) →
     wpAny (model prog w) A (do
       storeSet a es1 t2
       if (!wasDummy && t2.tooFull) = true then do
           g (relayAll t2 es1 (SetTable.grown es1.size)).2.2
           storeSet a (relayAll t2 es1 (SetTable.grown es1.size)).1 (relayAll t2 es1 (SetTable.grown es1.size)).2.1
           pure (some true)
         else pure (some true)) (fun r s' => r = some true ∧ Q true s') E s := by
   rintro t2 hf2 hl2 hpl2 g hg
   refine wpAny_bind (wpAny_storeSet_of ho hd ?_ (fits_of_scanBound hb1))
   have hg1 : (s.heap.update a (Obj.putSet es1 t2)).get? a = some { o with data := .set es1 (ep + 1) t2 } := by
     have := Heap.get?_update_self (Obj.putSet es1 t2) ho (by rw [putSet_of es1 t2 hd]; rfl)
     rw [putSet_of es1 t2 hd] at this; exact this
   have hsb1 := Heap.SameBut.update s.heap a (Obj.putSet es1 t2)
   split
   · have hp3 := relayAll_perm t2 es1 (SetTable.grown es1.size)
     have hf3 := relayAll_fits t2 es1 (SetTable.grown es1.size)
     have hl3 := relayAll_flags t2 es1 (SetTable.grown es1.size)
     generalize relayAll t2 es1 (SetTable.grown es1.size) = Rl at hp3 hf3 hl3 ⊢
     obtain ⟨es3, t3, gave3⟩ := Rl
     (revert zs1 t2 g es3 t3 gave3; tb_start; refine fun zs1 => Ap.mk ?_; intros hz1 hp1; tb_start; refine fun t2 => Ap.mk ?_; intros hf2 hl2 hpl2; tb_start; refine fun g => Ap.mk ?_; intros hg hg1 hsb1 _; with_reducible refine Drk3.all (by kpf_c) ((?_ : All3 _) _ _ _); refine fun es3 t3 gave3 => Ap3.mk ?_; intros hp3 hf3 hl3)
     dsimp only at hp3 hf3 hl3 ⊢
     have hs3 : es3.size < scanBound := by rw [← Array.length_toList, hp3.length_eq, Array.length_toList]; exact hb1
     refine wpAny_bind (hg _ _ _ ?_)
     refine wpAny_bind (wpAny_storeSet_of hg1 rfl ?_ (fits_of_scanBound hs3))
     refine wpAny_pure ⟨rfl, done _ es3 t3 (ep + 1 + 1) (hsb1.trans (Heap.SameBut.update _ a _)) ?_ hp3 hf3 (hl3.1.trans hl2) (hl3.2 hpl2)⟩
     have := Heap.get?_update_self (Obj.putSet es3 t3) hg1 (by rw [putSet_of es3 t3 rfl]; rfl)
     rw [putSet_of es3 t3 rfl] at this; exact this
   exact wpAny_pure ⟨rfl, done _ es1 t2 (ep + 1) hsb1 hg1 (.refl _) hf2 hl2 hpl2⟩
 split
 · refine wpAny_bind ?_
   rw [hashByValue_scannable 8 (rfl : (Value.str y tk).scannable = true)]
   refine wpAny_pure ?_
   refine wpAny_mono (tailp { t1 with plain := false } (SetTable.fits_plain_off hfits) hfl.1 rfl ?_) (fun r s' hr => ?_) fun _ _ e => e
   · rintro b s₁ Q' hq; cases b <;> first | exact wpAny_pure hq | exact wpAny_rule hq
   obtain ⟨rfl, hq⟩ := hr; exact wpAny_pure hq
 rename_i hnp
 refine wpAny_bind (wpAny_pure ?_)
 simp only [↓reduceIte]
 refine wpAny_mono (tailp t1 hfits hfl.1 (by simpa using hnp) ?_) (fun r s' hr => ?_) fun _ _ e => e
 · rintro b s₁ Q' hq; cases b <;> first | exact wpAny_pure hq | exact wpAny_rule hq
 obtain ⟨rfl, hq⟩ := hr; exact wpAny_pure hq
theorem strSet_add {a : Addr} {o : Obj} {ys : List Str} {y : Str} {tk : Tok} {Q : Bool → Shared → Prop} (ho : s.heap.get? a = some o) (hs : StrSet prog w o ys) (hy : y ∉ ys) (hb : ys.length + 1 < scanBound)
   (h : ∀ h' o', Heap.SameBut a s.heap h' → h'.get? a = some o' → StrSet prog w o' (y :: ys) → Q true { s with heap := h', toks := s.toks + 1 }) :
   wpAny (model prog w) A (setAdd a (.str y tk)) Q E s := by
 unfold setAdd
 refine wpAny_holding (wpAny_bind ((strKind prog w).pyHash (strKind_is prog w y tk) ?_))
 exact strSet_addHashed (s := { s with toks := s.toks + 1 }) ho hs hy hb h
end
section
variable {prog : Program} {w : World} {A : Around} {E : Value → Shared → Prop} {s : Shared}
theorem filterMap_one {β : Type} {f : Nat → Option β} {i : Nat} {v : β} (hi : f i = some v) (hj : ∀ j, j ≠ i → f j = none) : ∀ n, (List.range n).filterMap f = if i < n then [v] else []
 | 0 => by rw [if_neg (Nat.not_lt_zero i)]; rfl
 | n + 1 => by
   rw [List.range_succ, List.filterMap_append, filterMap_one hi hj n]
   by_cases h1 : i < n
   · rw [if_pos h1, if_pos (by omega), List.filterMap_cons_none (hj n (by omega))]; rfl
   rw [if_neg h1]
   by_cases h2 : i = n
   · subst h2; rw [if_pos (by omega), List.filterMap_cons_some hi]; rfl
   rw [if_neg (by omega), List.filterMap_cons_none (hj n (by omega))]; rfl
theorem laid_one (M f v : Nat) (led plain : Bool) (h : Int) : ∃ j, j ≤ M ∧ SetTable.laid M f v led plain #[h] = some ({ mask := M, place := #[j], dummies := #[], finger := f, led := led, moves := v, plain := plain }, #[0]) := by
 let i := SetTable.bits h % (M + 1)
 have hi : i < M + 1 := Nat.mod_lt _ (Nat.succ_pos _)
 refine ⟨i, by omega, ?_⟩
 have hr : i ≤ SetTable.runEnd M i := by unfold SetTable.runEnd; split <;> omega
 have hfree : SetTable.layClean.free M (Array.replicate (M + 1) none) (SetTable.turns M) i (SetTable.bits h) = some i := by
   unfold SetTable.turns
   rw [SetTable.layClean.free]
   obtain ⟨k, hk⟩ : ∃ k, SetTable.runEnd M i + 1 - i = k + 1 := ⟨SetTable.runEnd M i - i, Nat.succ_sub hr⟩
   rw [hk, List.range_succ_eq_map, List.find?_cons_of_pos]
   · rfl
   simp [Array.getD, hi]
 have hlay : SetTable.layClean M #[h] = some ((Array.replicate (M + 1) none).setIfInBounds i (some 0)) := by
   unfold SetTable.layClean
   show Option.map _ ((some (Array.replicate (M + 1) (none : Option Nat), 0)).bind fun acc => (SetTable.layClean.free M acc.1 (SetTable.turns M) (SetTable.bits h % (M + 1)) (SetTable.bits h)).bind fun j => some (acc.1.setIfInBounds j (some acc.2), acc.2 + 1)) = _
   rw [Option.bind_some]
   dsimp only
   rw [show SetTable.layClean.free M (Array.replicate (M + 1) none) (SetTable.turns M) (SetTable.bits h % (M + 1)) (SetTable.bits h) = some i from hfree, Option.bind_some]
   rfl
 unfold SetTable.laid
 rw [hlay]
 have hlive : (List.range (M + 1)).filterMap (fun j => ((((Array.replicate (M + 1) none).setIfInBounds i (some 0)).getD j none).map fun x => (j, x))) = [(i, 0)] := by
   rw [filterMap_one (i := i) (v := (i, 0)), if_pos hi]
   · simp [Array.getD, hi]
   rintro j hj
   by_cases hjm : j < M + 1
   · have e : ((Array.replicate (M + 1) none).setIfInBounds i (some 0)).getD j none = (none : Option Nat) := by
       have hne : i ≠ j := fun e => hj e.symm
       simp [Array.getD, hjm, Array.getElem_setIfInBounds, hne]
     rw [e]; rfl
   · simp [Array.getD, hjm]
 show some _ = some _
 congr 1
 rw [hlive]
 rfl
theorem sizeAbove_small : ∀ n : Fin 64, 8 ≤ SetTable.sizeAbove n.val ∧ SetTable.sizeAbove n.val ≤ 128 := by decide +kernel
theorem strSet_room {a : Addr} {o : Obj} {y : Str} {more : Nat} {Q : Unit → Shared → Prop} (ho : s.heap.get? a = some o) (hs : StrSet prog w o [y]) (hm : more ≤ 30)
   (h : ∀ h' o', Heap.SameBut a s.heap h' → h'.get? a = some o' → StrSet prog w o' [y] → Q () { s with heap := h' }) :
   wpAny (model prog w) A (setRoomFor a more) Q E s := by
 (revert ho hs hm h; revert prog w A E s a o y more Q; with_reducible refine (no_implicit_lambda% (Drk5.all (by kpf_c) ((?_ : All5 _) _ _ _ _ _))); refine fun prog w A E s => Ap5.mk ?_; with_reducible refine (no_implicit_lambda% (Drk5.all (by kpf_c) ((?_ : All5 _) _ _ _ _ _))); refine fun a o y more Q => Ap5.mk ?_; intros ho hs hm h)
 have hs' := hs
 obtain ⟨hex, es, ep, t, hd, hf, hel, ⟨zs, hz, hp⟩, hled, hpl⟩ := hs
 (revert hd hf hel hz hp hled hpl; revert es ep t zs; with_reducible refine (no_implicit_lambda% (Drk4.all (by kpf_c) ((?_ : All4 _) _ _ _ _))); refine fun es ep t zs => Ap4.mk ?_; intros hd hf hel hz hp hled hpl)
 have hsz : es.size = 1 := by
   have h1 := congrArg List.length hz
   have h2 := hp.length_eq
   rw [lM, lM, Array.length_toList] at h1
   rw [lM] at h2
   simp only [List.length_singleton] at h2
   omega
 obtain ⟨e0, he0⟩ := arr_one hsz
 (revert he0; revert e0; tb_start; refine fun e0 => Ap.mk ?_; intros he0)
 subst he0
 have hpsz : t.place.size = 1 := by
   unfold SetTable.fits at hf
   rw [Bool.and_eq_true] at hf
   have := eq_of_beq hf.1
   exact this
 unfold setRoomFor
 refine wpAny_bind (wpAny_setState_of ho hd hf ?_)
 dsimp only
 cases hr : t.roomFor more with
 | none =>
   have e : s = { s with heap := s.heap } := by cases s; rfl
   exact wpAny_pure (by rw [e]; exact h s.heap o (Heap.SameBut.refl _ _) ho hs')
 | some wanted =>
   have hw : wanted = (1 + more) * 2 := by
     unfold SetTable.roomFor at hr
     rw [hpsz] at hr
     split at hr
     · exact (Option.some.inj hr).symm
     cases hr
   dsimp only
   unfold setRelay
   refine wpAny_bind (wpAny_setState_of ho hd hf ?_)
   dsimp only
   have hsa := sizeAbove_small ⟨wanted, by omega⟩
   dsimp only at hsa
   rw [if_neg (by rw [sizeLine_eq]; omega)]
   obtain ⟨j, hj, hl⟩ := laid_one (SetTable.sizeAbove wanted - 1) t.finger (t.movedTo (SetTable.sizeAbove wanted - 1)) t.led t.plain e0.1
   (revert hr hw hsa hj hl; revert wanted j; with_reducible refine Drk2.all (by kpf_c) ((?_ : All2 _) _ _); refine fun wanted j => Ap2.mk ?_; intros hr hw hsa hj hl)
   have hrel : t.relaid ((#[e0] : Array (Int × Value)).map (·.1)) wanted = some ({ mask := SetTable.sizeAbove wanted - 1, place := #[j], dummies := #[], finger := t.finger, led := t.led, moves := t.movedTo (SetTable.sizeAbove wanted - 1), plain := t.plain }, #[0]) := by
     unfold SetTable.relaid
     rw [show Array.map (fun x : Int × Value => x.1) #[e0] = #[e0.1] from by simp]
     exact hl
   rw [hrel]
   refine wpAny_bind (m := _) (wpAny_pure ?_)
   dsimp only
   refine wpAny_storeSet_of ho hd ?_ (show 1 ≤ sizeLine by decide)
   refine h _ { o with data := .set #[e0] (ep + 1) { mask := SetTable.sizeAbove wanted - 1, place := #[j], dummies := #[], finger := t.finger, led := t.led, moves := t.movedTo (SetTable.sizeAbove wanted - 1), plain := t.plain } } (Heap.SameBut.update ..) ?_ ⟨hex, #[e0], ep + 1, _, rfl, ?_, hel, ⟨zs, hz, hp⟩, hled, hpl⟩
   · have := Heap.get?_update_self (Obj.putSet #[e0] { mask := SetTable.sizeAbove wanted - 1, place := #[j], dummies := #[], finger := t.finger, led := t.led, moves := t.movedTo (SetTable.sizeAbove wanted - 1), plain := t.plain }) ho (by rw [putSet_of _ _ hd]; rfl)
     rw [putSet_of _ _ hd] at this; exact this
   show ((1 : Nat) == 1 && decide (1 + 0 ≤ SetTable.sizeAbove wanted - 1)) = true
   simp; omega
end
theorem si_owner : Manifest.owners.lookup (String.ofList ['r', 'o', 't', 'a', 'r', 'e', 't', 'i', '_', 't', 'e', 's'].reverse) = some Manifest.sig_set_iterator := by kernel_rfl
theorem si_slot_next : Slot "set_iterator" "__next__" "set_iterator.__next__" :=
 .of (owner := "set_iterator") (n := "__next__") (by rw [typeLookup_type, builtinLookup_eq_fast]; kernel_rfl) (by decide +kernel) (by decide +kernel) (by decide +kernel)
   (by first | exact .inl (by decide +kernel) | exact .inr (by decide +kernel)) (by rw [isSubtype_type]; kernel_rfl)
theorem si_entry_next : entryFor table "set_iterator.__next__" = some Builtin.«set_iterator.__next__» := entryFor_of_tree (by kernel_rfl)
theorem si_args_next (a : Value) : argsOk "set_iterator.__next__" ⟨[a], []⟩ := by
 unfold argsOk; rw [signature?_of (id := "set_iterator.__next__") (n := ['_', '_', 't', 'x', 'e', 'n', '_', '_']) (o := ['r', 'o', 't', 'a', 'r', 'e', 't', 'i', '_', 't', 'e', 's']) (by kernel_rfl) si_owner]; kernel_rfl
theorem si_slot_iter : Slot "set_iterator" "__iter__" "set_iterator.__iter__" :=
 .of (owner := "set_iterator") (n := "__iter__") (by rw [typeLookup_type, builtinLookup_eq_fast]; kernel_rfl) (by decide +kernel) (by decide +kernel) (by decide +kernel)
   (by first | exact .inl (by decide +kernel) | exact .inr (by decide +kernel)) (by rw [isSubtype_type]; kernel_rfl)
theorem si_args_iter (a : Value) : argsOk "set_iterator.__iter__" ⟨[a], []⟩ := by
 unfold argsOk; rw [signature?_of (id := "set_iterator.__iter__") (n := ['_', '_', 'r', 'e', 't', 'i', '_', '_']) (o := ['r', 'o', 't', 'a', 'r', 'e', 't', 'i', '_', 't', 'e', 's']) (by kernel_rfl) si_owner]; kernel_rfl
theorem si_entry_iter : entryFor table "set_iterator.__iter__" = some Builtin.«dict_keyiterator.__iter__» :=
 entryFor_alias (id' := "dict_keyiterator.__iter__") (by kernel_rfl) (by first | rfl | decide +kernel | (unfold String.splitOn; simp +decide [String.splitOnAux])) (by decide +kernel) (by kernel_rfl)
theorem set_entry_iter : entryFor table "set.__iter__" = some Builtin.«frozenset.__iter__» :=
 entryFor_alias (id' := "frozenset.__iter__") (by kernel_rfl) (by first | rfl | decide +kernel | (unfold String.splitOn; simp +decide [String.splitOnAux])) (by decide +kernel) (by kernel_rfl)
theorem set_len_look : typeLookup (.type "set") "__len__" = pure (some (.builtin "set.__len__")) := by rw [typeLookup_type, builtinLookup_eq_fast]; kernel_rfl
section
variable {prog : Program} {w : World} {A : Around} {E : Value → Shared → Prop} {s : Shared}
def IsSetIt (h : Heap) (it d : Addr) (first : Value) (i n ep : Nat) : Prop := ∃ o, h.get? it = some o ∧ o.cls = .type "set_iterator" ∧ o.data = .fields #[first, rawInt (i : Int), .ref d, rawInt (n : Int), rawInt (ep : Int)]
theorem IsSetIt.typeIs {it d : Addr} {f : Value} {i n ep : Nat} (x : IsSetIt s.heap it d f i n ep) : s.TypeIs (.ref it) "set_iterator" := let ⟨o, ho, hc, _⟩ := x; ⟨o, ho, hc⟩
theorem IsSetIt.at {h h' : Heap} {it d : Addr} {f : Value} {i n ep : Nat} (x : IsSetIt h it d f i n ep) (e : ∀ o, h.get? it = some o → h'.get? it = some o) : IsSetIt h' it d f i n ep := let ⟨o, ho, r⟩ := x; ⟨o, e _ ho, r⟩
theorem pyIter_setIt {it d : Addr} {f : Value} {i n ep : Nat} {Q : Value → Shared → Prop} (hit : IsSetIt s.heap it d f i n ep) (h : Q (.ref it) s) : wpAny (model prog w) A (pyIter (.ref it)) Q E s := by
 refine wpAny_pyIter_slot hit.typeIs si_slot_iter (wpAny_call_entry si_slot_iter hit.typeIs si_entry_iter ?_ (si_args_iter _))
 show wpAny _ _ (ret (.ref it)) _ _ s
 exact wpAny_pure ⟨_, rfl, "set_iterator", _, hit.typeIs, si_slot_next.lookup, h⟩
theorem setIt_field {it : Addr} {o : Obj} {fs : Array Value} {k : Nat} {x : Value} {Q : Unit → Shared → Prop} (ho : s.heap.get? it = some o) (hc : o.cls = .type "set_iterator") (hd : o.data = .fields fs) (hk : k < fs.size)
   (h : ∀ h' o', Heap.SameBut it s.heap h' → h'.get? it = some o' → o'.cls = .type "set_iterator" → o'.data = .fields (fs.setIfInBounds k x) → Q () { s with heap := h' }) :
   wpAny (model prog w) A (setField (.ref it) k x) Q E s := by
 refine wpAny_setField ho hd hk ?_
 refine h _ _ (Heap.SameBut.update ..) (Heap.get?_update_self _ ho (Obj.isFreed_of_fields (Obj.data_mapFields hd _))) ((Obj.cls_mapFields ..).trans hc) ?_
 rw [Obj.data_mapFields hd]
end
section
variable {prog : Program} {w : World} {A : Around} {E : Value → Shared → Prop} {s : Shared}
abbrev LiveSet (s : Shared) (d : Addr) (es : Array (Int × Value)) (ep : Nat) (t : SetTable) : Prop := ∃ o, s.heap.get? d = some o ∧ o.data = .set es ep t ∧ t.fits es.size = true
theorem iteF {α : Type} {M : Model} {A : Around} {c : Prop} [Decidable c] {a b : Sem α} {Q : α → Shared → Prop} {E : Value → Shared → Prop} {s : Shared} (hc : ¬ c) (h : wpAny M A b Q E s) : wpAny M A (if c then a else b) Q E s := by rw [if_neg hc]; exact h
theorem setIt_item {it d : Addr} {slot i n ep next : Nat} {es : Array (Int × Value)} {t : SetTable} {x : Value} {Q : Option Value → Shared → Prop} (hit : IsSetIt s.heap it d (rawInt (slot : Int)) i n ep) (hl : LiveSet s d es ep t) (hn : es.size = n)
   (hx : ∀ (A' : Around) (E' : Value → Shared → Prop) (R : Option (Value × Nat) → Shared → Prop), R (some (x, next)) s → wpAny (model prog w) A' (setNext d slot i ep) R E' s)
   (hQ : ∀ h', IsSetIt h' it d (rawInt (next : Int)) (i + 1) n ep → Heap.SameBut it s.heap h' → Q (some x) { s with heap := h' }) : wpAny (model prog w) A (pyNext (.ref it)) Q E s := by
 obtain ⟨o, ho, hc, hd⟩ := id hit
 obtain ⟨os, hos, hds, hf⟩ := hl
 unfold pyNext
 refine wpAny_bind (wpAny_attempt (wpAny_callSpecial?_slot (name := Str.ofString "__next__") hit.typeIs si_slot_next
   (wpAny_call_entry si_slot_next hit.typeIs si_entry_next ?_ (si_args_next _))))
 unfold Builtin.«set_iterator.__next__»
 refine wpAny_bind (wpAny_of_eq (a := (Value.ref it, [])) rfl ?_)
 dsimp only
 refine wpAny_bind (wpAny_fieldsOf ho hd ?_)
 dsimp only
 refine wpAny_bind (wpAny_setEntries_of hos hds hf ?_)
 rw [if_neg (by rw [hn]; simp)]
 refine wpAny_bind (m := setNext d slot i ep) (hx _ _ _ ?_)
 dsimp only
 refine wpAny_bind (setIt_field ho hc hd (by simp) fun h1 o1 hs1 ho1 hc1 hd1 => ?_)
 refine wpAny_bind (setIt_field (s := { s with heap := h1 }) ho1 hc1 hd1 (by simp) fun h2 o2 hs2 ho2 hc2 hd2 => ?_)
 refine wpAny_pure ⟨x, rfl, wpAny_pure (hQ h2 ⟨o2, ho2, hc2, hd2.trans ?_⟩ (hs1.trans hs2))⟩
 simp
theorem setIt_end {it d : Addr} {slot i n ep : Nat} {es : Array (Int × Value)} {t : SetTable} {Q : Option Value → Shared → Prop} (hh : A.handled = none) (hit : IsSetIt s.heap it d (rawInt (slot : Int)) i n ep) (hl : LiveSet s d es ep t) (hn : es.size = n)
   (hx : ∀ (A' : Around) (E' : Value → Shared → Prop) (R : Option (Value × Nat) → Shared → Prop), R none s → wpAny (model prog w) A' (setNext d slot i ep) R E' s)
   (hQ : ∀ h', Heap.ExtBut it s.heap h' → Q none { s with heap := h' }) : wpAny (model prog w) A (pyNext (.ref it)) Q E s := by
 obtain ⟨o, ho, hc, hd⟩ := id hit
 obtain ⟨os, hos, hds, hf⟩ := hl
 unfold pyNext
 refine wpAny_bind (wpAny_attempt (wpAny_callSpecial?_slot (name := Str.ofString "__next__") hit.typeIs si_slot_next
   (wpAny_call_entry si_slot_next hit.typeIs si_entry_next ?_ (si_args_next _))))
 unfold Builtin.«set_iterator.__next__»
 refine wpAny_bind (wpAny_of_eq (a := (Value.ref it, [])) rfl ?_)
 dsimp only
 refine wpAny_bind (wpAny_fieldsOf ho hd ?_)
 dsimp only
 refine wpAny_bind (wpAny_setEntries_of hos hds hf ?_)
 rw [if_neg (by rw [hn]; simp)]
 refine wpAny_bind (m := setNext d slot i ep) (hx _ _ _ ?_)
 dsimp only
 refine wpAny_bind (setIt_field ho hc hd (by simp) fun h1 o1 hs1 ho1 hc1 hd1 => ?_)
 show wpAny _ _ (newExc (.type "StopIteration") [] >>= _) _ _ _
 refine wpAny_bind ?_
 simp only [newExc, newTuple]
 refine wpAny_bind (wpAny_newObj_type ?_ (by size_fits))
 refine wpAny_bind (m := firstArgMember _ _) (wpAny_of_eq (a := Value.none) (by first | rfl | (simp only [firstArgMember]; rfl)) ?_)
 refine wpAny_newObj_type ?_ (by size_fits)
 simp only [raiseNew]
 refine wpAny_bind (wpAny_handled ?_)
 first | rw [show A.in1.handled = none from hh] | rw [hh]
 refine wpAny_bind (wpAny_pure (wpAny_throw ?_))
 refine wpAny_bind (wpAny_isInstance (T := "StopIteration") (b := true) ⟨_, Heap.get?_push_size _ rfl, rfl⟩ isSubtype_stop ?_)
 exact wpAny_pure (hQ _ ((hs1.extBut.push _).push _))
theorem setItD_item {it d P : Addr} {i n ep pl : Nat} {es : Array (Int × Value)} {t : SetTable} {places : Array Value} {pk : Nat} {x : Value} {hsh : Int} {Q : Option Value → Shared → Prop} (hit : IsSetIt s.heap it d (.ref P) i n ep) (hl : LiveSet s d es ep t) (hn : es.size = n)
   (hP : ∃ op, s.heap.get? P = some op ∧ op.data = .seq places pk) (hi : places[i]? = some (rawInt (pl : Int))) (he : es[pl]? = some (hsh, x))
   (hQ : ∀ h', IsSetIt h' it d (.ref P) (i + 1) n ep → Heap.SameBut it s.heap h' → Q (some x) { s with heap := h' }) : wpAny (model prog w) A (pyNext (.ref it)) Q E s := by
 obtain ⟨o, ho, hc, hd⟩ := id hit
 obtain ⟨os, hos, hds, hf⟩ := hl
 obtain ⟨op, hop, hdp⟩ := hP
 unfold pyNext
 refine wpAny_bind (wpAny_attempt (wpAny_callSpecial?_slot (name := Str.ofString "__next__") hit.typeIs si_slot_next
   (wpAny_call_entry si_slot_next hit.typeIs si_entry_next ?_ (si_args_next _))))
 unfold Builtin.«set_iterator.__next__»
 refine wpAny_bind (wpAny_of_eq (a := (Value.ref it, [])) rfl ?_)
 dsimp only
 refine wpAny_bind (wpAny_fieldsOf ho hd ?_)
 dsimp only
 refine wpAny_bind (wpAny_setEntries_of hos hds hf ?_)
 rw [if_neg (by rw [hn]; simp)]
 refine wpAny_bind (wpAny_seqItems hop hdp ?_)
 simp only [rawInt, Int.toNat_natCast]
 rw [hi]
 simp only [rawInt, Int.toNat_natCast]
 refine wpAny_bind (m := setNextDrawn d pl ep) ?_
 unfold setNextDrawn
 refine wpAny_bind (wpAny_setState_of hos hds hf ?_)
 dsimp only
 rw [if_neg (by simp), he]
 refine wpAny_pure ?_
 refine wpAny_bind (setIt_field ho hc hd (by simp) fun h1 o1 hs1 ho1 hc1 hd1 => ?_)
 refine wpAny_pure ⟨x, rfl, wpAny_pure (hQ h1 ⟨o1, ho1, hc1, hd1.trans ?_⟩ hs1)⟩
 simp [rawInt]
theorem setItD_end {it d P : Addr} {i n ep : Nat} {es : Array (Int × Value)} {t : SetTable} {places : Array Value} {pk : Nat} {Q : Option Value → Shared → Prop} (hh : A.handled = none) (hit : IsSetIt s.heap it d (.ref P) i n ep) (hl : LiveSet s d es ep t) (hn : es.size = n)
   (hP : ∃ op, s.heap.get? P = some op ∧ op.data = .seq places pk) (hi : places[i]? = none)
   (hQ : ∀ h', Heap.ExtBut it s.heap h' → Q none { s with heap := h' }) : wpAny (model prog w) A (pyNext (.ref it)) Q E s := by
 (revert hh hit hl hn hP hi hQ; revert prog w A E s it d P i n ep es t places pk Q; with_reducible refine (no_implicit_lambda% (Drk8.all (by kpf_c) ((?_ : All8 _) _ _ _ _ _ _ _ _))); refine fun prog w A E s it d P => Ap8.mk ?_; with_reducible refine (no_implicit_lambda% (Drk8.all (by kpf_c) ((?_ : All8 _) _ _ _ _ _ _ _ _))); refine fun i n ep es t places pk Q => Ap8.mk ?_; intros hh hit hl hn hP hi hQ)
 obtain ⟨o, ho, hc, hd⟩ := id hit
 (revert ho hc hd; revert o; tb_start; refine fun o => Ap.mk ?_; intros ho hc hd)
 obtain ⟨os, hos, hds, hf⟩ := hl
 (revert hos hds; revert os; tb_start; refine fun os => Ap.mk ?_; intros hos hds)
 obtain ⟨op, hop, hdp⟩ := hP
 (revert hop hdp; revert op; tb_start; refine fun op => Ap.mk ?_; intros hop hdp)
 unfold pyNext
 refine wpAny_bind (wpAny_attempt (wpAny_callSpecial?_slot (name := Str.ofString "__next__") hit.typeIs si_slot_next
   (wpAny_call_entry si_slot_next hit.typeIs si_entry_next ?_ (si_args_next _))))
 unfold Builtin.«set_iterator.__next__»
 refine wpAny_bind (wpAny_of_eq (a := (Value.ref it, [])) rfl ?_)
 dsimp only
 refine wpAny_bind (wpAny_fieldsOf ho hd ?_)
 dsimp only
 refine wpAny_bind (wpAny_setEntries_of hos hds hf ?_)
 rw [if_neg (by rw [hn]; simp)]
 refine wpAny_bind (wpAny_seqItems hop hdp ?_)
 simp only [rawInt, Int.toNat_natCast]
 rw [hi]
 refine wpAny_bind (setIt_field ho hc hd (by simp) fun h1 o1 hs1 ho1 hc1 hd1 => ?_)
 (revert hs1 ho1 hc1 hd1; revert h1 o1; with_reducible refine Drk2.all (by kpf_c) ((?_ : All2 _) _ _); refine fun h1 o1 => Ap2.mk ?_; intros hs1 ho1 hc1 hd1)
 refine wpAny_bind (setIt_field (s := { s with heap := h1 }) ho1 hc1 hd1 (by simp) fun h2 o2 hs2 ho2 hc2 hd2 => ?_)
 (revert hs2 ho2 hc2 hd2; revert h2 o2; with_reducible refine Drk2.all (by kpf_c) ((?_ : All2 _) _ _); refine fun h2 o2 => Ap2.mk ?_; intros hs2 ho2 hc2 hd2)
 show wpAny _ _ (newExc (.type "StopIteration") [] >>= _) _ _ _
 refine wpAny_bind ?_
 simp only [newExc, newTuple]
 refine wpAny_bind (wpAny_newObj_type ?_ (by size_fits))
 refine wpAny_bind (m := firstArgMember _ _) (wpAny_of_eq (a := Value.none) (by first | rfl | (simp only [firstArgMember]; rfl)) ?_)
 refine wpAny_newObj_type ?_ (by size_fits)
 simp only [raiseNew]
 refine wpAny_bind (wpAny_handled ?_)
 first | rw [show A.in1.handled = none from hh] | rw [hh]
 refine wpAny_bind (wpAny_pure (wpAny_throw ?_))
 refine wpAny_bind (wpAny_isInstance (T := "StopIteration") (b := true) ⟨_, Heap.get?_push_size _ rfl, rfl⟩ isSubtype_stop ?_)
 exact wpAny_pure (hQ _ (((hs1.trans hs2).extBut.push _).push _))
theorem setNext_text {d : Addr} {slot i ep : Nat} {es : Array (Int × Value)} {t : SetTable} {R : Option (Value × Nat) → Shared → Prop} (hb : w.params.followText "set-order" = true) (hl : LiveSet s d es ep t)
   (h : R (((pickOrder (w.params.setOrder d ep) es)[i]?).map fun e => (e.2, slot)) s) : wpAny (model prog w) A (setNext d slot i ep) R E s := by
 obtain ⟨os, hos, hds, hf⟩ := hl
 unfold setNext
 refine wpAny_bind (wpAny_setState_of hos hds hf ?_)
 dsimp only
 unfold setsByText
 refine wpAny_bind (wpAny_bind (wpAny_askSetting (wpAny_pure ?_)))
 dsimp only
 rw [show (model prog w).w.params.followText "set-order" = true from hb, if_pos rfl, if_neg (by simp)]
 unfold setWalk
 refine wpAny_bind (wpAny_bind (wpAny_setState_of hos hds hf ?_))
 dsimp only
 unfold setsByText
 refine wpAny_bind (wpAny_bind (wpAny_askSetting (wpAny_pure ?_)))
 dsimp only
 rw [show (model prog w).w.params.followText "set-order" = true from hb, if_pos rfl]
 exact wpAny_bind (wpAny_askSetting (wpAny_pure (wpAny_pure h)))
theorem setNext_one {d : Addr} {slot i ep j : Nat} {e0 : Int × Value} {t : SetTable} {R : Option (Value × Nat) → Shared → Prop} (hb : w.params.followText "set-order" = false) (hl : LiveSet s d #[e0] ep t) (hp : t.place = #[j]) (hled : t.led = true)
   (h : R (if j < slot then none else some (e0.2, j + 1)) s) : wpAny (model prog w) A (setNext d slot i ep) R E s := by
 obtain ⟨os, hos, hds, hf⟩ := hl
 unfold setNext
 refine wpAny_bind (wpAny_setState_of hos hds hf ?_)
 dsimp only
 unfold setsByText
 refine wpAny_bind (wpAny_bind (wpAny_askSetting (wpAny_pure ?_)))
 dsimp only
 rw [show (model prog w).w.params.followText "set-order" = false from hb, if_neg Bool.false_ne_true]
 refine iteF (show ¬ ((!t.plain && decide ((#[e0] : Array (Int × Value)).size > 1)) = true) by simp) ?_
 refine wpAny_bind (show wpAny _ _ (if (!t.led && !(#[e0] : Array (Int × Value)).isEmpty) = true then _ else _) _ _ s from ?_)
 refine iteF (by rw [hled]; simp) ?_
 refine wpAny_pure (wpAny_pure ?_)
 have hbel : SetTable.below #[j] slot = if j < slot then 1 else 0 := by
   unfold SetTable.below
   show SetTable.below.go #[j] slot 1 0 1 = _
   unfold SetTable.below.go
   by_cases hjs : j < slot
   · simp [hjs, SetTable.below.go]
   simp [hjs, SetTable.below.go]
 rw [hp, hbel]
 by_cases hjs : j < slot
 · rw [if_pos hjs] at h ⊢; exact h
 rw [if_neg hjs] at h ⊢; exact h
end
theorem cons_eraseIdx_perm {α : Type} : ∀ {l : List α} {i : Nat} (h : i < l.length), (l[i] :: l.eraseIdx i).Perm l
 | x :: l, 0, _ => .refl _
 | x :: l, i + 1, h => by
   have hi : i < l.length := by simpa using h
   show (l[i] :: x :: l.eraseIdx i).Perm (x :: l)
   exact (List.Perm.swap x l[i] _).trans ((cons_eraseIdx_perm hi).cons x)
theorem pickGo_perm {α : Type} (next : Nat → Nat) : ∀ (fuel k : Nat) (left : List α) (out : Array α), left.length ≤ fuel → (pickOrder.go next fuel k left out).toList.Perm (out.toList ++ left)
 | 0, k, left, out, h => by
   have : left = [] := List.eq_nil_of_length_eq_zero (by omega)
   subst this
   rw [pickOrder.go, List.append_nil]
 | fuel + 1, k, [], out, h => by
   rw [pickOrder.go]
   simp
 | fuel + 1, k, x :: left, out, h => by
   have hi : next k % (x :: left).length < (x :: left).length := Nat.mod_lt _ (by simp)
   rw [pickOrder.go, List.getElem?_eq_getElem hi]
   dsimp only
   have hl : ((x :: left).eraseIdx (next k % (x :: left).length)).length ≤ fuel := by
     rw [List.length_eraseIdx_of_lt hi]; simp only [List.length_cons] at h ⊢; omega
   refine (pickGo_perm next fuel (k + 1) _ _ hl).trans ?_
   rw [Array.toList_push, List.append_assoc]
   refine List.Perm.append_left _ ?_
   exact cons_eraseIdx_perm hi
theorem pickOrder_perm {α : Type} (next : Nat → Nat) (xs : Array α) : (pickOrder next xs).toList.Perm xs.toList := by
 unfold pickOrder
 have := pickGo_perm next xs.size 0 xs.toList #[] (by rw [Array.length_toList]; exact Nat.le_refl _)
 simpa using this
section
variable {prog : Program} {w : World} {A : Around} {E : Value → Shared → Prop} {s : Shared}
theorem wpAny_choose {M : Model} {src : PySem.Source} {n : Nat} {Q : Nat → Shared → Prop} (hn : n ≠ 0) (h : ∀ i dr, i < n → Q i { s with drawn := dr }) : wpAny M A (choose src n) Q E s :=
 fun _ _ _ => ⟨hn, h _ _ (Nat.mod_lt _ (Nat.pos_of_ne_zero hn))⟩
theorem wpAny_drawOrder {M : Model} {α : Type} : ∀ (xs : List α) (s : Shared) {Q : List α → Shared → Prop}, (∀ ys dr, ys.Perm xs → Q ys { s with drawn := dr }) → wpAny M A (drawOrder xs.length xs) Q E s
 | [], s, Q, h => by
   have e : s = { s with drawn := s.drawn } := by cases s; rfl
   exact wpAny_pure (by rw [e]; exact h [] s.drawn (.refl _))
 | x :: xs, s, Q, h => by
   show wpAny M A (choose .order (x :: xs).length >>= fun i => match (x :: xs)[i]? with
     | some y => do return y :: (← drawOrder xs.length ((x :: xs).eraseIdx i))
     | none => unsupported "internal:drawOrder") Q E s
   refine wpAny_bind (wpAny_choose (by simp) fun i dr hi => ?_)
   rw [List.getElem?_eq_getElem hi]
   dsimp only
   have hl : ((x :: xs).eraseIdx i).length = xs.length := by rw [List.length_eraseIdx_of_lt hi]; rfl
   rw [← hl]
   refine wpAny_bind (wpAny_drawOrder ((x :: xs).eraseIdx i) _ fun ys dr' hp => wpAny_pure ?_)
   exact h _ dr' ((hp.cons _).trans (cons_eraseIdx_perm hi))
termination_by xs => xs.length
decreasing_by simp_wf; rw [List.length_eraseIdx_of_lt hi]; simp
theorem iteT' {α : Type} {M : Model} {A : Around} {c : Prop} [Decidable c] {a b : Sem α} {Q : α → Shared → Prop} {E : Value → Shared → Prop} {s : Shared} (hc : c) (h : wpAny M A a Q E s) : wpAny M A (if c then a else b) Q E s := by rw [if_pos hc]; exact h
theorem walks_setT {A' : Around} (hh : A'.handled = none) {I d : Addr} (hne : d ≠ I) {es : Array (Int × Value)} {ep n : Nat} {t : SetTable} (hb : w.params.followText "set-order" = true) (hn : es.size = n) :
   Walks prog w A' I [I, d] [I] n (fun i v => ((pickOrder (w.params.setOrder d ep) es)[i]?).map (·.2) = some v) (fun i h => IsSetIt h I d (rawInt (0 : Nat)) i n ep ∧ ∃ o, h.get? d = some o ∧ o.data = .set es ep t ∧ t.fits es.size = true) where
 sub := fun b hb => by simp at hb; simp [hb]
 frame := fun _ _ _ x hk => ⟨x.1.at fun o e => hk I (by simp) o e, let ⟨o, e, r⟩ := x.2; ⟨o, hk d (by simp) o e, r⟩⟩
 item := fun i s Q E hi x hQ => by
   have hsz : (pickOrder (w.params.setOrder d ep) es).size = n := by
     rw [← Array.length_toList, (pickOrder_perm _ _).length_eq, Array.length_toList, hn]
   obtain ⟨e, he⟩ : ∃ e, (pickOrder (w.params.setOrder d ep) es)[i]? = some e := ⟨_, Array.getElem?_eq_getElem (by omega)⟩
   refine setIt_item x.1 x.2 hn (x := e.2) (next := 0) (fun A' E' R hr => setNext_text hb x.2 (by rw [he]; exact hr)) fun h' hit' hs' => ?_
   exact hQ e.2 h' s.toks (by rw [he]; rfl) ⟨hit', let ⟨o, ho, r⟩ := x.2; ⟨o, (hs'.2 d hne).trans ho, r⟩⟩ fun b o hb' eo => hs'.extBut b o (fun h => hb' (by simp [h])) eo
 done := fun s Q E x hQ => by
   have hsz : (pickOrder (w.params.setOrder d ep) es).size = n := by
     rw [← Array.length_toList, (pickOrder_perm _ _).length_eq, Array.length_toList, hn]
   refine setIt_end hh x.1 x.2 hn (fun A' E' R hr => setNext_text hb x.2 (by rw [Array.getElem?_eq_none (by omega)]; exact hr)) fun h' he' => ?_
   exact hQ h' s.toks fun b o hb' eo => he' b o (fun h => hb' (by simp [h])) eo
 self := fun _ _ _ _ x hQ => pyIter_setIt x.1 hQ
theorem walks_set1 {A' : Around} (hh : A'.handled = none) {I d : Addr} (hne : d ≠ I) {e0 : Int × Value} {ep j : Nat} {t : SetTable} (hb : w.params.followText "set-order" = false) (hp : t.place = #[j]) (hled : t.led = true) :
   Walks prog w A' I [I, d] [I] 1 (fun _ v => e0.2 = v) (fun i h => ((i = 0 ∧ IsSetIt h I d (rawInt (0 : Nat)) 0 1 ep) ∨ (i = 1 ∧ IsSetIt h I d (rawInt ((j + 1 : Nat) : Int)) 1 1 ep)) ∧ ∃ o, h.get? d = some o ∧ o.data = .set #[e0] ep t ∧ t.fits (#[e0] : Array (Int × Value)).size = true) where
 sub := fun b hb => by simp at hb; simp [hb]
 frame := fun _ _ _ x hk => ⟨x.1.imp (fun y => ⟨y.1, y.2.at fun o e => hk I (by simp) o e⟩) (fun y => ⟨y.1, y.2.at fun o e => hk I (by simp) o e⟩), let ⟨o, e, r⟩ := x.2; ⟨o, hk d (by simp) o e, r⟩⟩
 item := fun i s Q E hi x hQ => by
   rcases x with ⟨⟨hi0, hit⟩ | ⟨hi1, _⟩, hx⟩
   · subst hi0
     refine setIt_item hit hx rfl (x := e0.2) (next := j + 1) (fun A' E' R hr => setNext_one hb hx hp hled (by rw [if_neg (Nat.not_lt_zero j)]; exact hr)) fun h' hit' hs' => ?_
     exact hQ e0.2 h' s.toks rfl ⟨.inr ⟨rfl, hit'⟩, let ⟨o, ho, r⟩ := hx; ⟨o, (hs'.2 d hne).trans ho, r⟩⟩ fun b o hb' eo => hs'.extBut b o (fun h => hb' (by simp [h])) eo
   omega
 done := fun s Q E x hQ => by
   rcases x with ⟨⟨hi0, _⟩ | ⟨_, hit⟩, hx⟩
   · cases hi0
   refine setIt_end hh hit hx rfl (fun A' E' R hr => setNext_one hb hx hp hled (by rw [if_pos (Nat.lt_succ_self j)]; exact hr)) fun h' he' => ?_
   exact hQ h' s.toks fun b o hb' eo => he' b o (fun h => hb' (by simp [h])) eo
 self := fun _ _ _ _ x hQ => by
   rcases x with ⟨⟨_, hit⟩ | ⟨_, hit⟩, _⟩
   · exact pyIter_setIt hit hQ
   exact pyIter_setIt hit hQ
theorem walks_setD {A' : Around} (hh : A'.handled = none) {I d P : Addr} (hne : d ≠ I) (hnP : P ≠ I) {es : Array (Int × Value)} {ep n pk : Nat} {t : SetTable} {ps : List Nat} (hps : ps.Perm (List.range n)) (hn : es.size = n) :
   Walks prog w A' I [I, d, P] [I] n (fun i v => ∃ p, ps[i]? = some p ∧ (es[p]?).map (·.2) = some v) (fun i h => IsSetIt h I d (.ref P) i n ep ∧ (∃ o, h.get? d = some o ∧ o.data = .set es ep t ∧ t.fits es.size = true) ∧ ∃ op, h.get? P = some op ∧ op.data = .seq (ps.map fun (p : Nat) => rawInt (p : Int)).toArray pk) where
 sub := fun b hb => by simp at hb; simp [hb]
 frame := fun _ _ _ x hk => ⟨x.1.at fun o e => hk I (by simp) o e, (let ⟨o, e, r⟩ := x.2.1; ⟨o, hk d (by simp) o e, r⟩), let ⟨o, e, r⟩ := x.2.2; ⟨o, hk P (by simp) o e, r⟩⟩
 item := fun i s Q E hi x hQ => by
   have hsz : ps.length = n := by rw [hps.length_eq, List.length_range]
   have hpi : ps[i]? = some (ps[i]'(by omega)) := List.getElem?_eq_getElem (by omega)
   generalize ps[i]'(by omega) = p at hpi
   have hpn : p < n := List.mem_range.mp (hps.mem_iff.mp (List.mem_of_getElem? hpi))
   obtain ⟨e, he⟩ : ∃ e, es[p]? = some e := ⟨_, Array.getElem?_eq_getElem (by omega)⟩
   refine setItD_item (pl := p) (hsh := e.1) (x := e.2) x.1 x.2.1 hn x.2.2 (by rw [List.getElem?_toArray, List.getElem?_map, hpi]; rfl) he fun h' hit' hs' => ?_
   exact hQ e.2 h' s.toks ⟨p, hpi, by rw [he]; rfl⟩ ⟨hit', (let ⟨o, ho, r⟩ := x.2.1; ⟨o, (hs'.2 d hne).trans ho, r⟩), let ⟨o, ho, r⟩ := x.2.2; ⟨o, (hs'.2 P hnP).trans ho, r⟩⟩ fun b o hb' eo => hs'.extBut b o (fun h => hb' (by simp [h])) eo
 done := fun s Q E x hQ => by
   have hsz : ps.length = n := by rw [hps.length_eq, List.length_range]
   refine setItD_end hh x.1 x.2.1 hn x.2.2 (by rw [List.getElem?_toArray, List.getElem?_map, List.getElem?_eq_none (by omega)]; rfl) fun h' he' => ?_
   exact hQ h' s.toks fun b o hb' eo => he' b o (fun h => hb' (by simp [h])) eo
 self := fun _ _ _ _ x hQ => pyIter_setIt x.1 hQ
end
theorem strs_perm {vs : List Value} {qs : List (Str × Tok)} (h : vs.Perm (qs.map fun z => Value.str z.1 z.2)) : ∃ rs : List (Str × Tok), vs = rs.map (fun z => Value.str z.1 z.2) ∧ (rs.map (·.1)).Perm (qs.map (·.1)) := by
 have hall : ∀ v ∈ vs, ∃ z : Str × Tok, v = Value.str z.1 z.2 := fun v hv => by
   obtain ⟨z, _, e⟩ := List.mem_map.mp (h.mem_iff.mp hv); exact ⟨z, e.symm⟩
 obtain ⟨rs, hr⟩ : ∃ rs : List (Str × Tok), vs = rs.map (fun z => Value.str z.1 z.2) := by
   clear h
   induction vs with
   | nil => exact ⟨[], rfl⟩
   | cons v r ih =>
     obtain ⟨z, rfl⟩ := hall v (.head _)
     obtain ⟨rs, rfl⟩ := ih fun v hv => hall v (.tail _ hv)
     exact ⟨z :: rs, rfl⟩
 refine ⟨rs, hr, ?_⟩
 rw [hr] at h
 have h2 := h.map (fun v : Value => match v with | .str x _ => x | _ => Str.empty)
 rw [List.map_map, List.map_map] at h2
 exact h2
theorem wpAny_drawOrderN {M : Model} {A : Around} {E : Value → Shared → Prop} {α : Type} {xs : List α} {n : Nat} {s : Shared} {Q : List α → Shared → Prop} (hn : xs.length = n) (h : ∀ ys dr, ys.Perm xs → Q ys { s with drawn := dr }) : wpAny M A (drawOrder n xs) Q E s := by
 subst hn; exact wpAny_drawOrder xs s h
theorem Walks.monoP {prog : Program} {w : World} {A : Around} {I : Addr} {fp wr : List Addr} {n : Nat} {P P' : Nat → Value → Prop} {St : Nat → Heap → Prop} (W : Walks prog w A I fp wr n P St) (hP : ∀ i v, i < n → P i v → P' i v) : Walks prog w A I fp wr n P' St where
 sub := W.sub
 frame := W.frame
 item := fun i s Q E hi x hQ => W.item i s Q E hi x fun v h' tk hp => hQ v h' tk (hP i v hi hp)
 done := W.done
 self := W.self
section
variable {prog : Program} {w : World} {A : Around} {E : Value → Shared → Prop} {s : Shared}
theorem pyIter_strSet {d : Addr} {o : Obj} {ys : List Str} {K : Value → Shared → Prop} (ho : s.heap.get? d = some o) (hs : StrSet prog w o ys) (hne : ys ≠ []) (hyb : ys.length ≤ 60)
   (h : ∀ (g : Heap) dr (I : Addr) (fp : List Addr) (zs : List (Str × Tok)) (St : Nat → Heap → Prop), (zs.map (·.1)).Perm ys → (∀ A' : Around, A'.handled = none → Walks prog w A' I fp [I] ys.length (fun i v => (zs[i]?).map (fun z => Value.str z.1 z.2) = some v) St) → St 0 g →
     (∀ b ∈ fp, b < g.objs.size) → (∀ b ∈ fp, b = d ∨ s.heap.objs.size ≤ b) → I ∈ fp → (∀ b o, s.heap.get? b = some o → g.get? b = some o) → (∃ oI, g.get? I = some oI ∧ oI.cls = .type "set_iterator") → K (.ref I) { s with heap := g, drawn := dr }) :
   wpAny (model prog w) A (pyIter (.ref d)) K E s := by
 (revert ho hs hne hyb h; revert prog w A E s d o ys K; with_reducible refine (no_implicit_lambda% (Drk5.all (by kpf_c) ((?_ : All5 _) _ _ _ _ _))); refine fun prog w A E s => Ap5.mk ?_; with_reducible refine (no_implicit_lambda% (Drk4.all (by kpf_c) ((?_ : All4 _) _ _ _ _))); refine fun d o ys K => Ap4.mk ?_; intros ho hs hne hyb h)
 obtain ⟨hex, es, ep, t, hd, hf, hel, ⟨zs, hz, hp⟩, hled, hpl⟩ := hs
 (revert hd hf hel hz hp hled hpl; revert es ep t zs; with_reducible refine (no_implicit_lambda% (Drk4.all (by kpf_c) ((?_ : All4 _) _ _ _ _))); refine fun es ep t zs => Ap4.mk ?_; intros hd hf hel hz hp hled hpl)
 have hsz : es.size = ys.length := by
   have h1 := congrArg List.length hz
   have h2 := hp.length_eq
   rw [lM, lM, Array.length_toList] at h1
   rw [lM] at h2
   omega
 have hzl : zs.length = ys.length := by have h2 := hp.length_eq; rw [lM] at h2; exact h2
 have hT : s.TypeIs (.ref d) "set" := ⟨o, ho, hex.1⟩
 have hdl : d < s.heap.objs.size := Heap.lt_size ho
 refine wpAny_pyIter_slot hT PySem.F.slot_set_iter (wpAny_call_entry PySem.F.slot_set_iter hT set_entry_iter ?_ (PySem.F.args_set_iter_1 _))
 unfold Builtin.«frozenset.__iter__»
 refine wpAny_bind (m := Builtin.Frozenset.slot0 "__iter__" _) (wpAny_of_eq (a := d) rfl ?_)
 refine wpAny_bind (m := Builtin.Frozenset.sizeOf d) ?_
 unfold Builtin.Frozenset.sizeOf
 refine wpAny_bind (wpAny_setEntries_of ho hd hf (wpAny_pure ?_))
 refine wpAny_bind (m := setDrawn d) ?_
 unfold setDrawn
 refine wpAny_bind (wpAny_setState_of ho hd hf ?_)
 dsimp only
 unfold setsByText
 refine wpAny_bind (wpAny_bind (wpAny_askSetting (wpAny_pure ?_)))
 dsimp only
 refine wpAny_pure ?_
 have hLive : ∀ (g : Heap), (∀ b o, s.heap.get? b = some o → g.get? b = some o) → ∃ o, g.get? d = some o ∧ o.data = .set es ep t ∧ t.fits es.size = true := fun g hk => ⟨o, hk d o ho, hd, hf⟩
 cases hb : w.params.followText "set-order" with
 | true =>
   rw [show (model prog w).w.params.followText "set-order" = true from hb]
   refine iteF (by simp) (wpAny_bind (wpAny_pure ?_))
   refine wpAny_bind (wpAny_setEpoch_of ho hd hf ?_)
   refine wpAny_bind (wpAny_newObj_type (wpAny_pure ⟨_, rfl, "set_iterator", _, ⟨_, Heap.get?_push_size _ rfl, rfl⟩, si_slot_next.lookup, ?_⟩) (by size_fits))
   obtain ⟨rs, hr, hrp⟩ := strs_perm (vs := (pickOrder (w.params.setOrder d ep) es).toList.map (·.2)) (qs := zs) (by rw [← hz]; exact (pickOrder_perm _ _).map _)
   (revert hr hrp; revert rs; tb_start; refine fun rs => Ap.mk ?_; intros hr hrp)
   have e : s = { s with drawn := s.drawn } := by cases s; rfl
   have key := h (s.heap.push { cls := .type "set_iterator", data := .fields #[rawInt 0, rawInt 0, .ref d, rawInt es.size, rawInt ep] }) s.drawn s.heap.objs.size [s.heap.objs.size, d] rs _ (hrp.trans hp)
     (fun A' hh => Walks.monoP (walks_setT hh (Nat.ne_of_lt hdl) hb hsz) (fun i v _ hv => ?_)) ⟨⟨_, Heap.get?_push_size _ rfl, rfl, ?_⟩, hLive _ fun b o e => Heap.get?_push_of_some _ e⟩ (fun b hb => ?_) (fun b hb => ?_) (.head _) (fun b o e => Heap.get?_push_of_some _ e) ⟨_, Heap.get?_push_size _ rfl, rfl⟩
   · exact key
   · rw [← hv]
     have := congrArg (fun l : List Value => l[i]?) hr
     rw [List.getElem?_map, List.getElem?_map, Array.getElem?_toList] at this
     exact this.symm
   · rw [hsz]; rfl
   · rw [Heap.size_push]
     rcases mc hb with rfl | hb
     · exact Nat.lt_succ_self _
     rw [ms hb]; exact Nat.lt_succ_of_lt hdl
   rcases mc hb with rfl | hb
   · exact .inr (Nat.le_refl _)
   exact .inl (ms hb)
 | false =>
   rw [show (model prog w).w.params.followText "set-order" = false from hb]
   by_cases h1 : ys.length ≤ 1
   · have hone : ys.length = 1 := by
       cases ys with
       | nil => exact absurd rfl hne
       | cons a r => simp only [List.length_cons] at h1 ⊢; omega
     obtain ⟨e0, he0⟩ := arr_one (hsz.trans hone)
     (revert he0; revert e0; tb_start; refine fun e0 => Ap.mk ?_; intros he0)
     subst he0
     obtain ⟨j, hj⟩ : ∃ j, t.place = #[j] := by
       have hps : t.place.size = 1 := by
         unfold SetTable.fits at hf
         rw [Bool.and_eq_true] at hf
         exact eq_of_beq hf.1
       exact arr_one hps
     refine iteF (show ¬ ((!false && (!t.plain && decide ((#[e0] : Array (Int × Value)).size > 1))) = true) by simp) (wpAny_bind (wpAny_pure ?_))
     refine wpAny_bind (wpAny_setEpoch_of ho hd hf ?_)
     refine wpAny_bind (wpAny_newObj_type (wpAny_pure ⟨_, rfl, "set_iterator", _, ⟨_, Heap.get?_push_size _ rfl, rfl⟩, si_slot_next.lookup, ?_⟩) (by size_fits))
     have e : s = { s with drawn := s.drawn } := by cases s; rfl
     have W : ∀ A' : Around, A'.handled = none → Walks prog w A' s.heap.objs.size [s.heap.objs.size, d] [s.heap.objs.size] ys.length (fun i v => (zs[i]?).map (fun z => Value.str z.1 z.2) = some v) _ := fun A' hh => by
       rw [hone]
       refine Walks.monoP (walks_set1 (e0 := e0) (ep := ep) hh (Nat.ne_of_lt hdl) hb hj (by rw [hled, hb]; rfl)) fun i v hi hv => ?_
       (revert hj hh hi hv; revert j A' i v; with_reducible refine Drk4.all (by kpf_c) ((?_ : All4 _) _ _ _ _); refine fun j A' i v => Ap4.mk ?_; intros hj hh hi hv)
       have hi0 : i = 0 := by omega
       subst hi0
       rw [← hv]
       have := congrArg (fun l : List Value => l[0]?) hz
       rw [List.getElem?_map, List.getElem?_map] at this
       exact this.symm
     have key := h (s.heap.push { cls := .type "set_iterator", data := .fields #[rawInt 0, rawInt 0, .ref d, rawInt 1, rawInt ep] }) s.drawn s.heap.objs.size [s.heap.objs.size, d] zs _ hp
       W ⟨.inl ⟨rfl, _, Heap.get?_push_size _ rfl, rfl, rfl⟩, hLive _ fun b o e => Heap.get?_push_of_some _ e⟩ (fun b hb => ?_) (fun b hb => ?_) (.head _) (fun b o e => Heap.get?_push_of_some _ e) ⟨_, Heap.get?_push_size _ rfl, rfl⟩
     · exact key
     · rw [Heap.size_push]
       rcases mc hb with rfl | hb
       · exact Nat.lt_succ_self _
       rw [ms hb]; exact Nat.lt_succ_of_lt hdl
     rcases mc hb with rfl | hb
     · exact .inr (Nat.le_refl _)
     exact .inl (ms hb)
   · have hp0 : t.plain = false := hpl hne
     refine iteT' (show (!false && (!t.plain && decide (es.size > 1))) = true by rw [hp0]; simp; omega) ?_
     refine wpAny_bind (wpAny_drawOrderN (List.length_range) fun ps dr hps => ?_)
     (revert hps; revert ps dr; with_reducible refine Drk2.all (by kpf_c) ((?_ : All2 _) _ _); refine fun ps dr => Ap2.mk ?_; intros hps)
     refine wpAny_bind (wpAny_newTuple ?_ (by show (List.map _ ps).length ≤ _; rw [lM, hps.length_eq, List.length_range, sizeLine_eq]; omega))
     refine wpAny_bind (wpAny_setEpoch_of (Heap.get?_push_of_some _ ho) hd hf ?_)
     refine wpAny_bind (wpAny_newObj_type (wpAny_pure ⟨_, rfl, "set_iterator", _, ⟨_, Heap.get?_push_size _ rfl, rfl⟩, si_slot_next.lookup, ?_⟩) (by size_fits))
     have hps' : ps.Perm (List.range ys.length) := by rw [← hsz]; exact hps
     let rs : List (Str × Tok) := ps.map fun p => zs.getD p (Str.empty, 0)
     have hrs : (rs.map (·.1)).Perm (zs.map (·.1)) := by
       refine List.Perm.map _ ?_
       refine (hps'.map _).trans (List.Perm.of_eq ?_)
       rw [← hzl]
       refine List.ext_getElem (by simp) fun i h1 h2 => ?_
       (revert h1 h2; revert i; tb_start; refine fun i => Ap.mk ?_; intros h1 h2)
       simp only [List.getElem_map, List.getElem_range, List.getD_eq_getElem?_getD]
       rw [List.getElem?_eq_getElem h2]; rfl
     let g1 := s.heap.push { cls := .type "tuple", data := .seq (List.map (fun (i : Nat) => rawInt (i : Int)) ps).toArray }
     have hk1 : ∀ b o, s.heap.get? b = some o → (g1.push { cls := .type "set_iterator", data := .fields #[.ref s.heap.objs.size, rawInt 0, .ref d, rawInt es.size, rawInt ep] }).get? b = some o := fun b o e => Heap.get?_push_of_some _ (Heap.get?_push_of_some _ e)
     have hg1 : g1.objs.size = s.heap.objs.size + 1 := Heap.size_push ..
     have key := h (g1.push { cls := .type "set_iterator", data := .fields #[.ref s.heap.objs.size, rawInt 0, .ref d, rawInt es.size, rawInt ep] }) dr g1.objs.size [g1.objs.size, d, s.heap.objs.size] rs _ (hrs.trans hp)
       (fun A' hh => Walks.monoP (walks_setD (pk := 0) (P := s.heap.objs.size) hh (by rw [hg1]; exact Nat.ne_of_lt (Nat.lt_succ_of_lt hdl)) (by rw [hg1]; exact Nat.ne_of_lt (Nat.lt_succ_self _)) hps' hsz) (fun i v hi hv => ?_)) ⟨⟨_, Heap.get?_push_size _ rfl, rfl, ?_⟩, hLive _ hk1, ⟨_, Heap.get?_push_of_some _ (Heap.get?_push_size _ rfl), rfl⟩⟩ (fun b hb => ?_) (fun b hb => ?_) (.head _) hk1 ⟨_, Heap.get?_push_size _ rfl, rfl⟩
     · exact key
     · obtain ⟨p, hpi, hpv⟩ := hv
       (revert hh hi hpi hpv; revert A' i v p; with_reducible refine Drk4.all (by kpf_c) ((?_ : All4 _) _ _ _ _); refine fun A' i v p => Ap4.mk ?_; intros hh hi hpi hpv)
       have hpn : p < ys.length := List.mem_range.mp (hps'.mem_iff.mp (List.mem_of_getElem? hpi))
       have e1 : rs[i]? = some (zs.getD p (Str.empty, 0)) := by show (ps.map _)[i]? = _; rw [List.getElem?_map, hpi]; rfl
       rw [e1, ← hpv]
       have := congrArg (fun l : List Value => l[p]?) hz
       rw [List.getElem?_map, List.getElem?_map, Array.getElem?_toList] at this
       rw [this]
       have e2 : zs[p]? = some (zs.getD p (Str.empty, 0)) := by simp [show p < zs.length by omega]
       rw [e2]
     · rw [hsz]; rfl
     · rw [Heap.size_push, hg1]
       rcases mc hb with rfl | hb
       · rw [hg1]; exact Nat.lt_succ_self _
       rcases mc hb with rfl | hb
       · exact Nat.lt_succ_of_lt (Nat.lt_succ_of_lt hdl)
       rw [ms hb]; exact Nat.lt_succ_of_lt (Nat.lt_succ_self _)
     rcases mc hb with rfl | hb
     · rw [hg1]; exact .inr (Nat.le_succ _)
     rcases mc hb with rfl | hb
     · exact .inl rfl
     exact .inr (Nat.le_of_eq (ms hb).symm)
theorem set_hint {r : Addr} (hT : s.TypeIs (.ref r) "set") {Q : Bool → Shared → Prop} (h : Q false s) : wpAny (model prog w) A (Builtin.List.listLengthHint (.ref r)) Q E s := by
 unfold Builtin.List.listLengthHint
 refine wpAny_bind (wpAny_specialOf hT set_len_look ?_)
 generalize hid : ("set.__len__" : String) = id0
 wp_delta
 rw [show splitId id0 = some ("set", "__len__") from by subst hid; decide +kernel]
 subst hid
 refine wpAny_bind (wpAny_isInstance (T := "set") (b := true) hT (by rw [isSubtype_type]; kernel_rfl) ?_)
 refine wpAny_ite_split (fun hab => absurd hab (by decide)) (fun _ => ?_)
 refine wpAny_ite_split (fun _ => ?_) (fun hab => absurd (by decide +kernel) hab)
 refine wpAny_bind (wpAny_typeOf hT ?_)
 exact wpAny_pure h
theorem collect_strSet {d : Addr} {o : Obj} {ys : List Str} {R : List Value → Shared → Prop} (hh : A.handled = none) (ho : s.heap.get? d = some o) (hs : StrSet prog w o ys) (hne : ys ≠ []) (hyb : ys.length ≤ 60)
   (h : ∀ (h' : Heap) (tk : Nat) dr (zs : List (Str × Tok)), (zs.map (·.1)).Perm ys → (∀ b o, s.heap.get? b = some o → h'.get? b = some o) → s.toks ≤ tk → R (zs.map fun z => Value.str z.1 z.2) { s with heap := h', toks := tk, drawn := dr }) :
   wpAny (model prog w) A (collect (.ref d)) R E s := by
 (revert hh ho hs hne hyb h; revert prog w A E s d o ys R; with_reducible refine (no_implicit_lambda% (Drk5.all (by kpf_c) ((?_ : All5 _) _ _ _ _ _))); refine fun prog w A E s => Ap5.mk ?_; with_reducible refine (no_implicit_lambda% (Drk4.all (by kpf_c) ((?_ : All4 _) _ _ _ _))); refine fun d o ys R => Ap4.mk ?_; intros hh ho hs hne hyb h)
 have hdl : d < s.heap.objs.size := Heap.lt_size ho
 unfold collect
 refine wpAny_bind (wpAny_runValue (codeAny_builtin entry_proto_collect' ?_))
 rw [Around.under_plainId PySem.F.plain_proto_collect _]
 show wpAny _ A.in1 (newList [] >>= fun l => again (.builtin "list.__iadd__" ⟨[l, .ref d], []⟩)) _ _ s
 refine wpAny_bind (wpAny_newObj_type ?_)
 refine wpAny_pure ⟨plainId_quiet PySem.F.plain_list_iadd _, codeAny_builtin entry_list_iadd' ?_⟩
 rw [Around.under_plainId PySem.F.plain_list_iadd _]
 have hS₁ : (s.heap.push { cls := .type "list", data := .seq ([] : List Value).toArray }).get? s.heap.objs.size = some { cls := .type "list", data := .seq #[] } := Heap.get?_push_size _ rfl
 show wpAny _ A.in1 (Builtin.List.listExtendWith (.ref s.heap.objs.size) (.ref d) (.ref s.heap.objs.size)) _ _ _
 unfold Builtin.List.listExtendWith
 have ho1 : (s.heap.push { cls := .type "list", data := .seq ([] : List Value).toArray }).get? d = some o := Heap.get?_push_of_some _ ho
 refine wpAny_bind (wpAny_typeOf (T := "set") ⟨o, ho1, hs.1.1⟩ ?_)
 have h1 : Builtin.List.listSameRef (.ref s.heap.objs.size) (.ref d) = false := by simp [Builtin.List.listSameRef]; exact Nat.ne_of_gt hdl
 have h2 : (Value.type "set" == Value.type "list") = false := by decide
 have h3 : (Value.type "set" == Value.type "tuple") = false := by decide
 simp only [h1, h2, h3, Bool.or_false, Bool.false_eq_true, if_false]
 refine wpAny_bind (pyIter_strSet ho1 hs hne hyb fun g dr I fp zs St hzp W st0 hfb hfo hIf hk hI => ?_)
 (revert hzp W st0 hfb hfo hIf hk hI; revert g dr I fp zs St; with_reducible refine (no_implicit_lambda% (Drk6.all (by kpf_c) ((?_ : All6 _) _ _ _ _ _ _))); refine fun g dr I fp zs St => Ap6.mk ?_; intros hzp W st0 hfb hfo hIf hk hI)
 dsimp only at hk hfo ⊢
 refine wpAny_bind (wpAny_holding (set_hint ⟨o, hk d o ho1, hs.1.1⟩ ?_))
 have hS₂ := hk _ _ hS₁
 have hSf : s.heap.objs.size ∉ fp := fun hm => by
   rcases hfo _ hm with e | e
   · exact Nat.ne_of_gt hdl e
   rw [Heap.size_push] at e; exact absurd e (Nat.not_le.mpr (Nat.lt_succ_self _))
 have fin : ∀ (g2 : Heap) (c : Nat), St 0 g2 → g2.get? s.heap.objs.size = some { cls := .type "list", data := .seq #[] c } → (∀ b o, b ≠ s.heap.objs.size → g.get? b = some o → g2.get? b = some o) →
     codeAny (model prog w) A (.builtin "list.extend.loop" ⟨[.ref s.heap.objs.size, .ref I, .ref s.heap.objs.size], []⟩) (fun r s' => match r with
       | .ok (.ret v) => wpAny (model prog w) A (match v with
         | .ref a => do match (← load a).data with
           | .seq xs _ => pure xs.toList
           | _ => unsupported "internal:collect"
         | _ => unsupported "internal:collect") R E s'
       | .ok _ => False
       | .error e => E e s') { s with heap := g2, drawn := dr } := by
   rintro g2 c hst hS hk2
   refine codeAny_extend_loopS ((W A.in1 hh).toS) (by rw [sizeLine_eq]; omega) s.heap.objs.size hSf (.ref s.heap.objs.size) ys.length 0 _ #[] c (Nat.sub_zero _) (Nat.zero_le _) hst hS (ItemsOf.nil _) fun s' acc' c' hm hS' hit => ?_
   (revert hst hS hk2 hm hS' hit; revert g2 c s' acc' c'; with_reducible refine Drk5.all (by kpf_c) ((?_ : All5 _) _ _ _ _ _); refine fun g2 c s' acc' c' => Ap5.mk ?_; intros hst hS hk2 hm hS' hit)
   dsimp only
   refine wpAny_bind (wpAny_load hS' (wpAny_pure ?_))
   have hzl : zs.length = ys.length := by have h2 := hzp.length_eq; rw [lM] at h2; exact h2
   have hacc : acc'.toList = zs.map fun z => Value.str z.1 z.2 := by
     refine List.ext_getElem? fun j => ?_
     (revert j; tb_start; refine fun j => Ap.mk ?_)
     rw [Array.getElem?_toList, List.getElem?_map]
     by_cases hj : j < ys.length
     · have hj' : j < acc'.size := by rw [hit.1]; exact hj
       rw [hit.2 j _ (Array.getElem?_eq_getElem hj'), Array.getElem?_eq_getElem hj']
     rw [Array.getElem?_eq_none (by rw [hit.1]; omega), List.getElem?_eq_none (by omega)]; rfl
   rw [hacc]
   obtain ⟨hh', gg, dd, tt, oo⟩ := s'
   (revert hm hS'; revert hh' gg dd tt oo; with_reducible refine Drk5.all (by kpf_c) ((?_ : All5 _) _ _ _ _ _); refine fun hh' gg dd tt oo => Ap5.mk ?_; intros hm hS')
   obtain ⟨m1, m2, m3, m4, m5⟩ := hm
   dsimp only at m1 m2 m3 m4 m5
   subst m2 m3 m4
   refine h hh' tt _ zs hzp (fun b ob e => m1 b ob ?_ (hk2 b ob ?_ (hk b ob (Heap.get?_push_of_some _ e)))) m5
   · rintro hb
     rcases mc hb with rfl | hb
     · exact absurd (Heap.lt_size e) (Nat.lt_irrefl _)
     rw [ms hb] at e
     rcases hfo _ hIf with e' | e'
     · obtain ⟨oI, hoI, hcI⟩ := hI
       (revert b ob oI; with_reducible refine Drk2.all (by kpf_c) ((?_ : All2 _) _ _); refine fun b ob => Ap2.mk ?_; intros e _ hb; tb_start; refine fun oI => Ap.mk ?_; intros hoI hcI)
       rw [e', hk d o ho1] at hoI
       have := Option.some.inj hoI
       have hc' : Value.type "set" = Value.type "set_iterator" := by rw [← hs.1.1, this, hcI]
       exact absurd hc' (by decide)
     rw [Heap.size_push] at e'
     have := Heap.lt_size e
     exact absurd (Nat.lt_of_lt_of_le this (Nat.le_of_succ_le e')) (Nat.lt_irrefl _)
   rintro hb
   subst hb
   exact absurd (Heap.lt_size e) (Nat.lt_irrefl _)
 refine wpAny_ite_split (fun _ => ?_) (fun _ => ?_)
 · refine wpAny_bind (wpAny_rule ?_)
   refine wpAny_bind ?_
   show wpAny _ _ (updateSeq s.heap.objs.size (·.push .none) >>= fun _ => updateSeq s.heap.objs.size (·.pop)) _ _ _
   refine wpAny_bind (wpAny_updateSeq hS₂ rfl ?_)
   have hS3 := Heap.get?_update_self (Obj.mapSeq (·.push Value.none)) hS₂ rfl
   refine wpAny_updateSeq (hz := by seq_fits) hS3 rfl ?_
   have hS4 := Heap.get?_update_self (Obj.mapSeq (·.pop)) hS3 rfl
   refine wpAny_pure ⟨plainId_quiet PySem.F.plain_extend_loop _, codeAny_mono (fin _ _ ?_ hS4 fun b ob hb e => ?_) fun r s' hr => ?_⟩
   · refine (W A hh).frame 0 g _ st0 fun b hb ob e => ?_
     (revert hb e; revert b ob; with_reducible refine Drk2.all (by kpf_c) ((?_ : All2 _) _ _); refine fun b ob => Ap2.mk ?_; intros hb e)
     have hbS : b ≠ s.heap.objs.size := fun q => hSf (q ▸ hb)
     exact (Heap.get?_update_other _ _ (Ne.symm hbS)).trans ((Heap.get?_update_other _ _ (Ne.symm hbS)).trans e)
   · exact (Heap.get?_update_other _ _ (Ne.symm hb)).trans ((Heap.get?_update_other _ _ (Ne.symm hb)).trans e)
   exact hr
 refine wpAny_pure ⟨plainId_quiet PySem.F.plain_extend_loop _, codeAny_mono (fin g 0 st0 hS₂ fun _ _ _ e => e) fun r s' hr => ?_⟩
 exact hr
end
section
variable {prog : Program} {w : World} {A : Around} {E : Value → Shared → Prop} {s : Shared}
theorem forIn_inv {M : Model} {A : Around} {E : Value → Shared → Prop} {n : Nat} {f : Nat → PUnit → Sem (ForInStep PUnit)} {Q : PUnit → Shared → Prop} {s : Shared} (I : Nat → Shared → Prop) (h0 : I 0 s)
   (hs : ∀ i s', i < n → I i s' → wpAny M A (f i ⟨⟩) (fun r s'' => r = .yield ⟨⟩ ∧ I (i + 1) s'') E s') (hd : ∀ s', I n s' → Q ⟨⟩ s') : wpAny M A (forIn [0:n] PUnit.unit f) Q E s := by
 rw [Std.Legacy.Range.forIn_eq_forIn_range']
 have hsz : ([0:n] : Std.Legacy.Range).size = n := by simp [Std.Legacy.Range.size]
 show wpAny M A (forIn (List.range' 0 ([0:n] : Std.Legacy.Range).size 1) PUnit.unit f) Q E s
 rw [hsz]
 have go : ∀ (k a : Nat) (s' : Shared), a + k = n → I a s' → wpAny M A (forIn (List.range' a k 1) PUnit.unit f) Q E s' := by
   rintro k
   induction k with
   | zero => rintro a s' hk hI; rw [List.range'_zero, List.forIn_nil]; exact wpAny_pure (hd s' (by rw [← hk]; exact hI))
   | succ k ih =>
     rintro a s' hk hI
     rw [List.range'_succ, List.forIn_cons]
     refine wpAny_bind (wpAny_mono (hs a s' (by omega) hI) (fun r s'' hr => ?_) fun _ _ e => e)
     obtain ⟨rfl, hI'⟩ := hr
     exact ih (a + 1) s'' (by omega) hI'
 exact go n 0 s (by omega) h0
def keysTo (kvs : List (Str × Value)) (y : Str) (i : Nat) : List Str := ((kvs.take i).map (·.1)).reverse ++ [y]
theorem keysTo_succ {kvs : List (Str × Value)} {y : Str} {i : Nat} {k : Str} {v : Value} (h : kvs[i]? = some (k, v)) : keysTo kvs y (i + 1) = k :: keysTo kvs y i := by
 unfold keysTo
 rw [List.take_add_one, h, List.map_append, List.reverse_append]; rfl
theorem keysTo_new {kvs : List (Str × Value)} {y : Str} {i : Nat} {k : Str} {v : Value} (hnd : (kvs.map (·.1)).Nodup) (hy : ∀ p ∈ kvs, p.1 ≠ y) (h : kvs[i]? = some (k, v)) : k ∉ keysTo kvs y i := by
 rintro hk
 rcases ma hk with hk | hk
 · have hk' := List.mem_reverse.mp hk
   obtain ⟨p, hp, e⟩ := List.mem_map.mp hk'
   obtain ⟨j, hj, ej⟩ := List.mem_take_iff_getElem.mp hp
   have hij : j < i := by omega
   have hil : i < kvs.length := by
     cases hlt : decide (i < kvs.length) with
     | true => exact of_decide_eq_true hlt
     | false => rw [List.getElem?_eq_none (by simpa using hlt)] at h; cases h
   have hki : kvs[i] = (k, v) := Option.some.inj ((List.getElem?_eq_getElem hil).symm.trans h)
   have := List.pairwise_iff_getElem.mp hnd j i (by rw [lM]; omega) (by rw [lM]; exact hil) hij
   rw [List.getElem_map, List.getElem_map, hki] at this
   exact this (by rw [ej]; exact e)
 exact hy (k, v) (List.mem_of_getElem? h) (ms hk)
theorem keysTo_len {kvs : List (Str × Value)} {y : Str} {i : Nat} : (keysTo kvs y i).length ≤ kvs.length + 1 := by
 unfold keysTo; rw [lA, List.length_reverse, lM, List.length_take, List.length_singleton]; omega
theorem star_loop {a d I : Addr} {y : Str} {kvs : List (Str × Value)} {ep : Nat} {R : Result → Shared → Prop} (hh : A.handled = none) (had : a ≠ d) (haI : a ≠ I) (hdI : d ≠ I) (hy : ∀ p ∈ kvs, p.1 ≠ y) (hn : kvs.length ≤ 20)
   (hR : ∀ h' tk o', (∀ b o, b ≠ a → b ≠ I → s.heap.get? b = some o → h'.get? b = some o) → s.toks ≤ tk → h'.get? a = some o' → StrSet prog w o' (keysTo kvs y kvs.length) → R (.ok (.ret .none)) { s with heap := h', toks := tk }) :
   ∀ (k i : Nat) (h₁ : Heap) (tk : Nat) (o : Obj), kvs.length - i = k → i ≤ kvs.length → s.toks ≤ tk → (∀ b o, b ≠ a → b ≠ I → s.heap.get? b = some o → h₁.get? b = some o) → h₁.IsKeyIter I d i kvs.length ep → h₁.DictAt (strKind prog w) d kvs ep →
     h₁.get? a = some o → StrSet prog w o (keysTo kvs y i) → codeAny (model prog w) A (.builtin "set.update.loop" ⟨[.ref a, .ref I], []⟩) R { s with heap := h₁, toks := tk } := by
 rintro k
 induction k with
 | zero =>
   rintro i h₁ tk o hk hi htk hkp hit hD ho hs
   have hin : i = kvs.length := by omega
   subst hin
   refine codeAny_builtin F.entry_set_update_loop ?_
   rw [Around.under_plainId F.plain_set_update_loop _]
   show wpAny _ A.in1 (pyNext (.ref I) >>= _) _ _ _
   refine wpAny_bind (wpAny_pyNext_dict_end (s := { s with heap := h₁, toks := tk }) (A := A.in1) hh hit hD (by simp) fun h' he' => ?_)
   show wpAny _ A.in1 (ret Value.none) _ _ _
   exact wpAny_pure (hR h' tk o (fun b ob h1 h2 e => he' b ob h2 (hkp b ob h1 h2 e)) htk (he' a o haI ho) hs)
 | succ k ih =>
   rintro i h₁ tk o hk hi htk hkp hit hD ho hs
   have hlt : i < kvs.length := by omega
   obtain ⟨⟨x, v⟩, hx⟩ : ∃ p, kvs[i]? = some p := ⟨kvs[i], List.getElem?_eq_getElem hlt⟩
   refine codeAny_builtin F.entry_set_update_loop ?_
   rw [Around.under_plainId F.plain_set_update_loop _]
   show wpAny _ A.in1 (pyNext (.ref I) >>= _) _ _ _
   refine wpAny_bind (wpAny_pyNext_dict_item (s := { s with heap := h₁, toks := tk }) hit hD hx fun key h' hkey hit' hs' => ?_)
   obtain ⟨t, rfl⟩ := Value.isStrOf_shape hkey
   show wpAny _ A.in1 (holding [Value.str x t] (setAdd a (.str x t)) >>= _) _ _ _
   refine wpAny_bind (wpAny_holding ?_)
   have hlen := keysTo_len (kvs := kvs) (y := y) (i := i)
   refine strSet_add (s := { s with heap := h', toks := tk }) ((hs'.2 a haI).trans ho) hs (keysTo_new hD.nodup hy hx) (by have : scanBound = 4096 := rfl; omega) fun h2 o2 hsb ho2 hs2 => ?_
   have hk2 : ∀ b ob, b ≠ a → h'.get? b = some ob → h2.get? b = some ob := fun b ob hb e => (hsb.2 b hb).trans e
   refine wpAny_pure ⟨plainId_quiet F.plain_set_update_loop _, ih (i + 1) h2 (tk + 1) o2 (by rw [Nat.sub_add_eq, hk]; rfl) hlt (Nat.le_succ_of_le htk) (fun b ob h1 h2' e => hk2 b ob h1 ((hs'.2 b h2').trans (hkp b ob h1 h2' e))) ?_ ?_ ho2 (by rw [keysTo_succ hx]; exact hs2)⟩
   · obtain ⟨oi, hoi, r⟩ := hit'
     exact ⟨oi, hk2 I oi (Ne.symm haI) hoi, r⟩
   exact hD.at' fun ob e => hk2 d ob (Ne.symm had) ((hs'.2 d hdI).trans e)
theorem starDict {a d : Addr} {o : Obj} {y : Str} {kvs : List (Str × Value)} {ep : Nat} {Q : Unit → Shared → Prop} (hh : A.handled = none) (ho : s.heap.get? a = some o) (hs : StrSet prog w o [y]) (hm : s.heap.DictAt (strKind prog w) d kvs ep) (hds : (d == sysModules) = false)
   (hn : kvs.length ≤ 20) (hy : ∀ p ∈ kvs, p.1 ≠ y) (had : a ≠ d)
   (h : ∀ h' tk o', (∀ b o, b ≠ a → s.heap.get? b = some o → h'.get? b = some o) → s.toks ≤ tk → h'.get? a = some o' → StrSet prog w o' (keysTo kvs y kvs.length) → Q () { s with heap := h', toks := tk }) :
   wpAny (model prog w) A (setDisplayStar a (.ref d)) Q E s := by
 (revert hh ho hs hm hds hn hy had h; revert prog w A E s a d o y kvs ep Q; with_reducible refine (no_implicit_lambda% (Drk6.all (by kpf_c) ((?_ : All6 _) _ _ _ _ _ _))); refine fun prog w A E s a => Ap6.mk ?_; with_reducible refine (no_implicit_lambda% (Drk6.all (by kpf_c) ((?_ : All6 _) _ _ _ _ _ _))); refine fun d o y kvs ep Q => Ap6.mk ?_; intros hh ho hs hm hds hn hy had h)
 have hT : s.TypeIs (.ref d) "dict" := hm.dictOf.typeIs
 unfold setDisplayStar
 dsimp only
 refine wpAny_bind (wpAny_isInstance (T := "dict") (b := false) hT (by rw [isSubtype_type]; kernel_rfl) ?_)
 rw [if_neg Bool.false_ne_true]
 refine wpAny_bind (wpAny_isInstance (T := "dict") (b := false) hT (by rw [isSubtype_type]; kernel_rfl) ?_)
 refine wpAny_bind (wpAny_askSetting ?_)
 have hal : a < s.heap.objs.size := Heap.lt_size ho
 have hdl : d < s.heap.objs.size := hm.lt_size
 cases hb : w.params.followText "set-display-star-reads-storage" with
 | true =>
   rw [show (model prog w).w.params.followText "set-display-star-reads-storage" = true from hb, if_pos rfl]
   dsimp only
   refine wpAny_bind (wpAny_pyIter_dict hds hm ?_)
   refine wpAny_bind (wpAny_runValue ?_)
   refine codeAny_mono (star_loop (s := s) (I := s.heap.objs.size) (y := y) (kvs := kvs) (ep := ep) (R := fun r s' => r = .ok (.ret .none) ∧ ∃ h' tk o', s' = { s with heap := h', toks := tk } ∧ (∀ b o, b ≠ a → s.heap.get? b = some o → h'.get? b = some o) ∧ s.toks ≤ tk ∧ h'.get? a = some o' ∧ StrSet prog w o' (keysTo kvs y kvs.length))
     hh had (Nat.ne_of_lt hal) (Nat.ne_of_lt hdl) hy hn (fun h' tk o' hk htk ho' hs' => ⟨rfl, h', tk, o', rfl, fun b ob hb' e => hk b ob hb' (Nat.ne_of_lt (Heap.lt_size e)) e, htk, ho', hs'⟩)
     kvs.length 0 _ s.toks o (Nat.sub_zero _) (Nat.zero_le _) (Nat.le_refl _) (fun b ob _ _ e => Heap.get?_push_of_some _ e) ⟨_, Heap.get?_push_size _ rfl, rfl, rfl⟩ (hm.push _) (Heap.get?_push_of_some _ ho) hs) fun r s' hr => ?_
   obtain ⟨rfl, h', tk, o', rfl, hk, htk, ho', hs'⟩ := hr
   (revert hk htk ho' hs'; revert h' tk o'; with_reducible refine (no_implicit_lambda% (Drk3.all (by kpf_c) ((?_ : All3 _) _ _ _))); refine fun h' tk o' => Ap3.mk ?_; intros hk htk ho' hs')
   exact wpAny_pure (h h' tk o' hk htk ho' hs')
 | false =>
   rw [show (model prog w).w.params.followText "set-display-star-reads-storage" = false from hb, if_neg Bool.false_ne_true]
   dsimp only
   rw [if_neg Bool.false_ne_true]
   obtain ⟨od, es, hod, hcd, hdd, hkd, hpr, hnd⟩ := id hm
   (revert hod hcd hdd hkd hpr; revert od es; with_reducible refine Drk2.all (by kpf_c) ((?_ : All2 _) _ _); refine fun od es => Ap2.mk ?_; intros hod hcd hdd hkd hpr)
   refine wpAny_bind (wpAny_typeOf hT ?_)
   rw [if_pos (by decide)]
   refine wpAny_bind (wpAny_rule ?_)
   rw [if_neg (by rw [hds]; exact Bool.false_ne_true)]
   refine wpAny_bind (wpAny_dictEpoch hod hdd ?_)
   refine wpAny_bind (wpAny_dictEntries hod hdd ?_)
   have hsz : es.size = kvs.length := by rw [← hpr.length]; simp
   refine wpAny_bind (strSet_room ho hs (by omega) fun h1 o1 hsb1 ho1 hs1 => ?_)
   (revert hsb1 ho1 hs1; revert h1 o1; with_reducible refine Drk2.all (by kpf_c) ((?_ : All2 _) _ _); refine fun h1 o1 => Ap2.mk ?_; intros hsb1 ho1 hs1)
   refine wpAny_bind (forIn_inv (fun i s' => ∃ h' tk o', s' = { s with heap := h', toks := tk } ∧ (∀ b o, b ≠ a → s.heap.get? b = some o → h'.get? b = some o) ∧ s.toks ≤ tk ∧ h'.get? a = some o' ∧ StrSet prog w o' (keysTo kvs y i)) ⟨h1, s.toks, o1, rfl, fun b ob hb' e => (hsb1.2 b hb').trans e, Nat.le_refl _, ho1, hs1⟩ ?_ ?_)
   · rintro i s' hi ⟨h', tk, o', rfl, hk, htk, ho', hs'⟩
     (revert hi hk htk ho' hs'; revert i h' tk o'; with_reducible refine Drk4.all (by kpf_c) ((?_ : All4 _) _ _ _ _); refine fun i h' tk o' => Ap4.mk ?_; intros hi hk htk ho' hs')
     have hod' := hk d od (Ne.symm had) hod
     have hil : i < es.size := hi
     obtain ⟨⟨x, v⟩, hx⟩ : ∃ p, kvs[i]? = some p := ⟨kvs[i], List.getElem?_eq_getElem (by omega)⟩
     (revert hx; revert x v; with_reducible refine Drk2.all (by kpf_c) ((?_ : All2 _) _ _); refine fun x v => Ap2.mk ?_; intros hx)
     refine wpAny_bind (wpAny_dictEntries (s := { s with heap := h', toks := tk }) hod' hdd ?_)
     rw [Array.getElem?_eq_getElem hil]
     dsimp only
     obtain ⟨hkey, hval⟩ := hpr.get? (e := es[i]) (by simp [hil]) hx
     obtain ⟨k', hk', hh'⟩ := hkd es[i] (by simp)
     (revert hk' hh'; revert k'; tb_start; refine fun k' => Ap.mk ?_; intros hk' hh')
     have hkk : k' = x := (strKind prog w).inj _ _ _ hk' hkey
     rw [hkk] at hh'
     rw [hh']
     obtain ⟨t, ht⟩ := Value.isStrOf_shape hkey
     (revert ht; revert t; tb_start; refine fun t => Ap.mk ?_; intros ht)
     rw [ht]
     have hlen := keysTo_len (kvs := kvs) (y := y) (i := i)
     refine wpAny_bind (wpAny_holding (wpAny_bind (strSet_addHashed (s := { s with heap := h', toks := tk }) ho' hs' (keysTo_new hnd hy hx) (by have : scanBound = 4096 := rfl; omega) fun h2 o2 hsb2 ho2 hs2 => wpAny_pure ?_)))
     have hod2 : h2.get? d = some od := (hsb2.2 d (Ne.symm had)).trans hod'
     refine wpAny_bind (wpAny_dictEpoch (s := { s with heap := h2, toks := tk }) hod2 hdd ?_)
     rw [if_neg (by simp)]
     refine wpAny_pure ⟨rfl, h2, tk, o2, rfl, fun b ob hb' e => (hsb2.2 b hb').trans (hk b ob hb' e), htk, ho2, by rw [keysTo_succ hx]; exact hs2⟩
   rintro s' ⟨h', tk, o', rfl, hk, htk, ho', hs'⟩
   (revert hk htk ho' hs'; revert h' tk o'; with_reducible refine Drk3.all (by kpf_c) ((?_ : All3 _) _ _ _); refine fun h' tk o' => Ap3.mk ?_; intros hk htk ho' hs')
   rw [hsz] at hs'
   exact wpAny_pure (h h' tk o' hk htk ho' hs')
end
section
open PySem.Calls
variable {prog : Program} {w : World} {A : Around} {E : Value → Shared → Prop} {s : Shared} {h₀ : Heap} {L d : Addr} {m : Str → Option Value} {news : List (Addr × Obj)}
theorem eval_setStar {K : Frag} {e1 e2 : Expr} {pos p2 : Pos} {env : Env} {od : Obj} {y : Str} {t : Tok} {kvs : List (Str × Value)} {Q : Value → Shared → Prop} (hh : A.handled = none) (F : Fr h₀ L s.heap m) (N : News h₀ L s.heap news) (X : K.In h₀) (hc : kdsCode K env.code = true)
   (hp : kdsPlain e1 = true)
   (he1 : ∀ (s₁ : Shared) (Q₁ : Value → Shared → Prop), Fr h₀ L s₁.heap m → (∀ tk, Q₁ (.str y t) { s₁ with toks := tk }) → wpAny (model prog w) A (eval e1 env) Q₁ E s₁)
   (he2 : ∀ (s₁ : Shared) (Q₁ : Value → Shared → Prop), Fr h₀ L s₁.heap m → (∀ tk, Q₁ (.ref d) { s₁ with toks := tk }) → wpAny (model prog w) A (eval e2 env) Q₁ E s₁)
   (hd : (d, od) ∈ news) (hod : od.IsDictOf (strKind prog w) kvs) (hds : (d == sysModules) = false) (hn : kvs.length ≤ 20) (hy : ∀ p ∈ kvs, p.1 ≠ y)
   (h : ∀ D h' tk o', Fr h₀ L h' m → News h₀ L h' ((D, o') :: news) → (∀ p ∈ news, p.1 < D) → StrSet prog w o' (keysTo kvs y kvs.length) → Q (.ref D) { s with heap := h', toks := tk }) :
   wpAny (model prog w) A (eval (.Set [e1, .Starred e2 p2] 0 pos) env) Q E s := by
 (revert hh F N X hc hp he1 he2 hd hod hds hn hy h; revert prog w A E s h₀ L d m news K e1 e2 pos p2 env od y t kvs Q; with_reducible refine (no_implicit_lambda% (Drk7.all (by kpf_c) ((?_ : All7 _) _ _ _ _ _ _ _))); refine fun prog w A E s h₀ L => Ap7.mk ?_; with_reducible refine (no_implicit_lambda% (Drk7.all (by kpf_c) ((?_ : All7 _) _ _ _ _ _ _ _))); refine fun d m news K e1 e2 pos => Ap7.mk ?_; with_reducible refine (no_implicit_lambda% (Drk7.all (by kpf_c) ((?_ : All7 _) _ _ _ _ _ _ _))); refine fun p2 env od y t kvs Q => Ap7.mk ?_; intros hh F N X hc hp he1 he2 hd hod hds hn hy h)
 rw [arm_eval_Set]
 refine wpAny_bind (wpAny_standAt ?_)
 refine wpAny_bind (kds_main (X.keeps F.keep) hc fun b => ?_)
 (revert b; tb_start; refine fun b => Ap.mk ?_)
 have hse : starEach [e1, .Starred e2 p2] env = [(false, eval e1 env), (true, eval e2 env)] := by
   cases e1 <;> first | rfl | exact absurd hp (by simp [kdsPlain])
 rw [hse]
 show wpAny (model prog w) A (setDisplay .oneByOne b [(false, do let v ← eval e1 env; standAt pos; pure v), (true, do let v ← eval e2 env; standAt pos; pure v)]) Q E s
 unfold setDisplay
 dsimp only
 rw [if_neg (by decide)]
 refine wpAny_bind ?_
 unfold newSet setsByText
 refine wpAny_bind (wpAny_bind (wpAny_askSetting (wpAny_pure ?_)))
 dsimp only
 simp only [newObj]
 refine wpAny_bind (wpAny_alloc (wpAny_pure ?_))
 dsimp only
 have F1 := F.push { cls := .type "set", dict := none, data := .set #[] 0 (.fresh 0 0 (!w.params.followText "set-order")) }
 have N1 : News h₀ L (s.heap.push { cls := .type "set", dict := none, data := .set #[] 0 (.fresh 0 0 (!w.params.followText "set-order")) }) ((s.heap.objs.size, { cls := .type "set", dict := none, data := .set #[] 0 (.fresh 0 0 (!w.params.followText "set-order")) }) :: news) := News.push F N _ rfl
 have hz := StrSet.nil prog w
 have hlt : ∀ p ∈ news, p.1 < s.heap.objs.size := fun p hp => Heap.lt_size (N p hp).1
 refine wpAny_bind (wpAny_holding ?_)
 refine wpAny_bind (m := evalAll [do let v ← eval e1 env; standAt pos; pure v]) ?_
 unfold evalAll
 refine wpAny_bind (wpAny_bind (he1 _ _ F1 fun tk => ?_))
 (revert tk; tb_start; refine fun tk => Ap.mk ?_)
 refine wpAny_bind (wpAny_standAt (wpAny_pure ?_))
 refine wpAny_bind (wpAny_holding ?_)
 unfold evalAll
 refine wpAny_pure (wpAny_pure ?_)
 refine wpAny_bind (wpAny_holding ?_)
 refine wpAny_bind ?_
 rw [List.forIn_cons]
 refine wpAny_bind (wpAny_bind (strSet_add (s := ⟨_, _, _, tk, _⟩) (Heap.get?_push_size _ rfl) hz (by simp) (by decide) fun h1 o1 hs1 ho1 hS1 => wpAny_pure ?_))
 dsimp only
 rw [List.forIn_nil]
 refine wpAny_pure ?_
 rw [if_neg (by decide)]
 refine wpAny_pure ?_
 have hL0 := N1 _ (.head _)
 have F2 : Fr h₀ L h1 m := F1.change hs1 hL0.2.1 hL0.2.2
 have N2 : News h₀ L h1 news := fun p hp => ⟨(hs1.2 p.1 (Nat.ne_of_lt (hlt p hp))).trans (N1 p (.tail _ hp)).1, (N1 p (.tail _ hp)).2⟩
 refine wpAny_bind (m := forIn [(true, do let v ← eval e2 env; standAt pos; pure v)] PUnit.unit _) ?_
 rw [List.forIn_cons]
 refine wpAny_bind (wpAny_bind (wpAny_bind (he2 _ _ F2 fun tk2 => ?_)))
 (revert hs1 ho1 hS1 F2 N2; revert h1 o1 tk2; with_reducible refine Drk3.all (by kpf_c) ((?_ : All3 _) _ _ _); refine fun h1 o1 tk2 => Ap3.mk ?_; intros hs1 ho1 hS1 F2 N2)
 refine wpAny_bind (wpAny_standAt (wpAny_pure ?_))
 dsimp only
 rw [if_pos rfl]
 have hda : s.heap.objs.size ≠ d := Nat.ne_of_gt (hlt _ hd)
 obtain ⟨es, ep, r⟩ := hod
 (revert r; revert es ep; with_reducible refine Drk2.all (by kpf_c) ((?_ : All2 _) _ _); refine fun es ep => Ap2.mk ?_; intros r)
 refine wpAny_bind (wpAny_holding (starDict (s := ⟨h1, _, _, tk2, _⟩) (kvs := kvs) (ep := ep) (y := y) hh ho1 hS1 ⟨od, es, (N2 _ hd).1, r⟩ hds hn hy hda fun h3 tk3 o3 hk3 _ ho3 hS3 => wpAny_pure ?_))
 dsimp only
 rw [List.forIn_nil]
 refine wpAny_pure (wpAny_pure (wpAny_pure ?_))
 have hLb : L ≠ s.heap.objs.size := Ne.symm hL0.2.1
 refine h _ h3 tk3 o3 ⟨F2.ns.at' fun o e => hk3 _ o hLb e, fun b o e => hk3 b o (fun q => ?_) (F2.keep b o e), F2.above⟩ (fun p hp => ?_) hlt hS3
 · rw [q, hL0.2.2] at e; cases e
 rcases mc hp with rfl | hp
 · exact ⟨ho3, hL0.2⟩
 exact ⟨hk3 _ _ (Nat.ne_of_lt (hlt p hp)) (N2 p hp).1, (N2 p hp).2⟩
end
noncomputable def lt2 (a b c d : Str) : Bool := if a = c then decide (b.cps.toList < d.cps.toList) else decide (a.cps.toList < c.cps.toList)
section
open AutoSeq1 (wpAny_loadPart')
open MeetsSeq MeetsSeq3
theorem list_lt2 (x y : Addr) (a b c d : Str) (ta tb tc td : Tok) (n k : Nat) : Meets (Builtin.«list.__lt__» ⟨[.ref x, .ref y], []⟩)
   (fun A R s => s.heap.get? x = some { cls := .type "list", dict := none, data := .seq #[.str a ta, .str b tb] n, slots := #[] } ∧ s.heap.get? y = some { cls := .type "list", dict := none, data := .seq #[.str c tc, .str d td] k, slots := #[] } ∧ R (.ok (.ret (.bool (lt2 a b c d)))) s) := by
 rintro prog w A R s h
 obtain ⟨hp, g, dr, tk, os⟩ := s; obtain ⟨hl, hb, h⟩ := h
 have f3 := AutoSeq1.sub_list_list
 obtain ⟨I, eI⟩ : ∃ I : Array Value, I = #[.str a ta, .str b tb] := ⟨_, rfl⟩
 obtain ⟨J, eJ⟩ : ∃ J : Array Value, J = #[.str c tc, .str d td] := ⟨_, rfl⟩
 have i0 : I[((0 : Nat) : Int).toNat]? = some (.str a ta) := by subst eI; rfl
 have i1 : I[((1 : Nat) : Int).toNat]? = some (.str b tb) := by subst eI; rfl
 have i2 : I[((2 : Nat) : Int).toNat]? = none := by subst eI; rfl
 have j0 : J[((0 : Nat) : Int).toNat]? = some (.str c tc) := by subst eJ; rfl
 have j1 : J[((1 : Nat) : Int).toNat]? = some (.str d td) := by subst eJ; rfl
 have j2 : J[((2 : Nat) : Int).toNat]? = none := by subst eJ; rfl
 have zI : I.size = 2 := by subst eI; rfl
 have zJ : J.size = 2 := by subst eJ; rfl
 rw [← eI] at hl
 rw [← eJ] at hb
 clear eI eJ
 have loop2 : a = c → b = d → ∀ (A : Around), wpAny (model prog w) A.in1 (Builtin.«list.__eq__.loop» ⟨[.ref x, .ref y, rawInt ((2 : Nat) : Int), rawInt 0], []⟩) (fun fin s' => match fin with | .done f => R (.ok f) s' | .again c' => c'.quiet = true ∧ codeAny (model prog w) A c' R s') (fun e s' => R (.error e) s') ⟨hp, g, dr, tk, os⟩ := by
   rintro hac hbd A
   wp_walk using wpAny_loadPart' hl, wpAny_loadPart' hb
   rw [i2, j2]
   wp_walk using wpAny_loadPart' hl, wpAny_loadPart' hb
   show R (.ok (.ret (.bool (decide (I.size < J.size))))) _
   have e : lt2 a b c d = false := by unfold lt2; rw [if_pos hac, hbd]; exact decide_eq_false (List.lt_irrefl _)
   rw [e] at h; rw [zI, zJ]; exact h
 have loop1 : a = c → ∀ (A : Around), wpAny (model prog w) A.in1 (Builtin.«list.__eq__.loop» ⟨[.ref x, .ref y, rawInt ((1 : Nat) : Int), rawInt 0], []⟩) (fun fin s' => match fin with | .done f => R (.ok f) s' | .again c' => c'.quiet = true ∧ codeAny (model prog w) A c' R s') (fun e s' => R (.error e) s') ⟨hp, g, dr, tk, os⟩ := by
   rintro hac A
   wp_walk using wpAny_loadPart' hl, wpAny_loadPart' hb
   rw [i1, j1]
   refine wpAny_bind (wpAny_eqBool_str ?_)
   by_cases hbd : b = d
   · rw [decide_eq_true hbd]
     wp_walk
     exact ⟨plainId_quiet plain_eq_loop _, codeAny_builtin entry_eq_loop (by
       rw [Around.under_plainId plain_eq_loop _]
       exact loop2 hac hbd _)⟩
   rw [decide_eq_false hbd]
   wp_walk using wpAny_loadPart' hl, wpAny_loadPart' hb
   rw [i1, j1]
   refine wpAny_bind (show wpAny _ _ (compareOp .Lt (.str b tb) (.str d td)) _ _ _ from PyProof.Rows.lt_str ?_)
   refine wpAny_pure ?_
   have e : lt2 a b c d = decide (b.cps.toList < d.cps.toList) := by unfold lt2; rw [if_pos hac]
   rw [e] at h; exact h
 wp_walk using wpAny_loadPart' hl, wpAny_loadPart' hb
 refine ⟨plainId_quiet plain_eq_loop _, codeAny_builtin entry_eq_loop ?_⟩
 rw [Around.under_plainId plain_eq_loop _]
 show wpAny (model prog w) A.in1 (Builtin.«list.__eq__.loop» ⟨[.ref x, .ref y, rawInt ((0 : Nat) : Int), rawInt 0], []⟩) _ _ _
 wp_walk using wpAny_loadPart' hl, wpAny_loadPart' hb
 rw [i0, j0]
 refine wpAny_bind (wpAny_eqBool_str ?_)
 by_cases hac : a = c
 · rw [decide_eq_true hac]
   wp_walk
   exact ⟨plainId_quiet plain_eq_loop _, codeAny_builtin entry_eq_loop (by
     rw [Around.under_plainId plain_eq_loop _]
     exact loop1 hac _)⟩
 rw [decide_eq_false hac]
 wp_walk using wpAny_loadPart' hl, wpAny_loadPart' hb
 rw [i0, j0]
 refine wpAny_bind (show wpAny _ _ (compareOp .Lt (.str a ta) (.str c tc)) _ _ _ from PyProof.Rows.lt_str ?_)
 refine wpAny_pure ?_
 have e : lt2 a b c d = decide (a.cps.toList < c.cps.toList) := by unfold lt2; rw [if_neg hac]
 rw [e] at h; exact h
end
theorem keyLt_list {prog : Program} {w : World} {A : Around} {E : Value → Shared → Prop} {s : Shared} {x y : Addr} {a b c d : Str} {ta tb tc td : Tok} {n k : Nat} {Q : Bool → Shared → Prop} (hu : A.units < cLine)
   (hx : s.heap.get? x = some (PySem.W.listOf #[.str a ta, .str b tb] n)) (hy : s.heap.get? y = some (PySem.W.listOf #[.str c tc, .str d td] k)) (h : Q (lt2 a b c d) s) : wpAny (model prog w) A (keyLt' oneType' (.ref x) (.ref y)) Q E s := by
 rw [keyLt'_oneType, oneLt'_eq]
 simp only [if_true]
 refine wpAny_bind (wpAny_cRoomFor hu ?_)
 refine wpAny_bind (wpAny_callSpecialIfBound?_slot (T := "list") ⟨_, hx, rfl⟩ PySem.F.slot_list_lt (call_meets PySem.F.slot_list_lt ⟨_, hx, rfl⟩ PySem.F.entry_list_lt (PySem.F.args_list_lt_2 _ _) (list_lt2 x y a b c d ta tb tc td n k) ⟨hx, hy, ?_⟩))
 exact wpAny_truthy_bool h
theorem asc_pairwise {lt : Nat → Nat → Bool} {q : Array Nat} {n : Nat} (hq : q.size = n) (h : AscTo lt q n) : q.toList.Pairwise (fun i j => lt i j = true) := by
 rw [List.pairwise_iff_getElem]
 rintro i j hi hj hij
 rw [Array.length_toList] at hi hj
 have := h i j hij (by omega)
 rw [Array.getD_eq_getD_getElem?, Array.getD_eq_getD_getElem?, Array.getElem?_eq_getElem hi, Array.getElem?_eq_getElem hj] at this
 simpa using this
section
variable {prog : Program} {w : World} {A : Around} {E : Value → Shared → Prop} {s : Shared} {h₀ : Heap} {L a kS : Addr} {m : Str → Option Value} {news : List (Addr × Obj)} {vs ks : List Value} {κ : SortKind} {lt : Nat → Nat → Bool}
def AskBy (prog : Program) (w : World) (h₀ : Heap) (L : Addr) (news : List (Addr × Obj)) (u : Nat) (κ : SortKind) (vs : List Value) (lt : Nat → Nat → Bool) : Prop :=
 ∀ (A' : Around) (s' : Shared) (i j : Nat) (C : Bool → Shared → Prop), A'.units ≤ u → News h₀ L s'.heap news → i < vs.length → j < vs.length → C (lt i j) s' → kas_ask prog w A' κ vs i j C s'
theorem sort_tree {A' : Around} {u : Nat} (hA : AskBy prog w h₀ L news u κ vs lt) (S : SLt lt vs.length) (h1 : 1 ≤ vs.length) (hu : A'.units ≤ u) {G : Array Nat → Shared → Prop} {s' : Shared} (N : News h₀ L s'.heap news)
   (hG : ∀ q : Array Nat, q.toList.Perm (List.range vs.length) → q.toList.Pairwise (fun i j => lt i j = true) → G q s') : (kas_sort vs.length).kasWp (kas_ask prog w A' κ vs) G s' := by
 refine KOk.wp (I := fun s'' => s'' = s') (fun i j C s'' hi hj hI hC => ?_) (P := fun q => PermR vs.length q ∧ AscTo lt q vs.length) (fun q s'' hq hI => ?_) (kas_sort_ok S h1) rfl
 · subst hI; exact hA A' s'' i j C hu N hi hj (hC _ rfl)
 subst hI; exact hG q hq.1 (asc_pairwise hq.1.size hq.2)
theorem updF_again {d : Addr} {o : Obj} {l : List (Addr × Obj)} {g : Obj → List (Addr × Obj)} (U : UpdF d o l g) (o' : Obj) : UpdF d o' (g o') g := by
 induction U with
 | head h => exact .head h
 | tail h _ ih => exact .tail h ih
def sortOut (vs : List Value) (p : List Nat) : Array Value := (p.map fun i => vs.getD i Value.none).toArray
theorem sorted_by {l : Addr} {u : Nat} {Q : Value → Shared → Prop} (F : Fr h₀ L s.heap m) (N : News h₀ L s.heap news) (hl : s.heap.IsList l vs.toArray) (h2 : 2 ≤ vs.length) (h64 : vs.length < 64)
   (hkind : ∀ (A' : Around) (s' : Shared) (Q' : SortKind → Shared → Prop), News h₀ L s'.heap news → Q' κ s' → wpAny (model prog w) A' (keyKind' vs.toArray) Q' (fun _ _ => False) s')
   (hask : AskBy prog w h₀ L news u κ vs lt) (hu : A.units + 2 ≤ u) (S : SLt lt vs.length)
   (h : ∀ D c h' p, p.Perm (List.range vs.length) → p.Pairwise (fun i j => lt i j = true) → Fr h₀ L h' m → News h₀ L h' ((D, PySem.W.listOf (sortOut vs p) c) :: news) → (∀ q ∈ news, q.1 < D) → Q (.ref D) { s with heap := h' }) :
   wpAny (model prog w) A (call (.builtin "sorted") [.ref l]) Q E s := by
 refine kat_sorted F N hl h2 h64 fun D e1 h' F' N' hlt => ?_
 have N0 : News h₀ L h' news := fun p hp => N' p (.tail _ hp)
 refine hkind _ _ _ N0 ?_
 refine sort_tree hask S (by omega) (by exact hu) N0 fun q hq hp => ?_
 refine KasFin.intro F' N' (UpdF.head fun p hp => Nat.ne_of_lt (hlt p hp)) fun h2 c F2 N2 => ?_
 exact h D c h2 q.toList hq hp F2 N2 hlt
theorem lsort_by {D : Addr} {its : Array Value} {n u : Nat} {g : Obj → List (Addr × Obj)} {Q : Value → Shared → Prop} (F : Fr h₀ L s.heap m) (N : News h₀ L s.heap news) (U : UpdF D (PySem.W.listOf its n) news g) (he : its.toList = vs) (h2 : 2 ≤ vs.length) (h64 : vs.length < 64)
   (hkind : ∀ (A' : Around) (s' : Shared) (e : Nat) (Q' : SortKind → Shared → Prop), News h₀ L s'.heap (g (seqObj "list" #[] e)) → Q' κ s' → wpAny (model prog w) A' (keyKind' vs.toArray) Q' (fun _ _ => False) s')
   (hask : ∀ e, AskBy prog w h₀ L (g (seqObj "list" #[] e)) u κ vs lt) (hu : A.units + 1 ≤ u) (S : SLt lt vs.length)
   (h : ∀ c h' p, p.Perm (List.range vs.length) → p.Pairwise (fun i j => lt i j = true) → Fr h₀ L h' m → News h₀ L h' (g (PySem.W.listOf (sortOut vs p) c)) → Q .none { s with heap := h' }) :
   wpAny (model prog w) A (call (.builtin "list.sort") [.ref D]) Q E s := by
 refine kat_lsort F N U he h2 h64 fun e1 h' F' N' => ?_
 refine hkind _ _ e1 _ N' ?_
 refine sort_tree (hask e1) S (by omega) (by exact hu) N' fun q hq hp => ?_
 refine KasFin.intro F' N' (updF_again U _) fun h2 c F2 N2 => ?_
 exact h c h2 q.toList hq hp F2 N2
end
theorem str_eq_of {a b : Str} (h1 : ¬ a.cps.toList < b.cps.toList) (h2 : ¬ b.cps.toList < a.cps.toList) : a = b := by
 have e : a.cps.toList = b.cps.toList := List.le_antisymm (List.not_lt.mp h2) (List.not_lt.mp h1)
 cases a; cases b
 exact congrArg Str.mk (Array.toList_inj.mp e)
theorem slt_lt2 {X Y : Nat → Str} {n : Nat} (hne : ∀ i j, i < n → j < n → i ≠ j → X i = X j → Y i ≠ Y j) : SLt (fun i j => lt2 (X i) (Y i) (X j) (Y j)) n where
 trans i j k _ _ _ h1 h2 := by
   unfold lt2 at h1 h2 ⊢
   by_cases e1 : X i = X j
   · rw [if_pos e1] at h1
     by_cases e2 : X j = X k
     · rw [if_pos e2] at h2
       rw [if_pos (e1.trans e2)]
       exact decide_eq_true (List.lt_trans (of_decide_eq_true h1) (of_decide_eq_true h2))
     rw [if_neg e2] at h2
     rw [if_neg (by rw [e1]; exact e2), e1]; exact h2
   rw [if_neg e1] at h1
   by_cases e2 : X j = X k
   · rw [if_neg (by rw [← e2]; exact e1), ← e2]; exact h1
   rw [if_neg e2] at h2
   have h3 := List.lt_trans (of_decide_eq_true h1) (of_decide_eq_true h2)
   rw [if_neg (fun e => by rw [e] at h3; exact List.lt_irrefl _ h3)]
   exact decide_eq_true h3
 tri i j hi hj hij h := by
   unfold lt2 at h ⊢
   by_cases e : X i = X j
   · rw [if_pos e] at h
     rw [if_pos e.symm]
     cases hc : decide ((Y j).cps.toList < (Y i).cps.toList) with
     | true => rfl
     | false => exact absurd (str_eq_of (of_decide_eq_false h) (of_decide_eq_false hc)) (hne i j hi hj hij e)
   rw [if_neg e] at h
   rw [if_neg (Ne.symm e)]
   cases hc : decide ((X j).cps.toList < (X i).cps.toList) with
   | true => rfl
   | false => exact absurd (str_eq_of (of_decide_eq_false h) (of_decide_eq_false hc)) e
 asym i j hi hj h := by
   unfold lt2 at h ⊢
   by_cases e : X i = X j
   · rw [if_pos e] at h
     rw [if_pos e.symm]
     exact decide_eq_false fun h' => List.lt_irrefl _ (List.lt_trans (of_decide_eq_true h) h')
   rw [if_neg e] at h
   rw [if_neg (Ne.symm e)]
   exact decide_eq_false fun h' => List.lt_irrefl _ (List.lt_trans (of_decide_eq_true h) h')
def lt3 (a b c a' b' c' : Int) : Bool := if a = a' then (if b = b' then decide (c < c') else decide (b < b')) else decide (a < a')
theorem lex_trans {x y z : Int} {P Q R : Prop} (h1 : x < y ∨ (x = y ∧ P)) (h2 : y < z ∨ (y = z ∧ Q)) (h : P → Q → R) : x < z ∨ (x = z ∧ R) := by
 rcases h1 with h1 | ⟨rfl, h1⟩
 · rcases h2 with h2 | ⟨rfl, h2⟩
   · exact .inl (Int.lt_trans h1 h2)
   exact .inl h1
 rcases h2 with h2 | ⟨rfl, h2⟩
 · exact .inl h2
 exact .inr ⟨rfl, h h1 h2⟩
theorem lex_asym {x y : Int} {P Q : Prop} (h1 : x < y ∨ (x = y ∧ P)) (h2 : y < x ∨ (y = x ∧ Q)) (h : P → Q → False) : False := by
 rcases h1 with h1 | ⟨rfl, h1⟩
 · rcases h2 with h2 | ⟨rfl, h2⟩
   · exact Int.lt_asymm h1 h2
   exact Int.lt_irrefl _ h1
 rcases h2 with h2 | ⟨_, h2⟩
 · exact Int.lt_irrefl _ h2
 exact h h1 h2
theorem lex_tri {x y : Int} {P Q : Prop} (h1 : ¬ (x < y ∨ (x = y ∧ P))) (h : ¬ P → Q) : y < x ∨ (y = x ∧ Q) := by
 rcases Int.lt_trichotomy x y with e | e | e
 · exact absurd (.inl e) h1
 · exact .inr ⟨e.symm, h fun p => h1 (.inr ⟨e, p⟩)⟩
 exact .inl e
theorem lex_if {x y : Int} {P Q : Bool} {R : Prop} (hP : P = true ↔ R) (hQ : Q = true ↔ x < y) : (if x = y then P else Q) = true ↔ x < y ∨ (x = y ∧ R) := by
 by_cases e : x = y
 · rw [if_pos e, hP]
   exact ⟨fun h => .inr ⟨e, h⟩, fun h => h.elim (fun h => absurd (e ▸ h) (Int.lt_irrefl _)) (·.2)⟩
 rw [if_neg e, hQ]
 exact ⟨.inl, fun h => h.elim id fun h => absurd h.1 e⟩
theorem lt3_iff {a b c a' b' c' : Int} : lt3 a b c a' b' c' = true ↔ a < a' ∨ (a = a' ∧ (b < b' ∨ (b = b' ∧ c < c'))) :=
 lex_if (lex_if decide_eq_true_iff decide_eq_true_iff) decide_eq_true_iff
theorem slt_lt3 {a b c : Nat → Int} {n : Nat} (hne : ∀ i j, i < n → j < n → i ≠ j → c i ≠ c j) : SLt (fun i j => lt3 (a i) (b i) (c i) (a j) (b j) (c j)) n where
 trans i j k _ _ _ h1 h2 := lt3_iff.mpr (lex_trans (lt3_iff.mp h1) (lt3_iff.mp h2) fun p q => lex_trans p q fun r s => Int.lt_trans r s)
 tri i j hi hj hij h := by
   have h' : ¬ lt3 (a i) (b i) (c i) (a j) (b j) (c j) = true := by rw [h]; exact Bool.false_ne_true
   rw [lt3_iff] at h' ⊢
   exact lex_tri h' fun h2 => lex_tri h2 fun h3 => (Int.lt_or_gt_of_ne (hne i j hi hj hij)).resolve_left h3
 asym i j hi hj h := by
   cases hc : lt3 (a j) (b j) (c j) (a i) (b i) (c i) with
   | false => rfl
   | true => exact (lex_asym (lt3_iff.mp h) (lt3_iff.mp hc) fun p q => lex_asym p q fun r s => Int.lt_asymm r s).elim
section
variable {prog : Program} {w : World} {A : Around} {E : Value → Shared → Prop} {s : Shared} {h₀ : Heap} {L : Addr} {news : List (Addr × Obj)}
theorem keyLt_tup2 {x y : Addr} {ox oy : Obj} {a b c d : Str} {ta tb tc td : Tok} {n k : Nat} {Q : Bool → Shared → Prop} (hx : s.heap.get? x = some ox) (dx : ox.data = .seq #[.str a ta, .str b tb] n) (hy : s.heap.get? y = some oy) (dy : oy.data = .seq #[.str c tc, .str d td] k)
   (h : Q (lt2 a b c d) s) : wpAny (model prog w) A (keyLt' (tuples' true) (.ref x) (.ref y)) Q E s := by
 refine kat_lt hx dx hy dy ?_
 show KatLex prog w A true false Q [(Value.str a ta, Value.str c tc), (Value.str b tb, Value.str d td)] 0 s
 refine kat_cons (wpAny_eqBool_str ?_)
 unfold lt2 at h
 by_cases e1 : a = c
 · rw [if_pos e1] at h
   rw [decide_eq_true e1]
   refine kat_yes (kat_cons (wpAny_eqBool_str ?_))
   by_cases e2 : b = d
   · rw [decide_eq_true e2]
     refine kat_yes (kat_nil ?_)
     rw [e2, decide_eq_false (List.lt_irrefl _)] at h; exact h
   rw [decide_eq_false e2]
   refine kat_no ?_
   exact kat_one _ _ (PyProof.Rows.lt_str h)
 rw [if_neg e1] at h
 rw [decide_eq_false e1]
 exact kat_no (oneLt_str h)
theorem keyLt_tup3 {x y : Addr} {ox oy : Obj} {a b c a' b' c' : Int} {t1 t2 t3 u1 u2 u3 : Tok} {n k : Nat} {Q : Bool → Shared → Prop} (hx : s.heap.get? x = some ox) (dx : ox.data = .seq #[.int a t1, .int b t2, .int c t3] n) (hy : s.heap.get? y = some oy) (dy : oy.data = .seq #[.int a' u1, .int b' u2, .int c' u3] k)
   (h : Q (lt3 a b c a' b' c') s) : wpAny (model prog w) A (keyLt' (tuples' true) (.ref x) (.ref y)) Q E s := by
 refine kat_lt hx dx hy dy ?_
 show KatLex prog w A true false Q [(Value.int a t1, Value.int a' u1), (Value.int b t2, Value.int b' u2), (Value.int c t3, Value.int c' u3)] 0 s
 refine kat_cons (wpAny_eqBool_int ?_)
 unfold lt3 at h
 by_cases e1 : a = a'
 · rw [if_pos e1] at h
   rw [show (a == a') = true from by simp [e1]]
   refine kat_yes (kat_cons (wpAny_eqBool_int ?_))
   by_cases e2 : b = b'
   · rw [if_pos e2] at h
     rw [show (b == b') = true from by simp [e2]]
     refine kat_yes (kat_cons (wpAny_eqBool_int ?_))
     by_cases e3 : c = c'
     · rw [show (c == c') = true from by simp [e3]]
       refine kat_yes (kat_nil ?_)
       rw [e3, decide_eq_false (Int.lt_irrefl _)] at h; exact h
     rw [show (c == c') = false from by simp [e3]]
     exact kat_no (kat_one _ _ (PyProof.Rows.lt_int h))
   rw [if_neg e2] at h
   rw [show (b == b') = false from by simp [e2]]
   exact kat_no (kat_one _ _ (PyProof.Rows.lt_int h))
 rw [if_neg e1] at h
 rw [show (a == a') = false from by simp [e1]]
 exact kat_no (oneLt_int h)
theorem getD_map_ref {as : List Addr} {i : Nat} (hi : i < as.length) : (as.map Value.ref).getD i Value.none = .ref (as[i]) := by
 rw [List.getD_eq_getElem?_getD, List.getElem?_map, List.getElem?_eq_getElem hi]; rfl
theorem ask_tup2 {as : List Addr} {X Y : Nat → Str} {u : Nat} (h : ∀ i (hi : i < as.length), ∃ o t1 t2 n, (as[i], o) ∈ news ∧ o.data = .seq #[.str (X i) t1, .str (Y i) t2] n) : AskBy prog w h₀ L news u (tuples' true) (as.map Value.ref) (fun i j => lt2 (X i) (Y i) (X j) (Y j)) := by
 rintro A' s' i j C hu N hi hj hC
 rw [lM] at hi hj
 obtain ⟨oi, t1, t2, n, mi, di⟩ := h i hi
 obtain ⟨oj, u1, u2, k, mj, dj⟩ := h j hj
 unfold kas_ask
 rw [getD_map_ref hi, getD_map_ref hj]
 exact keyLt_tup2 (N _ mi).1 di (N _ mj).1 dj hC
theorem ask_tup3 {as : List Addr} {a b c : Nat → Int} {u : Nat} (h : ∀ i (hi : i < as.length), ∃ o t1 t2 t3 n, (as[i], o) ∈ news ∧ o.data = .seq #[.int (a i) t1, .int (b i) t2, .int (c i) t3] n) : AskBy prog w h₀ L news u (tuples' true) (as.map Value.ref) (fun i j => lt3 (a i) (b i) (c i) (a j) (b j) (c j)) := by
 rintro A' s' i j C hu N hi hj hC
 rw [lM] at hi hj
 obtain ⟨oi, t1, t2, t3, n, mi, di⟩ := h i hi
 obtain ⟨oj, u1, u2, u3, k, mj, dj⟩ := h j hj
 unfold kas_ask
 rw [getD_map_ref hi, getD_map_ref hj]
 exact keyLt_tup3 (N _ mi).1 di (N _ mj).1 dj hC
theorem ask_list2 {as : List Addr} {X Y : Nat → Str} {u : Nat} (hu0 : u < cLine) (h : ∀ i (hi : i < as.length), ∃ t1 t2 n, (as[i], PySem.W.listOf #[.str (X i) t1, .str (Y i) t2] n) ∈ news) : AskBy prog w h₀ L news u oneType' (as.map Value.ref) (fun i j => lt2 (X i) (Y i) (X j) (Y j)) := by
 rintro A' s' i j C hu N hi hj hC
 rw [lM] at hi hj
 obtain ⟨t1, t2, n, mi⟩ := h i hi
 obtain ⟨u1, u2, k, mj⟩ := h j hj
 unfold kas_ask
 rw [getD_map_ref hi, getD_map_ref hj]
 exact keyLt_list (Nat.lt_of_le_of_lt hu hu0) (N _ mi).1 (N _ mj).1 hC
theorem kind_tups {T : Value} {A' : Around} {s' : Shared} (hT2 : (T == T) = true) (hTt : (T != Value.type "tuple") = true) (f : Addr → Value) : ∀ (as : List Addr), as ≠ [] → (∀ a ∈ as, ∃ o xs n, s'.heap.get? a = some o ∧ o.cls = .type "tuple" ∧ o.data = .seq xs n ∧ xs[0]? = some (f a) ∧ typeOf (f a) = pure T) →
   ∀ {Q' : SortKind → Shared → Prop}, Q' (tuples' true) s' → wpAny (model prog w) A' (keyKind' (as.map Value.ref).toArray) Q' (fun _ _ => False) s' := by
 rintro as hne h Q' hq
 have ht : KatTups s'.heap (as.map Value.ref) (as.map f) := by
   clear hne
   induction as with
   | nil => exact KatTups.nil
   | cons a r ih =>
     obtain ⟨o, xs, n, h1, h2, h3, h4, _⟩ := h a (.head _)
     exact KatTups.cons h1 h2 h3 h4 (ih fun b hb => h b (.tail _ hb))
 refine kat_kind (T := T) ht (by rw [lM]; exact List.length_pos_iff.mpr hne) (fun v hv => ?_) hT2 (by rw [hTt]; exact hq)
 obtain ⟨a, ha, rfl⟩ := List.mem_map.mp hv
 obtain ⟨o, xs, n, _, _, _, _, h5⟩ := h a ha
 rw [h5]
 exact .now
end
theorem updF_mid {d : Addr} {o : Obj} {post : List (Addr × Obj)} (h2 : ∀ p ∈ post, p.1 ≠ d) : ∀ {pre : List (Addr × Obj)}, (∀ p ∈ pre, p.1 ≠ d) → UpdF d o (pre ++ (d, o) :: post) (fun o' => pre ++ (d, o') :: post)
 | [], _ => .head h2
 | q :: pre, h1 => .tail (h1 q (.head _)) (updF_mid h2 fun p hp => h1 p (.tail _ hp))
section
variable {prog : Program} {w : World} {A : Around} {E : Value → Shared → Prop} {s : Shared} {h₀ : Heap} {L kS : Addr} {m : Str → Option Value} {news : List (Addr × Obj)}
def KeyCall (prog : Program) (w : World) (A' : Around) (h₀ : Heap) (L : Addr) (m : Str → Option Value) (news : List (Addr × Obj)) (f : Addr) (ys : List Str) (X Y : Str → Str) : Prop :=
 ∀ (s' : Shared) (nw : List (Addr × Obj)) (y : Str) (t : Tok) (Q' : Value → Shared → Prop), y ∈ ys → Fr h₀ L s'.heap m → News h₀ L s'.heap nw → (∀ p ∈ news, p ∈ nw) →
   (∀ K h' tk t1 t2 n, Fr h₀ L h' m → News h₀ L h' ((K, PySem.W.listOf #[.str (X y) t1, .str (Y y) t2] n) :: nw) → (∀ p ∈ nw, p.1 < K) → Q' (.ref K) { s' with heap := h', toks := tk }) →
   wpAny (model prog w) A' (call (.ref f) [.str y t]) Q' (fun _ _ => False) s'
theorem katKeys_go {A' : Around} {f : Addr} {ys : List Str} {X Y : Str → Str} (hcall : KeyCall prog w A' h₀ L m news f ys X Y) {rest : List (Addr × Obj)} (hrest : ∀ p ∈ news, p ∈ rest) (hkS : ∀ p ∈ rest, p.1 ≠ kS) {Fin : List Value → Nat → Shared → Prop} {zs : List (Str × Tok)} (hzs : ∀ z ∈ zs, z.1 ∈ ys) {s₀ : Shared}
   (hF : ∀ (kas : List Addr) (e : Nat) (h' : Heap) (tk : Nat) (nwK : List (Addr × Obj)), kas.length = zs.length → (∀ i (hi : i < kas.length) z, zs[i]? = some z → ∃ t1 t2 n, (kas[i], PySem.W.listOf #[.str (X z.1) t1, .str (Y z.1) t2] n) ∈ nwK) → Fr h₀ L h' m → News h₀ L h' (nwK ++ (kS, seqObj "list" (List.toArray (kas.map Value.ref)) e) :: rest) → (∀ p ∈ nwK, p.1 ≠ kS) → Fin (kas.map Value.ref) e { s₀ with heap := h', toks := tk }) :
   ∀ (r done : List (Str × Tok)) (kas : List Addr) (e : Nat) (h' : Heap) (tk : Nat) (nwK : List (Addr × Obj)), zs = done ++ r → kas.length = done.length → (∀ i (hi : i < kas.length) z, zs[i]? = some z → ∃ t1 t2 n, (kas[i], PySem.W.listOf #[.str (X z.1) t1, .str (Y z.1) t2] n) ∈ nwK) →
     Fr h₀ L h' m → News h₀ L h' (nwK ++ (kS, seqObj "list" (List.toArray (kas.map Value.ref)) e) :: rest) → (∀ p ∈ nwK, p.1 ≠ kS) →
     KatKeys prog w A' h₀ L m kS (.ref f) Fin (r.map fun z => Value.str z.1 z.2) (kas.map Value.ref) e { s₀ with heap := h', toks := tk }
 | [], done, kas, e, h', tk, nwK, hz, hl, hk, F, N, hn => KatKeys.nil (hF kas e h' tk nwK (by rw [hz, List.append_nil]; exact hl) hk F N hn)
 | z :: r, done, kas, e, h', tk, nwK, hz, hl, hk, F, N, hn => by
   refine KatKeys.cons ?_
   have hzi : zs[kas.length]? = some z := by rw [hz, hl, List.getElem?_append_right (Nat.le_refl _), Nat.sub_self]; rfl
   refine hcall _ _ z.1 z.2 _ (hzs z (List.mem_of_getElem? hzi)) F N (fun p hp => mr _ (.tail _ (hrest p hp))) fun K h2 tk2 t1 t2 n F2 N2 hlt => ?_
   have hKS : K ≠ kS := fun q => Nat.lt_irrefl kS (by
     have := hlt (kS, _) (mr _ (.head _))
     rw [q] at this; exact this)
   have hn2 : ∀ p ∈ (K, PySem.W.listOf #[.str (X z.1) t1, .str (Y z.1) t2] n) :: nwK, p.1 ≠ kS := fun p hp => by
     rcases mc hp with rfl | hp
     · exact hKS
     exact hn p hp
   refine KatBack.intro (news := ((K, PySem.W.listOf #[.str (X z.1) t1, .str (Y z.1) t2] n) :: nwK) ++ (kS, seqObj "list" (List.toArray (kas.map Value.ref)) e) :: rest) F2 N2 (updF_mid hkS hn2) fun h3 c F3 N3 => ?_
   have e1 : kas.map Value.ref ++ [Value.ref K] = (kas ++ [K]).map Value.ref := by rw [List.map_append]; rfl
   rw [e1] at N3 ⊢
   refine katKeys_go hcall hrest hkS hzs hF r (done ++ [z]) (kas ++ [K]) c h3 tk2 _ (by rw [hz, List.append_assoc]; rfl) (by rw [lA, lA, hl]; rfl) (fun i hi z' hz' => ?_) F3 N3 hn2
   by_cases hik : i < kas.length
   · obtain ⟨a1, a2, a3, a4⟩ := hk i hik z' hz'
     refine ⟨a1, a2, a3, ?_⟩
     rw [List.getElem_append_left hik]
     exact .tail _ a4
   have hik' : i = kas.length := by rw [lA, List.length_singleton] at hi; omega
   subst hik'
   rw [hzi] at hz'
   have := Option.some.inj hz'
   subst this
   refine ⟨t1, t2, n, ?_⟩
   rw [List.getElem_append_right (Nat.le_refl _)]
   simp
theorem sort1_tail {B kS : Addr} {rest : List (Addr × Obj)} {nwK : List (Addr × Obj)} {v k : Value} {e e1 : Nat} {P : PySem.Fin → Shared → Prop} (F : Fr h₀ L s.heap m) (N : News h₀ L s.heap (nwK ++ (kS, seqObj "list" #[k] e) :: (B, seqObj "list" #[] e1) :: rest)) (hn : ∀ p ∈ nwK, p.1 ≠ kS) (hBK : B ≠ kS) (hr : ∀ p ∈ rest, p.1 ≠ B) (hrk : ∀ p ∈ rest, p.1 ≠ kS)
   (h : ∀ h' c, Fr h₀ L h' m → News h₀ L h' ((B, seqObj "list" #[v] c) :: rest) → P (.done (.ret .none)) { s with heap := h' }) :
   wpAny (model prog w) A (ksk_end B false #[v] e1 (.ref kS) #[k]) P E s := by
 have nk := N (kS, seqObj "list" #[k] e) (mr _ (.head _))
 have nb := N (B, seqObj "list" #[] e1) (mr _ (.tail _ (.head _)))
 unfold ksk_end
 dsimp only
 refine wpAny_bind (m := (if (#[v] : Array Value).size < 2 then pure general' else keyKind' #[k])) (wpAny_pure ?_)
 refine wpAny_bind (m := StateT.run (if (#[v] : Array Value).size < 2 then pure () else sortRuns') _) ?_
 rw [if_pos (show (#[v] : Array Value).size < 2 by simp), StateT.run_pure]
 refine wpAny_pure ?_
 dsimp only
 unfold ksk_tail
 have s1 := Heap.SameBut.update s.heap kS (Obj.mapSeq fun _ => (#[] : Array Value))
 refine wpAny_bind (listUpdate_at nk.1 rfl ?_ (show 1 ≤ sizeLine by decide) (Nat.zero_le _))
 refine wpAny_bind (wpAny_letGo ?_)
 have nb' : (s.heap.update kS (Obj.mapSeq fun _ => (#[] : Array Value))).get? B = some (seqObj "list" #[] e1) := (s1.2 B hBK).trans nb.1
 refine wpAny_bind (seqEpoch_at nb' rfl ?_)
 have hout : (if false = true then (Array.map (fun x : Keyed => x.2) (arrOf (SortSt.mk' general' (if false = true then (#[k].zip #[v]).reverse else #[k].zip #[v]) #[] 7 none))).reverse else Array.map (fun x : Keyed => x.2) (arrOf (SortSt.mk' general' (if false = true then (#[k].zip #[v]).reverse else #[k].zip #[v]) #[] 7 none))) = #[v] := by
   rw [if_neg Bool.false_ne_true, if_neg Bool.false_ne_true]
   show Array.map (fun x : Keyed => x.2) (#[k].zip #[v]) = #[v]
   simp
 rw [hout]
 refine wpAny_bind (listUpdate_at nb' rfl ?_ (Nat.zero_le _) (show 1 ≤ sizeLine + 1 by decide))
 rw [if_neg (by simp)]
 obtain ⟨c2, hc2⟩ : ∃ c2, ((s.heap.update kS (Obj.mapSeq fun _ => (#[] : Array Value))).update B (Obj.mapSeq fun _ => #[v])).get? B = some (seqObj "list" #[v] c2) := ⟨_, get?_update_seq nb' fun _ => #[v]⟩
 have s2 := Heap.SameBut.update (s.heap.update kS (Obj.mapSeq fun _ => (#[] : Array Value))) B (Obj.mapSeq fun _ => #[v])
 refine wpAny_pure (h _ c2 (kas_fr (kas_fr F s1 nk.2.1 nk.2.2) s2 nb.2.1 nb.2.2) fun p hp => ?_)
 rcases mc hp with rfl | hp
 · exact ⟨hc2, nb.2⟩
 have z := N p (mr _ (.tail _ (.tail _ hp)))
 exact ⟨(s2.2 _ (hr p hp)).trans ((s1.2 _ (hrk p hp)).trans z.1), z.2⟩
theorem keyed1 {a : Addr} {f : Value} {v : Value} {n : Nat} {P : PySem.Fin → Shared → Prop} (F : Fr h₀ L s.heap m) (N : News h₀ L s.heap news) (ho : s.heap.get? a = some (seqObj "list" #[v] n)) (haL : a ≠ L) (ha0 : h₀.get? a = none) (hna : ∀ p ∈ news, p.1 < a)
   (hcall : ∀ (kS e1 : Nat) (h4 : Heap), Fr h₀ L h4 m → News h₀ L h4 ((kS, seqObj "list" #[] 0) :: (a, seqObj "list" #[] e1) :: news) → a < kS →
     wpAny (model prog w) A (call f [v]) (fun k s5 => ∃ h5 tk5, s5 = { s with heap := h5, toks := tk5 } ∧ Fr h₀ L h5 m ∧ News h₀ L h5 ((kS, seqObj "list" #[] 0) :: (a, seqObj "list" #[] e1) :: news) ∧
       ∀ h' c, Fr h₀ L h' m → News h₀ L h' ((a, seqObj "list" #[v] c) :: news) → P (.done (.ret .none)) { s with heap := h', toks := tk5 }) (fun _ _ => False) { s with heap := h4 }) :
   wpAny (model prog w) A (ksk_tree a f false) P E s := by
 have ha : a < s.heap.objs.size := Heap.lt_size ho
 have hL : L < s.heap.objs.size := F.ns.lt
 have s1 := Heap.SameBut.update s.heap a (Obj.mapSeq fun _ => (#[] : Array Value))
 obtain ⟨e1, ho1⟩ : ∃ e1, (s.heap.update a (Obj.mapSeq fun _ => (#[] : Array Value))).get? a = some (seqObj "list" #[] e1) := ⟨_, get?_update_seq ho fun _ => #[]⟩
 have F3 := kas_fr F s1 haL ha0
 have N3 := kas_news N s1 fun p hp => Nat.ne_of_lt (hna p hp)
 unfold ksk_tree
 refine wpAny_bind (listItems_at ho rfl ?_)
 refine wpAny_bind (listUpdate_at ho rfl ?_ (show 1 ≤ sizeLine by decide) (Nat.zero_le _))
 refine wpAny_bind (seqEpoch_at ho1 rfl ?_)
 refine wpAny_bind (wpAny_newTuple ?_ (show 1 ≤ sizeLine by decide))
 refine wpAny_bind (wpAny_newList ?_ (Nat.zero_le _))
 refine wpAny_holding ?_
 have F4 := (F3.push (seqObj "tuple" #[v] 0)).push (seqObj "list" #[] 0)
 have hgrow : ∀ b ob, (s.heap.update a (Obj.mapSeq fun _ => (#[] : Array Value))).get? b = some ob → (((s.heap.update a (Obj.mapSeq fun _ => (#[] : Array Value))).push (seqObj "tuple" #[v] 0)).push (seqObj "list" #[] 0)).get? b = some ob := fun b ob e => Heap.get?_push_of_some _ (Heap.get?_push_of_some _ e)
 have hkSz : ((s.heap.update a (Obj.mapSeq fun _ => (#[] : Array Value))).push (seqObj "tuple" #[v] 0)).objs.size = s.heap.objs.size + 1 := by rw [Heap.size_push, Heap.size_update]
 have hkS : (((s.heap.update a (Obj.mapSeq fun _ => (#[] : Array Value))).push (seqObj "tuple" #[v] 0)).push (seqObj "list" #[] 0)).get? (s.heap.objs.size + 1) = some (seqObj "list" #[] 0) := by rw [← hkSz]; exact Heap.get?_push_size _ rfl
 show wpAny (model prog w) A (ksk_rest a f false #[v] e1 (.ref ((s.heap.update a (Obj.mapSeq fun _ => (#[] : Array Value))).push (seqObj "tuple" #[v] 0)).objs.size)) P E { s with heap := ((s.heap.update a (Obj.mapSeq fun _ => (#[] : Array Value))).push (seqObj "tuple" #[v] 0)).push (seqObj "list" #[] 0) }
 rw [hkSz]
 generalize ((s.heap.update a (Obj.mapSeq fun _ => (#[] : Array Value))).push (seqObj "tuple" #[v] 0)).push (seqObj "list" #[] 0) = H4 at F4 hgrow hkS ⊢
 have hkn : ∀ p ∈ (a, seqObj "list" #[] e1) :: news, p.1 ≠ s.heap.objs.size + 1 := fun p hp => by
   rcases mc hp with rfl | hp
   · exact Nat.ne_of_lt (Nat.lt_succ_of_lt ha)
   exact Nat.ne_of_lt (Nat.lt_succ_of_lt (Nat.lt_trans (hna p hp) ha))
 have N4 : News h₀ L H4 ((s.heap.objs.size + 1, seqObj "list" #[] 0) :: (a, seqObj "list" #[] e1) :: news) := fun p hp => by
   rcases mc hp with rfl | hp
   · exact ⟨hkS, Nat.ne_of_gt (Nat.lt_succ_of_lt hL), Heap.get?_none_of_le (Nat.le_trans F.above (Nat.le_succ_of_le (Nat.le_of_lt hL)))⟩
   rcases mc hp with rfl | hp
   · exact ⟨hgrow _ _ ho1, haL, ha0⟩
   exact ⟨hgrow _ _ (N3 p hp).1, (N3 p hp).2⟩
 have hc := hcall (s.heap.objs.size + 1) e1 H4 F4 N4 (Nat.lt_succ_of_lt ha)
 generalize s.heap.objs.size + 1 = kS at hc hkn ⊢
 unfold ksk_rest
 refine wpAny_bind (wpAny_rule ?_)
 rw [show (#[v] : Array Value) = [v].toArray from rfl, List.forIn_toArray, List.forIn_cons]
 refine wpAny_bind (wpAny_bind (wpAny_bind (wpAny_attempt (wpAny_mono hc (fun K s5 h5' => ?_) fun _ _ hF => hF.elim))))
 obtain ⟨h5, tk5, rfl, F5, N5, hP⟩ := h5'
 dsimp only
 have n5k := N5 (kS, seqObj "list" #[] 0) (.head _)
 have s5 := Heap.SameBut.update h5 kS (Obj.mapSeq (·.push K))
 obtain ⟨c5, hc5⟩ : ∃ c5, (h5.update kS (Obj.mapSeq (·.push K))).get? kS = some (seqObj "list" #[K] c5) := ⟨_, get?_update_seq n5k.1 (·.push K)⟩
 refine wpAny_bind (listUpdate_at n5k.1 rfl ?_ (Nat.zero_le _) (show 1 ≤ sizeLine + 1 by decide))
 refine wpAny_pure (wpAny_pure ?_)
 dsimp only
 have F6 := kas_fr F5 s5 n5k.2.1 n5k.2.2
 have N6 : News h₀ L (h5.update kS (Obj.mapSeq (·.push K))) ([] ++ (kS, seqObj "list" #[K] c5) :: (a, seqObj "list" #[] e1) :: news) := fun p hp => by
   rcases mc hp with rfl | hp
   · exact ⟨hc5, n5k.2⟩
   exact ⟨(s5.2 _ (hkn p hp)).trans (N5 p (.tail _ hp)).1, (N5 p (.tail _ hp)).2⟩
 refine wpAny_bind (listItems_at hc5 rfl ?_)
 exact sort1_tail F6 N6 (fun p hp => nomatch hp) (hkn _ (.head _)) (fun p hp => Nat.ne_of_lt (hna p hp)) (fun p hp => hkn p (.tail _ hp)) fun h7 c7 F7 N7 => hP h7 c7 F7 N7
theorem sortedK_strSet {d f : Addr} {o : Obj} {ys : List Str} {X Y : Str → Str} {Q : Value → Shared → Prop} (hh : A.handled = none) (hu : A.units + 4 < cLine) (F : Fr h₀ L s.heap m) (N : News h₀ L s.heap news) (hd : (d, o) ∈ news) (hs : StrSet prog w o ys) (hne : ys ≠ []) (hyb : ys.length ≤ 60)
   (hXY : ∀ y y', y ∈ ys → y' ∈ ys → y ≠ y' → X y = X y' → Y y ≠ Y y') (hnd : ys.Nodup) (hcall : KeyCall prog w A.in1.in1 h₀ L m news f ys X Y)
   (h : ∀ B c h' tk dr (zs : List (Str × Tok)), (zs.map (·.1)).Perm ys → (zs.map (·.1)).Pairwise (fun y y' => lt2 (X y) (Y y) (X y') (Y y') = true) → Fr h₀ L h' m → News h₀ L h' ((B, PySem.W.listOf (zs.map fun z => Value.str z.1 z.2).toArray c) :: news) → (∀ q ∈ news, q.1 < B) → Q (.ref B) { s with heap := h', toks := tk, drawn := dr }) :
   wpAny (model prog w) A (call (.builtin "sorted") [.ref d] [(Str.ofString "key", .ref f)]) Q (fun _ _ => False) s := by
 refine call_function_entry_kw kind_sorted plain_sorted entry_sorted (ksk_s1 _ _) ?_
 unfold Builtin.«sorted»
 refine wpAny_bind (m := checkCount "sorted" 1 1 _) (wpAny_pure ?_)
 refine wpAny_bind (collect_strSet (A := A.in1) hh (N _ hd).1 hs hne hyb fun h1 tk1 dr zs hzp hk1 _ => ?_)
 have hzl : zs.length = ys.length := by have h2 := hzp.length_eq; rw [lM] at h2; exact h2
 refine wpAny_bind (wpAny_newList ?_ (by rw [lM, sizeLine_eq]; omega))
 have F1 : Fr h₀ L h1 m := F.keeps hk1
 have N1 : News h₀ L h1 news := N.grown hk1
 have F2 := F1.push (seqObj "list" (zs.map fun z => Value.str z.1 z.2).toArray 0)
 have N2 : News h₀ L (h1.push (seqObj "list" (zs.map fun z => Value.str z.1 z.2).toArray 0)) news := N1.grown fun b ob e => Heap.get?_push_of_some _ e
 have hB : (h1.push (seqObj "list" (zs.map fun z => Value.str z.1 z.2).toArray 0)).get? h1.objs.size = some (seqObj "list" (zs.map fun z => Value.str z.1 z.2).toArray 0) := Heap.get?_push_size _ rfl
 have hBL : h1.objs.size ≠ L := Nat.ne_of_gt F1.ns.lt
 have hB0 : h₀.get? h1.objs.size = none := Heap.get?_none_of_le (Nat.le_trans F1.above (Nat.le_of_lt F1.ns.lt))
 have hlt : ∀ p ∈ news, p.1 < h1.objs.size := fun p hp => Heap.lt_size (N1 p hp).1
 refine wpAny_bind (wpAny_holding (wpAny_call_entry_kw slot_list_sort ⟨_, hB, rfl⟩ entry_list_sort ?body (ksk_l1 _ _)))
 case body =>
   show wpAny (model prog w) A.in1.in1 (Builtin.«list.sort» ⟨[.ref h1.objs.size], [(Str.ofString "key", .ref f)]⟩) _ _ _
   rw [ksk_t1]
   by_cases hone : zs.length < 2
   · obtain ⟨z, rfl⟩ : ∃ z, zs = [z] := by
       cases zs with
       | nil => rw [List.length_nil] at hzl; exact absurd (List.eq_nil_of_length_eq_zero hzl.symm) hne
       | cons z r =>
         cases r with
         | nil => exact ⟨z, rfl⟩
         | cons _ _ => simp at hone; omega
     have hzy : z.1 ∈ ys := hzp.mem_iff.mp (.head _)
     refine keyed1 (s := { s with heap := h1.push (seqObj "list" #[Value.str z.1 z.2] 0), toks := tk1, drawn := dr }) (news := news) F2 N2 hB hBL hB0 hlt fun kS e1 h4 F4 N4 hBk => ?_
     refine hcall { s with heap := h4, toks := tk1, drawn := dr } _ z.1 z.2 _ hzy F4 N4 (fun p hp => .tail _ (.tail _ hp)) fun K h5 tk5 t1 t2 n5 F5 N5 hK => ?_
     refine ⟨h5, tk5, rfl, F5, fun p hp => N5 p (.tail _ hp), fun h7 c7 F7 N7 => ⟨_, rfl, wpAny_pure ⟨_, rfl, ?_⟩⟩⟩
     exact h _ c7 h7 tk5 dr [z] hzp (List.pairwise_singleton _ _) F7 N7 hlt
   · have h2 : 2 ≤ (zs.map fun z => Value.str z.1 z.2).length := by rw [lM]; omega
     have h64 : (zs.map fun z => Value.str z.1 z.2).length < 64 := by rw [lM]; omega
     refine kat_keyed (s := { s with heap := h1.push (seqObj "list" (zs.map fun z => Value.str z.1 z.2).toArray 0), toks := tk1, drawn := dr }) (news := news) F2 N2 hB hBL hB0 (fun p hp => Nat.ne_of_lt (hlt p hp)) h2 h64 fun kS e1 h' F' N' hBk hlk => ?_
     have hkr : ∀ p ∈ (h1.objs.size, seqObj "list" #[] e1) :: news, p.1 ≠ kS := fun p hp => by
       rcases mc hp with rfl | hp
       · exact Nat.ne_of_lt hBk
       exact Nat.ne_of_lt (hlk p hp)
     refine katKeys_go (kS := kS) hcall (rest := (h1.objs.size, seqObj "list" #[] e1) :: news) (fun p hp => .tail _ hp) hkr (zs := zs) (fun z hz => hzp.mem_iff.mp (List.mem_map_of_mem hz)) (s₀ := { s with heap := h', toks := tk1, drawn := dr }) (fun kas e h5 tk5 nwK hl5 hk5 F5 N5 hn5 => ?_) zs [] [] 0 h' tk1 [] rfl rfl (fun i hi => absurd hi (by simp)) F' N' (fun p hp => nomatch hp)
     have hvl : (zs.map fun z => Value.str z.1 z.2).length = (kas.map Value.ref).length := by rw [lM, lM, hl5]
     have hgz : ∀ i, i < zs.length → zs[i]? = some (zs.getD i (Str.empty, 0)) := fun i hi => by simp [hi]
     refine kas_kind (T := .type "list") (by rw [← hvl]; exact h2) (fun v hv => ?_) (by decide) (by decide) ?_
     · obtain ⟨K, hK, rfl⟩ := List.mem_map.mp hv
       obtain ⟨i, hi, rfl⟩ := List.mem_iff_getElem.mp hK
       obtain ⟨t1, t2, n, hm⟩ := hk5 i hi _ (hgz i (by omega))
       exact (Looks.ld (N5 _ (ml _ hm)).1).andThen .now
     rw [hvl]
     have hask : AskBy prog w h₀ L (nwK ++ (kS, seqObj "list" (List.toArray (kas.map Value.ref)) e) :: (h1.objs.size, seqObj "list" #[] e1) :: news) (A.units + 3) oneType' (kas.map Value.ref) (fun i j => lt2 (X (zs.getD i (Str.empty, 0)).1) (Y (zs.getD i (Str.empty, 0)).1) (X (zs.getD j (Str.empty, 0)).1) (Y (zs.getD j (Str.empty, 0)).1)) :=
       ask_list2 (X := fun i => X (zs.getD i (Str.empty, 0)).1) (Y := fun i => Y (zs.getD i (Str.empty, 0)).1) (by omega) fun i hi => by
         obtain ⟨t1, t2, n, hm⟩ := hk5 i hi _ (hgz i (by omega))
         exact ⟨t1, t2, n, ml _ hm⟩
     have hmem : ∀ i, i < zs.length → (zs.getD i (Str.empty, 0)).1 ∈ ys := fun i hi => hzp.mem_iff.mp (List.mem_map_of_mem (List.mem_of_getElem? (hgz i hi)))
     have hznd : (zs.map (·.1)).Nodup := hzp.nodup_iff.mpr hnd
     have S : SLt (fun i j => lt2 (X (zs.getD i (Str.empty, 0)).1) (Y (zs.getD i (Str.empty, 0)).1) (X (zs.getD j (Str.empty, 0)).1) (Y (zs.getD j (Str.empty, 0)).1)) (kas.map Value.ref).length := by
       refine slt_lt2 (X := fun i => X (zs.getD i (Str.empty, 0)).1) (Y := fun i => Y (zs.getD i (Str.empty, 0)).1) fun i j hi hj hij hx => ?_
       rw [lM] at hi hj
       refine hXY _ _ (hmem i (by omega)) (hmem j (by omega)) (fun e => ?_) hx
       have e1 : (zs.map (·.1))[i]? = (zs.map (·.1))[j]? := by rw [List.getElem?_map, List.getElem?_map, hgz i (by omega), hgz j (by omega)]; exact congrArg some e
       exact hij ((List.getElem?_inj (by rw [lM]; omega) hznd).mp e1)
     refine sort_tree hask S (by rw [← hvl]; omega) (by show A.units + 2 ≤ A.units + 3; omega) N5 fun q hq hp => ?_
     refine KatFin.intro F5 N5 (updF_mid hkr hn5) fun h6 c6 F6 N6 => ?_
     refine KasFin.intro (news := (h1.objs.size, seqObj "list" #[] e1) :: news) F6 (fun p hp => N6 p (mr _ (.tail _ hp))) (UpdF.head fun p hp => Nat.ne_of_lt (hlt p hp)) fun h7 c7 F7 N7 => ?_
     refine ⟨_, rfl, wpAny_pure ⟨_, rfl, ?_⟩⟩
     have hkl : (kas.map Value.ref).length = zs.length := by rw [lM, hl5]
     rw [hkl] at hq
     let zs' : List (Str × Tok) := q.toList.map fun i => zs.getD i (Str.empty, 0)
     have hzz : zs'.Perm zs := by
       refine (hq.map _).trans (List.Perm.of_eq ?_)
       refine List.ext_getElem (by simp) fun i h1 h2 => ?_
       simp only [List.getElem_map, List.getElem_range, List.getD_eq_getElem?_getD]
       rw [List.getElem?_eq_getElem h2]; rfl
     have hout : (q.toList.map fun i => (zs.map fun z => Value.str z.1 z.2).getD i Value.none) = zs'.map fun z => Value.str z.1 z.2 := by
       show _ = (q.toList.map fun i => zs.getD i (Str.empty, 0)).map fun z => Value.str z.1 z.2
       rw [List.map_map]
       refine List.map_congr_left fun i hi => ?_
       have hi' : i < zs.length := List.mem_range.mp (hq.mem_iff.mp hi)
       rw [List.getD_eq_getElem?_getD, List.getElem?_map, hgz i hi']; rfl
     refine h h1.objs.size c7 h7 tk5 dr zs' ((hzz.map _).trans hzp) ?_ F7 (fun p hp => ?_) hlt
     · show ((q.toList.map fun i => zs.getD i (Str.empty, 0)).map (·.1)).Pairwise _
       rw [List.map_map, List.pairwise_map]
       exact hp
     refine N7 p ?_
     rcases mc hp with rfl | hp
     · rw [← hout]; exact .head _
     exact .tail _ hp
end
section
open PySem.Calls
variable {prog : Program} {w : World} {A : Around} {E : Value → Shared → Prop} {s : Shared} {h₀ : Heap} {L : Addr} {m : Str → Option Value} {env : Env} {news : Led} {target : Expr}
theorem isDict_nil {K : Type} [DecidableEq K] (knd : KeyKind prog w K) : Obj.IsDictOf knd { cls := .type "dict", dict := none, data := .dict #[] } [] := ⟨#[], 0, ⟨rfl, rfl, rfl⟩, rfl, fun e he => by simp at he, .nil, List.nodup_nil⟩
def CTurnD {K : Type} [DecidableEq K] (prog : Program) (w : World) (A : Around) (knd : KeyKind prog w K) (h₀ : Heap) (L : Addr) (m : Str → Option Value) (env : Env) (kx vx target : Expr) (scope : Scope) (cl : List (Str × Addr)) (s₂ : Shared) (news : Led) (fp wr : List Addr) (n : Nat) (P : Nat → Value → Heap → Prop) (J : Nat → List (K × Value) → Led → Prop) : Prop :=
 ∀ i v C oC D oD m₂ h tk kvs nw own, s₂.toks ≤ tk → i < n → P i v h → J i kvs nw → oD.IsDictOf knd kvs → LCg.NsObj oC m₂ → Fr h₀ L h m → News h₀ L h ((C, oC) :: (D, oD) :: (nw ++ own)) → OwnOff nw (C :: D :: wr) → OwnOff own [C, D] → (∀ p ∈ own, p.1 ∈ fp) → (∀ p ∈ news, @LT.lt Nat _ p.1 D) → (@LT.lt Nat _ D C) → (∀ b ∈ wr, ∃ o, (b, o) ∈ own) → (@Ne Nat C D) → (@Ne Nat C L) → (@Ne Nat D L) → h₀.get? C = none →
   wpAny (model prog w) A (assign target (compEnvC scope cl C env) v) (fun _ s₃ =>
     wpAny (model prog w) A (eval kx (compEnvC scope cl C env)) (fun kv s₄ => wpAny (model prog w) A (eval vx (compEnvC scope cl C env)) (fun vv =>
       CEnd h₀ L m { s₂ with heap := h, toks := tk } C D oD wr own (fun nw' => ∃ k, knd.is k kv = true ∧ k ∉ kvs.map (·.1) ∧ J (i + 1) (kvs ++ [(k, vv)]) nw')) (fun _ _ => False) s₄) (fun _ _ => False) s₃) (fun _ _ => False) { s₂ with heap := h, toks := tk }
theorem stored_new {K : Type} [DecidableEq K] {kvs : List (K × Value)} {k : K} (h : k ∉ kvs.map (·.1)) (v : Value) : stored kvs k v = kvs ++ [(k, v)] := by
 unfold stored
 rw [if_neg]
 rw [List.any_eq_true]
 rintro ⟨p, hp, e⟩
 exact h (List.mem_map.mpr ⟨p, hp, of_decide_eq_true e⟩)
theorem block_D {K : Type} [DecidableEq K] {knd : KeyKind prog w K} {kx vx iter : Expr} {scope : Scope} {cl : List (Str × Addr)} {pos : Pos} {s₂ : Shared} {I : Addr} {fp wr : List Addr} {n : Nat} {P Md : Nat → Value → Heap → Prop} {St : Nat → Heap → Prop} {it : Value}
   {RR : Value → Addr → Result → Shared → Prop} (J : Nat → List (K × Value) → Led → Prop) {nw₀ : Led}
   (X : Source prog w A target h₀ L m news n P it s₂ I fp wr Md St) (hsub : ∀ p ∈ nw₀, p ∈ news)
   (hcell : ∀ y ∈ scope.names, y.2 ≠ .cell) (hkind : scope.kind = .function) (h0 : J 0 [] nw₀)
   (turn : CTurnD prog w A knd h₀ L m env kx vx target scope cl s₂ news fp wr n P J)
   (hRR : ∀ D C h tk m' oD ys nw, s₂.toks ≤ tk → oD.IsDictOf knd ys → Fr h₀ L h m → News h₀ L h ((D, oD) :: nw) → OwnOff nw [C, D] → h.Ns C m' → h₀.get? C = none → h₀.get? D = none → C ≠ L → D ≠ L → C ≠ D → (∀ p ∈ news, p.1 < D) → J n ys nw → RR (.ref D) C (.ok .next) { s₂ with heap := h, toks := tk }) :
   wpAny (model prog w) A newDict (fun acc s₃ => wpAny (model prog w) A (newFunctionEnv scope env.globals cl [] env.qual none .none (some env)) (fun cenv s₄ =>
     codeAny (model prog w) A (.compStart (.DictComp kx vx [⟨target, iter, [], 0⟩] scope pos) 0 it acc { cenv with scope := relabel scope env }) (RR acc cenv.locals) s₄) E s₃) E s₂ := by
 obtain ⟨rfl, W, self, hex, hLf, hwr, off, hst, hfp, F, N, hsz⟩ := X
 unfold newDict
 refine wpAny_newObj_type (wpAny_newFunctionEnv hcell (by rintro y hy; simp at hy) (fun h₁ hns₁ hsb₁ => ?_) hkind)
 dsimp only at hns₁ hsb₁ ⊢
 generalize hH2 : s₂.heap.push { cls := .type "dict", dict := none, data := .dict #[] } = H2 at hns₁ hsb₁ ⊢
 have hC : H2.objs.size = s₂.heap.objs.size + 1 := by rw [← hH2, Heap.size_push]
 have hDC : s₂.heap.objs.size ≠ H2.objs.size := by rw [hC]; exact Nat.ne_of_lt (Nat.lt_succ_self _)
 have below : ∀ b, b < s₂.heap.objs.size → b ≠ H2.objs.size ∧ b ≠ s₂.heap.objs.size := fun b hb => ⟨by rw [hC]; exact Nat.ne_of_lt (Nat.lt_succ_of_lt hb), Nat.ne_of_lt hb⟩
 have hDf : s₂.heap.objs.size ∉ fp := fun hm => Nat.lt_irrefl _ (hfp _ hm)
 have hCf : H2.objs.size ∉ fp := fun hm => by have := hfp _ hm; rw [hC] at this; exact Nat.lt_irrefl _ (Nat.lt_of_succ_lt this)
 have hLw : L ∉ wr := fun h => hLf (W.sub _ h)
 have hDw : s₂.heap.objs.size ∉ wr := fun h => hDf (W.sub _ h)
 have hCw : H2.objs.size ∉ wr := fun h => hCf (W.sub _ h)
 have old : ∀ b o, s₂.heap.get? b = some o → h₁.get? b = some o := fun b o e => hsb₁.extBut b o (below b (Heap.lt_size e)).1 (Heap.get?_push_of_some _ (hH2 ▸ Heap.get?_push_of_some _ e))
 have hacc : h₁.get? s₂.heap.objs.size = some { cls := .type "dict", dict := none, data := .dict #[] } := hsb₁.extBut _ _ hDC (Heap.get?_push_of_some _ (hH2 ▸ Heap.get?_push_size _ rfl))
 have hst₁ : St 0 h₁ := W.frame _ _ _ hst fun b _ o e => old b o e
 have fresh₀ : ∀ a, s₂.heap.objs.size ≤ a → h₀.get? a = none := fun a ha => by
   cases e : h₀.get? a with
   | none => rfl
   | some o' => exact absurd (Heap.lt_size (F.keep a o' e)) (Nat.not_lt.mpr ha)
 have hD₀ : h₀.get? s₂.heap.objs.size = none := fresh₀ _ (Nat.le_refl _)
 have hC₀ : h₀.get? H2.objs.size = none := fresh₀ _ (by rw [hC]; exact Nat.le_succ _)
 have hLlt : L < s₂.heap.objs.size := F.ns.lt
 have hDL : s₂.heap.objs.size ≠ L := Ne.symm (below L hLlt).2
 have hCL : H2.objs.size ≠ L := Ne.symm (below L hLlt).1
 have off₀ : OwnOff nw₀ (H2.objs.size :: s₂.heap.objs.size :: wr) := off_cons (fun p hp => (below _ (Heap.lt_size (N p (hsub p hp)).1)).1) (off_cons (fun p hp => (below _ (Heap.lt_size (N p (hsub p hp)).1)).2) (off_sub off hsub))
 have loop : ∀ s₃ : Shared, s₃ = { s₂ with heap := h₁, toks := s₂.toks + ([] : List (Str × Value)).length } →
     codeAny (model prog w) A (.compLoop (.DictComp kx vx [⟨target, iter, [], 0⟩] scope pos) 0 (.ref I) (.ref s₂.heap.objs.size) (compEnvC scope cl H2.objs.size env))
       (RR (.ref s₂.heap.objs.size) H2.objs.size) s₃ := by
   rintro s₃ rfl
   refine codeAny_compLoop_genD
     (fun k s' => ∃ h' tk i oD ys m' nw, oD.IsDictOf knd ys ∧ s' = { s₂ with heap := h', toks := tk } ∧ s₂.toks ≤ tk ∧ i ≤ n ∧ k = n + 1 - i ∧ ys.length ≤ i ∧ St i h' ∧ Fr h₀ L h' m ∧ h'.Ns H2.objs.size m' ∧ News h₀ L h' ((s₂.heap.objs.size, oD) :: nw) ∧
       OwnOff nw (H2.objs.size :: s₂.heap.objs.size :: wr) ∧ J i ys nw) ?_ (n + 1)
     ⟨h₁, _, 0, _, [], _, nw₀, isDict_nil knd, rfl, Nat.le_add_right _ _, Nat.zero_le _, rfl, Nat.le_refl _, hst₁, F.keeps old, hns₁, fun p hp => ?_, off₀, h0⟩
   · rintro k s' ⟨h', tk, i, oD, ys, m', nw, hdD, rfl, htk, hi, rfl, hyl, hst', F', hn', N', off', j'⟩
     refine wp_ge (n := s₂.toks) htk ?_
     by_cases hlt : i < n
     · refine W.item i _ _ _ hlt hst' fun v h₂ tk₂ hMd hk₂ htk₂ => ?_
       refine W.go i v _ _ _ hMd fun h₃ hP hst₃ hk₃ => ?_
       obtain ⟨F₃, N₃, hn₃⟩ := block_keep (h' := h₃) F' N' hn' off' hwr hLw hDw hCw fun b o hb e => hk₃ b o hb (hk₂ b o hb e)
       obtain ⟨oC, heC, hoC⟩ := LCg.ns_obj hn₃
       have No := news_ownOf (h₀ := h₀) (h := h₃) (L := L) (fp := fp) hLf
       refine wp_ge (n := s₂.toks) htk₂ ?_
       refine wpAny_mono (turn i v H2.objs.size oC s₂.heap.objs.size oD _ h₃ tk₂ ys nw (ownOf h₀ fp h₃) htk₂ hlt hP j' hdD hoC F₃ (fun p hp => ?_) off' (fun p hp b hb e => by
         have hpf := ownOf_sub p hp
         rcases mc hb with rfl | hb
         · exact hCf (e ▸ hpf)
         rw [ms hb] at e; exact hDf (e ▸ hpf)) (fun p hp => ownOf_sub p hp) (fun p hp => Heap.lt_size (N p hp).1) (by show @LT.lt Nat _ s₂.heap.objs.size H2.objs.size; rw [hC]; exact Nat.lt_succ_self _) (block_own W hex hwr hst₃) (Ne.symm hDC) hCL hDL hC₀) (fun _ s₃ h₃' => fun ht₃ => ?_) fun _ _ e => e.elim
       · rcases mc hp with rfl | hp
         · exact ⟨heC, hCL, hC₀⟩
         rcases mc hp with rfl | hp
         · exact N₃ _ (.head _)
         rcases ma hp with hp | hp
         · exact N₃ _ (.tail _ hp)
         exact No p hp
       show wpAny _ _ (forIn ([] : List Expr) true _) _ _ s₃
       rw [List.forIn_nil]
       refine wpAny_pure ?_
       rw [if_pos rfl]
       refine wp_ge (n := s₂.toks) ht₃ (wpAny_mono h₃' (fun kv s₄ h₄ => fun ht₄ => ?_) fun _ _ e => e.elim)
       refine wp_ge (n := s₂.toks) ht₄ (wpAny_mono h₄ (fun vv s₅ h₅ => fun ht₅ => ?_) fun _ _ e => e.elim)
       obtain ⟨h₄, tk₄, oC', m₂', nw₄, rfl, F₄, N₄, hoC', off₄, kk, hkk, hnew, R₄⟩ := h₅
       have zC := (N₄ (H2.objs.size, oC') (.head _)).1
       have zD := (N₄ (s₂.heap.objs.size, oD) (.tail _ (.head _))).1
       have hst₄ : St (i + 1) h₄ := block_st W hst₃ F₃.keep F₄ N₄ fun p hp => .tail _ (.tail _ (mr _ hp))
       refine wpAny_dictSet_pairs (s := ⟨h₄, _, _, tk₄, _⟩) hkk (Heap.dictOf_iff.mpr ⟨oD, zD, hdD⟩) (fun h₅ hD₅ hs₅ => ?_) (Nat.le_trans (Nat.le_trans hyl hi) hsz)
       rw [stored_new hnew] at hD₅
       obtain ⟨oD', hD', hdD'⟩ := Heap.dictOf_iff.mp hD₅
       refine ⟨n + 1 - (i + 1), by omega, h₅, tk₄ + 1, i + 1, oD', ys ++ [(kk, vv)], _, nw₄, hdD', rfl, Nat.le_succ_of_le ht₅, hlt, rfl, by rw [lA, List.length_singleton]; exact Nat.succ_le_succ hyl, W.frame _ _ _ hst₄ fun b hb o e => hs₅.extBut b o (fun q => hDf (q ▸ hb)) e, F₄.change hs₅ hDL hD₀,
         (hoC'.ns zC).sameBut hs₅ (Ne.symm hDC), fun p hp => ?_, off₄, R₄⟩
       rcases mc hp with rfl | hp
       · exact ⟨hD', hDL, hD₀⟩
       have z := N₄ p (.tail _ (.tail _ (ml _ hp)))
       exact ⟨hs₅.extBut _ _ (off₄ p hp _ (.tail _ (.head _))) z.1, z.2⟩
     obtain rfl : i = n := Nat.le_antisymm hi (Nat.not_lt.mp hlt)
     refine W.done _ _ _ hst' fun h₂ tk₂ hk₂ htk₂ => ?_
     obtain ⟨F₃, N₃, hn₃⟩ := block_keep (h' := h₂) F' N' hn' off' hwr hLw hDw hCw hk₂
     exact hRR _ _ h₂ tk₂ _ oD ys nw htk₂ hdD F₃ N₃ (fun p hp b hb => off' p hp b (by rcases mc hb with rfl | hb; exact .head _; rw [ms hb]; exact .tail _ (.head _))) hn₃ hC₀ hD₀ hCL hDL (Ne.symm hDC) (fun p hp => Heap.lt_size (N p hp).1) j'
   rcases mc hp with rfl | hp
   · exact ⟨hacc, hDL, hD₀⟩
   exact ⟨old _ _ (N p (hsub p hp)).1, (N p (hsub p hp)).2⟩
 exact codeAny_compStart_dict (loop _ rfl) (self _ _ _ hst₁ (loop _ rfl))
def SrcD {K : Type} [DecidableEq K] (prog : Program) (w : World) (A : Around) (knd : KeyKind prog w K) (h₀ : Heap) (L : Addr) (m : Str → Option Value) (env : Env) (kx vx target : Expr) (scope : Scope) (cl : List (Str × Addr)) (Fin : Shared → Addr → Obj → List (K × Value) → Led → Prop) (it : Value) (s₂ : Shared) : Prop :=
 ∃ (news nw₀ : Led) (n : Nat) (P Md : Nat → Value → Heap → Prop) (I : Addr) (fp wr : List Addr) (St : Nat → Heap → Prop) (J : Nat → List (K × Value) → Led → Prop), Source prog w A target h₀ L m news n P it s₂ I fp wr Md St ∧ (∀ p ∈ nw₀, p ∈ news) ∧ J 0 [] nw₀ ∧
   CTurnD prog w A knd h₀ L m env kx vx target scope cl s₂ news fp wr n P J ∧ ∀ D oD ys nw, (∀ p ∈ news, p.1 < D) → (∀ p ∈ nw, p.1 ≠ D) → oD.IsDictOf knd ys → J n ys nw → Fin s₂ D oD ys nw
def FinAD {K : Type} (h₀ : Heap) (L : Addr) (m : Str → Option Value) (y : Str) (Q : Flow → Shared → Prop) (s : Shared) (D : Addr) (oD : Obj) (_ : List (K × Value)) (news : Led) : Prop :=
 ∀ h tk, s.toks ≤ tk → Fr h₀ L h (fun z => if z = y then some (.ref D) else m z) → News h₀ L h ((D, oD) :: news) → Q .next { s with heap := h, toks := tk }
theorem assign_dictComp_G {K : Type} [DecidableEq K] {knd : KeyKind prog w K} {kx vx iter : Expr} {y : Str} {py : Pos} {scope : Scope} {cl : List (Str × Addr)} {pos spos : Pos} {Q : Flow → Shared → Prop} (F₀ : Fr h₀ L s.heap m) (hLe : env.locals = L)
   (hsw : swapsWith (.DictComp kx vx [⟨target, iter, [], 0⟩] scope pos) (some (.Name y py)) spos.line env = pure true)
   (hclos : closureFor scope env = pure cl) (hcell : ∀ z ∈ scope.names, z.2 ≠ .cell) (hkind : scope.kind = .function)
   (hnames : ∀ z ∈ scope.names, z.2 = .local → scope.names.lookup z.1 = some .local)
   (hy : env.kindOf y = some .local) (hp : (env.scope.kind == .class || (env.scope.kind == .module && env.locals != env.globals)) = false)
   (h : wpAny (model prog w) A (eval iter env) (fun xv s₁ => wpAny (model prog w) A (pyIter xv) (SrcD prog w A knd h₀ L m env kx vx target scope cl (FinAD h₀ L m y Q)) E s₁) E s)
   (hs : ∀ x, foldedSetIterable iter env x = pure x) :
   wpAny (model prog w) A (exec (.Assign [.Name y py] (.DictComp kx vx [⟨target, iter, [], 0⟩] scope pos) spos) env) Q E s := by
 subst hLe
 rw [exec_Assign_Name_used _ _ _ _ hsw]
 refine wpAny_bind (wpAny_standAt (wpAny_bind ?_))
 show wpAny _ A (do let _ ← comprehension (.DictComp kx vx [⟨target, iter, [], 0⟩] scope pos) scope env _ newDict false (eval iter env) (some (assign (.Name y py) env))) _ _ s
 refine wpAny_bind (wpAny_mono (wpAny_comprehension_free (use := some (assign (.Name y py) env)) (Q := fun _ s' => Q .next s') rfl hs hclos hkind hnames
   (wpAny_mono h (fun xv s₁ h₁ => wpAny_mono h₁ (fun it s₂ h₂ => ?_) fun _ _ e => e) fun _ _ e => e)) (fun _ s' hq => wpAny_pure (wpAny_pure hq)) fun _ _ e => e)
 obtain ⟨news, nw₀, n, P, Md, I, fp, wr, St, J, X, hsub, j0, turn, fin⟩ := h₂
 refine block_D J X hsub hcell hkind j0 turn ?_
 rintro D C h' tk m' oD ys nw ht hdD F' N' o1 hn hC₀ hD₀ hCL hDL hCD hlt j
 show wpAny _ A (assign (.Name y py) env (.ref D)) _ _ _
 refine wpAny_assign_Name (wpAny_storeName_local hy F'.ns (fun h₂ hn₂ hs₂ => ?_) hp)
 have hL₀ : h₀.get? env.locals = none := Heap.get?_none_of_le F'.above
 have F₂ : Fr h₀ env.locals h₂ (fun z => if z = y then some (.ref D) else m z) := ⟨hn₂, fun b o e => hs₂.extBut b o (fun q => by rw [q, hL₀] at e; cases e) (F'.keep b o e), F'.above⟩
 refine ⟨m', hn.sameBut hs₂ hCL, fun h'' hs'' => fin D _ _ _ hlt (fun p hp => o1 p hp D (.tail _ (.head _))) hdD j h'' _ (Nat.le_succ_of_le ht) (F₂.change hs'' hCL hC₀) (fun p hp => ?_)⟩
 have z : h₂.get? p.1 = some p.2 := hs₂.extBut _ _ (N' p hp).2.1 (N' p hp).1
 refine ⟨hs''.extBut _ _ ?_ z, (N' p hp).2⟩
 rcases mc hp with rfl | hp
 · exact Ne.symm hCD
 exact o1 p hp C (.head _)
theorem CTurnD.name {K : Type} [DecidableEq K] {knd : KeyKind prog w K} {kx vx : Expr} {x : Str} {px : Pos} {scope : Scope} {cl : List (Str × Addr)} {s₂ : Shared} {news : Led} {fp wr : List Addr} {n : Nat} {P : Nat → Value → Heap → Prop} {J : Nat → List (K × Value) → Led → Prop} (hx : scope.names.lookup x = some .local) (hkind : scope.kind = .function)
   (h : ∀ i v C oC D oD m₂ g h tk ys nw own, s₂.toks ≤ tk → i < n → P i v g → J i ys nw → oD.IsDictOf knd ys → LCg.NsObj oC m₂ → m₂ x = some v → Fr h₀ L h m → News h₀ L h ((C, oC) :: (D, oD) :: (nw ++ own)) → OwnOff nw (C :: D :: wr) → OwnOff own [C, D] → (∀ p ∈ own, p.1 ∈ fp) → (∀ p ∈ news, @LT.lt Nat _ p.1 D) → (@LT.lt Nat _ D C) → (∀ b ∈ wr, ∃ o, (b, o) ∈ own) → (@Ne Nat C D) → (@Ne Nat C L) → (@Ne Nat D L) →
     wpAny (model prog w) A (eval kx (compEnvC scope cl C env)) (fun kv s₄ => wpAny (model prog w) A (eval vx (compEnvC scope cl C env)) (fun vv =>
       CEnd h₀ L m { s₂ with heap := h, toks := tk } C D oD wr own (fun nw' => ∃ k, knd.is k kv = true ∧ k ∉ ys.map (·.1) ∧ J (i + 1) (ys ++ [(k, vv)]) nw')) (fun _ _ => False) s₄) (fun _ _ => False) { s₂ with heap := h, toks := tk }) :
   CTurnD prog w A knd h₀ L m env kx vx (.Name x px) scope cl s₂ news fp wr n P J := by
 rintro i v C oC D oD m₂ g tk ys nw own htk hi hP hJ hdD hC F N off hown hof hnD hDC hw hCD hCL hDL hC₀
 exact assign_own hx hkind F N hC (off_rest hCD off hown) hCL hC₀ fun h' oC' m₃ F' N' hC' hv => h i v C oC' D oD m₃ g h' _ ys nw own (Nat.le_succ_of_le htk) hi hP hJ hdD hC' hv F' N' off hown hof hnD hDC hw hCD hCL hDL
theorem CTurnD.pair {K : Type} [DecidableEq K] {knd : KeyKind prog w K} {kx vx : Expr} {x y : Str} {px py tp : Pos} {kk : Nat} {scope : Scope} {cl : List (Str × Addr)} {s₂ : Shared} {news : Led} {fp wr : List Addr} {n : Nat} {P : Nat → Value → Heap → Prop} {J : Nat → List (K × Value) → Led → Prop} (hh : A.handled = none) (hx : scope.names.lookup x = some .local) (hy : scope.names.lookup y = some .local) (hxy : x ≠ y) (hkind : scope.kind = .function)
   (R : Nat → Value → Value → Prop) (hR : ∀ i v h ys nw own, i < n → P i v h → J i ys nw → News h₀ L h (nw ++ own) → ∃ T a b, v = .ref T ∧ h.IsTuple T #[a, b] ∧ R i a b)
   (h : ∀ i a b C oC D oD m₂ h tk ys nw own, s₂.toks ≤ tk → i < n → R i a b → J i ys nw → oD.IsDictOf knd ys → LCg.NsObj oC m₂ → m₂ x = some a → m₂ y = some b → Fr h₀ L h m → News h₀ L h ((C, oC) :: (D, oD) :: (nw ++ own)) → OwnOff nw (C :: D :: wr) → OwnOff own [C, D] → (∀ p ∈ own, p.1 ∈ fp) → (∀ p ∈ news, @LT.lt Nat _ p.1 D) → (@LT.lt Nat _ D C) → (∀ b ∈ wr, ∃ o, (b, o) ∈ own) → (@Ne Nat C D) → (@Ne Nat C L) → (@Ne Nat D L) →
     wpAny (model prog w) A (eval kx (compEnvC scope cl C env)) (fun kv s₄ => wpAny (model prog w) A (eval vx (compEnvC scope cl C env)) (fun vv =>
       CEnd h₀ L m { s₂ with heap := h, toks := tk } C D oD wr own (fun nw' => ∃ k, knd.is k kv = true ∧ k ∉ ys.map (·.1) ∧ J (i + 1) (ys ++ [(k, vv)]) nw')) (fun _ _ => False) s₄) (fun _ _ => False) { s₂ with heap := h, toks := tk }) :
   CTurnD prog w A knd h₀ L m env kx vx (.Tuple [.Name x px, .Name y py] kk tp) scope cl s₂ news fp wr n P J := by
 rintro i v C oC D oD m₂ g tk ys nw own htk hi hP hJ hdD hC F N off hown hof hnD hDC hw hCD hCL hDL hC₀
 obtain ⟨T, a, b, rfl, ht, hab⟩ := hR i v g ys nw own hi hP hJ fun p hp => N p (.tail _ (.tail _ hp))
 refine wp_ge (n := s₂.toks) htk (assign_own2 hh hx hy hxy hkind F N hC ht (off_rest hCD off hown) hCL hC₀ fun h' oC' m₃ tk' F' N' hC' ha hb htk' => ?_)
 exact h i a b C oC' D oD m₃ h' tk' ys nw own htk' hi hab hJ hdD hC' ha hb F' N' off hown hof hnD hDC hw hCD hCL hDL
end
theorem mem_swap {w : World} {A : WA} {κ : WT} {S : WL} {X R : Led} {p : Addr × Obj} (h : p ∈ wLed w A κ S (X ++ R)) : p ∈ X ++ wLed w A κ S R := by
 have e : ∀ Z : Led, wLed w A κ S Z = wLed w A κ S [] ++ Z := fun Z => rfl
 rw [e] at h ⊢
 rcases ma h with h | h
 · exact mr _ (ml _ h)
 rcases ma h with h | h
 · exact ml _ h
 exact mr _ (mr _ h)
theorem mem_unswap {w : World} {A : WA} {κ : WT} {S : WL} {X R : Led} {p : Addr × Obj} (h : p ∈ X ++ wLed w A κ S R) : p ∈ wLed w A κ S (X ++ R) := by
 have e : ∀ Z : Led, wLed w A κ S Z = wLed w A κ S [] ++ Z := fun Z => rfl
 rw [e] at h ⊢
 rcases ma h with h | h
 · exact mr _ (ml _ h)
 rcases ma h with h | h
 · exact ml _ h
 exact mr _ (mr _ h)
theorem WA.Ord.more {A : WA} {X R : Led} (O : A.Ord R) (h : ∀ p ∈ X, p.1 < A.pc ∨ A.ps < p.1) : A.Ord (X ++ R) := ⟨O.o, fun p hp => (ma hp).elim (h p) (O.off p)⟩
theorem NSt.more {l l' : Led} {lv : Array Value} {Ls : List (Addr × Array Value × Nat)} {tl : List NT} (V : NSt l lv Ls tl) (h : ∀ p ∈ l, p ∈ l') : NSt l' lv Ls tl := ⟨V.lv, fun q hq => h _ (V.mem q hq), V.flat, fun q hq => h _ (V.tup q hq), V.small, V.nodup, V.plen⟩
theorem wLed_mono {w : World} {A : WA} {κ : WT} {S : WL} {R R' : Led} (h : ∀ p ∈ R, p ∈ R') {p : Addr × Obj} (hp : p ∈ wLed w A κ S R) : p ∈ wLed w A κ S R' := by
 have e : ∀ Z : Led, wLed w A κ S Z = wLed w A κ S [] ++ Z := fun Z => rfl
 rw [e] at hp ⊢
 exact (ma hp).elim (fun h => ml _ h) fun hq => mr _ (h p hq)
theorem wLed_R {w : World} {A : WA} {κ : WT} {S : WL} {R : Led} {p : Addr × Obj} (hp : p ∈ R) : p ∈ wLed w A κ S R := by
 show p ∈ wLed w A κ S [] ++ R
 exact mr _ hp
theorem flush_ctr {w : World} {d u : Nat} {A : WA} {κ : WT} {S : WL} {R : Led} (hdd : 4 ≤ d) (hu : 20 ≤ u) (O : A.Ord R) (y : Str) (t : Tok) (hdat : S.dat = #[.str y t]) (hy : y.length ≤ 3) (hy1 : 1 ≤ y.length) (hpn : S.pcs.size ≤ 1000) (hsn : κ.seen = true) :
   Ctr w 106 d u (wLed w A κ S R) [.ref A.x] (fun v l => v = .none ∧ ∃ nd' tw, l = wLed w A κ { S with pcs := S.pcs.push (.str (escText y) tw), np := S.np + 1, dat := #[], nd := nd' } R) := by
 w_top off
 obtain ⟨pcs, np, dat, nd, lv, nl, nss, nn, pv, nv, opm⟩ := S
 obtain ⟨κκ, κz, κu, κv, κseen, κdone⟩ := κ
 dsimp only at hdat hsn hpn
 subst hdat hsn
 dsimp only
 (revert hdd hu O hy hy1 hpn; revert w d u A R y t pcs np nd lv nl nss nn pv nv opm κκ κz κu κv κdone; with_reducible refine (no_implicit_lambda% (Drk8.all (by kpf_c) ((?_ : All8 _) _ _ _ _ _ _ _ _))); refine fun w d u A R y t pcs => Ap8.mk ?_; with_reducible refine (no_implicit_lambda% (Drk8.all (by kpf_c) ((?_ : All8 _) _ _ _ _ _ _ _ _))); refine fun np nd lv nl nss nn pv nv => Ap8.mk ?_; with_reducible refine (no_implicit_lambda% (Drk6.all (by kpf_c) ((?_ : All6 _) _ _ _ _ _ _))); refine fun opm κκ κz κu κv κdone => Ap6.mk ?_; intros hdd hu O hy hy1 hpn)
 (refine Ctr.open ?_; generalize Ctr.cs _ _ _ _ _ _ _ = bCS; unfold Ctr.At; generalize bCS.p = p, bCS.loose = loose, bCS.mean = mean, bCS.mg = mg, bCS.mb = mb, bCS.dp = dp, bCS.un = un, bCS.gd = gd, bCS.cn = cn, bCS.cs = cs, bCS.a = a, bCS.ccd = ccd, bCS.cl = cl, bCS.outer = outer, bCS.A₀ = A₀, bCS.base = base, bCS.h₀ = h₀, bCS.L = L, bCS.m = m, bCS.s = s, bCS.Q = Q, bCS.E = E; clear bCS; intros St hret; obtain ⟨B, F, X, N, T, hk, hdp, hup⟩ := St; revert X; k_fill; intro X; refine wpAny_call ?_)
 (k_dflt (refine' code_def ?k1 ?k2 ?k3 ?k4 ?k5 ?kA ?kF ?kK ?k6 ?k7 ?k8 ?k9 ?kB ?_ ?c2 ?c3 ?c4 ?c5; (case kA => exact rfl); (case kF => exact rfl); (case kK => assumption); (case k1 => k_asm); (case k2 => k_asm); (case k3 => k_asm); (case k4 => k_asm); (case k5 => k_asm); (case k6 => k_is); (case k7 => k_is); (case k8 => first | allgen_close_more | (simp only [depth_in1, depth_deeper] at *; omega)); (case k9 => first | exact BindsTo.of_eq rfl | exact binds_K (by k_in) rfl (by k_is) rfl rfl rfl); (case c5 => decide); (case kB => exact locs rfl); (case c2 => exact rfl); (case c3 => exact rfl); (case c4 => exact rfl); k_whole; intro g' L' h' FG' F' N' B' X' T'); (try dsimp only); (refine wp_noE ?_); (refine wp_toks ?_); intro tk0; (try dsimp only); (try k_fold))
 replace F' : Fr g' L' h' (fun y' => List.lookup y' [(Str.ofString "_join_text", .ref 98), (Str.ofString "self", .ref A.x)]) := fr_eq F' (by kernel_rfl)
 (repeat' ((fail_if_success with_reducible first | refine zQ1 ?_ | refine zQ2 ?_ | refine zQ3 ?_ | refine zJ ?_ | refine z1 ?_ | refine z2 ?_ | refine z3 ?_ | refine z4 ?_ | refine z5 ?_ | refine z6 ?_ | refine z7 ?_ | refine zc (by decide) ?_ | refine z9 ?_ | refine z10 ?_ | refine z11 ?_ | refine z13 ?_ | refine z14 ?_ | refine z15 ?_ | refine z16 ?_ | refine z17 ?_); (first | (k_unfold; try dsimp only) | (dsimp only; k_unfold; try dsimp only) | walk1 | (dsimp only; walk1) | fail)))
 obtain ⟨jt, hj⟩ : ∃ jt, (hd.heap_39 w.params).lookup 98 = some (bndJoin (Str.ofString "") jt) := ⟨_, by k_is⟩
 (revert hj; revert jt; tb_start; refine fun jt => Ap.mk ?_; intros hj)
 first | k_dflt (refine callWith_bndJ (je := Str.ofString "") (jt := jt) ?_) | fail
 (repeat' ((fail_if_success with_reducible first | refine zQ1 ?_ | refine zQ2 ?_ | refine zQ3 ?_ | refine zJ ?_ | refine z1 ?_ | refine z2 ?_ | refine z3 ?_ | refine z4 ?_ | refine z5 ?_ | refine z6 ?_ | refine z7 ?_ | refine zc (by decide) ?_ | refine z9 ?_ | refine z10 ?_ | refine z11 ?_ | refine z13 ?_ | refine z14 ?_ | refine z15 ?_ | refine z16 ?_ | refine z17 ?_); (first | (k_unfold; try dsimp only) | (dsimp only; k_unfold; try dsimp only) | walk1 | (dsimp only; walk1) | fail)))
 · exact (X'.keeps F'.keep) _ _ hj
 first | k_dflt (refine call_bndJoin (l := [(y, t)]) ((X'.keeps F'.keep) _ _ hj) (isList_news (k := nd) N' ?_) ?_ ?_) | fail
 · dsimp only [strValues, List.map_cons, List.map_nil]; k_mem
 · exact joinOk_of_weight (ys := [y]) (by simp only [List.map_cons, List.map_nil, List.sum_cons, List.sum_nil, List.length_singleton]; omega) (by decide)
 intro t' k
 rw [show Txt.join (Str.ofString "") (List.map (fun x => x.1) [(y, t)]) = y from rfl]
 (repeat' ((fail_if_success with_reducible first | refine zQ1 ?_ | refine zQ2 ?_ | refine zQ3 ?_ | refine zJ ?_ | refine z1 ?_ | refine z2 ?_ | refine z3 ?_ | refine z4 ?_ | refine z5 ?_ | refine z6 ?_ | refine z7 ?_ | refine zc (by decide) ?_ | refine z9 ?_ | refine z10 ?_ | refine z11 ?_ | refine z13 ?_ | refine z14 ?_ | refine z15 ?_ | refine z16 ?_ | refine z17 ?_); (first | (k_unfold; try dsimp only) | (dsimp only; k_unfold; try dsimp only) | walk1 | (dsimp only; walk1) | fail)))
 first | k_dflt (refine' del_all1P (v := .str y t) (n := nd) (s := ⟨_, _, _, _, _⟩) ?F ?N ?U ?_; (case F => k_asm); (case N => k_asm); (case U => k_upd)) | fail
 intro h2 F2 N2
 (repeat' ((fail_if_success with_reducible first | refine zQ1 ?_ | refine zQ2 ?_ | refine zQ3 ?_ | refine zJ ?_ | refine z1 ?_ | refine z2 ?_ | refine z3 ?_ | refine z4 ?_ | refine z5 ?_ | refine z6 ?_ | refine z7 ?_ | refine zc (by decide) ?_ | refine z9 ?_ | refine z10 ?_ | refine z11 ?_ | refine z13 ?_ | refine z14 ?_ | refine z15 ?_ | refine z16 ?_ | refine z17 ?_); (first | (k_unfold; try dsimp only) | (dsimp only; k_unfold; try dsimp only) | walk1 | (dsimp only; walk1) | fail)))
 all_goals (try (exfalso; rename (y.length : Int) = 0 => hx; omega))
 first | k_dflt (refine callWith_bndK (D := A.pc) ?_) | fail
 (repeat' ((fail_if_success with_reducible first | refine zQ1 ?_ | refine zQ2 ?_ | refine zQ3 ?_ | refine zJ ?_ | refine z53 ?_ | refine z54 ?_); tb_rel))
 (k_dflt (refine' CtrP.use (cdata_ctr y _ hy) ?hA ?B ?F ?X ?N ?T ?kk ?hd ?hu ?ht ?_; (case hA => exact rfl); (case B => k_asm); (case F => k_asm); (case X => k_asm); (case N => k_asm); (case T => k_asm); (case kk => first | exact rfl | assumption); (case hd => allgen_close_more); (case ht => first | assumption | (dsimp only; omega)); (case hu => allgen_close_more)))
 rintro _ _ h3 tk3 ht3 ⟨rfl, tw, rfl⟩ F3 N3
 (revert ht3 F3 N3; revert h3 tk3 tw; with_reducible refine Drk3.all (by kpf_c) ((?_ : All3 _) _ _ _); refine fun h3 tk3 tw => Ap3.mk ?_; intros ht3 F3 N3)
 refine ⟨N3.get (by k_mem), ?_⟩
 first | k_dflt (refine' call_bndK ?F ?N ?M ?U ?_ ?sz; (case F => k_asm); (case N => k_asm); (case M => k_mem); (case U => k_upd); (case sz => (have : 1000 ≤ sizeLine := by decide); omega)) | fail
 intro h4 F4 N4
 (repeat' ((fail_if_success with_reducible first | refine zQ1 ?_ | refine zQ2 ?_ | refine zQ3 ?_ | refine zJ ?_); tb_rel))
 ((try (k_unfold; (try dsimp only))); k_dflt (refine' leaveK_ ?k1 ?k2 ?_; (case k1 => k_asm); (case k2 => k_asm)); intro kF kN; (try dsimp only))
 exact hret _ _ _ _ ⟨rfl, _, _, rfl⟩ kF kN
def CtrD (w : World) (f : Addr) (d u : Nat) (news : Led) (vs : List Value) (P : Value → Led → Prop) : Prop :=
 ∀ (p : Program) (loose : List Str) (mean : ExcName → Option Value) (mg mb : Str → Option Value) (dp un : Nat) (gd : Option (List Code)) (cn : Str) (cs : Scope) (a : Addr) (ccd : Value) (cl : List (Str × Addr)) (outer : List Env)
   (A₀ : Around) (base h₀ : Heap) (L : Addr) (m : Str → Option Value) (s : Shared) (Q E : Value → Shared → Prop),
   Site w A₀ base h₀ outer cs L m news s dp un d u p loose mean mg mb → 0 < s.toks →
   (∀ (v : Value) (news' : Led) (h' : Heap) (tk' : Nat) dr', P v news' → Fr h₀ L h' m → News h₀ L h' news' → Q v { s with heap := h', toks := tk', drawn := dr' }) →
   wpAny (model rw_pg0305_01.row.prog w) (ktrTop dp un gd cn cs L a ccd cl outer) (call (.ref f) vs) Q E s
def CtrD.At (w : World) (f : Addr) (d u : Nat) (news : Led) (vs : List Value) (P : Value → Led → Prop) (b : CS) : Prop :=
   Site w b.A₀ b.base b.h₀ b.outer b.cs b.L b.m news b.s b.dp b.un d u b.p b.loose b.mean b.mg b.mb → 0 < b.s.toks →
   (∀ (v : Value) (news' : Led) (h' : Heap) (tk' : Nat) dr', P v news' → Fr b.h₀ b.L h' b.m → News b.h₀ b.L h' news' → b.Q v { b.s with heap := h', toks := tk', drawn := dr' }) →
   wpAny (model rw_pg0305_01.row.prog w) (ktrTop b.dp b.un b.gd b.cn b.cs b.L b.a b.ccd b.cl b.outer) (call (.ref f) vs) b.Q b.E b.s
noncomputable def CtrD.cs (w : World) (f : Addr) (d u : Nat) (news : Led) (vs : List Value) (P : Value → Led → Prop) : CS := Drk neCS (CtrD.At w f d u news vs P)
theorem CtrD.open {w : World} {f : Addr} {d u : Nat} {news : Led} {vs : List Value} {P : Value → Led → Prop} (h : CtrD.At w f d u news vs P (CtrD.cs w f d u news vs P)) : CtrD w f d u news vs P :=
 fun p loose mean mg mb dp un gd cn cs a ccd cl outer A₀ base h₀ L m s Q E => Drk.one neCS (C := CtrD.At w f d u news vs P) h ⟨p, loose, mean, mg, mb, dp, un, gd, cn, cs, a, ccd, cl, outer, A₀, base, h₀, L, m, s, Q, E⟩
theorem CtrD.use {w : World} {f : Addr} {d u : Nat} {news : Led} {vs : List Value} {P : Value → Led → Prop} (c : CtrD w f d u news vs P)
   {p : Program} {loose : List Str} {mean : ExcName → Option Value} {mg mb : Str → Option Value} {dp un : Nat} {gd : Option (List Code)} {cn : Str} {cs : Scope} {a : Addr} {ccd : Value} {cl : List (Str × Addr)} {outer : List Env}
   {A A₀ : Around} {base h₀ : Heap} {L : Addr} {m : Str → Option Value} {s : Shared} {Q : Value → Shared → Prop}
   (hA : A = ktrTop dp un gd cn cs L a ccd cl outer) (B : Below A₀ base outer h₀) (F : Fr h₀ L s.heap m) (X : (hd.heap_39 w.params).In h₀) (N : News h₀ L s.heap news) (T : Top p loose mean mg mb h₀) (hk : cs.kind = .function) (hd : dp + d < recursionLimit) (hu : un + u < cLine)
   (ht : 0 < s.toks)
   (k : ∀ (v : Value) (news' : Led) (h' : Heap) (tk' : Nat) dr', 0 < tk' → P v news' → Fr h₀ L h' m → News h₀ L h' news' → Q v { s with heap := h', toks := tk', drawn := dr' }) :
   wpAny (model rw_pg0305_01.row.prog w) A (call (.ref f) vs) Q (fun _ _ => False) s := by
 subst hA
 exact wp_pos ht (c p loose mean mg mb dp un gd cn cs a ccd cl outer A₀ base h₀ L m s _ _ ⟨B, F, X, N, T, hk, hd, hu⟩ ht fun v n' h' tk' dr' a b c d => k v n' h' tk' dr' d a b c)
def CtrD0 (w : World) (f : Addr) (d u : Nat) (news : Led) (vs : List Value) (P : Value → Led → Prop) : Prop :=
 ∀ (p : Program) (loose : List Str) (mean : ExcName → Option Value) (mg mb : Str → Option Value) (dp un : Nat) (gd : Option (List Code)) (cn : Str) (cs : Scope) (a : Addr) (ccd : Value) (cl : List (Str × Addr)) (outer : List Env)
   (A₀ : Around) (base h₀ : Heap) (L : Addr) (m : Str → Option Value) (s : Shared) (Q E : Value → Shared → Prop),
   Site w A₀ base h₀ outer cs L m news s dp un d u p loose mean mg mb →
   (∀ (v : Value) (news' : Led) (h' : Heap) (tk' : Nat) dr', P v news' → Fr h₀ L h' m → News h₀ L h' news' → Q v { s with heap := h', toks := tk', drawn := dr' }) →
   wpAny (model rw_pg0305_01.row.prog w) (ktrTop dp un gd cn cs L a ccd cl outer) (call (.ref f) vs) Q E s
def CtrD0.At (w : World) (f : Addr) (d u : Nat) (news : Led) (vs : List Value) (P : Value → Led → Prop) (b : CS) : Prop :=
   Site w b.A₀ b.base b.h₀ b.outer b.cs b.L b.m news b.s b.dp b.un d u b.p b.loose b.mean b.mg b.mb →
   (∀ (v : Value) (news' : Led) (h' : Heap) (tk' : Nat) dr', P v news' → Fr b.h₀ b.L h' b.m → News b.h₀ b.L h' news' → b.Q v { b.s with heap := h', toks := tk', drawn := dr' }) →
   wpAny (model rw_pg0305_01.row.prog w) (ktrTop b.dp b.un b.gd b.cn b.cs b.L b.a b.ccd b.cl b.outer) (call (.ref f) vs) b.Q b.E b.s
noncomputable def CtrD0.cs (w : World) (f : Addr) (d u : Nat) (news : Led) (vs : List Value) (P : Value → Led → Prop) : CS := Drk neCS (CtrD0.At w f d u news vs P)
theorem CtrD0.open {w : World} {f : Addr} {d u : Nat} {news : Led} {vs : List Value} {P : Value → Led → Prop} (h : CtrD0.At w f d u news vs P (CtrD0.cs w f d u news vs P)) : CtrD0 w f d u news vs P :=
 fun p loose mean mg mb dp un gd cn cs a ccd cl outer A₀ base h₀ L m s Q E => Drk.one neCS (C := CtrD0.At w f d u news vs P) h ⟨p, loose, mean, mg, mb, dp, un, gd, cn, cs, a, ccd, cl, outer, A₀, base, h₀, L, m, s, Q, E⟩
theorem CtrD0.use {w : World} {f : Addr} {d u : Nat} {news : Led} {vs : List Value} {P : Value → Led → Prop} (c : CtrD0 w f d u news vs P)
   {p : Program} {loose : List Str} {mean : ExcName → Option Value} {mg mb : Str → Option Value} {dp un : Nat} {gd : Option (List Code)} {cn : Str} {cs : Scope} {a : Addr} {ccd : Value} {cl : List (Str × Addr)} {outer : List Env}
   {A A₀ : Around} {base h₀ : Heap} {L : Addr} {m : Str → Option Value} {s : Shared} {Q E : Value → Shared → Prop}
   (hA : A = ktrTop dp un gd cn cs L a ccd cl outer) (B : Below A₀ base outer h₀) (F : Fr h₀ L s.heap m) (X : (hd.heap_39 w.params).In h₀) (N : News h₀ L s.heap news) (T : Top p loose mean mg mb h₀) (hk : cs.kind = .function) (hd : dp + d < recursionLimit) (hu : un + u < cLine)
   (k : ∀ (v : Value) (news' : Led) (h' : Heap) (tk' : Nat) dr', P v news' → Fr h₀ L h' m → News h₀ L h' news' → Q v { s with heap := h', toks := tk', drawn := dr' }) :
   wpAny (model rw_pg0305_01.row.prog w) A (call (.ref f) vs) Q E s := by
 subst hA
 exact c p loose mean mg mb dp un gd cn cs a ccd cl outer A₀ base h₀ L m s Q E ⟨B, F, X, N, T, hk, hd, hu⟩ k
theorem code125 {w : World} {h : Heap} (X : (hd.heap_39 w.params).In h) : CodeHd h 125 123 := by
 obtain ⟨o, vs, e, e1, e2, r⟩ : ∃ o vs, (hd.heap_39 w.params).lookup 125 = some o ∧ o.cls = .type "code" ∧ o.data = .fields vs ∧ ∃ file tf flags tg inF text tt, vs[11]? = some (.ref 123) ∧ vs.getD 11 .none = .ref 123 ∧ vs.getD 18 .none = .str file tf ∧ vs.getD 7 .none = .int flags tg ∧ vs.getD 9 .none = .bool inF ∧ vs.getD 10 .none = .int text tt := ⟨_, _, rfl, rfl, rfl, _, _, _, _, _, _, _, rfl, rfl, rfl, rfl, rfl, rfl⟩
 obtain ⟨file, tf, flags, tg, inF, text, tt, r1, r2, r3, r4, r5, r6⟩ := r
 exact ⟨o, vs, file, tf, flags, tg, inF, text, tt, X 125 _ e, e1, e2, r1, r2, r3, r4, r5, r6, by decide⟩
noncomputable abbrev lamTab (c' : Addr) : Obj := tabObj (#[] ++ #[rawInt 135, rawInt 71, .ref c'])
def spl0 (y : Str) : Str := (Txt.splitMax y (Str.ofString "}") 1).getD 0 Str.empty
def spl1 (y : Str) : Str := (Txt.splitMax y (Str.ofString "}") 1).getD 1 Str.empty
def pvs (k : Nat) : Array Value := (List.replicate (k + 1) (Value.bool false)).toArray
theorem pvs_push (k : Nat) : (pvs k).push (.bool false) = pvs (k + 1) := by
 unfold pvs
 rw [List.push_toArray, ← List.replicate_succ']
theorem pvs_size (k : Nat) : (pvs k).size = k + 1 := by unfold pvs; rw [List.size_toArray, List.length_replicate]
theorem start_elem {w : World} {d u : Nat} {A : WA} {κ : WT} {S : WL} {R : Led} (hdd : 20 ≤ d) (hu : 60 ≤ u) (O : A.Ord R) {qs uri tag : Str} (H : QN qs uri tag) (t : Tok) {at' dl c' : Addr} {oa oc : Obj} {fv : Array Value} {tq : Tok} {xk : Nat} {R' : Led}
   (hR : R = (dl, listOf #[] xk) :: (at', oa) :: (123, lamTab c') :: (c', oc) :: R') (hoa : oa.IsDictOf (strKind rw_pg0305_01.row.prog w) []) (has : (at' == sysModules) = false) (hoc : oc.data = .fields fv) (hfv : fv[1]? = some (.str (Str.ofString "C14NWriterTarget._start.<locals>.<lambda>") tq))
   {Ls : List (Addr × Array Value × Nat)} {tl : List NT} (V : NSt (wLed w A κ S R) S.lv Ls tl) (hin : ∃ q ∈ tl, q.u = uri) (hsp : ∃ a b, Txt.splitMax qs (Str.ofString "}") 1 = [a, b]) {k : Nat} (hpv : S.pv = pvs k) (hk : k ≤ 100) (hpn : S.pcs.size ≤ 1000) (hnn : S.nss.size ≤ 1000) (htag : tag.length ≤ 1000) :
   CtrD0 w 126 d u (wLed w A κ S R) [.ref A.x, .str qs t, .ref at', .ref dl] (fun v l => v = .none ∧ ∃ q ∈ tl, q.u = uri ∧ ∃ tw1 tw2 n2, l = wLed w A { κ with seen := true } { S with pcs := (S.pcs.push (.str (Str.ofString "<" ++ (Str.empty ++ q.p ++ Str.ofString ":" ++ tag)) tw1)).push (.str (Str.ofString ">") tw2), np := S.np + 1 + 1, nss := S.nss.push n2, nn := S.nn + 1, pv := pvs (k + 1), nv := S.nv + 1 } R) := by
 w_top off
 obtain ⟨pcs, np, dat, nd, lv, nl, nss, nn, pv, nv, opm⟩ := S
 obtain ⟨κκ, κz, κu, κv, κseen, κdone⟩ := κ
 have h1000 : 2000 ≤ sizeLine := by decide
 dsimp only at hpv hpn hnn
 subst hR
 have odl : @LT.lt Nat _ dl A.pc ∨ @LT.lt Nat _ A.ps dl := O.off (dl, _) (.head _)
 have oat : @LT.lt Nat _ at' A.pc ∨ @LT.lt Nat _ A.ps at' := O.off (at', _) (.tail _ (.head _))
 have otb : @LT.lt Nat _ 123 A.pc ∨ @LT.lt Nat _ A.ps 123 := O.off (123, _) (.tail _ (.tail _ (.head _)))
 have occ : @LT.lt Nat _ c' A.pc ∨ @LT.lt Nat _ A.ps c' := O.off (c', _) (.tail _ (.tail _ (.tail _ (.head _))))
 dsimp only
 (revert hdd hu H hoa has hoc hfv hin hsp hk htag hpv hpn hnn O V odl oat otb occ; revert w d u A qs uri tag t at' dl c' oa oc fv tq xk R' Ls tl k pcs np dat nd lv nl nss nn pv nv opm κκ κz κu κv κseen κdone; with_reducible refine (no_implicit_lambda% (Drk8.all (by kpf_c) ((?_ : All8 _) _ _ _ _ _ _ _ _))); refine fun w d u A qs uri tag t => Ap8.mk ?_; with_reducible refine (no_implicit_lambda% (Drk8.all (by kpf_c) ((?_ : All8 _) _ _ _ _ _ _ _ _))); refine fun at' dl c' oa oc fv tq xk => Ap8.mk ?_; with_reducible refine (no_implicit_lambda% (Drk8.all (by kpf_c) ((?_ : All8 _) _ _ _ _ _ _ _ _))); refine fun R' Ls tl k pcs np dat nd => Ap8.mk ?_; with_reducible refine (no_implicit_lambda% (Drk8.all (by kpf_c) ((?_ : All8 _) _ _ _ _ _ _ _ _))); refine fun lv nl nss nn pv nv opm κκ => Ap8.mk ?_; with_reducible refine (no_implicit_lambda% (Drk5.all (by kpf_c) ((?_ : All5 _) _ _ _ _ _))); refine fun κz κu κv κseen κdone => Ap5.mk ?_; intros hdd hu H hoa has hoc hfv hin hsp hk htag hpv hpn hnn O V odl oat otb occ)
 (refine CtrD0.open ?_; generalize CtrD0.cs _ _ _ _ _ _ _ = bCS; unfold CtrD0.At; generalize bCS.p = p, bCS.loose = loose, bCS.mean = mean, bCS.mg = mg, bCS.mb = mb, bCS.dp = dp, bCS.un = un, bCS.gd = gd, bCS.cn = cn, bCS.cs = cs, bCS.a = a, bCS.ccd = ccd, bCS.cl = cl, bCS.outer = outer, bCS.A₀ = A₀, bCS.base = base, bCS.h₀ = h₀, bCS.L = L, bCS.m = m, bCS.s = s, bCS.Q = Q, bCS.E = E; clear bCS; intros St hret; obtain ⟨B, F, X, N, T, hk, hdp, hup⟩ := St; revert X; k_fill; intro X; refine wpAny_call ?_)
 (k_dflt (refine' code_defC ?k1 ?k2 ?k3 ?k4 ?k5 ?kA ?kF ?kK ?k6 ?k7 ?k8 ?k9 ?kB ?kD ?_ ?c2 ?c3 ?c4; (case kA => exact rfl); (case kF => exact rfl); (case kK => assumption); (case k1 => k_asm); (case k2 => k_asm); (case k3 => k_asm); (case k4 => k_asm); (case k5 => k_asm); (case k6 => k_is); (case k7 => k_is); (case k8 => first | allgen_close_more | (simp only [depth_in1, depth_deeper] at *; omega)); (case k9 => first | exact BindsTo.of_eq rfl | exact binds_K (by k_in) rfl (by k_is) rfl rfl rfl); (case kB => exact rfl); (case kD => decide +kernel); (case c2 => exact rfl); (case c3 => exact rfl); (case c4 => exact rfl); k_whole; intro g' L' h' tk' cells' FG' F' N' Y' B' X' T' l1); have l1q := l1; (try k_lt l1); (have hY := CellsAre.two Y'; obtain ⟨oP, oS, hE', hcP, hcS⟩ := hY; subst hE'; clear Y'); (try simp only [List.cons_append, List.nil_append] at N'); (try dsimp only); (refine wp_noE ?_); (refine wp_toks ?_); intro tk0; (try dsimp only); (try k_fold))
 replace F' : Fr g' L' h' (fun y => if y = Str.ofString "qname_text" then some .none else if y = Str.ofString "new_namespaces" then some (.ref dl) else if y = Str.ofString "attrs" then some (.ref at') else if y = Str.ofString "tag" then some (.str qs t) else none) := fr_eq F' (by kernel_rfl)
 have hRl : ∀ p ∈ R', @LT.lt Nat _ p.1 L' := fun p hp => l1q p (by repeat (first | exact hp | refine List.mem_cons_of_mem _ ?_))
 have hRl1 : ∀ p ∈ R', p.1 ≠ (L' + 1 : Nat) := fun p hp => Nat.ne_of_lt (Nat.lt_succ_of_lt (hRl p hp))
 have hRl2 : ∀ p ∈ R', p.1 ≠ (L' + 1 + 1 : Nat) := fun p hp => Nat.ne_of_lt (Nat.lt_succ_of_lt (Nat.lt_succ_of_lt (hRl p hp)))
 have hps : @LT.lt Nat _ A.ps L' := allLt_top (allLt_of l1q)
 clear l1q
 replace hcS : oS.data = .cell (some (.ref A.x)) := hcS.trans (by kernel_rfl)
 replace hcP : oP.data = .cell none := hcP.trans (by kernel_rfl)
 (revert N' hcS hcP; revert oP oS; with_reducible refine Drk2.all (by kpf_c) ((?_ : All2 _) _ _); refine fun oP oS => Ap2.mk ?_; intros N' hcS hcP)
 (repeat' ((fail_if_success with_reducible first | refine zQ1 ?_ | refine zQ2 ?_ | refine zQ3 ?_ | refine zJ ?_); tb_rel))
 first | k_dflt (refine eval_setStar (K := hd.heap_39 w.params) (kvs := []) (y := qs) (t := t) (d := at') (od := oa) ?e1 F' N' X' ?e2 ?e3 ?e4 ?e5 ?e6 hoa has (Nat.zero_le _) (fun p hp => nomatch hp) ?_) | fail
 case e1 => exact rfl
 case e2 => first | k_is | kernel_rfl!
 case e3 => exact rfl
 case e4 => (intro s1 Q1 F1 hq; walk1; exact hq _)
 case e5 => (intro s1 Q1 F1 hq; walk1; exact hq _)
 case e6 => k_mem
 intro Dq h2 tk2 oq F2 N2 l2 hSq
 k_lt l2
 dsimp only [keysTo, List.take, List.map, List.reverse, List.length] at hSq
 dsimp only
 (repeat' ((fail_if_success with_reducible first | refine zQ1 ?_ | refine zQ2 ?_ | refine zQ3 ?_ | refine zJ ?_); tb_rel))
 (with_reducible rename Fr _ _ _ _ => F1); (with_reducible rename News _ _ _ _ => N1)
 first | k_dflt (refine assign_dictComp_G (knd := strKind _ w) F1 rfl (by with_unfolding_all rfl) (by with_unfolding_all rfl) (by decide) (by rfl) (by decide) (by rfl) (by rfl) ?_ (fun _ => rfl)) | fail
 (repeat' ((fail_if_success with_reducible first | refine zQ1 ?_ | refine zQ2 ?_ | refine zQ3 ?_ | refine zJ ?_); tb_rel))
 first | k_dflt (refine' kla_eval ?d0 ?_; (case d0 => exact rfl)) | fail
 first | k_dflt (refine' kla_hit (c' := c') (P := 123) (c := 125) (ps := #[] ++ #[rawInt 135, rawInt 71, .ref c']) ?laF ?laN ?laT ?laC ?lacd ?lamem ?lat ?lan ?lacl ?_; (case laF => k_asm); (case laN => k_asm); (case laT => exact T'); (case lacd => exact rfl); (case laC => exact code125 X'); (case lamem => k_mem); (case lat => kn_triples); (case lan => kn_hit); (case lacl => exact rfl)) | fail
 intro f1 ctv1 h3 tk3 F3 N3 l3
 k_lt l3
 dsimp only at N3 ⊢
 (repeat' ((fail_if_success with_reducible first | refine zQ1 ?_ | refine zQ2 ?_ | refine zQ3 ?_ | refine zJ ?_); tb_rel))
 dsimp only [backToKw, keywordEach, List.map, List.filterMap, List.zip, List.zipWith]
 first | k_dflt (refine sortedK_strSet (X := spl0) (Y := spl1) (d := Dq) (f := f1) ?sA ?sU F3 N3 ?sD hSq (by simp) (show 1 ≤ 60 by decide) ?sX (by simp) ?sK ?_) | fail
 case sA => exact rfl
 case sU => (show un + 3 + 4 < cLine; omega)
 case sD => k_mem
 case sX => (intro y y' h1 h2 hne; exact absurd ((ms h1).trans (ms h2).symm) hne)
 case sK =>
   have hsp7 : ∀ y ∈ [qs], ∃ a b, Txt.splitMax y (Str.ofString "}") 1 = [a, b] ∧ y.length ≤ 1000 := fun y hy => by
     obtain ⟨a, b, h⟩ := hsp
     (revert hy h; revert y a b; with_reducible refine Drk3.all (by kpf_c) ((?_ : All3 _) _ _ _); refine fun y a b => Ap3.mk ?_; intros hy h)
     rw [ms hy]; exact ⟨a, b, h, H.len⟩
   (intro s7 nw7 y7 t7 Q7 hy7 F7 N7 hsub7 hq7; obtain ⟨a7, b7, hs7, hl7⟩ := hsp7 y7 hy7; have hm7 := hsub7 _ (.head _); have hn7 : (c', oc) ∈ nw7 := hsub7 _ (by k_mem); refine wpAny_call ?_; (refine' kla_code ?k1 ?k2 ?k3 ?k4 ?k5 ?kA ?kF ?kK ?k6 ?k7 ?k8 ?k9 ?kB ?_ ?c2 ?c3 ?c4 ?c5; (case kA => exact rfl); (case kF => exact rfl); (case kK => exact rfl); (case k1 => exact B'); (case k2 => exact F7); (case k3 => exact X'); (case k4 => exact N7); (case k5 => exact T'); (case k6 => exact hm7); (case k7 => exact codeRec_news N7 hn7 hoc hfv); (case k8 => (show dp + 1 < recursionLimit; omega)); (case k9 => exact rfl); (case c5 => decide); (case kB => exact locs rfl); (case c2 => exact rfl); (case c3 => exact rfl); (case c4 => exact rfl)); intro g8 L8 h8 FG8 F8 N8 B8 X8 T8; (try dsimp only); (try k_fold))
   (revert hs7; revert a7 b7; with_reducible refine Drk2.all (by kpf_c) ((?_ : All2 _) _ _); refine fun a7 b7 => Ap2.mk ?_; intros hs7)
   (repeat' ((fail_if_success with_reducible first | refine zQ1 ?_ | refine zQ2 ?_ | refine zQ3 ?_ | refine zJ ?_); tb_rel))
   (with_reducible rename Fr _ _ _ _ => F1); (with_reducible rename News _ _ _ _ => N1)
   refine splitN2A (hsz := ?hsz) F1 N1 (by rfl) (by decide) ?_
   case hsz => exact Nat.le_trans (Nat.add_le_add_right hl7 2) (by decide)
   intro l9 h9 tk9 hl9 hS9 hle9 hL9 F9 N9
   obtain ⟨ta, tb, rfl⟩ := two_named (hl9.trans hs7)
   (revert hl9 hS9 hle9 hL9 N9; revert ta tb; with_reducible refine Drk2.all (by kpf_c) ((?_ : All2 _) _ _); refine fun ta tb => Ap2.mk ?_; intros hl9 hS9 hle9 hL9 N9)
   dsimp only [strValues, List.map_cons, List.map_nil] at N9 hL9 ⊢
   have e0 : spl0 y7 = a7 := by unfold spl0; rw [hs7]; rfl
   have e1 : spl1 y7 = b7 := by unfold spl1; rw [hs7]; rfl
   rw [← e0, ← e1] at N9
   have hlt9 : ∀ p ∈ nw7, p.1 < _ := fun p hp => Heap.lt_size (N1 p hp).1
   ((try (k_unfold; (try dsimp only))); k_dflt (refine' leaveK_ ?k1 ?k2 ?_; (case k1 => k_asm); (case k2 => k_asm)); intro kF kN; (try dsimp only))
   exact hq7 _ _ _ _ _ _ kF kN hlt9
 intro B c5 h5 tk5 dr zs hzp hzs F5 N5 l5
 clear hzs F1 N1 F3 N3
 obtain ⟨tz, rfl⟩ := one_named (List.perm_singleton.mp hzp)
 (revert hzp N5; revert tz; tb_start; refine fun tz => Ap.mk ?_; intros hzp N5)
 clear hzp
 k_lt l5
 dsimp only [List.map] at N5 ⊢
 generalize hNW : List.cons _ _ = NW at N5
 (revert hNW N5; revert NW; tb_start; refine fun NW => Ap.mk ?_; intros hNW N5)
 refine source_listO (its := #[Value.str qs tz]) rfl F5 N5 (by rw [← hNW]; exact .head _) (show 1 ≤ sizeLine by decide) (fun _ _ _ _ _ _ _ _ _ q => hgo_name q) fun gI I fp wr Md St Xs hfp => ⟨_, NW, 1, _, _, I, fp, wr, St, fun i kvs nw => (i = 0 ∧ kvs = [] ∧ nw = NW) ∨ (i = 1 ∧ ∃ q ∈ tl, q.u = uri ∧ ∃ Dr t1 t2 t3, kvs = [(qs, .ref Dr)] ∧ nw = (Dr, trip (Str.empty ++ q.p ++ Str.ofString ":" ++ tag) tag uri t1 t2 t3) :: NW ∧ ∀ p ∈ NW, p.1 < Dr), Xs, fun p hp => hp, .inl ⟨rfl, rfl, rfl⟩, ?_, ?_⟩
 · refine CTurnD.name (by rfl) (by rfl) ?_
   rintro i v C oC D oD m₂ g1 h tk kvs nw own htk hi hP hJ hdD hC hv Fc Nc off hown hof hnD hDC hw hCD hCL hDL
   (revert Xs hfp htk hi hP hJ hdD hC hv Fc Nc off hown hof hnD hDC hw hCD hCL hDL; revert gI I fp wr Md St i v C oC D oD m₂ g1 h tk kvs nw own; with_reducible refine Drk7.all (by kpf_c) ((?_ : All7 _) _ _ _ _ _ _ _); refine fun gI I fp wr Md St i => Ap7.mk ?_; with_reducible refine Drk7.all (by kpf_c) ((?_ : All7 _) _ _ _ _ _ _ _); refine fun v C oC D oD m₂ g1 => Ap7.mk ?_; with_reducible refine Drk5.all (by kpf_c) ((?_ : All5 _) _ _ _ _ _); refine fun h tk kvs nw own => Ap5.mk ?_; intros Xs hfp htk hi hP hJ hdD hC hv Fc Nc off hown hof hnD hDC hw hCD hCL hDL)
   have hi0 : i = 0 := Nat.lt_one_iff.mp hi
   subst hi0
   obtain rfl : Value.str qs tz = v := Option.some.inj hP
   rcases hJ with ⟨_, rfl, hnw⟩ | ⟨h1, _⟩
   case inr => cases h1
   replace hnw := hnw.symm
   subst hnw
   have hpN : (A.ps, listOf pv nv) ∈ NW := by rw [← hNW]; k_mem
   have hpD : @LT.lt Nat _ A.ps D := hnD _ hpN
   have hnI : ∀ p ∈ own, @LT.lt Nat _ A.ps p.1 := fun p hp => by
     rcases hfp _ (hof p hp) with e | e
     · rw [e]; first | exact lt_at (by with_reducible assumption) (by k_mem) | (refine ltN ?_; omega)
     exact e _ hpN
   have Nc' := Nc
   rw [← hNW] at Nc'
   dsimp only [List.cons_append, wLed_app] at Nc'
   (repeat' ((fail_if_success with_reducible first | refine zQ1 ?_ | refine zQ2 ?_ | refine zQ3 ?_ | refine zJ ?_ | refine z27 ?_); tb_rel))
   obtain ⟨X6, hX6, N6, hX8⟩ : ∃ X6 : Led, (∀ p ∈ X6, @LT.lt Nat _ A.ps p.1) ∧ News g' L' h (wLed w A ⟨κκ, κz, κu, κv, κseen, κdone⟩ ⟨pcs, np, dat, nd, lv, nl, nss, nn, pv, nv, opm⟩ (X6 ++ ((dl, listOf #[] xk) :: (at', oa) :: (123, lamTab c') :: (c', oc) :: (R' ++ own)))) ∧
       ∀ p ∈ (C, oC) :: (D, oD) :: (NW ++ own), p ∈ X6 ++ wLed w A ⟨κκ, κz, κu, κv, κseen, κdone⟩ ⟨pcs, np, dat, nd, lv, nl, nss, nn, pv, nv, opm⟩ ((dl, listOf #[] xk) :: (at', oa) :: (123, lamTab c') :: (c', oc) :: (R' ++ own)) := by
     refine ⟨[_, _, _, _, _, _, _, _, _], ?_, fun p hp => Nc' p (mem_swap hp), fun p hp => by rw [← hNW] at hp; exact hp⟩
     intro p hp
     iterate 9 (rcases mc hp with rfl | hp; (focus (dsimp only; first | exact lt_at (by with_reducible assumption) (by k_mem) | (refine ltN ?_; omega))))
     cases hp
   have hsubR : ∀ p ∈ (dl, listOf #[] xk) :: (at', oa) :: (123, lamTab c') :: (c', oc) :: R', p ∈ (dl, listOf #[] xk) :: (at', oa) :: (123, lamTab c') :: (c', oc) :: (R' ++ own) := fun p hp => by
     iterate 4 (rcases mc hp with rfl | hp; (first | exact .head _ | exact .tail _ (.head _) | exact .tail _ (.tail _ (.head _)) | exact .tail _ (.tail _ (.tail _ (.head _)))))
     exact .tail _ (.tail _ (.tail _ (.tail _ (ml _ hp))))
   have O6 : WA.Ord A (X6 ++ ((dl, listOf #[] xk) :: (at', oa) :: (123, lamTab c') :: (c', oc) :: (R' ++ own))) := ⟨O.o, fun p hp => by
     rcases ma hp with hp | hp
     · exact .inr (hX6 p hp)
     iterate 4 (rcases mc hp with hq | hp; (focus (refine O.off p ?_; rw [hq]; first | exact .head _ | exact .tail _ (.head _) | exact .tail _ (.tail _ (.head _)) | exact .tail _ (.tail _ (.tail _ (.head _))))))
     rcases ma hp with hp | hp
     · exact O.off p (.tail _ (.tail _ (.tail _ (.tail _ hp))))
     exact .inr (hnI p hp)⟩
   have V6 := V.more (l' := wLed w A ⟨κκ, κz, κu, κv, κseen, κdone⟩ ⟨pcs, np, dat, nd, lv, nl, nss, nn, pv, nv, opm⟩ (X6 ++ ((dl, listOf #[] xk) :: (at', oa) :: (123, lamTab c') :: (c', oc) :: (R' ++ own)))) fun p hp => wLed_mono (fun p hp => mr _ (hsubR p hp)) hp
   (revert hX6 N6 hX8 O6 V6; revert X6; tb_start; refine fun X6 => Ap.mk ?_; intros hX6 N6 hX8 O6 V6)
   (k_dflt (refine' CtrC.useM (qname_oldC (d := 10) (u := 40) (by decide) (by decide) O6 H tz V6 hin) ?hA ?hq ?B ?F ?X ?NA ?N ?T ?kk ?hd ?hu ?_; (case hA => exact rfl); (case NA => exact Nc'); (case hq => k_mem); (case B => k_asm); (case F => k_asm); (case X => k_asm);  (case N => k_asm); (case T => k_asm); (case kk => first | exact rfl | assumption); (case hd => allgen_close_more); (case hu => allgen_close_more)))
   rintro _ _ h7 tk7 ⟨q, hq, hqu, Dr, t1, t2, t3, rfl, rfl, hDr⟩ F7 N7
   (revert hq hqu hDr F7 N7; revert h7 tk7 q Dr t1 t2 t3; with_reducible refine Drk7.all (by kpf_c) ((?_ : All7 _) _ _ _ _ _ _ _); refine fun h7 tk7 q Dr t1 t2 t3 => Ap7.mk ?_; intros hq hqu hDr F7 N7)
   dsimp only
   have N7' : News g' L' h7 ((Dr, trip (Str.empty ++ q.p ++ Str.ofString ":" ++ tag) tag uri t1 t2 t3) :: (X6 ++ wLed w A ⟨κκ, κz, κu, κv, κseen, κdone⟩ ⟨pcs, np, dat, nd, lv, nl, nss, nn, pv, nv, opm⟩ ((dl, listOf #[] xk) :: (at', oa) :: (123, lamTab c') :: (c', oc) :: (R' ++ own)))) := fun p hp => by
     rcases mc hp with rfl | hp
     · exact N7 _ (.head _)
     exact N7 p (.tail _ (mem_unswap hp))
   have hDrl : ∀ p ∈ (C, oC) :: (D, oD) :: (NW ++ own), @LT.lt Nat _ p.1 Dr := fun p hp => by
     have h1 := hX8 p hp
     exact hDr p (mem_unswap h1)
   (try (k_unfold; (try dsimp only)))
   refine CEnd.intro (oC' := oC) F7 N7' hC ((Dr, trip (Str.empty ++ q.p ++ Str.ofString ":" ++ tag) tag uri t1 t2 t3) :: NW) (fun p hp => ?_) (fun p hp b hb => ?_) ⟨qs, strKind_is _ _ _ _, by simp, .inr ⟨rfl, q, hq, hqu, Dr, t1, t2, t3, rfl, rfl, fun p hp => hDrl p (.tail _ (.tail _ (ml _ hp)))⟩⟩
   · rcases mc hp with rfl | hp
     · exact .tail _ (hX8 _ (.head _))
     rcases mc hp with rfl | hp
     · exact .tail _ (hX8 _ (.tail _ (.head _)))
     rcases mc hp with rfl | hp
     · exact .head _
     exact .tail _ (hX8 _ (.tail _ (.tail _ hp)))
   rcases mc hp with rfl | hp
   · rcases mc hb with rfl | hb
     · exact Nat.ne_of_gt (hDrl _ (.head _))
     rcases mc hb with rfl | hb
     · exact Nat.ne_of_gt (hDrl _ (.tail _ (.head _)))
     obtain ⟨ob, hob⟩ := hw b hb
     (revert b ob; tb_start; refine fun b => Ap.mk ?_; intros _ _ hb; tb_start; refine fun ob => Ap.mk ?_; intros hob)
     exact Nat.ne_of_gt (hDrl (b, ob) (.tail _ (.tail _ (mr _ hob))))
   exact off p hp b hb
 (revert Xs hfp; revert gI I fp wr Md St; with_reducible refine Drk6.all (by kpf_c) ((?_ : All6 _) _ _ _ _ _ _); refine fun gI I fp wr Md St => Ap6.mk ?_; intros Xs hfp)
 intro Dp oDp ys nw hltD hneD hdP hJ h8 tk8 htk8 F8 N8
 rcases hJ with ⟨h1, _⟩ | ⟨_, q, hq, hqu, Dr, t1, t2, t3, rfl, rfl, hDrl⟩
 · cases h1
 subst hNW
 have hDD : @Ne Nat Dr Dp := hneD _ (.head _)
 have hqp := V.plen q hq
 k_lt hltD
 k_lt hDrl
 dsimp only
 (revert hq hqu hdP hneD N8 hDD hqp hAW hAL hDrl; revert q Dr t1 t2 t3; with_reducible refine Drk5.all (by kpf_c) ((?_ : All5 _) _ _ _ _ _); refine fun q Dr t1 t2 t3 => Ap5.mk ?_; intros hq hqu hdP hneD N8 hDD hqp hAW hAL hDrl)
 (repeat' ((fail_if_success with_reducible first | refine zQ1 ?_ | refine zQ2 ?_ | refine zQ3 ?_ | refine zJ ?_ | refine z28 ?_ | refine z27 ?_); tb_rel))
 (with_reducible rename Fr _ _ _ _ => F1); (with_reducible rename News _ _ _ _ => N1)
 refine wpAny_truthy_list (isList_news (its := (#[] : Array Value)) (k := xk) N1 (by k_mem)) (by decide) ?_
 dsimp only
 (repeat' ((fail_if_success with_reducible first | refine zQ1 ?_ | refine zQ2 ?_ | refine zQ3 ?_ | refine zJ ?_ | refine z27 ?_); tb_rel))
 subst hpv
 (with_reducible rename Fr _ _ _ _ => F1); (with_reducible rename News _ _ _ _ => N1)
 first | k_dflt (refine' kim_back (lo := listOf (pvs k) nv) (l := List.replicate (k + 1) (Value.bool false)) (x := .bool false) ?kb1 ?kb2 rfl rfl (by decide) ?kb3 (by decide) ?kb4 ?_; (case kb1 => exact N1); (case kb2 => k_mem); (case kb3 => (rw [List.length_replicate]; omega)); (case kb4 => (rw [List.getElem?_replicate, List.length_replicate, if_pos (by omega)]))) | fail
 (repeat' ((fail_if_success with_reducible first | refine zQ1 ?_ | refine zQ2 ?_ | refine zQ3 ?_ | refine zJ ?_ | refine z27 ?_); tb_rel))
 first | k_dflt (refine' append_K ?ap1 ?ap2 ?ap3 ?_ ?ap4; (case ap1 => exact F1); (case ap2 => exact N1); (case ap3 => k_upd); (case ap4 => (rw [pvs_size]; omega))) | fail
 intro h9 F9 N9
 rw [pvs_push] at N9
 dsimp only at N9 ⊢
 (repeat' ((fail_if_success with_reducible first | refine zQ1 ?_ | refine zQ2 ?_ | refine zQ3 ?_ | refine zJ ?_ | refine z27 ?_); tb_rel))
 first | k_dflt (refine callWith_bndK (D := A.pc) ?_) | fail
 (repeat' ((fail_if_success with_reducible first | refine zQ1 ?_ | refine zQ2 ?_ | refine zQ3 ?_ | refine zJ ?_ | refine z52 ?_ | refine z27 ?_); tb_rel))
 (with_reducible rename Fr _ _ _ _ => F1); (with_reducible rename News _ _ _ _ => N1)
 first | k_dflt (refine kda_item (knd := strKind _ w) (kvs := [(qs, Value.ref Dr)]) (k := qs) (v := .ref Dr) N1 (by k_mem) hdP (strKind_is _ _ _ _) (by simp [valueAt]) ?_) | fail
 dsimp only
 (repeat' ((fail_if_success with_reducible first | refine zQ1 ?_ | refine zQ2 ?_ | refine zQ3 ?_ | refine zJ ?_ | refine z53 ?_ | refine z54 ?_ | refine z27 ?_); tb_rel))
 · (with_reducible rename Fr _ _ _ _ => F1); (with_reducible rename News _ _ _ _ => N1)
   exact N1.get (by k_mem)
 first | k_dflt (refine' call_bndK ?F ?N ?M ?U ?_ ?sz; (case F => k_asm); (case N => k_asm); (case M => k_mem); (case U => k_upd); (case sz => omega)) | fail
 intro h10 F10 N10
 dsimp only at N10 ⊢
 (repeat' ((fail_if_success with_reducible first | refine zQ1 ?_ | refine zQ2 ?_ | refine zQ3 ?_ | refine zJ ?_ | refine z27 ?_); tb_rel))
 first | k_dflt (refine callWith_bndK (D := A.pc) ?_) | fail
 (repeat' ((fail_if_success with_reducible first | refine zQ1 ?_ | refine zQ2 ?_ | refine zQ3 ?_ | refine zJ ?_ | refine z53 ?_ | refine z54 ?_ | refine z27 ?_); tb_rel))
 · (with_reducible rename Fr _ _ _ _ => F1); (with_reducible rename News _ _ _ _ => N1)
   exact N1.get (by k_mem)
 first | k_dflt (refine' call_bndK ?F ?N ?M ?U ?_ ?sz; (case F => k_asm); (case N => k_asm); (case M => k_mem); (case U => k_upd); (case sz => (rw [Array.size_push]; omega))) | fail
 intro h11 F11 N11
 dsimp only at N11 ⊢
 (repeat' ((fail_if_success with_reducible first | refine zQ1 ?_ | refine zQ2 ?_ | refine zQ3 ?_ | refine zJ ?_ | refine z27 ?_); tb_rel))
 (with_reducible rename Fr _ _ _ _ => F1); (with_reducible rename News _ _ _ _ => N1)
 first | k_dflt (refine' append_K ?ap1 ?ap2 ?ap3 ?_ ?ap4; (case ap1 => exact F1); (case ap2 => exact N1); (case ap3 => k_upd); (case ap4 => omega)) | fail
 intro h12 F12 N12
 dsimp only at N12 ⊢
 (repeat' ((fail_if_success with_reducible first | refine zQ1 ?_ | refine zQ2 ?_ | refine zQ3 ?_ | refine zJ ?_ | refine z27 ?_); tb_rel))
 ((try (k_unfold; (try dsimp only))); k_dflt (refine' leaveK_ ?k1 ?k2 ?_; (case k1 => k_asm); (case k2 => k_asm)); intro kF kN; (try dsimp only))
 exact hret _ (wLed w A ⟨κκ, κz, κu, κv, true, κdone⟩ ⟨_, _, dat, nd, lv, nl, _, _, pvs (k + 1), _, opm⟩ ((dl, listOf #[] xk) :: (at', oa) :: (123, lamTab c') :: (c', oc) :: R')) _ _ _ ⟨rfl, q, hq, hqu, _, _, _, rfl⟩ kF (fun p hp => kN p (.tail _ (.tail _ (.tail _ (.tail _ (.tail _ (.tail _ (.tail _ (.tail _ (.tail _ (.tail _ (.tail _ hp))))))))))))
noncomputable def nsB (A : WA) (κ : WT) (R : Led) : Led := (A.d0, listOf #[.ref A.t0] 0) :: (A.t0, { cls := .type "tuple", data := .seq #[.str xmlUri κ.u, .str (Str.ofString "xml") κ.v] }) :: R
theorem nsB_sub {w : World} {A : WA} {κ : WT} {S : WL} {R : Led} {p : Addr × Obj} (h : p ∈ nsB A κ R) : p ∈ wLed w A κ S R := by
 unfold nsB at h
 rcases mc h with rfl | h
 · exact .tail _ (.tail _ (.tail _ (.tail _ (.head _))))
 rcases mc h with rfl | h
 · exact .tail _ (.tail _ (.tail _ (.tail _ (.tail _ (.head _)))))
 exact wLed_R h
theorem NSt.open {l : Led} {lv : Array Value} {Ls : List (Addr × Array Value × Nat)} {tl : List NT} (V : NSt l lv Ls tl) {dl : Addr} {xk : Nat} (hm : (dl, listOf #[] xk) ∈ l) (hs : Ls.length ≤ 99) : NSt l (lv.push (.ref dl)) (Ls ++ [(dl, #[], xk)]) tl where
 lv := by rw [V.lv, List.map_append, List.push_toArray]; rfl
 mem q hq := by
   rcases ma hq with hq | hq
   · exact V.mem q hq
   rw [ms hq]; exact hm
 flat := by rw [List.reverse_append]; exact V.flat
 tup := V.tup
 small := ⟨V.small.1, by rw [lA, List.length_singleton]; omega⟩
 nodup := V.nodup
 plen := V.plen
theorem start_el {w : World} {d u : Nat} {A : WA} {κ : WT} {S : WL} {R : Led} (hdd : 30 ≤ d) (hu : 80 ≤ u) (O : A.Ord R) {qs uri tag : Str} (H : QN qs uri tag) (t : Tok) {at' c' : Addr} {oa oc : Obj} {fv : Array Value} {tq : Tok} {R' : Led}
   (hR : R = (at', oa) :: (123, lamTab c') :: (c', oc) :: R') (hoa : oa.IsDictOf (strKind rw_pg0305_01.row.prog w) []) (has : (at' == sysModules) = false) (hoc : oc.data = .fields fv) (hfv : fv[1]? = some (.str (Str.ofString "C14NWriterTarget._start.<locals>.<lambda>") tq))
   {Ls : List (Addr × Array Value × Nat)} {tl : List NT} (V : NSt (nsB A κ R) S.lv Ls tl) (hLs : Ls.length ≤ 90) (hin : ∃ q ∈ tl, q.u = uri) (hsp : ∃ a b, Txt.splitMax qs (Str.ofString "}") 1 = [a, b]) {k : Nat} (hpv : S.pv = pvs k) (hkk : k ≤ 100) (hpn : S.pcs.size ≤ 890) (hnn : S.nss.size ≤ 1000) (htag : tag.length ≤ 1000)
   (hdat : DatOk S.dat) (hsn : κ.seen = true) :
   CtrD0 w 120 d u (wLed w A κ S R) [.ref A.x, .str qs t, .ref at'] (fun v l => v = .none ∧ ∃ q ∈ tl, q.u = uri ∧ ∃ pcs1 np1 nd1 tw1 tw2 n2 dl, FlR S.dat S.pcs S.np pcs1 np1 ∧ l = wLed w A { κ with seen := true } { S with dat := #[], nd := nd1, pcs := (pcs1.push (.str (Str.ofString "<" ++ (Str.empty ++ q.p ++ Str.ofString ":" ++ tag)) tw1)).push (.str (Str.ofString ">") tw2), np := np1 + 1 + 1, nss := S.nss.push n2, nn := S.nn + 1, pv := pvs (k + 1), nv := S.nv + 1, lv := S.lv.push (.ref dl), nl := S.nl + 1 } ((dl, listOf #[] 0) :: R) ∧ A.Ord ((dl, listOf #[] 0) :: R) ∧ ∀ p ∈ R, @LT.lt Nat _ p.1 dl) := by
 w_top off
 obtain ⟨pcs, np, dat, nd, lv, nl, nss, nn, pv, nv, opm⟩ := S
 obtain ⟨κκ, κz, κu, κv, κseen, κdone⟩ := κ
 have h1000 : 2000 ≤ sizeLine := by decide
 have hlvs : lv.size ≤ 100 := by have := V.lv; dsimp only at this; rw [this, List.size_toArray, lM]; omega
 dsimp only at hpv hpn hnn hdat hsn
 subst hR hsn
 have oat : @LT.lt Nat _ at' A.pc ∨ @LT.lt Nat _ A.ps at' := O.off (at', _) (.head _)
 have otb : @LT.lt Nat _ 123 A.pc ∨ @LT.lt Nat _ A.ps 123 := O.off (123, _) (.tail _ (.head _))
 have occ : @LT.lt Nat _ c' A.pc ∨ @LT.lt Nat _ A.ps c' := O.off (c', _) (.tail _ (.tail _ (.head _)))
 (revert hdd hu H hoa has hoc hfv hLs hin hsp hkk htag hpv hpn hnn hdat hlvs O V oat otb occ; revert w d u A qs uri tag t at' c' oa oc fv tq R' Ls tl k pcs np dat nd lv nl nss nn pv nv opm κκ κz κu κv κdone; with_reducible refine (no_implicit_lambda% (Drk7.all (by kpf_c) ((?_ : All7 _) _ _ _ _ _ _ _))); refine fun w d u A qs uri tag => Ap7.mk ?_; with_reducible refine (no_implicit_lambda% (Drk7.all (by kpf_c) ((?_ : All7 _) _ _ _ _ _ _ _))); refine fun t at' c' oa oc fv tq => Ap7.mk ?_; with_reducible refine (no_implicit_lambda% (Drk7.all (by kpf_c) ((?_ : All7 _) _ _ _ _ _ _ _))); refine fun R' Ls tl k pcs np dat => Ap7.mk ?_; with_reducible refine (no_implicit_lambda% (Drk7.all (by kpf_c) ((?_ : All7 _) _ _ _ _ _ _ _))); refine fun nd lv nl nss nn pv nv => Ap7.mk ?_; with_reducible refine (no_implicit_lambda% (Drk6.all (by kpf_c) ((?_ : All6 _) _ _ _ _ _ _))); refine fun opm κκ κz κu κv κdone => Ap6.mk ?_; intros hdd hu H hoa has hoc hfv hLs hin hsp hkk htag hpv hpn hnn hdat hlvs O V oat otb occ)
 (refine CtrD0.open ?_; generalize CtrD0.cs _ _ _ _ _ _ _ = bCS; unfold CtrD0.At; generalize bCS.p = p, bCS.loose = loose, bCS.mean = mean, bCS.mg = mg, bCS.mb = mb, bCS.dp = dp, bCS.un = un, bCS.gd = gd, bCS.cn = cn, bCS.cs = cs, bCS.a = a, bCS.ccd = ccd, bCS.cl = cl, bCS.outer = outer, bCS.A₀ = A₀, bCS.base = base, bCS.h₀ = h₀, bCS.L = L, bCS.m = m, bCS.s = s, bCS.Q = Q, bCS.E = E; clear bCS; intros St hret; obtain ⟨B, F, X, N, T, hk, hdp, hup⟩ := St; revert X; k_fill; intro X; refine wpAny_call ?_)
 (k_dflt (refine' code_def ?k1 ?k2 ?k3 ?k4 ?k5 ?kA ?kF ?kK ?k6 ?k7 ?k8 ?k9 ?kB ?_ ?c2 ?c3 ?c4 ?c5; (case kA => exact rfl); (case kF => exact rfl); (case kK => assumption); (case k1 => k_asm); (case k2 => k_asm); (case k3 => k_asm); (case k4 => k_asm); (case k5 => k_asm); (case k6 => k_is); (case k7 => k_is); (case k8 => first | allgen_close_more | (simp only [depth_in1, depth_deeper] at *; omega)); (case k9 => first | exact BindsTo.of_eq rfl | exact binds_K (by k_in) rfl (by k_is) rfl rfl rfl); (case c5 => decide); (case kB => exact locs rfl); (case c2 => exact rfl); (case c3 => exact rfl); (case c4 => exact rfl); k_whole; intro g' L' h' FG' F' N' B' X' T'); (try dsimp only); (refine wp_noE ?_); (refine wp_toks ?_); intro tk0; (try dsimp only); (try k_fold))
 replace F' : Fr g' L' h' (fun y' => List.lookup y' [(Str.ofString "attrs", .ref at'), (Str.ofString "tag", .str qs t), (Str.ofString "self", .ref A.x)]) := fr_eq F' (by kernel_rfl)
 first | k_dflt (refine wpAny_execs_cons ?_) | fail
 (repeat' ((fail_if_success with_reducible first | refine zQ1 ?_ | refine zQ2 ?_ | refine zQ3 ?_ | refine zJ ?_ | refine z1 ?_ | refine z2 ?_ | refine z3 ?_ | refine z4 ?_ | refine z5 ?_ | refine z6 ?_ | refine z7 ?_ | refine zc (by decide) ?_ | refine z9 ?_ | refine z44 ?_); (first | (k_unfold; try dsimp only) | (dsimp only; k_unfold; try dsimp only) | walk1 | (dsimp only; walk1) | fail)))
 first | k_dflt (refine execs_mid (fun s' => ∃ h1 tk1 pcs1 np1 nd1, s' = { s with heap := h1, toks := tk1 } ∧ Fr g' L' h1 (fun y' => List.lookup y' [(Str.ofString "attrs", .ref at'), (Str.ofString "tag", .str qs t), (Str.ofString "self", .ref A.x)]) ∧ News g' L' h1 (wLed w A ⟨κκ, κz, κu, κv, true, κdone⟩ ⟨pcs1, np1, #[], nd1, lv, nl, nss, nn, pv, nv, opm⟩ ((at', oa) :: (123, lamTab c') :: (c', oc) :: R')) ∧ FlR dat pcs np pcs1 np1) ?_ ?_) | fail
 · rcases hdat with rfl | ⟨y, ty, rfl, hy, hy1⟩
   · (repeat' ((fail_if_success with_reducible first | refine zQ1 ?_ | refine zQ2 ?_ | refine zQ3 ?_ | refine zJ ?_ | refine z28 ?_ | refine z27 ?_); tb_rel))
     (with_reducible rename Fr _ _ _ _ => F1); (with_reducible rename News _ _ _ _ => N1)
     refine wpAny_truthy_list (isList_news (its := (#[] : Array Value)) (k := nd) N1 (by k_mem)) (by decide) ?_
     dsimp only
     (repeat' ((fail_if_success with_reducible first | refine zQ1 ?_ | refine zQ2 ?_ | refine zQ3 ?_ | refine zJ ?_ | refine z27 ?_); tb_rel))
     (with_reducible rename Fr _ _ _ _ => F1); (with_reducible rename News _ _ _ _ => N1)
     exact ⟨rfl, _, _, _, _, _, rfl, F1, N1, .inl ⟨rfl, rfl, rfl⟩⟩
   (repeat' ((fail_if_success with_reducible first | refine zQ1 ?_ | refine zQ2 ?_ | refine zQ3 ?_ | refine zJ ?_ | refine z28 ?_ | refine z27 ?_); tb_rel))
   (with_reducible rename Fr _ _ _ _ => F1); (with_reducible rename News _ _ _ _ => N1)
   refine wpAny_truthy_list (isList_news (its := (#[.str y ty] : Array Value)) (k := nd) N1 (by k_mem)) (show 1 < 2 ^ 63 by decide) ?_
   rw [show (!(#[Value.str y ty] : Array Value).isEmpty) = true from rfl]
   dsimp only
   (repeat' ((fail_if_success with_reducible first | refine zQ1 ?_ | refine zQ2 ?_ | refine zQ3 ?_ | refine zJ ?_ | refine z27 ?_); tb_rel))
   (k_dflt (refine' Ctr.use (flush_ctr (κ := ⟨κκ, κz, κu, κv, true, κdone⟩) (S := ⟨pcs, np, #[.str y ty], nd, lv, nl, nss, nn, pv, nv, opm⟩) (d := 20) (u := 60) (by decide) (by decide) O y ty rfl hy hy1 (by dsimp only; omega) rfl) ?hA ?B ?F ?X ?N ?T ?kk ?hd ?hu ?_; (case hA => exact rfl); (case B => k_asm); (case F => k_asm); (case X => k_asm); (case N => k_asm); (case T => k_asm); (case kk => first | exact rfl | assumption); (case hd => allgen_close_more); (case hu => allgen_close_more)))
   rintro _ _ h5 tk5 ⟨rfl, nd', tw0, rfl⟩ F5 N5
   (revert V hret N N1 hy hy1 F5 N5; revert y ty h5 tk5 nd' tw0; with_reducible refine (no_implicit_lambda% (Drk6.all (by kpf_c) ((?_ : All6 _) _ _ _ _ _ _))); refine fun y ty h5 tk5 nd' tw0 => Ap6.mk ?_; intros V hret N N1 hy hy1 F5 N5)
   dsimp only
   (repeat' ((fail_if_success with_reducible first | refine zQ1 ?_ | refine zQ2 ?_ | refine zQ3 ?_ | refine zJ ?_ | refine z27 ?_); tb_rel))
   exact ⟨rfl, _, _, _, _, _, rfl, F5, N5, .inr ⟨_, _, _, rfl, rfl, rfl⟩⟩
 rintro _ ⟨h1, tk1, pcs1, np1, nd1, rfl, F1, N1, hfl⟩
 (revert F1 N1 hfl; revert h1 tk1 pcs1 np1 nd1; with_reducible refine Drk5.all (by kpf_c) ((?_ : All5 _) _ _ _ _ _); refine fun h1 tk1 pcs1 np1 nd1 => Ap5.mk ?_; intros F1 N1 hfl)
 have hfs := hfl.size
 clear F' N'
 (repeat' ((fail_if_success with_reducible first | refine zQ1 ?_ | refine zQ2 ?_ | refine zQ3 ?_ | refine zJ ?_ | refine z27 ?_); tb_rel))
 rename_i dl hq0 lq0 lq1 lq2 lq3
 (with_reducible rename Fr _ _ _ _ => F1); (with_reducible rename News _ _ _ _ => N1)
 first | k_dflt (refine' append_K ?ap1 ?ap2 ?ap3 ?_ ?ap4; (case ap1 => exact F1); (case ap2 => exact N1); (case ap3 => k_upd); (case ap4 => omega)) | fail
 intro h9 F9 N9
 dsimp only at N9 ⊢
 (repeat' ((fail_if_success with_reducible first | refine zQ1 ?_ | refine zQ2 ?_ | refine zQ3 ?_ | refine zJ ?_ | refine z27 ?_); tb_rel))
 have hdl : @LT.lt Nat _ A.ps dl := allLt_top (by regstrif_gather)
 have hdlR : ∀ p ∈ (at', oa) :: (123, lamTab c') :: (c', oc) :: R', @LT.lt Nat _ p.1 dl := allLt_mem (allLt_R (by regstrif_gather))
 have N10 : News g' L' h9 (wLed w A ⟨κκ, κz, κu, κv, true, κdone⟩ ⟨pcs1, np1, #[], nd1, lv.push (.ref dl), nl + 1, nss, nn, pv, nv, opm⟩ ([(dl, listOf #[] 0)] ++ ((at', oa) :: (123, lamTab c') :: (c', oc) :: R'))) := fun p hp => N9 p (mem_swap hp)
 have O10 : WA.Ord A ((dl, listOf #[] 0) :: (at', oa) :: (123, lamTab c') :: (c', oc) :: R') := ⟨O.o, fun p hp => by
   rcases mc hp with rfl | hp
   · exact .inr hdl
   exact O.off p hp⟩
 have V10 : NSt (wLed w A ⟨κκ, κz, κu, κv, true, κdone⟩ ⟨pcs1, np1, #[], nd1, lv.push (.ref dl), nl + 1, nss, nn, pv, nv, opm⟩ ((dl, listOf #[] 0) :: (at', oa) :: (123, lamTab c') :: (c', oc) :: R')) (lv.push (.ref dl)) (Ls ++ [(dl, #[], 0)]) tl :=
   (V.more fun p hp => wLed_mono (fun p hp => .tail _ hp) (nsB_sub hp)).open (wLed_R (.head _)) (by omega)
 (k_dflt (refine' CtrD0.use (start_elem (d := 25) (u := 70) (by decide) (by decide) O10 H t (xk := 0) rfl hoa has hoc hfv V10 hin hsp hpv hkk (by dsimp only; omega) hnn htag) ?hA ?B ?F ?X ?N ?T ?kk ?hd ?hu ?_; (case hA => exact rfl); (case B => k_asm); (case F => k_asm); (case X => k_asm); (case N => k_asm); (case T => k_asm); (case kk => first | exact rfl | assumption); (case hd => allgen_close_more); (case hu => allgen_close_more)))
 rintro _ _ h11 tk11 dr11 ⟨rfl, q, hq, hqu, tw1, tw2, n2, rfl⟩ F11 N11
 (revert hq hqu F11 N11; revert h11 tk11 dr11 q tw1 tw2 n2; with_reducible refine Drk7.all (by kpf_c) ((?_ : All7 _) _ _ _ _ _ _ _); refine fun h11 tk11 dr11 q tw1 tw2 n2 => Ap7.mk ?_; intros hq hqu F11 N11)
 dsimp only
 (repeat' ((fail_if_success with_reducible first | refine zQ1 ?_ | refine zQ2 ?_ | refine zQ3 ?_ | refine zJ ?_ | refine z27 ?_); tb_rel))
 ((try (k_unfold; (try dsimp only))); k_dflt (refine' leaveK_ ?k1 ?k2 ?_; (case k1 => k_asm); (case k2 => k_asm)); intro kF kN; (try dsimp only))
 exact hret _ _ _ _ _ ⟨rfl, q, hq, hqu, pcs1, np1, nd1, tw1, tw2, n2, dl, hfl, rfl, O10, hdlR⟩ kF kN
theorem pop_push {prog : Program} {w : World} {A : Around} {E : Value → Shared → Prop} {s : Shared} {h₀ : Heap} {L D : Addr} {m : Str → Option Value} {news news' : Led} {xs : Array Value} {y : Value} {n : Nat} {Q : Value → Shared → Prop} (F : Fr h₀ L s.heap m) (N : News h₀ L s.heap news) (U : Upd D (listOf (xs.push y) n) (listOf xs (n + 1)) news news') (hz : xs.size ≤ 1000)
   (h : ∀ h', Fr h₀ L h' m → News h₀ L h' news' → Q y { s with heap := h' }) : wpAny (model prog w) A (call (.builtin "list.pop") [.ref D]) Q E s := by
 have hs : (xs.push y).size ≤ sizeLine := by have : 2000 ≤ sizeLine := by decide
                                             rw [Array.size_push]; omega
 refine kl_pop F N (p := xs.toList) (y := y) (by rw [Array.toList_push]; exact kpa_last y xs.toList) (by rw [Array.toArray_toList]; exact U) hs fun h' F' N' => h h' F' N'
theorem end_AB {w : World} {d u : Nat} {A : WA} {κ : WT} {S : WL} {R : Led} (hdd : 30 ≤ d) (hu : 80 ≤ u) (O : A.Ord R) {qs uri tag : Str} (H : QN qs uri tag) (t : Tok)
   {Ls : List (Addr × Array Value × Nat)} {tl : List NT} (V : NSt (nsB A κ R) S.lv Ls tl) (hin : ∃ q ∈ tl, q.u = uri) {k : Nat} (hpv : S.pv = pvs (k + 1)) (hkk : k ≤ 100) (hpn : S.pcs.size ≤ 900)
   {lv' : Array Value} {lr : Value} (hlv : S.lv = lv'.push lr) {nss' : Array Value} {n2 : Value} (hnss : S.nss = nss'.push n2) (hnn : nss'.size ≤ 900) (htag : tag.length ≤ 1000) (hdat : DatOk S.dat) (hsn : κ.seen = true) :
   Ctr w 133 d u (wLed w A κ S R) [.ref A.x, .str qs t] (fun v l => v = .none ∧ ∃ q ∈ tl, q.u = uri ∧ ∃ pcs1 np1 nd1 tw done', FlR S.dat S.pcs S.np pcs1 np1 ∧ l = wLed w A { κ with done := done' } { S with dat := #[], nd := nd1, pcs := pcs1.push (.str (Str.empty ++ Str.ofString "</" ++ (Str.empty ++ q.p ++ Str.ofString ":" ++ tag) ++ Str.ofString ">") tw), np := np1 + 1, pv := pvs k, nv := S.nv + 1, lv := lv', nl := S.nl + 1, nss := nss', nn := S.nn + 1 } R) := by
 w_top off
 obtain ⟨pcs, np, dat, nd, lv, nl, nss, nn, pv, nv, opm⟩ := S
 obtain ⟨κκ, κz, κu, κv, κseen, κdone⟩ := κ
 have h1000 : 2000 ≤ sizeLine := by decide
 have hlvs : lv.size ≤ 100 := by have h1 := V.lv; have h2 := V.small.2; dsimp only at h1; rw [h1, List.size_toArray, lM]; omega
 dsimp only at hpv hpn hnn hdat hlv hnss hsn
 subst hsn
 dsimp only
 (revert hdd hu O H hin hkk hnn htag hpv hpn hlv hnss hdat hlvs V; revert w d u A R qs uri tag t Ls tl k lv' lr nss' n2 pcs np dat nd lv nl nss nn pv nv opm κκ κz κu κv κdone; with_reducible refine (no_implicit_lambda% (Drk8.all (by kpf_c) ((?_ : All8 _) _ _ _ _ _ _ _ _))); refine fun w d u A R qs uri tag => Ap8.mk ?_; with_reducible refine (no_implicit_lambda% (Drk8.all (by kpf_c) ((?_ : All8 _) _ _ _ _ _ _ _ _))); refine fun t Ls tl k lv' lr nss' n2 => Ap8.mk ?_; with_reducible refine (no_implicit_lambda% (Drk8.all (by kpf_c) ((?_ : All8 _) _ _ _ _ _ _ _ _))); refine fun pcs np dat nd lv nl nss nn => Ap8.mk ?_; with_reducible refine (no_implicit_lambda% (Drk8.all (by kpf_c) ((?_ : All8 _) _ _ _ _ _ _ _ _))); refine fun pv nv opm κκ κz κu κv κdone => Ap8.mk ?_; intros hdd hu O H hin hkk hnn htag hpv hpn hlv hnss hdat hlvs V)
 (refine Ctr.open ?_; generalize Ctr.cs _ _ _ _ _ _ _ = bCS; unfold Ctr.At; generalize bCS.p = p, bCS.loose = loose, bCS.mean = mean, bCS.mg = mg, bCS.mb = mb, bCS.dp = dp, bCS.un = un, bCS.gd = gd, bCS.cn = cn, bCS.cs = cs, bCS.a = a, bCS.ccd = ccd, bCS.cl = cl, bCS.outer = outer, bCS.A₀ = A₀, bCS.base = base, bCS.h₀ = h₀, bCS.L = L, bCS.m = m, bCS.s = s, bCS.Q = Q, bCS.E = E; clear bCS; intros St hret; obtain ⟨B, F, X, N, T, hk, hdp, hup⟩ := St; revert X; k_fill; intro X; refine wpAny_call ?_)
 (k_dflt (refine' code_def ?k1 ?k2 ?k3 ?k4 ?k5 ?kA ?kF ?kK ?k6 ?k7 ?k8 ?k9 ?kB ?_ ?c2 ?c3 ?c4 ?c5; (case kA => exact rfl); (case kF => exact rfl); (case kK => assumption); (case k1 => k_asm); (case k2 => k_asm); (case k3 => k_asm); (case k4 => k_asm); (case k5 => k_asm); (case k6 => k_is); (case k7 => k_is); (case k8 => first | allgen_close_more | (simp only [depth_in1, depth_deeper] at *; omega)); (case k9 => first | exact BindsTo.of_eq rfl | exact binds_K (by k_in) rfl (by k_is) rfl rfl rfl); (case c5 => decide); (case kB => exact locs rfl); (case c2 => exact rfl); (case c3 => exact rfl); (case c4 => exact rfl); k_whole; intro g' L' h' FG' F' N' B' X' T'); (try dsimp only); (refine wp_noE ?_); (refine wp_toks ?_); intro tk0; (try dsimp only); (try k_fold))
 replace F' : Fr g' L' h' (fun y' => List.lookup y' [(Str.ofString "tag", .str qs t), (Str.ofString "self", .ref A.x)]) := fr_eq F' (by kernel_rfl)
 first | k_dflt (refine wpAny_execs_cons ?_) | fail
 (repeat' ((fail_if_success with_reducible first | refine zQ1 ?_ | refine zQ2 ?_ | refine zQ3 ?_ | refine zJ ?_ | refine z1 ?_ | refine z2 ?_ | refine z3 ?_ | refine z4 ?_ | refine z5 ?_ | refine z6 ?_ | refine z7 ?_ | refine zc (by decide) ?_ | refine z9 ?_ | refine z44 ?_); (first | (k_unfold; try dsimp only) | (dsimp only; k_unfold; try dsimp only) | walk1 | (dsimp only; walk1) | fail)))
 first | k_dflt (refine execs_mid (fun s' => ∃ h1 tk1 pcs1 np1 nd1, s' = { s with heap := h1, toks := tk1 } ∧ Fr g' L' h1 (fun y' => List.lookup y' [(Str.ofString "tag", .str qs t), (Str.ofString "self", .ref A.x)]) ∧ News g' L' h1 (wLed w A ⟨κκ, κz, κu, κv, true, κdone⟩ ⟨pcs1, np1, #[], nd1, lv, nl, nss, nn, pv, nv, opm⟩ R) ∧ FlR dat pcs np pcs1 np1) ?_ ?_) | fail
 · rcases hdat with rfl | ⟨y, ty, rfl, hy, hy1⟩
   · (repeat' ((fail_if_success with_reducible first | refine zQ1 ?_ | refine zQ2 ?_ | refine zQ3 ?_ | refine zJ ?_ | refine z28 ?_ | refine z27 ?_); tb_rel))
     (with_reducible rename Fr _ _ _ _ => F1); (with_reducible rename News _ _ _ _ => N1)
     refine wpAny_truthy_list (isList_news (its := (#[] : Array Value)) (k := nd) N1 (by k_mem)) (by decide) ?_
     dsimp only
     (repeat' ((fail_if_success with_reducible first | refine zQ1 ?_ | refine zQ2 ?_ | refine zQ3 ?_ | refine zJ ?_ | refine z27 ?_); tb_rel))
     (with_reducible rename Fr _ _ _ _ => F1); (with_reducible rename News _ _ _ _ => N1)
     exact ⟨rfl, _, _, _, _, _, rfl, F1, N1, .inl ⟨rfl, rfl, rfl⟩⟩
   (repeat' ((fail_if_success with_reducible first | refine zQ1 ?_ | refine zQ2 ?_ | refine zQ3 ?_ | refine zJ ?_ | refine z28 ?_ | refine z27 ?_); tb_rel))
   (with_reducible rename Fr _ _ _ _ => F1); (with_reducible rename News _ _ _ _ => N1)
   refine wpAny_truthy_list (isList_news (its := (#[.str y ty] : Array Value)) (k := nd) N1 (by k_mem)) (show 1 < 2 ^ 63 by decide) ?_
   rw [show (!(#[Value.str y ty] : Array Value).isEmpty) = true from rfl]
   dsimp only
   (repeat' ((fail_if_success with_reducible first | refine zQ1 ?_ | refine zQ2 ?_ | refine zQ3 ?_ | refine zJ ?_ | refine z27 ?_); tb_rel))
   (k_dflt (refine' Ctr.use (flush_ctr (κ := ⟨κκ, κz, κu, κv, true, κdone⟩) (S := ⟨pcs, np, #[.str y ty], nd, lv, nl, nss, nn, pv, nv, opm⟩) (d := 20) (u := 60) (by decide) (by decide) O y ty rfl hy hy1 (by dsimp only; omega) rfl) ?hA ?B ?F ?X ?N ?T ?kk ?hd ?hu ?_; (case hA => exact rfl); (case B => k_asm); (case F => k_asm); (case X => k_asm); (case N => k_asm); (case T => k_asm); (case kk => first | exact rfl | assumption); (case hd => allgen_close_more); (case hu => allgen_close_more)))
   rintro _ _ h5 tk5 ⟨rfl, nd', tw0, rfl⟩ F5 N5
   (revert V hret N N1 hy hy1 F5 N5; revert y ty h5 tk5 nd' tw0; with_reducible refine (no_implicit_lambda% (Drk6.all (by kpf_c) ((?_ : All6 _) _ _ _ _ _ _))); refine fun y ty h5 tk5 nd' tw0 => Ap6.mk ?_; intros V hret N N1 hy hy1 F5 N5)
   dsimp only
   (repeat' ((fail_if_success with_reducible first | refine zQ1 ?_ | refine zQ2 ?_ | refine zQ3 ?_ | refine zJ ?_ | refine z27 ?_); tb_rel))
   exact ⟨rfl, _, _, _, _, _, rfl, F5, N5, .inr ⟨_, _, _, rfl, rfl, rfl⟩⟩
 rintro _ ⟨h1, tk1, pcs1, np1, nd1, rfl, F1, N1, hfl⟩
 (revert F1 N1 hfl; revert h1 tk1 pcs1 np1 nd1; with_reducible refine Drk5.all (by kpf_c) ((?_ : All5 _) _ _ _ _ _); refine fun h1 tk1 pcs1 np1 nd1 => Ap5.mk ?_; intros F1 N1 hfl)
 have hfs := hfl.size
 clear F' N'
 (repeat' ((fail_if_success with_reducible first | refine zQ1 ?_ | refine zQ2 ?_ | refine zQ3 ?_ | refine zJ ?_ | refine z27 ?_); tb_rel))
 first | k_dflt (refine callWith_bndK (D := A.pc) ?_) | fail
 (repeat' ((fail_if_success with_reducible first | refine zQ1 ?_ | refine zQ2 ?_ | refine zQ3 ?_ | refine zJ ?_ | refine z27 ?_); tb_rel))
 have V6 := V.more (l' := wLed w A ⟨κκ, κz, κu, κv, true, κdone⟩ ⟨pcs1, np1, #[], nd1, lv, nl, nss, nn, pv, nv, opm⟩ R) fun p hp => nsB_sub hp
 (k_dflt (refine' Ctr.use ((qname_oldC (A := A) (κ := ⟨κκ, κz, κu, κv, true, κdone⟩) (S := ⟨pcs1, np1, #[], nd1, lv, nl, nss, nn, pv, nv, opm⟩) (d := 10) (u := 40) (by decide) (by decide) O H t V6 hin).toC) ?hA ?B ?F ?X ?N ?T ?kk ?hd ?hu ?_; (case hA => exact rfl); (case B => k_asm); (case F => k_asm); (case X => k_asm); (case N => k_asm); (case T => k_asm); (case kk => first | exact rfl | assumption); (case hd => allgen_close_more); (case hu => allgen_close_more)))
 rintro _ _ h7 tk7 ⟨q, hq, hqu, Dr, t1, t2, t3, rfl, rfl, hDr⟩ F7 N7
 (revert hq hqu hDr F7 N7; revert h7 tk7 q Dr t1 t2 t3; with_reducible refine Drk7.all (by kpf_c) ((?_ : All7 _) _ _ _ _ _ _ _); refine fun h7 tk7 q Dr t1 t2 t3 => Ap7.mk ?_; intros hq hqu hDr F7 N7)
 have hqp := V.plen q hq
 dsimp only at N7 hDr ⊢
 replace hDr := allLt_of hDr
 (repeat' ((fail_if_success with_reducible first | refine zQ1 ?_ | refine zQ2 ?_ | refine zQ3 ?_ | refine zJ ?_ | refine z53 ?_ | refine z54 ?_ | refine z27 ?_); tb_rel))
 · (with_reducible rename Fr _ _ _ _ => F1); (with_reducible rename News _ _ _ _ => N1)
   exact N1.get (by k_mem)
 first | k_dflt (refine' call_bndK ?F ?N ?M ?U ?_ ?sz; (case F => k_asm); (case N => k_asm); (case M => k_mem); (case U => k_upd); (case sz => omega)) | fail
 intro h10 F10 N10
 dsimp only at N10 ⊢
 subst hlv hnss hpv
 rw [← pvs_push] at N10
 (repeat' ((fail_if_success with_reducible first | refine zQ1 ?_ | refine zQ2 ?_ | refine zQ3 ?_ | refine zJ ?_ | refine z45 ?_ | refine z27 ?_); tb_rel))
 (with_reducible rename Fr _ _ _ _ => F1); (with_reducible rename News _ _ _ _ => N1)
 first | k_dflt (refine' pop_push ?pp1 ?pp2 ?pp3 ?pp4 ?_; (case pp1 => exact F1); (case pp2 => exact N1); (case pp3 => k_upd); (case pp4 => (rw [pvs_size]; omega))) | fail
 intro h11 F11 N11
 dsimp only at N11 ⊢
 (repeat' ((fail_if_success with_reducible first | refine zQ1 ?_ | refine zQ2 ?_ | refine zQ3 ?_ | refine zJ ?_ | refine z27 ?_); tb_rel))
 (with_reducible rename Fr _ _ _ _ => F1); (with_reducible rename News _ _ _ _ => N1)
 refine len_list (isList_news (its := pvs k) (k := nv + 1) N1 (by k_mem)) (by rw [pvs_size]; omega) ?_
 (repeat' ((fail_if_success with_reducible first | refine zQ1 ?_ | refine zQ2 ?_ | refine zQ3 ?_ | refine zJ ?_ | refine z27 ?_); tb_rel))
 first | k_dflt (refine' set_dict ?k1 ?k2 ?k3 ?k4 ?k5 ?k6 ?k7 ?k8 ?k9 ?k10 ?k11 ?k12 ?k13 ?_; (case k1 => k_asm); (case k2 => k_asm); (case k3 => k_asm); (case k4 => k_inst); (case k5 => exact rfl); (case k6 => k_is); (case k7 => k_is); (case k8 => k_is); (case k9 => k_is); (case k10 => k_get); (case k11 => k_put); (case k12 => (refine' Upd.tail ?ua ?ub; (case ua => k_ne); (case ub => (refine' updW_dx ⟨κκ, κz, κu, κv, true, ((pvs k).size : Int) == 1⟩ O ?ue ?uf ?ug ?uh; (case ue => exact rfl); (case uf => exact rfl); (case ug => exact rfl); (case uh => exact rfl))))); (case k13 => exact Nat.le_of_ble_eq_true rfl); k_whole; intro h' F' N'; (try k_sweep)) | fail
 (repeat' ((fail_if_success with_reducible first | refine zQ1 ?_ | refine zQ2 ?_ | refine zQ3 ?_ | refine zJ ?_ | refine z45 ?_ | refine z27 ?_); tb_rel))
 (with_reducible rename Fr _ _ _ _ => F1); (with_reducible rename News _ _ _ _ => N1)
 first | k_dflt (refine' pop_push ?pp1 ?pp2 ?pp3 ?pp4 ?_; (case pp1 => exact F1); (case pp2 => exact N1); (case pp3 => k_upd); (case pp4 => (rw [Array.size_push] at hlvs; omega))) | fail
 intro h12 F12 N12
 dsimp only at N12 ⊢
 (repeat' ((fail_if_success with_reducible first | refine zQ1 ?_ | refine zQ2 ?_ | refine zQ3 ?_ | refine zJ ?_ | refine z45 ?_ | refine z27 ?_); tb_rel))
 (with_reducible rename Fr _ _ _ _ => F1); (with_reducible rename News _ _ _ _ => N1)
 first | k_dflt (refine' pop_push ?pp1 ?pp2 ?pp3 ?pp4 ?_; (case pp1 => exact F1); (case pp2 => exact N1); (case pp3 => k_upd); (case pp4 => omega)) | fail
 intro h13 F13 N13
 dsimp only at N13 ⊢
 (repeat' ((fail_if_success with_reducible first | refine zQ1 ?_ | refine zQ2 ?_ | refine zQ3 ?_ | refine zJ ?_ | refine z27 ?_); tb_rel))
 ((try (k_unfold; (try dsimp only))); k_dflt (refine' leaveK_ ?k1 ?k2 ?_; (case k1 => k_asm); (case k2 => k_asm)); intro kF kN; (try dsimp only))
 exact hret _ (wLed w A ⟨κκ, κz, κu, κv, true, _⟩ ⟨pcs1.push _, np1 + 1, #[], nd1, lv', nl + 1, nss', nn + 1, pvs k, nv + 1, opm⟩ R) _ _ ⟨rfl, q, hq, hqu, pcs1, np1, nd1, _, _, hfl, rfl⟩ kF (fun p hp => kN p (.tail _ hp))
def seenU (us : List Str) (u : Str) : List Str := if u ∈ us then us else us ++ [u]
structure RootN (w : World) (us : List Str) (ts : List NT) (opm : Obj) (l : Led) : Prop where
 u : ts.map (·.u) = us
 p : ∀ k q, ts[k]? = some q → q.p = nName k
 tup : ∀ q ∈ ts, (q.a, q.obj) ∈ l
 nodup : us.Nodup
 xml : xmlUri ∉ us
 len : us.length ≤ 20
 pm : ∃ (kvs : List (Str × Value)) (D₀ : List (PyData × PyData)), opm.IsDictOf (strKind rw_pg0305_01.row.prog w) kvs ∧ PyProof.V.FlatPairs PyData.str kvs D₀ ∧ D₀.length = us.length ∧ ∀ x, x ∉ us → Spec.lookup (PyData.str x) D₀ = none
def refsN (ts : List NT) : Array Value := (ts.map fun q => Value.ref q.a).toArray
def xmlNT (A : WA) (κ : WT) : NT := ⟨A.t0, xmlUri, κ.u, Str.ofString "xml", κ.v⟩
theorem FlatPairs_len {K : Type} {enc : K → PyData} {kvs : List (K × Value)} {D : List (PyData × PyData)} (h : PyProof.V.FlatPairs enc kvs D) : kvs.length = D.length := by
 induction h with
 | nil => rfl
 | cons _ _ ih => rw [List.length_cons, List.length_cons, ih]
theorem nName_inj {a b : Nat} (ha : a ≤ 20) (hb : b ≤ 20) (h : nName a = nName b) : a = b := by
 have : ∀ a : Fin 21, ∀ b : Fin 21, nName a.1 = nName b.1 → a.1 = b.1 := by decide +kernel
 exact this ⟨a, by omega⟩ ⟨b, by omega⟩ h
theorem nName_xml {a : Nat} (ha : a ≤ 20) : nName a ≠ Str.ofString "xml" := by
 have : ∀ a : Fin 21, nName a.1 ≠ Str.ofString "xml" := by decide +kernel
 exact this ⟨a, by omega⟩
theorem nName_len {a : Nat} (ha : a ≤ 20) : 1 ≤ (nName a).length ∧ (nName a).length ≤ 100 := by
 have : ∀ a : Fin 21, 1 ≤ (nName a.1).length ∧ (nName a.1).length ≤ 100 := by decide +kernel
 exact this ⟨a, by omega⟩
theorem RootN.size {w : World} {us : List Str} {ts : List NT} {opm : Obj} {l : Led} (R : RootN w us ts opm l) : ts.length = us.length := by rw [← R.u, lM]
theorem RootN.nst {w : World} {us : List Str} {ts : List NT} {A : WA} {κ : WT} {S : WL} {R : Led} {dl : Addr} {xk : Nat} {l : Led} (V : RootN w us ts S.opm l) (hl : ∀ p ∈ l, p ∈ wLed w A κ S R) (hdl : (dl, listOf (refsN ts) xk) ∈ wLed w A κ S R) (hlv : S.lv = #[.ref A.d0, .ref dl]) :
   NSt (wLed w A κ S R) S.lv [(A.d0, #[.ref A.t0], 0), (dl, refsN ts, xk)] (ts ++ [xmlNT A κ]) where
 lv := by rw [hlv]; rfl
 mem q hq := by
   rcases mc hq with rfl | hq
   · exact .tail _ (.tail _ (.tail _ (.tail _ (.head _))))
   rw [ms hq]; exact hdl
 flat := by
   rw [List.map_append]
   show (refsN ts).toList ++ ([Value.ref A.t0] ++ []) = _
   rfl
 tup q hq := by
   rcases ma hq with hq | hq
   · exact hl _ (V.tup q hq)
   rw [ms hq]; exact .tail _ (.tail _ (.tail _ (.tail _ (.tail _ (.head _)))))
 small := ⟨by rw [lA, V.size, List.length_singleton]; have := V.len; omega, by simp⟩
 nodup := by
   rw [List.map_append, List.nodup_append]
   have hl := V.len
   have hz := V.size
   refine ⟨?_, by simp, ?_⟩
   · rw [List.Nodup, List.pairwise_iff_getElem]
     rintro i j hi hj hij e
     rw [lM] at hi hj
     rw [List.getElem_map, List.getElem_map, V.p i _ (List.getElem?_eq_getElem hi), V.p j _ (List.getElem?_eq_getElem hj)] at e
     exact Nat.ne_of_lt hij (nName_inj (by omega) (by omega) e)
   rintro a ha b hb e
   rw [List.map_singleton, List.mem_singleton] at hb
   obtain ⟨q, hq, rfl⟩ := List.mem_map.mp ha
   obtain ⟨i, hi, rfl⟩ := List.mem_iff_getElem.mp hq
   rw [V.p i _ (List.getElem?_eq_getElem hi), hb] at e
   exact nName_xml (by omega) e
 plen q hq := by
   have hl := V.len
   have hz := V.size
   rcases ma hq with hq | hq
   · obtain ⟨i, hi, rfl⟩ := List.mem_iff_getElem.mp hq
     rw [V.p i _ (List.getElem?_eq_getElem hi)]
     exact nName_len (by omega)
   rw [ms hq]; exact (by decide +kernel : 1 ≤ (Str.ofString "xml").length ∧ (Str.ofString "xml").length ≤ 100)
theorem RootN.uri {w : World} {us : List Str} {ts : List NT} {opm : Obj} {l : Led} {A : WA} {κ : WT} (V : RootN w us ts opm l) {uri : Str} (hx : uri ≠ xmlUri) {q : NT} (hq : q ∈ ts ++ [xmlNT A κ]) (hu : q.u = uri) : ∃ k, us[k]? = some uri ∧ q.p = nName k := by
 rcases ma hq with hq | hq
 · obtain ⟨i, hi, rfl⟩ := List.mem_iff_getElem.mp hq
   refine ⟨i, ?_, V.p i _ (List.getElem?_eq_getElem hi)⟩
   rw [← V.u, List.getElem?_map, List.getElem?_eq_getElem hi, ← hu]; rfl
 rw [ms hq] at hu
 exact absurd hu.symm hx
theorem wLed_fst {w : World} {A : WA} {κ : WT} {S S' : WL} {dl : Addr} {o o' : Obj} {R : Led} {D : Nat} (h : ∀ p ∈ wLed w A κ S' ((dl, o') :: R), p.1 < D) : ∀ p ∈ wLed w A κ S ((dl, o) :: R), p.1 < D := fun p hp => by
 have e : (wLed w A κ S ((dl, o) :: R)).map (·.1) = (wLed w A κ S' ((dl, o') :: R)).map (·.1) := rfl
 have hm : p.1 ∈ (wLed w A κ S' ((dl, o') :: R)).map (·.1) := e ▸ List.mem_map_of_mem hp
 obtain ⟨q, hq, hqe⟩ := List.mem_map.mp hm
 rw [← hqe]; exact h q hq
def RootQ (w : World) (A : WA) (κ : WT) (S : WL) (R' : Led) (dl : Addr) (ts : List NT) (us : List Str) (uri tag : Str) (v : Value) (l : Led) : Prop :=
 ∃ (Dr : Addr) (k : Nat) (ts' : List NT) (opm' : Obj) (xk' : Nat) (Y : Led) (t1 t2 t3 : Tok), v = .ref Dr ∧ (seenU us uri)[k]? = some uri ∧
   l = (Dr, trip (Str.empty ++ nName k ++ Str.ofString ":" ++ tag) tag uri t1 t2 t3) :: (Y ++ wLed w A κ { S with opm := opm' } ((dl, listOf (refsN ts') xk') :: R')) ∧
   RootN w (seenU us uri) ts' opm' (Y ++ R') ∧ (∀ q ∈ ts', q ∈ ts ∨ (q.a, q.obj) ∈ Y) ∧ (∀ q ∈ Y, q.1 < Dr) ∧ (∀ p ∈ wLed w A κ S ((dl, listOf #[] 0) :: R'), p.1 < Dr ∧ ∀ q ∈ Y, p.1 < q.1)
theorem qname_rootC {w : World} {d u : Nat} {A : WA} {κ : WT} {S : WL} {R' : Led} {dl : Addr} {xk : Nat} {us : List Str} {ts : List NT} (hd : 10 ≤ d) (hu : 40 ≤ u) (O : A.Ord ((dl, listOf (refsN ts) xk) :: R')) {qs uri tag : Str} (H : QN qs uri tag) (t : Tok) (V : RootN w us ts S.opm R')
   (hlv : S.lv = #[.ref A.d0, .ref dl]) (hx : uri ≠ xmlUri) (hsm : (A.pm == sysModules) = false) (hdl : ∀ p ∈ R', p.1 ≠ dl) (hlen : us.length ≤ 19) :
   CtrC w 90 d u (wLed w A κ S ((dl, listOf (refsN ts) xk) :: R')) [.ref A.x, .str qs t] (RootQ w A κ S R' dl ts us uri tag) := by
 (revert hd hu O H V hlv hx hsm hdl hlen; revert w d u A κ S R' dl xk us ts qs uri tag t; with_reducible refine (no_implicit_lambda% (Drk8.all (by kpf_c) ((?_ : All8 _) _ _ _ _ _ _ _ _))); refine fun w d u A κ S R' dl => Ap8.mk ?_; with_reducible refine (no_implicit_lambda% (Drk7.all (by kpf_c) ((?_ : All7 _) _ _ _ _ _ _ _))); refine fun xk us ts qs uri tag t => Ap7.mk ?_; intros hd hu O H V hlv hx hsm hdl hlen)
 have hnst := V.nst (A := A) (κ := κ) (S := S) (R := (dl, listOf (refsN ts) xk) :: R') (dl := dl) (xk := xk) (fun p hp => wLed_R (.tail _ hp)) (wLed_R (.head _)) hlv
 by_cases hin : uri ∈ us
 · have hq : ∃ q ∈ ts ++ [xmlNT A κ], q.u = uri := by
     rw [← V.u] at hin
     obtain ⟨q, hq, e⟩ := List.mem_map.mp hin
     (revert hq e; revert q; tb_start; refine fun q => Ap.mk ?_; intros hq e)
     exact ⟨q, ml _ hq, e⟩
   refine (qname_oldC hd hu O H t hnst hq).mono fun v l h => ?_
   (revert h; revert v l; with_reducible refine Drk2.all (by kpf_c) ((?_ : All2 _) _ _); refine fun v l => Ap2.mk ?_; intros h)
   obtain ⟨q, hq, hqu, D, t1, t2, t3, rfl, rfl, hlt⟩ := h
   (revert hq hqu hlt; revert q D t1 t2 t3; with_reducible refine Drk5.all (by kpf_c) ((?_ : All5 _) _ _ _ _ _); refine fun q D t1 t2 t3 => Ap5.mk ?_; intros hq hqu hlt)
   obtain ⟨k, hk, hp⟩ := V.uri hx hq hqu
   (revert hk hp; revert k; tb_start; refine fun k => Ap.mk ?_; intros hk hp)
   have e : seenU us uri = us := if_pos hin
   refine ⟨D, k, ts, S.opm, xk, ([] : Led), t1, t2, t3, rfl, by rw [e]; exact hk, by rw [hp]; rfl, by rw [e]; exact V, fun q hq => .inl hq, (fun q hq => nomatch hq), fun p hp => ⟨wLed_fst hlt p hp, (fun q hq => nomatch hq)⟩⟩
 · have hnew : ∀ q ∈ ts ++ [xmlNT A κ], q.u ≠ uri := fun q hq e => by
     rcases ma hq with hq | hq
     · exact hin (by rw [← V.u, ← e]; exact List.mem_map_of_mem hq)
     rw [ms hq] at e; exact hx e.symm
   obtain ⟨kvs, D₀, hm, hf, hDl, hno⟩ := V.pm
   (revert hm hf hDl hno; revert kvs D₀; with_reducible refine Drk2.all (by kpf_c) ((?_ : All2 _) _ _); refine fun kvs D₀ => Ap2.mk ?_; intros hm hf hDl hno)
   refine (qname_newC hd hu O H t hnst hnew hm hf (hno _ hin) (by omega) (FlatPairs_len hf) rfl (Ls' := [(A.d0, #[.ref A.t0], 0)]) rfl (by unfold refsN; rw [List.size_toArray, lM, V.size]; omega) hsm hdl).mono fun v l h => ?_
   (revert h; revert v l; with_reducible refine Drk2.all (by kpf_c) ((?_ : All2 _) _ _); refine fun v l => Ap2.mk ?_; intros h)
   obtain ⟨Dr, Dn, opm', kvs', t1, t2, t3, t4, t5, rfl, hm', hf', rfl, hlt, hlt'⟩ := h
   (revert hm' hf' hlt hlt'; revert Dr Dn opm' kvs' t1 t2 t3 t4 t5; with_reducible refine Drk5.all (by kpf_c) ((?_ : All5 _) _ _ _ _ _); refine fun Dr Dn opm' kvs' t1 => Ap5.mk ?_; with_reducible refine Drk4.all (by kpf_c) ((?_ : All4 _) _ _ _ _); refine fun t2 t3 t4 t5 => Ap4.mk ?_; intros hm' hf' hlt hlt')
   have e : seenU us uri = us ++ [uri] := if_neg hin
   have er : refsN (ts ++ [⟨Dn, uri, t4, nName D₀.length, t5⟩]) = (refsN ts).push (.ref Dn) := by
     unfold refsN; rw [List.map_append, List.push_toArray]; rfl
   refine ⟨Dr, us.length, ts ++ [⟨Dn, uri, t4, nName D₀.length, t5⟩], opm', xk + 1, [(Dn, { cls := .type "tuple", data := .seq #[.str uri t4, .str (nName D₀.length) t5] })], t1, t2, t3, rfl, ?_, ?_, ?_, fun q hq => ?_, ?_, ?_⟩
   · rw [e, List.getElem?_append_right (Nat.le_refl _), Nat.sub_self]; rfl
   · rw [er, hDl]; rfl
   · rw [e]
     refine ⟨by rw [List.map_append, V.u]; rfl, fun k q hq => ?_, fun q hq => ?_, ?_, ?_, by rw [lA, List.length_singleton]; omega, ?_⟩
     · by_cases hk : k < ts.length
       · rw [List.getElem?_append_left hk] at hq; exact V.p k q hq
       rw [List.getElem?_append_right (by omega)] at hq
       cases hk' : k - ts.length with
       | zero =>
         rw [hk'] at hq
         have := Option.some.inj hq
         rw [← this, hDl, ← V.size, show k = ts.length by omega]
       | succ j => rw [hk'] at hq; cases hq
     · rcases ma hq with hq | hq
       · exact mr _ (V.tup q hq)
       rw [ms hq]; exact .head _
     · rw [List.nodup_append]
       exact ⟨V.nodup, by simp, fun a ha b hb e => hin (by rw [List.mem_singleton] at hb; rw [← hb, ← e]; exact ha)⟩
     · rintro h
       rcases ma h with h | h
       · exact V.xml h
       exact hx (ms h).symm
     have e2 := PyProof.Rows.putD_absent (hno _ hin) (PyData.str (nName D₀.length))
     refine ⟨kvs', _, hm', hf', by rw [e2, lA, lA, hDl]; rfl, fun x hxx => ?_⟩
     rw [PyProof.Rows.lookup_putD_str, if_neg (fun q => hxx (by rw [q]; exact mr _ (.head _)))]
     exact hno x fun q => hxx (ml _ q)
   · rcases ma hq with hq | hq
     · exact .inl hq
     rw [ms hq]; exact .inr (.head _)
   · rintro q hq; rw [ms hq]; exact hlt'
   rintro p hp
   have h1 := wLed_fst hlt p hp
   exact ⟨Nat.lt_trans h1 hlt', fun q hq => by rw [ms hq]; exact h1⟩
def usOf (U : Str → Str) (ys : List Str) : List Str := ys.foldl (fun us y => seenU us (U y)) []
theorem usOf_snoc (U : Str → Str) (ys : List Str) (y : Str) : usOf U (ys ++ [y]) = seenU (usOf U ys) (U y) := by
 unfold usOf; rw [List.foldl_append]; rfl
theorem seenU_len (us : List Str) (u : Str) : (seenU us u).length ≤ us.length + 1 := by
 unfold seenU
 split
 · omega
 rw [lA, List.length_singleton]; exact Nat.le_refl _
theorem foldl_seen_len (U : Str → Str) : ∀ (ys us : List Str), (ys.foldl (fun us y => seenU us (U y)) us).length ≤ us.length + ys.length
 | [], us => Nat.le_add_right _ _
 | y :: ys, us => by
   have h1 := foldl_seen_len U ys (seenU us (U y))
   have h2 := seenU_len us (U y)
   rw [List.foldl_cons, List.length_cons]; omega
theorem usOf_len (U : Str → Str) (ys : List Str) : (usOf U ys).length ≤ ys.length := by
 have := foldl_seen_len U ys []
 unfold usOf
 rw [List.length_nil] at this; omega
theorem seenU_keeps {us : List Str} {u x : Str} {k : Nat} (h : us[k]? = some x) : (seenU us u)[k]? = some x := by
 unfold seenU
 split
 · exact h
 obtain ⟨hk, _⟩ := List.getElem?_eq_some_iff.mp h
 rw [List.getElem?_append_left hk]; exact h
theorem RootN.at {w : World} {us : List Str} {ts : List NT} {opm : Obj} {l l' : Led} (V : RootN w us ts opm l) (h : ∀ q ∈ ts, (q.a, q.obj) ∈ l') : RootN w us ts opm l' := ⟨V.u, V.p, h, V.nodup, V.xml, V.len, V.pm⟩
def RJ (w : World) (A : WA) (κ : WT) (S : WL) (dl : Addr) (X₀ R' : Led) (U T : Str → Str) (ns : List Str) (i : Nat) (kvs : List (Str × Value)) (nw : Led) : Prop :=
 ∃ (ts : List NT) (opm' : Obj) (xk' : Nat) (Y : Led), nw = Y ++ (X₀ ++ wLed w A κ { S with opm := opm' } ((dl, listOf (refsN ts) xk') :: R')) ∧ (∀ p ∈ Y, A.ps < p.1 ∧ p.1 ≠ dl) ∧ RootN w (usOf U (ns.take i)) ts opm' (Y ++ R') ∧ kvs.map (·.1) = ns.take i ∧
   ∀ p ∈ kvs, ∃ (D : Addr) (k : Nat) (t1 t2 t3 : Tok), p.2 = .ref D ∧ (usOf U (ns.take i))[k]? = some (U p.1) ∧ (D, trip (Str.empty ++ nName k ++ Str.ofString ":" ++ T p.1) (T p.1) (U p.1) t1 t2 t3) ∈ Y
theorem RJ.step {w : World} {d u : Nat} {A : WA} {κ : WT} {S : WL} {dl : Addr} {X₀ R' : Led} {U T : Str → Str} {ns : List Str} {i : Nat} {kvs : List (Str × Value)} {nw : Led} (J : RJ w A κ S dl X₀ R' U T ns i kvs nw) (hd : 10 ≤ d) (hu : 40 ≤ u) {od : Obj} (O : A.Ord ((dl, od) :: R'))
   {y : Str} (hy : ns[i]? = some y) (hns : ns.length ≤ 19) (H : QN y (U y) (T y)) (t : Tok) (hlv : S.lv = #[.ref A.d0, .ref dl]) (hx : U y ≠ xmlUri) (hsm : (A.pm == sysModules) = false) (hdl : ∀ p ∈ R', p.1 ≠ dl)
   (hX₀ : ∀ p ∈ X₀, A.ps < p.1 ∧ p.1 ≠ dl) {Z : Led} (hZ : ∀ p ∈ Z, A.ps < p.1 ∧ p.1 ≠ dl) :
   ∃ l : Led, (∀ p ∈ l, p ∈ Z ++ nw) ∧ CtrC w 90 d u l [.ref A.x, .str y t] (fun v l' => ∃ nw', (∀ p ∈ nw', p ∈ l') ∧ (∀ p ∈ Z, p ∈ l') ∧ RJ w A κ S dl X₀ R' U T ns (i + 1) (kvs ++ [(y, v)]) nw' ∧ (∀ p ∈ nw', p.1 ∈ nw.map (·.1) ∨ ∀ q ∈ Z ++ nw, q.1 < p.1)) := by
 (revert J hd hu O hy hns H hlv hx hsm hdl hX₀ hZ; revert w d u A κ S dl X₀ R' U T ns i kvs nw od y t Z; with_reducible refine (no_implicit_lambda% (Drk7.all (by kpf_c) ((?_ : All7 _) _ _ _ _ _ _ _))); refine fun w d u A κ S dl => Ap7.mk ?_; with_reducible refine (no_implicit_lambda% (Drk7.all (by kpf_c) ((?_ : All7 _) _ _ _ _ _ _ _))); refine fun X₀ R' U T ns i kvs => Ap7.mk ?_; with_reducible refine (no_implicit_lambda% (Drk5.all (by kpf_c) ((?_ : All5 _) _ _ _ _ _))); refine fun nw od y t Z => Ap5.mk ?_; intros J hd hu O hy hns H hlv hx hsm hdl hX₀ hZ)
 obtain ⟨ts, opm', xk', Y, rfl, hY, V, hk, hkv⟩ := J
 (revert hY V hkv; revert ts opm' xk' Y; with_reducible refine (no_implicit_lambda% (Drk4.all (by kpf_c) ((?_ : All4 _) _ _ _ _))); refine fun ts opm' xk' Y => Ap4.mk ?_; intros hY V hkv)
 have htl : (ns.take i).length ≤ 19 := by rw [List.length_take]; omega
 have hlen : (usOf U (ns.take i)).length ≤ 19 := Nat.le_trans (usOf_len _ _) htl
 have e1 : ns.take (i + 1) = ns.take i ++ [y] := by rw [List.take_add_one, hy]; rfl
 have eu : usOf U (ns.take (i + 1)) = seenU (usOf U (ns.take i)) (U y) := by rw [e1, usOf_snoc]
 have O6 : A.Ord ((dl, listOf (refsN ts) xk') :: (Z ++ (Y ++ (X₀ ++ R')))) := ⟨O.o, fun p hp => by
   rcases mc hp with rfl | hp
   · exact O.off (dl, od) (.head _)
   rcases ma hp with hp | hp
   · exact .inr (hZ p hp).1
   rcases ma hp with hp | hp
   · exact .inr (hY p hp).1
   rcases ma hp with hp | hp
   · exact .inr (hX₀ p hp).1
   exact O.off p (.tail _ hp)⟩
 have hdl6 : ∀ p ∈ Z ++ (Y ++ (X₀ ++ R')), p.1 ≠ dl := fun p hp => by
   rcases ma hp with hp | hp
   · exact (hZ p hp).2
   rcases ma hp with hp | hp
   · exact (hY p hp).2
   rcases ma hp with hp | hp
   · exact (hX₀ p hp).2
   exact hdl p hp
 have V6 : RootN w (usOf U (ns.take i)) ts opm' (Z ++ (Y ++ (X₀ ++ R'))) := V.at fun q hq => by
   rcases ma (V.tup q hq) with h | h
   · exact mr _ (ml _ h)
   exact mr _ (mr _ (mr _ h))
 have hin : ∀ S' o p, p ∈ wLed w A κ S' ((dl, o) :: (Z ++ (Y ++ (X₀ ++ R')))) → p ∈ Z ++ (Y ++ (X₀ ++ wLed w A κ S' ((dl, o) :: R'))) := fun S' o p hp => by
   have e : ∀ Q : Led, wLed w A κ S' Q = wLed w A κ S' [] ++ Q := fun Q => rfl
   rw [e] at hp
   rw [e ((dl, o) :: R')]
   simp only [List.mem_append, List.mem_cons] at hp ⊢
   rcases hp with h | h | h | h | h | h
   · exact .inr (.inr (.inr (.inl h)))
   · exact .inr (.inr (.inr (.inr (.inl h))))
   · exact .inl h
   · exact .inr (.inl h)
   · exact .inr (.inr (.inl h))
   exact .inr (.inr (.inr (.inr (.inr h))))
 have hout : ∀ S' o p, p ∈ Z ++ (Y ++ (X₀ ++ wLed w A κ S' ((dl, o) :: R'))) → p ∈ wLed w A κ S' ((dl, o) :: (Z ++ (Y ++ (X₀ ++ R')))) := fun S' o p hp => by
   have e : ∀ Q : Led, wLed w A κ S' Q = wLed w A κ S' [] ++ Q := fun Q => rfl
   rw [e]
   rw [e ((dl, o) :: R')] at hp
   simp only [List.mem_append, List.mem_cons] at hp ⊢
   rcases hp with h | h | h | h | h | h
   · exact .inr (.inr (.inl h))
   · exact .inr (.inr (.inr (.inl h)))
   · exact .inr (.inr (.inr (.inr (.inl h))))
   · exact .inl h
   · exact .inr (.inl h)
   exact .inr (.inr (.inr (.inr (.inr h))))
 refine ⟨_, hin { S with opm := opm' } _, (qname_rootC (S := { S with opm := opm' }) hd hu O6 H t V6 hlv hx hsm hdl6 hlen).mono fun v l' h => ?_⟩
 obtain ⟨Dr, k, ts', opm'', xk'', Y', t1, t2, t3, rfl, hkk, rfl, V', hts', hY', hlt⟩ := h
 (revert hkk V' hts' hY' hlt; revert Dr k ts' opm'' xk'' Y' t1 t2 t3; with_reducible refine Drk5.all (by kpf_c) ((?_ : All5 _) _ _ _ _ _); refine fun Dr k ts' opm'' xk'' => Ap5.mk ?_; with_reducible refine Drk4.all (by kpf_c) ((?_ : All4 _) _ _ _ _); refine fun Y' t1 t2 t3 => Ap4.mk ?_; intros hkk V' hts' hY' hlt)
 have hbig : ∀ q ∈ Z ++ (Y ++ (X₀ ++ wLed w A κ { S with opm := opm' } ((dl, listOf (refsN ts) xk') :: R'))), q.1 < Dr ∧ ∀ p ∈ Y', q.1 < p.1 := fun q hq => by
   have h1 := hout { S with opm := opm' } _ q hq
   have h2 := wLed_fst (S := { S with opm := opm' }) (o := listOf (refsN ts) xk') (o' := listOf #[] 0) (fun p hp => (hlt p hp).1) q h1
   refine ⟨h2, fun p hp => ?_⟩
   exact wLed_fst (S := { S with opm := opm' }) (o := listOf (refsN ts) xk') (o' := listOf #[] 0) (fun p' hp' => (hlt p' hp').2 p hp) q h1
 have hps : A.ps < Dr ∧ ∀ p ∈ Y', A.ps < p.1 := hbig (A.ps, listOf S.pv S.nv) (mr _ (mr _ (mr _ (.head _))))
 have hdd : dl < Dr ∧ ∀ p ∈ Y', dl < p.1 := hbig (dl, _) (mr _ (mr _ (mr _ (wLed_R (.head _)))))
 refine ⟨((Dr, trip (Str.empty ++ nName k ++ Str.ofString ":" ++ T y) (T y) (U y) t1 t2 t3) :: (Y' ++ Y)) ++ (X₀ ++ wLed w A κ { S with opm := opm'' } ((dl, listOf (refsN ts') xk'') :: R')), ?_, ?_, ?_, ?_⟩
 · rintro p hp
   rw [List.cons_append] at hp
   rcases mc hp with rfl | hp
   · exact .head _
   rw [List.append_assoc] at hp
   rcases ma hp with hp | hp
   · exact .tail _ (ml _ hp)
   exact .tail _ (mr _ (hout _ _ p (mr _ hp)))
 · rintro p hp
   exact .tail _ (mr _ (hout _ _ p (ml _ hp)))
 · refine ⟨ts', opm'', xk'', (Dr, trip (Str.empty ++ nName k ++ Str.ofString ":" ++ T y) (T y) (U y) t1 t2 t3) :: (Y' ++ Y), rfl, ?_, ?_, ?_, ?_⟩
   · rintro p hp
     rcases mc hp with rfl | hp
     · exact ⟨hps.1, Nat.ne_of_gt hdd.1⟩
     rcases ma hp with hp | hp
     · exact ⟨hps.2 p hp, Nat.ne_of_gt (hdd.2 p hp)⟩
     exact hY p hp
   · rw [eu]
     refine V'.at fun q hq => ?_
     (revert hq; revert q; tb_start; refine fun q => Ap.mk ?_; intros hq)
     rcases hts' q hq with h | h
     · rcases ma (V.tup q h) with h | h
       · exact ml _ (.tail _ (mr _ h))
       exact mr _ h
     exact ml _ (.tail _ (ml _ h))
   · rw [List.map_append, hk, e1]; rfl
   rintro p hp
   rw [eu]
   rcases ma hp with hp | hp
   · obtain ⟨D, k2, a1, a2, a3, h1, h2, h3⟩ := hkv p hp
     (revert p D k2 a1 a2 a3; tb_start; refine fun p => Ap.mk ?_; intros _ hp; with_reducible refine Drk5.all (by kpf_c) ((?_ : All5 _) _ _ _ _ _); refine fun D k2 a1 a2 a3 => Ap5.mk ?_; intros h1 h2 h3)
     exact ⟨D, k2, a1, a2, a3, h1, seenU_keeps h2, .tail _ (mr _ h3)⟩
   rw [ms hp]
   exact ⟨Dr, k, t1, t2, t3, rfl, hkk, .head _⟩
 rintro p hp
 rw [List.cons_append] at hp
 rcases mc hp with rfl | hp
 · exact .inr fun q hq => (hbig q hq).1
 rw [List.append_assoc] at hp
 rcases ma hp with hp | hp
 · exact .inr fun q hq => (hbig q hq).2 p hp
 left
 have e : (Y ++ (X₀ ++ wLed w A κ { S with opm := opm'' } ((dl, listOf (refsN ts') xk'') :: R'))).map (·.1) = (Y ++ (X₀ ++ wLed w A κ { S with opm := opm' } ((dl, listOf (refsN ts) xk') :: R'))).map (·.1) := by
   rw [List.map_append, List.map_append, List.map_append, List.map_append]; rfl
 rw [← e]
 exact List.mem_map_of_mem hp
theorem keysTo_nodup {as : List (Str × Value)} {qs : Str} (hnd : (as.map (·.1)).Nodup) (hq : ∀ p ∈ as, p.1 ≠ qs) : (keysTo as qs as.length).Nodup := by
 unfold keysTo
 rw [List.take_length, List.nodup_append]
 refine ⟨(List.reverse_perm _).nodup_iff.mpr hnd, by simp, fun a ha b hb e => ?_⟩
 obtain ⟨p, hp, rfl⟩ := List.mem_map.mp (List.mem_reverse.mp ha)
 exact hq p hp (e.trans (ms hb))
theorem led_tail {w : World} {A : WA} {κ : WT} {S : WL} {X₀ R1 R' Y own : Led} {q1 q2 : Addr × Obj} : ∀ p ∈ q1 :: q2 :: (X₀ ++ wLed w A κ S (R1 ++ (R' ++ (Y ++ own)))), p ∈ q1 :: q2 :: ((Y ++ (X₀ ++ wLed w A κ S (R1 ++ R'))) ++ own) := fun p hp => by
 have e : ∀ Q : Led, wLed w A κ S Q = wLed w A κ S [] ++ Q := fun Q => rfl
 rw [e] at hp
 rw [e (R1 ++ R')]
 simp only [List.mem_append, List.mem_cons] at hp ⊢
 rcases hp with h | h | h | h | h | h | h | h
 · exact .inl h
 · exact .inr (.inl h)
 · exact .inr (.inr (.inl (.inr (.inl h))))
 · exact .inr (.inr (.inl (.inr (.inr (.inl h)))))
 · exact .inr (.inr (.inl (.inr (.inr (.inr (.inl h))))))
 · exact .inr (.inr (.inl (.inr (.inr (.inr (.inr h))))))
 · exact .inr (.inr (.inl (.inl h)))
 exact .inr (.inr (.inr h))
theorem led_tail1 {w : World} {A : WA} {κ : WT} {S : WL} {X₀ R1 R' Y : Led} {q1 : Addr × Obj} : ∀ p ∈ q1 :: (X₀ ++ wLed w A κ S (R1 ++ (R' ++ Y))), p ∈ q1 :: (Y ++ (X₀ ++ wLed w A κ S (R1 ++ R'))) := fun p hp => by
 have e : ∀ Q : Led, wLed w A κ S Q = wLed w A κ S [] ++ Q := fun Q => rfl
 rw [e] at hp
 rw [e (R1 ++ R')]
 simp only [List.mem_append, List.mem_cons] at hp ⊢
 rcases hp with h | h | h | h | h | h
 · exact .inl h
 · exact .inr (.inr (.inl h))
 · exact .inr (.inr (.inr (.inl h)))
 · exact .inr (.inr (.inr (.inr (.inl h))))
 · exact .inr (.inr (.inr (.inr (.inr h))))
 exact .inr (.inl h)
theorem split_tail {l RR : Led} {P : Led → Prop} (h : P (l ++ RR)) : ∃ NW, NW = l ∧ P (NW ++ RR) := ⟨l, rfl, h⟩
theorem led_tail2 {NW RR Tl : Led} {q1 : Addr × Obj} : ∀ p ∈ q1 :: (NW ++ (RR ++ Tl)), p ∈ q1 :: (Tl ++ (NW ++ RR)) := fun p hp => by
 simp only [List.mem_append, List.mem_cons] at hp ⊢
 rcases hp with h | h | h | h
 · exact .inl h
 · exact .inr (.inr (.inl h))
 · exact .inr (.inr (.inr h))
 exact .inr (.inl h)
theorem split_head {h₀ h : Heap} {L a : Addr} {o : Obj} {l : Led} (N : News h₀ L h ((a, o) :: l)) : ∃ o', o' = o ∧ News h₀ L h ((a, o') :: l) := ⟨o, rfl, N⟩
theorem str_cancel {a b c : Str} (h : a ++ b = a ++ c) : b = c := by
 refine str_ext ?_
 have := congrArg (fun x : Str => x.cps.toList) h
 rw [list_append, list_append] at this
 exact List.append_cancel_left this
theorem foldl_seen_mem (U : Str → Str) : ∀ (ys us : List Str) (x : Str), x ∈ us ∨ (∃ y ∈ ys, U y = x) → x ∈ ys.foldl (fun us y => seenU us (U y)) us
 | [], us, x, h => by
   rcases h with h | ⟨y, hy, _⟩
   · exact h
   cases hy
 | y :: ys, us, x, h => by
   rw [List.foldl_cons]
   refine foldl_seen_mem U ys _ x ?_
   have hs : ∀ z, z ∈ us ∨ z = U y → z ∈ seenU us (U y) := fun z hz => by
     unfold seenU
     split
     · rcases hz with hz | hz
       · exact hz
       rw [hz]; assumption
     rcases hz with hz | hz
     · exact ml _ hz
     rw [hz]; exact mr _ (.head _)
   rcases h with h | ⟨z, hz, e⟩
   · exact .inl (hs x (.inl h))
   rcases mc hz with rfl | hz
   · exact .inl (hs x (.inr e.symm))
   exact .inr ⟨z, hz, e⟩
theorem mem_usOf {U : Str → Str} {ys : List Str} {y : Str} (h : y ∈ ys) : U y ∈ usOf U ys := foldl_seen_mem U ys [] _ (.inr ⟨y, h, rfl⟩)
theorem two_of {α : Type} {l : List α} {a b : α} (ha : a ∈ l) (hb : b ∈ l) (h : a ≠ b) : 2 ≤ l.length := by
 match l, ha, hb with
 | [], ha, _ => cases ha
 | [x], ha, hb => exact absurd ((ms ha).trans (ms hb).symm) h
 | _ :: _ :: _, _, _ => simp
theorem RootN.nodupX {w : World} {us : List Str} {ts : List NT} {opm : Obj} {l : Led} (V : RootN w us ts opm l) : (ts.map fun q => Str.ofString "xmlns:" ++ q.p).Nodup := by
 have hl := V.len
 have hz := V.size
 rw [List.Nodup, List.pairwise_iff_getElem]
 rintro i j hi hj hij e
 rw [lM] at hi hj
 rw [List.getElem_map, List.getElem_map] at e
 have e2 := str_cancel e
 rw [V.p i _ (List.getElem?_eq_getElem hi), V.p j _ (List.getElem?_eq_getElem hj)] at e2
 exact Nat.ne_of_lt hij (nName_inj (by omega) (by omega) e2)
theorem idx_of {us : List Str} (hn : us.Nodup) {k : Nat} {u : Str} (h : us[k]? = some u) : us.idxOf u = k := by
 obtain ⟨hk, e⟩ := List.getElem?_eq_some_iff.mp h
 have hm : u ∈ us := List.mem_of_getElem? h
 have h1 : us[us.idxOf u]? = some u := by
   rw [List.getElem?_eq_getElem (List.idxOf_lt_length_iff.mpr hm), List.getElem_idxOf]
 exact (List.getElem?_inj (List.idxOf_lt_length_iff.mpr hm) hn).mp (h1.trans h.symm)
theorem valueAt_mem {ys : List (Str × Value)} (hn : (ys.map (·.1)).Nodup) {k : Str} {v : Value} (h : (k, v) ∈ ys) : valueAt ys k = some v := by
 induction ys with
 | nil => cases h
 | cons y r ih =>
   rw [List.map_cons, List.nodup_cons] at hn
   rcases mc h with rfl | h
   · simp [valueAt]
   have hne : y.1 ≠ k := fun e => hn.1 (by rw [e]; exact List.mem_map_of_mem h)
   have := ih hn.2 h
   simp [valueAt, hne] at this ⊢
   exact this
theorem fold_tail {h₀ h : Heap} {L : Addr} {pre l NW RT : Led} (e : NW = l) (N : News h₀ L h (pre ++ (l ++ RT))) : News h₀ L h (pre ++ (NW ++ RT)) := by rw [e]; exact N
section
open PySem.Calls
variable {prog : Program} {w : World} {A : Around} {E : Value → Shared → Prop} {s : Shared} {h₀ : Heap} {L : Addr} {m : Str → Option Value} {news : List (Addr × Obj)}
abbrev PairA := Addr × Str × Str
def refsP (as : List PairA) : List Value := as.map fun q => Value.ref q.1
theorem sort_pairs {D : Addr} {as : List PairA} {n : Nat} {g : Obj → List (Addr × Obj)} {Q : Value → Shared → Prop} (F : Fr h₀ L s.heap m) (N : News h₀ L s.heap news) (U : UpdF D (PySem.W.listOf (refsP as).toArray n) news g) (h2 : 2 ≤ as.length) (h64 : as.length < 64)
   (hnd : (as.map (·.2.1)).Nodup) (hm : ∀ q ∈ as, ∀ e, ∃ o t1 t2 n, (q.1, o) ∈ g (seqObj "list" #[] e) ∧ o.cls = .type "tuple" ∧ o.data = .seq #[.str q.2.1 t1, .str q.2.2 t2] n)
   (h : ∀ c h' as', as'.Perm as → as'.Pairwise (fun a b => lt2 a.2.1 a.2.2 b.2.1 b.2.2 = true) → Fr h₀ L h' m → News h₀ L h' (g (PySem.W.listOf (refsP as').toArray c)) → Q .none { s with heap := h' }) :
   wpAny (model prog w) A (call (.builtin "list.sort") [.ref D]) Q E s := by
 have hl : (refsP as).length = as.length := by unfold refsP; rw [lM]
 have hgz : ∀ i, i < as.length → as[i]? = some (as.getD i (0, Str.empty, Str.empty)) := fun i hi => by simp [hi]
 have hr : refsP as = (as.map (·.1)).map Value.ref := by unfold refsP; rw [List.map_map]; rfl
 have S : SLt (fun i j => lt2 (as.getD i (0, Str.empty, Str.empty)).2.1 (as.getD i (0, Str.empty, Str.empty)).2.2 (as.getD j (0, Str.empty, Str.empty)).2.1 (as.getD j (0, Str.empty, Str.empty)).2.2) (refsP as).length := by
   refine slt_lt2 (X := fun i => (as.getD i (0, Str.empty, Str.empty)).2.1) (Y := fun i => (as.getD i (0, Str.empty, Str.empty)).2.2) fun i j hi hj hij hx => ?_
   rw [hl] at hi hj
   have e1 : (as.map (·.2.1))[i]? = (as.map (·.2.1))[j]? := by rw [List.getElem?_map, List.getElem?_map, hgz i hi, hgz j hj]; exact congrArg some hx
   exact absurd ((List.getElem?_inj (by rw [lM]; exact hi) hnd).mp e1) hij
 have hask : ∀ e, AskBy prog w h₀ L (g (seqObj "list" #[] e)) (A.units + 1) (tuples' true) (refsP as) (fun i j => lt2 (as.getD i (0, Str.empty, Str.empty)).2.1 (as.getD i (0, Str.empty, Str.empty)).2.2 (as.getD j (0, Str.empty, Str.empty)).2.1 (as.getD j (0, Str.empty, Str.empty)).2.2) := fun e => by
   rw [hr]
   refine ask_tup2 (X := fun i => (as.getD i (0, Str.empty, Str.empty)).2.1) (Y := fun i => (as.getD i (0, Str.empty, Str.empty)).2.2) fun i hi => ?_
   rw [lM] at hi
   obtain ⟨o, t1, t2, n, hmm, _, hd⟩ := hm _ (List.mem_of_getElem? (hgz i hi)) e
   refine ⟨o, t1, t2, n, ?_, hd⟩
   have : (as.map (·.1))[i]'(by rw [lM]; exact hi) = (as.getD i (0, Str.empty, Str.empty)).1 := by
     rw [List.getElem_map]; congr 1; simp [hi]
   rw [this]; exact hmm
 refine lsort_by (κ := tuples' true) (vs := refsP as) (u := A.units + 1) F N U (by simp) (by rw [hl]; exact h2) (by rw [hl]; exact h64) (fun A' s' e Q' N' hq => ?_) hask (Nat.le_refl _) S fun c h' p hp hpw F' N' => ?_
 · rw [hr]
   refine kind_tups (T := .type "str") (by decide) (by decide) (fun a => ((s'.heap.get? a).bind fun o => match o.data with | .seq xs _ => xs[0]? | _ => none).getD .none) _ (by rintro h0; have := congrArg List.length h0; rw [lM, List.length_nil] at this; omega) (fun a ha => ?_) hq
   obtain ⟨q, hq', rfl⟩ := List.mem_map.mp ha
   obtain ⟨o, t1, t2, n, hmm, hc, hd⟩ := hm q hq' e
   refine ⟨o, _, n, (N' _ hmm).1, hc, hd, ?_, ?_⟩
   · rw [(N' _ hmm).1]; show _ = some (((match o.data with | .seq xs _ => xs[0]? | _ => none : Option Value)).getD .none); rw [hd]; rfl
   rw [(N' _ hmm).1]; show typeOf (((match o.data with | .seq xs _ => xs[0]? | _ => none : Option Value)).getD .none) = _; rw [hd]; rfl
 rw [hl] at hp
 have hout : sortOut (refsP as) p = (refsP (p.map fun i => as.getD i (0, Str.empty, Str.empty))).toArray := by
   unfold sortOut refsP
   rw [List.map_map]
   congr 1
   refine List.map_congr_left fun i hi => ?_
   have hi' : i < as.length := List.mem_range.mp (hp.mem_iff.mp hi)
   rw [List.getD_eq_getElem?_getD, List.getElem?_map, hgz i hi']; rfl
 rw [hout] at N'
 refine h c h' _ ?_ ?_ F' N'
 · refine (hp.map _).trans (List.Perm.of_eq ?_)
   refine List.ext_getElem (by simp) fun i h1 h2 => ?_
   simp only [List.getElem_map, List.getElem_range, List.getD_eq_getElem?_getD]
   rw [List.getElem?_eq_getElem h2]; rfl
 rw [List.pairwise_map]; exact hpw
theorem sorted_items {v d : Addr} {od : Obj} {kvs : List (Str × Value)} {vf : Str → Str} {Q : Value → Shared → Prop} (hh : A.handled = none) (F : Fr h₀ L s.heap m) (N : News h₀ L s.heap news) (hvw : (v, { cls := .type "dict_items", data := .fields #[.ref d] }) ∈ news) (hmd : (d, od) ∈ news)
   (hod : od.IsDictOf (strKind prog w) kvs) (hn2 : 2 ≤ kvs.length) (hn : kvs.length < 64) (hnd : (kvs.map (·.1)).Nodup) (hval : ∀ p ∈ kvs, ∃ t, p.2 = .str (vf p.1) t)
   (h : ∀ (B c : Nat) h' tk (as : List PairA) (tups : Led), (as.map (·.2.1)).Perm (kvs.map (·.1)) → as.Pairwise (fun a b => lt2 a.2.1 a.2.2 b.2.1 b.2.2 = true) → (∀ q ∈ as, q.2.2 = vf q.2.1) → (∀ q ∈ as, ∃ t1 t2, (q.1, ({ cls := .type "tuple", data := .seq #[.str q.2.1 t1, .str q.2.2 t2] } : Obj)) ∈ tups) →
     Fr h₀ L h' m → News h₀ L h' ((B, PySem.W.listOf (refsP as).toArray c) :: (tups ++ news)) → (∀ q ∈ tups ++ news, q.1 < B) → (∀ p ∈ tups, ∀ q ∈ news, q.1 < p.1) → Q (.ref B) { s with heap := h', toks := tk }) :
   wpAny (model prog w) A (call (.builtin "sorted") [.ref v]) Q E s := by
 obtain ⟨ep, hat⟩ := KdkAt.of hod
 refine call_function_entry kind_sorted plain_sorted entry_sorted (args_sorted1 _) ?_
 unfold Builtin.«sorted»
 refine wpAny_bind (m := checkCount "sorted" 1 1 _) (wpAny_pure ?_)
 refine wpAny_bind (kdx_collect (A := A.in1) (knd := strKind prog w) (kvs := kvs) (ep := ep) hh ⟨_, (N _ hvw).1, rfl, rfl⟩ (hat.dictAt (N _ hmd).1) (by rw [sizeLine_eq]; omega) fun h' tk as hk hl hG => ?_)
 have hgz : ∀ i, i < kvs.length → ∃ t1 t2, h'.get? (as.getD i 0) = some ({ cls := .type "tuple", data := .seq #[.str (kvs.getD i (Str.empty, .none)).1 t1, .str (vf (kvs.getD i (Str.empty, .none)).1) t2] } : Obj) := fun i hi => by
   have hai : as[i]? = some (as.getD i 0) := by simp [hl, hi]
   obtain ⟨key, k, x, h1, h2, h3⟩ := hG.pairs i _ hai
   obtain ⟨t, e⟩ := hval _ (List.mem_of_getElem? h1)
   have e2 : kvs.getD i (Str.empty, .none) = (k, x) := by rw [List.getD_eq_getElem?_getD, h1]; rfl
   have hks : ∃ tk', key = .str k tk' := Value.isStrOf_shape h2
   obtain ⟨tk', rfl⟩ := hks
   dsimp only at e
   subst e
   rw [e2]
   exact ⟨tk', t, h3⟩
 refine wpAny_bind (wpAny_newList ?_ (by rw [lM, hl, sizeLine_eq]; omega))
 let pas : List PairA := (List.range kvs.length).map fun i => (as.getD i 0, (kvs.getD i (Str.empty, .none)).1, vf (kvs.getD i (Str.empty, .none)).1)
 have hpl : pas.length = kvs.length := by show ((List.range kvs.length).map _).length = _; rw [lM, List.length_range]
 let tups : Led := pas.map fun q => (q.1, (h'.get? q.1).getD (tabObj #[]))
 have htup : ∀ q ∈ pas, ∃ t1 t2, (q.1, ({ cls := .type "tuple", data := .seq #[.str q.2.1 t1, .str q.2.2 t2] } : Obj)) ∈ tups := fun q hq => by
   obtain ⟨i, hi, rfl⟩ := List.mem_map.mp hq
   obtain ⟨t1, t2, e⟩ := hgz i (List.mem_range.mp hi)
   refine ⟨t1, t2, List.mem_map.mpr ⟨_, hq, ?_⟩⟩
   show (_, (h'.get? (as.getD i 0)).getD _) = _
   rw [e]; rfl
 have hab : ∀ q ∈ pas, s.heap.objs.size < q.1 := fun q hq => by
   obtain ⟨i, hi, rfl⟩ := List.mem_map.mp hq
   have hi' := List.mem_range.mp hi
   exact hG.above _ (List.mem_of_getElem? (show as[i]? = some (as.getD i 0) by simp [hl, hi']))
 have F1 : Fr h₀ L h' m := F.keeps hk
 have N1 : News h₀ L h' (tups ++ news) := fun q hq => by
   rcases ma hq with hq | hq
   · obtain ⟨p, hp, rfl⟩ := List.mem_map.mp hq
     obtain ⟨i, hi, rfl⟩ := List.mem_map.mp hp
     obtain ⟨t1, t2, e⟩ := hgz i (List.mem_range.mp hi)
     refine ⟨?_, kdx_fresh F (Nat.le_of_lt (hab _ hp))⟩
     show h'.get? (as.getD i 0) = some ((h'.get? (as.getD i 0)).getD _)
     rw [e]; rfl
   exact ⟨hk _ _ (N q hq).1, (N q hq).2⟩
 have hrefs : (as.map Value.ref) = refsP pas := by
   show _ = ((List.range kvs.length).map _).map _
   rw [List.map_map]
   refine List.ext_getElem (by simp [hl]) fun i h1 h2 => ?_
   simp only [List.getElem_map, List.getElem_range, Function.comp]
   simp at h1
   simp [h1]
 rw [hrefs]
 have hlt : ∀ p ∈ tups, ∀ q ∈ news, q.1 < p.1 := fun p hp q hq => by
   obtain ⟨p', hp', rfl⟩ := List.mem_map.mp hp
   exact Nat.lt_trans (Heap.lt_size (N q hq).1) (hab p' hp')
 have hB : ∀ q ∈ tups ++ news, q.1 < h'.objs.size := fun q hq => Heap.lt_size (N1 q hq).1
 have F2 := F1.push (PySem.W.listOf (refsP pas).toArray 0)
 have N2 : News h₀ L (h'.push (PySem.W.listOf (refsP pas).toArray 0)) ((h'.objs.size, PySem.W.listOf (refsP pas).toArray 0) :: (tups ++ news)) := News.push F1 N1 _ rfl
 refine wpAny_bind (wpAny_holding ?_)
 refine sort_pairs (as := pas) F2 N2 (UpdF.head fun p hp => Nat.ne_of_lt (hB p hp)) (by rw [hpl]; exact hn2) (by rw [hpl]; exact hn) ?_ (fun q hq e => ?_) fun c h3 as' hp hpw F3 N3 => ?_
 · have e : pas.map (·.2.1) = kvs.map (·.1) := by
     show ((List.range kvs.length).map _).map _ = _
     rw [List.map_map]
     refine List.ext_getElem (by simp) fun i h1 h2 => ?_
     simp only [List.getElem_map, List.getElem_range, Function.comp]
     simp at h1
     simp [h1]
   rw [e]; exact hnd
 · obtain ⟨t1, t2, hm⟩ := htup q hq
   exact ⟨_, t1, t2, 0, .tail _ (ml _ hm), rfl, rfl⟩
 refine wpAny_pure ⟨_, rfl, ?_⟩
 have e : pas.map (·.2.1) = kvs.map (·.1) := by
   show ((List.range kvs.length).map _).map _ = _
   rw [List.map_map]
   refine List.ext_getElem (by simp) fun i h1 h2 => ?_
   simp only [List.getElem_map, List.getElem_range, Function.comp]
   simp at h1
   simp [h1]
 refine h h'.objs.size c h3 tk as' tups (by rw [← e]; exact hp.map _) hpw (fun q hq => ?_) (fun q hq => htup q (hp.mem_iff.mp hq)) F3 N3 hB hlt
 obtain ⟨i, hi, rfl⟩ := List.mem_map.mp (hp.mem_iff.mp hq)
 rfl
end
section
open PySem.Calls
variable {prog : Program} {w : World} {A : Around} {E : Value → Shared → Prop} {s : Shared} {h₀ : Heap} {L : Addr} {m : Str → Option Value} {env : Env} {news : Led} {target : Expr}
theorem for_invE {σ : Type} {iter : Expr} {body : List Stmt} {pos : Pos} {Q : Flow → Shared → Prop} (F : Fr h₀ env.locals s.heap m)
   (h : wpAny (model prog w) A (eval iter env) (fun xv s₁ => wpAny (model prog w) A (pyIter xv) (fun it s₂ => ∃ (ps : σ → List (Str × Value)) (Led' : σ → Led) (Ok : Nat → σ → Prop), ForSrc prog w A h₀ env target body Q ps Led' Ok it s₂) (fun _ _ => False) s₁) (fun _ _ => False) s)
   (hs : ∀ x, foldedSetIterable iter env x = pure x) :
   wpAny (model prog w) A (exec (.For target iter body [] pos) env) Q (fun _ _ => False) s :=
 for_invG F (wpAny_mono h (fun _ _ h₁ => wpAny_mono h₁ (fun _ _ h₂ => by obtain ⟨ps, Led', Ok, h₂⟩ := h₂; exact ⟨_, ps, Led', Ok, h₂.toG⟩) fun _ _ e => e) fun _ _ e => e) hs
theorem dict_get1 {K : Type} [DecidableEq K] {knd : KeyKind prog w K} {d : Addr} {o : Obj} {kvs : List (K × Value)} {k : K} {key : Value} {Q : Value → Shared → Prop} (N : News h₀ L s.heap news) (hp : (d, o) ∈ news) (hd : o.IsDictOf knd kvs) (lo : (d == sysModules) = false) (hkey : knd.is k key = true)
   (h : Q ((valueAt kvs k).getD .none) { s with toks := s.toks + 1 }) : wpAny (model prog w) A (call (.builtin "dict.get") [.ref d, key]) Q E s :=
 have hD := kda_dict N hp hd
 call_meetsIn PySem.F.slot_dict_get hD.typeIs PySem.F.entry_dict_get (PySem.F.args_dict_get_2 _ _) (meets_dict_get knd d hkey lo) ⟨_, hD.mapOf, h⟩
theorem valueAt_none {ys : List (Str × Value)} {k : Str} (h : ∀ p ∈ ys, p.1 ≠ k) : valueAt ys k = none := by
 induction ys with
 | nil => rfl
 | cons y r ih =>
   have h1 := h y (.head _)
   have h2 := ih fun p hp => h p (.tail _ hp)
   simp [valueAt, h1] at h2 ⊢
   exact h2
end
structure RName (U T : Str → Str) (y : Str) : Prop where
 q : QN y (U y) (T y)
 xml : U y ≠ xmlUri
 ul : 1 ≤ (U y).length ∧ (U y).length ≤ 14
 tl : (T y).length ≤ 100
 sp : ∃ a b, Txt.splitMax y (Str.ofString "}") 1 = [a, b]
 esc : escAttr (U y) = U y
def spaceKey : Str := Str.ofString "{http://www.w3.org/XML/1998/namespace}space"
theorem split_all {l : Led} {P : Led → Prop} (h : P l) : ∃ NL, NL = l ∧ P NL := ⟨l, rfl, h⟩
theorem refP_of {as : List PairA} {i : Nat} {v : Value} (h : ((refsP as).toArray)[i]? = some v) : ∃ q, as[i]? = some q ∧ v = .ref q.1 := by
 unfold refsP at h
 rw [List.getElem?_toArray, List.getElem?_map] at h
 cases e : as[i]? with
 | none => rw [e] at h; cases h
 | some q => rw [e] at h; exact ⟨q, rfl, (Option.some.inj h).symm⟩
theorem foldl_seen_of (U : Str → Str) : ∀ (ys us : List Str) (x : Str), x ∈ ys.foldl (fun us y => seenU us (U y)) us → x ∈ us ∨ ∃ y ∈ ys, U y = x
 | [], us, x, h => .inl h
 | y :: ys, us, x, h => by
   rw [List.foldl_cons] at h
   rcases foldl_seen_of U ys _ x h with h | ⟨z, hz, e⟩
   · unfold seenU at h
     split at h
     · exact .inl h
     rcases ma h with h | h
     · exact .inl h
     exact .inr ⟨y, .head _, (ms h).symm⟩
   exact .inr ⟨z, .tail _ hz, e⟩
theorem usOf_mem {U : Str → Str} {ys : List Str} {x : Str} (h : x ∈ usOf U ys) : ∃ y ∈ ys, U y = x := by
 rcases foldl_seen_of U ys [] x h with h | h
 · cases h
 exact h
def RootPost (w : World) (A : WA) (κ : WT) (S : WL) (at' : Addr) (oa : Obj) (dl : Addr) (R' : Led) (qs : Str) (as : List (Str × Value)) (Uf Tf vf : Str → Str) (k : Nat) (v : Value) (l : Led) : Prop :=
 v = .none ∧ ∃ (ys : List Str) (ts : List NT) (opm' : Obj) (xk' : Nat) (c' : Addr) (oc : Obj) (fv : Array Value) (tq : Tok) (b1 : List (Str × Str)) (ms : List Str) (tw1 tw2 tw3 : Tok) (n2 : Value) (RT : Led),
   ys.Perm (keysTo as qs as.length) ∧ ys.Pairwise (fun y y' => lt2 (spl0 y) (spl1 y) (spl0 y') (spl1 y') = true) ∧ b1.Perm (ts.map fun q => (Str.ofString "xmlns:" ++ q.p, q.u)) ∧ b1.Pairwise (fun a b => lt2 a.1 a.2 b.1 b.2 = true) ∧
   ms.Perm (as.map (·.1)) ∧ ms.Pairwise (fun a b => lt2 a (vf a) b (vf b) = true) ∧ oc.data = .fields fv ∧ fv[1]? = some (.str (Str.ofString "C14NWriterTarget._start.<locals>.<lambda>") tq) ∧
   RootN w (usOf Uf ys) ts opm' ((dl, listOf (refsN ts) xk') :: (at', oa) :: (123, lamTab c') :: RT) ∧ A.Ord ((dl, listOf (refsN ts) xk') :: (at', oa) :: (123, lamTab c') :: RT) ∧ (c', oc) ∈ RT ∧ (∀ p ∈ R', p ∈ RT) ∧
   l = wLed w A { κ with seen := true } { S with pcs := ((S.pcs.push (.str (Str.ofString "<" ++ (Str.empty ++ nName ((usOf Uf ys).idxOf (Uf qs)) ++ Str.ofString ":" ++ Tf qs)) tw1)).push (.str (Txt.join (Str.ofString "") ((b1 ++ ms.map fun y => (Str.empty ++ nName ((usOf Uf ys).idxOf (Uf y)) ++ Str.ofString ":" ++ Tf y, vf y)).map rowS)) tw2)).push (.str (Str.ofString ">") tw3), np := S.np + 1 + 1 + 1, opm := opm', nss := S.nss.push n2, nn := S.nn + 1, pv := pvs (k + 1), nv := S.nv + 1 }
     ((dl, listOf (refsN ts) xk') :: (at', oa) :: (123, lamTab c') :: RT)
theorem root_fin {w : World} {pc qa dx x da t0 d0 dns ns pm ps dl at' c' : Nat} {κκ : Nat → Tok} {κz : Tok} {κu κv : Tok} {κdone κseen : Bool} {pcs lv nss : Array Value} {dat : Array Value} {np nd nl nn nv k xk' : Nat} {opm opm' oa : Obj} {ts : List NT} {R' RT : Led} {Uf Tf vf : Str → Str} {qs : Str} {zs : List (Str × Tok)} {as1 as2 : List PairA} {tw1 tw3 tw2 : Tok} {n2 : Value} {as : List (Str × Value)} {oc : Obj} {fv : Array Value} {tq : Tok}
 (h1 : (zs.map (·.1)).Perm (keysTo as qs as.length)) (h2 : (zs.map (·.1)).Pairwise (fun y y' => lt2 (spl0 y) (spl1 y) (spl0 y') (spl1 y') = true))
 (pB1 : (as1.map (·.2)).Perm (ts.map fun q => (Str.ofString "xmlns:" ++ q.p, q.u))) (pB2 : (as1.map (·.2)).Pairwise (fun a b => lt2 a.1 a.2 b.1 b.2 = true)) (hp2 : (as2.map (·.2.1)).Perm (as.map (·.1))) (pB3 : (as2.map (·.2.1)).Pairwise (fun a b => lt2 a (vf a) b (vf b) = true))
 (hoc : oc.data = .fields fv) (hfv : fv[1]? = some (.str (Str.ofString "C14NWriterTarget._start.<locals>.<lambda>") tq))
 (pV : RootN w (usOf Uf (zs.map (·.1))) ts opm' ((dl, listOf (refsN ts) xk') :: (at', oa) :: (123, lamTab c') :: RT)) (pO : WA.Ord ⟨pc, qa, dx, x, da, t0, d0, dns, ns, pm, ps⟩ ((dl, listOf (refsN ts) xk') :: (at', oa) :: (123, lamTab c') :: RT)) (hR3c : (c', oc) ∈ RT) (pR : ∀ p ∈ R', p ∈ RT) :
 RootPost w ⟨pc, qa, dx, x, da, t0, d0, dns, ns, pm, ps⟩ ⟨κκ, κz, κu, κv, κseen, κdone⟩ ⟨pcs, np, dat, nd, lv, nl, nss, nn, pvs k, nv, opm⟩ at' oa dl R' qs as Uf Tf vf k .none (wLed w ⟨pc, qa, dx, x, da, t0, d0, dns, ns, pm, ps⟩ ⟨κκ, κz, κu, κv, true, κdone⟩ ⟨((pcs.push (.str (Str.ofString "<" ++ (Str.empty ++ nName ((usOf Uf (zs.map (·.1))).idxOf (Uf qs)) ++ Str.ofString ":" ++ Tf qs)) tw1)).push (.str (Txt.join (Str.ofString "") (((as1.map (·.2)) ++ ((as2.map (·.2.1)).map fun y => (Str.empty ++ nName ((usOf Uf (zs.map (·.1))).idxOf (Uf y)) ++ Str.ofString ":" ++ Tf y, vf y))).map rowS)) tw2)).push (.str (Str.ofString ">") tw3), np + 1 + 1 + 1, dat, nd, lv, nl, nss.push n2, nn + 1, pvs (k + 1), nv + 1, opm'⟩ ((dl, listOf (refsN ts) xk') :: (at', oa) :: (123, lamTab c') :: RT)) := by
 unfold RootPost
 refine ⟨rfl, zs.map (·.1), ts, opm', xk', c', oc, fv, tq, as1.map (·.2), as2.map (·.2.1), tw1, tw2, tw3, n2, RT, h1, h2, pB1, pB2, hp2, pB3, hoc, hfv, pV, pO, hR3c, pR, ?_⟩
 rfl
theorem start_root {w : World} {d u : Nat} {A : WA} {κ : WT} {S : WL} {R' : Led} (hdd : 20 ≤ d) (hu : 60 ≤ u) {at' dl : Addr} {oa : Obj} {xk : Nat} (O : A.Ord ((dl, listOf #[] xk) :: (at', oa) :: (123, tabObj #[]) :: R')) {qs : Str} (t : Tok) {Uf Tf vf : Str → Str} {as : List (Str × Value)}
   (hoa : oa.IsDictOf (strKind rw_pg0305_01.row.prog w) as) (has : (at' == sysModules) = false) (has2 : 2 ≤ as.length) (hn : as.length ≤ 12) (hval : ∀ p ∈ as, ∃ t, p.2 = .str (vf p.1) t) (hvl : ∀ p ∈ as, (vf p.1).length ≤ 3 ∧ (escAttr (vf p.1)).length ≤ 1000) (hq : ∀ p ∈ as, p.1 ≠ qs) (hnd : (as.map (·.1)).Nodup) (hU2 : ∃ p ∈ as, ∃ q ∈ as, Uf p.1 ≠ Uf q.1)
   (H : ∀ y ∈ keysTo as qs as.length, RName Uf Tf y) (hsi : ∀ y y', y ∈ keysTo as qs as.length → y' ∈ keysTo as qs as.length → y ≠ y' → spl0 y = spl0 y' → spl1 y ≠ spl1 y') (hsp : ∀ p ∈ as, p.1 ≠ spaceKey)
   (hlv : S.lv = #[.ref A.d0, .ref dl]) (hopm : S.opm.IsDictOf (strKind rw_pg0305_01.row.prog w) []) (hsm : (A.pm == sysModules) = false) {k : Nat} (hpv : S.pv = pvs k) (hk : k ≤ 100) (hpn : S.pcs.size ≤ 1000) (hnn : S.nss.size ≤ 1000) (hne1 : dl ≠ at') (hne2 : dl ≠ 123) (hne3 : at' ≠ 123) (hne4 : ∀ p ∈ R', p.1 ≠ dl) (hne5 : ∀ p ∈ R', p.1 ≠ at') (hne6 : ∀ p ∈ R', p.1 ≠ 123) :
   CtrD0 w 126 d u (wLed w A κ S ((dl, listOf #[] xk) :: (at', oa) :: (123, tabObj #[]) :: R')) [.ref A.x, .str qs t, .ref at', .ref dl] (RootPost w A κ S at' oa dl R' qs as Uf Tf vf k) := by
 w_top off
 obtain ⟨pcs, np, dat, nd, lv, nl, nss, nn, pv, nv, opm⟩ := S
 obtain ⟨κκ, κz, κu, κv, κseen, κdone⟩ := κ
 have h1000 : 2000 ≤ sizeLine := by decide
 dsimp only at hpv hpn hnn hlv hopm hsm
 have odl : @LT.lt Nat _ dl A.pc ∨ @LT.lt Nat _ A.ps dl := O.off (dl, _) (.head _)
 have oat : @LT.lt Nat _ at' A.pc ∨ @LT.lt Nat _ A.ps at' := O.off (at', _) (.tail _ (.head _))
 have otb : @LT.lt Nat _ 123 A.pc ∨ @LT.lt Nat _ A.ps 123 := O.off (123, _) (.tail _ (.tail _ (.head _)))
 (revert hdd hu O hoa has has2 hn hval hvl hq hnd hU2 H hsi hsp hsm hk hne1 hne2 hne3 hne4 hne5 hne6 hlv hopm hpv hpn hnn odl oat otb; revert w d u A R' at' dl oa xk qs t Uf Tf vf as k pcs np dat nd lv nl nss nn pv nv opm κκ κz κu κv κseen κdone; with_reducible refine (no_implicit_lambda% (Drk7.all (by kpf_c) ((?_ : All7 _) _ _ _ _ _ _ _))); refine fun w d u A R' at' dl => Ap7.mk ?_; with_reducible refine (no_implicit_lambda% (Drk7.all (by kpf_c) ((?_ : All7 _) _ _ _ _ _ _ _))); refine fun oa xk qs t Uf Tf vf => Ap7.mk ?_; with_reducible refine (no_implicit_lambda% (Drk7.all (by kpf_c) ((?_ : All7 _) _ _ _ _ _ _ _))); refine fun as k pcs np dat nd lv => Ap7.mk ?_; with_reducible refine (no_implicit_lambda% (Drk7.all (by kpf_c) ((?_ : All7 _) _ _ _ _ _ _ _))); refine fun nl nss nn pv nv opm κκ => Ap7.mk ?_; with_reducible refine (no_implicit_lambda% (Drk5.all (by kpf_c) ((?_ : All5 _) _ _ _ _ _))); refine fun κz κu κv κseen κdone => Ap5.mk ?_; intros hdd hu O hoa has has2 hn hval hvl hq hnd hU2 H hsi hsp hsm hk hne1 hne2 hne3 hne4 hne5 hne6 hlv hopm hpv hpn hnn odl oat otb)
 (refine CtrD0.open ?_; generalize CtrD0.cs _ _ _ _ _ _ _ = bCS; unfold CtrD0.At; generalize bCS.p = p, bCS.loose = loose, bCS.mean = mean, bCS.mg = mg, bCS.mb = mb, bCS.dp = dp, bCS.un = un, bCS.gd = gd, bCS.cn = cn, bCS.cs = cs, bCS.a = a, bCS.ccd = ccd, bCS.cl = cl, bCS.outer = outer, bCS.A₀ = A₀, bCS.base = base, bCS.h₀ = h₀, bCS.L = L, bCS.m = m, bCS.s = s, bCS.Q = Q, bCS.E = E; clear bCS; intros St hret; obtain ⟨B, F, X, N, T, hk, hdp, hup⟩ := St; revert X; k_fill; intro X; refine wpAny_call ?_)
 (k_dflt (refine' code_defC ?k1 ?k2 ?k3 ?k4 ?k5 ?kA ?kF ?kK ?k6 ?k7 ?k8 ?k9 ?kB ?kD ?_ ?c2 ?c3 ?c4; (case kA => exact rfl); (case kF => exact rfl); (case kK => assumption); (case k1 => k_asm); (case k2 => k_asm); (case k3 => k_asm); (case k4 => k_asm); (case k5 => k_asm); (case k6 => k_is); (case k7 => k_is); (case k8 => first | allgen_close_more | (simp only [depth_in1, depth_deeper] at *; omega)); (case k9 => first | exact BindsTo.of_eq rfl | exact binds_K (by k_in) rfl (by k_is) rfl rfl rfl); (case kB => exact rfl); (case kD => decide +kernel); (case c2 => exact rfl); (case c3 => exact rfl); (case c4 => exact rfl); k_whole; intro g' L' h' tk' cells' FG' F' N' Y' B' X' T' l1); have l1q := l1; (try k_lt l1); (have hY := CellsAre.two Y'; obtain ⟨oP, oS, hE', hcP, hcS⟩ := hY; subst hE'; clear Y'); (try simp only [List.cons_append, List.nil_append] at N'); (try dsimp only); (refine wp_noE ?_); (refine wp_toks ?_); intro tk0; (try dsimp only); (try k_fold))
 replace F' : Fr g' L' h' (fun y => if y = Str.ofString "qname_text" then some .none else if y = Str.ofString "new_namespaces" then some (.ref dl) else if y = Str.ofString "attrs" then some (.ref at') else if y = Str.ofString "tag" then some (.str qs t) else none) := fr_eq F' (by kernel_rfl)
 have hRl : ∀ p ∈ R', @LT.lt Nat _ p.1 L' := fun p hp => l1q p (by repeat (first | exact hp | refine List.mem_cons_of_mem _ ?_))
 have hRl1 : ∀ p ∈ R', p.1 ≠ (L' + 1 : Nat) := fun p hp => Nat.ne_of_lt (Nat.lt_succ_of_lt (hRl p hp))
 have hRl2 : ∀ p ∈ R', p.1 ≠ (L' + 1 + 1 : Nat) := fun p hp => Nat.ne_of_lt (Nat.lt_succ_of_lt (Nat.lt_succ_of_lt (hRl p hp)))
 have hps : @LT.lt Nat _ A.ps L' := allLt_top (allLt_of l1q)
 have h123 : @LT.lt Nat _ 123 L' := l1q (123, tabObj #[]) (wLed_R (.tail _ (.tail _ (.head _))))
 have hdlL : @LT.lt Nat _ dl L' := l1q (dl, listOf #[] xk) (wLed_R (.head _))
 have hatL : @LT.lt Nat _ at' L' := l1q (at', oa) (wLed_R (.tail _ (.head _)))
 clear l1q
 replace hcS : oS.data = .cell (some (.ref A.x)) := hcS.trans (by kernel_rfl)
 replace hcP : oP.data = .cell none := hcP.trans (by kernel_rfl)
 (revert N' hcS hcP; revert oP oS; with_reducible refine Drk2.all (by kpf_c) ((?_ : All2 _) _ _); refine fun oP oS => Ap2.mk ?_; intros N' hcS hcP)
 (repeat' ((fail_if_success with_reducible first | refine zQ1 ?_ | refine zQ2 ?_ | refine zQ3 ?_ | refine zJ ?_); tb_rel))
 first | k_dflt (refine eval_setStar (K := hd.heap_39 w.params) (kvs := as) (y := qs) (t := t) (d := at') (od := oa) ?e1 F' N' X' ?e2 ?e3 ?e4 ?e5 ?e6 hoa has (Nat.le_trans hn (by decide)) hq ?_) | fail
 case e1 => exact rfl
 case e2 => first | k_is | kernel_rfl!
 case e3 => exact rfl
 case e4 => (intro s1 Q1 F1 hq; walk1; exact hq _)
 case e5 => (intro s1 Q1 F1 hq; walk1; exact hq _)
 case e6 => k_mem
 intro Dq h2 tk2 oq F2 N2 l2 hSq
 k_lt l2
 dsimp only
 (repeat' ((fail_if_success with_reducible first | refine zQ1 ?_ | refine zQ2 ?_ | refine zQ3 ?_ | refine zJ ?_); tb_rel))
 (with_reducible rename Fr _ _ _ _ => F1); (with_reducible rename News _ _ _ _ => N1)
 first | k_dflt (refine assign_dictComp_G (knd := strKind _ w) F1 rfl (by with_unfolding_all rfl) (by with_unfolding_all rfl) (by decide) (by rfl) (by decide) (by rfl) (by rfl) ?_ (fun _ => rfl)) | fail
 (repeat' ((fail_if_success with_reducible first | refine zQ1 ?_ | refine zQ2 ?_ | refine zQ3 ?_ | refine zJ ?_); tb_rel))
 first | k_dflt (refine' kla_eval ?d0 ?_; (case d0 => exact rfl)) | fail
 first | k_dflt (refine' kla_nest (P := 123) (c := 125) (ps := #[]) ?laF ?laN ?laT ?laC ?lacd ?laU ?lat ?lan ?lacl ?_; (case laF => k_asm); (case laN => k_asm); (case laT => exact T'); (case lacd => exact rfl); (case laC => exact code125 X'); (case laU => k_updF); (case lat => kn_triples); (case lan => kn_hit); (case lacl => exact rfl)) | fail
 intro f1 c' oc fv tq ctv1 h3 tk3 F3 N3 hoc hfv l3a l3
 k_lt l3a
 replace l3 : @LT.lt Nat _ c' f1 := l3
 have l3f := allLt_lt l3 (aw5 l3a)
 dsimp only at N3 ⊢
 (repeat' ((fail_if_success with_reducible first | refine zQ1 ?_ | refine zQ2 ?_ | refine zQ3 ?_ | refine zJ ?_); tb_rel))
 dsimp only [backToKw, keywordEach, List.map, List.filterMap, List.zip, List.zipWith]
 have hlk : (keysTo as qs as.length).length ≤ 19 := Nat.le_trans keysTo_len (by omega)
 first | k_dflt (refine sortedK_strSet (X := spl0) (Y := spl1) (d := Dq) (f := f1) ?sA ?sU F3 N3 ?sD hSq ?s0 ?s6 ?sX ?sN ?sK ?_) | fail
 case sA => exact rfl
 case sU => (show un + 3 + 4 < cLine; omega)
 case sD => k_mem
 case s0 => (unfold keysTo; simp)
 case s6 => exact Nat.le_trans hlk (by decide)
 case sX => exact hsi
 case sN => exact keysTo_nodup hnd hq
 case sK =>
   have hsp7 : ∀ y ∈ keysTo as qs as.length, ∃ a b, Txt.splitMax y (Str.ofString "}") 1 = [a, b] ∧ y.length ≤ 1000 := fun y hy => by
     obtain ⟨a, b, h⟩ := (H y hy).sp
     (revert hy h; revert y a b; with_reducible refine Drk3.all (by kpf_c) ((?_ : All3 _) _ _ _); refine fun y a b => Ap3.mk ?_; intros hy h)
     exact ⟨a, b, h, (H y hy).q.len⟩
   (intro s7 nw7 y7 t7 Q7 hy7 F7 N7 hsub7 hq7; obtain ⟨a7, b7, hs7, hl7⟩ := hsp7 y7 hy7; have hm7 := hsub7 _ (.head _); have hn7 : (c', oc) ∈ nw7 := hsub7 _ (by k_mem); refine wpAny_call ?_; (refine' kla_code ?k1 ?k2 ?k3 ?k4 ?k5 ?kA ?kF ?kK ?k6 ?k7 ?k8 ?k9 ?kB ?_ ?c2 ?c3 ?c4 ?c5; (case kA => exact rfl); (case kF => exact rfl); (case kK => exact rfl); (case k1 => exact B'); (case k2 => exact F7); (case k3 => exact X'); (case k4 => exact N7); (case k5 => exact T'); (case k6 => exact hm7); (case k7 => exact codeRec_news N7 hn7 hoc hfv); (case k8 => (show dp + 1 < recursionLimit; omega)); (case k9 => exact rfl); (case c5 => decide); (case kB => exact locs rfl); (case c2 => exact rfl); (case c3 => exact rfl); (case c4 => exact rfl)); intro g8 L8 h8 FG8 F8 N8 B8 X8 T8; (try dsimp only); (try k_fold))
   (revert hs7; revert a7 b7; with_reducible refine Drk2.all (by kpf_c) ((?_ : All2 _) _ _); refine fun a7 b7 => Ap2.mk ?_; intros hs7)
   (repeat' ((fail_if_success with_reducible first | refine zQ1 ?_ | refine zQ2 ?_ | refine zQ3 ?_ | refine zJ ?_); tb_rel))
   (with_reducible rename Fr _ _ _ _ => F1); (with_reducible rename News _ _ _ _ => N1)
   refine splitN2A (hsz := ?hsz) F1 N1 (by rfl) (by decide) ?_
   case hsz => exact Nat.le_trans (Nat.add_le_add_right hl7 2) (by decide)
   intro l9 h9 tk9 hl9 hS9 hle9 hL9 F9 N9
   obtain ⟨ta, tb, rfl⟩ := two_named (hl9.trans hs7)
   (revert hl9 hS9 hle9 hL9 N9; revert ta tb; with_reducible refine Drk2.all (by kpf_c) ((?_ : All2 _) _ _); refine fun ta tb => Ap2.mk ?_; intros hl9 hS9 hle9 hL9 N9)
   dsimp only [strValues, List.map_cons, List.map_nil] at N9 hL9 ⊢
   have e0 : spl0 y7 = a7 := by unfold spl0; rw [hs7]; rfl
   have e1 : spl1 y7 = b7 := by unfold spl1; rw [hs7]; rfl
   rw [← e0, ← e1] at N9
   have hlt9 : ∀ p ∈ nw7, p.1 < _ := fun p hp => Heap.lt_size (N1 p hp).1
   ((try (k_unfold; (try dsimp only))); k_dflt (refine' leaveK_ ?k1 ?k2 ?_; (case k1 => k_asm); (case k2 => k_asm)); intro kF kN; (try dsimp only))
   exact hq7 _ _ _ _ _ _ kF kN hlt9
 intro B c5 h5 tk5 dr zs hzp hzs F5 N5 l5
 clear F1 N1 F3 N3
 k_lt l5
 dsimp only at N5 ⊢
 have hzl : zs.length = (keysTo as qs as.length).length := by have e := hzp.length_eq; rw [lM] at e; exact e
 have hzl19 : (zs.map (·.1)).length ≤ 19 := by rw [lM, hzl]; exact hlk
 have hznd : (zs.map (·.1)).Nodup := hzp.nodup_iff.mpr (keysTo_nodup hnd hq)
 have hzH : ∀ y ∈ zs.map (·.1), RName Uf Tf y := fun y hy => H y (hzp.mem_iff.mp hy)
 have OR : WA.Ord A ((dl, listOf #[] xk) :: (at', oa) :: (123, lamTab c') :: R') := ⟨O.o, fun p hp => by
   rcases mc hp with rfl | hp
   · exact odl
   rcases mc hp with rfl | hp
   · exact oat
   rcases mc hp with rfl | hp
   · exact otb
   exact O.off p (.tail _ (.tail _ (.tail _ hp)))⟩
 have hdlR : ∀ p ∈ (at', oa) :: (123, lamTab c') :: R', p.1 ≠ dl := fun p hp => by
   rcases mc hp with rfl | hp
   · exact fun e => hne1 e.symm
   rcases mc hp with rfl | hp
   · exact fun e => hne2 e.symm
   exact hne4 p hp
 refine source_listO (its := (zs.map fun z => Value.str z.1 z.2).toArray) rfl F5 N5 (.head _) (by rw [List.size_toArray, lM, hzl]; exact Nat.le_trans hlk (by decide)) (fun _ _ _ _ _ _ _ _ _ q => hgo_name q) fun gI I fp wr Md St Xs hfp => ⟨_, _, _, _, _, I, fp, wr, St, RJ w A ⟨κκ, κz, κu, κv, κseen, κdone⟩ ⟨pcs, np, dat, nd, lv, nl, nss, nn, pv, nv, opm⟩ dl [_, _, _, _, _, _, _, _] ((at', oa) :: (123, lamTab c') :: R') Uf Tf (zs.map (·.1)), Xs, fun p hp => hp, ⟨[], opm, xk, [], rfl, (fun p hp => nomatch hp), ⟨rfl, (fun k q h => nomatch h), (fun q h => nomatch h), .nil, (fun h => nomatch h), Nat.zero_le _, ⟨[], [], hopm, .nil, rfl, fun _ _ => rfl⟩⟩, rfl, (fun p hp => nomatch hp)⟩, ?_, ?_⟩
 · refine CTurnD.name (by rfl) (by rfl) ?_
   rintro i v C oC D oD m₂ g1 h tk kvs nw own htk hi hP hJ hdD hC hv Fc Nc off hown hof hnD hDC hw hCD hCL hDL
   (revert Xs hfp htk hi hP hJ hdD hC hv Fc Nc off hown hof hnD hDC hw hCD hCL hDL; revert gI I fp wr Md St i v C oC D oD m₂ g1 h tk kvs nw own; with_reducible refine Drk7.all (by kpf_c) ((?_ : All7 _) _ _ _ _ _ _ _); refine fun gI I fp wr Md St i => Ap7.mk ?_; with_reducible refine Drk7.all (by kpf_c) ((?_ : All7 _) _ _ _ _ _ _ _); refine fun v C oC D oD m₂ g1 => Ap7.mk ?_; with_reducible refine Drk5.all (by kpf_c) ((?_ : All5 _) _ _ _ _ _); refine fun h tk kvs nw own => Ap5.mk ?_; intros Xs hfp htk hi hP hJ hdD hC hv Fc Nc off hown hof hnD hDC hw hCD hCL hDL)
   rw [List.size_toArray, lM] at hi
   obtain ⟨y, tz, hyz⟩ : ∃ y tz, zs[i]? = some (y, tz) := ⟨zs[i].1, zs[i].2, List.getElem?_eq_getElem hi⟩
   (revert hyz; revert y tz; with_reducible refine Drk2.all (by kpf_c) ((?_ : All2 _) _ _); refine fun y tz => Ap2.mk ?_; intros hyz)
   have hyn : (zs.map (·.1))[i]? = some y := by rw [List.getElem?_map, hyz]; rfl
   have hyH := hzH y (List.mem_of_getElem? hyn)
   have hve : Value.str y tz = v := by
     rw [List.getElem?_toArray, List.getElem?_map, hyz] at hP
     exact Option.some.inj hP
   subst hve
   have hDps : @LT.lt Nat _ A.ps D := hnD (A.ps, listOf pv nv) (by k_mem)
   have hDdl : @LT.lt Nat _ dl D := hnD (dl, listOf #[] xk) (by k_mem)
   have hZ : ∀ p ∈ (C, oC) :: (D, oD) :: own, @LT.lt Nat _ A.ps p.1 ∧ p.1 ≠ dl := fun p hp => by
     rcases mc hp with rfl | hp
     · exact ⟨Nat.lt_trans hDps hDC, Nat.ne_of_gt (Nat.lt_trans hDdl hDC)⟩
     rcases mc hp with rfl | hp
     · exact ⟨hDps, Nat.ne_of_gt hDdl⟩
     rcases hfp _ (hof p hp) with e | e
     · rw [e]; first | exact ⟨lt_at (by with_reducible assumption) (by k_mem), Nat.ne_of_gt (lt_at (by with_reducible assumption) (by k_mem))⟩ | exact ⟨by refine ltN ?_; omega, by refine Nat.ne_of_gt ?_; refine ltN ?_; omega⟩
     exact ⟨e (A.ps, listOf pv nv) (by k_mem), Nat.ne_of_gt (e (dl, listOf #[] xk) (by k_mem))⟩
   have hstep := hJ.step (d := 10) (u := 40) (by decide) (by decide) OR hyn hzl19 hyH.q tz hlv hyH.xml hsm hdlR
   obtain ⟨l6, hl6, c6⟩ := hstep (by
     intro p hp
     iterate 8 (rcases mc hp with rfl | hp; (focus (dsimp only; first | exact ⟨lt_at (by with_reducible assumption) (by k_mem), Nat.ne_of_gt (lt_at (by with_reducible assumption) (by k_mem))⟩ | exact ⟨by refine ltN ?_; omega, by refine Nat.ne_of_gt ?_; refine ltN ?_; omega⟩)))
     cases hp) hZ
   clear hstep
   have N6 : News g' L' h l6 := fun p hp => Nc p (by
     have h1 := hl6 p hp
     simp only [List.mem_append, List.mem_cons] at h1 ⊢
     rcases h1 with (h | h | h) | h
     · exact .inl h
     · exact .inr (.inl h)
     · exact .inr (.inr (.inr h))
     exact .inr (.inr (.inl h)))
   obtain ⟨Y0, opm0, ts0, xk0, hnw⟩ : ∃ (Y0 : Led) (opm0 : Obj) (ts0 : List NT) (xk0 : Nat), nw = Y0 ++ (_ ++ wLed w A ⟨κκ, κz, κu, κv, κseen, κdone⟩ ⟨pcs, np, dat, nd, lv, nl, nss, nn, pv, nv, opm0⟩ ([(dl, listOf (refsN ts0) xk0)] ++ ((at', oa) :: (123, lamTab c') :: R'))) := by
     obtain ⟨a1, a2, a3, a4, e, _⟩ := hJ
     exact ⟨a4, a2, a1, a3, e⟩
   have Nc' : News g' L' h ((C, oC) :: (D, oD) :: (_ ++ wLed w A ⟨κκ, κz, κu, κv, κseen, κdone⟩ ⟨pcs, np, dat, nd, lv, nl, nss, nn, pv, nv, opm0⟩ ([(dl, listOf (refsN ts0) xk0), (at', oa), (123, lamTab c')] ++ (R' ++ (Y0 ++ own))))) := fun p hp => by
     rw [hnw] at Nc
     exact Nc p (led_tail p hp)
   dsimp only [List.cons_append, List.nil_append, wLed_app] at Nc'
   (revert hl6 c6 N6 hnw Nc'; revert l6 Y0 opm0 ts0 xk0; with_reducible refine Drk5.all (by kpf_c) ((?_ : All5 _) _ _ _ _ _); refine fun l6 Y0 opm0 ts0 xk0 => Ap5.mk ?_; intros hl6 c6 N6 hnw Nc')
   (repeat' ((fail_if_success with_reducible first | refine zQ1 ?_ | refine zQ2 ?_ | refine zQ3 ?_ | refine zJ ?_ | refine z27 ?_); tb_rel))
   (k_dflt (refine' CtrC.useM (c6) ?hA ?hq ?B ?F ?X ?NA ?N ?T ?kk ?hd ?hu ?_; (case hA => exact rfl); (case NA => exact Nc'); (case hq => k_mem); (case B => k_asm); (case F => k_asm); (case X => k_asm);  (case N => k_asm); (case T => k_asm); (case kk => first | exact rfl | assumption); (case hd => allgen_close_more); (case hu => allgen_close_more)))
   rintro v7 l7 h7 tk7 ⟨nw', hsub1, hZl, hJ', haddr⟩ F7 N7
   (revert hsub1 hZl hJ' haddr F7 N7; revert v7 l7 h7 tk7 nw'; with_reducible refine Drk5.all (by kpf_c) ((?_ : All5 _) _ _ _ _ _); refine fun v7 l7 h7 tk7 nw' => Ap5.mk ?_; intros hsub1 hZl hJ' haddr F7 N7)
   dsimp only
   (try (k_unfold; (try dsimp only)))
   refine CEnd.intro (oC' := oC) F7 N7 hC nw' (fun p hp => ?_) (fun p hp b hb => ?_) ⟨y, strKind_is _ _ _ _, ?_, hJ'⟩
   · rcases mc hp with rfl | hp
     · exact hZl _ (.head _)
     rcases mc hp with rfl | hp
     · exact hZl _ (.tail _ (.head _))
     rcases ma hp with hp | hp
     · exact hsub1 p hp
     exact hZl p (.tail _ (.tail _ hp))
   · rcases haddr p hp with h1 | h1
     · obtain ⟨p', hp', e⟩ := List.mem_map.mp h1
       (revert hp hb h1 hp' e; revert p b p'; with_reducible refine Drk3.all (by kpf_c) ((?_ : All3 _) _ _ _); refine fun p b p' => Ap3.mk ?_; intros hp hb h1 hp' e)
       rw [← e]; exact off p' hp' b hb
     rcases mc hb with rfl | hb
     · exact Nat.ne_of_gt (h1 (_, oC) (.head _))
     rcases mc hb with rfl | hb
     · exact Nat.ne_of_gt (h1 (_, oD) (.tail _ (.head _)))
     obtain ⟨ob, hob⟩ := hw b hb
     (revert p b ob; tb_start; refine fun p => Ap.mk ?_; intros hp; tb_start; refine fun b => Ap.mk ?_; intros _ h1 _ hb; tb_start; refine fun ob => Ap.mk ?_; intros hob)
     exact Nat.ne_of_gt (h1 (b, ob) (ml _ (.tail _ (.tail _ hob))))
   obtain ⟨_, _, _, _, _, _, _, hkk, _⟩ := hJ
   rw [hkk]
   intro hmem
   obtain ⟨j, hj, ej⟩ := List.mem_take_iff_getElem.mp hmem
   (revert hj ej; revert j; tb_start; refine fun j => Ap.mk ?_; intros hj ej)
   have h1 : (zs.map (·.1))[j]? = some y := by rw [List.getElem?_eq_getElem (by omega), ej]
   have := (List.getElem?_inj (by omega) hznd).mp (h1.trans hyn.symm)
   omega
 (revert Xs hfp; revert gI I fp wr Md St; with_reducible refine Drk6.all (by kpf_c) ((?_ : All6 _) _ _ _ _ _ _); refine fun gI I fp wr Md St => Ap6.mk ?_; intros Xs hfp)
 intro Dp oDp ys nw hltD hneD hdP hJ h8 tk8 htk8 F8 N8
 obtain ⟨ts, opm', xk', Y, rfl, hY, V, hkk, hkv⟩ := hJ
 (revert hneD N8 hY V hkv; revert ts opm' xk' Y; with_reducible refine Drk4.all (by kpf_c) ((?_ : All4 _) _ _ _ _); refine fun ts opm' xk' Y => Ap4.mk ?_; intros hneD N8 hY V hkv)
 have hall : List.take (zs.map fun z => Value.str z.1 z.2).toArray.size (zs.map (·.1)) = zs.map (·.1) := by rw [List.size_toArray, lM]; exact List.take_of_length_le (by rw [lM]; exact Nat.le_refl _)
 rw [hall] at V hkk hkv
 have N8' : News g' L' h8 ((Dp, oDp) :: (_ ++ wLed w A ⟨κκ, κz, κu, κv, κseen, κdone⟩ ⟨pcs, np, dat, nd, lv, nl, nss, nn, pv, nv, opm'⟩ ([(dl, listOf (refsN ts) xk'), (at', oa), (123, lamTab c')] ++ (R' ++ Y)))) := fun p hp => N8 p (led_tail1 p hp)
 have hRRD : ∀ p ∈ R' ++ Y, p.1 ≠ Dp := fun p hp => hneD p (by
   rcases ma hp with hp | hp
   · exact mr _ (mr _ (wLed_R (.tail _ (.tail _ (.tail _ hp)))))
   exact ml _ hp)
 have hYR : ∀ p ∈ Y, p ∈ R' ++ Y := fun p hp => mr _ hp
 have hRRs : ∀ p ∈ R', p ∈ R' ++ Y := fun p hp => ml _ hp
 have hRRoff : ∀ p ∈ R' ++ Y, @LT.lt Nat _ p.1 A.pc ∨ @LT.lt Nat _ A.ps p.1 := fun p hp => by
   rcases ma hp with hp | hp
   · exact O.off p (.tail _ (.tail _ (.tail _ hp)))
   exact .inr (hY p hp).1
 clear N8 F5 N5 hneD
 have OR2 : A.Ord ((dl, listOf (refsN ts) xk') :: (at', oa) :: (123, lamTab c') :: (R' ++ Y)) := ⟨O.o, fun p hp => by
   rcases mc hp with rfl | hp
   · exact odl
   rcases mc hp with rfl | hp
   · exact oat
   rcases mc hp with rfl | hp
   · exact otb
   exact hRRoff p hp⟩
 dsimp only [List.cons_append, List.nil_append] at N8'
 (try dsimp only at V)
 k_lt hltD
 have htsl : (refsN ts).size = ts.length := by unfold refsN; rw [List.size_toArray, lM]
 have hts19 : ts.length ≤ 19 := by rw [V.size]; exact Nat.le_trans (usOf_len _ _) hzl19
 have hts : ∀ q ∈ ts, (q.a, q.obj) ∈ (at', oa) :: (123, lamTab c') :: (R' ++ Y) := fun q hq => by
   rcases ma (V.tup q hq) with h | h
   · exact .tail _ (.tail _ (mr _ h))
   rcases mc h with h | h
   · rw [h]; exact .head _
   rcases mc h with h | h
   · rw [h]; exact .tail _ (.head _)
   exact .tail _ (.tail _ (ml _ h))
 have hplen : ∀ q ∈ ts, 1 ≤ q.p.length ∧ q.p.length ≤ 100 := fun q hq => by
   obtain ⟨j, hj, rfl⟩ := List.mem_iff_getElem.mp hq
   (revert hY V hkv N8' hRRD hYR hRRs hRRoff OR2 htsl hts19 hts hj hq; revert ts opm' xk' Y j; with_reducible refine Drk5.all (by kpf_c) ((?_ : All5 _) _ _ _ _ _); refine fun ts opm' xk' Y j => Ap5.mk ?_; intros hY V hkv N8' hRRD hYR hRRs hRRoff OR2 htsl hts19 hts hj hq)
   rw [V.p j _ (List.getElem?_eq_getElem hj)]
   exact nName_len (by omega)
 generalize hRRe : R' ++ Y = RR at *
 (revert hY V hkv htsl hts19 hplen hRRe N8' hRRD hYR hRRs hRRoff OR2 hts; revert ts opm' xk' Y RR; with_reducible refine Drk5.all (by kpf_c) ((?_ : All5 _) _ _ _ _ _); refine fun ts opm' xk' Y RR => Ap5.mk ?_; intros hY V hkv htsl hts19 hplen hRRe N8' hRRD hYR hRRs hRRoff OR2 hts)
 dsimp only
 have hts1 : 1 ≤ ts.length := by
   cases hz : zs with
   | nil => rw [hz] at hzl; unfold keysTo at hzl; simp at hzl
   | cons z zr =>
     cases ts with
     | nil =>
       have h1 := V.u
       rw [hz] at h1
       obtain ⟨a1, a2, a3, a4, a5, _, a7, _⟩ := hkv (ys.getD 0 (Str.empty, .none)) (by
         cases ys with
         | nil => rw [hz] at hkk; cases hkk
         | cons a b => exact .head _)
       rw [hz, ← h1] at a7; cases a7
     | cons _ _ => exact Nat.succ_le_succ (Nat.zero_le _)
 (repeat' ((fail_if_success with_reducible first | refine zQ1 ?_ | refine zQ2 ?_ | refine zQ3 ?_ | refine zJ ?_ | refine z27 ?_ | refine z28 ?_ | refine z29 ?_ | refine z30 ?_ | refine z31 ?_); tb_rel))
 (with_reducible rename Fr _ _ _ _ => F1); (with_reducible rename News _ _ _ _ => N1)
 refine wpAny_truthy_list (isList_news (its := refsN ts) (k := xk') N1 (by k_mem)) (by rw [htsl]; omega) ?_
 rw [if_pos (show (!(refsN ts).isEmpty) = true by rw [Bool.not_eq_true', Array.isEmpty_eq_false_iff]; intro e; rw [e] at htsl; exact absurd htsl (by simp; omega))]
 (repeat' ((fail_if_success with_reducible first | refine zQ1 ?_ | refine zQ2 ?_ | refine zQ3 ?_ | refine zJ ?_ | refine z27 ?_ | refine z28 ?_ | refine z29 ?_ | refine z30 ?_ | refine z31 ?_); tb_rel))
 (with_reducible rename Fr _ _ _ _ => F1); (with_reducible rename News _ _ _ _ => N1)
 first | k_dflt (refine assign_listComp_G F1 rfl (by with_unfolding_all rfl) (by with_unfolding_all rfl) (by decide) (by rfl) (by decide) (by rfl) (by rfl) ?_ (fun _ => rfl)) | fail
 (repeat' ((fail_if_success with_reducible first | refine zQ1 ?_ | refine zQ2 ?_ | refine zQ3 ?_ | refine zJ ?_ | refine z27 ?_ | refine z28 ?_ | refine z29 ?_ | refine z30 ?_ | refine z31 ?_); tb_rel))
 (with_reducible rename Fr _ _ _ _ => F1); (with_reducible rename News _ _ _ _ => N1)
 obtain ⟨NW, hNW, N1x⟩ := split_tail (l := _ :: _ :: _ :: _ :: _ :: _ :: _ :: _ :: _ :: wLed w A ⟨κκ, κz, κu, κv, κseen, κdone⟩ ⟨pcs, np, dat, nd, lv, nl, nss, nn, pv, nv, opm'⟩ [_, _, _]) (RR := RR) (P := News g' L' _) N1
 (revert hNW N1x; revert NW; tb_start; refine fun NW => Ap.mk ?_; intros hNW N1x)
 refine source_listO (its := refsN ts) rfl F1 N1x (by rw [hNW]; dsimp only [List.cons_append, List.nil_append, wLed_app]; k_mem) (by rw [htsl]; omega) (fun i v _ _ _ _ _ hit hv q => (by obtain ⟨z, _, rfl⟩ := ref_of hv; exact wpAny_letOwnedTupleGo_listiter hit q)) fun gI I fp wr Md St Xs hfp => ⟨_, _, _, _, _, I, fp, wr, St, fun i ys nw => ∃ (ps1 : List PairA) (Tl : Led), nw = Tl ++ (NW ++ RR) ∧ (∀ p ∈ Tl, ∀ q ∈ NW ++ RR, q.1 < p.1) ∧ ys = refsP ps1 ∧ ps1.map (·.2) = (ts.take i).map (fun q => (Str.ofString "xmlns:" ++ q.p, q.u)) ∧ ∀ q ∈ ps1, ∃ t1 t2, (q.1, ({ cls := .type "tuple", data := .seq #[.str q.2.1 t1, .str q.2.2 t2] } : Obj)) ∈ Tl, Xs, fun p hp => hp, ⟨[], [], rfl, (fun p hp => nomatch hp), rfl, rfl, (fun q hq => nomatch hq)⟩, ?_, ?_⟩
 · refine CTurnL.pair rfl (by rfl) (by rfl) (by decide) (by rfl) (fun i a b => ∃ q, ts[i]? = some q ∧ a = .str q.u q.tu ∧ b = .str q.p q.tp) ?_ ?_
   · (revert Xs hfp; revert gI I fp wr Md St; with_reducible refine Drk6.all (by kpf_c) ((?_ : All6 _) _ _ _ _ _ _); refine fun gI I fp wr Md St => Ap6.mk ?_; intros Xs hfp)
     intro i v h ys nw own hi hP hJ Nn
     obtain ⟨ps1, Tl, rfl, _⟩ := hJ
     (revert ps1 Tl; with_reducible refine Drk2.all (by kpf_c) ((?_ : All2 _) _ _); refine fun ps1 Tl => Ap2.mk ?_; intros _ Nn)
     obtain ⟨q, hq, rfl⟩ := ref_of hP
     (revert hq hP; revert q; tb_start; refine fun q => Ap.mk ?_; intros hq hP)
     refine ⟨_, _, _, rfl, ⟨_, (Nn (q.a, q.obj) ?_).1, rfl, _, rfl⟩, q, hq, rfl, rfl⟩
     refine ml _ (mr _ ?_)
     rw [hNW]; dsimp only [List.cons_append, List.nil_append, wLed_app]
     have h1 := hts q (List.mem_of_getElem? hq)
     rcases mc h1 with h | h
     · rw [h]; k_mem
     rcases mc h with h | h
     · rw [h]; k_mem
     (repeat (first | exact wLed_R (.tail _ (.tail _ (.tail _ h))) | refine List.mem_cons_of_mem _ ?_))
   rintro i a b C oC D m₂ h tk ys nw own htk hi ⟨q, hq, rfl, rfl⟩ hJ hC hv1 hv2 Fc Nc off hown hw hCD hCL hDL
   (revert Xs hfp htk hi hq hJ hC hv1 hv2 Fc Nc off hown hw hCD hCL hDL; revert gI I fp wr Md St i C oC D m₂ h tk ys nw own q; with_reducible refine Drk6.all (by kpf_c) ((?_ : All6 _) _ _ _ _ _ _); refine fun gI I fp wr Md St => Ap6.mk ?_; with_reducible refine Drk6.all (by kpf_c) ((?_ : All6 _) _ _ _ _ _ _); refine fun i C oC D m₂ h => Ap6.mk ?_; with_reducible refine Drk5.all (by kpf_c) ((?_ : All5 _) _ _ _ _ _); refine fun tk ys nw own q => Ap5.mk ?_; intros Xs hfp htk hi hq hJ hC hv1 hv2 Fc Nc off hown hw hCD hCL hDL)
   dsimp only
   have hqp := hplen q (List.mem_of_getElem? hq)
   obtain ⟨ps1, Tl, rfl, hTl, rfl, hpm1, hpt⟩ := hJ
   (revert off hTl Nc hpm1 hpt; revert ps1 Tl; with_reducible refine Drk2.all (by kpf_c) ((?_ : All2 _) _ _); refine fun ps1 Tl => Ap2.mk ?_; intros off hTl Nc hpm1 hpt)
   have hfr : ∀ p ∈ (C, oC) :: (D, LCg.lst (refsP ps1)) :: ((Tl ++ (NW ++ RR)) ++ own), @LT.lt Nat _ p.1 h.objs.size := fun p hp => Heap.lt_size (Nc p hp).1
   (repeat' ((fail_if_success with_reducible first | refine zQ1 ?_ | refine zQ2 ?_ | refine zQ3 ?_ | refine zJ ?_ | refine z27 ?_ | refine z28 ?_ | refine z29 ?_ | refine z30 ?_ | refine z31 ?_); tb_rel))
   all_goals (try (exfalso; rename (q.p.length : Int) = 0 => hx; omega))
   (with_reducible rename Fr _ _ _ _ => F1); (with_reducible rename News _ _ _ _ => N1)
   obtain ⟨oT, hoT, N1y⟩ := split_head N1
   (revert hoT N1y; revert oT; tb_start; refine fun oT => Ap.mk ?_; intros hoT N1y)
   (try (k_unfold; (try dsimp only)))
   refine CEnd.intro F1 N1y hC ((h.objs.size, oT) :: (Tl ++ (NW ++ RR))) (fun p hp => ?_) (fun p hp b hb => ?_) ⟨ps1 ++ [(h.objs.size, Str.ofString "xmlns:" ++ q.p, q.u)], (h.objs.size, oT) :: Tl, rfl, fun p hp r hr => ?_, ?_, ?_, ?_⟩
   · rcases mc hp with rfl | hp
     · exact .tail _ (.head _)
     rcases mc hp with rfl | hp
     · exact .tail _ (.tail _ (.head _))
     rcases mc hp with rfl | hp
     · exact .head _
     exact .tail _ (.tail _ (.tail _ hp))
   · rcases mc hp with rfl | hp
     · rcases mc hb with rfl | hb
       · exact Nat.ne_of_gt (hfr (_, oC) (.head _))
       rcases mc hb with rfl | hb
       · exact Nat.ne_of_gt (hfr (_, _) (.tail _ (.head _)))
       obtain ⟨ob, hob⟩ := hw b hb
       (revert b ob; tb_start; refine fun b => Ap.mk ?_; intros _ _ hb; tb_start; refine fun ob => Ap.mk ?_; intros hob)
       exact Nat.ne_of_gt (hfr (b, ob) (.tail _ (.tail _ (mr _ hob))))
     exact off p hp b hb
   · rcases mc hp with rfl | hp
     · exact hfr r (.tail _ (.tail _ (ml _ (mr _ hr))))
     exact hTl p hp r hr
   · unfold refsP; rw [List.map_append]; rfl
   · rw [List.map_append, hpm1, List.take_add_one, hq, List.map_append]; rfl
   intro r hr
   rcases ma hr with hr | hr
   · obtain ⟨t1, t2, hm⟩ := hpt r hr
     (revert hm; revert t1 t2; with_reducible refine Drk2.all (by kpf_c) ((?_ : All2 _) _ _); refine fun t1 t2 => Ap2.mk ?_; intros hm)
     exact ⟨t1, t2, .tail _ hm⟩
   rw [ms hr, hoT]; exact ⟨_, _, .head _⟩
 (revert Xs hfp; revert gI I fp wr Md St; with_reducible refine Drk6.all (by kpf_c) ((?_ : All6 _) _ _ _ _ _ _); refine fun gI I fp wr Md St => Ap6.mk ?_; intros Xs hfp)
 intro D ys nw hltA hneA hJ h9 tk9 htk9 F9 N9
 obtain ⟨ps1, Tl, rfl, hTl, rfl, hpm1, hpt⟩ := hJ
 (revert hneA hTl N9 hpm1 hpt; revert ps1 Tl; with_reducible refine Drk2.all (by kpf_c) ((?_ : All2 _) _ _); refine fun ps1 Tl => Ap2.mk ?_; intros hneA hTl N9 hpm1 hpt)
 have hall : List.take (refsN ts).size ts = ts := by rw [htsl]; exact List.take_of_length_le (Nat.le_refl _)
 rw [hall] at hpm1
 dsimp only
 (repeat' ((fail_if_success with_reducible first | refine zQ1 ?_ | refine zQ2 ?_ | refine zQ3 ?_ | refine zJ ?_ | refine z27 ?_ | refine z28 ?_ | refine z29 ?_ | refine z30 ?_ | refine z31 ?_); tb_rel))
 have hptR : ∀ e, ∀ q ∈ ps1, ∃ o t1 t2 n, (q.1, o) ∈ (D, e) :: (Tl ++ (NW ++ RR)) ∧ o.cls = .type "tuple" ∧ o.data = .seq #[.str q.2.1 t1, .str q.2.2 t2] n := fun e q hq => by
   obtain ⟨t1, t2, hm⟩ := hpt q hq
   (revert hq hm; revert e q t1 t2; with_reducible refine Drk4.all (by kpf_c) ((?_ : All4 _) _ _ _ _); refine fun e q t1 t2 => Ap4.mk ?_; intros hq hm)
   exact ⟨_, t1, t2, 0, .tail _ (ml _ hm), rfl, rfl⟩
 have hps1l : ps1.length = ts.length := by have := congrArg List.length hpm1; rw [lM, lM] at this; exact this
 have hts2 : 2 ≤ ts.length := by
   rw [V.size]
   obtain ⟨p, hp, q, hq', hpq⟩ := hU2
   (revert hp hq' hpq; revert p q; with_reducible refine Drk2.all (by kpf_c) ((?_ : All2 _) _ _); refine fun p q => Ap2.mk ?_; intros hp hq' hpq)
   have hin : ∀ p ∈ as, p.1 ∈ zs.map (·.1) := fun p hp => hzp.mem_iff.mpr (by
     unfold keysTo
     rw [List.take_length]
     exact ml _ (List.mem_reverse.mpr (List.mem_map_of_mem hp)))
   exact two_of (mem_usOf (hin p hp)) (mem_usOf (hin q hq')) hpq
 first | k_dflt (refine sort_pairs (as := ps1) (g := fun o => (D, o) :: (Tl ++ (NW ++ RR))) F9 N9 (UpdF.head hneA) (by omega) (by omega) ?_ (fun q hq e => hptR _ q hq) ?_) | fail
 · have e := congrArg (List.map Prod.fst) hpm1
   rw [List.map_map, List.map_map] at e
   exact e ▸ V.nodupX
 intro c10 h10 as1 hp1 hpw1 F10 N10
 have N11 : News g' L' h10 ((D, listOf (refsP as1).toArray c10) :: (NW ++ (RR ++ Tl))) := fun p hp => N10 p (led_tail2 p hp)
 have hRRD2 : ∀ p ∈ RR ++ Tl, p.1 ≠ D := fun p hp => by
   rcases ma hp with hp | hp
   · exact Nat.ne_of_lt (hltA p (mr _ hp))
   exact hneA p (ml _ hp)
 have hps_mem : (A.ps, listOf pv nv) ∈ NW ++ RR := by rw [hNW]; dsimp only [List.cons_append, List.nil_append, wLed_app]; k_mem
 have hTlR : ∀ p ∈ Tl, p ∈ RR ++ Tl := fun p hp => mr _ hp
 have hRRR : ∀ p ∈ RR, p ∈ RR ++ Tl := fun p hp => ml _ hp
 have hR2off : ∀ p ∈ RR ++ Tl, @LT.lt Nat _ p.1 A.pc ∨ @LT.lt Nat _ A.ps p.1 := fun p hp => by
   rcases ma hp with hp | hp
   · exact hRRoff p hp
   exact .inr (hTl p hp _ hps_mem)
 have OR3 : A.Ord ((dl, listOf (refsN ts) xk') :: (at', oa) :: (123, lamTab c') :: (RR ++ Tl)) := ⟨O.o, fun p hp => by
   rcases mc hp with rfl | hp
   · exact odl
   rcases mc hp with rfl | hp
   · exact oat
   rcases mc hp with rfl | hp
   · exact otb
   exact hR2off p hp⟩
 subst hNW
 dsimp only [List.cons_append, List.nil_append, wLed_app] at N11 hltA
 clear N9 N10 N1 N1x hptR hneA F9
 generalize RR ++ Tl = RQ at *
 (revert hRRD2 hTlR hRRR hR2off OR3 N11; revert RQ; tb_start; refine fun RQ => Ap.mk ?_; intros hRRD2 hTlR hRRR hR2off OR3 N11)
 k_lt hltA
 dsimp only
 (repeat' ((fail_if_success with_reducible first | refine zQ1 ?_ | refine zQ2 ?_ | refine zQ3 ?_ | refine zJ ?_ | refine z27 ?_ | refine z28 ?_ | refine z29 ?_ | refine z30 ?_ | refine z31 ?_); tb_rel))
 (with_reducible rename Fr _ _ _ _ => F1); (with_reducible rename News _ _ _ _ => N1)
 refine wpAny_truthy_dict has (kda_dict N1 (by k_mem) hoa) (by omega) ?_
 rw [if_pos (show (!as.isEmpty) = true by cases as with | nil => exact absurd has2 (by simp) | cons _ _ => rfl)]
 (repeat' ((fail_if_success with_reducible first | refine zQ1 ?_ | refine zQ2 ?_ | refine zQ3 ?_ | refine zJ ?_ | refine z27 ?_ | refine z28 ?_ | refine z29 ?_ | refine z30 ?_ | refine z31 ?_); tb_rel))
 (with_reducible rename Fr _ _ _ _ => F1); (with_reducible rename News _ _ _ _ => N1)
 first | k_dflt (refine for_invE (σ := List PairA × Nat × Led) F1 ?_ (fun _ => rfl)) | fail
 (repeat' ((fail_if_success with_reducible first | refine zQ1 ?_ | refine zQ2 ?_ | refine zQ3 ?_ | refine zJ ?_ | refine z51 ?_ | refine z27 ?_ | refine z28 ?_ | refine z29 ?_ | refine z30 ?_ | refine z31 ?_); tb_rel))
 (with_reducible rename Fr _ _ _ _ => F1); (with_reducible rename News _ _ _ _ => N1)
 unfold wLed at N1
 (repeat' ((fail_if_success with_reducible first | refine zQ1 ?_ | refine zQ2 ?_ | refine zQ3 ?_ | refine zJ ?_ | refine z27 ?_ | refine z28 ?_ | refine z29 ?_ | refine z30 ?_ | refine z31 ?_); tb_rel))
 (with_reducible rename Fr _ _ _ _ => F1); (with_reducible rename News _ _ _ _ => N1)
 obtain ⟨NW, hNW, N1x⟩ := split_tail (l := _ :: _ :: _ :: _ :: _ :: _ :: _ :: _ :: _ :: wLed w A ⟨κκ, κz, κu, κv, κseen, κdone⟩ ⟨pcs, np, dat, nd, lv, nl, nss, nn, pv, nv, opm'⟩ [_, _, _]) (RR := RQ) (P := fun l => News g' L' _ (_ :: (D, listOf (refsP as1).toArray c10) :: l)) N1
 (revert hNW N1x; revert NW; tb_start; refine fun NW => Ap.mk ?_; intros hNW N1x)
 refine sorted_items (d := at') (kvs := as) (vf := vf) rfl F1 N1x (.head _) (.tail _ (.tail _ (by rw [hNW]; dsimp only [List.cons_append, List.nil_append, wLed_app]; k_mem))) hoa has2 (by omega) hnd hval ?_
 intro B2 c12 h12 tk12 as2 tups hp2 hpw2 hv2 ht2 F12 N12 hB2 htl2
 dsimp only
 (repeat' ((fail_if_success with_reducible first | refine zQ1 ?_ | refine zQ2 ?_ | refine zQ3 ?_ | refine zJ ?_ | refine z27 ?_ | refine z28 ?_ | refine z29 ?_ | refine z30 ?_ | refine z31 ?_); tb_rel))
 have hl2 : as2.length = as.length := by have e := hp2.length_eq; rw [lM, lM] at e; exact e
 have hrf : ∀ (i : Nat) (v : Value), ((refsP as2).toArray)[i]? = some v → ∃ q, as2[i]? = some q ∧ v = .ref q.1 := fun i v h => by
   unfold refsP at h
   rw [List.getElem?_toArray, List.getElem?_map] at h
   cases e : as2[i]? with
   | none => rw [e] at h; cases h
   | some q => rw [e] at h; exact ⟨q, rfl, (Option.some.inj h).symm⟩
 refine source_listO (its := (refsP as2).toArray) rfl F12 N12 (.head _) (by rw [List.size_toArray]; unfold refsP; rw [lM]; omega) (fun i v _ _ _ _ _ hit hv q => (by obtain ⟨z, _, rfl⟩ := hrf _ _ hv; exact wpAny_letOwnedTupleGo_listiter hit q)) fun gI I fp wr Md St Xs hfp => ⟨fun _ => [(Str.ofString "attr_list", .ref D), (Str.ofString "parsed_qnames", .ref Dp), (Str.ofString "qattrs", .none), (Str.ofString "qname_text", .none), (Str.ofString "attrs", .ref at'), (Str.ofString "tag", .str qs t)],
   fun c => (D, listOf (refsP (as1 ++ c.1)).toArray c.2.1) :: (NW ++ (RQ ++ (tups ++ c.2.2))),
   fun i c => c.1.map (·.2) = (as2.take i).map (fun q => (Str.empty ++ nName ((usOf Uf (zs.map (·.1))).idxOf (Uf q.2.1)) ++ Str.ofString ":" ++ Tf q.2.1, q.2.2)) ∧ (∀ q ∈ c.1, ∃ t1 t2, (q.1, ({ cls := .type "tuple", data := .seq #[.str q.2.1 t1, .str q.2.2 t2] } : Obj)) ∈ c.2.2) ∧ (∀ p ∈ c.2.2, @LT.lt Nat _ D p.1 ∧ ∀ q ∈ NW ++ (RQ ++ tups), q.1 < p.1),
   _, _, _, _, I, fp, wr, Md, St, ([], c10, []), Xs, ?_, ?_, ⟨rfl, (fun q h => nomatch h), (fun q h => nomatch h)⟩, ?_, ?_⟩
 · intro p hp
   simp only [List.append_nil, List.mem_cons, List.mem_append] at hp ⊢
   rcases hp with h | h | h | h
   · exact .inr (.inr (.inr (.inl h)))
   · exact .inr (.inr (.inr (.inr (.inl h))))
   · exact .inr (.inr (.inr (.inr (.inr h))))
   exact .inr (.inl h)
 · intro p hp
   iterate 6 (rcases mc hp with rfl | hp; (focus kernel_rfl))
   cases hp
 · rintro i v c u h tk own htk hi hv ⟨hok1, hok2, hok3⟩ off hw hown Fi Ni
   (revert Xs hfp htk hi hv hok1 hok2 hok3 off hw hown Fi Ni; revert gI I fp wr Md St i v c u h tk own; with_reducible refine Drk7.all (by kpf_c) ((?_ : All7 _) _ _ _ _ _ _ _); refine fun gI I fp wr Md St i => Ap7.mk ?_; with_reducible refine Drk6.all (by kpf_c) ((?_ : All6 _) _ _ _ _ _ _); refine fun v c u h tk own => Ap6.mk ?_; intros Xs hfp htk hi hv hok1 hok2 hok3 off hw hown Fi Ni)
   obtain ⟨q, hqi, rfl⟩ := hrf _ _ hv
   (revert hqi hv; revert q; tb_start; refine fun q => Ap.mk ?_; intros hqi hv)
   have hqm : q ∈ as2 := List.mem_of_getElem? hqi
   obtain ⟨t1, t2, hqt⟩ := ht2 q hqm
   (revert hqt; revert t1 t2; with_reducible refine Drk2.all (by kpf_c) ((?_ : All2 _) _ _); refine fun t1 t2 => Ap2.mk ?_; intros hqt)
   obtain ⟨pq, hpq, hpqe⟩ := List.mem_map.mp (hp2.mem_iff.mp (List.mem_map_of_mem (f := fun q : PairA => q.2.1) hqm))
   (revert hpq hpqe; revert pq; tb_start; refine fun pq => Ap.mk ?_; intros hpq hpqe)
   have hqns : q.2.1 ∈ zs.map (·.1) := hpqe ▸ hzp.mem_iff.mpr (by
     unfold keysTo
     rw [List.take_length]
     exact ml _ (List.mem_reverse.mpr (List.mem_map_of_mem hpq)))
   have hqH := hzH _ hqns
   obtain ⟨py, hpy, hpye⟩ := List.mem_map.mp (hkk ▸ hqns)
   (revert hpy hpye; revert py; tb_start; refine fun py => Ap.mk ?_; intros hpy hpye)
   obtain ⟨Dk, kk, a1, a2, a3, hve, hidx, hDk⟩ := hkv py hpy
   (revert hve hidx hDk; revert Dk kk a1 a2 a3; with_reducible refine Drk5.all (by kpf_c) ((?_ : All5 _) _ _ _ _ _); refine fun Dk kk a1 a2 a3 => Ap5.mk ?_; intros hve hidx hDk)
   rw [hpye] at hidx hDk
   have hkI := idx_of V.nodup hidx
   have hkk20 : kk ≤ 20 := by
     obtain ⟨h1, _⟩ := List.getElem?_eq_some_iff.mp hidx
     have := V.len; omega
   have hnl := nName_len hkk20
   have hvA : valueAt ys q.2.1 = some (.ref Dk) := valueAt_mem (by rw [hkk]; exact hznd) (by rw [← hpye, ← hve]; exact hpy)
   have hDq : @LT.lt Nat _ D q.1 := htl2 _ hqt (D, listOf (refsP as1).toArray c10) (.tail _ (.head _))
   have hDkR := hRRR _ (hYR _ hDk)
   have hDkD : Dk ≠ D := hRRD2 _ hDkR
   have hRT : ∀ p ∈ (RQ ++ (tups ++ c.2.2)) ++ own, p.1 ≠ D := fun p hp => by
     rcases ma hp with hp | hp
     · rcases ma hp with hp | hp
       · exact hRRD2 p hp
       rcases ma hp with hp | hp
       · exact Nat.ne_of_gt (htl2 p hp (D, listOf (refsP as1).toArray c10) (.tail _ (.head _)))
       exact Nat.ne_of_gt (hok3 p hp).1
     rcases hfp _ (hown p hp) with e | e
     · rw [e]; exact Nat.ne_of_gt (hB2 (D, listOf (refsP as1).toArray c10) (mr _ (.tail _ (.head _))))
     exact Nat.ne_of_gt (e (D, listOf (refsP as1).toArray c10) (.tail _ (mr _ (.tail _ (.head _)))))
   have Nj : News g' L' h ((q.1, ({ cls := .type "tuple", data := .seq #[.str q.2.1 t1, .str q.2.2 t2] } : Obj)) :: (Dk, trip (Str.empty ++ nName kk ++ Str.ofString ":" ++ Tf q.2.1) (Tf q.2.1) (Uf q.2.1) a1 a2 a3) :: (D, listOf (refsP (as1 ++ c.1)).toArray c.2.1) :: (NW ++ ((RQ ++ (tups ++ c.2.2)) ++ own))) := fun p hp => Ni p (by
     rcases mc hp with rfl | hp
     · exact .tail _ (ml _ (mr _ (mr _ (ml _ hqt))))
     rcases mc hp with rfl | hp
     · exact .tail _ (ml _ (mr _ (ml _ hDkR)))
     rcases mc hp with rfl | hp
     · exact .head _
     rw [← List.append_assoc] at hp; exact .tail _ hp)
   clear Ni N12 N1x
   have hl1 : (refsP (as1 ++ c.1)).toArray.size ≤ 200 := by
     have e1 := hp1.length_eq
     have e2 := congrArg List.length hok1
     rw [lM, lM, List.length_take] at e2
     unfold refsP
     rw [List.size_toArray, lM, lA]
     omega
   rw [hNW] at Nj
   dsimp only [List.cons_append, List.nil_append, wLed_app] at Nj
   have hRTa : ∀ p ∈ RQ ++ (tups ++ c.2.2), p ∈ (RQ ++ (tups ++ c.2.2)) ++ own := fun p hp => ml _ hp
   have hRTo : ∀ p ∈ own, p ∈ (RQ ++ (tups ++ c.2.2)) ++ own := fun p hp => mr _ hp
   generalize (RQ ++ (tups ++ c.2.2)) ++ own = RT at Nj hRT hRTa hRTo
   (revert Nj hRT hRTa hRTo; revert RT; tb_start; refine fun RT => Ap.mk ?_; intros Nj hRT hRTa hRTo)
   dsimp only
   (repeat' ((fail_if_success with_reducible first | refine zQ1 ?_ | refine zQ2 ?_ | refine zQ3 ?_ | refine zJ ?_ | refine z52 ?_ | refine z27 ?_ | refine z28 ?_ | refine z29 ?_ | refine z30 ?_ | refine z31 ?_); tb_rel))
   (with_reducible rename Fr _ _ _ _ => F1); (with_reducible rename News _ _ _ _ => N1)
   first | k_dflt (refine kda_item (knd := strKind _ w) (kvs := ys) (k := q.2.1) (v := .ref Dk) N1 (by k_mem) hdP (strKind_is _ _ _ _) hvA ?_) | fail
   dsimp only
   have hul := hqH.ul
   have htl7 := hqH.tl
   (repeat' ((fail_if_success with_reducible first | refine zQ1 ?_ | refine zQ2 ?_ | refine zQ3 ?_ | refine zJ ?_ | refine z27 ?_ | refine z28 ?_ | refine z29 ?_ | refine z30 ?_ | refine z31 ?_); tb_rel))
   all_goals (try (exfalso; rename ((Uf q.2.1).length : Int) = 0 => hx; omega))
   rename_i T0 hT0 FT NT lT
   have hlT : ∀ p ∈ (D, listOf (refsP (as1 ++ c.1)).toArray c.2.1) :: (NW ++ RT), @LT.lt Nat _ p.1 T0 := fun p hp => by
     rw [hNW] at hp
     dsimp only [List.cons_append, List.nil_append, wLed_app] at hp
     iterate 10 (rcases mc hp with rfl | hp; (focus (dsimp only; first | exact lt_at (by with_reducible assumption) (by k_mem) | (refine ltN ?_; omega))))
     have hA := (by regstrif_gather : AllLt T0 (wLed w A _ _ _))
     exact allLt_mem hA p hp
   (with_reducible rename Fr _ _ _ _ => F1); (with_reducible rename News _ _ _ _ => N1)
   first | k_dflt (refine' append_K ?ap1 ?ap2 ?ap3 ?_ ?ap4; (case ap1 => exact F1); (case ap2 => exact N1); (case ap3 => k_upd); (case ap4 => omega)) | fail
   intro h14 F14 N14
   dsimp only at N14 ⊢
   (repeat' ((fail_if_success with_reducible first | refine zQ1 ?_ | refine zQ2 ?_ | refine zQ3 ?_ | refine zJ ?_ | refine z27 ?_ | refine z28 ?_ | refine z29 ?_ | refine z30 ?_ | refine z31 ?_); tb_rel))
   dsimp only [FPost]
   (with_reducible rename Fr _ _ _ _ => F1); (with_reducible rename News _ _ _ _ => N1)
   have N15 := fold_tail (pre := [_, _, _, _]) (RT := RT) hNW N1
   dsimp only [List.cons_append, List.nil_append] at N15
   have er : (refsP (as1 ++ (c.1 ++ [(T0, Str.empty ++ nName kk ++ Str.ofString ":" ++ Tf q.2.1, q.2.2)]))).toArray = (refsP (as1 ++ c.1)).toArray.push (.ref T0) := by
     unfold refsP
     rw [← List.append_assoc, List.map_append, List.push_toArray]; rfl
   (try (k_unfold; (try dsimp only)))
   refine FEnd.intro (c' := (c.1 ++ [(T0, Str.empty ++ nName kk ++ Str.ofString ":" ++ Tf q.2.1, q.2.2)], c.2.1 + 1, (T0, ({ cls := .type "tuple", data := .seq #[.str (Str.empty ++ nName kk ++ Str.ofString ":" ++ Tf q.2.1) a1, .str q.2.2 t2] } : Obj)) :: c.2.2)) F1 N15 ?_ ?_ ?_ ?_ ⟨?_, ?_, ?_⟩
   · intro p hp
     dsimp only at hp
     rw [er] at hp
     rcases mc hp with rfl | hp
     · exact .tail _ (.tail _ (.tail _ (.head _)))
     rcases ma hp with hp | hp
     · exact .tail _ (.tail _ (.tail _ (.tail _ (ml _ hp))))
     rcases ma hp with hp | hp
     · exact .tail _ (.tail _ (.tail _ (.tail _ (mr _ (hRTa p (ml _ hp))))))
     rcases ma hp with hp | hp
     · exact .tail _ (.tail _ (.tail _ (.tail _ (mr _ (hRTa p (mr _ (ml _ hp)))))))
     rcases mc hp with rfl | hp
     · exact .head _
     exact .tail _ (.tail _ (.tail _ (.tail _ (mr _ (hRTa p (mr _ (mr _ hp)))))))
   · intro p hp
     exact .tail _ (.tail _ (.tail _ (.tail _ (mr _ (hRTo p hp)))))
   · intro p hp b hb
     dsimp only at hp
     rcases mc hp with rfl | hp
     · exact off (D, _) (.head _) b hb
     rcases ma hp with hp | hp
     · exact off p (.tail _ (ml _ hp)) b hb
     rcases ma hp with hp | hp
     · exact off p (.tail _ (mr _ (ml _ hp))) b hb
     rcases ma hp with hp | hp
     · exact off p (.tail _ (mr _ (mr _ (ml _ hp)))) b hb
     rcases mc hp with rfl | hp
     · obtain ⟨ob, hob⟩ := hw b hb
       (revert hob; revert ob; tb_start; refine fun ob => Ap.mk ?_; intros hob)
       exact Nat.ne_of_gt (hlT (b, ob) (.tail _ (mr _ (hRTo _ hob))))
     exact off p (.tail _ (mr _ (mr _ (mr _ hp)))) b hb
   · intro p hp
     iterate 6 (rcases mc hp with rfl | hp; (focus kernel_rfl))
     cases hp
   · dsimp only
     rw [List.map_append, hok1, List.take_add_one, hqi, List.map_append]
     simp only [Option.toList_some, List.map_cons, List.map_nil, hkI]
   · intro r hr
     dsimp only at hr ⊢
     rcases ma hr with hr | hr
     · obtain ⟨b1, b2, hm⟩ := hok2 r hr
       (revert hm; revert b1 b2; with_reducible refine Drk2.all (by kpf_c) ((?_ : All2 _) _ _); refine fun b1 b2 => Ap2.mk ?_; intros hm)
       exact ⟨b1, b2, .tail _ hm⟩
     rw [ms hr]; exact ⟨_, _, .head _⟩
   intro p hp
   dsimp only at hp
   rcases mc hp with rfl | hp
   · refine ⟨hlT (D, _) (.head _), fun r hr => ?_⟩
     rcases ma hr with hr | hr
     · exact hlT r (.tail _ (ml _ hr))
     rcases ma hr with hr | hr
     · exact hlT r (.tail _ (mr _ (hRTa r (ml _ hr))))
     exact hlT r (.tail _ (mr _ (hRTa r (mr _ (ml _ hr)))))
   exact hok3 p hp
 rintro c u h tk htk ⟨hok1, hok2, hok3⟩ Fi Ni
 (revert Xs hfp htk hok1 hok2 hok3 Fi Ni; revert gI I fp wr Md St c u h tk; with_reducible refine Drk5.all (by kpf_c) ((?_ : All5 _) _ _ _ _ _); refine fun gI I fp wr Md => Ap5.mk ?_; with_reducible refine Drk5.all (by kpf_c) ((?_ : All5 _) _ _ _ _ _); refine fun St c u h tk => Ap5.mk ?_; intros Xs hfp htk hok1 hok2 hok3 Fi Ni)
 have hallA : List.take (refsP as2).toArray.size as2 = as2 := by
   unfold refsP
   rw [List.size_toArray, lM]; exact List.take_of_length_le (Nat.le_refl _)
 rw [hallA] at hok1
 have hDps : @LT.lt Nat _ A.ps D := by first | exact lt_at (by with_reducible assumption) (by k_mem) | omega
 have htD : ∀ p ∈ tups ++ c.2.2, @LT.lt Nat _ D p.1 := fun p hp => by
   rcases ma hp with hp | hp
   · exact htl2 p hp (D, listOf (refsP as1).toArray c10) (.tail _ (.head _))
   exact (hok3 p hp).1
 have hR3 : ∀ b : Nat, (∀ p ∈ RQ, p.1 ≠ b) → b ≤ D → ∀ p ∈ RQ ++ (tups ++ c.2.2), p.1 ≠ b := fun b h1 h2 p hp => by
   rcases ma hp with hp | hp
   · exact h1 p hp
   exact Nat.ne_of_gt (Nat.lt_of_le_of_lt h2 (htD p hp))
 have hc1 : @LT.lt Nat _ A.ps c' := by first | exact lt_at (by with_reducible assumption) (by k_mem) | (refine ltN ?_; omega)
 have hc2 : @LT.lt Nat _ c' D := by first | exact lt_at (by with_reducible assumption) (by k_mem) | (refine ltN ?_; omega)
 have hR4 : ∀ b : Nat, (∀ p ∈ RQ, p.1 ≠ b) → b ≤ D → @Ne Nat c' b → ∀ p ∈ (c', oc) :: (RQ ++ (tups ++ c.2.2)), p.1 ≠ b := fun b h1 h2 h3 p hp => by
   rcases mc hp with rfl | hp
   · exact h3
   exact hR3 b h1 h2 p hp
 have hR3D := hR4 D hRRD2 (Nat.le_refl _) (Nat.ne_of_lt hc2)
 have hR3s : ∀ p ∈ RQ, p ∈ (c', oc) :: (RQ ++ (tups ++ c.2.2)) := fun p hp => .tail _ (ml _ hp)
 have hR3c : (c', oc) ∈ (c', oc) :: (RQ ++ (tups ++ c.2.2)) := .head _
 have hR3off : ∀ p ∈ (c', oc) :: (RQ ++ (tups ++ c.2.2)), @LT.lt Nat _ p.1 A.pc ∨ @LT.lt Nat _ A.ps p.1 := fun p hp => by
   rcases mc hp with rfl | hp
   · exact .inr hc1
   rcases ma hp with hp | hp
   · exact hR2off p hp
   exact .inr (Nat.lt_trans hDps (htD p hp))
 have hok2' : ∀ q ∈ c.1, ∃ t1 t2, (q.1, ({ cls := .type "tuple", data := .seq #[.str q.2.1 t1, .str q.2.2 t2] } : Obj)) ∈ (c', oc) :: (RQ ++ (tups ++ c.2.2)) := fun q hq => by
   obtain ⟨b1, b2, hm⟩ := hok2 q hq
   (revert hq hm; revert q b1 b2; with_reducible refine Drk3.all (by kpf_c) ((?_ : All3 _) _ _ _); refine fun q b1 b2 => Ap3.mk ?_; intros hq hm)
   exact ⟨b1, b2, .tail _ (mr _ (mr _ hm))⟩
 have hqsn : qs ∈ zs.map (·.1) := hzp.mem_iff.mpr (by unfold keysTo; exact mr _ (.head _))
 have hqsH := hzH _ hqsn
 obtain ⟨pt, hpt', hpte⟩ := List.mem_map.mp (hkk ▸ hqsn)
 (revert hpt' hpte; revert pt; tb_start; refine fun pt => Ap.mk ?_; intros hpt' hpte)
 obtain ⟨Dt, kt, b1, b2, b3, hvt, hidt, hDt⟩ := hkv pt hpt'
 (revert hvt hidt hDt; revert Dt kt b1 b2 b3; with_reducible refine Drk5.all (by kpf_c) ((?_ : All5 _) _ _ _ _ _); refine fun Dt kt b1 b2 b3 => Ap5.mk ?_; intros hvt hidt hDt)
 rw [hpte] at hidt hDt
 have hkI := idx_of V.nodup hidt
 have hkt20 : kt ≤ 20 := by
   obtain ⟨h1, _⟩ := List.getElem?_eq_some_iff.mp hidt
   have := V.len; omega
 have hnl := nName_len hkt20
 have hvA : valueAt ys qs = some (.ref Dt) := valueAt_mem (by rw [hkk]; exact hznd) (by rw [← hpte, ← hvt]; exact hpt')
 have hDtR := hR3s _ (hRRR _ (hYR _ hDt))
 have hDtD : Dt ≠ D := hR3D _ hDtR
 have OR4 : A.Ord ((dl, listOf (refsN ts) xk') :: (at', oa) :: (123, lamTab c') :: ((c', oc) :: (RQ ++ (tups ++ c.2.2)))) := ⟨O.o, fun p hp => by
   rcases mc hp with rfl | hp
   · exact odl
   rcases mc hp with rfl | hp
   · exact oat
   rcases mc hp with rfl | hp
   · exact otb
   exact hR3off p hp⟩
 have hDtR2 : (Dt, trip (Str.empty ++ nName kt ++ Str.ofString ":" ++ Tf qs) (Tf qs) (Uf qs) b1 b2 b3) ∈ (dl, listOf (refsN ts) xk') :: (at', oa) :: (123, lamTab c') :: ((c', oc) :: (RQ ++ (tups ++ c.2.2))) := .tail _ (.tail _ (.tail _ hDtR))
 have hDtps : @Ne Nat Dt A.ps := neR_ps OR4 w ⟨κκ, κz, κu, κv, κseen, κdone⟩ ⟨pcs, np, dat, nd, lv, nl, nss, nn, pv, nv, opm'⟩ hDtR2
 have hDtpc : @Ne Nat Dt A.pc := neR_pc OR4 w ⟨κκ, κz, κu, κv, κseen, κdone⟩ ⟨pcs, np, dat, nd, lv, nl, nss, nn, pv, nv, opm'⟩ hDtR2
 have hDtns : @Ne Nat Dt A.ns := neR_ns OR4 w ⟨κκ, κz, κu, κv, κseen, κdone⟩ ⟨pcs, np, dat, nd, lv, nl, nss, nn, pv, nv, opm'⟩ hDtR2
 have hDtdx : @Ne Nat Dt A.dx := neR_dx OR4 w ⟨κκ, κz, κu, κv, κseen, κdone⟩ ⟨pcs, np, dat, nd, lv, nl, nss, nn, pv, nv, opm'⟩ hDtR2
 clear hDtR2
 have htl7 := hqsH.tl
 have hcNW : (c', oc) ∈ NW := by rw [hNW]; k_mem
 have hRin : ∀ p ∈ (c', oc) :: (RQ ++ (tups ++ c.2.2)), p ∈ NW ++ (RQ ++ (tups ++ c.2.2)) := fun p hp => by
   rcases mc hp with rfl | hp
   · exact ml _ hcNW
   exact mr _ hp
 have Nk : News g' L' h ((Dt, trip (Str.empty ++ nName kt ++ Str.ofString ":" ++ Tf qs) (Tf qs) (Uf qs) b1 b2 b3) :: (D, listOf (refsP (as1 ++ c.1)).toArray c.2.1) :: (NW ++ ((c', oc) :: (RQ ++ (tups ++ c.2.2))))) := fun p hp => by
   rcases mc hp with rfl | hp
   · exact Ni _ (.tail _ (hRin _ hDtR))
   rcases mc hp with rfl | hp
   · exact Ni _ (.head _)
   rcases ma hp with hp | hp
   · exact Ni p (.tail _ (ml _ hp))
   exact Ni p (.tail _ (hRin p hp))
 have hl1 : (refsP (as1 ++ c.1)).toArray.size ≤ 200 ∧ 1 ≤ (refsP (as1 ++ c.1)).toArray.size := by
   have e1 := hp1.length_eq
   have e2 := congrArg List.length hok1
   rw [lM, lM] at e2
   unfold refsP
   rw [List.size_toArray, lM, lA]
   omega
 have hlq : ∀ q ∈ as1 ++ c.1, q.2.1.length ≤ 400 ∧ q.2.2.length ≤ 14 ∧ (escAttr q.2.2).length ≤ 1000 := fun q hq => by
   rcases ma hq with hq | hq
   · have h1 : q.2 ∈ ps1.map (·.2) := List.mem_map_of_mem (hp1.mem_iff.mp hq)
     rw [hpm1] at h1
     obtain ⟨n, hn', e⟩ := List.mem_map.mp h1
     (revert q n; tb_start; refine fun q => Ap.mk ?_; intros _ hq h1; tb_start; refine fun n => Ap.mk ?_; intros hn' e)
     have h2 := hplen n hn'
     obtain ⟨y, hy, hyu⟩ := usOf_mem (show n.u ∈ usOf Uf (zs.map (·.1)) by rw [← V.u]; exact List.mem_map_of_mem hn')
     (revert hy hyu; revert y; tb_start; refine fun y => Ap.mk ?_; intros hy hyu)
     have h3 := hzH y hy
     have h4 := h3.ul
     have h5 := h3.esc
     rw [hyu] at h4 h5
     rw [← e]
     dsimp only
     rw [h5, strLen_append]
     have : (Str.ofString "xmlns:").length = 6 := by decide +kernel
     omega
   have h1 : q.2 ∈ c.1.map (·.2) := List.mem_map_of_mem hq
   rw [hok1] at h1
   obtain ⟨r, hr, e⟩ := List.mem_map.mp h1
   (revert q r; tb_start; refine fun q => Ap.mk ?_; intros _ hq h1; tb_start; refine fun r => Ap.mk ?_; intros hr e)
   have hrm : r.2.1 ∈ as.map (·.1) := hp2.mem_iff.mp (List.mem_map_of_mem (f := fun q : PairA => q.2.1) hr)
   obtain ⟨pr, hpr, hpre⟩ := List.mem_map.mp hrm
   (revert hpr hpre; revert pr; tb_start; refine fun pr => Ap.mk ?_; intros hpr hpre)
   have h2 := hvl pr hpr
   rw [hpre, ← hv2 r hr] at h2
   have hrns : r.2.1 ∈ zs.map (·.1) := hzp.mem_iff.mpr (by
     unfold keysTo
     rw [List.take_length]
     exact ml _ (List.mem_reverse.mpr hrm))
   have h3 := (hzH _ hrns).tl
   have h4 : (usOf Uf (zs.map (·.1))).idxOf (Uf r.2.1) ≤ 20 := Nat.le_trans List.idxOf_le_length V.len
   have h5 := nName_len h4
   rw [← e]
   dsimp only
   rw [strLen_append, strLen_append, strLen_append]
   have e1 : (Str.ofString ":").length = 1 := by decide +kernel
   have e0 : Str.empty.length = 0 := rfl
   omega
 rw [hNW] at Nk
 dsimp only [List.cons_append, List.nil_append, wLed_app] at Nk
 clear N12 N1x hB2 htl2 hok3 Ni hRin
 generalize (c', oc) :: (RQ ++ (tups ++ c.2.2)) = RT at Nk hR3D hR3s hR3c hR3off hok2' hDtR OR4
 (revert Nk hR3D hR3s hR3c hR3off hok2' hDtR OR4; revert RT; tb_start; refine fun RT => Ap.mk ?_; intros Nk hR3D hR3s hR3c hR3off hok2' hDtR OR4)
 dsimp only
 (repeat' ((fail_if_success with_reducible first | refine zQ1 ?_ | refine zQ2 ?_ | refine zQ3 ?_ | refine zJ ?_ | refine z27 ?_ | refine z28 ?_ | refine z29 ?_ | refine z30 ?_ | refine z31 ?_); tb_rel))
 (with_reducible rename Fr _ _ _ _ => F1); (with_reducible rename News _ _ _ _ => N1)
 refine dict_get1 N1 (by k_mem) hoa has (strKind_is _ _ _ _) ?_
 have hsp1 : valueAt as (Str.ofString "{http://www.w3.org/XML/1998/namespace}space") = none := valueAt_none hsp
 rw [hsp1]
 dsimp only [Option.getD]
 (repeat' ((fail_if_success with_reducible first | refine zQ1 ?_ | refine zQ2 ?_ | refine zQ3 ?_ | refine zJ ?_ | refine z55 ?_ | refine z27 ?_ | refine z28 ?_ | refine z29 ?_ | refine z30 ?_ | refine z31 ?_); tb_rel))
 subst hpv
 (with_reducible rename Fr _ _ _ _ => F1); (with_reducible rename News _ _ _ _ => N1)
 first | k_dflt (refine kba_turn (value' := PySem.Expr.Name (PySem.Str.ofString "_") ⟨0, 0, 0, 0⟩) (fun _ => rfl) ?_) | fail
 first | k_dflt (refine' kim_back (lo := listOf (pvs k) nv) (l := List.replicate (k + 1) (Value.bool false)) (x := .bool false) ?kb1 ?kb2 rfl rfl (by decide) ?kb3 (by decide) ?kb4 ?_; (case kb1 => exact N1); (case kb2 => k_mem); (case kb3 => (rw [List.length_replicate]; omega)); (case kb4 => (rw [List.getElem?_replicate, List.length_replicate, if_pos (by omega)]))) | fail
 (repeat' ((fail_if_success with_reducible first | refine zQ1 ?_ | refine zQ2 ?_ | refine zQ3 ?_ | refine zJ ?_ | refine z27 ?_ | refine z28 ?_ | refine z29 ?_ | refine z30 ?_ | refine z31 ?_); tb_rel))
 (with_reducible rename Fr _ _ _ _ => F1); (with_reducible rename News _ _ _ _ => N1)
 first | k_dflt (refine' append_K ?ap1 ?ap2 ?ap3 ?_ ?ap4; (case ap1 => exact F1); (case ap2 => exact N1); (case ap3 => k_upd); (case ap4 => (rw [pvs_size]; omega))) | fail
 intro h20 F20 N20
 rw [pvs_push] at N20
 dsimp only at N20 ⊢
 (repeat' ((fail_if_success with_reducible first | refine zQ1 ?_ | refine zQ2 ?_ | refine zQ3 ?_ | refine zJ ?_ | refine z27 ?_ | refine z28 ?_ | refine z29 ?_ | refine z30 ?_ | refine z31 ?_); tb_rel))
 first | k_dflt (refine callWith_bndK (D := A.pc) ?_) | fail
 (repeat' ((fail_if_success with_reducible first | refine zQ1 ?_ | refine zQ2 ?_ | refine zQ3 ?_ | refine zJ ?_ | refine z52 ?_ | refine z27 ?_ | refine z28 ?_ | refine z29 ?_ | refine z30 ?_ | refine z31 ?_); tb_rel))
 (with_reducible rename Fr _ _ _ _ => F1); (with_reducible rename News _ _ _ _ => N1)
 first | k_dflt (refine kda_item (knd := strKind _ w) (kvs := ys) (k := qs) (v := .ref Dt) N1 (by k_mem) hdP (strKind_is _ _ _ _) hvA ?_) | fail
 dsimp only
 (repeat' ((fail_if_success with_reducible first | refine zQ1 ?_ | refine zQ2 ?_ | refine zQ3 ?_ | refine zJ ?_ | refine z53 ?_ | refine z54 ?_ | refine z27 ?_ | refine z28 ?_ | refine z29 ?_ | refine z30 ?_ | refine z31 ?_); tb_rel))
 · (with_reducible rename Fr _ _ _ _ => F1); (with_reducible rename News _ _ _ _ => N1)
   exact N1.get (by k_mem)
 first | k_dflt (refine' call_bndK ?F ?N ?M ?U ?_ ?sz; (case F => k_asm); (case N => k_asm); (case M => k_mem); (case U => k_upd); (case sz => omega)) | fail
 intro h21 F21 N21
 dsimp only at N21 ⊢
 rw [← hkI] at N21
 (repeat' ((fail_if_success with_reducible first | refine zQ1 ?_ | refine zQ2 ?_ | refine zQ3 ?_ | refine zJ ?_ | refine z27 ?_ | refine z28 ?_ | refine z29 ?_ | refine z30 ?_ | refine z31 ?_); tb_rel))
 (with_reducible rename Fr _ _ _ _ => F1); (with_reducible rename News _ _ _ _ => N1)
 refine wpAny_truthy_list (isList_news (its := (refsP (as1 ++ c.1)).toArray) N1 (by k_mem)) (by omega) ?_
 rw [if_pos (show (!(refsP (as1 ++ c.1)).toArray.isEmpty) = true by rw [Bool.not_eq_true', Array.isEmpty_eq_false_iff]; intro e; rw [e] at hl1; exact absurd hl1.2 (by simp))]
 (repeat' ((fail_if_success with_reducible first | refine zQ1 ?_ | refine zQ2 ?_ | refine zQ3 ?_ | refine zJ ?_ | refine z27 ?_ | refine z28 ?_ | refine z29 ?_ | refine z30 ?_ | refine z31 ?_); tb_rel))
 first | k_dflt (refine callWith_bndK (D := A.pc) ?_) | fail
 (repeat' ((fail_if_success with_reducible first | refine zQ1 ?_ | refine zQ2 ?_ | refine zQ3 ?_ | refine zJ ?_ | refine z27 ?_ | refine z28 ?_ | refine z29 ?_ | refine z30 ?_ | refine z31 ?_); tb_rel))
 first | k_dflt (refine listComp_G F1 (by with_unfolding_all rfl) (by decide) (by rfl) (by decide) ?_ (fun _ => rfl)) | fail
 (repeat' ((fail_if_success with_reducible first | refine zQ1 ?_ | refine zQ2 ?_ | refine zQ3 ?_ | refine zJ ?_ | refine z27 ?_ | refine z28 ?_ | refine z29 ?_ | refine z30 ?_ | refine z31 ?_); tb_rel))
 (with_reducible rename Fr _ _ _ _ => F1); (with_reducible rename News _ _ _ _ => N1)
 obtain ⟨NL, hNL, N1x⟩ := split_all N1
 (revert hNL N1x; revert NL; tb_start; refine fun NL => Ap.mk ?_; intros hNL N1x)
 refine source_listO (its := (refsP (as1 ++ c.1)).toArray) rfl F1 N1x (by rw [hNL]; k_mem) (Nat.le_trans hl1.1 (by decide)) (fun i v _ _ _ _ _ hit hv q => (by obtain ⟨z, _, rfl⟩ := refP_of hv; exact wpAny_letOwnedTupleGo_listiter hit q)) fun gI I fp wr Md St Xs hfp => ⟨_, _, _, _, _, I, fp, wr, St, fun i ys nw => nw = NL ∧ StrsAre ys (((as1 ++ c.1).take i).map fun q => rowS q.2), Xs, fun p hp => hp, ⟨rfl, .nil⟩, ?_, ?_⟩
 · refine CTurnL.pair rfl (by rfl) (by rfl) (by decide) (by rfl) (fun i a b => ∃ q, (as1 ++ c.1)[i]? = some q ∧ ∃ t1 t2, a = .str q.2.1 t1 ∧ b = .str q.2.2 t2) ?_ ?_
   · (revert Xs hfp; revert gI I fp wr Md St; with_reducible refine Drk6.all (by kpf_c) ((?_ : All6 _) _ _ _ _ _ _); refine fun gI I fp wr Md St => Ap6.mk ?_; intros Xs hfp)
     intro i v h ys nw own hi hP hJ Nn
     obtain ⟨hnw, _⟩ := hJ
     rw [hnw] at Nn
     obtain ⟨q, hq, rfl⟩ := refP_of hP
     (revert hq hP; revert q; tb_start; refine fun q => Ap.mk ?_; intros hq hP)
     obtain ⟨t1, t2, hqt⟩ : ∃ t1 t2, (q.1, ({ cls := .type "tuple", data := .seq #[.str q.2.1 t1, .str q.2.2 t2] } : Obj)) ∈ RT := by
       rcases ma (List.mem_of_getElem? hq) with h | h
       · obtain ⟨t1, t2, hm⟩ := hpt q (hp1.mem_iff.mp h)
         (revert hm; revert t1 t2; with_reducible refine Drk2.all (by kpf_c) ((?_ : All2 _) _ _); refine fun t1 t2 => Ap2.mk ?_; intros hm)
         exact ⟨t1, t2, hR3s _ (hTlR _ hm)⟩
       exact hok2' q h
     have hqN : (q.1, ({ cls := .type "tuple", data := .seq #[.str q.2.1 t1, .str q.2.2 t2] } : Obj)) ∈ NL := by
       rw [hNL]
       (repeat (first | exact wLed_R (.tail _ (.tail _ (.tail _ hqt))) | refine List.mem_cons_of_mem _ ?_))
     exact ⟨_, _, _, rfl, ⟨_, (Nn _ (ml _ hqN)).1, rfl, _, rfl⟩, q, hq, t1, t2, rfl, rfl⟩
   rintro i a b C oC D' m₂ h tk ys nw own htk hi ⟨q, hq, t1, t2, rfl, rfl⟩ ⟨hnw, hS⟩ hC hv1 hv2 Fc Nc off hown hw hCD hCL hDL
   (revert Xs hfp htk hi hq hnw hS hC hv1 hv2 Fc Nc off hown hw hCD hCL hDL; revert gI I fp wr Md St i C oC D' m₂ h tk ys nw own q t1 t2; with_reducible refine Drk7.all (by kpf_c) ((?_ : All7 _) _ _ _ _ _ _ _); refine fun gI I fp wr Md St i => Ap7.mk ?_; with_reducible refine Drk7.all (by kpf_c) ((?_ : All7 _) _ _ _ _ _ _ _); refine fun C oC D' m₂ h tk ys => Ap7.mk ?_; with_reducible refine Drk5.all (by kpf_c) ((?_ : All5 _) _ _ _ _ _); refine fun nw own q t1 t2 => Ap5.mk ?_; intros Xs hfp htk hi hq hnw hS hC hv1 hv2 Fc Nc off hown hw hCD hCL hDL)
   have hqb := hlq q (List.mem_of_getElem? hq)
   have el1 : (Str.ofString " ").length = 1 := by decide +kernel
   have el2 : (Str.ofString "=\"").length = 2 := by decide +kernel
   have el3 : (Str.ofString "\"").length = 1 := by decide +kernel
   have el0 : Str.empty.length = 0 := rfl
   dsimp only
   (repeat' ((fail_if_success with_reducible first | refine zQ1 ?_ | refine zQ2 ?_ | refine zQ3 ?_ | refine zJ ?_ | refine z27 ?_ | refine z28 ?_ | refine z29 ?_ | refine z30 ?_ | refine z31 ?_); tb_rel))
   (k_dflt (refine' CtrP.use (attr_ctr q.2.2 t2 hqb.2.1) ?hA ?B ?F ?X ?N ?T ?kk ?hd ?hu ?ht ?_; (case hA => exact rfl); (case B => k_asm); (case F => k_asm); (case X => k_asm); (case N => k_asm); (case T => k_asm); (case kk => first | exact rfl | assumption); (case hd => allgen_close_more); (case ht => first | assumption | (dsimp only; omega)); (case hu => allgen_close_more)))
   rintro _ _ h7 tk7 htk7 ⟨rfl, t7, rfl⟩ F7 N7
   (revert htk7 F7 N7; revert h7 tk7 t7; with_reducible refine Drk3.all (by kpf_c) ((?_ : All3 _) _ _ _); refine fun h7 tk7 t7 => Ap3.mk ?_; intros htk7 F7 N7)
   dsimp only
   (repeat' ((fail_if_success with_reducible first | refine zQ1 ?_ | refine zQ2 ?_ | refine zQ3 ?_ | refine zJ ?_ | refine z27 ?_ | refine z28 ?_ | refine z29 ?_ | refine z30 ?_ | refine z31 ?_); tb_rel))
   (with_reducible rename Fr _ _ _ _ => F1); (with_reducible rename News _ _ _ _ => N1)
   (try (k_unfold; (try dsimp only)))
   refine CEnd.intro F1 N1 hC nw (fun p hp => hp) off ⟨hnw, ?_⟩
   rw [List.take_add_one, hq, List.map_append]
   exact strsAre_snoc hS
 (revert Xs hfp; revert gI I fp wr Md St; with_reducible refine Drk6.all (by kpf_c) ((?_ : All6 _) _ _ _ _ _ _); refine fun gI I fp wr Md St => Ap6.mk ?_; intros Xs hfp)
 intro DJ ys nw hltJ hneJ hJ hj tkj htkj FJ NJ
 obtain ⟨hnw, hS⟩ := hJ
 rw [hnw, hNL] at NJ
 rw [hNL] at hltJ
 have hallJ : List.take (refsP (as1 ++ c.1)).toArray.size (as1 ++ c.1) = as1 ++ c.1 := by
   unfold refsP
   rw [List.size_toArray, lM]; exact List.take_of_length_le (Nat.le_refl _)
 rw [hallJ] at hS
 clear N1 N1x hnw hneJ
 k_lt hltJ
 have hwt : ((((as1 ++ c.1).map fun q => rowS q.2).map (·.length)).sum + ((as1 ++ c.1).map fun q => rowS q.2).length) ≤ 1048576 := by
   have h2 : ∀ l : List PairA, (∀ q ∈ l, q.2.1.length ≤ 400 ∧ q.2.2.length ≤ 14 ∧ (escAttr q.2.2).length ≤ 1000) → ((l.map fun q => rowS q.2).map (·.length)).sum ≤ 1500 * l.length := by
     intros l
     induction l with
     | nil => intro _; exact Nat.le_refl _
     | cons a r ih =>
       intro hh
       have h3 := ih fun q hq => hh q (.tail _ hq)
       have h4 := hh a (.head _)
       rw [List.map_cons, List.map_cons, List.sum_cons, List.length_cons]
       have h5 : (rowS a.2).length ≤ 1500 := by
         unfold rowS
         rw [strLen_append, strLen_append, strLen_append, strLen_append, strLen_append]
         have e1 : (Str.ofString " ").length = 1 := by decide +kernel
         have e2 : (Str.ofString "=\"").length = 2 := by decide +kernel
         have e3 : (Str.ofString "\"").length = 1 := by decide +kernel
         have e0 : Str.empty.length = 0 := rfl
         omega
       omega
   have h6 := h2 (as1 ++ c.1) hlq
   have h7 : (as1 ++ c.1).length ≤ 200 := by
     have := hl1.1
     unfold refsP at this
     rw [List.size_toArray, lM] at this
     exact this
   rw [lM]
   omega
 dsimp only
 (revert htkj FJ NJ; revert hj tkj; with_reducible refine Drk2.all (by kpf_c) ((?_ : All2 _) _ _); refine fun hj tkj => Ap2.mk ?_; intros htkj FJ NJ)
 (repeat' ((fail_if_success with_reducible first | refine zQ1 ?_ | refine zQ2 ?_ | refine zQ3 ?_ | refine zJ ?_ | refine z27 ?_ | refine z28 ?_ | refine z29 ?_ | refine z30 ?_ | refine z31 ?_); tb_rel))
 refine join_listW (isList_news NJ (.head _)) hS (by decide) hwt ?_
 intro tw2 k2
 (repeat' ((fail_if_success with_reducible first | refine zQ1 ?_ | refine zQ2 ?_ | refine zQ3 ?_ | refine zJ ?_ | refine z53 ?_ | refine z54 ?_ | refine z27 ?_ | refine z28 ?_ | refine z29 ?_ | refine z30 ?_ | refine z31 ?_); tb_rel))
 · (with_reducible rename Fr _ _ _ _ => F1); (with_reducible rename News _ _ _ _ => N1)
   exact N1.get (by k_mem)
 have erows : ((as1 ++ c.1).map fun q => rowS q.2) = ((as1.map (·.2)) ++ ((as2.map (·.2.1)).map fun y => (Str.empty ++ nName ((usOf Uf (zs.map (·.1))).idxOf (Uf y)) ++ Str.ofString ":" ++ Tf y, vf y))).map rowS := by
   have e2 : c.1.map (·.2) = (as2.map (·.2.1)).map fun y => (Str.empty ++ nName ((usOf Uf (zs.map (·.1))).idxOf (Uf y)) ++ Str.ofString ":" ++ Tf y, vf y) := by
     rw [hok1, List.map_map]
     exact List.map_congr_left fun q hq => by simp only [Function.comp]; rw [hv2 q hq]
   rw [← e2, List.map_append, List.map_append, List.map_map, List.map_map]; rfl
 rw [erows]
 first | k_dflt (refine' call_bndK ?F ?N ?M ?U ?_ ?sz; (case F => k_asm); (case N => k_asm); (case M => k_mem); (case U => k_upd); (case sz => (rw [Array.size_push]; omega))) | fail
 intro h22 F22 N22
 dsimp only at N22 ⊢
 (repeat' ((fail_if_success with_reducible first | refine zQ1 ?_ | refine zQ2 ?_ | refine zQ3 ?_ | refine zJ ?_ | refine z27 ?_ | refine z28 ?_ | refine z29 ?_ | refine z30 ?_ | refine z31 ?_); tb_rel))
 first | k_dflt (refine callWith_bndK (D := A.pc) ?_) | fail
 (repeat' ((fail_if_success with_reducible first | refine zQ1 ?_ | refine zQ2 ?_ | refine zQ3 ?_ | refine zJ ?_ | refine z53 ?_ | refine z54 ?_ | refine z27 ?_ | refine z28 ?_ | refine z29 ?_ | refine z30 ?_ | refine z31 ?_); tb_rel))
 · (with_reducible rename Fr _ _ _ _ => F1); (with_reducible rename News _ _ _ _ => N1)
   exact N1.get (by k_mem)
 first | k_dflt (refine' call_bndK ?F ?N ?M ?U ?_ ?sz; (case F => k_asm); (case N => k_asm); (case M => k_mem); (case U => k_upd); (case sz => (rw [Array.size_push, Array.size_push]; omega))) | fail
 intro h23 F23 N23
 dsimp only at N23 ⊢
 (repeat' ((fail_if_success with_reducible first | refine zQ1 ?_ | refine zQ2 ?_ | refine zQ3 ?_ | refine zJ ?_ | refine z27 ?_ | refine z28 ?_ | refine z29 ?_ | refine z30 ?_ | refine z31 ?_); tb_rel))
 (with_reducible rename Fr _ _ _ _ => F1); (with_reducible rename News _ _ _ _ => N1)
 first | k_dflt (refine' append_K ?ap1 ?ap2 ?ap3 ?_ ?ap4; (case ap1 => exact F1); (case ap2 => exact N1); (case ap3 => k_upd); (case ap4 => omega)) | fail
 intro h24 F24 N24
 dsimp only at N24 ⊢
 (repeat' ((fail_if_success with_reducible first | refine zQ1 ?_ | refine zQ2 ?_ | refine zQ3 ?_ | refine zJ ?_ | refine z27 ?_ | refine z28 ?_ | refine z29 ?_ | refine z30 ?_ | refine z31 ?_); tb_rel))
 ((try (k_unfold; (try dsimp only))); k_dflt (refine' leaveK_ ?k1 ?k2 ?_; (case k1 => k_asm); (case k2 => k_asm)); intro kF kN; (try dsimp only))
 have pB1 : (as1.map (·.2)).Perm (ts.map fun q => (Str.ofString "xmlns:" ++ q.p, q.u)) := by rw [← hpm1]; exact hp1.map (·.2)
 have pB2 : (as1.map (·.2)).Pairwise (fun a b => lt2 a.1 a.2 b.1 b.2 = true) := by rw [List.pairwise_map]; exact hpw1
 have pB3 : (as2.map (·.2.1)).Pairwise (fun a b => lt2 a (vf a) b (vf b) = true) := by
   rw [List.pairwise_map]
   exact hpw2.imp_of_mem fun {a b} ha hb hab => by rw [← hv2 a ha, ← hv2 b hb]; exact hab
 have pV : RootN w (usOf Uf (zs.map (·.1))) ts opm' ((dl, listOf (refsN ts) xk') :: (at', oa) :: (123, lamTab c') :: RT) := V.at fun q hq => by
   have h1 := hts q hq
   rcases mc h1 with h | h
   · rw [h]; exact .tail _ (.head _)
   rcases mc h with h | h
   · rw [h]; exact .tail _ (.tail _ (.head _))
   exact .tail _ (.tail _ (.tail _ (hR3s _ (hRRR _ h))))
 have pO : WA.Ord A ((dl, listOf (refsN ts) xk') :: (at', oa) :: (123, lamTab c') :: RT) := ⟨O.o, fun p hp => by
   rcases mc hp with rfl | hp
   · exact odl
   rcases mc hp with rfl | hp
   · exact oat
   rcases mc hp with rfl | hp
   · exact otb
   exact hR3off p hp⟩
 have pR : ∀ p ∈ R', p ∈ RT := fun p hp => hR3s _ (hRRR _ (hRRs p hp))
 obtain ⟨tw1, tw3, n2, kN2⟩ : ∃ tw1 tw3 n2, News h₀ L _ (wLed w A ⟨κκ, κz, κu, κv, true, κdone⟩ ⟨((pcs.push (.str (Str.ofString "<" ++ (Str.empty ++ nName ((usOf Uf (zs.map (·.1))).idxOf (Uf qs)) ++ Str.ofString ":" ++ Tf qs)) tw1)).push (.str (Txt.join (Str.ofString "") (((as1.map (·.2)) ++ ((as2.map (·.2.1)).map fun y => (Str.empty ++ nName ((usOf Uf (zs.map (·.1))).idxOf (Uf y)) ++ Str.ofString ":" ++ Tf y, vf y))).map rowS)) tw2)).push (.str (Str.ofString ">") tw3), np + 1 + 1 + 1, dat, nd, lv, nl, nss.push n2, nn + 1, pvs (k + 1), nv + 1, opm'⟩ ((dl, listOf (refsN ts) xk') :: (at', oa) :: (123, lamTab c') :: RT)) := by
   (try dsimp only)
   exact ⟨_, _, _, fun p hp => kN p (.tail _ (.tail _ (.tail _ (.tail _ (.tail _ (.tail _ (.tail _ (.tail _ (.tail _ (.tail _ (.tail _ (.tail _ (.tail _ hp)))))))))))))⟩
 refine hret _ _ _ _ _ ?_ kF kN2
 exact root_fin hzp hzs pB1 pB2 hp2 pB3 hoc hfv pV pO hR3c pR
theorem start_top {w : World} {d u : Nat} {A : WA} {κ : WT} {S : WL} {R' : Led} (hdd : 30 ≤ d) (hu : 80 ≤ u) {at' : Addr} {oa : Obj} (O : A.Ord ((at', oa) :: (123, tabObj #[]) :: R')) {qs : Str} (t : Tok) {Uf Tf vf : Str → Str} {as : List (Str × Value)}
   (hoa : oa.IsDictOf (strKind rw_pg0305_01.row.prog w) as) (has : (at' == sysModules) = false) (has2 : 2 ≤ as.length) (hn : as.length ≤ 12) (hval : ∀ p ∈ as, ∃ t, p.2 = .str (vf p.1) t) (hvl : ∀ p ∈ as, (vf p.1).length ≤ 3 ∧ (escAttr (vf p.1)).length ≤ 1000) (hq : ∀ p ∈ as, p.1 ≠ qs) (hnd : (as.map (·.1)).Nodup) (hU2 : ∃ p ∈ as, ∃ q ∈ as, Uf p.1 ≠ Uf q.1)
   (H : ∀ y ∈ keysTo as qs as.length, RName Uf Tf y) (hsi : ∀ y y', y ∈ keysTo as qs as.length → y' ∈ keysTo as qs as.length → y ≠ y' → spl0 y = spl0 y' → spl1 y ≠ spl1 y') (hsp : ∀ p ∈ as, p.1 ≠ spaceKey)
   (hlv : S.lv = #[.ref A.d0]) (hopm : S.opm.IsDictOf (strKind rw_pg0305_01.row.prog w) []) (hsm : (A.pm == sysModules) = false) {k : Nat} (hpv : S.pv = pvs k) (hkk : k ≤ 100) (hpn : S.pcs.size ≤ 900) (hnn : S.nss.size ≤ 1000) (hne3 : at' ≠ 123) (hne5 : ∀ p ∈ R', p.1 ≠ at') (hne6 : ∀ p ∈ R', p.1 ≠ 123) (hdat : S.dat = #[]) :
   CtrD0 w 120 d u (wLed w A κ S ((at', oa) :: (123, tabObj #[]) :: R')) [.ref A.x, .str qs t, .ref at'] (fun v l => ∃ dl, RootPost w A κ { S with lv := #[.ref A.d0, .ref dl], nl := S.nl + 1 } at' oa dl R' qs as Uf Tf vf k v l) := by
 w_top off
 obtain ⟨pcs, np, dat, nd, lv, nl, nss, nn, pv, nv, opm⟩ := S
 obtain ⟨κκ, κz, κu, κv, κseen, κdone⟩ := κ
 have h1000 : 2000 ≤ sizeLine := by decide
 dsimp only at hpv hpn hnn hdat hlv
 subst hdat hlv
 have oat : @LT.lt Nat _ at' A.pc ∨ @LT.lt Nat _ A.ps at' := O.off (at', _) (.head _)
 have otb : @LT.lt Nat _ 123 A.pc ∨ @LT.lt Nat _ A.ps 123 := O.off (123, _) (.tail _ (.head _))
 (revert hdd hu O hoa has has2 hn hval hvl hq hnd hU2 H hsi hsp hsm hkk hne3 hne5 hne6 hpv hpn hnn hopm oat otb; revert w d u A R' at' oa qs t Uf Tf vf as k pcs np nd nl nss nn pv nv opm κκ κz κu κv κseen κdone; with_reducible refine (no_implicit_lambda% (Drk8.all (by kpf_c) ((?_ : All8 _) _ _ _ _ _ _ _ _))); refine fun w d u A R' at' oa qs => Ap8.mk ?_; with_reducible refine (no_implicit_lambda% (Drk8.all (by kpf_c) ((?_ : All8 _) _ _ _ _ _ _ _ _))); refine fun t Uf Tf vf as k pcs np => Ap8.mk ?_; with_reducible refine (no_implicit_lambda% (Drk8.all (by kpf_c) ((?_ : All8 _) _ _ _ _ _ _ _ _))); refine fun nd nl nss nn pv nv opm κκ => Ap8.mk ?_; with_reducible refine (no_implicit_lambda% (Drk5.all (by kpf_c) ((?_ : All5 _) _ _ _ _ _))); refine fun κz κu κv κseen κdone => Ap5.mk ?_; intros hdd hu O hoa has has2 hn hval hvl hq hnd hU2 H hsi hsp hsm hkk hne3 hne5 hne6 hpv hpn hnn hopm oat otb)
 (refine CtrD0.open ?_; generalize CtrD0.cs _ _ _ _ _ _ _ = bCS; unfold CtrD0.At; generalize bCS.p = p, bCS.loose = loose, bCS.mean = mean, bCS.mg = mg, bCS.mb = mb, bCS.dp = dp, bCS.un = un, bCS.gd = gd, bCS.cn = cn, bCS.cs = cs, bCS.a = a, bCS.ccd = ccd, bCS.cl = cl, bCS.outer = outer, bCS.A₀ = A₀, bCS.base = base, bCS.h₀ = h₀, bCS.L = L, bCS.m = m, bCS.s = s, bCS.Q = Q, bCS.E = E; clear bCS; intros St hret; obtain ⟨B, F, X, N, T, hk, hdp, hup⟩ := St; revert X; k_fill; intro X; refine wpAny_call ?_)
 (k_dflt (refine' code_def ?k1 ?k2 ?k3 ?k4 ?k5 ?kA ?kF ?kK ?k6 ?k7 ?k8 ?k9 ?kB ?_ ?c2 ?c3 ?c4 ?c5; (case kA => exact rfl); (case kF => exact rfl); (case kK => assumption); (case k1 => k_asm); (case k2 => k_asm); (case k3 => k_asm); (case k4 => k_asm); (case k5 => k_asm); (case k6 => k_is); (case k7 => k_is); (case k8 => first | allgen_close_more | (simp only [depth_in1, depth_deeper] at *; omega)); (case k9 => first | exact BindsTo.of_eq rfl | exact binds_K (by k_in) rfl (by k_is) rfl rfl rfl); (case c5 => decide); (case kB => exact locs rfl); (case c2 => exact rfl); (case c3 => exact rfl); (case c4 => exact rfl); k_whole; intro g' L' h' FG' F' N' B' X' T'); (try dsimp only); (refine wp_noE ?_); (refine wp_toks ?_); intro tk0; (try dsimp only); (try k_fold))
 replace F' : Fr g' L' h' (fun y' => List.lookup y' [(Str.ofString "attrs", .ref at'), (Str.ofString "tag", .str qs t), (Str.ofString "self", .ref A.x)]) := fr_eq F' (by kernel_rfl)
 (repeat' ((fail_if_success with_reducible first | refine zQ1 ?_ | refine zQ2 ?_ | refine zQ3 ?_ | refine zJ ?_ | refine z28 ?_ | refine z27 ?_); tb_rel))
 (with_reducible rename Fr _ _ _ _ => F1); (with_reducible rename News _ _ _ _ => N1)
 refine wpAny_truthy_list (isList_news (its := (#[] : Array Value)) (k := nd) N1 (by k_mem)) (by decide) ?_
 dsimp only
 (repeat' ((fail_if_success with_reducible first | refine zQ1 ?_ | refine zQ2 ?_ | refine zQ3 ?_ | refine zJ ?_ | refine z27 ?_); tb_rel))
 rename_i dl hq0 lq0 lq1 lq2 lq3
 (with_reducible rename Fr _ _ _ _ => F1); (with_reducible rename News _ _ _ _ => N1)
 first | k_dflt (refine' append_K ?ap1 ?ap2 ?ap3 ?_ ?ap4; (case ap1 => exact F1); (case ap2 => exact N1); (case ap3 => k_upd); (case ap4 => (show 1 ≤ sizeLine; omega))) | fail
 intro h9 F9 N9
 dsimp only at N9 ⊢
 (repeat' ((fail_if_success with_reducible first | refine zQ1 ?_ | refine zQ2 ?_ | refine zQ3 ?_ | refine zJ ?_ | refine z27 ?_); tb_rel))
 have hdl : @LT.lt Nat _ A.ps dl := allLt_top (by regstrif_gather)
 have hdR : ∀ p ∈ (at', oa) :: (123, tabObj #[]) :: R', @LT.lt Nat _ p.1 dl := allLt_mem (allLt_R (by regstrif_gather))
 have N10 : News g' L' h9 (wLed w A ⟨κκ, κz, κu, κv, κseen, κdone⟩ ⟨pcs, np, #[], nd, #[.ref A.d0, .ref dl], nl + 1, nss, nn, pv, nv, opm⟩ ([(dl, listOf #[] 0)] ++ ((at', oa) :: (123, tabObj #[]) :: R'))) := fun p hp => N9 p (mem_swap hp)
 have O10 : WA.Ord A ((dl, listOf #[] 0) :: (at', oa) :: (123, tabObj #[]) :: R') := ⟨O.o, fun p hp => by
   rcases mc hp with rfl | hp
   · exact .inr hdl
   exact O.off p hp⟩
 have hr := start_root (d := 25) (u := 70) (κ := ⟨κκ, κz, κu, κv, κseen, κdone⟩) (S := ⟨pcs, np, #[], nd, #[.ref A.d0, .ref dl], nl + 1, nss, nn, pv, nv, opm⟩) (by decide) (by decide) O10 t hoa has has2 hn hval hvl hq hnd hU2 H hsi hsp rfl hopm hsm hpv hkk (by dsimp only; omega) hnn
   (Nat.ne_of_gt (hdR _ (.head _))) (Nat.ne_of_gt (hdR (123, tabObj #[]) (.tail _ (.head _)))) hne3 (fun p hp => Nat.ne_of_lt (hdR p (.tail _ (.tail _ hp)))) hne5 hne6
 (k_dflt (refine' CtrD0.use (hr) ?hA ?B ?F ?X ?N ?T ?kk ?hd ?hu ?_; (case hA => exact rfl); (case B => k_asm); (case F => k_asm); (case X => k_asm); (case N => k_asm); (case T => k_asm); (case kk => first | exact rfl | assumption); (case hd => allgen_close_more); (case hu => allgen_close_more)))
 rintro v11 l11 h11 tk11 dr11 hp11 F11 N11
 (revert hp11 F11 N11; revert v11 l11 h11 tk11 dr11; with_reducible refine (no_implicit_lambda% (Drk5.all (by kpf_c) ((?_ : All5 _) _ _ _ _ _))); refine fun v11 l11 h11 tk11 dr11 => Ap5.mk ?_; intros hp11 F11 N11)
 obtain ⟨rfl, hp12⟩ := hp11
 dsimp only
 (repeat' ((fail_if_success with_reducible first | refine zQ1 ?_ | refine zQ2 ?_ | refine zQ3 ?_ | refine zJ ?_ | refine z27 ?_); tb_rel))
 ((try (k_unfold; (try dsimp only))); k_dflt (refine' leaveK_ ?k1 ?k2 ?_; (case k1 => k_asm); (case k2 => k_asm)); intro kF kN; (try dsimp only))
 exact hret _ _ _ _ _ ⟨dl, rfl, hp12⟩ kF kN
def CtrS (w : World) (f : Addr) (d u : Nat) (sl : Addr) (sv : List Value) (news : Led) (vs : List Value) (P : Value → Led → Prop) : Prop :=
 ∀ (p : Program) (loose : List Str) (mean : ExcName → Option Value) (mg mb : Str → Option Value) (dp un : Nat) (gd : Option (List Code)) (cn : Str) (cs : Scope) (a : Addr) (ccd : Value) (cl : List (Str × Addr)) (outer : List Env)
   (A₀ : Around) (base h₀ : Heap) (L : Addr) (m : Str → Option Value) (s : Shared) (Q E : Value → Shared → Prop),
   Site w A₀ base h₀ outer cs L m news s dp un d u p loose mean mg mb → h₀.IsList sl sv.toArray →
   (∀ (v : Value) (news' : Led) (h' : Heap) (tk' : Nat), P v news' → Fr h₀ L h' m → News h₀ L h' news' → Q v { s with heap := h', toks := tk' }) →
   wpAny (model rw_pg0305_01.row.prog w) (ktrTop dp un gd cn cs L a ccd cl outer) (call (.ref f) vs) Q E s
def CtrS.At (w : World) (f : Addr) (d u : Nat) (sl : Addr) (sv : List Value) (news : Led) (vs : List Value) (P : Value → Led → Prop) (b : CS) : Prop :=
   Site w b.A₀ b.base b.h₀ b.outer b.cs b.L b.m news b.s b.dp b.un d u b.p b.loose b.mean b.mg b.mb → b.h₀.IsList sl sv.toArray →
   (∀ (v : Value) (news' : Led) (h' : Heap) (tk' : Nat), P v news' → Fr b.h₀ b.L h' b.m → News b.h₀ b.L h' news' → b.Q v { b.s with heap := h', toks := tk' }) →
   wpAny (model rw_pg0305_01.row.prog w) (ktrTop b.dp b.un b.gd b.cn b.cs b.L b.a b.ccd b.cl b.outer) (call (.ref f) vs) b.Q b.E b.s
noncomputable def CtrS.cs (w : World) (f : Addr) (d u : Nat) (sl : Addr) (sv : List Value) (news : Led) (vs : List Value) (P : Value → Led → Prop) : CS := Drk neCS (CtrS.At w f d u sl sv news vs P)
theorem CtrS.open {w : World} {f : Addr} {d u : Nat} {sl : Addr} {sv : List Value} {news : Led} {vs : List Value} {P : Value → Led → Prop} (h : CtrS.At w f d u sl sv news vs P (CtrS.cs w f d u sl sv news vs P)) : CtrS w f d u sl sv news vs P :=
 fun p loose mean mg mb dp un gd cn cs a ccd cl outer A₀ base h₀ L m s Q E => Drk.one neCS (C := CtrS.At w f d u sl sv news vs P) h ⟨p, loose, mean, mg, mb, dp, un, gd, cn, cs, a, ccd, cl, outer, A₀, base, h₀, L, m, s, Q, E⟩
abbrev NumSt := List Int × List Value × Nat
def nbd (k : Nat) : Int := 1000 * 257 ^ k
theorem intsAre_snoc {vs : List Value} {ys : List Int} {y : Int} {t : Tok} (h : IntsAre vs ys) : IntsAre (vs ++ [.int y t]) (ys ++ [y]) := by
 induction h with
 | nil => exact .cons _ _ .nil
 | cons a u _ ih => exact .cons a u ih
theorem getD_bd {l : List Int} {b : Int} (h : ∀ n ∈ l, 0 ≤ n ∧ n ≤ b) (hb : 0 ≤ b) (k : Nat) : 0 ≤ l.getD k 0 ∧ l.getD k 0 ≤ b := by
 rw [List.getD_eq_getElem?_getD]
 cases e : l[k]? with
 | none => exact ⟨Int.le_refl _, hb⟩
 | some x => exact h x (List.mem_of_getElem? e)
theorem fm63 (x : Int) : x.fmod 3 < 2 ^ 63 := Int.lt_trans (Int.fmod_lt_of_pos x (by decide)) (by decide)
theorem nbd_pos (k : Nat) : 1000 ≤ nbd k := by
 unfold nbd
 have : (1 : Int) ≤ 257 ^ k := by
   have := Int.pow_pos (n := 257) (m := k) (by decide)
   omega
 omega
theorem nbd_succ (k : Nat) : nbd (k + 1) = 257 * nbd k := by
 unfold nbd; rw [Int.pow_succ]; omega
def nmu (ns : List Int) (x : Int) : Nat := (ns.filter (fun n => decide (x ≤ n))).length + (if x = 0 then 1 else 0)
theorem nmu_step {ns : List Int} {x : Int} (h : x = 0 ∨ x ∈ ns) (hp : ∀ n ∈ ns, 0 < n) : nmu ns (x + 1) < nmu ns x := by
 have hle : ∀ l : List Int, (l.filter (fun n => decide (x + 1 ≤ n))).length ≤ (l.filter (fun n => decide (x ≤ n))).length := fun l => by
   induction l with
   | nil => exact Nat.le_refl _
   | cons a r ih =>
     rw [List.filter_cons, List.filter_cons]
     by_cases h1 : x + 1 ≤ a
     · rw [if_pos (decide_eq_true h1), if_pos (decide_eq_true (by omega : x ≤ a))]; simpa using ih
     rw [if_neg (by simpa using h1)]
     split
     · simp only [List.length_cons]; omega
     exact ih
 have hlt : ∀ l : List Int, x ∈ l → (l.filter (fun n => decide (x + 1 ≤ n))).length < (l.filter (fun n => decide (x ≤ n))).length := fun l => by
   induction l with
   | nil => intro h; cases h
   | cons a r ih =>
     intro hm
     rw [List.filter_cons, List.filter_cons]
     rcases mc hm with rfl | hm
     · rw [if_neg (by simp; omega), if_pos (by simp)]
       have := hle r
       simp only [List.length_cons]; omega
     have := ih hm
     by_cases h1 : x + 1 ≤ a
     · rw [if_pos (decide_eq_true h1), if_pos (decide_eq_true (by omega : x ≤ a))]; simpa using this
     rw [if_neg (by simpa using h1)]
     split
     · simp only [List.length_cons]; omega
     exact this
 unfold nmu
 have h1 := hle ns
 rcases h with rfl | h
 · rw [if_neg (by decide), if_pos rfl]; omega
 have h2 := hlt ns h
 have h3 := hp x h
 rw [if_neg (by omega), if_neg (by omega)]; omega
theorem numbers_ctr {w : World} {news : Led} {sl : Addr} {sv : List Value} {zs : List Int} (hz : IntsAre sv zs) (hz63 : zs.length ≤ 63) :
   CtrS w 182 2 12 sl sv news [.ref sl] (fun v l => ∃ (D : Nat) (vs : List Value) (ns : List Int) (c : Nat), v = .ref D ∧ l = (D, listOf vs.toArray c) :: news ∧ (∀ p ∈ news, p.1 < D) ∧ IntsAre vs ns ∧ 3 ≤ ns.length ∧ ns.length ≤ 8 ∧ ns.Nodup ∧ ∀ n ∈ ns, 0 < n ∧ n < 16 ^ 14) := by
 w_top off
 (revert hz hz63; revert w news sl sv zs; with_reducible refine (no_implicit_lambda% (Drk5.all (by kpf_c) ((?_ : All5 _) _ _ _ _ _))); refine fun w news sl sv zs => Ap5.mk ?_; intros hz hz63)
 (refine CtrS.open ?_; generalize CtrS.cs _ _ _ _ _ _ _ _ _ = bCS; unfold CtrS.At; generalize bCS.p = p, bCS.loose = loose, bCS.mean = mean, bCS.mg = mg, bCS.mb = mb, bCS.dp = dp, bCS.un = un, bCS.gd = gd, bCS.cn = cn, bCS.cs = cs, bCS.a = a, bCS.ccd = ccd, bCS.cl = cl, bCS.outer = outer, bCS.A₀ = A₀, bCS.base = base, bCS.h₀ = h₀, bCS.L = L, bCS.m = m, bCS.s = s, bCS.Q = Q, bCS.E = E; clear bCS; intros St hSL hret; obtain ⟨B, F, X, N, T, hk, hdp, hup⟩ := St; revert X; k_fill; intro X; refine wpAny_call ?_)
 (k_dflt (refine' code_def ?k1 ?k2 ?k3 ?k4 ?k5 ?kA ?kF ?kK ?k6 ?k7 ?k8 ?k9 ?kB ?_ ?c2 ?c3 ?c4 ?c5; (case kA => exact rfl); (case kF => exact rfl); (case kK => assumption); (case k1 => k_asm); (case k2 => k_asm); (case k3 => k_asm); (case k4 => k_asm); (case k5 => k_asm); (case k6 => k_is); (case k7 => k_is); (case k8 => first | allgen_close_more | (simp only [depth_in1, depth_deeper] at *; omega)); (case k9 => first | exact BindsTo.of_eq rfl | exact binds_K (by k_in) rfl (by k_is) rfl rfl rfl); (case c5 => decide); (case kB => exact locs rfl); (case c2 => exact rfl); (case c3 => exact rfl); (case c4 => exact rfl); k_whole; intro g' L' h' FG' F' N' B' X' T'); (try dsimp only); (refine wp_noE ?_); (refine wp_toks ?_); intro tk0; (try dsimp only); (try k_fold))
 replace F' : Fr g' L' h' (fun y => List.lookup y [(Str.ofString "script", .ref sl)]) := fr_eq F' (by kernel_rfl)
 have hSL' : g'.IsList sl sv.toArray := FG'.lst hSL
 (repeat' ((fail_if_success with_reducible first | refine z1 ?_ | refine z2 ?_ | refine z3 ?_ | refine z4 ?_ | refine z5 ?_ | refine z6 ?_ | refine z7 ?_ | refine zc (by decide) ?_ | refine z9 ?_); (first | (k_unfold; try dsimp only) | (dsimp only; k_unfold; try dsimp only) | walk1 | (dsimp only; walk1) | fail)))
 rename_i D0 hq0 hD0 lq1 FD ND
 (with_reducible rename Fr _ _ _ _ => F1); (with_reducible rename News _ _ _ _ => N1)
 first | k_dflt (refine for_inv (σ := NumSt) (fun c => [(Str.ofString "numbers", .ref D0), (Str.ofString "script", .ref sl)]) (fun c => (D0, listOf c.2.1.toArray c.2.2) :: news) (fun i c => IntsAre c.2.1 c.1 ∧ c.1.length = 3 + i ∧ c.1.Nodup ∧ ∀ n ∈ c.1, 0 < n ∧ n ≤ nbd i) F1 ?_ (fun _ => rfl)) | fail
 (repeat' ((fail_if_success with_reducible first | refine z1 ?_ | refine z2 ?_ | refine z3 ?_ | refine z4 ?_ | refine z5 ?_ | refine z6 ?_ | refine z7 ?_ | refine zc (by decide) ?_ | refine z9 ?_); (first | (k_unfold; try dsimp only) | (dsimp only; k_unfold; try dsimp only) | walk1 | (dsimp only; walk1) | fail)))
 rename_i Ds ws hs Fs Ns hIs hCs hLs lDs
 have hwl : ws.length ≤ 5 := by rw [hIs.length, hCs]; omega
 refine source_listO (its := ws.toArray) rfl Fs Ns (.head _) (by rw [List.size_toArray]; exact Nat.le_trans hwl (by decide)) (fun _ _ _ _ _ _ _ _ _ q => hgo_name q) fun gI I fp wr Md St Xs hfp => ⟨_, _, _, _, I, fp, wr, Md, St, ([431, 26, 416], [_, _, _], 0), Xs, fun p hp => .tail _ hp, ?_, ?_, ?_, ?_⟩
 · intro p hp
   iterate 2 (rcases mc hp with rfl | hp; (focus kernel_rfl))
   cases hp
 · exact ⟨.cons _ _ (.cons _ _ (.cons _ _ .nil)), rfl, (by decide : ([431, 26, 416] : List Int).Nodup), (by decide : ∀ n ∈ ([431, 26, 416] : List Int), 0 < n ∧ n ≤ nbd 0)⟩
 · rintro i v c u h tk own htk hi hP ⟨hok1, hok2, hok3, hok4⟩ off hw hown Fi Ni
   (revert Xs hfp htk hi hP hok1 hok2 hok3 hok4 off hw hown Fi Ni; revert gI I fp wr Md St i v c u h tk own; with_reducible refine (no_implicit_lambda% (Drk7.all (by kpf_c) ((?_ : All7 _) _ _ _ _ _ _ _))); refine fun gI I fp wr Md St i => Ap7.mk ?_; with_reducible refine (no_implicit_lambda% (Drk6.all (by kpf_c) ((?_ : All6 _) _ _ _ _ _ _))); refine fun v c u h tk own => Ap6.mk ?_; intros Xs hfp htk hi hP hok1 hok2 hok3 hok4 off hw hown Fi Ni)
   obtain ⟨n, tn, rfl, hn⟩ := hIs.at i v (by rw [List.getElem?_toArray] at hP; exact hP)
   (revert hn hP; revert n tn; with_reducible refine Drk2.all (by kpf_c) ((?_ : All2 _) _ _); refine fun n tn => Ap2.mk ?_; intros hn hP)
   have hi5 : i < 5 := by rw [List.size_toArray] at hi; omega
   have hDown : ∀ p ∈ own, p.1 ≠ D0 := fun p hp => by
     rcases hfp _ (hown p hp) with e | e
     · rw [e]; exact Nat.ne_of_gt lDs.1
     exact Nat.ne_of_gt (e (D0, _) (.tail _ (.head _)))
   obtain ⟨ns, vs, cc⟩ := c
   (revert hok1 hok2 hok3 hok4 off Ni; revert ns vs cc; with_reducible refine Drk3.all (by kpf_c) ((?_ : All3 _) _ _ _); refine fun ns vs cc => Ap3.mk ?_; intros hok1 hok2 hok3 hok4 off Ni)
   dsimp only at hok1 hok2 hok3 hok4 Fi Ni ⊢
   dsimp only [List.cons_append] at Ni
   have hq63 := fm63 (((if n < 0 then -n else n).fmod (10 ^ Int.toNat 6)).fdiv (↑ns.length + 1))
   (repeat' ((fail_if_success with_reducible first | refine z1 ?_ | refine z2 ?_ | refine z3 ?_ | refine z4 ?_ | refine z5 ?_ | refine z6 ?_ | refine z7 ?_ | refine zc (by decide) ?_ | refine z9 ?_); (first | (k_unfold; try dsimp only) | (dsimp only; k_unfold; try dsimp only) | walk1 | (dsimp only; walk1) | fail)))
   have hnb := nbd_pos i
   have hab : ∀ K, 0 ≤ (0 :: ns).getD K 0 ∧ (0 :: ns).getD K 0 ≤ nbd i := fun K => getD_bd (fun n hn => by
     rcases mc hn with rfl | hn
     · exact ⟨Int.le_refl _, by omega⟩
     have := hok4 n hn; omega) (by omega) K
   (with_reducible rename Fr _ _ _ _ => F1); (with_reducible rename News _ _ _ _ => N1)
   first | k_dflt (refine while_inv (σ := Int × Tok) (fun c => [(Str.ofString "number", .int c.1 c.2), (Str.ofString "numbers", .ref D0), (Str.ofString "script", .ref sl)]) (fun _ => (D0, listOf vs.toArray cc) :: (news ++ own)) (fun c => 0 ≤ c.1 ∧ c.1 + nmu ns c.1 ≤ 256 * nbd i + 300) (fun c => nmu ns c.1) (_, _) F1 N1 ?_ (List.forall_mem_cons.mpr ⟨rfl, List.forall_mem_cons.mpr ⟨rfl, List.forall_mem_cons.mpr ⟨rfl, nofun⟩⟩⟩) ?_ ?_) | fail
   · intro p hp
     repeat (first | exact hp | refine List.mem_cons_of_mem _ ?_)
   · dsimp only
     have hX := hab ((((if n < 0 then -n else n).fmod (10 ^ Int.toNat 6)).fmod (↑ns.length + 1)).toNat)
     generalize (0 :: ns).getD _ 0 = X at hX ⊢
     (revert hX; revert X; tb_start; refine fun X => Ap.mk ?_; intros hX)
     generalize ((((if n < 0 then -n else n).fmod (10 ^ Int.toNat 6)).fdiv (↑ns.length + 1)).fdiv 3) = Y
     (revert Y; tb_start; refine fun Y => Ap.mk ?_)
     generalize Int.toNat _ = Z
     (revert Z; tb_start; refine fun Z => Ap.mk ?_)
     have h1 : 0 ≤ Y.fmod 16 ∧ Y.fmod 16 < 16 := ⟨Int.fmod_nonneg_of_pos _ (by decide), Int.fmod_lt_of_pos _ (by decide)⟩
     have h2 : 0 ≤ Y.fmod 256 ∧ Y.fmod 256 < 256 := ⟨Int.fmod_nonneg_of_pos _ (by decide), Int.fmod_lt_of_pos _ (by decide)⟩
     have h3 : 0 ≤ X.fdiv 16 ∧ X.fdiv 16 ≤ X := by
       rw [Int.fdiv_eq_ediv_of_nonneg _ (by decide)]; omega
     have h4 := getD_bd (l := [X * 16 + Y.fmod 16, X * 256 + Y.fmod 256, X.fdiv 16]) (b := 256 * nbd i + 255) (fun n hn => by
       simp only [List.mem_cons, List.not_mem_nil, or_false] at hn
       rcases hn with rfl | rfl | rfl <;> omega) (by omega) Z
     refine ⟨h4.1, ?_⟩
     have h5 : nmu ns (List.getD [X * 16 + Y.fmod 16, X * 256 + Y.fmod 256, X.fdiv 16] Z 0) ≤ 9 := by
       unfold nmu
       have := List.length_filter_le (fun n => decide (List.getD [X * 16 + Y.fmod 16, X * 256 + Y.fmod 256, X.fdiv 16] Z 0 ≤ n)) ns
       split <;> omega
     have h6 : List.getD [X * 16 + Y.fmod 16, X * 256 + Y.fmod 256, X.fdiv 16] Z 0 + ((nmu ns (List.getD [X * 16 + Y.fmod 16, X * 256 + Y.fmod 256, X.fdiv 16] Z 0) : Nat) : Int) ≤ 256 * nbd i + 300 := by omega
     exact h6
   rintro ⟨x, tx⟩ u2 h2 tk2 ⟨h0, hb⟩ Fw Nw
   (revert h0 hb Fw Nw; revert x tx u2 h2 tk2; with_reducible refine Drk5.all (by kpf_c) ((?_ : All5 _) _ _ _ _ _); refine fun x tx u2 h2 tk2 => Ap5.mk ?_; intros h0 hb Fw Nw)
   dsimp only at h0 hb Fw Nw ⊢
   (repeat' ((fail_if_success with_reducible first | refine z1 ?_ | refine z2 ?_ | refine z3 ?_ | refine z4 ?_ | refine z5 ?_ | refine z6 ?_ | refine z7 ?_ | refine zc (by decide) ?_ | refine z9 ?_); (first | (k_unfold; try dsimp only) | (dsimp only; k_unfold; try dsimp only) | walk1 | (dsimp only; walk1) | fail)))
   · (with_reducible rename Fr _ _ _ _ => F1); (with_reducible rename News _ _ _ _ => N1)
     rename x = 0 => hx0
     have hst := nmu_step (.inl hx0) fun n hn => (hok4 n hn).1
     (try (k_unfold; (try dsimp only)))
     exact WEnd.intro (x + 1, _) F1 N1 (fun p hp => hp) (List.forall_mem_cons.mpr ⟨rfl, List.forall_mem_cons.mpr ⟨rfl, List.forall_mem_cons.mpr ⟨rfl, nofun⟩⟩⟩) ⟨by dsimp only; omega, by dsimp only; omega⟩ hst
   · (with_reducible rename Fr _ _ _ _ => F1); (with_reducible rename News _ _ _ _ => N1)
     rename (ns.any _) = true => hany
     have hxm : x ∈ ns := by
       obtain ⟨y, hy, e⟩ := List.any_eq_true.mp hany
       (revert hy e; revert y; tb_start; refine fun y => Ap.mk ?_; intros hy e)
       have : y = x := by simpa using e
       exact this ▸ hy
     have hst := nmu_step (.inr hxm) fun n hn => (hok4 n hn).1
     (try (k_unfold; (try dsimp only)))
     exact WEnd.intro (x + 1, _) F1 N1 (fun p hp => hp) (List.forall_mem_cons.mpr ⟨rfl, List.forall_mem_cons.mpr ⟨rfl, List.forall_mem_cons.mpr ⟨rfl, nofun⟩⟩⟩) ⟨by dsimp only; omega, by dsimp only; omega⟩ hst
   (with_reducible rename Fr _ _ _ _ => F1); (with_reducible rename News _ _ _ _ => N1)
   rename (ns.any _) = false => hany
   rename x ≠ 0 => hx0
   have hxm : x ∉ ns := fun h => by
     have := List.any_eq_false.mp hany x h
     simp at this
   dsimp only [FPost]
   (try (k_unfold; (try dsimp only)))
   refine FEnd.intro (c' := (ns ++ [x], vs ++ [.int x tx], cc + 1)) F1 N1 ?_ ?_ ?_ ?_ ⟨intsAre_snoc hok1, ?_, ?_, ?_⟩
   · intro p hp
     dsimp only at hp
     rw [← List.push_toArray] at hp
     rcases mc hp with rfl | hp
     · exact .head _
     exact .tail _ (ml _ hp)
   · intro p hp
     exact .tail _ (mr _ hp)
   · intro p hp b hb
     rcases mc hp with rfl | hp
     · exact off (D0, _) (.head _) b hb
     exact off p (.tail _ hp) b hb
   · intro p hp
     iterate 2 (rcases mc hp with rfl | hp; (focus kernel_rfl))
     cases hp
   · dsimp only
     rw [lA, List.length_singleton]; omega
   · dsimp only
     rw [List.nodup_append]
     exact ⟨hok3, by simp, fun a ha b hb e => hxm (by rw [← ms hb, ← e]; exact ha)⟩
   skip
   intro n hn
   dsimp only at hn
   have := nbd_succ i
   rcases ma hn with hn | hn
   · have := hok4 n hn; omega
   rw [ms hn]; omega
 rintro ⟨ns, vs, cc⟩ u h tk htk ⟨hok1, hok2, hok3, hok4⟩ Fi Ni
 (revert Xs hfp htk hok1 hok2 hok3 hok4 Fi Ni; revert gI I fp wr Md St ns vs cc u h tk; with_reducible refine Drk6.all (by kpf_c) ((?_ : All6 _) _ _ _ _ _ _); refine fun gI I fp wr Md St => Ap6.mk ?_; with_reducible refine Drk6.all (by kpf_c) ((?_ : All6 _) _ _ _ _ _ _); refine fun ns vs cc u h tk => Ap6.mk ?_; intros Xs hfp htk hok1 hok2 hok3 hok4 Fi Ni)
 dsimp only at hok1 hok2 hok3 hok4 Fi Ni ⊢
 (repeat' ((fail_if_success with_reducible first | refine z1 ?_ | refine z2 ?_ | refine z3 ?_ | refine z4 ?_ | refine z5 ?_ | refine z6 ?_ | refine z7 ?_ | refine zc (by decide) ?_ | refine z9 ?_); (first | (k_unfold; try dsimp only) | (dsimp only; k_unfold; try dsimp only) | walk1 | (dsimp only; walk1) | fail)))
 ((try (k_unfold; (try dsimp only))); k_dflt (refine' leaveK_ ?k1 ?k2 ?_; (case k1 => k_asm); (case k2 => k_asm)); intro kF kN; (try dsimp only))
 refine hret _ _ _ _ ⟨D0, vs, ns, cc, rfl, rfl, (by first | exact hD0 | exact allLt_mem hD0), hok1, by omega, by rw [hok2, List.size_toArray]; omega, hok3, fun n hn => ?_⟩ kF kN
 have h1 := hok4 n hn
 have h2 : nbd ws.toArray.size ≤ nbd 5 := by
   rw [List.size_toArray]
   generalize ws.length = k at hwl
   (revert hn h1 hwl; revert n k; with_reducible refine Drk2.all (by kpf_c) ((?_ : All2 _) _ _); refine fun n k => Ap2.mk ?_; intros hn h1 hwl)
   have : ∀ k : Fin 6, nbd k.1 ≤ nbd 5 := by decide +kernel
   exact this ⟨k, by omega⟩
 have h3 : nbd 5 < 16 ^ 14 := by decide +kernel
 omega
def szT (n : Int) : Int := 16 ^ ((List.range 14).filter (fun k => decide (n < 16 ^ k))).length
def sT (n : Int) : Int := n * szT n
def eT (n : Int) : Int := (n + 1) * szT n
noncomputable def popT (s : Int) : List Int → List (Bool × Int)
 | [] => []
 | t :: r => if eT t ≤ s then (false, t) :: popT s r else []
def keepT (s : Int) : List Int → List Int
 | [] => []
 | t :: r => if eT t ≤ s then keepT s r else t :: r
noncomputable def tourGo : List Int → List Int → List (Bool × Int)
 | [], st => st.map (fun n => (false, n))
 | x :: xs, st => popT (sT x) st ++ ((true, x) :: tourGo xs (x :: keepT (sT x) st))
theorem le_eT {a b : Int} : -(-(a + 1) * szT a) ≤ b * szT b ↔ eT a ≤ sT b := by
 unfold eT sT
 rw [Int.neg_mul, Int.neg_neg]
abbrev TupT := Addr × Int
theorem popT_yes {s t : Int} {r : List Int} (h : eT t ≤ s) : popT s (t :: r) = (false, t) :: popT s r ∧ keepT s (t :: r) = keepT s r := ⟨if_pos h, if_pos h⟩
theorem popT_no {s t : Int} {r : List Int} (h : ¬ eT t ≤ s) : popT s (t :: r) = [] ∧ keepT s (t :: r) = t :: r := ⟨if_neg h, if_neg h⟩
def refsT (as : List TupT) : List Value := as.map fun q => Value.ref q.1
noncomputable abbrev tup3 (n : Int) (t1 t2 t3 : Tok) : Obj := { cls := .type "tuple", data := .seq #[.int (n * szT n) t1, .int (-(n + 1) * szT n) t2, .int n t3] }
noncomputable def ltT (a b : Int) : Bool := lt3 (a * szT a) (-(a + 1) * szT a) a (b * szT b) (-(b + 1) * szT b) b
section
open PySem.Calls
variable {prog : Program} {w : World} {A : Around} {E : Value → Shared → Prop} {s : Shared} {h₀ : Heap} {L : Addr} {m : Str → Option Value} {news : List (Addr × Obj)}
theorem sorted_tups {D : Addr} {as : List TupT} {Q : Value → Shared → Prop} (F : Fr h₀ L s.heap m) (N : News h₀ L s.heap news) (hl : s.heap.IsList D (refsT as).toArray) (h2 : 2 ≤ as.length) (h64 : as.length < 64)
   (hnd : (as.map (·.2)).Nodup) (hm : ∀ q ∈ as, ∃ t1 t2 t3, (q.1, tup3 q.2 t1 t2 t3) ∈ news)
   (h : ∀ B c h' as', as'.Perm as → as'.Pairwise (fun a b => ltT a.2 b.2 = true) → Fr h₀ L h' m → News h₀ L h' ((B, PySem.W.listOf (refsT as').toArray c) :: news) → (∀ q ∈ news, q.1 < B) → Q (.ref B) { s with heap := h' }) :
   wpAny (model prog w) A (call (.builtin "sorted") [.ref D]) Q E s := by
 have hlr : (refsT as).length = as.length := by unfold refsT; rw [lM]
 have hgz : ∀ i, i < as.length → as[i]? = some (as.getD i (0, 0)) := fun i hi => by simp [hi]
 have hr : refsT as = (as.map (·.1)).map Value.ref := by unfold refsT; rw [List.map_map]; rfl
 have S : SLt (fun i j => ltT (as.getD i (0, 0)).2 (as.getD j (0, 0)).2) (refsT as).length := by
   refine slt_lt3 (a := fun i => (as.getD i (0, 0)).2 * szT (as.getD i (0, 0)).2) (b := fun i => -((as.getD i (0, 0)).2 + 1) * szT (as.getD i (0, 0)).2) (c := fun i => (as.getD i (0, 0)).2) fun i j hi hj hij hx => ?_
   rw [hlr] at hi hj
   have e1 : (as.map (·.2))[i]? = (as.map (·.2))[j]? := by rw [List.getElem?_map, List.getElem?_map, hgz i hi, hgz j hj]; exact congrArg some hx
   exact absurd ((List.getElem?_inj (by rw [lM]; exact hi) hnd).mp e1) hij
 have hask : AskBy prog w h₀ L news (A.units + 2) (tuples' true) (refsT as) (fun i j => ltT (as.getD i (0, 0)).2 (as.getD j (0, 0)).2) := by
   rw [hr]
   refine ask_tup3 (a := fun i => (as.getD i (0, 0)).2 * szT (as.getD i (0, 0)).2) (b := fun i => -((as.getD i (0, 0)).2 + 1) * szT (as.getD i (0, 0)).2) (c := fun i => (as.getD i (0, 0)).2) fun i hi => ?_
   rw [lM] at hi
   obtain ⟨t1, t2, t3, hmm⟩ := hm _ (List.mem_of_getElem? (hgz i hi))
   refine ⟨tup3 (as.getD i (0, 0)).2 t1 t2 t3, t1, t2, t3, 0, ?_, rfl⟩
   have : (as.map (·.1))[i]'(by rw [lM]; exact hi) = (as.getD i (0, 0)).1 := by
     rw [List.getElem_map]; congr 1; simp [hi]
   rw [this]; exact hmm
 refine sorted_by (κ := tuples' true) (vs := refsT as) (u := A.units + 2) F N hl (by rw [hlr]; exact h2) (by rw [hlr]; exact h64) (fun A' s' Q' N' hq => ?_) hask (Nat.le_refl _) S fun B c h' p hp hpw F' N' hB => ?_
 · rw [hr]
   refine kind_tups (T := .type "int") (by decide) (by decide) (fun a => ((s'.heap.get? a).bind fun o => match o.data with | .seq xs _ => xs[0]? | _ => none).getD .none) _ (by intro h0; have := congrArg List.length h0; rw [lM, List.length_nil] at this; omega) (fun a ha => ?_) hq
   obtain ⟨q, hq', rfl⟩ := List.mem_map.mp ha
   obtain ⟨t1, t2, t3, hmm⟩ := hm q hq'
   refine ⟨_, _, 0, (N' _ hmm).1, rfl, rfl, ?_, ?_⟩
   · rw [(N' _ hmm).1]; rfl
   rw [(N' _ hmm).1]; rfl
 rw [hlr] at hp
 have hout : sortOut (refsT as) p = (refsT (p.map fun i => as.getD i (0, 0))).toArray := by
   unfold sortOut refsT
   rw [List.map_map]
   congr 1
   refine List.map_congr_left fun i hi => ?_
   have hi' : i < as.length := List.mem_range.mp (hp.mem_iff.mp hi)
   rw [List.getD_eq_getElem?_getD, List.getElem?_map, hgz i hi']; rfl
 rw [hout] at N'
 refine h B c h' _ ?_ ?_ F' N' hB
 · refine (hp.map _).trans (List.Perm.of_eq ?_)
   refine List.ext_getElem (by simp) fun i h1 h2 => ?_
   simp only [List.getElem_map, List.getElem_range, List.getD_eq_getElem?_getD]
   rw [List.getElem?_eq_getElem h2]; rfl
 rw [List.pairwise_map]; exact hpw
end
def WOut {σ : Type} (h₀ : Heap) (L : Addr) (s : Shared) (ps : σ → List (Str × Value)) (Led' : σ → Led) (Done : σ → Prop) (f : Flow) (s₂ : Shared) : Prop :=
 f = .next ∧ ∃ (c : σ) (h' : Heap) (tk' : Nat) (m' : Str → Option Value) (nx : Led), s₂ = { s with heap := h', toks := tk' } ∧ Fr h₀ L h' m' ∧ News h₀ L h' nx ∧ (∀ p ∈ Led' c, p ∈ nx) ∧ (∀ p ∈ ps c, m' p.1 = some p.2) ∧ Done c
theorem WOut.intro {σ : Type} {h₀ : Heap} {L : Addr} {s : Shared} {ps : σ → List (Str × Value)} {Led' : σ → Led} {Done : σ → Prop} {h' : Heap} {tk' : Nat} {m' : Str → Option Value} {nx : Led} (c : σ) (F : Fr h₀ L h' m') (N : News h₀ L h' nx) (hl : ∀ p ∈ Led' c, p ∈ nx) (hm : ∀ p ∈ ps c, m' p.1 = some p.2) (d : Done c) :
   WOut h₀ L s ps Led' Done .next { s with heap := h', toks := tk' } := ⟨rfl, c, h', tk', m', nx, rfl, F, N, hl, hm, d⟩
theorem while_out {σ : Type} {M : Model} {A : Around} {st : Stmt} {env : Env} {Q : Flow → Shared → Prop} {E : Value → Shared → Prop} {s : Shared} {h₀ : Heap} {L : Addr} (ps : σ → List (Str × Value)) (Led' : σ → Led) (Done : σ → Prop)
   (h : wpAny M A (exec st env) (WOut h₀ L s ps Led' Done) (fun _ _ => False) s)
   (k : ∀ c u h tk, Done c → Fr h₀ L h (fm (ps c) u) → News h₀ L h (Led' c) → Q .next { s with heap := h, toks := tk }) : wpAny M A (exec st env) Q E s := by
 refine wpAny_mono h (fun f s' q => ?_) fun _ _ e => e.elim
 obtain ⟨rfl, c, h', tk', m', nx, rfl, F, N, hl, hm, d⟩ := q
 exact k c m' h' tk' d (by rw [fm_eq hm]; exact F) fun p hp => N p (hl p hp)
theorem tour_ctr {w : World} {d u : Nat} {news : Led} {D : Addr} {vs : List Value} {ns : List Int} {c : Nat} (hd : 4 ≤ d) (hu : 20 ≤ u) (hz : IntsAre vs ns) (hm : (D, listOf vs.toArray c) ∈ news) (h2 : 2 ≤ ns.length) (hn : ns.length ≤ 30) (hnd : ns.Nodup) (hb : ∀ n ∈ ns, 0 < n ∧ n < 16 ^ 14) :
   Ctr w 187 d u news [.ref D] (fun v l => ∃ (T : Nat) (tq : List (Addr × Bool × Int)) (Tl : Led) (xs : List Int) (c' : Nat), v = .ref T ∧ l = (T, listOf (tq.map fun q => Value.ref q.1).toArray c') :: (Tl ++ news) ∧ (∀ p ∈ news, p.1 < T ∧ ∀ q ∈ Tl, p.1 < q.1) ∧
     xs.Perm ns ∧ xs.Pairwise (fun a b => ltT a b = true) ∧ tq.map (·.2) = tourGo xs [] ∧ ∀ q ∈ tq, ∃ t, (q.1, ({ cls := .type "tuple", data := .seq #[.bool q.2.1, .int q.2.2 t] } : Obj)) ∈ Tl) := by
 w_top off
 (revert hd hu hz hm h2 hn hnd hb; revert w d u news D vs ns c; with_reducible refine (no_implicit_lambda% (Drk8.all (by kpf_c) ((?_ : All8 _) _ _ _ _ _ _ _ _))); refine fun w d u news D vs ns c => Ap8.mk ?_; intros hd hu hz hm h2 hn hnd hb)
 (refine Ctr.open ?_; generalize Ctr.cs _ _ _ _ _ _ _ = bCS; unfold Ctr.At; generalize bCS.p = p, bCS.loose = loose, bCS.mean = mean, bCS.mg = mg, bCS.mb = mb, bCS.dp = dp, bCS.un = un, bCS.gd = gd, bCS.cn = cn, bCS.cs = cs, bCS.a = a, bCS.ccd = ccd, bCS.cl = cl, bCS.outer = outer, bCS.A₀ = A₀, bCS.base = base, bCS.h₀ = h₀, bCS.L = L, bCS.m = m, bCS.s = s, bCS.Q = Q, bCS.E = E; clear bCS; intros St hret; obtain ⟨B, F, X, N, T, hk, hdp, hup⟩ := St; revert X; k_fill; intro X; refine wpAny_call ?_)
 (k_dflt (refine' code_defC ?k1 ?k2 ?k3 ?k4 ?k5 ?kA ?kF ?kK ?k6 ?k7 ?k8 ?k9 ?kB ?kD ?_ ?c2 ?c3 ?c4; (case kA => exact rfl); (case kF => exact rfl); (case kK => assumption); (case k1 => k_asm); (case k2 => k_asm); (case k3 => k_asm); (case k4 => k_asm); (case k5 => k_asm); (case k6 => k_is); (case k7 => k_is); (case k8 => first | allgen_close_more | (simp only [depth_in1, depth_deeper] at *; omega)); (case k9 => first | exact BindsTo.of_eq rfl | exact binds_K (by k_in) rfl (by k_is) rfl rfl rfl); (case kB => exact rfl); (case kD => decide +kernel); (case c2 => exact rfl); (case c3 => exact rfl); (case c4 => exact rfl); k_whole; intro g' L' h' tk' cells' FG' F' N' Y' B' X' T' l1); (have l1q := l1); (try k_lt l1); k_cells Y'; (try simp only [List.cons_append, List.nil_append] at N'); (try dsimp only); (refine wp_noE ?_); (refine wp_toks ?_); intro tk0; (try dsimp only); (try k_fold))
 replace F' : Fr g' L' h' (fun y => if y = Str.ofString "numbers" then some (.ref D) else none) := fr_eq F' (by kernel_rfl)
 rename Obj => o'
 (revert o'; tb_start; refine fun o' => Ap.mk ?_; intros _ N')
 rename Obj.data _ = _ => hd1
 replace hd1 : o'.data = .cell none := hd1.trans (by kernel_rfl)
 (repeat' ((fail_if_success with_reducible first | refine z27 ?_ | refine z28 ?_ | refine z29 ?_ | refine z30 ?_ | refine z31 ?_); tb_rel))
 rename_i S0 hq0 lS0 hq1 FS NS
 have hnwL : ∀ p ∈ news, p.1 < S0 := fun p hp => allLt_mem lS0.2 p hp
 have hnwL1 : ∀ p ∈ news, @LT.lt Nat _ p.1 (L' + 1 : Nat) := fun p hp => Nat.lt_succ_of_lt (l1q p hp)
 first | k_dflt (refine for_inv (σ := List TupT × Nat × Led × Obj) (fun c => [(Str.ofString "stretches", .ref S0), (Str.ofString "numbers", .ref D)]) (fun c => (S0, listOf (refsT c.1).toArray c.2.1) :: (L' + 1, c.2.2.2) :: (news ++ c.2.2.1)) (fun i c => c.1.map (·.2) = ns.take i ∧ (∀ q ∈ c.1, ∃ t1 t2 t3, (q.1, tup3 q.2 t1 t2 t3) ∈ c.2.2.1) ∧ (∃ v, c.2.2.2.data = .cell v) ∧ ∀ p ∈ c.2.2.1, @LT.lt Nat _ S0 p.1 ∧ ∀ q ∈ news, q.1 < p.1) FS ?_ (fun _ => rfl)) | fail
 (repeat' ((fail_if_success with_reducible first | refine z27 ?_ | refine z28 ?_ | refine z29 ?_ | refine z30 ?_ | refine z31 ?_); tb_rel))
 refine source_listO (its := vs.toArray) rfl FS NS (.tail _ (.tail _ hm)) (by rw [List.size_toArray, hz.length]; exact Nat.le_trans hn (by decide)) (fun _ _ _ _ _ _ _ _ _ q => hgo_name q) fun gI I fp wr Md St Xs hfp => ⟨_, _, _, _, I, fp, wr, Md, St, ([], 0, [], o'), Xs, ?_, ?_, ⟨rfl, (fun q h => nomatch h), ⟨_, hd1⟩, (fun q h => nomatch h)⟩, ?_, ?_⟩
 · intro p hp
   dsimp only at hp
   rw [List.append_nil] at hp
   exact hp
 · intro p hp
   iterate 2 (rcases mc hp with rfl | hp; (focus kernel_rfl))
   cases hp
 · rintro i v ⟨sts, cc, Tl, oc⟩ u h tk own htk hi hP ⟨hok1, hok2, ⟨cv, hok3⟩, hok4⟩ off hw hown Fi Ni
   (revert Xs hfp htk hi hP hok1 hok2 hok4 hok3 off hw hown Fi Ni; revert gI I fp wr Md St i v sts cc Tl oc u h tk own cv; with_reducible refine Drk6.all (by kpf_c) ((?_ : All6 _) _ _ _ _ _ _); refine fun gI I fp wr Md St => Ap6.mk ?_; with_reducible refine Drk6.all (by kpf_c) ((?_ : All6 _) _ _ _ _ _ _); refine fun i v sts cc Tl oc => Ap6.mk ?_; with_reducible refine Drk5.all (by kpf_c) ((?_ : All5 _) _ _ _ _ _); refine fun u h tk own cv => Ap5.mk ?_; intros Xs hfp htk hi hP hok1 hok2 hok4 hok3 off hw hown Fi Ni)
   obtain ⟨n, tn, rfl, hni⟩ := hz.at i v (by rw [List.getElem?_toArray] at hP; exact hP)
   (revert hni hP; revert n tn; with_reducible refine Drk2.all (by kpf_c) ((?_ : All2 _) _ _); refine fun n tn => Ap2.mk ?_; intros hni hP)
   have hnb := hb n (List.mem_of_getElem? hni)
   have h2000 : 2000 ≤ sizeLine := by decide
   have h64 : (16 : Int) ^ 14 + 1 < 2 ^ 64 := by decide
   dsimp only at hok1 hok2 hok3 hok4 Fi Ni ⊢
   have hSown : ∀ p ∈ (news ++ Tl) ++ own, p.1 ≠ S0 := fun p hp => by
     rcases ma hp with hp | hp
     · rcases ma hp with hp | hp
       · exact Nat.ne_of_lt (hnwL p hp)
       exact Nat.ne_of_gt (hok4 p hp).1
     rcases hfp _ (hown p hp) with e | e
     · rw [e]; exact Nat.ne_of_lt (hnwL _ hm)
     exact Nat.ne_of_gt (e (S0, _) (.head _))
   have hCown : ∀ p ∈ (news ++ Tl) ++ own, p.1 ≠ (L' + 1 : Nat) := fun p hp => by
     rcases ma hp with hp | hp
     · rcases ma hp with hp | hp
       · exact Nat.ne_of_lt (hnwL1 p hp)
       exact Nat.ne_of_gt (Nat.lt_trans lS0.1 (hok4 p hp).1)
     rcases hfp _ (hown p hp) with e | e
     · rw [e]; exact Nat.ne_of_lt (hnwL1 _ hm)
     exact Nat.ne_of_gt (Nat.lt_trans lS0.1 (e (S0, _) (.head _)))
   have hSA : ∀ p ∈ news ++ Tl, p ∈ (news ++ Tl) ++ own := fun p hp => ml _ hp
   have hSO : ∀ p ∈ own, p ∈ (news ++ Tl) ++ own := fun p hp => mr _ hp
   dsimp only [List.cons_append] at Ni
   generalize (news ++ Tl) ++ own = RT at Ni hSown hCown hSA hSO
   (revert Ni hSown hCown hSA hSO; revert RT; tb_start; refine fun RT => Ap.mk ?_; intros Ni hSown hCown hSA hSO)
   (repeat' ((fail_if_success with_reducible first | refine z27 ?_ | refine z28 ?_ | refine z29 ?_ | refine z30 ?_ | refine z31 ?_); tb_rel))
   rename_i h1 o1 F1 N1 d1
   first | k_dflt (refine listComp_G F1 (by with_unfolding_all rfl) (by decide) (by rfl) (by decide) ?_ (fun _ => rfl)) | fail
   (repeat' ((fail_if_success with_reducible first | refine z27 ?_ | refine z28 ?_ | refine z29 ?_ | refine z30 ?_ | refine z31 ?_); tb_rel))
   (with_reducible rename Fr _ _ _ _ => F1); (with_reducible rename News _ _ _ _ => N1)
   rename IsRange _ _ _ _ _ _ _ _ => hr
   refine source_range rfl F1 N1 hr (by decide) (n := 14) (by decide) (by decide) fun gI I fp wr Md St X => ⟨_, _, _, _, _, _, _, _, _, fun i ys nw => nw = (S0, listOf (refsT sts).toArray cc) :: (L' + 1, o1) :: RT ∧ ys.length = ((List.range i).filter (fun k => decide (n < 16 ^ k))).length, X, fun p hp => ?_, ⟨rfl, rfl⟩, ?_, ?_⟩
   · exact hp
   · refine CTurnL.name (by rfl) (by rfl) ?_
     rintro i v C oC D' m₂ g h tk ys nw own' htk hi ⟨t1, rfl⟩ ⟨rfl, hS⟩ hC hv Fc Nc off' hown' hw' hCD hCL hDL
     (revert X htk hi hS hC hv Fc Nc off' hown' hw' hCD hCL hDL; revert gI I fp wr Md St i C oC D' m₂ g h tk ys own' t1; with_reducible refine Drk6.all (by kpf_c) ((?_ : All6 _) _ _ _ _ _ _); refine fun gI I fp wr Md St => Ap6.mk ?_; with_reducible refine Drk6.all (by kpf_c) ((?_ : All6 _) _ _ _ _ _ _); refine fun i C oC D' m₂ g => Ap6.mk ?_; with_reducible refine Drk5.all (by kpf_c) ((?_ : All5 _) _ _ _ _ _); refine fun h tk ys own' t1 => Ap5.mk ?_; intros X htk hi hS hC hv Fc Nc off' hown' hw' hCD hCL hDL)
     dsimp only [List.cons_append] at Nc
     dsimp only
     (repeat' ((fail_if_success with_reducible first | refine z27 ?_ | refine z28 ?_ | refine z29 ?_ | refine z30 ?_ | refine z31 ?_); tb_rel))
     · (with_reducible rename Fr _ _ _ _ => F1); (with_reducible rename News _ _ _ _ => N1)
       rename n < _ => hlt
       rw [show (0 + (i : Int) * 1).toNat = i by omega] at hlt
       (try (k_unfold; (try dsimp only)))
       refine CEnd.intro F1 N1 hC _ (fun p hp => hp) off' ⟨rfl, ?_⟩
       rw [lA, List.length_singleton, hS, List.range_succ, List.filter_append, lA]
       congr 1
       simp [hlt]
     (with_reducible rename Fr _ _ _ _ => F1); (with_reducible rename News _ _ _ _ => N1)
     rename ¬ n < _ => hlt
     rw [show (0 + (i : Int) * 1).toNat = i by omega] at hlt
     (try (k_unfold; (try dsimp only)))
     refine CEnd.intro F1 N1 hC _ (fun p hp => hp) off' ⟨rfl, ?_⟩
     rw [hS, List.range_succ, List.filter_append, lA]
     have : (List.filter (fun k => decide (n < 16 ^ k)) [i]) = [] := by simp only [List.filter_cons, List.filter_nil]; rw [if_neg (by simpa using hlt)]
     rw [this]; rfl
   rintro DL ys nw hlt hD ⟨rfl, hS⟩ h tk htk Fe Ne
   (revert X hlt hS hD htk Fe Ne; revert gI I fp wr Md St DL ys h tk; with_reducible refine Drk5.all (by kpf_c) ((?_ : All5 _) _ _ _ _ _); refine fun gI I fp wr Md => Ap5.mk ?_; with_reducible refine Drk5.all (by kpf_c) ((?_ : All5 _) _ _ _ _ _); refine fun St DL ys h tk => Ap5.mk ?_; intros X hlt hS hD htk Fe Ne)
   dsimp only
   have hys : ys.length ≤ 14 := by
     rw [hS]; exact Nat.le_trans (List.length_filter_le _ _) (by rw [List.length_range]; exact Nat.le_refl _)
   (repeat' ((fail_if_success with_reducible first | refine z27 ?_ | refine z28 ?_ | refine z29 ?_ | refine z30 ?_ | refine z31 ?_); tb_rel))
   refine PySem.Calls.call_len_list (isList_news Ne (.head _)) (by rw [List.size_toArray]; omega) ?_
   rw [List.size_toArray, hS]
   have hpw : ((List.filter (fun k => decide (n < 16 ^ k)) (List.range 14)).length : Int).toNat ≤ 14 := by rw [← hS]; omega
   (repeat' ((fail_if_success with_reducible first | refine z27 ?_ | refine z28 ?_ | refine z29 ?_ | refine z30 ?_ | refine z31 ?_); tb_rel))
   rename_i T0 hT0 FT NT lT
   obtain ⟨u1, u2, u3, NT1⟩ : ∃ u1 u2 u3, News g' L' hT0 ((T0, tup3 n u1 u2 u3) :: (DL, LCg.lst ys) :: (S0, listOf (refsT sts).toArray cc) :: (L' + 1, o1) :: RT) := ⟨_, _, _, NT⟩
   (revert NT1; revert u1 u2 u3; with_reducible refine Drk3.all (by kpf_c) ((?_ : All3 _) _ _ _); refine fun u1 u2 u3 => Ap3.mk ?_; intros NT1)
   have hDS : @Ne Nat S0 DL := hD (S0, _) (.head _)
   have hstl : sts.length ≤ 30 := by
     have e := congrArg List.length hok1
     rw [lM, List.length_take] at e; omega
   have hrl : (refsT sts).toArray.size ≤ 30 := by unfold refsT; rw [List.size_toArray, lM]; exact hstl
   first | k_dflt (refine' append_K ?ap1 ?ap2 ?ap3 ?_ ?ap4; (case ap1 => exact FT); (case ap2 => exact NT1); (case ap3 => k_upd); (case ap4 => exact Nat.le_trans hrl (by decide))) | fail
   intro hA FA NA
   dsimp only at NA ⊢
   (repeat' ((fail_if_success with_reducible first | refine z27 ?_ | refine z28 ?_ | refine z29 ?_ | refine z30 ?_ | refine z31 ?_); tb_rel))
   dsimp only [FPost]
   have er : (refsT (sts ++ [(T0, n)])).toArray = (refsT sts).toArray.push (.ref T0) := by
     unfold refsT
     rw [List.map_append, List.push_toArray]; rfl
   have lTR : ∀ p ∈ RT, @LT.lt Nat _ p.1 T0 := fun p hp => allLt_mem lT.2.2.2 p hp
   (try (k_unfold; (try dsimp only)))
   refine FEnd.intro (c' := (sts ++ [(T0, n)], cc + 1, (T0, tup3 n u1 u2 u3) :: Tl, o1)) FA NA ?_ ?_ ?_ ?_ ⟨?_, ?_, ⟨_, d1⟩, ?_⟩
   · intro p hp
     dsimp only at hp
     rw [er] at hp
     rcases mc hp with rfl | hp
     · exact .tail _ (.tail _ (.head _))
     rcases mc hp with rfl | hp
     · exact .tail _ (.tail _ (.tail _ (.head _)))
     rcases ma hp with hp | hp
     · exact .tail _ (.tail _ (.tail _ (.tail _ (hSA p (ml _ hp)))))
     rcases mc hp with rfl | hp
     · exact .head _
     exact .tail _ (.tail _ (.tail _ (.tail _ (hSA p (mr _ hp)))))
   · intro p hp
     exact .tail _ (.tail _ (.tail _ (.tail _ (hSO p hp))))
   · intro p hp b hb
     dsimp only at hp
     rcases mc hp with rfl | hp
     · exact off (S0, _) (.head _) b hb
     rcases mc hp with rfl | hp
     · exact off (L' + 1, oc) (.tail _ (.head _)) b hb
     rcases ma hp with hp | hp
     · exact off p (.tail _ (.tail _ (ml _ hp))) b hb
     rcases mc hp with rfl | hp
     · obtain ⟨ob, hob⟩ := hw b hb
       (revert hob; revert ob; tb_start; refine fun ob => Ap.mk ?_; intros hob)
       exact Nat.ne_of_gt (lTR (b, ob) (hSO _ hob))
     exact off p (.tail _ (.tail _ (mr _ hp))) b hb
   · intro p hp
     iterate 2 (rcases mc hp with rfl | hp; (focus kernel_rfl))
     cases hp
   · dsimp only
     rw [List.map_append, hok1, List.take_add_one, hni]; rfl
   · intro q hq
     dsimp only at hq ⊢
     rcases ma hq with hq | hq
     · obtain ⟨b1, b2, b3, hmm⟩ := hok2 q hq
       (revert hmm; revert b1 b2 b3; with_reducible refine Drk3.all (by kpf_c) ((?_ : All3 _) _ _ _); refine fun b1 b2 b3 => Ap3.mk ?_; intros hmm)
       exact ⟨b1, b2, b3, .tail _ hmm⟩
     rw [ms hq]; exact ⟨_, _, _, .head _⟩
   intro p hp
   dsimp only at hp
   rcases mc hp with rfl | hp
   · exact ⟨lT.2.1, fun q hq => lTR q (hSA q (ml _ hq))⟩
   exact hok4 p hp
 rintro ⟨sts, cc, Tl, oc⟩ u h tk htk ⟨hok1, hok2, ⟨cv, hok3⟩, hok4⟩ Fi Ni
 (revert Xs hfp htk hok1 hok2 hok4 hok3 Fi Ni; revert gI I fp wr Md St sts cc Tl oc u h tk cv; with_reducible refine Drk7.all (by kpf_c) ((?_ : All7 _) _ _ _ _ _ _ _); refine fun gI I fp wr Md St sts => Ap7.mk ?_; with_reducible refine Drk7.all (by kpf_c) ((?_ : All7 _) _ _ _ _ _ _ _); refine fun cc Tl oc u h tk cv => Ap7.mk ?_; intros Xs hfp htk hok1 hok2 hok4 hok3 Fi Ni)
 dsimp only at hok1 hok2 hok3 hok4 Fi Ni ⊢
 rw [List.size_toArray, hz.length, List.take_length] at hok1
 have hCa : ∀ p ∈ news ++ Tl, p.1 ≠ (L' + 1 : Nat) := fun p hp => by
   rcases ma hp with hp | hp
   · exact Nat.ne_of_lt (hnwL1 p hp)
   exact Nat.ne_of_gt (Nat.lt_trans lS0.1 (hok4 p hp).1)
 have hNT : ∀ p ∈ news ++ Tl, p.1 ≠ S0 := fun p hp => by
   rcases ma hp with hp | hp
   · exact Nat.ne_of_lt (hnwL p hp)
   exact Nat.ne_of_gt (hok4 p hp).1
 (repeat' ((fail_if_success with_reducible first | refine z27 ?_ | refine z28 ?_ | refine z29 ?_ | refine z30 ?_ | refine z31 ?_); tb_rel))
 rename_i TR hq4 FR NR hAWt hALt lTR hq5 tq5 OP hq2 lOP hq3 FO NO
 have hstl : sts.length = ns.length := by
   have e := congrArg List.length hok1
   rw [lM] at e; exact e
 first | k_dflt (refine for_invE (σ := List (Addr × Bool × Int) × Nat × List TupT × Nat × Led) FO ?_ (fun _ => rfl)) | fail
 (repeat' ((fail_if_success with_reducible first | refine z27 ?_ | refine z28 ?_ | refine z29 ?_ | refine z30 ?_ | refine z31 ?_); tb_rel))
 (with_reducible rename Fr _ _ _ _ => F1); (with_reducible rename News _ _ _ _ => N1)
 refine sorted_tups (as := sts) F1 N1 (isList_news N1 (.tail _ (.tail _ (.head _)))) (by omega) (by omega) (by rw [hok1]; exact hnd) (fun q hq => by
   obtain ⟨b1, b2, b3, hmm⟩ := hok2 q hq
   (revert hq hmm; revert q b1 b2 b3; with_reducible refine Drk4.all (by kpf_c) ((?_ : All4 _) _ _ _ _); refine fun q b1 b2 b3 => Ap4.mk ?_; intros hq hmm)
   exact ⟨b1, b2, b3, .tail _ (.tail _ (.tail _ (.tail _ (mr _ hmm))))⟩) ?_
 intro B cB hB xs hxp hxw FB NB hltB
 dsimp only
 (repeat' ((fail_if_success with_reducible first | refine z27 ?_ | refine z28 ?_ | refine z29 ?_ | refine z30 ?_ | refine z31 ?_); tb_rel))
 have hxl : xs.length = ns.length := by rw [hxp.length_eq, hstl]
 have hxt : ∀ q ∈ xs, ∃ t1 t2 t3, (q.1, tup3 q.2 t1 t2 t3) ∈ news ++ Tl := fun q hq => by
   obtain ⟨b1, b2, b3, hmm⟩ := hok2 q (hxp.mem_iff.mp hq)
   (revert hq hmm; revert q b1 b2 b3; with_reducible refine Drk4.all (by kpf_c) ((?_ : All4 _) _ _ _ _); refine fun q b1 b2 b3 => Ap4.mk ?_; intros hq hmm)
   exact ⟨b1, b2, b3, mr _ hmm⟩
 have hRO : ∀ p ∈ news ++ Tl, @LT.lt Nat _ p.1 OP := fun p hp => allLt_mem lOP.2.2.2 p hp
 have hRT : ∀ p ∈ news ++ Tl, @LT.lt Nat _ p.1 TR := fun p hp => allLt_mem lTR.2.2 p hp
 have hTO : @LT.lt Nat _ TR OP := lOP.1
 have hns : ∀ p ∈ news, p ∈ news ++ Tl := fun p hp => ml _ hp
 have hnsT : ∀ p ∈ news, ∀ q ∈ Tl, @LT.lt Nat _ p.1 q.1 := fun p hp q hq => (hok4 q hq).2 p hp
 have NB1 : News g' L' hB ((B, listOf (refsT xs).toArray cB) :: (TR, listOf #[] 0) :: (OP, listOf #[] 0) :: (news ++ Tl)) := fun p hp => NB p (by
   rcases mc hp with rfl | hp
   · exact .head _
   rcases mc hp with rfl | hp
   · exact .tail _ (.tail _ (.head _))
   rcases mc hp with rfl | hp
   · exact .tail _ (.head _)
   exact .tail _ (.tail _ (.tail _ (.tail _ (.tail _ hp)))))
 have hBO : @LT.lt Nat _ OP B := hltB (OP, _) (.head _)
 generalize hRB : news ++ Tl = RB at *
 (revert hRB hCa hNT NR hAWt hALt lTR hAW hAL lOP N1 NB hltB hxt hRO hRT hns NB1; revert RB; tb_start; refine fun RB => Ap.mk ?_; intros hRB hCa hNT NR hAWt hALt lTR hAW hAL lOP N1 NB hltB hxt hRO hRT hns NB1)
 refine source_listO (its := (refsT xs).toArray) rfl FB NB1 (.head _) (by unfold refsT; rw [List.size_toArray, lM, hxl]; exact Nat.le_trans hn (by decide)) (fun _ _ _ _ _ _ _ _ _ q => hgo_name q) fun gI I fp wr Md St Xs hfp => ⟨fun _ => [(Str.ofString "opened", .ref OP), (Str.ofString "tour", .ref TR)],
   fun c => (TR, listOf (c.1.map fun q => Value.ref q.1).toArray c.2.1) :: (OP, listOf (refsT c.2.2.1).toArray c.2.2.2.1) :: (RB ++ c.2.2.2.2),
   fun i c => c.1.map (·.2) ++ tourGo ((xs.map (·.2)).drop i) (c.2.2.1.map (·.2)).reverse = tourGo (xs.map (·.2)) [] ∧ (∀ q ∈ c.1, ∃ t, (q.1, ({ cls := .type "tuple", data := .seq #[.bool q.2.1, .int q.2.2 t] } : Obj)) ∈ c.2.2.2.2) ∧ (∀ q ∈ c.2.2.1, q ∈ xs) ∧ c.1.length + c.2.2.1.length = 2 * i ∧ (∀ p ∈ c.2.2.2.2, @LT.lt Nat _ OP p.1 ∧ ∀ q ∈ RB, q.1 < p.1),
   _, _, _, _, I, fp, wr, Md, St, ([], 0, [], 0, []), Xs, ?_, ?_, ⟨rfl, (fun q h => nomatch h), (fun q h => nomatch h), rfl, (fun q h => nomatch h)⟩, ?_, ?_⟩
 · intro p hp
   dsimp only at hp
   rw [List.append_nil] at hp
   exact .tail _ hp
 · intro p hp
   iterate 2 (rcases mc hp with rfl | hp; (focus kernel_rfl))
   cases hp
 · rintro i v ⟨tq, ct, op, co, Yl⟩ u h tk own htk hi hP ⟨hj1, hj2, hj3, hj4, hj5⟩ off hw hown Fi Ni
   (revert Xs hfp htk hi hP hj1 hj2 hj3 hj4 hj5 off hw hown Fi Ni; revert gI I fp wr Md St i v tq ct op co Yl u h tk own; with_reducible refine Drk6.all (by kpf_c) ((?_ : All6 _) _ _ _ _ _ _); refine fun gI I fp wr Md St => Ap6.mk ?_; with_reducible refine Drk6.all (by kpf_c) ((?_ : All6 _) _ _ _ _ _ _); refine fun i v tq ct op co => Ap6.mk ?_; with_reducible refine Drk5.all (by kpf_c) ((?_ : All5 _) _ _ _ _ _); refine fun Yl u h tk own => Ap5.mk ?_; intros Xs hfp htk hi hP hj1 hj2 hj3 hj4 hj5 off hw hown Fi Ni)
   dsimp only at hj1 hj2 hj3 hj4 hj5 Fi Ni ⊢
   have hi' : i < ns.length := by unfold refsT at hi; rw [List.size_toArray, lM, hxl] at hi; exact hi
   obtain ⟨x, hxi, hve⟩ : ∃ x, xs[i]? = some x ∧ Value.ref x.1 = v := by
     unfold refsT at hP
     rw [List.getElem?_toArray, List.getElem?_map] at hP
     cases e : xs[i]? with
     | none => rw [e] at hP; cases hP
     | some q => rw [e] at hP; exact ⟨q, rfl, Option.some.inj hP⟩
   subst hve
   obtain ⟨b1, b2, b3, hxm⟩ := hxt x (List.mem_of_getElem? hxi)
   (revert hxi hP hxm; revert x b1 b2 b3; with_reducible refine Drk4.all (by kpf_c) ((?_ : All4 _) _ _ _ _); refine fun x b1 b2 b3 => Ap4.mk ?_; intros hxi hP hxm)
   dsimp only [List.cons_append] at Ni
   have hown1 : ∀ p ∈ own, p.1 ≠ TR ∧ p.1 ≠ OP := fun p hp => by
     rcases hfp _ (hown p hp) with e | e
     · rw [e]; exact ⟨Nat.ne_of_gt (Nat.lt_trans hTO hBO), Nat.ne_of_gt hBO⟩
     exact ⟨Nat.ne_of_gt (e (TR, _) (.tail _ (.head _))), Nat.ne_of_gt (e (OP, _) (.tail _ (.tail _ (.head _))))⟩
   have hdrop : (xs.map (·.2)).drop i = x.2 :: (xs.map (·.2)).drop (i + 1) := by
     rw [List.drop_eq_getElem_cons (by rw [lM, hxl]; exact hi')]
     congr 1
     rw [List.getElem_map]
     obtain ⟨hl, e⟩ := List.getElem?_eq_some_iff.mp hxi
     rw [e]
   (repeat' ((fail_if_success with_reducible first | refine z27 ?_ | refine z28 ?_ | refine z29 ?_ | refine z30 ?_ | refine z31 ?_); tb_rel))
   (with_reducible rename Fr _ _ _ _ => F1); (with_reducible rename News _ _ _ _ => N1)
   have hxi' : ∀ r, tq.map (·.2) ++ tourGo ((xs.map (·.2)).drop i) r = tq.map (·.2) ++ (popT (sT x.2) r ++ ((true, x.2) :: tourGo ((xs.map (·.2)).drop (i + 1)) (x.2 :: keepT (sT x.2) r))) := fun r => by rw [hdrop]; rfl
   replace hj1 := hj1
   rw [hxi'] at hj1
   refine while_out (σ := List (Addr × Bool × Int) × Nat × List TupT × Nat × Led) (h₀ := g') (L := L') (fun _ => [(Str.ofString "stretch", .ref x.1), (Str.ofString "opened", .ref OP), (Str.ofString "tour", .ref TR)]) (fun c => (TR, listOf (c.1.map fun q => Value.ref q.1).toArray c.2.1) :: (OP, listOf (refsT c.2.2.1).toArray c.2.2.2.1) :: (RB ++ (c.2.2.2.2 ++ own))) (fun c => c.1.map (·.2) ++ ((true, x.2) :: tourGo ((xs.map (·.2)).drop (i + 1)) (x.2 :: (c.2.2.1.map (·.2)).reverse)) = tourGo (xs.map (·.2)) [] ∧ (∀ q ∈ c.1, ∃ t, (q.1, ({ cls := .type "tuple", data := .seq #[.bool q.2.1, .int q.2.2 t] } : Obj)) ∈ c.2.2.2.2) ∧ (∀ q ∈ c.2.2.1, q ∈ xs) ∧ c.1.length + c.2.2.1.length = 2 * i ∧ (∀ p ∈ c.2.2.2.2, @LT.lt Nat _ OP p.1 ∧ (∀ q ∈ RB, q.1 < p.1) ∧ ∀ b ∈ wr, p.1 ≠ b)) ?_ ?_
   rotate_left
   · rintro ⟨tq, ct, op, co, Yl⟩ u2 h2 tk2 ⟨hj1, hj2, hj3, hj4, hj5⟩ Fw Nw
     (revert hj1 hj2 hj3 hj4 hj5 Fw Nw; revert tq ct op co Yl u2 h2 tk2; with_reducible refine Drk8.all (by kpf_c) ((?_ : All8 _) _ _ _ _ _ _ _ _); refine fun tq ct op co Yl u2 h2 tk2 => Ap8.mk ?_; intros hj1 hj2 hj3 hj4 hj5 Fw Nw)
     dsimp only at hj1 hj2 hj3 hj4 hj5 Fw Nw ⊢
     have hRW : ∀ p ∈ RB ++ (Yl ++ own), p.1 ≠ TR ∧ p.1 ≠ OP := fun p hp => by
       rcases ma hp with hp | hp
       · exact ⟨Nat.ne_of_lt (hRT p hp), Nat.ne_of_lt (hRO p hp)⟩
       rcases ma hp with hp | hp
       · exact ⟨Nat.ne_of_gt (Nat.lt_trans hTO (hj5 p hp).1), Nat.ne_of_gt (hj5 p hp).1⟩
       exact hown1 p hp
     have hRW1 : ∀ p ∈ RB ++ (Yl ++ own), p.1 ≠ TR := fun p hp => (hRW p hp).1
     have hRW2 : ∀ p ∈ RB ++ (Yl ++ own), p.1 ≠ OP := fun p hp => (hRW p hp).2
     have hW1 : ∀ p ∈ RB, p ∈ RB ++ (Yl ++ own) := fun p hp => ml _ hp
     have hW2 : ∀ p ∈ Yl, p ∈ RB ++ (Yl ++ own) := fun p hp => mr _ (ml _ hp)
     have hW3 : ∀ p ∈ own, p ∈ RB ++ (Yl ++ own) := fun p hp => mr _ (mr _ hp)
     have hxW : (x.1, tup3 x.2 b1 b2 b3) ∈ RB ++ (Yl ++ own) := hW1 _ hxm
     have hxTR : @Ne Nat x.1 TR := hRW1 _ hxW
     have hxOP : @Ne Nat x.1 OP := hRW2 _ hxW
     clear hRW
     generalize RB ++ (Yl ++ own) = RW at Nw hRW1 hRW2 hW1 hW2 hW3 hxW
     (revert Nw hRW1 hRW2 hW1 hW2 hW3 hxW; revert RW; tb_start; refine fun RW => Ap.mk ?_; intros Nw hRW1 hRW2 hW1 hW2 hW3 hxW)
     have Nw1 : News g' L' h2 ((x.1, tup3 x.2 b1 b2 b3) :: (TR, listOf (tq.map fun q => Value.ref q.1).toArray ct) :: (OP, listOf (refsT op).toArray co) :: RW) := fun p hp => by
       rcases mc hp with rfl | hp
       · exact Nw _ (.tail _ (.tail _ hxW))
       exact Nw p hp
     clear Nw F1 N1 Fi Ni
     (repeat' ((fail_if_success with_reducible first | refine z27 ?_ | refine z28 ?_ | refine z29 ?_ | refine z30 ?_ | refine z31 ?_); tb_rel))
     first | k_dflt (refine' append_K ?ap1 ?ap2 ?ap3 ?_ ?ap4; (case ap1 => exact Fw); (case ap2 => exact Nw1); (case ap3 => k_upd); (case ap4 => (unfold refsT; rw [List.size_toArray, lM]; exact Nat.le_trans (show op.length ≤ 2000 by omega) (by decide)))) | fail
     intro h3 F3 N3
     dsimp only at N3 ⊢
     (repeat' ((fail_if_success with_reducible first | refine z27 ?_ | refine z28 ?_ | refine z29 ?_ | refine z30 ?_ | refine z31 ?_); tb_rel))
     (with_reducible rename Fr _ _ _ _ => F1); (with_reducible rename News _ _ _ _ => N1)
     refine item_tuple (t := x.1) (items := #[.int (x.2 * szT x.2) b1, .int (-(x.2 + 1) * szT x.2) b2, .int x.2 b3]) (j := 2) (x := .int x.2 b3) ⟨_, N1.get (.head _), rfl, _, rfl⟩ (by decide) (by decide) rfl rfl ?_
     (repeat' ((fail_if_success with_reducible first | refine z27 ?_ | refine z28 ?_ | refine z29 ?_ | refine z30 ?_ | refine z31 ?_); tb_rel))
     rename_i T1 hT1 FT NT lT
     first | k_dflt (refine' append_K ?ap1 ?ap2 ?ap3 ?_ ?ap4; (case ap1 => exact FT); (case ap2 => exact NT); (case ap3 => k_upd); (case ap4 => (rw [List.size_toArray, lM]; exact Nat.le_trans (show tq.length ≤ 2000 by omega) (by decide)))) | fail
     intro h4 F4 N4
     dsimp only at N4 ⊢
     (repeat' ((fail_if_success with_reducible first | refine z27 ?_ | refine z28 ?_ | refine z29 ?_ | refine z30 ?_ | refine z31 ?_); tb_rel))
     dsimp only [FPost]
     have et : ((tq ++ [(T1, true, x.2)]).map fun q : Addr × Bool × Int => Value.ref q.1).toArray = (tq.map fun q => Value.ref q.1).toArray.push (.ref T1) := by
       rw [List.map_append, List.push_toArray]; rfl
     have eo : (refsT (op ++ [x])).toArray = (refsT op).toArray.push (.ref x.1) := by
       unfold refsT
       rw [List.map_append, List.push_toArray]; rfl
     have lTW : ∀ p ∈ RW, @LT.lt Nat _ p.1 T1 := fun p hp => allLt_mem lT.2.2.2 p hp
     (try (k_unfold; (try dsimp only)))
     refine FEnd.intro (c' := (tq ++ [(T1, true, x.2)], ct + 1, op ++ [x], co + 1, (T1, ({ cls := .type "tuple", data := .seq #[.bool true, .int x.2 b3] } : Obj)) :: Yl)) F4 N4 ?_ ?_ ?_ ?_ ⟨?_, ?_, ?_, ?_, ?_⟩
     · intro p hp
       dsimp only at hp
       rw [et, eo] at hp
       rcases mc hp with rfl | hp
       · exact .tail _ (.tail _ (.head _))
       rcases mc hp with rfl | hp
       · exact .tail _ (.tail _ (.tail _ (.head _)))
       rcases ma hp with hp | hp
       · exact .tail _ (.tail _ (.tail _ (.tail _ (hW1 p hp))))
       rcases mc hp with rfl | hp
       · exact .head _
       exact .tail _ (.tail _ (.tail _ (.tail _ (hW2 p hp))))
     · intro p hp
       exact .tail _ (.tail _ (.tail _ (.tail _ (hW3 p hp))))
     · intro p hp b hb
       dsimp only at hp
       rcases mc hp with rfl | hp
       · exact off (TR, _) (.head _) b hb
       rcases mc hp with rfl | hp
       · exact off (OP, _) (.tail _ (.head _)) b hb
       rcases ma hp with hp | hp
       · exact off p (.tail _ (.tail _ (ml _ hp))) b hb
       rcases mc hp with rfl | hp
       · obtain ⟨ob, hob⟩ := hw b hb
         (revert hob; revert ob; tb_start; refine fun ob => Ap.mk ?_; intros hob)
         exact Nat.ne_of_gt (lTW (b, ob) (hW3 _ hob))
       exact (hj5 p hp).2.2 b hb
     · intro p hp
       iterate 2 (rcases mc hp with rfl | hp; (focus kernel_rfl))
       cases hp
     · dsimp only
       rw [List.map_append, List.map_append, List.reverse_append, List.append_assoc]
       exact hj1
     · intro r hr
       dsimp only at hr ⊢
       rcases ma hr with hr | hr
       · obtain ⟨a1, hmm⟩ := hj2 r hr
         (revert hmm; revert a1; tb_start; refine fun a1 => Ap.mk ?_; intros hmm)
         exact ⟨a1, .tail _ hmm⟩
       rw [ms hr]; exact ⟨_, .head _⟩
     · intro r hr
       dsimp only at hr
       rcases ma hr with hr | hr
       · exact hj3 r hr
       rw [ms hr]; exact List.mem_of_getElem? hxi
     · dsimp only
       rw [lA, lA, List.length_singleton, List.length_singleton]; omega
     intro p hp
     dsimp only at hp
     rcases mc hp with rfl | hp
     · exact ⟨lT.2.2.1, fun r hr => lTW r (hW1 r hr)⟩
     exact ⟨(hj5 p hp).1, (hj5 p hp).2.1⟩
   refine while_inv (σ := List (Addr × Bool × Int) × Nat × List TupT × Nat × Led) (fun _ => [(Str.ofString "stretch", .ref x.1), (Str.ofString "opened", .ref OP), (Str.ofString "tour", .ref TR)]) (fun c => (TR, listOf (c.1.map fun q => Value.ref q.1).toArray c.2.1) :: (OP, listOf (refsT c.2.2.1).toArray c.2.2.2.1) :: (RB ++ (c.2.2.2.2 ++ own))) (fun c => c.1.map (·.2) ++ (popT (sT x.2) (c.2.2.1.map (·.2)).reverse ++ ((true, x.2) :: tourGo ((xs.map (·.2)).drop (i + 1)) (x.2 :: keepT (sT x.2) (c.2.2.1.map (·.2)).reverse))) = tourGo (xs.map (·.2)) [] ∧ (∀ q ∈ c.1, ∃ t, (q.1, ({ cls := .type "tuple", data := .seq #[.bool q.2.1, .int q.2.2 t] } : Obj)) ∈ c.2.2.2.2) ∧ (∀ q ∈ c.2.2.1, q ∈ xs) ∧ c.1.length + c.2.2.1.length = 2 * i ∧ (∀ p ∈ c.2.2.2.2, @LT.lt Nat _ OP p.1 ∧ (∀ q ∈ RB, q.1 < p.1) ∧ ∀ b ∈ wr, p.1 ≠ b)) (fun c => c.2.2.1.length) (tq, ct, op, co, Yl) F1 N1 ?_ (List.forall_mem_cons.mpr ⟨rfl, List.forall_mem_cons.mpr ⟨rfl, List.forall_mem_cons.mpr ⟨rfl, nofun⟩⟩⟩) ⟨hj1, hj2, hj3, hj4, fun p hp => ⟨(hj5 p hp).1, (hj5 p hp).2, fun b hb => off p (.tail _ (.tail _ (mr _ hp))) b hb⟩⟩ ?_
   · intro p hp
     dsimp only at hp
     rw [← List.append_assoc] at hp
     exact hp
   clear hj1 hj2 hj3 hj4 hj5 hxi'
   have offT : ∀ b ∈ wr, TR ≠ b := fun b hb => off (TR, _) (.head _) b hb
   have offO : ∀ b ∈ wr, OP ≠ b := fun b hb => off (OP, _) (.tail _ (.head _)) b hb
   have offR : ∀ p ∈ RB, ∀ b ∈ wr, p.1 ≠ b := fun p hp b hb => off p (.tail _ (.tail _ (ml _ hp))) b hb
   clear off F1 N1 Fi Ni
   rintro ⟨tq, ct, op, co, Yl⟩ u2 h2 tk2 ⟨hj1, hj2, hj3, hj4, hj5⟩ Fw Nw
   (revert hj1 hj2 hj3 hj4 hj5 Fw Nw; revert tq ct op co Yl u2 h2 tk2; with_reducible refine Drk8.all (by kpf_c) ((?_ : All8 _) _ _ _ _ _ _ _ _); refine fun tq ct op co Yl u2 h2 tk2 => Ap8.mk ?_; intros hj1 hj2 hj3 hj4 hj5 Fw Nw)
   dsimp only at hj1 hj2 hj3 hj4 hj5 Fw Nw ⊢
   have hRW : ∀ p ∈ RB ++ (Yl ++ own), p.1 ≠ TR ∧ p.1 ≠ OP := fun p hp => by
     rcases ma hp with hp | hp
     · exact ⟨Nat.ne_of_lt (hRT p hp), Nat.ne_of_lt (hRO p hp)⟩
     rcases ma hp with hp | hp
     · exact ⟨Nat.ne_of_gt (Nat.lt_trans hTO (hj5 p hp).1), Nat.ne_of_gt (hj5 p hp).1⟩
     exact hown1 p hp
   have hRW1 : ∀ p ∈ RB ++ (Yl ++ own), p.1 ≠ TR := fun p hp => (hRW p hp).1
   have hRW2 : ∀ p ∈ RB ++ (Yl ++ own), p.1 ≠ OP := fun p hp => (hRW p hp).2
   have hW1 : ∀ p ∈ RB, p ∈ RB ++ (Yl ++ own) := fun p hp => ml _ hp
   have hW2 : ∀ p ∈ Yl, p ∈ RB ++ (Yl ++ own) := fun p hp => mr _ (ml _ hp)
   have hW3 : ∀ p ∈ own, p ∈ RB ++ (Yl ++ own) := fun p hp => mr _ (mr _ hp)
   have hxW : (x.1, tup3 x.2 b1 b2 b3) ∈ RB ++ (Yl ++ own) := hW1 _ hxm
   have hxTR : @Ne Nat x.1 TR := hRW1 _ hxW
   have hxOP : @Ne Nat x.1 OP := hRW2 _ hxW
   have hdT : (popT (sT x.2) (op.map (·.2)).reverse = [] ∧ keepT (sT x.2) (op.map (·.2)).reverse = (op.map (·.2)).reverse) → True := fun _ => trivial
   generalize RB ++ (Yl ++ own) = RW at Nw hRW1 hRW2 hW1 hW2 hW3 hxW
   (revert Nw hRW1 hRW2 hW1 hW2 hW3 hxW; revert RW; tb_start; refine fun RW => Ap.mk ?_; intros Nw hRW1 hRW2 hW1 hW2 hW3 hxW)
   have Nw1 : News g' L' h2 ((x.1, tup3 x.2 b1 b2 b3) :: (TR, listOf (tq.map fun q => Value.ref q.1).toArray ct) :: (OP, listOf (refsT op).toArray co) :: RW) := fun p hp => by
     rcases mc hp with rfl | hp
     · exact Nw _ (.tail _ (.tail _ hxW))
     exact Nw p hp
   clear Nw
   rcases List.eq_nil_or_concat op with rfl | ⟨op', q, hop⟩
   · (repeat' ((fail_if_success with_reducible first | refine z27 ?_ | refine z28 ?_ | refine z29 ?_ | refine z30 ?_ | refine z31 ?_); tb_rel))
     (with_reducible rename Fr _ _ _ _ => F1); (with_reducible rename News _ _ _ _ => N1)
     refine wpAny_truthy_list (isList_news (its := (refsT []).toArray) N1 (by k_mem)) (by decide) ?_
     rw [if_neg (by decide : ¬ (!(refsT []).toArray.isEmpty) = true)]
     (try (k_unfold; (try dsimp only)))
     refine WOut.intro (tq, ct, [], co, Yl) F1 N1 ?_ (List.forall_mem_cons.mpr ⟨rfl, List.forall_mem_cons.mpr ⟨rfl, List.forall_mem_cons.mpr ⟨rfl, nofun⟩⟩⟩) ⟨hj1, hj2, hj3, hj4, hj5⟩
     intro p hp
     dsimp only at hp
     rcases mc hp with rfl | hp
     · exact .tail _ (.head _)
     rcases mc hp with rfl | hp
     · exact .tail _ (.tail _ (.head _))
     rcases ma hp with hp | hp
     · exact .tail _ (.tail _ (.tail _ (hW1 p hp)))
     rcases ma hp with hp | hp
     · exact .tail _ (.tail _ (.tail _ (hW2 p hp)))
     exact .tail _ (.tail _ (.tail _ (hW3 p hp)))
   rw [List.concat_eq_append] at hop
   subst hop
   have hqx := hj3 q (mr _ (.head _))
   obtain ⟨c1, c2, c3, hqm⟩ := hxt q hqx
   (revert hj1 hj3 hj4 hdT Nw1 hqx hqm; revert op' q c1 c2 c3; with_reducible refine Drk5.all (by kpf_c) ((?_ : All5 _) _ _ _ _ _); refine fun op' q c1 c2 c3 => Ap5.mk ?_; intros hj1 hj3 hj4 hdT Nw1 hqx hqm)
   have hqTR : @Ne Nat q.1 TR := hRW1 _ (hW1 _ hqm)
   have hqOP : @Ne Nat q.1 OP := hRW2 _ (hW1 _ hqm)
   have Nw2 : News g' L' h2 ((q.1, tup3 q.2 c1 c2 c3) :: (x.1, tup3 x.2 b1 b2 b3) :: (TR, listOf (tq.map fun q => Value.ref q.1).toArray ct) :: (OP, listOf (refsT (op' ++ [q])).toArray co) :: RW) := fun p hp => by
     rcases mc hp with rfl | hp
     · exact Nw1 _ (.tail _ (.tail _ (.tail _ (hW1 _ hqm))))
     exact Nw1 p hp
   clear Nw1
   have hol : (refsT (op' ++ [q])).length = op'.length + 1 := by unfold refsT; rw [lM, lA]; rfl
   have hol30 : op'.length + 1 ≤ 60 := by rw [lA, List.length_singleton] at hj4; omega
   have hla : (refsT (op' ++ [q]))[(-1 + ((refsT (op' ++ [q])).length : Int)).toNat]? = some (Value.ref q.1) := by
     rw [hol, show (-1 + ((op'.length + 1 : Nat) : Int)).toNat = op'.length by omega]
     unfold refsT
     rw [List.map_append, List.getElem?_append_right (by rw [lM]; exact Nat.le_refl _), lM, Nat.sub_self]; rfl
   (repeat' ((fail_if_success with_reducible first | refine z27 ?_ | refine z28 ?_ | refine z29 ?_ | refine z30 ?_ | refine z31 ?_); tb_rel))
   (with_reducible rename Fr _ _ _ _ => F1); (with_reducible rename News _ _ _ _ => N1)
   refine wpAny_truthy_list (isList_news (its := (refsT (op' ++ [q])).toArray) N1 (by k_mem)) (by rw [List.size_toArray, hol]; omega) ?_
   rw [if_pos (show (!(refsT (op' ++ [q])).toArray.isEmpty) = true by unfold refsT; simp)]
   (repeat' ((fail_if_success with_reducible first | refine z27 ?_ | refine z28 ?_ | refine z29 ?_ | refine z30 ?_ | refine z31 ?_); tb_rel))
   first | k_dflt (refine' kim_back (lo := listOf (refsT (op' ++ [q])).toArray co) (l := refsT (op' ++ [q])) (x := .ref q.1) ?kb1 ?kb2 rfl rfl (by decide) ?kb3 (by decide) ?kb4 ?_; (case kb1 => exact N1); (case kb2 => k_mem); (case kb3 => (rw [hol]; omega)); (case kb4 => exact hla)) | fail
   (repeat' ((fail_if_success with_reducible first | refine z27 ?_ | refine z28 ?_ | refine z29 ?_ | refine z30 ?_ | refine z31 ?_); tb_rel))
   walk1
   (repeat' ((fail_if_success with_reducible first | refine z45 ?_ | refine z27 ?_ | refine z28 ?_ | refine z29 ?_ | refine z30 ?_ | refine z31 ?_); tb_rel))
   · (with_reducible rename Fr _ _ _ _ => F1); (with_reducible rename News _ _ _ _ => N1)
     rename -(-(_ + 1) * _) ≤ _ => hle
     rw [le_eT] at hle
     have er : (refsT (op' ++ [q])).toArray = (refsT op').toArray.push (.ref q.1) := by
       unfold refsT
       rw [List.map_append, List.push_toArray]; rfl
     rw [er] at N1
     dsimp only
     (revert tk; tb_start; refine fun tk => Ap.mk ?_)
     first | k_dflt (refine' pop_push ?pp1 ?pp2 ?pp3 ?pp4 ?_; (case pp1 => exact F1); (case pp2 => exact N1); (case pp3 => k_upd); (case pp4 => (unfold refsT; rw [List.size_toArray, lM]; omega))) | fail
     intro h3 F3 N3
     dsimp only at N3 ⊢
     (repeat' ((fail_if_success with_reducible first | refine z27 ?_ | refine z28 ?_ | refine z29 ?_ | refine z30 ?_ | refine z31 ?_); tb_rel))
     rename_i T1 hT1 FT NT lT
     first | k_dflt (refine' append_K ?ap1 ?ap2 ?ap3 ?_ ?ap4; (case ap1 => exact FT); (case ap2 => exact NT); (case ap3 => k_upd); (case ap4 => (rw [List.size_toArray, lM]; exact Nat.le_trans (show tq.length ≤ 2000 by omega) (by decide)))) | fail
     intro h4 F4 N4
     dsimp only at N4 ⊢
     (repeat' ((fail_if_success with_reducible first | refine z27 ?_ | refine z28 ?_ | refine z29 ?_ | refine z30 ?_ | refine z31 ?_); tb_rel))
     have et : ((tq ++ [(T1, false, q.2)]).map fun q : Addr × Bool × Int => Value.ref q.1).toArray = (tq.map fun q => Value.ref q.1).toArray.push (.ref T1) := by
       rw [List.map_append, List.push_toArray]; rfl
     have lTW : ∀ p ∈ RW, @LT.lt Nat _ p.1 T1 := fun p hp => allLt_mem lT.2.2.2.2 p hp
     obtain ⟨hp1, hp2⟩ := popT_yes (r := (op'.map (·.2)).reverse) hle
     (try (k_unfold; (try dsimp only)))
     refine WEnd.intro (tq ++ [(T1, false, q.2)], ct + 1, op', co + 1, (T1, ({ cls := .type "tuple", data := .seq #[.bool false, .int q.2 c3] } : Obj)) :: Yl) F4 N4 ?_ (List.forall_mem_cons.mpr ⟨rfl, List.forall_mem_cons.mpr ⟨rfl, List.forall_mem_cons.mpr ⟨rfl, nofun⟩⟩⟩) ⟨?_, ?_, fun r hr => hj3 r (ml _ hr), ?_, ?_⟩ ?_
     · intro p hp
       dsimp only at hp
       rw [et] at hp
       rcases mc hp with rfl | hp
       · exact .tail _ (.tail _ (.tail _ (.head _)))
       rcases mc hp with rfl | hp
       · exact .tail _ (.tail _ (.tail _ (.tail _ (.head _))))
       rcases ma hp with hp | hp
       · exact .tail _ (.tail _ (.tail _ (.tail _ (.tail _ (hW1 p hp)))))
       rcases ma hp with hp | hp
       · rcases mc hp with rfl | hp
         · exact .head _
         exact .tail _ (.tail _ (.tail _ (.tail _ (.tail _ (hW2 p hp)))))
       exact .tail _ (.tail _ (.tail _ (.tail _ (.tail _ (hW3 p hp)))))
     · dsimp only
       rw [List.map_append, List.reverse_append, List.map_singleton, List.reverse_singleton, List.singleton_append, hp1, hp2] at hj1
       rw [List.map_append, List.append_assoc]
       exact hj1
     · intro r hr
       dsimp only at hr ⊢
       rcases ma hr with hr | hr
       · obtain ⟨a1, hmm⟩ := hj2 r hr
         (revert hmm; revert a1; tb_start; refine fun a1 => Ap.mk ?_; intros hmm)
         exact ⟨a1, .tail _ hmm⟩
       rw [ms hr]; exact ⟨_, .head _⟩
     · dsimp only
       rw [lA, List.length_singleton] at hj4 ⊢
       omega
     · intro p hp
       dsimp only at hp
       rcases mc hp with rfl | hp
       · refine ⟨lT.2.2.2.1, fun r hr => lTW r (hW1 r hr), fun b hb => ?_⟩
         obtain ⟨ob, hob⟩ := hw b hb
         (revert hb hob; revert b ob; with_reducible refine Drk2.all (by kpf_c) ((?_ : All2 _) _ _); refine fun b ob => Ap2.mk ?_; intros hb hob)
         exact Nat.ne_of_gt (lTW (b, ob) (hW3 _ hob))
       exact hj5 p hp
     dsimp only
     rw [lA, List.length_singleton]; omega
   (with_reducible rename Fr _ _ _ _ => F1); (with_reducible rename News _ _ _ _ => N1)
   rename ¬ -(-(_ + 1) * _) ≤ _ => hle
   rw [le_eT] at hle
   obtain ⟨hp1, hp2⟩ := popT_no (r := (op'.map (·.2)).reverse) hle
   (try (k_unfold; (try dsimp only)))
   refine WOut.intro (tq, ct, op' ++ [q], co, Yl) F1 N1 ?_ (List.forall_mem_cons.mpr ⟨rfl, List.forall_mem_cons.mpr ⟨rfl, List.forall_mem_cons.mpr ⟨rfl, nofun⟩⟩⟩) ⟨?_, hj2, hj3, hj4, hj5⟩
   · intro p hp
     dsimp only at hp
     rcases mc hp with rfl | hp
     · exact .tail _ (.tail _ (.head _))
     rcases mc hp with rfl | hp
     · exact .tail _ (.tail _ (.tail _ (.head _)))
     rcases ma hp with hp | hp
     · exact .tail _ (.tail _ (.tail _ (.tail _ (hW1 p hp))))
     rcases ma hp with hp | hp
     · exact .tail _ (.tail _ (.tail _ (.tail _ (hW2 p hp))))
     exact .tail _ (.tail _ (.tail _ (.tail _ (hW3 p hp))))
   dsimp only
   rw [List.map_append, List.reverse_append, List.map_singleton, List.reverse_singleton, List.singleton_append] at hj1 ⊢
   rw [hp1, hp2, List.nil_append] at hj1
   exact hj1
 rintro ⟨tq, ct, op, co, Yl⟩ u h tk htk ⟨hj1, hj2, hj3, hj4, hj5⟩ Fi Ni
 (revert Xs hfp htk hj1 hj2 hj3 hj4 hj5 Fi Ni; revert gI I fp wr Md St tq ct op co Yl u h tk; with_reducible refine Drk7.all (by kpf_c) ((?_ : All7 _) _ _ _ _ _ _ _); refine fun gI I fp wr Md St tq => Ap7.mk ?_; with_reducible refine Drk7.all (by kpf_c) ((?_ : All7 _) _ _ _ _ _ _ _); refine fun ct op co Yl u h tk => Ap7.mk ?_; intros Xs hfp htk hj1 hj2 hj3 hj4 hj5 Fi Ni)
 dsimp only at hj1 hj2 hj3 hj4 hj5 Fi Ni ⊢
 have hdl : List.drop (refsT xs).toArray.size (xs.map (·.2)) = [] := by
   unfold refsT
   rw [List.size_toArray, lM]; exact List.drop_of_length_le (by rw [lM]; exact Nat.le_refl _)
 rw [hdl] at hj1
 have hx60 : (refsT xs).toArray.size ≤ 30 := by unfold refsT; rw [List.size_toArray, lM]; omega
 (repeat' ((fail_if_success with_reducible first | refine z27 ?_ | refine z28 ?_ | refine z29 ?_ | refine z30 ?_ | refine z31 ?_); tb_rel))
 (with_reducible rename Fr _ _ _ _ => F1); (with_reducible rename News _ _ _ _ => N1)
 refine while_out (σ := List (Addr × Bool × Int) × Nat × List TupT × Nat × Led) (h₀ := g') (L := L') (fun _ => [(Str.ofString "opened", .ref OP), (Str.ofString "tour", .ref TR)]) (fun c => (TR, listOf (c.1.map fun q => Value.ref q.1).toArray c.2.1) :: (OP, listOf (refsT c.2.2.1).toArray c.2.2.2.1) :: (RB ++ c.2.2.2.2)) (fun c => c.1.map (·.2) = tourGo (xs.map (·.2)) [] ∧ (∀ q ∈ c.1, ∃ t, (q.1, ({ cls := .type "tuple", data := .seq #[.bool q.2.1, .int q.2.2 t] } : Obj)) ∈ c.2.2.2.2) ∧ (∀ p ∈ c.2.2.2.2, @LT.lt Nat _ OP p.1 ∧ (∀ q ∈ RB, q.1 < p.1))) ?_ ?_
 rotate_left
 · rintro ⟨tq, ct, op, co, Yl⟩ u2 h2 tk2 ⟨hj1, hj2, hj5⟩ Fw Nw
   (revert hj1 hj2 hj5 Fw Nw; revert tq ct op co Yl u2 h2 tk2; with_reducible refine Drk8.all (by kpf_c) ((?_ : All8 _) _ _ _ _ _ _ _ _); refine fun tq ct op co Yl u2 h2 tk2 => Ap8.mk ?_; intros hj1 hj2 hj5 Fw Nw)
   dsimp only at hj1 hj2 hj5 Fw Nw ⊢
   (repeat' ((fail_if_success with_reducible first | refine z27 ?_ | refine z28 ?_ | refine z29 ?_ | refine z30 ?_ | refine z31 ?_); tb_rel))
   ((try (k_unfold; (try dsimp only))); k_dflt (refine' leaveK_ ?k1 ?k2 ?_; (case k1 => k_asm); (case k2 => k_asm)); intro kF kN; (try dsimp only))
   refine hret _ _ _ _ ⟨TR, tq, (OP, listOf (refsT op).toArray co) :: (Tl ++ Yl), xs.map (·.2), ct, rfl, rfl, ?_, ?_, ?_, hj1, ?_⟩ kF ?_
   · intro p hp
     refine ⟨hRT p (hns p hp), fun q hq => ?_⟩
     rcases mc hq with rfl | hq
     · exact hRO p (hns p hp)
     rcases ma hq with hq | hq
     · exact hnsT p hp q hq
     exact (hj5 q hq).2 p (hns p hp)
   · exact (hok1 ▸ hxp.map (·.2))
   · rw [List.pairwise_map]; exact hxw
   · intro q hq
     obtain ⟨a1, hmm⟩ := hj2 q hq
     (revert hmm; revert a1; tb_start; refine fun a1 => Ap.mk ?_; intros hmm)
     exact ⟨a1, .tail _ (mr _ hmm)⟩
   intro p hp
   rcases mc hp with rfl | hp
   · exact kN _ (.head _)
   rcases ma hp with hp | hp
   · rcases mc hp with rfl | hp
     · exact kN _ (.tail _ (.head _))
     rcases ma hp with hp | hp
     · exact kN p (.tail _ (.tail _ (ml _ (hRB ▸ mr _ hp))))
     exact kN p (.tail _ (.tail _ (mr _ hp)))
   exact kN p (.tail _ (.tail _ (ml _ (hns p hp))))
 refine while_inv (σ := List (Addr × Bool × Int) × Nat × List TupT × Nat × Led) (fun _ => [(Str.ofString "opened", .ref OP), (Str.ofString "tour", .ref TR)]) (fun c => (TR, listOf (c.1.map fun q => Value.ref q.1).toArray c.2.1) :: (OP, listOf (refsT c.2.2.1).toArray c.2.2.2.1) :: (RB ++ c.2.2.2.2)) (fun c => c.1.map (·.2) ++ (c.2.2.1.map (·.2)).reverse.map (fun n => (false, n)) = tourGo (xs.map (·.2)) [] ∧ (∀ q ∈ c.1, ∃ t, (q.1, ({ cls := .type "tuple", data := .seq #[.bool q.2.1, .int q.2.2 t] } : Obj)) ∈ c.2.2.2.2) ∧ (∀ q ∈ c.2.2.1, q ∈ xs) ∧ c.1.length + c.2.2.1.length ≤ 60 ∧ (∀ p ∈ c.2.2.2.2, @LT.lt Nat _ OP p.1 ∧ (∀ q ∈ RB, q.1 < p.1))) (fun c => c.2.2.1.length) (tq, ct, op, co, Yl) F1 N1 (fun p hp => hp) (List.forall_mem_cons.mpr ⟨rfl, List.forall_mem_cons.mpr ⟨rfl, nofun⟩⟩) ⟨hj1, hj2, hj3, by dsimp only; omega, hj5⟩ ?_
 clear hj1 hj2 hj3 hj4 hj5 F1 N1
 rintro ⟨tq, ct, op, co, Yl⟩ u2 h2 tk2 ⟨hj1, hj2, hj3, hj4, hj5⟩ Fw Nw
 (revert hj1 hj2 hj3 hj4 hj5 Fw Nw; revert tq ct op co Yl u2 h2 tk2; with_reducible refine Drk8.all (by kpf_c) ((?_ : All8 _) _ _ _ _ _ _ _ _); refine fun tq ct op co Yl u2 h2 tk2 => Ap8.mk ?_; intros hj1 hj2 hj3 hj4 hj5 Fw Nw)
 dsimp only at hj1 hj2 hj3 hj4 hj5 Fw Nw ⊢
 have hRW1 : ∀ p ∈ RB ++ Yl, p.1 ≠ TR := fun p hp => by
   rcases ma hp with hp | hp
   · exact Nat.ne_of_lt (hRT p hp)
   exact Nat.ne_of_gt (Nat.lt_trans hTO (hj5 p hp).1)
 have hRW2 : ∀ p ∈ RB ++ Yl, p.1 ≠ OP := fun p hp => by
   rcases ma hp with hp | hp
   · exact Nat.ne_of_lt (hRO p hp)
   exact Nat.ne_of_gt (hj5 p hp).1
 have hW1 : ∀ p ∈ RB, p ∈ RB ++ Yl := fun p hp => ml _ hp
 have hW2 : ∀ p ∈ Yl, p ∈ RB ++ Yl := fun p hp => mr _ hp
 rcases List.eq_nil_or_concat op with rfl | ⟨op', q, hop⟩
 · (repeat' ((fail_if_success with_reducible first | refine z27 ?_ | refine z28 ?_ | refine z29 ?_ | refine z30 ?_ | refine z31 ?_); tb_rel))
   (with_reducible rename Fr _ _ _ _ => F1); (with_reducible rename News _ _ _ _ => N1)
   refine wpAny_truthy_list (isList_news (its := (refsT []).toArray) N1 (by k_mem)) (by decide) ?_
   rw [if_neg (by decide : ¬ (!(refsT []).toArray.isEmpty) = true)]
   (try (k_unfold; (try dsimp only)))
   refine WOut.intro (tq, ct, [], co, Yl) F1 N1 (fun p hp => hp) (List.forall_mem_cons.mpr ⟨rfl, List.forall_mem_cons.mpr ⟨rfl, nofun⟩⟩) ⟨?_, hj2, hj5⟩
   rw [List.map_nil, List.reverse_nil, List.map_nil, List.append_nil] at hj1
   exact hj1
 rw [List.concat_eq_append] at hop
 subst hop
 have hqx := hj3 q (mr _ (.head _))
 obtain ⟨c1, c2, c3, hqm⟩ := hxt q hqx
 (revert hj1 hj3 hj4 Nw hqx hqm; revert op' q c1 c2 c3; with_reducible refine Drk5.all (by kpf_c) ((?_ : All5 _) _ _ _ _ _); refine fun op' q c1 c2 c3 => Ap5.mk ?_; intros hj1 hj3 hj4 Nw hqx hqm)
 have hqTR : @Ne Nat q.1 TR := hRW1 _ (hW1 _ hqm)
 have hqOP : @Ne Nat q.1 OP := hRW2 _ (hW1 _ hqm)
 have er : (refsT (op' ++ [q])).toArray = (refsT op').toArray.push (.ref q.1) := by
   unfold refsT
   rw [List.map_append, List.push_toArray]; rfl
 generalize RB ++ Yl = RW at Nw hRW1 hRW2 hW1 hW2
 (revert Nw hRW1 hRW2 hW1 hW2; revert RW; tb_start; refine fun RW => Ap.mk ?_; intros Nw hRW1 hRW2 hW1 hW2)
 have Nw2 : News g' L' h2 ((q.1, tup3 q.2 c1 c2 c3) :: (TR, listOf (tq.map fun q => Value.ref q.1).toArray ct) :: (OP, listOf ((refsT op').toArray.push (.ref q.1)) co) :: RW) := fun p hp => by
   rw [← er] at hp
   rcases mc hp with rfl | hp
   · exact Nw _ (.tail _ (.tail _ (hW1 _ hqm)))
   exact Nw p hp
 clear Nw
 have hol30 : op'.length + 1 ≤ 60 := by rw [lA, List.length_singleton] at hj4; omega
 have hos : ((refsT op').toArray.push (Value.ref q.1)).size = op'.length + 1 := by unfold refsT; rw [Array.size_push, List.size_toArray, lM]
 (repeat' ((fail_if_success with_reducible first | refine z27 ?_ | refine z28 ?_ | refine z29 ?_ | refine z30 ?_ | refine z31 ?_); tb_rel))
 (with_reducible rename Fr _ _ _ _ => F1); (with_reducible rename News _ _ _ _ => N1)
 refine wpAny_truthy_list (isList_news (its := (refsT op').toArray.push (.ref q.1)) N1 (by k_mem)) (by rw [hos]; omega) ?_
 rw [if_pos (show (!((refsT op').toArray.push (Value.ref q.1)).isEmpty) = true by rw [Bool.not_eq_true', Array.isEmpty_eq_false_iff]; intro e; rw [e] at hos; exact absurd hos (by simp))]
 (repeat' ((fail_if_success with_reducible first | refine z45 ?_ | refine z27 ?_ | refine z28 ?_ | refine z29 ?_ | refine z30 ?_ | refine z31 ?_); tb_rel))
 (with_reducible rename Fr _ _ _ _ => F1); (with_reducible rename News _ _ _ _ => N1)
 dsimp only
 first | k_dflt (refine' pop_push ?pp1 ?pp2 ?pp3 ?pp4 ?_; (case pp1 => exact F1); (case pp2 => exact N1); (case pp3 => k_upd); (case pp4 => (unfold refsT; rw [List.size_toArray, lM]; omega))) | fail
 intro h3 F3 N3
 dsimp only at N3 ⊢
 (repeat' ((fail_if_success with_reducible first | refine z27 ?_ | refine z28 ?_ | refine z29 ?_ | refine z30 ?_ | refine z31 ?_); tb_rel))
 rename_i T1 hT1 FT NT lT
 first | k_dflt (refine' append_K ?ap1 ?ap2 ?ap3 ?_ ?ap4; (case ap1 => exact FT); (case ap2 => exact NT); (case ap3 => k_upd); (case ap4 => (rw [List.size_toArray, lM]; exact Nat.le_trans (show tq.length ≤ 2000 by omega) (by decide)))) | fail
 intro h4 F4 N4
 dsimp only at N4 ⊢
 (repeat' ((fail_if_success with_reducible first | refine z27 ?_ | refine z28 ?_ | refine z29 ?_ | refine z30 ?_ | refine z31 ?_); tb_rel))
 have et : ((tq ++ [(T1, false, q.2)]).map fun q : Addr × Bool × Int => Value.ref q.1).toArray = (tq.map fun q => Value.ref q.1).toArray.push (.ref T1) := by
   rw [List.map_append, List.push_toArray]; rfl
 have lTW : ∀ p ∈ RW, @LT.lt Nat _ p.1 T1 := fun p hp => allLt_mem lT.2.2.2 p hp
 (try (k_unfold; (try dsimp only)))
 refine WEnd.intro (tq ++ [(T1, false, q.2)], ct + 1, op', co + 1, (T1, ({ cls := .type "tuple", data := .seq #[.bool false, .int q.2 c3] } : Obj)) :: Yl) F4 N4 ?_ (List.forall_mem_cons.mpr ⟨rfl, List.forall_mem_cons.mpr ⟨rfl, nofun⟩⟩) ⟨?_, ?_, fun r hr => hj3 r (ml _ hr), ?_, ?_⟩ ?_
 · intro p hp
   dsimp only at hp
   rw [et] at hp
   rcases mc hp with rfl | hp
   · exact .tail _ (.tail _ (.head _))
   rcases mc hp with rfl | hp
   · exact .tail _ (.tail _ (.tail _ (.head _)))
   rcases ma hp with hp | hp
   · exact .tail _ (.tail _ (.tail _ (.tail _ (hW1 p hp))))
   rcases mc hp with rfl | hp
   · exact .head _
   exact .tail _ (.tail _ (.tail _ (.tail _ (hW2 p hp))))
 · dsimp only
   rw [List.map_append, List.reverse_append, List.map_singleton, List.reverse_singleton, List.singleton_append, List.map_cons] at hj1
   rw [List.map_append, List.append_assoc]
   exact hj1
 · intro r hr
   dsimp only at hr ⊢
   rcases ma hr with hr | hr
   · obtain ⟨a1, hmm⟩ := hj2 r hr
     (revert hmm; revert a1; tb_start; refine fun a1 => Ap.mk ?_; intros hmm)
     exact ⟨a1, .tail _ hmm⟩
   rw [ms hr]; exact ⟨_, .head _⟩
 · dsimp only
   rw [lA, List.length_singleton] at hj4 ⊢
   omega
 · intro p hp
   dsimp only at hp
   rcases mc hp with rfl | hp
   · exact ⟨lT.2.2.1, fun r hr => lTW r (hW1 r hr)⟩
   exact hj5 p hp
 dsimp only
 rw [lA, List.length_singleton]; omega
section
open PySem.Calls
variable {prog : Program} {w : World} {A : Around} {E : Value → Shared → Prop} {s : Shared} {h₀ : Heap} {L : Addr} {m : Str → Option Value} {news : Led}
structure EnumAt (h₀ : Heap) (L : Addr) (news : Led) (h : Heap) (e it l : Addr) : Prop where
 hE : IsEnum h e it 0 .none
 hI : h.IsListIter it l 0
 ne : e ≠ it ∧ l ≠ e ∧ l ≠ it
 fr : h₀.get? e = none ∧ h₀.get? it = none ∧ e ≠ L ∧ it ≠ L
 lt : ∀ p ∈ news, @LT.lt Nat _ p.1 it ∧ @LT.lt Nat _ p.1 e
theorem call_enum {l : Addr} {its : Array Value} {lk : Nat} {Q : Value → Shared → Prop} (F : Fr h₀ L s.heap m) (N : News h₀ L s.heap news) (hm : (l, ({ cls := .type "list", data := .seq its lk } : Obj)) ∈ news)
   (h : ∀ e it h', Fr h₀ L h' m → News h₀ L h' news → EnumAt h₀ L news h' e it l → Q (.ref e) { s with heap := h' }) :
   wpAny (model prog w) A (call (.type "enumerate") [.ref l]) Q E s := by
 have hlt : l < s.heap.objs.size := Heap.lt_size (N _ hm).1
 have hLs : L < s.heap.objs.size := F.ns.lt
 have fresh₀ : ∀ a, s.heap.objs.size ≤ a → h₀.get? a = none := fun a ha => by
   cases e : h₀.get? a with
   | none => rfl
   | some o' => exact absurd (Heap.lt_size (F.keep a o' e)) (Nat.not_lt.mpr ha)
 refine call_enumerate_list (isList_news N hm) fun h' hE hI hsz hk => ?_
 refine h _ _ h' (F.keeps hk) (N.grown hk) ⟨hE, hI, ⟨Nat.succ_ne_self _, Nat.ne_of_lt (Nat.lt_succ_of_lt hlt), Nat.ne_of_lt hlt⟩, ⟨fresh₀ _ (Nat.le_succ _), fresh₀ _ (Nat.le_refl _), Nat.ne_of_gt (Nat.lt_succ_of_lt hLs), Nat.ne_of_gt hLs⟩, fun p hp => ⟨Heap.lt_size (N p hp).1, Nat.lt_succ_of_lt (Heap.lt_size (N p hp).1)⟩⟩
theorem source_enum {elts : List Expr} {kk : Nat} {pos : Pos} {e it l : Addr} {its : Array Value} {lk : Nat} {K : Value → Shared → Prop} (hh : A.handled = none) (F : Fr h₀ L s.heap m) (N : News h₀ L s.heap news) (hm : (l, ({ cls := .type "list", data := .seq its lk } : Obj)) ∈ news) (X : EnumAt h₀ L news s.heap e it l) (hsz : its.size ≤ sizeLine)
   (h : ∀ fp wr Md St, Source prog w A (.Tuple elts kk pos) h₀ L m news its.size (fun i v h => ∃ T t x, v = .ref T ∧ its[i]? = some x ∧ h.IsTuple T #[.int (i : Int) t, x]) (.ref e) s e fp wr Md St → (∀ b ∈ fp, b = l ∨ ∀ p ∈ news, p.1 < b) → K (.ref e) s) :
   wpAny (model prog w) A (pyIter (.ref e)) K E s := by
 have hl := isList_news N hm
 refine wpAny_pyIter_enum X.hE ?_
 have W := KTurns.ofWalksU (prog := prog) (w := w) (A := A) (elts := elts) (k := kk) (pos := pos) (WalksT.enumerate (prog := prog) (w := w) hh e it l X.ne.1 X.ne.2.1 X.ne.2.2 its).toU
 have W' : KTurns prog w A (.Tuple elts kk pos) e [e, it, l] [e, it] its.size (fun i v h => ∃ T t x, v = .ref T ∧ its[i]? = some x ∧ h.IsTuple T #[.int (i : Int) t, x]) _ _ := { sub := W.sub, frame := W.frame, item := W.item, done := W.done, go := fun i v s Q E hm hQ => W.go i v s Q E hm fun h' hp => hQ h' (by obtain ⟨T, vals, rfl, ⟨t, x, hx, rfl⟩, hT⟩ := hp; exact ⟨T, t, x, rfl, hx, hT⟩) }
 refine h [e, it, l] [e, it] _ _ ⟨rfl, W', ?_, ?_, ?_, ?_, ?_, ?_, ?_, F, N, hsz⟩ ?_
 · rintro s Q E ⟨⟨old, he⟩, _⟩ q
   exact wpAny_pyIter_enum he q
 · rintro i h ⟨⟨old, he⟩, ⟨oi, hoi, _⟩, _⟩ b hb
   rcases mc hb with rfl | hb
   · exact ⟨_, he⟩
   rw [ms hb]; exact ⟨_, hoi⟩
 · rintro hL
   rcases mc hL with q | hL
   · exact X.fr.2.2.1 q.symm
   rcases mc hL with q | hL
   · exact X.fr.2.2.2 q.symm
   exact (N _ hm).2.1 (ms hL).symm
 · rintro b hb
   rcases mc hb with rfl | hb
   · exact X.fr.1
   rw [ms hb]; exact X.fr.2.1
 · rintro p hp b hb
   rcases mc hb with rfl | hb
   · exact Nat.ne_of_lt (X.lt p hp).2
   rw [ms hb]; exact Nat.ne_of_lt (X.lt p hp).1
 · exact ⟨⟨_, X.hE⟩, X.hI, hl⟩
 · rintro b hb
   rcases mc hb with rfl | hb
   · exact Heap.lt_size X.hE
   rcases mc hb with rfl | hb
   · obtain ⟨oi, hoi, _⟩ := X.hI; exact Heap.lt_size hoi
   rw [ms hb]; exact Heap.lt_size (N _ hm).1
 rintro b hb
 rcases mc hb with rfl | hb
 · exact .inr fun p hp => (X.lt p hp).2
 rcases mc hb with rfl | hb
 · exact .inr fun p hp => (X.lt p hp).1
 exact .inl (ms hb)
end
def opensT (T : List (Bool × Int)) : List Int := (T.filter (·.1)).map (·.2)
def closesT (T : List (Bool × Int)) : List Int := (T.filter (fun q => !q.1)).map (·.2)
def labT (T : List (Bool × Int)) (n : Int) : Str := nName ((opensT T).idxOf n)
theorem split_allB {a : Addr × Obj} {l : Led} {h₀ h : Heap} {L : Addr} (N : News h₀ L h (a :: l)) : ∃ NL, NL = l ∧ News h₀ L h (a :: NL) := ⟨l, rfl, N⟩
theorem wordS_len {n : Int} (h0 : 0 < n) (h : n < 16 ^ 14) : (wordS n.toNat).length ≤ 14 := by
 have h1 : n.toNat < 16 ^ 14 := by omega
 have h2 := wordL_len 14 n.toNat h1
 unfold wordS
 show (wordL n.toNat).toArray.size ≤ 14
 rw [List.size_toArray]; exact h2
noncomputable def pg1 (T : List (Bool × Int)) (n0 : Int) (i : Nat) : List Str := (Str.ofString "<" ++ labT T n0 ++ Str.ofString ":r") :: ((opensT T).take i).map fun n => Str.ofString " xmlns:" ++ labT T n ++ Str.ofString "=\"" ++ wordS n.toNat ++ Str.ofString "\""
noncomputable def pg2 (T : List (Bool × Int)) (n0 : Int) (i : Nat) : List Str := pg1 T n0 (opensT T).length ++ (closesT (T.take i)).map fun n => Str.ofString " " ++ labT T n ++ Str.ofString ":a=\"" ++ valS n ++ Str.ofString "\""
noncomputable def pg3 (T : List (Bool × Int)) (n0 : Int) (i : Nat) : List Str := (pg2 T n0 T.length ++ [Str.ofString ">"]) ++ (T.take i).map fun q => if q.1 = true then Str.ofString "<" ++ labT T q.2 ++ Str.ofString ":e>" ++ txtS q.2 else Str.ofString "</" ++ labT T q.2 ++ Str.ofString ":e>"
theorem closesT_len (T : List (Bool × Int)) : (closesT T).length ≤ T.length := by
 unfold closesT
 rw [lM]; exact List.length_filter_le _ _
theorem pg1_len (T : List (Bool × Int)) (n0 : Int) (i : Nat) : (pg1 T n0 i).length ≤ 1 + T.length := by
 unfold pg1 opensT
 rw [List.length_cons, lM, List.length_take, lM]
 have := List.length_filter_le (·.1) T
 omega
theorem pg2_len (T : List (Bool × Int)) (n0 : Int) (i : Nat) : (pg2 T n0 i).length ≤ 1 + 2 * T.length := by
 unfold pg2
 rw [lA, lM]
 have h1 := pg1_len T n0 (opensT T).length
 have h2 := closesT_len (T.take i)
 rw [List.length_take] at h2
 omega
theorem pg3_len (T : List (Bool × Int)) (n0 : Int) (i : Nat) : (pg3 T n0 i).length ≤ 2 + 3 * T.length := by
 unfold pg3
 rw [lA, lA, List.length_singleton, lM, List.length_take]
 have h1 := pg2_len T n0 T.length
 omega
noncomputable def pgL (T : List (Bool × Int)) (n0 : Int) : List Str := pg3 T n0 T.length ++ [Str.ofString "</" ++ labT T n0 ++ Str.ofString ":r>"]
theorem sum6 {f : Nat → Str} (h : ∀ c, (f c).length ≤ 6) (l : List Nat) : ((l.map f).map (·.length)).sum ≤ 6 * l.length := by
 induction l with
 | nil => exact Nat.le_refl _
 | cons a r ih => rw [List.map_cons, List.map_cons, List.sum_cons, List.length_cons]; have := h a; omega
theorem join0_len (l : List Str) : (Txt.join (Str.ofString "") l).length = (l.map (·.length)).sum := by
 show (Txt.join (Str.ofString "") l).cps.size = _
 rw [← Array.length_toList, join_list, List.length_flatten, List.map_map]; rfl
theorem valS_len (n : Int) : (valS n).length ≤ 18 := by
 unfold valS
 rw [join0_len]
 have := sum6 escV_len (signs n).cps.toList
 rw [Array.length_toList, signs_size] at this; exact this
theorem txtS_len (n : Int) : (txtS n).length ≤ 18 := by
 unfold txtS
 rw [join0_len]
 have := sum6 escT_len (signs n).cps.toList
 rw [Array.length_toList, signs_size] at this; exact this
theorem labT_len {T : List (Bool × Int)} (h : (opensT T).length ≤ 20) (n : Int) : (labT T n).length ≤ 100 := (nName_len (Nat.le_trans List.idxOf_le_length h)).2
theorem sum200 {l : List Str} (h : ∀ y ∈ l, y.length ≤ 200) : (l.map (·.length)).sum ≤ 200 * l.length := by
 induction l with
 | nil => exact Nat.le_refl _
 | cons a r ih => rw [List.map_cons, List.sum_cons, List.length_cons]; have := h a (.head _); have := ih fun y hy => h y (.tail _ hy); omega
theorem pgL_small {T : List (Bool × Int)} {n0 : Int} (hop : (opensT T).length ≤ 20) (hb : ∀ q ∈ T, 0 < q.2 ∧ q.2 < 16 ^ 14) : ∀ y ∈ pgL T n0, y.length ≤ 200 := by
 have hl := labT_len hop
 have e1 : (Str.ofString "<").length = 1 := by decide +kernel
 have e2 : (Str.ofString ":r").length = 2 := by decide +kernel
 have e3 : (Str.ofString " xmlns:").length = 7 := by decide +kernel
 have e4 : (Str.ofString "=\"").length = 2 := by decide +kernel
 have e5 : (Str.ofString "\"").length = 1 := by decide +kernel
 have e6 : (Str.ofString " ").length = 1 := by decide +kernel
 have e7 : (Str.ofString ":a=\"").length = 4 := by decide +kernel
 have e8 : (Str.ofString ">").length = 1 := by decide +kernel
 have e9 : (Str.ofString ":e>").length = 3 := by decide +kernel
 have e10 : (Str.ofString "</").length = 2 := by decide +kernel
 have e11 : (Str.ofString ":r>").length = 3 := by decide +kernel
 intro y hy
 unfold pgL at hy
 rcases ma hy with hy | hy
 · unfold pg3 at hy
   rcases ma hy with hy | hy
   · rcases ma hy with hy | hy
     · unfold pg2 at hy
       rcases ma hy with hy | hy
       · unfold pg1 at hy
         rcases mc hy with rfl | hy
         · rw [strLen_append, strLen_append]; have := hl n0; omega
         obtain ⟨n, hn, rfl⟩ := List.mem_map.mp hy
         have hn := List.mem_of_mem_take hn
         unfold opensT at hn
         obtain ⟨q, hq, rfl⟩ := List.mem_map.mp hn
         have h1 := hb q (List.mem_filter.mp hq).1
         have h2 := wordS_len h1.1 h1.2
         have h3 := hl q.2
         rw [strLen_append, strLen_append, strLen_append, strLen_append]; omega
       obtain ⟨n, hn, rfl⟩ := List.mem_map.mp hy
       have h2 := valS_len n
       have h3 := hl n
       rw [strLen_append, strLen_append, strLen_append, strLen_append]; omega
     rw [ms hy]; omega
   obtain ⟨q, hq, rfl⟩ := List.mem_map.mp hy
   have h2 := txtS_len q.2
   have h3 := hl q.2
   split
   · rw [strLen_append, strLen_append, strLen_append]; omega
   rw [strLen_append, strLen_append]; omega
 rw [ms hy, strLen_append, strLen_append]; have := hl n0; omega
theorem push_tok {h₀ h : Heap} {L P : Addr} {pv : List Value} {pc : Nat} {RT : Led} {row : Str} {t : Tok} (N : News h₀ L h ((P, listOf (pv.toArray.push (.str row t)) pc) :: RT)) : ∃ t8, News h₀ L h ((P, listOf (pv ++ [Value.str row t8]).toArray pc) :: RT) := ⟨t, by rw [← List.push_toArray]; exact N⟩
theorem push_tok2 {h₀ h : Heap} {L P : Addr} {a : Addr × Obj} {pv : List Value} {pc : Nat} {RT : Led} {row : Str} {t : Tok} (N : News h₀ L h (a :: (P, listOf (pv.toArray.push (.str row t)) pc) :: RT)) : ∃ t8, News h₀ L h (a :: (P, listOf (pv ++ [Value.str row t8]).toArray pc) :: RT) := ⟨t, by rw [← List.push_toArray]; exact N⟩
theorem valueAt_memI {ys : List (Int × Value)} (hn : (ys.map (·.1)).Nodup) {k : Int} {v : Value} (h : (k, v) ∈ ys) : valueAt ys k = some v := by
 induction ys with
 | nil => cases h
 | cons y r ih =>
   rw [List.map_cons, List.nodup_cons] at hn
   rcases mc h with rfl | h
   · simp [valueAt]
   have hne : y.1 ≠ k := fun e => hn.1 (by rw [e]; exact List.mem_map_of_mem h)
   have := ih hn.2 h
   simp [valueAt, hne] at this ⊢
   exact this
theorem refQ_of {tq : List (Addr × Bool × Int)} {i : Nat} {v : Value} (h : ((tq.map fun q => Value.ref q.1).toArray)[i]? = some v) : ∃ q, tq[i]? = some q ∧ v = .ref q.1 := by
 rw [List.getElem?_toArray, List.getElem?_map] at h
 cases e : tq[i]? with
 | none => rw [e] at h; cases h
 | some q => rw [e] at h; exact ⟨q, rfl, (Option.some.inj h).symm⟩
theorem page_ctr {w : World} {d u : Nat} {news : Led} {D Tt : Addr} {vs : List Value} {n0 : Int} {ns : List Int} {c ct : Nat} {tq : List (Addr × Bool × Int)} (hd : 6 ≤ d) (hu : 30 ≤ u) (hz : IntsAre vs (n0 :: ns)) (hm : (D, listOf vs.toArray c) ∈ news) (hT : (Tt, listOf (tq.map fun q => Value.ref q.1).toArray ct) ∈ news) (htup : ∀ q ∈ tq, ∃ t, (q.1, ({ cls := .type "tuple", data := .seq #[.bool q.2.1, .int q.2.2 t] } : Obj)) ∈ news)
   (hT60 : tq.length ≤ 40) (hn8 : (opensT (tq.map (·.2))).length ≤ 20) (h0 : n0 ∈ opensT (tq.map (·.2))) (hno : (opensT (tq.map (·.2))).Nodup) (hcl : ∀ q ∈ tq, q.2.2 ∈ opensT (tq.map (·.2))) (hb : ∀ q ∈ tq, 0 < q.2.2 ∧ q.2.2 < 16 ^ 14) :
   Ctr w 214 d u news [.ref D, .ref Tt] (fun v l => l = news ∧ ∃ t, v = .str (Txt.join (Str.ofString "") (pgL (tq.map (·.2)) n0)) t) := by
 w_top off
 (revert hd hu hz hm hT htup hT60 hn8 h0 hno hcl hb; revert w d u news D Tt vs n0 ns c ct tq; with_reducible refine (no_implicit_lambda% (Drk6.all (by kpf_c) ((?_ : All6 _) _ _ _ _ _ _))); refine fun w d u news D Tt => Ap6.mk ?_; with_reducible refine (no_implicit_lambda% (Drk6.all (by kpf_c) ((?_ : All6 _) _ _ _ _ _ _))); refine fun vs n0 ns c ct tq => Ap6.mk ?_; intros hd hu hz hm hT htup hT60 hn8 h0 hno hcl hb)
 (refine Ctr.open ?_; generalize Ctr.cs _ _ _ _ _ _ _ = bCS; unfold Ctr.At; generalize bCS.p = p, bCS.loose = loose, bCS.mean = mean, bCS.mg = mg, bCS.mb = mb, bCS.dp = dp, bCS.un = un, bCS.gd = gd, bCS.cn = cn, bCS.cs = cs, bCS.a = a, bCS.ccd = ccd, bCS.cl = cl, bCS.outer = outer, bCS.A₀ = A₀, bCS.base = base, bCS.h₀ = h₀, bCS.L = L, bCS.m = m, bCS.s = s, bCS.Q = Q, bCS.E = E; clear bCS; intros St hret; obtain ⟨B, F, X, N, T, hk, hdp, hup⟩ := St; revert X; k_fill; intro X; refine wpAny_call ?_)
 (k_dflt (refine' code_def ?k1 ?k2 ?k3 ?k4 ?k5 ?kA ?kF ?kK ?k6 ?k7 ?k8 ?k9 ?kB ?_ ?c2 ?c3 ?c4 ?c5; (case kA => exact rfl); (case kF => exact rfl); (case kK => assumption); (case k1 => k_asm); (case k2 => k_asm); (case k3 => k_asm); (case k4 => k_asm); (case k5 => k_asm); (case k6 => k_is); (case k7 => k_is); (case k8 => first | allgen_close_more | (simp only [depth_in1, depth_deeper] at *; omega)); (case k9 => first | exact BindsTo.of_eq rfl | exact binds_K (by k_in) rfl (by k_is) rfl rfl rfl); (case c5 => decide); (case kB => exact locs rfl); (case c2 => exact rfl); (case c3 => exact rfl); (case c4 => exact rfl); k_whole; intro g' L' h' FG' F' N' B' X' T'); (try dsimp only); (refine wp_noE ?_); (refine wp_toks ?_); intro tk0; (try dsimp only); (try k_fold))
 replace F' : Fr g' L' h' (fun y => List.lookup y [(Str.ofString "tour", .ref Tt), (Str.ofString "numbers", .ref D)]) := fr_eq F' (by kernel_rfl)
 (repeat' ((fail_if_success with_reducible first | refine z27 ?_ | refine z28 ?_ | refine z29 ?_ | refine z30 ?_ | refine z31 ?_ | refine z43 ?_); tb_rel))
 first | k_dflt (refine assign_listComp_G F' rfl (by with_unfolding_all rfl) (by with_unfolding_all rfl) (by decide) (by rfl) (by decide) (by rfl) (by rfl) ?_ (fun _ => rfl)) | fail
 (repeat' ((fail_if_success with_reducible first | refine z27 ?_ | refine z28 ?_ | refine z29 ?_ | refine z30 ?_ | refine z31 ?_ | refine z43 ?_); tb_rel))
 (with_reducible rename Fr _ _ _ _ => F1); (with_reducible rename News _ _ _ _ => N1)
 refine source_listO (its := (tq.map fun q => Value.ref q.1).toArray) rfl F1 N1 hT (by rw [List.size_toArray, lM]; exact Nat.le_trans hT60 (by decide)) (fun i v _ _ _ _ _ hit hv q => (by obtain ⟨z, _, rfl⟩ := refQ_of hv; exact wpAny_letOwnedTupleGo_listiter hit q)) fun gI I fp wr Md St Xs hfp => ⟨_, _, _, _, _, I, fp, wr, St, fun i ys nw => nw = news ∧ IntsAre ys (opensT ((tq.take i).map (·.2))), Xs, fun p hp => hp, ⟨rfl, .nil⟩, ?_, ?_⟩
 · refine CTurnL.pair rfl (by rfl) (by rfl) (by decide) (by rfl) (fun i a b => ∃ q, tq[i]? = some q ∧ ∃ t, a = .bool q.2.1 ∧ b = .int q.2.2 t) ?_ ?_
   · rintro i v h ys nw own hi hP ⟨rfl, _⟩ Nn
     (revert gI I fp wr Md St i v h ys nw own; with_reducible refine Drk6.all (by kpf_c) ((?_ : All6 _) _ _ _ _ _ _); refine fun gI I fp wr Md St => Ap6.mk ?_; with_reducible refine Drk6.all (by kpf_c) ((?_ : All6 _) _ _ _ _ _ _); refine fun i v h ys nw own => Ap6.mk ?_; intros hi hP _ hm hT htup hret N N1 Xs hfp Nn)
     obtain ⟨q, hq, rfl⟩ := refQ_of hP
     (revert hq hP; revert q; tb_start; refine fun q => Ap.mk ?_; intros hq hP)
     obtain ⟨t, hqt⟩ := htup q (List.mem_of_getElem? hq)
     (revert hqt; revert t; tb_start; refine fun t => Ap.mk ?_; intros hqt)
     exact ⟨_, _, _, rfl, ⟨_, (Nn _ (ml _ hqt)).1, rfl, _, rfl⟩, q, hq, t, rfl, rfl⟩
   rintro i a b C oC D' m₂ h tk ys nw own htk hi ⟨⟨qa, qb, qn⟩, hq, t, rfl, rfl⟩ ⟨rfl, hS⟩ hC hv1 hv2 Fc Nc off hown hw hCD hCL hDL
   (revert htk hi hq hS hm hT htup hret N N1 Xs hfp hC hv1 hv2 Fc Nc off hown hw hCD hCL hDL; revert gI I fp wr Md St i C oC D' m₂ h tk ys nw own qa qb qn t; with_reducible refine Drk7.all (by kpf_c) ((?_ : All7 _) _ _ _ _ _ _ _); refine fun gI I fp wr Md St i => Ap7.mk ?_; with_reducible refine Drk7.all (by kpf_c) ((?_ : All7 _) _ _ _ _ _ _ _); refine fun C oC D' m₂ h tk ys => Ap7.mk ?_; with_reducible refine Drk6.all (by kpf_c) ((?_ : All6 _) _ _ _ _ _ _); refine fun nw own qa qb qn t => Ap6.mk ?_; intros htk hi hq hS hm hT htup hret N N1 Xs hfp hC hv1 hv2 Fc Nc off hown hw hCD hCL hDL)
   dsimp only
   cases qb
   · (repeat' ((fail_if_success with_reducible first | refine z27 ?_ | refine z28 ?_ | refine z29 ?_ | refine z30 ?_ | refine z31 ?_ | refine z43 ?_); tb_rel))
     (with_reducible rename Fr _ _ _ _ => F1); (with_reducible rename News _ _ _ _ => N1)
     (try (k_unfold; (try dsimp only)))
     refine CEnd.intro F1 N1 hC _ (fun p hp => hp) off ⟨rfl, ?_⟩
     rw [List.take_add_one, hq, List.map_append]
     unfold opensT at hS ⊢
     rw [List.filter_append, List.map_append]
     simpa using hS
   (repeat' ((fail_if_success with_reducible first | refine z27 ?_ | refine z28 ?_ | refine z29 ?_ | refine z30 ?_ | refine z31 ?_ | refine z43 ?_); tb_rel))
   (with_reducible rename Fr _ _ _ _ => F1); (with_reducible rename News _ _ _ _ => N1)
   (try (k_unfold; (try dsimp only)))
   refine CEnd.intro F1 N1 hC _ (fun p hp => hp) off ⟨rfl, ?_⟩
   rw [List.take_add_one, hq, List.map_append]
   unfold opensT at hS ⊢
   rw [List.filter_append, List.map_append]
   exact intsAre_snoc hS
 (revert Xs hfp; revert gI I fp wr Md St; with_reducible refine Drk6.all (by kpf_c) ((?_ : All6 _) _ _ _ _ _ _); refine fun gI I fp wr Md St => Ap6.mk ?_; intros Xs hfp)
 intro S1 vs1 nw hlt1 hne1 hJ h1 tk1 htk1 FS NS
 obtain ⟨hnw, hS1⟩ := hJ
 subst hnw
 rw [show (List.take (tq.map fun q => Value.ref q.1).toArray.size tq) = tq by rw [List.size_toArray, lM]; exact List.take_length] at hS1
 dsimp only
 (repeat' ((fail_if_success with_reducible first | refine z27 ?_ | refine z28 ?_ | refine z29 ?_ | refine z30 ?_ | refine z31 ?_ | refine z43 ?_); tb_rel))
 first | k_dflt (refine assign_dictComp_G (knd := PySem.intKind _ w) FS rfl (by with_unfolding_all rfl) (by with_unfolding_all rfl) (by decide) (by rfl) (by decide) (by rfl) (by rfl) ?_ (fun _ => rfl)) | fail
 (repeat' ((fail_if_success with_reducible first | refine z27 ?_ | refine z28 ?_ | refine z29 ?_ | refine z30 ?_ | refine z31 ?_ | refine z43 ?_); tb_rel))
 have hsl : vs1.length ≤ 20 := by rw [hS1.length]; exact hn8
 refine call_enum FS NS (.head _) fun e it he F2 N2 X2 => ?_
 (revert F2 N2 X2; revert e it he; with_reducible refine Drk3.all (by kpf_c) ((?_ : All3 _) _ _ _); refine fun e it he => Ap3.mk ?_; intros F2 N2 X2)
 (repeat' ((fail_if_success with_reducible first | refine z27 ?_ | refine z28 ?_ | refine z29 ?_ | refine z30 ?_ | refine z31 ?_ | refine z43 ?_); tb_rel))
 refine source_enum (l := S1) (its := vs1.toArray) rfl F2 N2 (.head _) X2 (by rw [List.size_toArray]; exact Nat.le_trans hsl (by decide)) fun fp wr Md St Xs hfp => ⟨_, _, _, _, _, e, fp, wr, St, fun i kvs nw' => nw' = (S1, LCg.lst vs1) :: nw ∧ kvs.map (·.1) = (opensT (tq.map (·.2))).take i ∧ ∀ (j : Nat) (p : Int × Value), kvs[j]? = some p → ∃ t, p.2 = Value.str (nName j) t, Xs, fun p hp => hp, ⟨rfl, rfl, (fun j p h => by simp at h)⟩, ?_, ?_⟩
 · refine CTurnD.pair rfl (by rfl) (by rfl) (by decide) (by rfl) (fun i a b => ∃ t n t', a = .int (i : Int) t ∧ b = .int n t' ∧ (opensT (tq.map (·.2)))[i]? = some n) ?_ ?_
   · rintro i v h ys nw' own hi ⟨T, t, x, rfl, hx, hT⟩ hJ Nn
     (revert Xs hfp hi hx hT hJ Nn; revert fp wr Md St i h ys nw' own T t x; with_reducible refine Drk6.all (by kpf_c) ((?_ : All6 _) _ _ _ _ _ _); refine fun fp wr Md St i h => Ap6.mk ?_; with_reducible refine Drk6.all (by kpf_c) ((?_ : All6 _) _ _ _ _ _ _); refine fun ys nw' own T t x => Ap6.mk ?_; intros Xs hfp hi hx hT hJ Nn)
     rw [List.getElem?_toArray] at hx
     obtain ⟨n, t', rfl, hn⟩ := hS1.at i x hx
     (revert hn hx hT; revert n t'; with_reducible refine Drk2.all (by kpf_c) ((?_ : All2 _) _ _); refine fun n t' => Ap2.mk ?_; intros hn hx hT)
     exact ⟨T, _, _, rfl, hT, t, n, t', rfl, rfl, hn⟩
   rintro i a b C oC D' oD m₂ h tk ys nw' own htk hi ⟨t, n, t', rfl, rfl, hn⟩ ⟨hnw, hj1, hj2⟩ hdD hC hv1 hv2 Fc Nc off hown hof hnD hDC hw hCD hCL hDL
   (revert Xs hfp htk hi hn hnw hj1 hj2 hdD hC hv1 hv2 Fc Nc off hown hof hnD hDC hw hCD hCL hDL; revert fp wr Md St i C oC D' oD m₂ h tk ys nw' own t n t'; with_reducible refine Drk6.all (by kpf_c) ((?_ : All6 _) _ _ _ _ _ _); refine fun fp wr Md St i C => Ap6.mk ?_; with_reducible refine Drk6.all (by kpf_c) ((?_ : All6 _) _ _ _ _ _ _); refine fun oC D' oD m₂ h tk => Ap6.mk ?_; with_reducible refine Drk6.all (by kpf_c) ((?_ : All6 _) _ _ _ _ _ _); refine fun ys nw' own t n t' => Ap6.mk ?_; intros Xs hfp htk hi hn hnw hj1 hj2 hdD hC hv1 hv2 Fc Nc off hown hof hnD hDC hw hCD hCL hDL)
   dsimp only
   (repeat' ((fail_if_success with_reducible first | refine z27 ?_ | refine z28 ?_ | refine z29 ?_ | refine z30 ?_ | refine z31 ?_ | refine z43 ?_); tb_rel))
   (with_reducible rename Fr _ _ _ _ => F1); (with_reducible rename News _ _ _ _ => N1)
   (try (k_unfold; (try dsimp only)))
   refine CEnd.intro F1 N1 hC nw' (fun p hp => hp) off ⟨n, intKind_is _ _ _ _, ?_, hnw, ?_, ?_⟩
   · rw [hj1]
     intro hmem
     obtain ⟨j, hj, ej⟩ := List.mem_take_iff_getElem.mp hmem
     (revert hj ej; revert j; tb_start; refine fun j => Ap.mk ?_; intros hj ej)
     have h1 : (opensT (tq.map (·.2)))[j]? = some n := by rw [List.getElem?_eq_getElem (by omega), ej]
     have := (List.getElem?_inj (by omega) hno).mp (h1.trans hn.symm)
     omega
   · rw [List.map_append, hj1, List.take_add_one, hn]; rfl
   skip
   intro j p hp
   have hyl : ys.length = i := by
     have e := congrArg List.length hj1
     rw [lM, List.length_take] at e
     have := (List.getElem?_eq_some_iff.mp hn).1
     omega
   by_cases hji : j < ys.length
   · rw [List.getElem?_append_left hji] at hp; exact hj2 j p hp
   rw [List.getElem?_append_right (by omega)] at hp
   cases hjk : j - ys.length with
   | zero =>
     rw [hjk] at hp
     rw [← Option.some.inj hp, show j = i by omega]
     exact ⟨_, rfl⟩
   | succ k => rw [hjk] at hp; cases hp
 (revert Xs hfp; revert fp wr Md St; with_reducible refine Drk4.all (by kpf_c) ((?_ : All4 _) _ _ _ _); refine fun fp wr Md St => Ap4.mk ?_; intros Xs hfp)
 intro Dp oDp ys nw' hltD hneD hdP hJ h8 tk8 htk8 F8 N8
 obtain ⟨hnw, hj1, hj2⟩ := hJ
 rw [hnw] at N8 hneD
 rw [List.size_toArray, hS1.length, List.take_length] at hj1
 have hla : ∀ n ∈ opensT (tq.map (·.2)), ∃ t, valueAt ys n = some (.str (labT (tq.map (·.2)) n) t) := fun n hn => by
   have hi := List.idxOf_lt_length_iff.mpr hn
   have h1 : (ys.map (·.1))[(opensT (tq.map (·.2))).idxOf n]? = some n := by
     rw [hj1, List.getElem?_eq_getElem hi, List.getElem_idxOf]
   rw [List.getElem?_map] at h1
   cases e : ys[(opensT (tq.map (·.2))).idxOf n]? with
   | none => rw [e] at h1; cases h1
   | some p =>
     rw [e] at h1
     obtain ⟨t, ht⟩ := hj2 _ p e
     (revert htk8 F8 N8 hn hi h1 e ht; revert h8 tk8 n p t; with_reducible refine Drk5.all (by kpf_c) ((?_ : All5 _) _ _ _ _ _); refine fun h8 tk8 n p t => Ap5.mk ?_; intros htk8 F8 N8 hn hi h1 e ht)
     refine ⟨t, valueAt_memI (by rw [hj1]; exact hno) ?_⟩
     have e1 : p.1 = n := Option.some.inj h1
     have e2 : p = (n, Value.str (labT (tq.map (·.2)) n) t) := by rw [← e1, ← Prod.eta p, ht, ← e1]; rfl
     rw [← e2]; exact List.mem_of_getElem? e
 have hll : ∀ n, (labT (tq.map (·.2)) n).length ≤ 100 := fun n => (nName_len (Nat.le_trans List.idxOf_le_length hn8)).2
 have hDpS : ∀ p ∈ (S1, LCg.lst vs1) :: nw, @Ne Nat p.1 Dp := fun p hp => hneD p hp
 obtain ⟨t0, vs', rfl, hz'⟩ := hz.cons_inv
 (revert htk8 F8 N8 hz' hz hm; revert h8 tk8 t0 vs'; with_reducible refine Drk4.all (by kpf_c) ((?_ : All4 _) _ _ _ _); refine fun h8 tk8 t0 vs' => Ap4.mk ?_; intros htk8 F8 N8 hz' hz hm)
 obtain ⟨tl0, hl0⟩ := hla n0 h0
 (revert hl0; revert tl0; tb_start; refine fun tl0 => Ap.mk ?_; intros hl0)
 clear N2 F2 FS NS X2
 dsimp only
 (repeat' ((fail_if_success with_reducible first | refine z27 ?_ | refine z28 ?_ | refine z29 ?_ | refine z30 ?_ | refine z31 ?_ | refine z43 ?_); tb_rel))
 refine item_list (isList_news N8 (.tail _ (.tail _ hm))) (by decide) (by decide) (x := .int n0 t0) rfl ?_
 (repeat' ((fail_if_success with_reducible first | refine z27 ?_ | refine z28 ?_ | refine z29 ?_ | refine z30 ?_ | refine z31 ?_ | refine z43 ?_); tb_rel))
 first | k_dflt (refine kda_item (knd := PySem.intKind _ w) (kvs := ys) (k := n0) (v := Value.str (labT (tq.map (·.2)) n0) tl0) N8 (.head _) hdP (intKind_is _ _ _ _) ?hl ?_) | fail
 case hl => exact hl0
 dsimp only
 have hl00 := hll n0
 (repeat' ((fail_if_success with_reducible first | refine z27 ?_ | refine z28 ?_ | refine z29 ?_ | refine z30 ?_ | refine z31 ?_ | refine z43 ?_); tb_rel))
 rename_i P hq0 lP hq1 FP NP
 obtain ⟨RB, hRB, NB⟩ := split_allB NP
 (revert hRB NB; revert RB; tb_start; refine fun RB => Ap.mk ?_; intros hRB NB)
 have hRBP : ∀ p ∈ RB, @LT.lt Nat _ p.1 P := fun p hp => by
   rw [hRB] at hp
   rcases mc hp with rfl | hp
   · exact lP.1
   rcases mc hp with rfl | hp
   · exact lP.2.1
   exact allLt_mem lP.2.2 p hp
 have hDpB : (Dp, oDp) ∈ RB := hRB ▸ .head _
 have hS1B : (S1, LCg.lst vs1) ∈ RB := hRB ▸ .tail _ (.head _)
 have hnwB : ∀ p ∈ nw, p ∈ RB := fun p hp => hRB ▸ .tail _ (.tail _ hp)
 have hbo : ∀ n ∈ opensT (tq.map (·.2)), 0 < n ∧ n < 16 ^ 14 := fun n hn => by
   unfold opensT at hn
   obtain ⟨q, hq, rfl⟩ := List.mem_map.mp hn
   (revert hq hn; revert q; tb_start; refine fun q => Ap.mk ?_; intros hq hn)
   obtain ⟨r, hr, rfl⟩ := List.mem_map.mp (List.mem_filter.mp hq).1
   (revert hr hq hn; revert r; tb_start; refine fun r => Ap.mk ?_; intros hr hq hn)
   exact hb r hr
 clear hRB NP
 first | k_dflt (refine for_inv (σ := List Value × List Str × Nat) (fun c => [(Str.ofString "page", .ref P), (Str.ofString "labels", .ref Dp), (Str.ofString "starts", .ref S1), (Str.ofString "tour", .ref Tt), (Str.ofString "numbers", .ref D)]) (fun c => (P, listOf c.1.toArray c.2.2) :: RB) (fun i c => StrsAre c.1 c.2.1 ∧ c.2.1 = pg1 (tq.map (·.2)) n0 i) FP ?_ (fun _ => rfl)) | fail
 (repeat' ((fail_if_success with_reducible first | refine z27 ?_ | refine z28 ?_ | refine z29 ?_ | refine z30 ?_ | refine z31 ?_ | refine z43 ?_); tb_rel))
 (with_reducible rename Fr _ _ _ _ => F1); (with_reducible rename News _ _ _ _ => N1)
 refine source_listO (its := vs1.toArray) rfl F1 N1 (.tail _ hS1B) (by rw [List.size_toArray]; exact Nat.le_trans hsl (by decide)) (fun _ _ _ _ _ _ _ _ _ q => hgo_name q) fun gI I fp wr Md St Xs hfp => ⟨_, _, _, _, I, fp, wr, Md, St, ([_], [_], 0), Xs, fun p hp => hp, ?_, ⟨.cons _ _ .nil, rfl⟩, ?_, ?_⟩
 · intro p hp
   iterate 5 (rcases mc hp with rfl | hp; (focus kernel_rfl))
   cases hp
 · rintro i v ⟨pv, py, pc⟩ u h tk own htk hi hP ⟨hj1, hj2⟩ off hw hown Fi Ni
   (revert Xs hfp htk hi hP hj1 hj2 off hw hown Fi Ni; revert gI I fp wr Md St i v pv py pc u h tk own; with_reducible refine Drk8.all (by kpf_c) ((?_ : All8 _) _ _ _ _ _ _ _ _); refine fun gI I fp wr Md St i v => Ap8.mk ?_; with_reducible refine Drk7.all (by kpf_c) ((?_ : All7 _) _ _ _ _ _ _ _); refine fun pv py pc u h tk own => Ap7.mk ?_; intros Xs hfp htk hi hP hj1 hj2 off hw hown Fi Ni)
   dsimp only at hj1 hj2 Fi Ni ⊢
   obtain ⟨n, tn, rfl, hni⟩ := hS1.at i v (by rw [List.getElem?_toArray] at hP; exact hP)
   (revert hni hP; revert n tn; with_reducible refine Drk2.all (by kpf_c) ((?_ : All2 _) _ _); refine fun n tn => Ap2.mk ?_; intros hni hP)
   have hno' := List.mem_of_getElem? hni
   obtain ⟨tl, hl⟩ := hla n hno'
   (revert hl; revert tl; tb_start; refine fun tl => Ap.mk ?_; intros hl)
   have hln := hll n
   have hownP : ∀ p ∈ RB ++ own, p.1 ≠ P := fun p hp => by
     rcases ma hp with hp | hp
     · exact Nat.ne_of_lt (hRBP p hp)
     rcases hfp _ (hown p hp) with e | e
     · rw [e]; exact Nat.ne_of_lt (hRBP _ hS1B)
     exact Nat.ne_of_gt (e (P, _) (.head _))
   have hBs : ∀ p ∈ RB, p ∈ RB ++ own := fun p hp => ml _ hp
   have hOs : ∀ p ∈ own, p ∈ RB ++ own := fun p hp => mr _ hp
   dsimp only [List.cons_append] at Ni
   generalize RB ++ own = RT at Ni hownP hBs hOs
   (revert Ni hownP hBs hOs; revert RT; tb_start; refine fun RT => Ap.mk ?_; intros Ni hownP hBs hOs)
   have hwn := wordS_len (hbo n hno').1 (hbo n hno').2
   (repeat' ((fail_if_success with_reducible first | refine z27 ?_ | refine z28 ?_ | refine z29 ?_ | refine z30 ?_ | refine z31 ?_ | refine z43 ?_); tb_rel))
   (with_reducible rename Fr _ _ _ _ => F1); (with_reducible rename News _ _ _ _ => N1)
   first | k_dflt (refine kda_item (knd := PySem.intKind _ w) (kvs := ys) (k := n) (v := Value.str (labT (tq.map (·.2)) n) tl) N1 (.tail _ (hBs _ hDpB)) hdP (intKind_is _ _ _ _) ?hl ?_) | fail
   case hl => exact hl
   dsimp only
   (repeat' ((fail_if_success with_reducible first | refine z27 ?_ | refine z28 ?_ | refine z29 ?_ | refine z30 ?_ | refine z31 ?_ | refine z43 ?_); tb_rel))
   (k_dflt (refine' Ctr.use (word_ctr n _ (hbo n hno').1 (hbo n hno').2) ?hA ?B ?F ?X ?N ?T ?kk ?hd ?hu ?_; (case hA => exact rfl); (case B => k_asm); (case F => k_asm); (case X => k_asm); (case N => k_asm); (case T => k_asm); (case kk => first | exact rfl | assumption); (case hd => allgen_close_more); (case hu => allgen_close_more)))
   rintro _ _ h7 tk7 ⟨rfl, t7, rfl⟩ F7 N7
   (revert F7 N7; revert h7 tk7 t7; with_reducible refine Drk3.all (by kpf_c) ((?_ : All3 _) _ _ _); refine fun h7 tk7 t7 => Ap3.mk ?_; intros F7 N7)
   dsimp only
   (repeat' ((fail_if_success with_reducible first | refine z27 ?_ | refine z28 ?_ | refine z29 ?_ | refine z30 ?_ | refine z31 ?_ | refine z43 ?_); tb_rel))
   first | k_dflt (refine' append_K ?ap1 ?ap2 ?ap3 ?_ ?ap4; (case ap1 => exact F7); (case ap2 => exact N7); (case ap3 => k_upd); (case ap4 => (rw [List.size_toArray]; exact Nat.le_trans (show pv.length ≤ 2000 by rw [hj1.length, hj2]; unfold pg1; rw [List.length_cons, lM, List.length_take]; omega) (by decide)))) | fail
   intro h4 F4 N4
   dsimp only at N4 ⊢
   (repeat' ((fail_if_success with_reducible first | refine z27 ?_ | refine z28 ?_ | refine z29 ?_ | refine z30 ?_ | refine z31 ?_ | refine z43 ?_); tb_rel))
   dsimp only [FPost]
   obtain ⟨t8, N8⟩ := push_tok N4
   (revert N8; revert t8; tb_start; refine fun t8 => Ap.mk ?_; intros N8)
   (try (k_unfold; (try dsimp only)))
   refine FEnd.intro (c' := (pv ++ [.str (Str.ofString " xmlns:" ++ labT (tq.map (·.2)) n ++ Str.ofString "=\"" ++ wordS n.toNat ++ Str.ofString "\"") t8], py ++ [Str.ofString " xmlns:" ++ labT (tq.map (·.2)) n ++ Str.ofString "=\"" ++ wordS n.toNat ++ Str.ofString "\""], pc + 1)) F4 N8 ?_ ?_ ?_ ?_ ⟨strsAre_snoc hj1, ?_⟩
   · intro p hp
     rcases mc hp with rfl | hp
     · exact .head _
     exact .tail _ (hBs p hp)
   · intro p hp
     exact .tail _ (hOs p hp)
   · intro p hp b hb
     rcases mc hp with rfl | hp
     · exact off (P, _) (.head _) b hb
     exact off p (.tail _ hp) b hb
   · intro p hp
     iterate 5 (rcases mc hp with rfl | hp; (focus kernel_rfl))
     cases hp
   dsimp only
   rw [hj2]
   unfold pg1
   rw [List.take_add_one, hni, List.map_append]; rfl
 rintro ⟨pv, py, pc⟩ u h tk htk ⟨hj1, hj2⟩ Fi Ni
 (revert Xs hfp htk hj1 hj2 Fi Ni; revert gI I fp wr Md St pv py pc u h tk; with_reducible refine Drk6.all (by kpf_c) ((?_ : All6 _) _ _ _ _ _ _); refine fun gI I fp wr Md St => Ap6.mk ?_; with_reducible refine Drk6.all (by kpf_c) ((?_ : All6 _) _ _ _ _ _ _); refine fun pv py pc u h tk => Ap6.mk ?_; intros Xs hfp htk hj1 hj2 Fi Ni)
 dsimp only at hj1 hj2 Fi Ni ⊢
 rw [List.size_toArray, hS1.length] at hj2
 (repeat' ((fail_if_success with_reducible first | refine z27 ?_ | refine z28 ?_ | refine z29 ?_ | refine z30 ?_ | refine z31 ?_ | refine z43 ?_); tb_rel))
 first | k_dflt (refine for_inv (σ := List Value × List Str × Nat) (fun c => [(Str.ofString "page", .ref P), (Str.ofString "labels", .ref Dp), (Str.ofString "starts", .ref S1), (Str.ofString "tour", .ref Tt), (Str.ofString "numbers", .ref D)]) (fun c => (P, listOf c.1.toArray c.2.2) :: RB) (fun i c => StrsAre c.1 c.2.1 ∧ c.2.1 = pg2 (tq.map (·.2)) n0 i) Fi ?_ (fun _ => rfl)) | fail
 (repeat' ((fail_if_success with_reducible first | refine z27 ?_ | refine z28 ?_ | refine z29 ?_ | refine z30 ?_ | refine z31 ?_ | refine z43 ?_); tb_rel))
 (with_reducible rename Fr _ _ _ _ => F1); (with_reducible rename News _ _ _ _ => N1)
 refine source_listO (its := (tq.map fun q => Value.ref q.1).toArray) rfl F1 N1 (.tail _ (hnwB _ hT)) (by rw [List.size_toArray, lM]; exact Nat.le_trans hT60 (by decide)) (fun i v _ _ _ _ _ hit hv q => (by obtain ⟨z, _, rfl⟩ := refQ_of hv; exact wpAny_letOwnedTupleGo_listiter hit q)) fun gI I fp wr Md St Xs hfp => ⟨_, _, _, _, I, fp, wr, Md, St, (pv, py, pc), Xs, fun p hp => hp, ?_, ⟨hj1, (by rw [hj2]; unfold pg2 closesT; simp)⟩, ?_, ?_⟩
 · intro p hp
   iterate 5 (rcases mc hp with rfl | hp; (focus kernel_rfl))
   cases hp
 · rintro i v ⟨pv, py, pc⟩ u h tk own htk hi hP ⟨hj1, hj2⟩ off hw hown Fi Ni
   (revert Xs hfp htk hi hP hj1 hj2 off hw hown Fi Ni; revert gI I fp wr Md St i v pv py pc u h tk own; with_reducible refine Drk8.all (by kpf_c) ((?_ : All8 _) _ _ _ _ _ _ _ _); refine fun gI I fp wr Md St i v => Ap8.mk ?_; with_reducible refine Drk7.all (by kpf_c) ((?_ : All7 _) _ _ _ _ _ _ _); refine fun pv py pc u h tk own => Ap7.mk ?_; intros Xs hfp htk hi hP hj1 hj2 off hw hown Fi Ni)
   dsimp only at hj1 hj2 Fi Ni ⊢
   obtain ⟨⟨qa, qb, n⟩, hqi, rfl⟩ := refQ_of hP
   (revert hqi hP; revert qa qb n; with_reducible refine Drk3.all (by kpf_c) ((?_ : All3 _) _ _ _); refine fun qa qb n => Ap3.mk ?_; intros hqi hP)
   have hqm := List.mem_of_getElem? hqi
   obtain ⟨tn, hqt⟩ := htup _ hqm
   (revert hqt; revert tn; tb_start; refine fun tn => Ap.mk ?_; intros hqt)
   have hqT : (tq.map (·.2))[i]? = some (qb, n) := by rw [List.getElem?_map, hqi]; rfl
   have hno' := hcl _ hqm
   obtain ⟨tl, hl⟩ := hla n hno'
   (revert hl; revert tl; tb_start; refine fun tl => Ap.mk ?_; intros hl)
   have hln := hll n
   have hvl := valS_len n
   have hxl := txtS_len n
   have hownP : ∀ p ∈ RB ++ own, p.1 ≠ P := fun p hp => by
     rcases ma hp with hp | hp
     · exact Nat.ne_of_lt (hRBP p hp)
     rcases hfp _ (hown p hp) with e | e
     · rw [e]; exact Nat.ne_of_lt (hRBP _ (hnwB _ hT))
     exact Nat.ne_of_gt (e (P, _) (.head _))
   have hBs : ∀ p ∈ RB, p ∈ RB ++ own := fun p hp => ml _ hp
   have hOs : ∀ p ∈ own, p ∈ RB ++ own := fun p hp => mr _ hp
   dsimp only [List.cons_append] at Ni
   generalize RB ++ own = RT at Ni hownP hBs hOs
   (revert Ni hownP hBs hOs; revert RT; tb_start; refine fun RT => Ap.mk ?_; intros Ni hownP hBs hOs)
   have hqP : @Ne Nat qa P := hownP _ (hBs _ (hnwB _ hqt))
   have Nj : News g' L' h ((qa, ({ cls := .type "tuple", data := .seq #[.bool qb, .int n tn] } : Obj)) :: (P, listOf pv.toArray pc) :: RT) := fun p hp => by
     rcases mc hp with rfl | hp
     · exact Ni _ (.tail _ (hBs _ (hnwB _ hqt)))
     exact Ni p hp
   clear Ni
   have hpl : pv.length ≤ 2000 := by
     rw [hj1.length, hj2]
     unfold pg2; rw [lA, lM]; have h1 := pg1_len (tq.map (·.2)) n0 (opensT (tq.map (·.2))).length; have h2 := closesT_len ((tq.map (·.2)).take i); rw [List.length_take, lM] at h2; rw [lM] at h1; omega
   cases qb
   · have hz := 0
     (revert hz; tb_start; refine fun hz => Ap.mk ?_)
     (repeat' ((fail_if_success with_reducible first | refine z27 ?_ | refine z28 ?_ | refine z29 ?_ | refine z30 ?_ | refine z31 ?_ | refine z43 ?_); tb_rel))
     (with_reducible rename Fr _ _ _ _ => F1); (with_reducible rename News _ _ _ _ => N1)
     first | k_dflt (refine kda_item (knd := PySem.intKind _ w) (kvs := ys) (k := n) (v := Value.str (labT (tq.map (·.2)) n) tl) N1 (.tail _ (.tail _ (hBs _ hDpB))) hdP (intKind_is _ _ _ _) ?hl ?_) | fail
     case hl => exact hl
     dsimp only
     (repeat' ((fail_if_success with_reducible first | refine z27 ?_ | refine z28 ?_ | refine z29 ?_ | refine z30 ?_ | refine z31 ?_ | refine z43 ?_); tb_rel))
     (k_dflt (refine' Ctr.use (value_ctr n _) ?hA ?B ?F ?X ?N ?T ?kk ?hd ?hu ?_; (case hA => exact rfl); (case B => k_asm); (case F => k_asm); (case X => k_asm); (case N => k_asm); (case T => k_asm); (case kk => first | exact rfl | assumption); (case hd => allgen_close_more); (case hu => allgen_close_more)))
     rintro _ _ h7 tk7 ⟨rfl, t7, rfl⟩ F7 N7
     (revert F7 N7; revert h7 tk7 t7; with_reducible refine Drk3.all (by kpf_c) ((?_ : All3 _) _ _ _); refine fun h7 tk7 t7 => Ap3.mk ?_; intros F7 N7)
     dsimp only
     (repeat' ((fail_if_success with_reducible first | refine z27 ?_ | refine z28 ?_ | refine z29 ?_ | refine z30 ?_ | refine z31 ?_ | refine z43 ?_); tb_rel))
     first | k_dflt (refine' append_K ?ap1 ?ap2 ?ap3 ?_ ?ap4; (case ap1 => exact F7); (case ap2 => exact N7); (case ap3 => k_upd); (case ap4 => (rw [List.size_toArray]; exact Nat.le_trans hpl (by decide)))) | fail
     intro h4 F4 N4
     dsimp only at N4 ⊢
     (repeat' ((fail_if_success with_reducible first | refine z27 ?_ | refine z28 ?_ | refine z29 ?_ | refine z30 ?_ | refine z31 ?_ | refine z43 ?_); tb_rel))
     dsimp only [FPost]
     obtain ⟨t8, N8⟩ := push_tok2 N4
     (revert N8; revert t8; tb_start; refine fun t8 => Ap.mk ?_; intros N8)
     (try (k_unfold; (try dsimp only)))
     refine FEnd.intro (c' := (pv ++ [.str (Str.ofString " " ++ labT (tq.map (·.2)) n ++ Str.ofString ":a=\"" ++ valS n ++ Str.ofString "\"") t8], py ++ [Str.ofString " " ++ labT (tq.map (·.2)) n ++ Str.ofString ":a=\"" ++ valS n ++ Str.ofString "\""], pc + 1)) F4 N8 ?_ ?_ ?_ ?_ ⟨strsAre_snoc hj1, ?_⟩
     · intro p hp
       rcases mc hp with rfl | hp
       · exact .tail _ (.head _)
       exact .tail _ (.tail _ (hBs p hp))
     · intro p hp
       exact .tail _ (.tail _ (hOs p hp))
     · intro p hp b hb
       rcases mc hp with rfl | hp
       · exact off (P, _) (.head _) b hb
       exact off p (.tail _ hp) b hb
     · intro p hp
       iterate 5 (rcases mc hp with rfl | hp; (focus kernel_rfl))
       cases hp
     dsimp only
     rw [hj2]
     unfold pg2
     rw [List.take_add_one, hqT]; unfold closesT; rw [List.filter_append, List.map_append, List.map_append]; simp
   (repeat' ((fail_if_success with_reducible first | refine z27 ?_ | refine z28 ?_ | refine z29 ?_ | refine z30 ?_ | refine z31 ?_ | refine z43 ?_); tb_rel))
   (with_reducible rename Fr _ _ _ _ => F1); (with_reducible rename News _ _ _ _ => N1)
   dsimp only [FPost]
   (try (k_unfold; (try dsimp only)))
   refine FEnd.intro (c' := (pv, py, pc)) F1 N1 ?_ ?_ ?_ ?_ ⟨hj1, ?_⟩
   · intro p hp
     rcases mc hp with rfl | hp
     · exact .tail _ (.head _)
     exact .tail _ (.tail _ (hBs p hp))
   · intro p hp
     exact .tail _ (.tail _ (hOs p hp))
   · exact off
   · intro p hp
     iterate 5 (rcases mc hp with rfl | hp; (focus kernel_rfl))
     cases hp
   dsimp only
   rw [hj2]
   unfold pg2 closesT
   rw [List.take_add_one, hqT, List.filter_append]; simp
 rintro ⟨pv, py, pc⟩ u h tk htk ⟨hj1, hj2⟩ Fi Ni
 (revert Xs hfp htk hj1 hj2 Fi Ni; revert gI I fp wr Md St pv py pc u h tk; with_reducible refine Drk6.all (by kpf_c) ((?_ : All6 _) _ _ _ _ _ _); refine fun gI I fp wr Md St => Ap6.mk ?_; with_reducible refine Drk6.all (by kpf_c) ((?_ : All6 _) _ _ _ _ _ _); refine fun pv py pc u h tk => Ap6.mk ?_; intros Xs hfp htk hj1 hj2 Fi Ni)
 dsimp only at hj1 hj2 Fi Ni ⊢
 rw [List.size_toArray, lM] at hj2
 have hRBq : ∀ p ∈ RB, @Ne Nat p.1 P := fun p hp => Nat.ne_of_lt (hRBP p hp)
 (repeat' ((fail_if_success with_reducible first | refine z27 ?_ | refine z28 ?_ | refine z29 ?_ | refine z30 ?_ | refine z31 ?_ | refine z43 ?_); tb_rel))
 have hpl : pv.length ≤ 2000 := by
   rw [hj1.length, hj2]
   have h1 := pg2_len (tq.map (·.2)) n0 tq.length
   rw [lM] at h1
   omega
 first | k_dflt (refine' append_K ?ap1 ?ap2 ?ap3 ?_ ?ap4; (case ap1 => exact Fi); (case ap2 => exact Ni); (case ap3 => k_upd); (case ap4 => (rw [List.size_toArray]; exact Nat.le_trans hpl (by decide)))) | fail
 intro h4 F4 N4
 dsimp only at N4 ⊢
 obtain ⟨t8, N8⟩ := push_tok N4
 (revert N8; revert t8; tb_start; refine fun t8 => Ap.mk ?_; intros N8)
 clear N4
 (repeat' ((fail_if_success with_reducible first | refine z27 ?_ | refine z28 ?_ | refine z29 ?_ | refine z30 ?_ | refine z31 ?_ | refine z43 ?_); tb_rel))
 (with_reducible rename Fr _ _ _ _ => F1); (with_reducible rename News _ _ _ _ => N1)
 first | k_dflt (refine for_inv (σ := List Value × List Str × Nat) (fun c => [(Str.ofString "page", .ref P), (Str.ofString "labels", .ref Dp), (Str.ofString "starts", .ref S1), (Str.ofString "tour", .ref Tt), (Str.ofString "numbers", .ref D)]) (fun c => (P, listOf c.1.toArray c.2.2) :: RB) (fun i c => StrsAre c.1 c.2.1 ∧ c.2.1 = pg3 (tq.map (·.2)) n0 i) F1 ?_ (fun _ => rfl)) | fail
 (repeat' ((fail_if_success with_reducible first | refine z27 ?_ | refine z28 ?_ | refine z29 ?_ | refine z30 ?_ | refine z31 ?_ | refine z43 ?_); tb_rel))
 (with_reducible rename Fr _ _ _ _ => F1); (with_reducible rename News _ _ _ _ => N1)
 refine source_listO (its := (tq.map fun q => Value.ref q.1).toArray) rfl F1 N1 (.tail _ (hnwB _ hT)) (by rw [List.size_toArray, lM]; exact Nat.le_trans hT60 (by decide)) (fun i v _ _ _ _ _ hit hv q => (by obtain ⟨z, _, rfl⟩ := refQ_of hv; exact wpAny_letOwnedTupleGo_listiter hit q)) fun gI I fp wr Md St Xs hfp => ⟨_, _, _, _, I, fp, wr, Md, St, (pv ++ [.str (Str.ofString ">") t8], py ++ [Str.ofString ">"], pc + 1), Xs, fun p hp => hp, ?_, ⟨strsAre_snoc hj1, (by rw [hj2]; unfold pg3; simp)⟩, ?_, ?_⟩
 · intro p hp
   iterate 5 (rcases mc hp with rfl | hp; (focus kernel_rfl))
   cases hp
 · rintro i v ⟨pv, py, pc⟩ u h tk own htk hi hP ⟨hj1, hj2⟩ off hw hown Fi Ni
   (revert Xs hfp htk hi hP hj1 hj2 off hw hown Fi Ni; revert gI I fp wr Md St i v pv py pc u h tk own; with_reducible refine Drk8.all (by kpf_c) ((?_ : All8 _) _ _ _ _ _ _ _ _); refine fun gI I fp wr Md St i v => Ap8.mk ?_; with_reducible refine Drk7.all (by kpf_c) ((?_ : All7 _) _ _ _ _ _ _ _); refine fun pv py pc u h tk own => Ap7.mk ?_; intros Xs hfp htk hi hP hj1 hj2 off hw hown Fi Ni)
   dsimp only at hj1 hj2 Fi Ni ⊢
   obtain ⟨⟨qa, qb, n⟩, hqi, rfl⟩ := refQ_of hP
   (revert hqi hP; revert qa qb n; with_reducible refine Drk3.all (by kpf_c) ((?_ : All3 _) _ _ _); refine fun qa qb n => Ap3.mk ?_; intros hqi hP)
   have hqm := List.mem_of_getElem? hqi
   obtain ⟨tn, hqt⟩ := htup _ hqm
   (revert hqt; revert tn; tb_start; refine fun tn => Ap.mk ?_; intros hqt)
   have hqT : (tq.map (·.2))[i]? = some (qb, n) := by rw [List.getElem?_map, hqi]; rfl
   have hno' := hcl _ hqm
   obtain ⟨tl, hl⟩ := hla n hno'
   (revert hl; revert tl; tb_start; refine fun tl => Ap.mk ?_; intros hl)
   have hln := hll n
   have hvl := valS_len n
   have hxl := txtS_len n
   have hownP : ∀ p ∈ RB ++ own, p.1 ≠ P := fun p hp => by
     rcases ma hp with hp | hp
     · exact Nat.ne_of_lt (hRBP p hp)
     rcases hfp _ (hown p hp) with e | e
     · rw [e]; exact Nat.ne_of_lt (hRBP _ (hnwB _ hT))
     exact Nat.ne_of_gt (e (P, _) (.head _))
   have hBs : ∀ p ∈ RB, p ∈ RB ++ own := fun p hp => ml _ hp
   have hOs : ∀ p ∈ own, p ∈ RB ++ own := fun p hp => mr _ hp
   dsimp only [List.cons_append] at Ni
   generalize RB ++ own = RT at Ni hownP hBs hOs
   (revert Ni hownP hBs hOs; revert RT; tb_start; refine fun RT => Ap.mk ?_; intros Ni hownP hBs hOs)
   have hqP : @Ne Nat qa P := hownP _ (hBs _ (hnwB _ hqt))
   have Nj : News g' L' h ((qa, ({ cls := .type "tuple", data := .seq #[.bool qb, .int n tn] } : Obj)) :: (P, listOf pv.toArray pc) :: RT) := fun p hp => by
     rcases mc hp with rfl | hp
     · exact Ni _ (.tail _ (hBs _ (hnwB _ hqt)))
     exact Ni p hp
   clear Ni
   have hpl : pv.length ≤ 2000 := by
     rw [hj1.length, hj2]
     have h1 := pg3_len (tq.map (·.2)) n0 i; rw [lM] at h1; omega
   cases qb
   · have hz := 0
     (revert hz; tb_start; refine fun hz => Ap.mk ?_)
     (repeat' ((fail_if_success with_reducible first | refine z27 ?_ | refine z28 ?_ | refine z29 ?_ | refine z30 ?_ | refine z31 ?_ | refine z43 ?_); tb_rel))
     (with_reducible rename Fr _ _ _ _ => F1); (with_reducible rename News _ _ _ _ => N1)
     first | k_dflt (refine kda_item (knd := PySem.intKind _ w) (kvs := ys) (k := n) (v := Value.str (labT (tq.map (·.2)) n) tl) N1 (.tail _ (.tail _ (hBs _ hDpB))) hdP (intKind_is _ _ _ _) ?hl ?_) | fail
     case hl => exact hl
     dsimp only
     (repeat' ((fail_if_success with_reducible first | refine z27 ?_ | refine z28 ?_ | refine z29 ?_ | refine z30 ?_ | refine z31 ?_ | refine z43 ?_); tb_rel))
     (with_reducible rename Fr _ _ _ _ => F1); (with_reducible rename News _ _ _ _ => N1)
     first | k_dflt (refine' append_K ?ap1 ?ap2 ?ap3 ?_ ?ap4; (case ap1 => exact F1); (case ap2 => exact N1); (case ap3 => k_upd); (case ap4 => (rw [List.size_toArray]; exact Nat.le_trans hpl (by decide)))) | fail
     intro h4 F4 N4
     dsimp only at N4 ⊢
     (repeat' ((fail_if_success with_reducible first | refine z27 ?_ | refine z28 ?_ | refine z29 ?_ | refine z30 ?_ | refine z31 ?_ | refine z43 ?_); tb_rel))
     dsimp only [FPost]
     obtain ⟨t8, N8⟩ := push_tok2 N4
     (revert N8; revert t8; tb_start; refine fun t8 => Ap.mk ?_; intros N8)
     (try (k_unfold; (try dsimp only)))
     refine FEnd.intro (c' := (pv ++ [.str (Str.ofString "</" ++ labT (tq.map (·.2)) n ++ Str.ofString ":e>") t8], py ++ [Str.ofString "</" ++ labT (tq.map (·.2)) n ++ Str.ofString ":e>"], pc + 1)) F4 N8 ?_ ?_ ?_ ?_ ⟨strsAre_snoc hj1, ?_⟩
     · intro p hp
       rcases mc hp with rfl | hp
       · exact .tail _ (.head _)
       exact .tail _ (.tail _ (hBs p hp))
     · intro p hp
       exact .tail _ (.tail _ (hOs p hp))
     · intro p hp b hb
       rcases mc hp with rfl | hp
       · exact off (P, _) (.head _) b hb
       exact off p (.tail _ hp) b hb
     · intro p hp
       iterate 5 (rcases mc hp with rfl | hp; (focus kernel_rfl))
       cases hp
     dsimp only
     rw [hj2]
     unfold pg3
     rw [List.take_add_one, hqT, List.map_append]; simp
   have hz := 0
   (revert hz; tb_start; refine fun hz => Ap.mk ?_)
   (repeat' ((fail_if_success with_reducible first | refine z27 ?_ | refine z28 ?_ | refine z29 ?_ | refine z30 ?_ | refine z31 ?_ | refine z43 ?_); tb_rel))
   (with_reducible rename Fr _ _ _ _ => F1); (with_reducible rename News _ _ _ _ => N1)
   first | k_dflt (refine kda_item (knd := PySem.intKind _ w) (kvs := ys) (k := n) (v := Value.str (labT (tq.map (·.2)) n) tl) N1 (.tail _ (.tail _ (hBs _ hDpB))) hdP (intKind_is _ _ _ _) ?hl ?_) | fail
   case hl => exact hl
   dsimp only
   (repeat' ((fail_if_success with_reducible first | refine z27 ?_ | refine z28 ?_ | refine z29 ?_ | refine z30 ?_ | refine z31 ?_ | refine z43 ?_); tb_rel))
   (k_dflt (refine' Ctr.use (text_ctr n _) ?hA ?B ?F ?X ?N ?T ?kk ?hd ?hu ?_; (case hA => exact rfl); (case B => k_asm); (case F => k_asm); (case X => k_asm); (case N => k_asm); (case T => k_asm); (case kk => first | exact rfl | assumption); (case hd => allgen_close_more); (case hu => allgen_close_more)))
   rintro _ _ h7 tk7 ⟨rfl, t7, rfl⟩ F7 N7
   (revert F7 N7; revert h7 tk7 t7; with_reducible refine Drk3.all (by kpf_c) ((?_ : All3 _) _ _ _); refine fun h7 tk7 t7 => Ap3.mk ?_; intros F7 N7)
   dsimp only
   (repeat' ((fail_if_success with_reducible first | refine z27 ?_ | refine z28 ?_ | refine z29 ?_ | refine z30 ?_ | refine z31 ?_ | refine z43 ?_); tb_rel))
   first | k_dflt (refine' append_K ?ap1 ?ap2 ?ap3 ?_ ?ap4; (case ap1 => exact F7); (case ap2 => exact N7); (case ap3 => k_upd); (case ap4 => (rw [List.size_toArray]; exact Nat.le_trans hpl (by decide)))) | fail
   intro h4 F4 N4
   dsimp only at N4 ⊢
   (repeat' ((fail_if_success with_reducible first | refine z27 ?_ | refine z28 ?_ | refine z29 ?_ | refine z30 ?_ | refine z31 ?_ | refine z43 ?_); tb_rel))
   dsimp only [FPost]
   obtain ⟨t8, N8⟩ := push_tok2 N4
   (revert N8; revert t8; tb_start; refine fun t8 => Ap.mk ?_; intros N8)
   (try (k_unfold; (try dsimp only)))
   refine FEnd.intro (c' := (pv ++ [.str (Str.ofString "<" ++ labT (tq.map (·.2)) n ++ Str.ofString ":e>" ++ txtS n) t8], py ++ [Str.ofString "<" ++ labT (tq.map (·.2)) n ++ Str.ofString ":e>" ++ txtS n], pc + 1)) F4 N8 ?_ ?_ ?_ ?_ ⟨strsAre_snoc hj1, ?_⟩
   · intro p hp
     rcases mc hp with rfl | hp
     · exact .tail _ (.head _)
     exact .tail _ (.tail _ (hBs p hp))
   · intro p hp
     exact .tail _ (.tail _ (hOs p hp))
   · intro p hp b hb
     rcases mc hp with rfl | hp
     · exact off (P, _) (.head _) b hb
     exact off p (.tail _ hp) b hb
   · intro p hp
     iterate 5 (rcases mc hp with rfl | hp; (focus kernel_rfl))
     cases hp
   dsimp only
   rw [hj2]
   unfold pg3
   rw [List.take_add_one, hqT, List.map_append]; simp
 rintro ⟨pv, py, pc⟩ u h tk htk ⟨hj1, hj2⟩ Fi Ni
 (revert Xs hfp htk hj1 hj2 Fi Ni; revert gI I fp wr Md St pv py pc u h tk; with_reducible refine Drk6.all (by kpf_c) ((?_ : All6 _) _ _ _ _ _ _); refine fun gI I fp wr Md St => Ap6.mk ?_; with_reducible refine Drk6.all (by kpf_c) ((?_ : All6 _) _ _ _ _ _ _); refine fun pv py pc u h tk => Ap6.mk ?_; intros Xs hfp htk hj1 hj2 Fi Ni)
 dsimp only at hj1 hj2 Fi Ni ⊢
 rw [List.size_toArray, lM] at hj2
 (repeat' ((fail_if_success with_reducible first | refine z27 ?_ | refine z28 ?_ | refine z29 ?_ | refine z30 ?_ | refine z31 ?_ | refine z43 ?_); tb_rel))
 refine item_list (isList_news Ni (.tail _ (hnwB _ hm))) (by decide) (by decide) (x := .int n0 t0) rfl ?_
 (repeat' ((fail_if_success with_reducible first | refine z27 ?_ | refine z28 ?_ | refine z29 ?_ | refine z30 ?_ | refine z31 ?_ | refine z43 ?_); tb_rel))
 first | k_dflt (refine kda_item (knd := PySem.intKind _ w) (kvs := ys) (k := n0) (v := Value.str (labT (tq.map (·.2)) n0) tl0) Ni (.tail _ hDpB) hdP (intKind_is _ _ _ _) ?hl ?_) | fail
 case hl => exact hl0
 dsimp only
 (repeat' ((fail_if_success with_reducible first | refine z27 ?_ | refine z28 ?_ | refine z29 ?_ | refine z30 ?_ | refine z31 ?_ | refine z43 ?_); tb_rel))
 have hpl : pv.length ≤ 2000 := by
   rw [hj1.length, hj2]
   have h1 := pg3_len (tq.map (·.2)) n0 tq.length
   rw [lM] at h1
   omega
 first | k_dflt (refine' append_K ?ap1 ?ap2 ?ap3 ?_ ?ap4; (case ap1 => exact Fi); (case ap2 => exact Ni); (case ap3 => k_upd); (case ap4 => (rw [List.size_toArray]; exact Nat.le_trans hpl (by decide)))) | fail
 intro h4 F4 N4
 dsimp only at N4 ⊢
 obtain ⟨t9, N9⟩ := push_tok N4
 (revert N9; revert t9; tb_start; refine fun t9 => Ap.mk ?_; intros N9)
 clear N4
 have hpy : py ++ [Str.ofString "</" ++ labT (tq.map (·.2)) n0 ++ Str.ofString ":r>"] = pgL (tq.map (·.2)) n0 := by
   rw [hj2]; unfold pgL; rw [lM]
 have hj9 : StrsAre (pv ++ [.str (Str.ofString "</" ++ labT (tq.map (·.2)) n0 ++ Str.ofString ":r>") t9]) (pgL (tq.map (·.2)) n0) := hpy ▸ strsAre_snoc hj1
 have hw9 : (((pgL (tq.map (·.2)) n0).map (·.length)).sum + (pgL (tq.map (·.2)) n0).length) ≤ 1048576 := by
   have h1 := sum200 (pgL_small (T := tq.map (·.2)) (n0 := n0) hn8 (fun q hq => by obtain ⟨r, hr, rfl⟩ := List.mem_map.mp hq; exact hb r hr))
   have h2 : (pgL (tq.map (·.2)) n0).length ≤ 200 := by
     rw [← hpy, lA, List.length_singleton, ← hj1.length]
     rw [hj1.length, hj2]
     have h1 := pg3_len (tq.map (·.2)) n0 tq.length
     rw [lM] at h1
     omega
   omega
 (repeat' ((fail_if_success with_reducible first | refine z27 ?_ | refine z28 ?_ | refine z29 ?_ | refine z30 ?_ | refine z31 ?_ | refine z43 ?_); tb_rel))
 refine join_listW (isList_news N9 (.head _)) hj9 (by decide) hw9 ?_
 intro t10 k10
 (repeat' ((fail_if_success with_reducible first | refine z27 ?_ | refine z28 ?_ | refine z29 ?_ | refine z30 ?_ | refine z31 ?_ | refine z43 ?_); tb_rel))
 ((try (k_unfold; (try dsimp only))); k_dflt (refine' leaveK_ ?k1 ?k2 ?_; (case k1 => k_asm); (case k2 => k_asm)); intro kF kN; (try dsimp only))
 exact hret _ nw _ _ ⟨rfl, _, rfl⟩ kF (fun p hp => kN p (.tail _ (hnwB p hp)))
def Df (u v : List Nat) : Prop := ∃ p x y r r', u = p ++ x :: r ∧ v = p ++ y :: r' ∧ x < y
theorem Df.app {u v : List Nat} (h : Df u v) (s t : List Nat) : Df (u ++ s) (v ++ t) := by
 obtain ⟨p, x, y, r, r', rfl, rfl, hxy⟩ := h
 exact ⟨p, x, y, r ++ s, r' ++ t, by simp, by simp, hxy⟩
theorem Df.lt {u v : List Nat} (h : Df u v) : u < v := by
 obtain ⟨p, x, y, r, r', rfl, rfl, hxy⟩ := h
 induction p with
 | nil => exact List.cons_lt_cons_iff.mpr (.inl hxy)
 | cons a p ih => exact List.cons_lt_cons_iff.mpr (.inr ⟨rfl, ih⟩)
theorem lt_pre (u : List Nat) (x : Nat) (r : List Nat) : u < u ++ x :: r := by
 induction u with
 | nil => exact List.nil_lt_cons _ _
 | cons a p ih => exact List.cons_lt_cons_iff.mpr (.inr ⟨rfl, ih⟩)
theorem wordL_Df : ∀ (b a : Nat), a < b → (wordL a).length = (wordL b).length → Df (wordL a) (wordL b) := by
 rintro b
 induction b using Nat.strongRecOn with
 | ind b ih =>
   rintro a hab hl
   have hb : b ≠ 0 := by omega
   have ha : a ≠ 0 := by
     rintro rfl
     rw [wordL_zero, wordL_pos hb, lA] at hl
     simp at hl
   rw [wordL_pos ha, wordL_pos hb] at hl ⊢
   rw [lA, lA, List.length_singleton, List.length_singleton] at hl
   by_cases h : a / 16 < b / 16
   · exact (ih (b / 16) (by omega) (a / 16) h (by omega)).app _ _
   have e : a / 16 = b / 16 := by omega
   exact ⟨wordL (a / 16), 65 + a % 16, 65 + b % 16, [], [], rfl, by rw [e], by omega⟩
theorem len_le_iff : ∀ (k n : Nat), (wordL n).length ≤ k ↔ n < 16 ^ k := by
 rintro k
 induction k with
 | zero =>
   rintro n
   constructor
   · rintro h
     by_cases h0 : n = 0
     · subst h0; decide
     rw [wordL_pos h0, lA] at h; simp at h
   exact wordL_len 0 n
 | succ k ih =>
   rintro n
   constructor
   · rintro h
     by_cases h0 : n = 0
     · subst h0; exact Nat.pow_pos (by decide)
     rw [wordL_pos h0, lA, List.length_singleton] at h
     have := (ih (n / 16)).mp (by omega)
     rw [Nat.pow_succ]; omega
   exact wordL_len (k + 1) n
theorem wordL_prefix : ∀ (k b : Nat), k ≤ (wordL b).length → ∃ r, wordL b = wordL (b / 16 ^ k) ++ r ∧ r.length = k ∧ ∀ x ∈ r, x < 125 := by
 rintro k
 induction k with
 | zero => rintro b _; exact ⟨[], by simp, rfl, fun x h => nomatch h⟩
 | succ k ih =>
   rintro b hk
   obtain ⟨r, e, hr, hx⟩ := ih b (by omega)
   have h0 : b / 16 ^ k ≠ 0 := by
     rintro h
     rw [h, wordL_zero, List.nil_append] at e
     rw [e] at hk; omega
   refine ⟨(65 + b / 16 ^ k % 16) :: r, ?_, by rw [List.length_cons, hr], fun x h => ?_⟩
   · rw [e, wordL_pos h0, Nat.div_div_eq_div_mul, ← Nat.pow_succ]; simp
   rcases mc h with rfl | h
   · omega
   exact hx x h
def szN (n : Nat) : Nat := 16 ^ (14 - (wordL n).length)
theorem szT_eq {n : Nat} (h : n < 16 ^ 14) : szT (n : Int) = (szN n : Int) := by
 have hl := (len_le_iff 14 n).mpr h
 have e : (fun k : Nat => decide ((n : Int) < 16 ^ k)) = fun k => decide ((wordL n).length ≤ k) := by
   funext k
   have : ((n : Int) < 16 ^ k) ↔ (wordL n).length ≤ k := by
     rw [len_le_iff]
     constructor
     · rintro h; exact_mod_cast h
     rintro h; exact_mod_cast h
   exact decide_eq_decide.mpr this
 unfold szT szN
 rw [e]
 generalize (wordL n).length = l at hl
 have : ∀ l : Fin 15, ((List.range 14).filter (fun k => decide (l.1 ≤ k))).length = 14 - l.1 := by decide
 rw [this ⟨l, by omega⟩]
 exact_mod_cast rfl
theorem szN_pos (n : Nat) : 0 < szN n := Nat.pow_pos (by decide)
def sN (n : Nat) : Nat := n * szN n
def eN (n : Nat) : Nat := (n + 1) * szN n
theorem sN_lt_eN (n : Nat) : sN n < eN n := by
 unfold sN eN
 have := szN_pos n
 rw [Nat.add_mul]; omega
def PreN (a b : Nat) : Prop := sN a ≤ sN b ∧ eN b ≤ eN a ∧ eN b + sN a < eN a + sN b ∧ ∃ x r, wordL b = wordL a ++ x :: r ∧ x < 125
theorem cmpN {a b : Nat} (hb : b < 16 ^ 14) (hl : (wordL a).length ≤ (wordL b).length) (hne : a ≠ b) :
   (eN a ≤ sN b ∧ Df (wordL a) (wordL b)) ∨ (eN b ≤ sN a ∧ Df (wordL b) (wordL a)) ∨ PreN a b := by
 have hj := (len_le_iff 14 b).mpr hb
 obtain ⟨r, er, hr, hx⟩ := wordL_prefix ((wordL b).length - (wordL a).length) b (by omega)
 have hA : szN a = 16 ^ ((wordL b).length - (wordL a).length) * szN b := by
   unfold szN
   rw [← Nat.pow_add]; congr 1; exact c14 hl hj
 have hB := szN_pos b
 have hlp : (wordL (b / 16 ^ ((wordL b).length - (wordL a).length))).length = (wordL a).length := by
   have := congrArg List.length er
   rw [lA, hr] at this; omega
 have hK : 0 < 16 ^ ((wordL b).length - (wordL a).length) := Nat.pow_pos (by decide)
 have hK2 : (wordL a).length < (wordL b).length → 2 ≤ 16 ^ ((wordL b).length - (wordL a).length) := fun h => by
   obtain ⟨m, hm⟩ : ∃ m, (wordL b).length - (wordL a).length = m + 1 := ⟨(wordL b).length - (wordL a).length - 1, sub_one_one (Nat.sub_pos_of_lt h)⟩
   rw [hm, Nat.pow_succ]
   have : 0 < 16 ^ m := Nat.pow_pos (by decide)
   omega
 have hKe : (wordL b).length = (wordL a).length → 16 ^ ((wordL b).length - (wordL a).length) = 1 := fun h => by rw [h, Nat.sub_self]
 have es : sN a = a * (16 ^ ((wordL b).length - (wordL a).length) * szN b) := by unfold sN; rw [hA]
 have ee : eN a = (a + 1) * (16 ^ ((wordL b).length - (wordL a).length) * szN b) := by unfold eN; rw [hA]
 have es' : sN b = b * szN b := rfl
 have ee' : eN b = (b + 1) * szN b := rfl
 have hrl : r.length = (wordL b).length - (wordL a).length := hr
 generalize 16 ^ ((wordL b).length - (wordL a).length) = K at *
 generalize szN b = B at *
 have hdm : b / K * K ≤ b ∧ b < (b / K + 1) * K := ⟨Nat.div_mul_le_self _ _, by rw [Nat.mul_comm]; exact Nat.lt_mul_div_succ b hK⟩
 rcases Nat.lt_trichotomy a (b / K) with h | h | h
 · left
   refine ⟨?_, ?_⟩
   · rw [ee, es', ← Nat.mul_assoc]
     exact Nat.mul_le_mul_right _ (Nat.le_trans (Nat.mul_le_mul_right _ h) hdm.1)
   rw [er]
   have := (wordL_Df (b / K) a h hlp.symm).app [] r
   rw [List.append_nil] at this; exact this
 · right; right
   have hab : (wordL a).length < (wordL b).length := by
     rcases Nat.lt_or_ge (wordL a).length (wordL b).length with h1 | h1
     · exact h1
     exfalso
     have h2 : (wordL b).length = (wordL a).length := by omega
     have h3 := hKe h2
     rw [h3, Nat.div_one] at h
     exact hne h
   have h2 := hK2 hab
   have es2 : sN a = b / K * (K * B) := es.trans (congrArg (· * (K * B)) h)
   have ee2 : eN a = (b / K + 1) * (K * B) := ee.trans (congrArg (fun x => (x + 1) * (K * B)) h)
   have h5 : b / K * (K * B) ≤ b * B := by rw [← Nat.mul_assoc]; exact Nat.mul_le_mul_right _ hdm.1
   have h6 : (b + 1) * B ≤ (b / K + 1) * (K * B) := by rw [← Nat.mul_assoc]; exact Nat.mul_le_mul_right _ hdm.2
   have h7 : (b + 1) * B = b * B + B := by rw [Nat.add_mul, Nat.one_mul]
   have h8 : (b / K + 1) * (K * B) = b / K * (K * B) + K * B := by rw [Nat.add_mul, Nat.one_mul]
   have h9 : 2 * B ≤ K * B := Nat.mul_le_mul_right _ h2
   refine ⟨by rw [es2, es']; exact h5, by rw [ee2, ee']; exact h6, by rw [es2, ee2, es', ee']; omega, ?_⟩
   rw [← h] at er
   cases r with
   | nil => simp at hrl; omega
   | cons x r => exact ⟨x, r, er, hx x (.head _)⟩
 right; left
 refine ⟨?_, ?_⟩
 · rw [ee', es, ← Nat.mul_assoc]
   exact Nat.mul_le_mul_right _ (Nat.le_trans hdm.2 (Nat.mul_le_mul_right _ h))
 rw [er]
 have := (wordL_Df a (b / K) h hlp).app r []
 rw [List.append_nil] at this; exact this
theorem triN {a b : Nat} (ha : a < 16 ^ 14) (hb : b < 16 ^ 14) (hne : a ≠ b) :
   (eN a ≤ sN b ∧ Df (wordL a) (wordL b)) ∨ (eN b ≤ sN a ∧ Df (wordL b) (wordL a)) ∨ PreN a b ∨ PreN b a := by
 rcases Nat.le_total (wordL a).length (wordL b).length with h | h
 · rcases cmpN hb h hne with h | h | h
   · exact .inl h
   · exact .inr (.inl h)
   exact .inr (.inr (.inl h))
 rcases cmpN ha h hne.symm with h | h | h
 · exact .inr (.inl h)
 · exact .inl h
 exact .inr (.inr (.inr h))
theorem start_lt {a b : Nat} (ha : a < 16 ^ 14) (hb : b < 16 ^ 14) (hne : a ≠ b) (h : sN a < sN b ∨ (sN a = sN b ∧ eN b ≤ eN a)) : wordL a < wordL b := by
 have h1 := sN_lt_eN a
 have h2 := sN_lt_eN b
 rcases triN ha hb hne with q | q | ⟨q1, q2, q3, x, r, q4, q5⟩ | ⟨q1, q2, q3, x, r, q4, q5⟩
 · exact q.2.lt
 · omega
 · rw [q4]; exact lt_pre _ _ _
 omega
theorem close_lt {a b : Nat} (ha : a < 16 ^ 14) (hb : b < 16 ^ 14) (hne : a ≠ b) (h : eN a < eN b ∨ (eN a = eN b ∧ sN b < sN a)) (s : List Nat) : wordL a ++ 125 :: s < wordL b ++ 125 :: s := by
 have h1 := sN_lt_eN a
 have h2 := sN_lt_eN b
 rcases triN ha hb hne with q | q | ⟨q1, q2, q3, x, r, q4, q5⟩ | ⟨q1, q2, q3, x, r, q4, q5⟩
 · exact (q.2.app _ _).lt
 · omega
 · omega
 refine Df.lt ⟨wordL b, x, 125, r ++ 125 :: s, s, ?_, rfl, q5⟩
 rw [q4]; simp
theorem nestN {a b : Nat} (ha : a < 16 ^ 14) (hb : b < 16 ^ 14) (hne : a ≠ b) (h : sN a < sN b ∨ (sN a = sN b ∧ eN b ≤ eN a)) (h' : sN b < eN a) : eN b < eN a ∨ (eN b = eN a ∧ sN a < sN b) := by
 have h1 := sN_lt_eN a
 have h2 := sN_lt_eN b
 rcases triN ha hb hne with q | q | ⟨q1, q2, q3, _⟩ | ⟨q1, q2, q3, _⟩
 · omega
 · omega
 · omega
 omega
def OkN (n : Int) : Prop := 0 < n ∧ n < 16 ^ 14
theorem OkN.lt {n : Int} (h : OkN n) : n.toNat < 16 ^ 14 := by have := h.2; have := h.1; omega
theorem sT_eq {n : Int} (h : OkN n) : sT n = (sN n.toNat : Int) := by
 have e : n = (n.toNat : Int) := by have := h.1; omega
 unfold sT sN
 rw [e, szT_eq h.lt, Int.toNat_natCast]
 exact_mod_cast rfl
theorem eT_eq {n : Int} (h : OkN n) : eT n = (eN n.toNat : Int) := by
 have e : n = (n.toNat : Int) := by have := h.1; omega
 unfold eT eN
 rw [e, szT_eq h.lt, Int.toNat_natCast]
 exact_mod_cast rfl
def bfT (a b : Int) : Prop := sT a < sT b ∨ (sT a = sT b ∧ eT b ≤ eT a)
def clT (a b : Int) : Prop := eT a < eT b ∨ (eT a = eT b ∧ sT b < sT a)
theorem ltT_bf {a b : Int} (h : ltT a b = true) : bfT a b := by
 unfold ltT at h
 rw [lt3_iff, Int.neg_mul, Int.neg_mul] at h
 unfold bfT sT eT
 rcases h with h | ⟨h1, h2 | ⟨h2, _⟩⟩
 · exact .inl h
 · exact .inr ⟨h1, Int.le_of_lt (Int.lt_of_neg_lt_neg h2)⟩
 exact .inr ⟨h1, Int.le_of_eq (Int.neg_inj.mp h2).symm⟩
theorem se_lt {n : Int} (h : OkN n) : sT n < eT n := by
 rw [sT_eq h, eT_eq h]
 exact_mod_cast sN_lt_eN _
theorem nestT {a b : Int} (ha : OkN a) (hb : OkN b) (hne : a ≠ b) (h : bfT a b) (h' : sT b < eT a) : clT b a := by
 unfold bfT at h
 rw [sT_eq ha, sT_eq hb, eT_eq ha, eT_eq hb] at h
 rw [sT_eq hb, eT_eq ha] at h'
 have hne' : a.toNat ≠ b.toNat := by have := ha.1; have := hb.1; omega
 have := nestN ha.lt hb.lt hne' (by omega) (by omega)
 unfold clT
 rw [sT_eq ha, sT_eq hb, eT_eq ha, eT_eq hb]
 omega
theorem keep_gt {s : Int} : ∀ {st : List Int}, st.Pairwise clT → ∀ t ∈ keepT s st, s < eT t
 | [], _, t, h => nomatch h
 | a :: r, hp, t, h => by
   obtain ⟨h1, h2⟩ := List.pairwise_cons.mp hp
   unfold keepT at h
   split at h
   · exact keep_gt h2 t h
   rename_i hn
   rcases mc h with rfl | h
   · omega
   have := h1 t h
   unfold clT at this
   omega
theorem keep_sub {s : Int} : ∀ {st : List Int}, (keepT s st).Sublist st
 | [] => .slnil
 | a :: r => by
   unfold keepT
   split
   · exact (keep_sub (st := r)).cons a
   exact .refl _
theorem pop_keep {s : Int} : ∀ (st : List Int), st = closesT (popT s st) ++ keepT s st ∧ (∀ t ∈ closesT (popT s st), eT t ≤ s) ∧ opensT (popT s st) = []
 | [] => ⟨rfl, (fun t h => absurd (show t ∈ ([] : List Int) from h) (by simp)), rfl⟩
 | a :: r => by
   obtain ⟨h1, h2, h3⟩ := pop_keep (s := s) r
   unfold popT keepT
   split
   · rename_i hle
     refine ⟨?_, fun t ht => ?_, ?_⟩
     · show a :: r = a :: (closesT (popT s r) ++ keepT s r)
       rw [← h1]
     · rcases mc (show t ∈ a :: closesT (popT s r) from ht) with rfl | ht
       · exact hle
       exact h2 t ht
     exact h3
   exact ⟨rfl, (fun t h => absurd (show t ∈ ([] : List Int) from h) (by simp)), rfl⟩
theorem closes_app (a b : List (Bool × Int)) : closesT (a ++ b) = closesT a ++ closesT b := by
 unfold closesT; rw [List.filter_append, List.map_append]
theorem opens_app (a b : List (Bool × Int)) : opensT (a ++ b) = opensT a ++ opensT b := by
 unfold opensT; rw [List.filter_append, List.map_append]
theorem opens_false (st : List Int) : opensT (st.map fun n => (false, n)) = [] := by
 unfold opensT
 induction st with
 | nil => rfl
 | cons a r ih => rw [List.map_cons, List.filter_cons]; simpa using ih
theorem closes_false (st : List Int) : closesT (st.map fun n => (false, n)) = st := by
 unfold closesT
 induction st with
 | nil => rfl
 | cons a r ih => rw [List.map_cons, List.filter_cons]; simpa using ih
theorem tour_opens : ∀ (xs st : List Int), opensT (tourGo xs st) = xs
 | [], st => opens_false st
 | x :: xs, st => by
   unfold tourGo
   rw [opens_app, (pop_keep st).2.2, List.nil_append]
   show x :: opensT (tourGo xs _) = x :: xs
   rw [tour_opens xs]
theorem tour_closes : ∀ (xs st : List Int), (∀ n ∈ st, OkN n) → (∀ n ∈ xs, OkN n) → st.Pairwise clT → xs.Pairwise bfT → (st ++ xs).Nodup → (∀ t ∈ st, ∀ x ∈ xs, bfT t x) →
   (closesT (tourGo xs st)).Perm (st ++ xs) ∧ (closesT (tourGo xs st)).Pairwise clT
 | [], st, _, _, hp, _, _, _ => by
   unfold tourGo
   rw [closes_false, List.append_nil]
   exact ⟨.refl _, hp⟩
 | x :: xs, st, ho, hx, hp, hq, hnd, hb => by
   obtain ⟨e, hpop, _⟩ := pop_keep (s := sT x) st
   have hkg := keep_gt (s := sT x) hp
   have hks := keep_sub (s := sT x) (st := st)
   obtain ⟨hq1, hq2⟩ := List.pairwise_cons.mp hq
   have hxo := hx x (.head _)
   have hkc : ∀ t ∈ keepT (sT x) st, clT x t := fun t ht => by
     have hts := hks.subset ht
     refine nestT (ho t hts) hxo (fun e => ?_) (hb t hts x (.head _)) (hkg t ht)
     rw [List.nodup_append] at hnd
     exact hnd.2.2 t hts x (.head _) e
   have hnd2 : ((x :: keepT (sT x) st) ++ xs).Nodup := by
     have h1 : (st ++ x :: xs).Perm (x :: st ++ xs) := List.perm_middle
     have h2 := h1.nodup_iff.mp hnd
     exact h2.sublist (List.Sublist.append_right (List.Sublist.cons_cons x hks) xs)
   obtain ⟨ih1, ih2⟩ := tour_closes xs (x :: keepT (sT x) st) (fun n hn => by
       rcases mc hn with rfl | hn
       · exact hxo
       · exact ho n (hks.subset hn)) (fun n hn => hx n (.tail _ hn)) (List.pairwise_cons.mpr ⟨hkc, hp.sublist hks⟩) hq2 hnd2 (fun t ht y hy => by
       rcases mc ht with rfl | ht
       · exact hq1 y hy
       exact hb t (hks.subset ht) y (.tail _ hy))
   unfold tourGo
   rw [closes_app]
   have e3 : closesT ((true, x) :: tourGo xs (x :: keepT (sT x) st)) = closesT (tourGo xs (x :: keepT (sT x) st)) := rfl
   rw [e3]
   refine ⟨?_, List.pairwise_append.mpr ⟨?_, ih2, ?_⟩⟩
   · refine (ih1.append_left _).trans ?_
     have h4 : (closesT (popT (sT x) st) ++ (x :: keepT (sT x) st ++ xs)).Perm (closesT (popT (sT x) st) ++ (keepT (sT x) st ++ x :: xs)) := List.Perm.append_left _ (List.perm_middle).symm
     refine h4.trans ?_
     rw [← List.append_assoc, ← e]
   · have := hp
     rw [e] at this
     exact (List.pairwise_append.mp this).1
   rintro t ht y hy
   have hy' := ih1.mem_iff.mp hy
   have hte := hpop t ht
   have hxe := se_lt hxo
   rcases ma hy' with hy' | hy'
   · rcases mc hy' with rfl | hy'
     · exact .inl (by omega)
     have := hp
     rw [e] at this
     exact (List.pairwise_append.mp this).2.2 t ht y hy'
   have h5 := hq1 y hy'
   have h6 := se_lt (hx y (.tail _ hy'))
   unfold bfT at h5
   exact .inl (by omega)
section
open Builtin.Str
abbrev brc : Str := Str.ofString "}"
theorem at_brc {x : Str} {p r : List Nat} (hx : x.cps.toList = p ++ 125 :: r) (hp : 125 ∉ p) (hr : 125 ∉ r) {i : Nat} (h : subAt x brc i = true) : i = p.length := by
 rw [PySem.StrLaws.subAt_eq, hx] at h
 have e : brc.cps.toList = [125] := by decide +kernel
 have el : brc.length = 1 := by decide +kernel
 rw [e, el] at h
 have h1 : ((p ++ 125 :: r).drop i).take 1 = [125] := by simpa using h
 have h2 : (p ++ 125 :: r)[i]? = some 125 := by
   have h3 := congrArg (fun l : List Nat => l[0]?) h1
   simp only [List.getElem?_take, List.getElem?_drop] at h3
   simpa using h3
 rcases Nat.lt_trichotomy i p.length with h | h | h
 · rw [List.getElem?_append_left h] at h2
   exact absurd (List.mem_of_getElem? h2) hp
 · exact h
 rw [List.getElem?_append_right (by omega)] at h2
 obtain ⟨j, hj⟩ : ∃ j, i - p.length = j + 1 := ⟨i - p.length - 1, sub_one_one (Nat.sub_pos_of_lt h)⟩
 rw [hj, List.getElem?_cons_succ] at h2
 exact absurd (List.mem_of_getElem? h2) hr
theorem brc_at {x : Str} {p r : List Nat} (hx : x.cps.toList = p ++ 125 :: r) : subAt x brc p.length = true := by
 rw [PySem.StrLaws.subAt_eq, hx]
 have e : brc.cps.toList = [125] := by decide +kernel
 have el : brc.length = 1 := by decide +kernel
 rw [e, el, List.drop_left']
 · rfl
 rfl
theorem one_list {l : List Nat} {k : Nat} (h1 : l.length ≤ 1) (h2 : l ≠ []) (h3 : ∀ i ∈ l, i = k) : l = [k] := by
 match l, h1, h2, h3 with
 | [a], _, _, h3 => rw [h3 a (.head _)]
 | [], _, h2, _ => exact absurd rfl h2
theorem len_of_list {x : Str} {l : List Nat} (hx : x.cps.toList = l) : x.length = l.length := by
 rw [← hx, Array.length_toList]; rfl
theorem occ_one {x : Str} {p r : List Nat} (hx : x.cps.toList = p ++ 125 :: r) (hp : 125 ∉ p) (hr : 125 ∉ r) : occurrences x brc 0 x.length 1 = [p.length] := by
 refine one_list (PySem.StrLaws.occ_length_le _ _ _ _ _) ?_ fun i hi => at_brc hx hp hr (PySem.StrLaws.occ_spec _ _ _ _ _ i hi).2
 have el : brc.length = 1 := by decide +kernel
 have hl := len_of_list hx
 have h := (PySem.StrLaws.found_iff x brc).mpr ⟨p.length, by rw [el, hl, lA, List.length_cons]; omega, brc_at hx⟩
 rintro e
 rw [e] at h
 simp at h
theorem occR_inv (s sub : Str) (limit : Nat) : ∀ (l : List Nat) (st : Array Nat × Nat), (∀ i ∈ st.fst, subAt s sub i = true) →
   ∀ i ∈ (forIn l st (PySem.StrLaws.occRBody s sub limit)).run.fst, subAt s sub i = true
 | [], st, h => h
 | a :: l, st, h => by
   rw [List.forIn_cons]
   unfold PySem.StrLaws.occRBody
   split
   · rename_i hc
     refine occR_inv s sub limit l _ ?_
     rintro i hi'
     simp only [Array.mem_push] at hi'
     rcases hi' with hm | rfl
     · exact h i hm
     exact hc.2
   exact occR_inv s sub limit l _ h
theorem occR_grows (s sub : Str) (limit : Nat) : ∀ (l : List Nat) (st : Array Nat × Nat), st.fst ≠ #[] → (forIn l st (PySem.StrLaws.occRBody s sub limit)).run.fst ≠ #[]
 | [], st, h => h
 | a :: l, st, h => by
   rw [List.forIn_cons]
   unfold PySem.StrLaws.occRBody
   split
   · exact occR_grows s sub limit l _ (by simp)
   exact occR_grows s sub limit l _ h
theorem occR_some (s sub : Str) : ∀ (l : List Nat), (∃ k ∈ l, s.length - k + sub.length ≤ s.length ∧ subAt s sub (s.length - k) = true) → (forIn l ((#[] : Array Nat), s.length) (PySem.StrLaws.occRBody s sub 1)).run.fst ≠ #[]
 | [], h => by obtain ⟨k, hk, _⟩ := h; cases hk
 | a :: l, h => by
   rw [List.forIn_cons]
   unfold PySem.StrLaws.occRBody
   split
   · exact occR_grows s sub 1 l _ (by simp)
   rename_i hc
   refine occR_some s sub l ?_
   obtain ⟨k, hk, h1, h2⟩ := h
   rcases mc hk with rfl | hk
   · exact absurd ⟨⟨by simp, h1⟩, h2⟩ hc
   exact ⟨k, hk, h1, h2⟩
theorem occR_one {x : Str} {p r : List Nat} (hx : x.cps.toList = p ++ 125 :: r) (hp : 125 ∉ p) (hr : 125 ∉ r) : occurrencesFromRight x brc 1 = [p.length] := by
 have el : brc.length = 1 := by decide +kernel
 have hl : x.length = p.length + (r.length + 1) := by rw [len_of_list hx, lA, List.length_cons]
 refine one_list (PySem.StrLaws.occR_length_le _ _ _) ?_ fun i hi => ?_
 · rw [PySem.StrLaws.occR_eq]
   have hs : x.length - (x.length - p.length) = p.length := Nat.sub_sub_self (by rw [hl]; exact Nat.le_add_right _ _)
   have h := occR_some x brc (List.range' 0 (x.length + 1)) ⟨x.length - p.length, by simp [List.mem_range']; omega, by rw [el, hs, hl]; exact Nat.add_le_add_left (Nat.le_add_left 1 r.length) _, by rw [hs]; exact brc_at hx⟩
   rintro e
   exact h (by simpa using e)
 rw [PySem.StrLaws.occR_eq] at hi
 exact at_brc hx hp hr (occR_inv x brc 1 _ _ (fun j hj => absurd hj (Array.not_mem_empty j)) i (by simpa using hi))
theorem parts_one {x : Str} {p r : List Nat} (hx : x.cps.toList = p ++ 125 :: r) : partsBetween x [p.length] 1 = [⟨p.toArray⟩, ⟨r.toArray⟩] := by
 have hl : x.length = p.length + (r.length + 1) := by rw [len_of_list hx, lA, List.length_cons]
 have e1 : strSub x 0 p.length = ⟨p.toArray⟩ := by
   refine str_ext ?_
   rw [PySem.StrLaws.strSub_toList, hx]
   simp
 have e2 : strSub x (p.length + 1) x.length = ⟨r.toArray⟩ := by
   refine str_ext ?_
   have e3 : p ++ 125 :: r = (p ++ [125]) ++ r := by simp
   rw [PySem.StrLaws.strSub_toList, hx, e3, List.drop_left' (by simp), hl]
   show r.take _ = r
   exact List.take_of_length_le (by omega)
 show [strSub x 0 p.length, strSub x (p.length + 1) x.length] = _
 rw [e1, e2]
theorem kind1 (x : Str) : ¬ Builtin.Str.strKind x < Builtin.Str.strKind brc := by
 have : Builtin.Str.strKind brc = 1 := by decide +kernel
 rw [this]
 unfold Builtin.Str.strKind
 split
 · omega
 split <;> omega
theorem split_brc {x : Str} {p r : List Nat} (hx : x.cps.toList = p ++ 125 :: r) (hp : 125 ∉ p) (hr : 125 ∉ r) : Txt.splitMax x brc 1 = [⟨p.toArray⟩, ⟨r.toArray⟩] := by
 have el : brc.length = 1 := by decide +kernel
 have hl : x.length = p.length + (r.length + 1) := by rw [len_of_list hx, lA, List.length_cons]
 have hlim : limitOf x 1 = 1 := rfl
 unfold Txt.splitMax
 rw [if_neg (by rw [Bool.or_eq_true, decide_eq_true_iff, decide_eq_true_iff]; have := kind1 x; omega), hlim, occ_one hx hp hr, if_neg (by simp), el, parts_one hx]
theorem rsplit_brc {x : Str} {p r : List Nat} (hx : x.cps.toList = p ++ 125 :: r) (hp : 125 ∉ p) (hr : 125 ∉ r) : Txt.rsplitMax x brc 1 = [⟨p.toArray⟩, ⟨r.toArray⟩] := by
 have el : brc.length = 1 := by decide +kernel
 have hl : x.length = p.length + (r.length + 1) := by rw [len_of_list hx, lA, List.length_cons]
 have hlim : limitOf x 1 = 1 := rfl
 unfold Txt.rsplitMax
 rw [if_neg (by rw [Bool.or_eq_true, decide_eq_true_iff, decide_eq_true_iff]; have := kind1 x; omega), hlim, occR_one hx hp hr, if_neg (by simp), el, parts_one hx]
end
def nameS (n : Int) (c : Nat) : Str := ⟨(123 :: (wordL n.toNat ++ [125, c])).toArray⟩
theorem wordL_letters : ∀ (n x : Nat), x ∈ wordL n → 65 ≤ x ∧ x ≤ 80 := by
 rintro n
 induction n using Nat.strongRecOn with
 | ind n ih =>
   rintro x hx
   by_cases h : n = 0
   · subst h; rw [wordL_zero] at hx; cases hx
   rw [wordL_pos h] at hx
   rcases ma hx with hx | hx
   · exact ih (n / 16) (by omega) x hx
   rw [ms hx]; omega
theorem nameS_list (n : Int) (c : Nat) : (nameS n c).cps.toList = (123 :: wordL n.toNat) ++ 125 :: [c] := by
 unfold nameS; simp
theorem no125 (n : Nat) : 125 ∉ wordL n := fun h => by have := wordL_letters n _ h; omega
theorem nameS_split (n : Int) {c : Nat} (hc : c ≠ 125) : Txt.splitMax (nameS n c) (Str.ofString "}") 1 = [⟨(123 :: wordL n.toNat).toArray⟩, ⟨#[c]⟩] :=
 split_brc (nameS_list n c) (by rintro h; rcases mc h with h | h; · omega
                                · exact no125 _ h) (by simp; omega)
theorem nameS_len {n : Int} (h : n.toNat < 16 ^ 14) (c : Nat) : (nameS n c).length ≤ 17 := by
 rw [len_of_list (nameS_list n c)]
 have := wordL_len 14 _ h
 simp
 omega
theorem nameS_qn {n : Int} (h : n.toNat < 16 ^ 14) {c : Nat} (hc : c ≠ 125) : QN (nameS n c) (wordS n.toNat) ⟨#[c]⟩ where
 len := Nat.le_trans (nameS_len h c) (by decide)
 head := by
   have hl := len_of_list (nameS_list n c)
   rw [beq_iff_eq.mp (PyProof.Rows.slice_closes_toL (x := nameS n c) (j := 1) (by decide) (by rw [hl, lA, List.length_cons]; omega)), nameS_list]
   rfl
 parts := by
   have hl := len_of_list (nameS_list n c)
   have e : Txt.slice (nameS n c) (some 1) none = ⟨(wordL n.toNat ++ 125 :: [c]).toArray⟩ := by
     rw [PyProof.Rows.slice_from_eq (b := ((nameS n c).length : Int)) (by decide) (by rw [hl, lA, List.length_cons]; omega) rfl, nameS_list]
     refine str_ext ?_
     rw [hl]
     show List.take _ (wordL n.toNat ++ 125 :: [c]) = wordL n.toNat ++ 125 :: [c]
     refine List.take_of_length_le ?_
     rw [lA, lA, List.length_cons, List.length_cons]
     show _ ≤ (((wordL n.toNat).length + 1 + _ : Nat) - (1 : Int)).toNat
     omega
   rw [e]
   exact rsplit_brc (by simp) (no125 _) (by simp; omega)
def sg (a b : Nat) : Str := Txt.item (Str.ofString "&<>\"\t\n\r;") (a : Int) ++ Str.ofString "=" ++ Txt.item (Str.ofString "&<>\"\t\n\r;") (b : Int)
theorem signs_sg (n : Int) : ∃ a b : Fin 8, signs n = sg a.1 b.1 := by
 have h1 : 0 ≤ n.fmod 8 ∧ n.fmod 8 < 8 := ⟨Int.fmod_nonneg_of_pos _ (by decide), Int.fmod_lt_of_pos _ (by decide)⟩
 have h2 : 0 ≤ (n.fdiv 8).fmod 8 ∧ (n.fdiv 8).fmod 8 < 8 := ⟨Int.fmod_nonneg_of_pos _ (by decide), Int.fmod_lt_of_pos _ (by decide)⟩
 refine ⟨⟨(n.fmod 8).toNat, (Int.toNat_lt h1.1).mpr h1.2⟩, ⟨((n.fdiv 8).fmod 8).toNat, (Int.toNat_lt h2.1).mpr h2.2⟩, ?_⟩
 unfold signs sg
 dsimp only
 rw [Int.toNat_of_nonneg h1.1, Int.toNat_of_nonneg h2.1]
theorem esc_sg : ∀ a b : Fin 8, escAttr (sg a.1 b.1) = Txt.join (Str.ofString "") ((sg a.1 b.1).cps.toList.map escV) ∧ escText (sg a.1 b.1) = Txt.join (Str.ofString "") ((sg a.1 b.1).cps.toList.map escT) := by decide +kernel
theorem escAttr_signs (n : Int) : escAttr (signs n) = valS n := by
 obtain ⟨a, b, e⟩ := signs_sg n
 unfold valS
 rw [e]; exact (esc_sg a b).1
theorem escText_signs (n : Int) : escText (signs n) = txtS n := by
 obtain ⟨a, b, e⟩ := signs_sg n
 unfold txtS
 rw [e]; exact (esc_sg a b).2
theorem signs_len (n : Int) : (signs n).length = 3 := signs_size n
theorem sub1_mem {x : Str} {c : Nat} {y : Str} (hy : y.cps.toList = [c]) {i : Nat} (h : Builtin.Str.subAt x y i = true) : c ∈ x.cps.toList := by
 rw [PySem.StrLaws.subAt_eq, hy, len_of_list hy] at h
 have h1 : (x.cps.toList.drop i).take 1 = [c] := by simpa using h
 exact List.mem_of_mem_drop (List.mem_of_mem_take (by rw [h1]; exact .head _))
theorem esc1_none {x y r : Str} {c : Nat} (hy : y.cps.toList = [c]) (h : c ∉ x.cps.toList) : esc1 y r x = x := by
 refine esc1_yes ?_
 cases e : (Builtin.Str.occurrences x y 0 x.length 1).isEmpty with
 | true => rfl
 | false =>
   exfalso
   obtain ⟨i, _, hi⟩ := (PySem.StrLaws.found_iff x y).mp (by rw [e]; rfl)
   exact h (sub1_mem hy hi)
theorem escAttr_word (n : Nat) : escAttr (wordS n) = wordS n := by
 have hm : ∀ c, c < 65 → c ∉ (wordS n).cps.toList := fun c hc h => by
   have := wordL_letters n c (by unfold wordS at h; simpa using h)
   omega
 unfold escAttr
 rw [esc1_none (c := 38) (by decide +kernel) (hm _ (by decide)), esc1_none (c := 60) (by decide +kernel) (hm _ (by decide)), esc1_none (c := 34) (by decide +kernel) (hm _ (by decide)),
   esc1_none (c := 9) (by decide +kernel) (hm _ (by decide)), esc1_none (c := 10) (by decide +kernel) (hm _ (by decide)), esc1_none (c := 13) (by decide +kernel) (hm _ (by decide))]
def ltS (u v : Str) : Prop := u.cps.toList < v.cps.toList
theorem ltS_irr {u : Str} : ¬ ltS u u := List.lt_irrefl _
theorem ltS_asymm {u v : Str} (h : ltS u v) (h' : ltS v u) : False := List.lt_irrefl _ (List.lt_trans h h')
theorem wordL_ne2 {a b : Nat} (ha : a < 16 ^ 14) (hb : b < 16 ^ 14) (hne : a ≠ b) : wordL a ≠ wordL b := by
 rintro e
 rcases triN ha hb hne with q | q | ⟨q1, q2, q3, x, r, q4, q5⟩ | ⟨q1, q2, q3, x, r, q4, q5⟩
 · have := q.2.lt; rw [e] at this; exact List.lt_irrefl _ this
 · have := q.2.lt; rw [e] at this; exact List.lt_irrefl _ this
 · have := congrArg List.length q4; rw [lA, List.length_cons, e] at this; omega
 have := congrArg List.length q4; rw [lA, List.length_cons, e] at this; omega
theorem wordS_list (n : Nat) : (wordS n).cps.toList = wordL n := by unfold wordS; simp
theorem wordS_inj {a b : Int} (ha : OkN a) (hb : OkN b) (e : wordS a.toNat = wordS b.toNat) : a = b := by
 refine Classical.byContradiction fun hne => ?_
 have hne' : a.toNat ≠ b.toNat := by have := ha.1; have := hb.1; omega
 exact wordL_ne2 ha.lt hb.lt hne' (by rw [← wordS_list, ← wordS_list, e])
theorem nameS_inj {a b : Int} {c d : Nat} (ha : OkN a) (hb : OkN b) (e : nameS a c = nameS b d) : a = b := by
 refine wordS_inj ha hb ?_
 have h1 : (nameS a c).cps.toList = (nameS b d).cps.toList := by rw [e]
 rw [nameS_list, nameS_list] at h1
 have hl := congrArg List.length h1
 simp only [lA, List.length_cons, List.length_nil] at hl
 have h2 := (List.append_inj h1 (by simp only [List.length_cons]; omega)).1
 rw [List.cons.injEq] at h2
 refine str_ext ?_
 rw [wordS_list, wordS_list]; exact h2.2
theorem nameS_c {a b : Int} {c d : Nat} (e : nameS a c = nameS b d) : c = d := by
 have h1 : (nameS a c).cps.toList = (nameS b d).cps.toList := by rw [e]
 rw [nameS_list, nameS_list] at h1
 have h2 := (List.append_inj' h1 rfl).2
 simpa using h2
def Uq (y : Str) : Str := ⟨((spl0 y).cps.toList.drop 1).toArray⟩
def Tq (y : Str) : Str := spl1 y
theorem spl0_nm (n : Int) {c : Nat} (hc : c ≠ 125) : spl0 (nameS n c) = ⟨(123 :: wordL n.toNat).toArray⟩ := by
 unfold spl0; rw [nameS_split n hc]; rfl
theorem spl1_nm (n : Int) {c : Nat} (hc : c ≠ 125) : spl1 (nameS n c) = ⟨#[c]⟩ := by
 unfold spl1; rw [nameS_split n hc]; rfl
theorem Uq_nm (n : Int) {c : Nat} (hc : c ≠ 125) : Uq (nameS n c) = wordS n.toNat := by
 unfold Uq; rw [spl0_nm n hc]; rfl
theorem usOf_sorted (U : Str → Str) : ∀ (ys us : List Str), us.Pairwise ltS → (∀ u ∈ us, ∀ y ∈ ys, u = U y ∨ ltS u (U y)) → ys.Pairwise (fun y y' => U y = U y' ∨ ltS (U y) (U y')) → (ys.foldl (fun us y => seenU us (U y)) us).Pairwise ltS
 | [], us, h, _, _ => h
 | y :: ys, us, h, hb, hp => by
   rw [List.foldl_cons]
   obtain ⟨h1, h2⟩ := List.pairwise_cons.mp hp
   have hm : ∀ u ∈ seenU us (U y), u ∈ us ∨ u = U y := fun u hu => by
     unfold seenU at hu
     split at hu
     · exact .inl hu
     rcases ma hu with hu | hu
     · exact .inl hu
     exact .inr (ms hu)
   refine usOf_sorted U ys _ ?_ (fun u hu y' hy' => ?_) h2
   · unfold seenU
     split
     · exact h
     rename_i hn
     refine List.pairwise_append.mpr ⟨h, List.pairwise_singleton _ _, fun u hu v hv => ?_⟩
     rw [ms hv]
     rcases hb u hu y (.head _) with e | e
     · exact absurd (e ▸ hu) hn
     exact e
   rcases hm u hu with hu | rfl
   · exact hb u hu y' (.tail _ hy')
   exact h1 y' hy'
theorem lt2_U {a b : Int} {c d : Nat} (hc : c ≠ 125) (hd : d ≠ 125) (h : lt2 (spl0 (nameS a c)) (spl1 (nameS a c)) (spl0 (nameS b d)) (spl1 (nameS b d)) = true) : Uq (nameS a c) = Uq (nameS b d) ∨ ltS (Uq (nameS a c)) (Uq (nameS b d)) := by
 rw [Uq_nm a hc, Uq_nm b hd]
 rw [spl0_nm a hc, spl0_nm b hd] at h
 unfold lt2 at h
 split at h
 · rename_i e
   left
   have h1 : (⟨(123 :: wordL a.toNat).toArray⟩ : Str).cps.toList = (⟨(123 :: wordL b.toNat).toArray⟩ : Str).cps.toList := by rw [e]
   refine str_ext ?_
   rw [wordS_list, wordS_list]
   simpa using h1
 right
 have h1 := of_decide_eq_true h
 unfold ltS
 rw [wordS_list, wordS_list]
 have h2 : (123 :: wordL a.toNat) < (123 :: wordL b.toNat) := by simpa using h1
 rcases List.cons_lt_cons_iff.mp h2 with h | h
 · omega
 exact h.2
theorem words_sorted {xs : List Int} (ho : ∀ n ∈ xs, OkN n) (hnd : xs.Nodup) (hp : xs.Pairwise bfT) : (xs.map fun n => wordS n.toNat).Pairwise ltS := by
 rw [List.pairwise_map]
 have h2 : xs.Pairwise (fun a b => bfT a b ∧ a ≠ b) := hp.and hnd
 refine h2.imp_of_mem fun {a b} ha hb hab => ?_
 unfold ltS
 rw [wordS_list, wordS_list]
 have h3 := hab.1
 have oa := ho a ha
 have ob := ho b hb
 unfold bfT at h3
 rw [sT_eq oa, sT_eq ob, eT_eq oa, eT_eq ob] at h3
 exact start_lt oa.lt ob.lt (by have := oa.1; have := ob.1; have := hab.2; omega) (by omega)
theorem names_sorted {xs : List Int} (ho : ∀ n ∈ xs, OkN n) (hnd : xs.Nodup) (hp : xs.Pairwise clT) : (xs.map fun n => nameS n 97).Pairwise ltS := by
 rw [List.pairwise_map]
 have h2 : xs.Pairwise (fun a b => clT a b ∧ a ≠ b) := hp.and hnd
 refine h2.imp_of_mem fun {a b} ha hb hab => ?_
 unfold ltS
 rw [nameS_list, nameS_list]
 have h3 := hab.1
 have oa := ho a ha
 have ob := ho b hb
 unfold clT at h3
 rw [sT_eq oa, sT_eq ob, eT_eq oa, eT_eq ob] at h3
 have h4 := close_lt oa.lt ob.lt (by have := oa.1; have := ob.1; have := hab.2; omega) (by omega) [97]
 exact List.cons_lt_cons_iff.mpr (.inr ⟨rfl, h4⟩)
theorem foldl_seen_of2 (U : Str → Str) : ∀ (ys us : List Str) (x : Str), x ∈ ys.foldl (fun us y => seenU us (U y)) us → x ∈ us ∨ ∃ y ∈ ys, U y = x
 | [], us, x, h => .inl h
 | y :: ys, us, x, h => by
   rw [List.foldl_cons] at h
   rcases foldl_seen_of2 U ys _ x h with h | ⟨z, hz, e⟩
   · unfold seenU at h
     split at h
     · exact .inl h
     rcases ma h with h | h
     · exact .inl h
     exact .inr ⟨y, .head _, (ms h).symm⟩
   exact .inr ⟨z, .tail _ hz, e⟩
theorem usOf_mem2 {U : Str → Str} {ys : List Str} {x : Str} (h : x ∈ usOf U ys) : ∃ y ∈ ys, U y = x := by
 rcases foldl_seen_of2 U ys [] x h with h | h
 · cases h
 exact h
theorem us_words {ns xs : List Int} {as : List (Str × Value)} {ys : List Str} {n0 : Int} (h0 : n0 ∈ ns) (ho : ∀ n ∈ ns, OkN n) (hnd : ns.Nodup) (hxp : xs.Perm ns) (hxw : xs.Pairwise (fun a b => ltT a b = true)) (has : (as.map (·.1)).Perm (ns.map fun n => nameS n 97))
   (hyp : ys.Perm (keysTo as (nameS n0 114) as.length)) (hyw : ys.Pairwise (fun y y' => lt2 (spl0 y) (spl1 y) (spl0 y') (spl1 y') = true)) : usOf Uq ys = xs.map fun n => wordS n.toNat := by
 have hox : ∀ n ∈ xs, OkN n := fun n hn => ho n (hxp.mem_iff.mp hn)
 have hym : ∀ y, y ∈ ys ↔ (y = nameS n0 114 ∨ ∃ n ∈ ns, y = nameS n 97) := fun y => by
   rw [hyp.mem_iff]
   unfold keysTo
   rw [List.take_length, List.mem_append, List.mem_reverse, List.mem_singleton, has.mem_iff, List.mem_map]
   constructor
   · rintro (⟨n, hn, rfl⟩ | h)
     · exact .inr ⟨n, hn, rfl⟩
     exact .inl h
   rintro (h | ⟨n, hn, rfl⟩)
   · exact .inr h
   exact .inl ⟨n, hn, rfl⟩
 have hs1 : (usOf Uq ys).Pairwise ltS := by
   refine usOf_sorted Uq ys [] .nil (fun u h => nomatch h) (hyw.imp_of_mem fun {y y'} hy hy' h => ?_)
   rcases (hym y).mp hy with rfl | ⟨n, hn, rfl⟩ <;> rcases (hym y').mp hy' with rfl | ⟨m, hm, rfl⟩ <;> exact lt2_U (by decide) (by decide) h
 have hs2 := words_sorted hox (hxp.nodup_iff.mpr hnd) (hxw.imp fun {a b} h => ltT_bf h)
 have hirr : ∀ {l : List Str}, l.Pairwise ltS → l.Nodup := fun {l} h => h.imp fun {a b} (hab : ltS a b) => show a ≠ b from fun e => ltS_irr (e ▸ hab)
 refine List.Perm.eq_of_pairwise (le := ltS) (fun a b _ _ h h' => (ltS_asymm h h').elim) hs1 hs2 ?_
 refine (List.perm_ext_iff_of_nodup (hirr hs1) (hirr hs2)).mpr fun u => ?_
 constructor
 · rintro h
   obtain ⟨y, hy, rfl⟩ := usOf_mem2 h
   rcases (hym y).mp hy with rfl | ⟨n, hn, rfl⟩
   · rw [Uq_nm _ (by decide)]; exact List.mem_map.mpr ⟨n0, hxp.mem_iff.mpr h0, rfl⟩
   rw [Uq_nm _ (by decide)]; exact List.mem_map.mpr ⟨n, hxp.mem_iff.mpr hn, rfl⟩
 rintro h
 obtain ⟨n, hn, rfl⟩ := List.mem_map.mp h
 have := mem_usOf (U := Uq) ((hym (nameS n 97)).mpr (.inr ⟨n, hxp.mem_iff.mp hn, rfl⟩))
 rw [Uq_nm _ (by decide)] at this; exact this
theorem idx_words {xs : List Int} (ho : ∀ n ∈ xs, OkN n) {n : Int} (hn : n ∈ xs) : (xs.map fun n => wordS n.toNat).idxOf (wordS n.toNat) = xs.idxOf n := by
 induction xs with
 | nil => cases hn
 | cons a r ih =>
   rw [List.map_cons, List.idxOf_cons, List.idxOf_cons]
   by_cases h : a = n
   · subst h; simp
   have hne : wordS a.toNat ≠ wordS n.toNat := fun e => h (wordS_inj (ho a (.head _)) (ho n hn) e)
   have hn' : n ∈ r := by
     rcases mc hn with e | e
     · exact absurd e.symm h
     exact e
   rw [beq_eq_false_iff_ne.mpr hne, beq_eq_false_iff_ne.mpr h]
   simp only [cond_false]
   rw [ih (fun m hm => ho m (.tail _ hm)) hn']
theorem lt2_asymm {a b c d : Str} (h : lt2 a b c d = true) (h' : lt2 c d a b = true) : False := by
 unfold lt2 at h h'
 split at h
 · rename_i e
   rw [if_pos e.symm] at h'
   exact List.lt_irrefl _ (List.lt_trans (of_decide_eq_true h) (of_decide_eq_true h'))
 rename_i e
 rw [if_neg (fun q => e q.symm)] at h'
 exact List.lt_irrefl _ (List.lt_trans (of_decide_eq_true h) (of_decide_eq_true h'))
theorem xmlns_lt : ∀ k j : Fin 10, k.1 < j.1 → ltS (Str.ofString "xmlns:" ++ nName k.1) (Str.ofString "xmlns:" ++ nName j.1) := by
 unfold ltS; decide +kernel
theorem b1_eq {ts : List NT} {b1 : List (Str × Str)} (hp : b1.Perm (ts.map fun q => (Str.ofString "xmlns:" ++ q.p, q.u))) (hw : b1.Pairwise (fun a b => lt2 a.1 a.2 b.1 b.2 = true)) (hpn : ∀ k q, ts[k]? = some q → q.p = nName k) (hl : ts.length ≤ 10) :
   b1 = ts.map fun q => (Str.ofString "xmlns:" ++ q.p, q.u) := by
 refine List.Perm.eq_of_pairwise (le := fun a b : Str × Str => lt2 a.1 a.2 b.1 b.2 = true) (fun a b _ _ h h' => (lt2_asymm h h').elim) hw ?_ hp
 rw [List.pairwise_iff_getElem]
 rintro i j hi hj hij
 rw [lM] at hi hj
 rw [List.getElem_map, List.getElem_map]
 dsimp only
 rw [hpn i _ (List.getElem?_eq_getElem hi), hpn j _ (List.getElem?_eq_getElem hj)]
 have h1 := xmlns_lt ⟨i, by omega⟩ ⟨j, by omega⟩ hij
 unfold lt2
 rw [if_neg (fun e => ltS_irr (e ▸ h1 : ltS _ _)), decide_eq_true_iff]
 exact h1
theorem ts_eq {ts : List NT} {xs : List Int} (hu : ts.map (·.u) = xs.map fun n => wordS n.toNat) (hpn : ∀ k q, ts[k]? = some q → q.p = nName k) (hnd : xs.Nodup) :
   (ts.map fun q => (Str.ofString "xmlns:" ++ q.p, q.u)) = xs.map fun n => (Str.ofString "xmlns:" ++ nName (xs.idxOf n), wordS n.toNat) := by
 have hl : ts.length = xs.length := by have := congrArg List.length hu; rw [lM, lM] at this; exact this
 refine List.ext_getElem (by rw [lM, lM, hl]) fun i h1 h2 => ?_
 rw [lM] at h1 h2
 rw [List.getElem_map, List.getElem_map, hpn i _ (List.getElem?_eq_getElem h1), hnd.idxOf_getElem i h2]
 have e : (ts.map (·.u))[i]? = (xs.map fun n => wordS n.toNat)[i]? := by rw [hu]
 rw [List.getElem?_map, List.getElem?_map, List.getElem?_eq_getElem h1, List.getElem?_eq_getElem h2] at e
 have e2 : (ts[i]).u = wordS (xs[i]).toNat := Option.some.inj e
 rw [e2]
theorem ms_eq {ms : List Str} {vf : Str → Str} {cs ns : List Int} {as : List (Str × Value)} (ho : ∀ n ∈ cs, OkN n) (hnd : cs.Nodup) (hc : cs.Pairwise clT) (hp : cs.Perm ns) (has : (as.map (·.1)).Perm (ns.map fun n => nameS n 97)) (hm : ms.Perm (as.map (·.1))) (hw : ms.Pairwise (fun a b => lt2 a (vf a) b (vf b) = true)) :
   ms = cs.map fun n => nameS n 97 := by
 have hs := names_sorted ho hnd hc
 have hpp : ms.Perm (cs.map fun n => nameS n 97) := hm.trans (has.trans (hp.map _).symm)
 have hn2 : (cs.map fun n => nameS n 97).Nodup := hs.imp fun {a b} (hab : ltS a b) => show a ≠ b from fun e => ltS_irr (e ▸ hab)
 have hn1 : ms.Nodup := hpp.nodup_iff.mpr hn2
 have hs1 : ms.Pairwise ltS := (hw.and hn1).imp fun {a b} h => by
   have h1 := h.1
   unfold lt2 at h1
   rw [if_neg h.2] at h1
   have h2 : decide (a.cps.toList < b.cps.toList) = true := h1
   have h3 := of_decide_eq_true h2
   exact h3
 exact List.Perm.eq_of_pairwise (le := ltS) (fun a b _ _ h h' => (ltS_asymm h h').elim) hs1 hs hpp
theorem row1_eq (p : Str) (m : Nat) : rowS (Str.ofString "xmlns:" ++ p, wordS m) = Str.ofString " xmlns:" ++ p ++ Str.ofString "=\"" ++ wordS m ++ Str.ofString "\"" := by
 refine str_ext ?_
 unfold rowS
 dsimp only
 rw [escAttr_word]
 simp only [list_append]
 have e1 : (Str.ofString " xmlns:").cps.toList = (Str.ofString " ").cps.toList ++ (Str.ofString "xmlns:").cps.toList := by decide +kernel
 have e0 : (Str.empty).cps.toList = [] := rfl
 rw [e1, e0]
 simp
theorem row2_eq (p : Str) (n : Int) : rowS (Str.empty ++ p ++ Str.ofString ":" ++ ⟨#[97]⟩, signs n) = Str.ofString " " ++ p ++ Str.ofString ":a=\"" ++ valS n ++ Str.ofString "\"" := by
 refine str_ext ?_
 unfold rowS
 dsimp only
 rw [escAttr_signs]
 simp only [list_append]
 have e1 : (Str.ofString ":a=\"").cps.toList = (Str.ofString ":").cps.toList ++ ([97] ++ (Str.ofString "=\"").cps.toList) := by decide +kernel
 have e0 : (Str.empty).cps.toList = [] := rfl
 rw [e1, e0]
 simp
noncomputable def flushW (o : Option Int) : List Str := o.elim [] fun m => [escText (signs m)]
def tagW (lab : Int → Str) (n : Int) : Str := Str.empty ++ lab n ++ Str.ofString ":" ++ ⟨#[101]⟩
noncomputable def stepW (lab : Int → Str) (s : List Str × Option Int) (e : Bool × Int) : List Str × Option Int :=
 if e.1 = true then (s.1 ++ flushW s.2 ++ [Str.ofString "<" ++ tagW lab e.2, Str.ofString ">"], some e.2)
 else (s.1 ++ flushW s.2 ++ [Str.empty ++ Str.ofString "</" ++ tagW lab e.2 ++ Str.ofString ">"], none)
def flatS (l : List Str) : List Nat := (l.map fun y => y.cps.toList).flatten
theorem flatS_app (a b : List Str) : flatS (a ++ b) = flatS a ++ flatS b := by unfold flatS; rw [List.map_append, List.flatten_append]
theorem flatS_cons (a : Str) (b : List Str) : flatS (a :: b) = a.cps.toList ++ flatS b := rfl
theorem flatS_nil : flatS [] = [] := rfl
noncomputable def row3 (lab : Int → Str) (q : Bool × Int) : Str := if q.1 = true then Str.ofString "<" ++ lab q.2 ++ Str.ofString ":e>" ++ txtS q.2 else Str.ofString "</" ++ lab q.2 ++ Str.ofString ":e>"
theorem fold_flat (lab : Int → Str) : ∀ (T : List (Bool × Int)) (s : List Str × Option Int), flatS ((T.foldl (stepW lab) s).1 ++ flushW (T.foldl (stepW lab) s).2) = flatS (s.1 ++ flushW s.2) ++ flatS (T.map (row3 lab))
 | [], s => by rw [List.foldl_nil, List.map_nil, flatS_nil, List.append_nil]
 | e :: T, s => by
   rw [List.foldl_cons, fold_flat lab T, List.map_cons, flatS_cons, ← List.append_assoc]
   congr 1
   have e1 : (Str.ofString ":e>").cps.toList = (Str.ofString ":").cps.toList ++ ([101] ++ (Str.ofString ">").cps.toList) := by decide +kernel
   have e0 : (Str.empty).cps.toList = [] := rfl
   obtain ⟨b, n⟩ := e
   cases b
   · unfold stepW row3 tagW
     rw [if_neg (show ¬ (false, n).1 = true from Bool.false_ne_true), if_neg (show ¬ (false, n).1 = true from Bool.false_ne_true)]
     show flatS (s.1 ++ flushW s.2 ++ [_] ++ flushW none) = _
     have : flushW none = [] := rfl
     rw [this, List.append_nil, flatS_app, flatS_cons, flatS_nil, List.append_nil]
     simp only [list_append]
     rw [e1, e0]
     simp
   unfold stepW row3 tagW
   rw [if_pos rfl, if_pos rfl]
   show flatS (s.1 ++ flushW s.2 ++ [_, _] ++ flushW (some n)) = _
   have : flushW (some n) = [txtS n] := by unfold flushW; rw [← escText_signs]; rfl
   rw [this, flatS_app, flatS_app (s.1 ++ flushW s.2), flatS_cons, flatS_cons, flatS_cons, flatS_nil]
   simp only [list_append]
   rw [e1, e0]
   simp
theorem join_flat (l : List Str) : (Txt.join (Str.ofString "") l).cps.toList = flatS l := join_list l
theorem written {T : List (Bool × Int)} {n0 : Int} {rows : List Str} (hrows : rows = ((opensT T).map fun n => Str.ofString " xmlns:" ++ labT T n ++ Str.ofString "=\"" ++ wordS n.toNat ++ Str.ofString "\"") ++ (closesT T).map fun n => Str.ofString " " ++ labT T n ++ Str.ofString ":a=\"" ++ valS n ++ Str.ofString "\"") :
   Txt.join (Str.ofString "") ((T.foldl (stepW (labT T)) ([Str.ofString "<" ++ (Str.empty ++ labT T n0 ++ Str.ofString ":" ++ ⟨#[114]⟩), Txt.join (Str.ofString "") rows, Str.ofString ">"], none)).1 ++ flushW (T.foldl (stepW (labT T)) ([Str.ofString "<" ++ (Str.empty ++ labT T n0 ++ Str.ofString ":" ++ ⟨#[114]⟩), Txt.join (Str.ofString "") rows, Str.ofString ">"], none)).2 ++ [Str.empty ++ Str.ofString "</" ++ (Str.empty ++ labT T n0 ++ Str.ofString ":" ++ ⟨#[114]⟩) ++ Str.ofString ">"]) = Txt.join (Str.ofString "") (pgL T n0) := by
 refine str_ext ?_
 rw [join_flat, join_flat, flatS_app, fold_flat]
 have e1 : (Str.ofString ":r").cps.toList = (Str.ofString ":").cps.toList ++ [114] := by decide +kernel
 have e2 : (Str.ofString ":r>").cps.toList = (Str.ofString ":").cps.toList ++ ([114] ++ (Str.ofString ">").cps.toList) := by decide +kernel
 have e0 : (Str.empty).cps.toList = [] := rfl
 have ef : flushW none = [] := rfl
 unfold pgL pg3 pg2 pg1
 rw [List.take_length, List.take_length]
 show flatS ([_, _, _] ++ flushW none) ++ flatS (T.map (row3 (labT T))) ++ flatS [_] = flatS (((_ :: _ ++ _) ++ [_]) ++ T.map (row3 (labT T)) ++ [_])
 rw [ef, List.append_nil]
 simp only [flatS_app, flatS_cons, flatS_nil, List.append_nil]
 rw [join_flat, hrows, flatS_app]
 simp only [list_append]
 rw [e1, e2, e0]
 simp
noncomputable def vfN (ns : List Int) (y : Str) : Str := ((ns.find? fun n => decide (nameS n 97 = y)).map signs).getD Str.empty
theorem vfN_nm {ns : List Int} (ho : ∀ n ∈ ns, OkN n) {n : Int} (hn : n ∈ ns) : vfN ns (nameS n 97) = signs n := by
 unfold vfN
 cases e : ns.find? fun m => decide (nameS m 97 = nameS n 97) with
 | none =>
   have := List.find?_eq_none.mp e n hn
   simp at this
 | some m =>
   have h1 := List.find?_some e
   have h2 := List.mem_of_find?_eq_some e
   have h3 := nameS_inj (ho m h2) (ho n hn) (of_decide_eq_true h1)
   rw [h3]; rfl
theorem app_congr {α : Type} {a b c d : List α} (h : a = c) (h' : b = d) : a ++ b = c ++ d := by rw [h, h']
theorem root_rows {ns xs : List Int} {as : List (Str × Value)} {ys ms : List Str} {b1 : List (Str × Str)} {ts : List NT} {n0 : Int} (h0 : n0 ∈ ns) (ho : ∀ n ∈ ns, OkN n) (hnd : ns.Nodup) (h8 : ns.length ≤ 10) (hxp : xs.Perm ns) (hxw : xs.Pairwise (fun a b => ltT a b = true)) (has : (as.map (·.1)).Perm (ns.map fun n => nameS n 97))
   (hyp : ys.Perm (keysTo as (nameS n0 114) as.length)) (hyw : ys.Pairwise (fun y y' => lt2 (spl0 y) (spl1 y) (spl0 y') (spl1 y') = true))
   (hb1 : b1.Perm (ts.map fun q => (Str.ofString "xmlns:" ++ q.p, q.u))) (hb1w : b1.Pairwise (fun a b => lt2 a.1 a.2 b.1 b.2 = true)) (hms : ms.Perm (as.map (·.1))) (hmw : ms.Pairwise (fun a b => lt2 a (vfN ns a) b (vfN ns b) = true))
   (hu : ts.map (·.u) = usOf Uq ys) (hpn : ∀ k q, ts[k]? = some q → q.p = nName k) :
   (usOf Uq ys = xs.map fun n => wordS n.toNat) ∧ (∀ n ∈ ns, ∀ c, c ≠ 125 → nName ((usOf Uq ys).idxOf (Uq (nameS n c))) = labT (tourGo xs []) n) ∧
   ((b1 ++ ms.map fun y => (Str.empty ++ nName ((usOf Uq ys).idxOf (Uq y)) ++ Str.ofString ":" ++ Tq y, vfN ns y)).map rowS) =
     ((opensT (tourGo xs [])).map fun n => Str.ofString " xmlns:" ++ labT (tourGo xs []) n ++ Str.ofString "=\"" ++ wordS n.toNat ++ Str.ofString "\"") ++ (closesT (tourGo xs [])).map fun n => Str.ofString " " ++ labT (tourGo xs []) n ++ Str.ofString ":a=\"" ++ valS n ++ Str.ofString "\"" := by
 have hus := us_words h0 ho hnd hxp hxw has hyp hyw
 have hox : ∀ n ∈ xs, OkN n := fun n hn => ho n (hxp.mem_iff.mp hn)
 have hxn : xs.Nodup := hxp.nodup_iff.mpr hnd
 have hop := tour_opens xs []
 obtain ⟨hcp, hcw⟩ := tour_closes xs [] (fun n h => nomatch h) hox .nil (hxw.imp fun {a b} h => ltT_bf h) (by simpa using hxn) (fun t h => nomatch h)
 rw [List.nil_append] at hcp
 have hlab : ∀ n ∈ ns, ∀ c, c ≠ 125 → nName ((usOf Uq ys).idxOf (Uq (nameS n c))) = labT (tourGo xs []) n := fun n hn c hc => by
   unfold labT
   rw [hus, Uq_nm n hc, idx_words hox (hxp.mem_iff.mpr hn), hop]
 refine ⟨hus, hlab, ?_⟩
 have hco : ∀ n ∈ closesT (tourGo xs []), OkN n := fun n hn => hox n (hcp.mem_iff.mp hn)
 have hcn : (closesT (tourGo xs [])).Nodup := hcp.nodup_iff.mpr hxn
 have hms2 := ms_eq hco hcn hcw (hcp.trans hxp) has hms hmw
 have hb2 := b1_eq hb1 hb1w hpn (by
   have := congrArg List.length hu
   rw [hus, lM, lM, hxp.length_eq] at this; omega)
 have hts := ts_eq (xs := xs) (hu.trans hus) hpn hxn
 rw [List.map_append, hb2, hts, hms2, hop, List.map_map, List.map_map, List.map_map]
 refine app_congr ?_ ?_
 · refine List.map_congr_left fun n hn => ?_
   simp only [Function.comp]
   rw [row1_eq]
   unfold labT
   rw [hop]
 refine List.map_congr_left fun n hn => ?_
 simp only [Function.comp]
 have hnn := (hcp.trans hxp).mem_iff.mp hn
 rw [hlab n hnn 97 (by decide), vfN_nm ho hnn]
 have : Tq (nameS n 97) = ⟨#[97]⟩ := spl1_nm n (by decide)
 rw [this, row2_eq]
def balT : Nat → List (Bool × Int) → Prop
 | _, [] => True
 | d, (true, _) :: T => balT (d + 1) T
 | 0, (false, _) :: _ => False
 | d + 1, (false, _) :: T => balT d T
theorem bal_pop {s : Int} (r : List (Bool × Int)) : ∀ (st : List Int), balT (keepT s st).length r → balT st.length (popT s st ++ r)
 | [], h => h
 | a :: t, h => by
   unfold popT
   unfold keepT at h
   split
   · rename_i hle
     rw [if_pos hle] at h
     exact bal_pop r t h
   rename_i hle
   rw [if_neg hle] at h
   exact h
theorem bal_tour : ∀ (xs st : List Int), balT st.length (tourGo xs st)
 | [], st => by
   unfold tourGo
   induction st with
   | nil => trivial
   | cons a r ih => exact ih
 | x :: xs, st => by
   unfold tourGo
   exact bal_pop _ _ (bal_tour xs (x :: keepT (sT x) st))
theorem tour_len : ∀ (xs st : List Int), (tourGo xs st).length = 2 * xs.length + st.length
 | [], st => by unfold tourGo; rw [lM]; simp
 | x :: xs, st => by
   have h : ∀ st : List Int, (popT (sT x) st).length + (keepT (sT x) st).length = st.length := by
     rintro st
     induction st with
     | nil => rfl
     | cons a r ih =>
       unfold popT keepT
       split
       · simp only [List.length_cons]; omega
       simp
   unfold tourGo
   rw [lA, List.length_cons, tour_len xs, List.length_cons, List.length_cons]
   have := h st
   omega
theorem tour_mem {xs : List Int} {q : Bool × Int} (ho : ∀ n ∈ xs, OkN n) (hnd : xs.Nodup) (hxw : xs.Pairwise bfT) (h : q ∈ tourGo xs []) : q.2 ∈ xs := by
 obtain ⟨hcp, _⟩ := tour_closes xs [] (fun n h => nomatch h) ho .nil hxw (by simpa using hnd) (fun t h => nomatch h)
 have hop := tour_opens xs []
 obtain ⟨b, n⟩ := q
 cases b
 · have : n ∈ closesT (tourGo xs []) := by unfold closesT; exact List.mem_map.mpr ⟨(false, n), List.mem_filter.mpr ⟨h, rfl⟩, rfl⟩
   have := hcp.mem_iff.mp this
   simpa using this
 have : n ∈ opensT (tourGo xs []) := by unfold opensT; exact List.mem_map.mpr ⟨(true, n), List.mem_filter.mpr ⟨h, rfl⟩, rfl⟩
 rw [hop] at this; exact this
section
open PySem.Builtin PySem.Calls
theorem road_ascii {id : String} {b : Array UInt8} : _codecs.decodeRoad id b (Str.ofString "ascii") none [] = (_codecs.runDecoder id _codecs.asciiDecoder none true b 0 [] >>= fun r => mkStr ⟨r.1⟩) := by kernel_rfl
theorem entry_ascii {c : UInt8} {cs : List UInt8} {t u : Tok} : «bytes.decode» ⟨[.bytes (c :: cs).toArray t, .str (Str.ofString "ascii") u], []⟩ = (mkStr (Str.ofString "utf-8") >>= fun _ => mkStr (Str.ofString "ascii") >>= fun e => mkStr (Str.ofString "bytes.decode") >>= fun d =>
   call (.builtin "_codecs.decode.text") [.bytes (c :: cs).toArray t, e, .none, d] >>= fun v => ret v) := by kernel_rfl
theorem sem_pure_bind {α β : Type} (x : α) (k : α → Sem β) : ((pure x : Sem α) >>= k) = k x := pure_bind x k
def codesB (b : Array UInt8) : List Nat := b.toList.map (·.toNat)
theorem loop_ascii {σ : Type} {b : Array UInt8} {st : σ} (body : Nat → (Nat × Array Nat × σ) → Sem (ForInStep (Nat × Array Nat × σ))) (hb : ∀ x p (out : Array Nat), p < b.size → out.size ≤ p → body x (p, out, st) = pure (.yield (p + 1, out ++ [(b.getD p 0).toNat].toArray, st))) :
   ∀ (l : List Nat) (p : Nat) (out : Array Nat), l.length + p = b.size → out.toList = (codesB b).take p → forIn l (p, out, st) body = pure (b.size, (codesB b).toArray, st) := by
 rintro l
 induction l with
 | nil =>
   rintro p out hp ho
   have hp' : p = b.size := by simpa using hp
   rw [List.forIn_nil, hp']
   have : out = (codesB b).toArray := by
     apply Array.toList_inj.mp
     rw [ho, hp', List.take_of_length_le (by unfold codesB; rw [lM, Array.length_toList]; exact Nat.le_refl _)]
   rw [this]
 | cons a l ih =>
   rintro p out hp ho
   have hp' : p < b.size := by simp only [List.length_cons] at hp; omega
   have hs : out.size ≤ p := by rw [← Array.length_toList, ho, List.length_take]; omega
   rw [List.forIn_cons, hb a p out hp' hs, sem_pure_bind]
   refine ih (p + 1) _ (by simp only [List.length_cons] at hp; omega) ?_
   have e : (codesB b)[p]? = some (b.getD p 0).toNat := by
     unfold codesB
     rw [List.getElem?_map, Array.getElem?_toList, Array.getElem?_eq_getElem hp']
     simp [Array.getD, hp']
   rw [List.take_add_one, e, Array.toList_append, ho]; rfl
theorem run_ascii {id : String} {b : Array UInt8} (h : ∀ c ∈ b.toList, c.toNat < 128) (hs : b.size ≤ sizeLine) : _codecs.runDecoder id _codecs.asciiDecoder none true b 0 [] = pure ((codesB b).toArray, b.size) := by
 unfold _codecs.runDecoder
 simp only [Std.Legacy.Range.forIn_eq_forIn_range']
 rw [loop_ascii (b := b) _ (fun x p out hp hq => ?_) _ 0 #[] (by simp) (by simp)]
 · exact sem_pure_bind _ _
 dsimp only
 rw [if_neg (by omega), if_neg (by omega)]
 have hc : (b.getD p 0).toNat < 128 := h _ (by simp [Array.getD, hp])
 have e : _codecs.asciiDecoder.find true b p = .text [(b.getD p 0).toNat] (p + 1) := by
   show (if (b.getD p 0).toNat < 128 then _ else _) = _
   rw [if_pos hc]; rfl
 rw [e]
theorem meets_ascii {b : Array UInt8} {t t1 t2 : Tok} {d : Str} (h : ∀ c ∈ b.toList, c.toNat < 128) (hs : b.size ≤ sizeLine) :
   Meets («_codecs.decode.text» ⟨[.bytes b t, .str (Str.ofString "ascii") t1, .none, .str d t2], []⟩) (fun _ R s => R (.ok (.ret (.str ⟨(codesB b).toArray⟩ s.toks))) { s with toks := s.toks + 1 }) := by
 refine .of_wp fun prog w A R s hS => ?_
 show wpAny _ _ (Bytes.bytesLike _ (.bytes b t) >>= fun r => _) _ _ s
 refine wpAny_bind (wpAny_of_eq PySem.W.KBd.like_eq ?_)
 refine wpAny_bind (wpAny_of_eq PySem.W.KBd.held_eq ?_)
 show wpAny _ _ (_codecs.decodeRoad _ b (Str.ofString "ascii") none [] >>= fun v => _) _ _ s
 rw [road_ascii, run_ascii h hs]
 refine wpAny_bind (wpAny_bind (wpAny_pure ?_))
 refine wpAny_mkStr (wpAny_pure ⟨_, rfl, hS⟩) ?_
 show (codesB b).toArray.size ≤ sizeLine
 unfold codesB
 rw [List.size_toArray, lM, Array.length_toList]; exact hs
theorem meets_decA {c : UInt8} {cs : List UInt8} {t u : Tok} (h : ∀ x ∈ c :: cs, x.toNat < 128) (hs : (c :: cs).length ≤ sizeLine) :
   Meets («bytes.decode» ⟨[.bytes (c :: cs).toArray t, .str (Str.ofString "ascii") u], []⟩) (fun _ R s => ∀ t' k, R (.ok (.ret (.str ⟨((c :: cs).map (·.toNat)).toArray⟩ t'))) { s with toks := k }) := by
 refine .of_wp fun prog w A R s hS => ?_
 rw [entry_ascii]
 refine wpAny_bind (wpAny_mkStr ?_ (by decide))
 refine wpAny_bind (wpAny_mkStr ?_ (by decide))
 refine wpAny_bind (wpAny_mkStr ?_ (by decide))
 exact wpAny_bind (call_function_meets PySem.W.KBd.kind_text PySem.W.KBd.plain_text PySem.W.KBd.entry_text (PySem.W.KBd.args_text _ _ _ _) (meets_ascii (b := (c :: cs).toArray) (by simpa using h) (by rw [List.size_toArray]; exact hs)) (wpAny_pure ⟨_, rfl, hS _ _⟩))
theorem args_dec2 (a b : Value) : argsOk "bytes.decode" ⟨[a, b], []⟩ := by
 unfold argsOk; rw [PySem.signature?_of (id := "bytes.decode") (n := ['e', 'd', 'o', 'c', 'e', 'd']) (o := ['s', 'e', 't', 'y', 'b']) (by kernel_rfl) FB.owner_bytes]; kernel_rfl
theorem decode_ascii {prog : Program} {w : World} {A : Around} {E : Value → Shared → Prop} {s : Shared} {Q : Value → Shared → Prop} {b : Array UInt8} {t u : Tok} {n : Nat} (hb : PySem.W.KBw.bInts b = wordI n) (hn : n ≠ 0) (hlt : n < 16 ^ 14) (h : ∀ t' k, Q (.str (wordS n) t') { s with toks := k }) :
   wpAny (model prog w) A (call (.builtin "bytes.decode") [.bytes b t, .str (Str.ofString "ascii") u]) Q E s := by
 have hl : (b.toList.map fun c => c.toNat) = wordL n := by
   have h1 : (b.toList.map fun c => (c.toNat : Int)) = (wordL n).map fun x : Nat => (x : Int) := hb
   have h2 := congrArg (List.map Int.toNat) h1
   rw [List.map_map, List.map_map] at h2
   have e1 : (Int.toNat ∘ fun c : UInt8 => (c.toNat : Int)) = fun c => c.toNat := by funext c; simp
   have e2 : (Int.toNat ∘ fun x : Nat => (x : Int)) = _root_.id := by funext c; simp
   rw [e1, e2, List.map_id] at h2
   exact h2
 obtain ⟨l, rfl⟩ : ∃ l : List UInt8, b = l.toArray := ⟨b.toList, by simp⟩
 match l, hl with
 | [], hl => rw [wordL_pos hn] at hl; simp at hl
 | c :: cs, hl =>
   have hl' : (c :: cs).map (fun c => c.toNat) = wordL n := by simpa using hl
   have hlt' : ∀ x ∈ c :: cs, x.toNat < 128 := fun x hx => by
     have : x.toNat ∈ wordL n := by rw [← hl']; exact List.mem_map_of_mem hx
     have := wordL_letters n _ this; omega
   have hlen : (c :: cs).length ≤ sizeLine := by
     have e := congrArg List.length hl'
     rw [lM] at e
     rw [e]; exact Nat.le_trans (wordL_len 14 n hlt) (by decide)
   refine call_meets FB.slot_bytes_decode (typeIs_bytes _ _ _) FB.entry_bytes_decode ?_ (meets_decA hlt' hlen) fun t' k => ?_
   · exact args_dec2 _ _
   rw [hl']; exact h t' k
end
section
open PySem.Calls
variable {prog : Program} {w : World} {A : Around} {E : Value → Shared → Prop} {s : Shared} {h₀ : Heap} {L : Addr} {m : Str → Option Value} {env : Env} {news : Led} {target : Expr}
inductive FEndD {σ : Type} (h₀ : Heap) (L : Addr) (ps : σ → List (Str × Value)) (Led' : σ → Led) (Ok : Nat → σ → Prop) (i : Nat) (wr : List Addr) (own : Led) (s₁ s₂ : Shared) : Prop
 | mk (c' : σ) (h' : Heap) (tk' : Nat) (dr' : Drawn) (m' : Str → Option Value) (news' : Led) (x0 : s₂ = { s₁ with heap := h', toks := tk', drawn := dr' }) (x1 : Fr h₀ L h' m') (x2 : News h₀ L h' news') (x3 : (∀ p ∈ Led' c', p ∈ news')) (x4 : (∀ p ∈ own, p ∈ news')) (x5 : OwnOff (Led' c') wr) (x6 : (∀ p ∈ ps c', m' p.1 = some p.2)) (x7 : Ok (i + 1) c') : FEndD h₀ L ps Led' Ok i wr own s₁ s₂
theorem FEndD.intro {σ : Type} {ps : σ → List (Str × Value)} {Led' : σ → Led} {Ok : Nat → σ → Prop} {i : Nat} {wr : List Addr} {own : Led} {s₁ : Shared} {h' : Heap} {tk' : Nat} {dr' : Drawn} {m' : Str → Option Value} {news' : Led} (c' : σ)
   (F : Fr h₀ L h' m') (N : News h₀ L h' news') (hl : ∀ p ∈ Led' c', p ∈ news') (ho : ∀ p ∈ own, p ∈ news') (off : OwnOff (Led' c') wr) (hm : ∀ p ∈ ps c', m' p.1 = some p.2) (ok : Ok (i + 1) c') :
   FEndD h₀ L ps Led' Ok i wr own s₁ { s₁ with heap := h', toks := tk', drawn := dr' } := ⟨c', h', tk', dr', m', news', rfl, F, N, hl, ho, off, hm, ok⟩
def FPostD {σ : Type} (h₀ : Heap) (L : Addr) (ps : σ → List (Str × Value)) (Led' : σ → Led) (Ok : Nat → σ → Prop) (i : Nat) (wr : List Addr) (own : Led) (s₁ : Shared) (Q : Flow → Shared → Prop) (f : Flow) (s₂ : Shared) : Prop :=
 match f with
 | .ret v => Q (.ret v) s₂
 | .brk => Q .next s₂
 | _ => FEndD h₀ L ps Led' Ok i wr own s₁ s₂
inductive ForSrcD {σ : Type} (prog : Program) (w : World) (A : Around) (h₀ : Heap) (env : Env) (target : Expr) (body : List Stmt) (Q : Flow → Shared → Prop) (ps : σ → List (Str × Value)) (Led' : σ → Led) (Ok : Nat → σ → Prop) (it : Value) (s₂ : Shared) : Prop
 | mk (m : Str → Option Value) (news : Led) (n : Nat) (P : Nat → Value → Heap → Prop) (I : Addr) (fp wr : List Addr) (Md : Nat → Value → Heap → Prop) (St : Nat → Heap → Prop) (c₀ : σ) (x0 : Source prog w A target h₀ env.locals m news n P it s₂ I fp wr Md St) (x1 : (∀ p ∈ Led' c₀, p ∈ news)) (x2 : (∀ p ∈ ps c₀, m p.1 = some p.2)) (x3 : Ok 0 c₀) (x4 : (∀ i v c u h tk dr own, s₂.toks ≤ tk → i < n → P i v h → Ok i c → OwnOff (Led' c) wr → (∀ b ∈ wr, ∃ o, (b, o) ∈ own) → (∀ p ∈ own, p.1 ∈ fp) → Fr h₀ env.locals h (fm (ps c) u) → News h₀ env.locals h (Led' c ++ own) →
     wpAny (model prog w) A (assign target env v) (fun _ s₃ => wpAny (model prog w) A (execs body env) (FPostD h₀ env.locals ps Led' Ok i wr own { s₂ with heap := h, toks := tk, drawn := dr } Q) (fun _ _ => False) s₃) (fun _ _ => False) { s₂ with heap := h, toks := tk, drawn := dr })) (x5 : ∀ c u h tk dr, s₂.toks ≤ tk → Ok n c → Fr h₀ env.locals h (fm (ps c) u) → News h₀ env.locals h (Led' c) → Q .next { s₂ with heap := h, toks := tk, drawn := dr }) : ForSrcD prog w A h₀ env target body Q ps Led' Ok it s₂
theorem ForSrcD.toG {σ : Type} {body : List Stmt} {Q : Flow → Shared → Prop} {ps : σ → List (Str × Value)} {Led' : σ → Led} {Ok : Nat → σ → Prop} {it : Value} {s₂ : Shared} (h : ForSrcD prog w A h₀ env target body Q ps Led' Ok it s₂) : ForSrcG (fun _ => True) prog w A h₀ env target body Q ps Led' Ok it s₂ := by
 obtain ⟨m₀, news, n, P, I, fp, wr, Md, St, c₀, S, hl, hm, ok, turn, done⟩ := h
 refine ⟨m₀, news, n, P, I, fp, wr, Md, St, c₀, S, hl, hm, ok, trivial, ?_, fun c u h tk dr _ => done c u h tk dr⟩
 rintro i v c u h tk dr own - h1 h2 h3 h4 h5 h6 h7 F N
 refine wpAny_mono (turn i v c u h tk dr own h1 h2 h3 h4 h5 h6 h7 F N) (fun _ s₃ q => wpAny_mono q (fun f s₄ q => ?_) fun _ _ e => e) fun _ _ e => e
 have fin : FEndD h₀ env.locals ps Led' Ok i wr own { s₂ with heap := h, toks := tk, drawn := dr } s₄ → FEndG (fun _ => True) h₀ env.locals ps Led' Ok i wr own { s₂ with heap := h, toks := tk, drawn := dr } s₄ := by
   rintro ⟨c', h', tk', dr', m', news', e, r1, r2, r3, r4, r5, r6, r7⟩
   exact ⟨c', h', tk', dr', m', news', trivial, e, r1, r2, r3, r4, r5, r6, r7⟩
 cases f with
 | ret v => exact q
 | brk => exact q
 | next => exact fin q
 | cont => exact fin q
theorem for_invD {σ : Type} {iter : Expr} {body : List Stmt} {pos : Pos} {Q : Flow → Shared → Prop} (ps : σ → List (Str × Value)) (Led' : σ → Led) (Ok : Nat → σ → Prop) (F : Fr h₀ env.locals s.heap m)
   (h : wpAny (model prog w) A (eval iter env) (fun xv s₁ => wpAny (model prog w) A (pyIter xv) (ForSrcD prog w A h₀ env target body Q ps Led' Ok) (fun _ _ => False) s₁) (fun _ _ => False) s)
   (hs : ∀ x, foldedSetIterable iter env x = pure x) :
   wpAny (model prog w) A (exec (.For target iter body [] pos) env) Q (fun _ _ => False) s :=
 for_invG F (wpAny_mono h (fun _ _ h₁ => wpAny_mono h₁ (fun _ _ h₂ => ⟨_, ps, Led', Ok, h₂.toG⟩) fun _ _ e => e) fun _ _ e => e) hs
end
theorem CtrD0.mono {w : World} {f : Addr} {d u : Nat} {news : Led} {vs : List Value} {P P' : Value → Led → Prop} (c : CtrD0 w f d u news vs P) (h : ∀ v l, P v l → P' v l) : CtrD0 w f d u news vs P' :=
 fun p loose mean mg mb dp un gd cn cs a ccd cl outer A₀ base h₀ L m s Q E S k => c p loose mean mg mb dp un gd cn cs a ccd cl outer A₀ base h₀ L m s Q E S fun v n' h' tk' dr' hp => k v n' h' tk' dr' (h v n' hp)
theorem Ctr.monoP {w : World} {f : Addr} {d u : Nat} {news : Led} {vs : List Value} {P P' : Value → Led → Prop} (c : Ctr w f d u news vs P) (h : ∀ v l, P v l → P' v l) : Ctr w f d u news vs P' :=
 fun p loose mean mg mb dp un gd cn cs a ccd cl outer A₀ base h₀ L m s Q E S k => c p loose mean mg mb dp un gd cn cs a ccd cl outer A₀ base h₀ L m s Q E S fun v n' h' tk' hp => k v n' h' tk' (h v n' hp)
noncomputable def DatIs (S : WL) : Option Int → Prop
 | none => S.dat = #[]
 | some n => ∃ t, S.dat = #[.str (signs n) t]
noncomputable abbrev lv0 (A : WA) (ts : List NT) (dl : Addr) (xk : Nat) (lvls : List Addr) : List (Addr × Array Value × Nat) := [(A.d0, #[.ref A.t0], 0), (dl, refsN ts, xk)] ++ lvls.map fun a => (a, #[], 0)
structure LOk (A : WA) (κ : WT) (S : WL) (R : Led) (ts : List NT) (dl : Addr) (xk : Nat) (lvls : List Addr) (wrs : List Str) (pend : Option Int) : Prop where
 seen : κ.seen = true
 ord : A.Ord R
 V : NSt (nsB A κ R) S.lv (lv0 A ts dl xk lvls) (ts ++ [xmlNT A κ])
 pcs : StrsAre S.pcs.toList wrs
 dat : DatIs S pend
 pv : S.pv = pvs (1 + lvls.length)
 nss : S.nss.size = 2 + lvls.length
theorem nsB_mono {A : WA} {κ κ' : WT} {R R' : Led} (hu : κ'.u = κ.u) (hv : κ'.v = κ.v) (h : ∀ p ∈ R, p ∈ R') : ∀ p ∈ nsB A κ R, p ∈ nsB A κ' R' := fun p hp => by
 unfold nsB at hp ⊢
 rw [hu, hv]
 rcases mc hp with rfl | hp
 · exact .head _
 rcases mc hp with rfl | hp
 · exact .tail _ (.head _)
 exact .tail _ (.tail _ (h p hp))
theorem LOk.more {A : WA} {κ : WT} {S : WL} {R R' : Led} {ts : List NT} {dl : Addr} {xk : Nat} {lvls : List Addr} {wrs : List Str} {pend : Option Int} (X : LOk A κ S R ts dl xk lvls wrs pend) (h : ∀ p ∈ R, p ∈ R') (O : A.Ord R') : LOk A κ S R' ts dl xk lvls wrs pend :=
 ⟨X.seen, O, X.V.more (nsB_mono rfl rfl h), X.pcs, X.dat, X.pv, X.nss⟩
theorem LOk.size {A : WA} {κ : WT} {S : WL} {R : Led} {ts : List NT} {dl : Addr} {xk : Nat} {lvls : List Addr} {wrs : List Str} {pend : Option Int} (X : LOk A κ S R ts dl xk lvls wrs pend) : S.pcs.size = wrs.length := by
 have := X.pcs.length; rw [Array.length_toList] at this; exact this
theorem strs_push {a : Array Value} {ys : List Str} {y : Str} {t : Tok} (h : StrsAre a.toList ys) : StrsAre (a.push (.str y t)).toList (ys ++ [y]) := by
 rw [Array.toList_push]; exact strsAre_snoc h
theorem LOk.flushed {A : WA} {κ : WT} {S : WL} {R : Led} {ts : List NT} {dl : Addr} {xk : Nat} {lvls : List Addr} {wrs : List Str} {pend : Option Int} (X : LOk A κ S R ts dl xk lvls wrs pend) {pcs1 : Array Value} {np1 : Nat} (h : FlR S.dat S.pcs S.np pcs1 np1) : StrsAre pcs1.toList (wrs ++ flushW pend) := by
 have hd := X.dat
 cases pend with
 | none =>
   have hd : S.dat = #[] := hd
   rw [hd] at h
   rw [h.nil.1]
   show StrsAre _ (wrs ++ [])
   rw [List.append_nil]; exact X.pcs
 | some m =>
   obtain ⟨tm, hd⟩ := hd
   rw [hd] at h
   obtain ⟨tw, h1, _⟩ := h.one
   rw [h1]
   exact strs_push X.pcs
theorem word_xml {n : Int} (h : OkN n) : wordS n.toNat ≠ xmlUri := fun e => by
 have h1 := wordS_len h.1 h.2
 rw [e] at h1
 exact absurd h1 (by decide +kernel)
theorem open_ev {w : World} {d u : Nat} {A : WA} {κ : WT} {S : WL} {R : Led} {ts : List NT} {dl : Addr} {xk : Nat} {lvls : List Addr} {wrs : List Str} {pend : Option Int} (hd : 30 ≤ d) (hu : 80 ≤ u) {at' c' : Addr} {oa oc : Obj} {fv : Array Value} {tq : Tok} {R' : Led}
   (hR : R = (at', oa) :: (123, lamTab c') :: (c', oc) :: R') (hoa : oa.IsDictOf (strKind rw_pg0305_01.row.prog w) []) (has : (at' == sysModules) = false) (hoc : oc.data = .fields fv) (hfv : fv[1]? = some (.str (Str.ofString "C14NWriterTarget._start.<locals>.<lambda>") tq))
   (X : LOk A κ S R ts dl xk lvls wrs pend) (hl : lvls.length ≤ 80) (hs : wrs.length ≤ 800) {n : Int} (hn : OkN n) (hin : ∃ q ∈ ts, q.u = wordS n.toNat) {lab : Int → Str} (hlab : ∀ q ∈ ts, q.u = wordS n.toNat → q.p = lab n) (t : Tok) :
   CtrD0 w 120 d u (wLed w A κ S R) [.ref A.x, .str (nameS n 101) t, .ref at'] (fun v l => v = .none ∧ ∃ κ' S' dl2, l = wLed w A κ' S' ((dl2, listOf #[] 0) :: R) ∧ LOk A κ' S' ((dl2, listOf #[] 0) :: R) ts dl xk (lvls ++ [dl2]) (wrs ++ flushW pend ++ [Str.ofString "<" ++ tagW lab n, Str.ofString ">"]) none ∧ (∀ p ∈ R, @LT.lt Nat _ p.1 dl2) ∧ κ'.u = κ.u ∧ κ'.v = κ.v) := by
 have hlv : (lv0 A ts dl xk lvls).length ≤ 90 := by
   rw [lA, lM]; simp only [List.length_cons, List.length_nil]; omega
 have hq : ∀ q ∈ ts ++ [xmlNT A κ], q.u = wordS n.toNat → q.p = lab n := fun q hq e => by
   rcases ma hq with hq | hq
   · exact hlab q hq e
   rw [ms hq] at e
   exact absurd e.symm (word_xml hn)
 have hin' : ∃ q ∈ ts ++ [xmlNT A κ], q.u = wordS n.toNat := by
   obtain ⟨q, hq, e⟩ := hin
   exact ⟨q, ml _ hq, e⟩
 have eqn := nameS_qn hn.lt (c := 101) (by decide)
 have hpz := X.size
 have hV : ∀ dl2 : Addr, NSt (nsB A { κ with seen := true } ((dl2, listOf #[] 0) :: R)) (S.lv.push (.ref dl2)) (lv0 A ts dl xk (lvls ++ [dl2])) (ts ++ [xmlNT A { κ with seen := true }]) := fun dl2 => by
   have h1 := (X.V.more (l' := nsB A { κ with seen := true } ((dl2, listOf #[] 0) :: R)) (nsB_mono rfl rfl fun p hp => .tail _ hp)).open (dl := dl2) (xk := 0) (.tail _ (.tail _ (.head _))) (by omega)
   have e : lv0 A ts dl xk (lvls ++ [dl2]) = lv0 A ts dl xk lvls ++ [(dl2, #[], 0)] := by
     unfold lv0
     rw [List.map_append, List.append_assoc]; rfl
   rw [e]; exact h1
 have hpv2 : pvs (1 + lvls.length + 1) = pvs (1 + (lvls.length + 1)) := by rw [Nat.add_assoc]
 have hdok : DatOk S.dat := by
   have h := X.dat
   cases pend with
   | none => exact .inl h
   | some m =>
     obtain ⟨tm, h⟩ := h
     exact .inr ⟨_, tm, h, by rw [signs_len]; exact Nat.le_refl _, by rw [signs_len]; decide⟩
 refine (start_el hd hu X.ord eqn t hR hoa has hoc hfv X.V hlv hin' ⟨_, _, nameS_split n (by decide)⟩ X.pv (by omega) (by omega) (by have := X.nss; omega) (by decide) hdok X.seen).mono fun v l h => ?_
 obtain ⟨rfl, q, hqm, hqu, pcs1, np1, nd1, tw1, tw2, n2, dl2, hfl, rfl, hO, hlt⟩ := h
 have hp1 := X.flushed hfl
 refine ⟨rfl, _, _, dl2, rfl, ⟨rfl, hO, hV dl2, ?_, rfl, ?_, ?_⟩, hlt, rfl, rfl⟩
 · have e : wrs ++ flushW pend ++ [Str.ofString "<" ++ tagW lab n, Str.ofString ">"] = ((wrs ++ flushW pend) ++ [Str.ofString "<" ++ (Str.empty ++ q.p ++ Str.ofString ":" ++ ⟨#[101]⟩)]) ++ [Str.ofString ">"] := by
     rw [hq q hqm hqu, List.append_assoc (wrs ++ flushW pend)]; rfl
   rw [e]
   exact strs_push (strs_push hp1)
 · show pvs _ = _
   rw [lA, List.length_singleton, hpv2]
 show (S.nss.push n2).size = _
 rw [Array.size_push, X.nss, lA, List.length_singleton]; omega
theorem LOk.data {A : WA} {κ : WT} {S : WL} {R : Led} {ts : List NT} {dl : Addr} {xk : Nat} {lvls : List Addr} {wrs : List Str} (X : LOk A κ S R ts dl xk lvls wrs none) (n : Int) (t : Tok) : LOk A κ { S with dat := S.dat.push (.str (signs n) t), nd := S.nd + 1 } R ts dl xk lvls wrs (some n) :=
 ⟨X.seen, X.ord, X.V, X.pcs, ⟨t, by show S.dat.push _ = _; have h : S.dat = #[] := X.dat; rw [h]; rfl⟩, X.pv, X.nss⟩
theorem NSt.pop {l : Led} {lv : Array Value} {Ls : List (Addr × Array Value × Nat)} {tl : List NT} {dl : Addr} {xk : Nat} (V : NSt l (lv.push (.ref dl)) (Ls ++ [(dl, #[], xk)]) tl) : NSt l lv Ls tl where
 lv := by
   have h := V.lv
   rw [List.map_append] at h
   have h2 := congrArg Array.toList h
   rw [Array.toList_push] at h2
   have h3 : lv.toList ++ [Value.ref dl] = (Ls.map fun q => Value.ref q.1) ++ [Value.ref dl] := h2
   have h4 := List.append_cancel_right h3
   rw [← h4]
 mem q hq := V.mem q (ml _ hq)
 flat := by have := V.flat; rw [List.reverse_append] at this; exact this
 tup := V.tup
 small := ⟨V.small.1, by have := V.small.2; rw [lA] at this; omega⟩
 nodup := V.nodup
 plen := V.plen
theorem arr_last {α : Type} {a : Array α} (h : 0 < a.size) : ∃ (b : Array α) (x : α), a = b.push x ∧ b.size + 1 = a.size := by
 rcases List.eq_nil_or_concat a.toList with e | ⟨l, x, e⟩
 · have : a.toList.length = 0 := by rw [e]; rfl
   rw [Array.length_toList] at this; omega
 rw [List.concat_eq_append] at e
 have e2 : a = l.toArray.push x := by
   apply Array.toList_inj.mp
   rw [e, Array.toList_push]
 exact ⟨l.toArray, x, e2, by rw [e2, Array.size_push]⟩
theorem end_any {w : World} {d u : Nat} {A : WA} {κ : WT} {S : WL} {R : Led} {ts : List NT} {dl : Addr} {xk : Nat} {lvls : List Addr} {wrs : List Str} {pend : Option Int} (hd : 30 ≤ d) (hu : 80 ≤ u) (X : LOk A κ S R ts dl xk lvls wrs pend) (hl : lvls.length ≤ 80) (hs : wrs.length ≤ 800) {n : Int} (hn : OkN n) {c : Nat} (hc : c ≠ 125) (hin : ∃ q ∈ ts, q.u = wordS n.toNat) {lab : Int → Str} (hlab : ∀ q ∈ ts, q.u = wordS n.toNat → q.p = lab n) (t : Tok)
   {lv' : Array Value} {lr : Value} (hlv : S.lv = lv'.push lr) :
   Ctr w 133 d u (wLed w A κ S R) [.ref A.x, .str (nameS n c) t] (fun v l => v = .none ∧ ∃ κ' S', l = wLed w A κ' S' R ∧ κ'.seen = true ∧ κ'.u = κ.u ∧ κ'.v = κ.v ∧ S'.lv = lv' ∧ StrsAre S'.pcs.toList (wrs ++ flushW pend ++ [Str.empty ++ Str.ofString "</" ++ (Str.empty ++ lab n ++ Str.ofString ":" ++ ⟨#[c]⟩) ++ Str.ofString ">"]) ∧ S'.dat = #[] ∧ S'.pv = pvs lvls.length ∧ S'.nss.size + 1 = S.nss.size) := by
 have hq : ∀ q ∈ ts ++ [xmlNT A κ], q.u = wordS n.toNat → q.p = lab n := fun q hq e => by
   rcases ma hq with hq | hq
   · exact hlab q hq e
   rw [ms hq] at e
   exact absurd e.symm (word_xml hn)
 have hin' : ∃ q ∈ ts ++ [xmlNT A κ], q.u = wordS n.toNat := by
   obtain ⟨q, hq, e⟩ := hin
   exact ⟨q, ml _ hq, e⟩
 have eqn := nameS_qn hn.lt hc
 have hpz := X.size
 have hpv : S.pv = pvs (lvls.length + 1) := by rw [X.pv, Nat.add_comm]
 obtain ⟨nss', nl, hnss, hnz⟩ := arr_last (a := S.nss) (by have := X.nss; omega)
 have hnz2 : nss'.size ≤ 900 := by have := X.nss; omega
 have hdok : DatOk S.dat := by
   have h := X.dat
   cases pend with
   | none => exact .inl h
   | some m =>
     obtain ⟨tm, h⟩ := h
     exact .inr ⟨_, tm, h, by rw [signs_len]; exact Nat.le_refl _, by rw [signs_len]; decide⟩
 refine (end_AB hd hu X.ord eqn t X.V hin' hpv (by omega) (by omega) hlv hnss hnz2 (show 1 ≤ 1000 by decide) hdok X.seen).monoP fun v l h => ?_
 obtain ⟨rfl, q, hqm, hqu, pcs1, np1, nd1, tw, dn, hfl, rfl⟩ := h
 have hp1 := X.flushed hfl
 refine ⟨rfl, _, _, rfl, X.seen, rfl, rfl, rfl, ?_, rfl, rfl, hnz⟩
 have e : wrs ++ flushW pend ++ [Str.empty ++ Str.ofString "</" ++ (Str.empty ++ lab n ++ Str.ofString ":" ++ ⟨#[c]⟩) ++ Str.ofString ">"] = (wrs ++ flushW pend) ++ [Str.empty ++ Str.ofString "</" ++ (Str.empty ++ q.p ++ Str.ofString ":" ++ ⟨#[c]⟩) ++ Str.ofString ">"] := by
   rw [hq q hqm hqu]
 rw [e]
 exact strs_push hp1
theorem close_ev {w : World} {d u : Nat} {A : WA} {κ : WT} {S : WL} {R : Led} {ts : List NT} {dl : Addr} {xk : Nat} {lvls : List Addr} {a : Addr} {wrs : List Str} {pend : Option Int} (hd : 30 ≤ d) (hu : 80 ≤ u) (X : LOk A κ S R ts dl xk (lvls ++ [a]) wrs pend) (hl : lvls.length ≤ 70) (hs : wrs.length ≤ 800) {n : Int} (hn : OkN n) (hin : ∃ q ∈ ts, q.u = wordS n.toNat) {lab : Int → Str} (hlab : ∀ q ∈ ts, q.u = wordS n.toNat → q.p = lab n) (t : Tok) :
   Ctr w 133 d u (wLed w A κ S R) [.ref A.x, .str (nameS n 101) t] (fun v l => v = .none ∧ ∃ κ' S', l = wLed w A κ' S' R ∧ LOk A κ' S' R ts dl xk lvls (wrs ++ flushW pend ++ [Str.empty ++ Str.ofString "</" ++ tagW lab n ++ Str.ofString ">"]) none ∧ κ'.u = κ.u ∧ κ'.v = κ.v) := by
 have e0 : lv0 A ts dl xk (lvls ++ [a]) = lv0 A ts dl xk lvls ++ [(a, #[], 0)] := by
   unfold lv0
   rw [List.map_append, List.append_assoc]; rfl
 have hlv : S.lv = ((lv0 A ts dl xk lvls).map fun q => Value.ref q.1).toArray.push (.ref a) := by
   rw [X.V.lv, e0, List.map_append, List.push_toArray]; rfl
 refine (end_any hd hu X (by rw [lA, List.length_singleton]; omega) hs hn (by decide) hin hlab t hlv).monoP fun v l h => ?_
 obtain ⟨rfl, κ', S', rfl, h1, h2, h3, h4, h5, h6, h7, h8⟩ := h
 have hV := X.V
 rw [hlv, e0] at hV
 have hV2 := hV.pop.more (nsB_mono h2 h3 fun p hp => hp)
 refine ⟨rfl, κ', S', rfl, ⟨h1, X.ord, ?_, h5, h6, ?_, ?_⟩, h2, h3⟩
 · rw [h4]
   have e : xmlNT A κ' = xmlNT A κ := by unfold xmlNT; rw [h2, h3]
   rw [e]; exact hV2
 · rw [h7, lA, List.length_singleton, Nat.add_comm]
 have := X.nss
 rw [lA, List.length_singleton] at this
 omega
theorem NSt.sub {l l' : Led} {lv : Array Value} {Ls : List (Addr × Array Value × Nat)} {tl : List NT} (V : NSt l lv Ls tl) (h1 : ∀ q ∈ Ls, (q.1, listOf q.2.1 q.2.2) ∈ l') (h2 : ∀ q ∈ tl, (q.a, q.obj) ∈ l') : NSt l' lv Ls tl := ⟨V.lv, h1, V.flat, h2, V.small, V.nodup, V.plen⟩
theorem ts_lab {w : World} {us : List Str} {ts : List NT} {opm : Obj} {l : Led} (V : RootN w us ts opm l) {u : Str} (hn : u ∈ us) : (∃ q ∈ ts, q.u = u) ∧ ∀ q ∈ ts, q.u = u → q.p = nName (us.idxOf u) := by
 constructor
 · rw [← V.u] at hn
   obtain ⟨q, hq, e⟩ := List.mem_map.mp hn
   exact ⟨q, hq, e⟩
 rintro q hq e
 obtain ⟨k, hk, rfl⟩ := List.mem_iff_getElem.mp hq
 have h1 : us[k]? = some u := by rw [← V.u, List.getElem?_map, List.getElem?_eq_getElem hk, ← e]; rfl
 rw [V.p k _ (List.getElem?_eq_getElem hk), idx_of V.nodup h1]
theorem LOk.init {w : World} {A : WA} {κ : WT} {S : WL} {R : Led} {us : List Str} {ts : List NT} {opm : Obj} {dl : Addr} {xk : Nat} {a b c : Str} {t1 t2 t3 : Tok} (V : RootN w us ts opm R) (hdl : (dl, listOf (refsN ts) xk) ∈ R) (O : A.Ord R) (hseen : κ.seen = true) (hlv : S.lv = #[.ref A.d0, .ref dl]) (hopm : S.opm = opm) (hp : S.pcs = ((#[].push (.str a t1)).push (.str b t2)).push (.str c t3)) (hd : S.dat = #[]) (hpv : S.pv = pvs 1) (hnss : S.nss.size = 2) : LOk A κ S R ts dl xk [] [a, b, c] none where
 seen := hseen
 ord := O
 V := by
   have h1 := (hopm ▸ V : RootN w us ts S.opm R).nst (A := A) (κ := κ) (S := S) (R := R) (fun p hp => wLed_R hp) (wLed_R hdl) hlv
   refine h1.sub (fun q hq => ?_) (fun q hq => ?_)
   · rcases mc hq with rfl | hq
     · exact .head _
     rw [ms hq]; exact .tail _ (.tail _ hdl)
   rcases ma hq with hq | hq
   · exact .tail _ (.tail _ (V.tup q hq))
   rw [ms hq]; exact .tail _ (.head _)
 pcs := by rw [hp]; exact .cons _ _ (.cons _ _ (.cons _ _ .nil))
 dat := hd
 pv := hpv
 nss := hnss
theorem off_wLed {w : World} {A : WA} {κ κ0 : WT} {S S0 : WL} {R R0 : Led} {wr : List Addr} (off : OwnOff (wLed w A κ0 S0 R0) wr) (h : OwnOff R wr) : OwnOff (wLed w A κ S R) wr := fun p hp b hb => by
 have e : ∀ Q : Led, wLed w A κ S Q = wLed w A κ S [] ++ Q := fun Q => rfl
 rw [e] at hp
 rcases ma hp with hp | hp
 · have h1 : p.1 ∈ (wLed w A κ0 S0 []).map (·.1) := by
     have : (wLed w A κ0 S0 []).map (·.1) = (wLed w A κ S []).map (·.1) := rfl
     rw [this]; exact List.mem_map_of_mem hp
   obtain ⟨q, hq, eq⟩ := List.mem_map.mp h1
   rw [← eq]
   exact off q (by
     have e0 : ∀ Q : Led, wLed w A κ0 S0 Q = wLed w A κ0 S0 [] ++ Q := fun Q => rfl
     rw [e0]; exact ml _ hq) b hb
 · exact h p hp b hb
theorem LOk.shrinkO {A : WA} {κ κ0 : WT} {S S0 : WL} {R0 R5 R' : Led} {ts : List NT} {dl : Addr} {xk : Nat} {lvls : List Addr} {a : Addr} {w0 w5 : List Str} {p0 p5 : Option Int} (X : LOk A κ0 S0 R0 ts dl xk lvls w0 p0) (X5 : LOk A κ S R5 ts dl xk (lvls ++ [a]) w5 p5) (hu : κ.u = κ0.u) (hv : κ.v = κ0.v) (hR : ∀ p ∈ R0, p ∈ R') (ha : (a, listOf #[] 0) ∈ R') (O : A.Ord R') : LOk A κ S R' ts dl xk (lvls ++ [a]) w5 p5 :=
 have hm := nsB_mono (A := A) hu hv hR
 have ex : xmlNT A κ = xmlNT A κ0 := by unfold xmlNT; rw [hu, hv]
 ⟨X5.seen, O, X5.V.sub (fun q hq => by
   have e : lv0 A ts dl xk (lvls ++ [a]) = lv0 A ts dl xk lvls ++ [(a, #[], 0)] := by
     unfold lv0
     rw [List.map_append, List.append_assoc]; rfl
   rw [e] at hq
   rcases ma hq with hq | hq
   · exact hm _ (X.V.mem q hq)
   rw [ms hq]; exact .tail _ (.tail _ ha)) (fun q hq => by rw [ex] at hq; exact hm _ (X.V.tup q hq)), X5.pcs, X5.dat, X5.pv, X5.nss⟩
theorem LOk.shrinkC {A : WA} {κ κ0 : WT} {S S0 : WL} {R0 R5 R' : Led} {ts : List NT} {dl : Addr} {xk : Nat} {lvls : List Addr} {a : Addr} {w0 w5 : List Str} {p0 p5 : Option Int} (X : LOk A κ0 S0 R0 ts dl xk (lvls ++ [a]) w0 p0) (X5 : LOk A κ S R5 ts dl xk lvls w5 p5) (hu : κ.u = κ0.u) (hv : κ.v = κ0.v) (hR : ∀ p ∈ R0, p ∈ R') (O : A.Ord R') : LOk A κ S R' ts dl xk lvls w5 p5 :=
 have hm := nsB_mono (A := A) hu hv hR
 have ex : xmlNT A κ = xmlNT A κ0 := by unfold xmlNT; rw [hu, hv]
 ⟨X5.seen, O, X5.V.sub (fun q hq => by
   have e : lv0 A ts dl xk (lvls ++ [a]) = lv0 A ts dl xk lvls ++ [(a, #[], 0)] := by
     unfold lv0
     rw [List.map_append, List.append_assoc]; rfl
   exact hm _ (X.V.mem q (by rw [e]; exact ml _ hq))) (fun q hq => by rw [ex] at hq; exact hm _ (X.V.tup q hq)), X5.pcs, X5.dat, X5.pv, X5.nss⟩
theorem CtrS.use {w : World} {f : Addr} {d u : Nat} {sl : Addr} {sv : List Value} {news : Led} {vs : List Value} {P : Value → Led → Prop} (c : CtrS w f d u sl sv news vs P)
   {p : Program} {loose : List Str} {mean : ExcName → Option Value} {mg mb : Str → Option Value} {dp un : Nat} {gd : Option (List Code)} {cn : Str} {cs : Scope} {a : Addr} {ccd : Value} {cl : List (Str × Addr)} {outer : List Env}
   {A A₀ : Around} {base h₀ : Heap} {L : Addr} {m : Str → Option Value} {s : Shared} {Q E : Value → Shared → Prop}
   (hA : A = ktrTop dp un gd cn cs L a ccd cl outer) (B : Below A₀ base outer h₀) (F : Fr h₀ L s.heap m) (X : (hd.heap_39 w.params).In h₀) (N : News h₀ L s.heap news) (T : Top p loose mean mg mb h₀) (hk : cs.kind = .function) (hd : dp + d < recursionLimit) (hu : un + u < cLine) (hS : h₀.IsList sl sv.toArray)
   (k : ∀ (v : Value) (news' : Led) (h' : Heap) (tk' : Nat), P v news' → Fr h₀ L h' m → News h₀ L h' news' → Q v { s with heap := h', toks := tk' }) :
   wpAny (model rw_pg0305_01.row.prog w) A (call (.ref f) vs) Q E s := by
 subst hA
 exact c p loose mean mg mb dp un gd cn cs a ccd cl outer A₀ base h₀ L m s Q E ⟨B, F, X, N, T, hk, hd, hu⟩ hS k
theorem nm_A (n : Int) : Str.ofString "{" ++ wordS n.toNat ++ Str.ofString "}a" = nameS n 97 := by
 refine str_ext ?_
 rw [nameS_list]
 simp only [list_append]
 rw [wordS_list, show (Str.ofString "{").cps.toList = [123] by decide +kernel, show (Str.ofString "}a").cps.toList = [125, 97] by decide +kernel]
 simp
theorem nm_R (n : Int) : Str.ofString "{" ++ wordS n.toNat ++ Str.ofString "}" ++ Str.ofString "r" = nameS n 114 := by
 refine str_ext ?_
 rw [nameS_list]
 simp only [list_append]
 rw [wordS_list, show (Str.ofString "{").cps.toList = [123] by decide +kernel, show (Str.ofString "}").cps.toList = [125] by decide +kernel, show (Str.ofString "r").cps.toList = [114] by decide +kernel]
 simp
theorem nm_E (n : Int) : Str.ofString "{" ++ wordS n.toNat ++ Str.ofString "}" ++ Str.ofString "e" = nameS n 101 := by
 refine str_ext ?_
 rw [nameS_list]
 simp only [list_append]
 rw [wordS_list, show (Str.ofString "{").cps.toList = [123] by decide +kernel, show (Str.ofString "}").cps.toList = [125] by decide +kernel, show (Str.ofString "e").cps.toList = [101] by decide +kernel]
 simp
theorem nm_keys {ns : List Int} {as : List (Str × Value)} {n0 : Int} (h0 : n0 ∈ ns) (ha : as.map (·.1) = ns.map fun n => nameS n 97) {y : Str} (hy : y ∈ keysTo as (nameS n0 114) as.length) : ∃ n ∈ ns, ∃ c, (c = 97 ∨ c = 114) ∧ y = nameS n c := by
 unfold keysTo at hy
 rw [List.take_length] at hy
 rcases ma hy with hy | hy
 · rw [List.mem_reverse, ha] at hy
   obtain ⟨n, hn, rfl⟩ := List.mem_map.mp hy
   exact ⟨n, hn, 97, .inl rfl, rfl⟩
 exact ⟨n0, h0, 114, .inr rfl, ms hy⟩
theorem wordS_pos {n : Int} (h : OkN n) : 1 ≤ (wordS n.toNat).length := by
 have h0 : n.toNat ≠ 0 := by have := h.1; omega
 rw [len_of_list (wordS_list _), wordL_pos h0, lA]; simp
theorem nm_RName {n : Int} (h : OkN n) {c : Nat} (hc : c ≠ 125) : RName Uq Tq (nameS n c) where
 q := by
   have e : Tq (nameS n c) = ⟨#[c]⟩ := spl1_nm n hc
   rw [Uq_nm n hc, e]; exact nameS_qn h.lt hc
 xml := by
   rw [Uq_nm n hc]
   intro e
   have h1 := wordS_len h.1 h.2
   rw [e] at h1
   exact absurd h1 (by decide +kernel)
 ul := by rw [Uq_nm n hc]; exact ⟨wordS_pos h, wordS_len h.1 h.2⟩
 tl := by
   have e : Tq (nameS n c) = ⟨#[c]⟩ := spl1_nm n hc
   rw [e]; exact (by decide : 1 ≤ 100)
 sp := ⟨_, _, nameS_split n hc⟩
 esc := by rw [Uq_nm n hc]; exact escAttr_word _
theorem nm_si {a b : Int} {c d : Nat} (ha : OkN a) (hb : OkN b) (hc : c ≠ 125) (hd : d ≠ 125) (hne : nameS a c ≠ nameS b d) (h : spl0 (nameS a c) = spl0 (nameS b d)) : spl1 (nameS a c) ≠ spl1 (nameS b d) := by
 rw [spl0_nm a hc, spl0_nm b hd] at h
 rw [spl1_nm a hc, spl1_nm b hd]
 intro e
 have h1 : (⟨(123 :: wordL a.toNat).toArray⟩ : Str).cps.toList = (⟨(123 :: wordL b.toNat).toArray⟩ : Str).cps.toList := by rw [h]
 have h2 : wordL a.toNat = wordL b.toNat := by simpa using h1
 have h3 : a = b := wordS_inj ha hb (str_ext (by rw [wordS_list, wordS_list]; exact h2))
 have h4 : (⟨#[c]⟩ : Str).cps.toList = (⟨#[d]⟩ : Str).cps.toList := by rw [e]
 have h5 : c = d := by simpa using h4
 exact hne (by rw [h3, h5])
theorem nm_sp (n : Int) (h : OkN n) : nameS n 97 ≠ spaceKey := by
 intro e
 have h1 := nameS_len h.lt 97
 rw [e] at h1
 exact absurd h1 (by decide +kernel)
theorem re_open {h₀ h : Heap} {L : Addr} {a1 a2 : Addr × Obj} {w : World} {A : WA} {κ : WT} {S : WL} {R : Led} (N : News h₀ L h (a1 :: a2 :: wLed w A κ S R)) : News h₀ L h (wLed w A κ S (a1 :: R)) := fun p hp => N p (by
 have e : ∀ Q : Led, wLed w A κ S Q = wLed w A κ S [] ++ Q := fun Q => rfl
 rw [e] at hp
 rw [e R]
 rcases ma hp with hp | hp
 · exact .tail _ (.tail _ (ml _ hp))
 rcases mc hp with rfl | hp
 · exact .head _
 exact .tail _ (.tail _ (mr _ hp)))
theorem re_one {h₀ h : Heap} {L : Addr} {a1 : Addr × Obj} {w : World} {A : WA} {κ : WT} {S : WL} {R : Led} (N : News h₀ L h (a1 :: wLed w A κ S R)) : News h₀ L h (wLed w A κ S R) := fun p hp => N p (.tail _ hp)
theorem re_id {h₀ h : Heap} {L : Addr} {w : World} {A : WA} {κ : WT} {S : WL} {R : Led} (N : News h₀ L h (wLed w A κ S R)) : News h₀ L h (wLed w A κ S R) := N
theorem law_fin {cl : Str → Option Addr} {mean : ExcName → Option Value} {wi : List Int} {s : Shared} {hp h : Heap} {L : Addr} {m : Str → Option Value} {l : Led} {g : Array GenState} {d : Drawn} {tk : Nat} {ps : Array Value} (J : Str) (F : Fr hp L h m) (N : News hp L h l) (hg : g = #[]) (hm : (123, tabObj ps) ∈ l) :
   GoodW rw_pg0305_01.row.claim cl mean [ofPy (PyData.list (List.map PyData.int wi))] { heap := hp, gens := s.gens, drawn := s.drawn, toks := s.toks, os := s.os } (Except.ok (Flow.ret (Value.bool (J == J)))) { heap := h, gens := g, drawn := d, toks := tk, os := s.os } ∧ GrownAll [(125, 123)] h := by
 refine ⟨goodW_bool F hg (raisesW_false ?_) ?_, GrownAt.of N hm, True.intro⟩
 · wrow_none_raised
 rw [beq_self_eq_true]
 wrow_post
theorem law_dev : rw_pg0305_01.Holds :=
 hd (by
   w_top off
   w_strict (
     k_go0
     rename_i ww s₀ s₁ mg mb GG YY fa oo pm cd doc kV ho hcd hg hX hV hT' hBt hTE hTW wi hs hlay0 hL1 hr1 hl2 wa wb wc wv wd hL2 ra w1 r0 hI hr hc1 hc2 hDD h₁ X' T' B' F' N' l0
     (revert hs hL1 hL2 ra w1 r0 hI hr hc1 F' lifted N'; revert wi wa wb wc wv wd h₁; with_reducible refine (no_implicit_lambda% (Drk7.all (by kpf_c) ((?_ : All7 _) _ _ _ _ _ _ _))); refine fun wi wa wb wc wv wd h₁ => Ap7.mk ?_; intros hs hL1 hL2 ra w1 r0 hI hr hc1 F' lifted N')
     (all_goals try k_fold)
     (repeat' ((fail_if_success with_reducible first | refine zQ1 ?_ | refine zQ2 ?_ | refine zQ3 ?_ | refine zJ ?_ | refine z27 ?_ | refine z28 ?_ | refine z29 ?_ | refine z30 ?_ | refine z31 ?_ | refine z43 ?_); tb_rel))
     rename ¬ (_ : Int) < _ => hcond
     have hcA : callerA.2 + 100 < recursionLimit := by decide
     have hcU : callerA.units + 200 < cLine := by decide
     (k_dflt (refine' CtrS.use (numbers_ctr hI (by omega)) ?hA ?B ?F ?X ?N ?T ?kk ?hd ?hu ?hS ?_; (case hA => exact rfl); (case B => k_asm); (case F => k_asm); (case X => k_asm); (case N => k_asm); (case T => k_asm); (case kk => first | exact rfl | assumption); (case hd => first | (exact (by decide)) | omega | (rw [ktr_depth]; omega)); (case hu => first | (exact (by decide)) | (dsimp only [cLine] at *; omega)); (case hS => exact lifted)))
     rintro _ _ h1 tk1 ⟨D1, vs, ns, c1, rfl, rfl, lD1, hvs, hn3, hn8, hnd, hno⟩ F1 N1
     dsimp only
     (revert lD1 hvs hn3 hn8 hnd hno F1 N1; revert h1 tk1 D1 vs ns c1; with_reducible refine Drk6.all (by kpf_c) ((?_ : All6 _) _ _ _ _ _ _); refine fun h1 tk1 D1 vs ns c1 => Ap6.mk ?_; intros lD1 hvs hn3 hn8 hnd hno F1 N1)
     (repeat' ((fail_if_success with_reducible first | refine zQ1 ?_ | refine zQ2 ?_ | refine zQ3 ?_ | refine zJ ?_ | refine z27 ?_ | refine z28 ?_ | refine z29 ?_ | refine z30 ?_ | refine z31 ?_ | refine z43 ?_); tb_rel))
     (k_dflt (refine' Ctr.use (tour_ctr (d := 10) (u := 40) (by decide) (by decide) hvs (.head _) (by omega) (by omega) hnd hno) ?hA ?B ?F ?X ?N ?T ?kk ?hd ?hu ?_; (case hA => exact rfl); (case B => k_asm); (case F => k_asm); (case X => k_asm); (case N => k_asm); (case T => k_asm); (case kk => first | exact rfl | assumption); (case hd => allgen_close_more); (case hu => allgen_close_more)))
     rintro _ _ h2 tk2 ⟨TA, tq, Tl, xs, c2, rfl, rfl, lTA, hxp, hxw, htq, htup⟩ F2 N2
     dsimp only
     (revert lTA hxp hxw htq htup F2 N2; revert h2 tk2 TA tq Tl xs c2; with_reducible refine Drk7.all (by kpf_c) ((?_ : All7 _) _ _ _ _ _ _ _); refine fun h2 tk2 TA tq Tl xs c2 => Ap7.mk ?_; intros lTA hxp hxw htq htup F2 N2)
     (repeat' ((fail_if_success with_reducible first | refine zQ1 ?_ | refine zQ2 ?_ | refine zQ3 ?_ | refine zJ ?_ | refine z27 ?_ | refine z28 ?_ | refine z29 ?_ | refine z30 ?_ | refine z31 ?_ | refine z43 ?_); tb_rel))
     (with_reducible rename Fr _ _ _ _ => F1); (with_reducible rename News _ _ _ _ => N1)
     first | k_dflt (refine assign_dictComp_G (knd := PySem.intKind _ _) F1 rfl (by with_unfolding_all rfl) (by with_unfolding_all rfl) (by decide) (by rfl) (by decide) (by rfl) (by rfl) ?_ (fun _ => rfl)) | fail
     (repeat' ((fail_if_success with_reducible first | refine zQ1 ?_ | refine zQ2 ?_ | refine zQ3 ?_ | refine zJ ?_ | refine z27 ?_ | refine z28 ?_ | refine z29 ?_ | refine z30 ?_ | refine z31 ?_ | refine z43 ?_); tb_rel))
     obtain ⟨RB, hRB, NB⟩ : ∃ RB, RB = (D1, listOf vs.toArray c1) :: (TA, listOf (tq.map fun q => Value.ref q.1).toArray c2) :: Tl ∧ News _ _ _ ((123, tabObj #[]) :: RB) := ⟨_, rfl, fun p hp => N1 p (by
       rcases mc hp with rfl | hp
       · exact .tail _ (mr _ (.tail _ (.head _)))
       rcases mc hp with rfl | hp
       · exact .tail _ (mr _ (.head _))
       rcases mc hp with rfl | hp
       · exact .head _
       exact .tail _ (ml _ hp))⟩
     have hB123 : ∀ p ∈ RB, @LT.lt Nat _ 123 p.1 := fun p hp => by
       rw [hRB] at hp
       rcases mc hp with rfl | hp
       · exact lD1 (123, _) (.head _)
       rcases mc hp with rfl | hp
       · exact (lTA (123, _) (.tail _ (.head _))).1
       exact (lTA (123, _) (.tail _ (.head _))).2 p hp
     have hD1B : (D1, listOf vs.toArray c1) ∈ RB := hRB ▸ .head _
     have hTAB : (TA, listOf (tq.map fun q => Value.ref q.1).toArray c2) ∈ RB := hRB ▸ .tail _ (.head _)
     have htB : ∀ q ∈ tq, ∃ t, (q.1, ({ cls := .type "tuple", data := .seq #[.bool q.2.1, .int q.2.2 t] } : Obj)) ∈ RB := fun q hq => by
       obtain ⟨t, ht⟩ := htup q hq
       exact ⟨t, hRB ▸ .tail _ (.tail _ ht)⟩
     have hRBlt : True := trivial
     clear hRB htup lTA N1 lD1
     have hvl : vs.length ≤ 8 := by rw [hvs.length]; exact hn8
     refine source_listO (its := vs.toArray) rfl F1 NB (.tail _ hD1B) (by rw [List.size_toArray]; exact Nat.le_trans hvl (by decide)) (fun _ _ _ _ _ _ _ _ _ q => hgo_name q) fun gI I fp wr Md St Xs hfp => ⟨_, _, _, _, _, I, fp, wr, St, fun i kvs nw => nw = (123, tabObj #[]) :: RB ∧ kvs.map (·.1) = ns.take i ∧ ∀ p ∈ kvs, ∃ t, p.2 = Value.str (Str.ofString "{" ++ wordS p.1.toNat ++ Str.ofString "}") t, Xs, fun p hp => hp, ⟨rfl, rfl, (fun p h => nomatch h)⟩, ?_, ?_⟩
     · refine CTurnD.name (by rfl) (by rfl) ?_
       rintro i v C oC D oD m₂ g1 h tk kvs nw own htk hi hP ⟨hnw, hj1, hj2⟩ hdD hC hv Fc Nc off hown hof hnD hDC hw hCD hCL hDL
       obtain ⟨n, tn, rfl, hni⟩ := hvs.at i v (by rw [List.getElem?_toArray] at hP; exact hP)
       have hnb := hno n (List.mem_of_getElem? hni)
       dsimp only
       (revert NB hB123 hD1B hTAB htB Xs hfp htk hi hnw hj1 hj2 hdD hC Fc Nc off hown hof hnD hDC hw hCD hCL hDL hni hP hv hnb; revert RB gI I fp wr Md St i C oC D oD m₂ g1 h tk kvs nw own n tn; with_reducible refine Drk7.all (by kpf_c) ((?_ : All7 _) _ _ _ _ _ _ _); refine fun RB gI I fp wr Md St => Ap7.mk ?_; with_reducible refine Drk7.all (by kpf_c) ((?_ : All7 _) _ _ _ _ _ _ _); refine fun i C oC D oD m₂ g1 => Ap7.mk ?_; with_reducible refine Drk7.all (by kpf_c) ((?_ : All7 _) _ _ _ _ _ _ _); refine fun h tk kvs nw own n tn => Ap7.mk ?_; intros NB hB123 hD1B hTAB htB Xs hfp htk hi hnw hj1 hj2 hdD hC Fc Nc off hown hof hnD hDC hw hCD hCL hDL hni hP hv hnb)
       (repeat' ((fail_if_success with_reducible first | refine zQ1 ?_ | refine zQ2 ?_ | refine zQ3 ?_ | refine zJ ?_ | refine z27 ?_ | refine z28 ?_ | refine z29 ?_ | refine z30 ?_ | refine z31 ?_ | refine z43 ?_); tb_rel))
       (k_dflt (refine' Ctr.use (ap_ctr n _ (by omega)) ?hA ?B ?F ?X ?N ?T ?kk ?hd ?hu ?_; (case hA => exact rfl); (case B => k_asm); (case F => k_asm); (case X => k_asm); (case N => k_asm); (case T => k_asm); (case kk => first | exact rfl | assumption); (case hd => allgen_close_more); (case hu => allgen_close_more)))
       rintro _ _ h7 tk7 ⟨rfl, b, t7, rfl, hb⟩ F7 N7
       dsimp only
       (revert hb F7 N7; revert h7 tk7 b t7; with_reducible refine Drk4.all (by kpf_c) ((?_ : All4 _) _ _ _ _); refine fun h7 tk7 b t7 => Ap4.mk ?_; intros hb F7 N7)
       (repeat' ((fail_if_success with_reducible first | refine zQ1 ?_ | refine zQ2 ?_ | refine zQ3 ?_ | refine zJ ?_ | refine z27 ?_ | refine z28 ?_ | refine z29 ?_ | refine z30 ?_ | refine z31 ?_ | refine z43 ?_); tb_rel))
       have hwn := wordS_len hnb.1 hnb.2
       have hwn' : n.natAbs = n.toNat := by omega
       refine decode_ascii hb (by omega) (by omega) ?_
       intro t8 k8
       rw [hwn']
       (repeat' ((fail_if_success with_reducible first | refine zQ1 ?_ | refine zQ2 ?_ | refine zQ3 ?_ | refine zJ ?_ | refine z27 ?_ | refine z28 ?_ | refine z29 ?_ | refine z30 ?_ | refine z31 ?_ | refine z43 ?_); tb_rel))
       (with_reducible rename Fr _ _ _ _ => F1); (with_reducible rename News _ _ _ _ => N1)
       (try (k_unfold; (try dsimp only)))
       refine CEnd.intro F1 N1 hC nw (fun p hp => hp) off ⟨n, PySem.intKind_is _ _ _ _, ?_, hnw, ?_, ?_⟩
       · rw [hj1]
         intro hmem
         obtain ⟨j, hj, ej⟩ := List.mem_take_iff_getElem.mp hmem
         have h1 : ns[j]? = some n := by rw [List.getElem?_eq_getElem (by omega), ej]
         have := (List.getElem?_inj (by omega) hnd).mp (h1.trans hni.symm)
         omega
       · rw [List.map_append, hj1, List.take_add_one, hni]; rfl
       intro p hp
       rcases ma hp with hp | hp
       · exact hj2 p hp
       rw [ms hp]; exact ⟨_, rfl⟩
     (revert NB hB123 hD1B hTAB htB Xs hfp; revert RB gI I fp wr Md St; with_reducible refine Drk7.all (by kpf_c) ((?_ : All7 _) _ _ _ _ _ _ _); refine fun RB gI I fp wr Md St => Ap7.mk ?_; intros NB hB123 hD1B hTAB htB Xs hfp)
     intro Ds oDs kvs nw hltD hneD hdD hJ h8 tk8 htk8 F8 N8
     obtain ⟨hnw, hj1, hj2⟩ := hJ
     rw [hnw] at N8 hneD
     replace hj1 := hj1
     rw [List.size_toArray, hvs.length, List.take_length] at hj1
     dsimp only
     (revert htk8 F8 N8; revert h8 tk8; with_reducible refine Drk2.all (by kpf_c) ((?_ : All2 _) _ _); refine fun h8 tk8 => Ap2.mk ?_; intros htk8 F8 N8)
     (repeat' ((fail_if_success with_reducible first | refine zQ1 ?_ | refine zQ2 ?_ | refine zQ3 ?_ | refine zJ ?_ | refine z27 ?_ | refine z28 ?_ | refine z29 ?_ | refine z30 ?_ | refine z31 ?_ | refine z43 ?_); tb_rel))
     have hspc : ∀ n ∈ ns, ∃ t, valueAt kvs n = some (.str (Str.ofString "{" ++ wordS n.toNat ++ Str.ofString "}") t) := fun n hn => by
       obtain ⟨p, hp, rfl⟩ := List.mem_map.mp (hj1 ▸ hn)
       obtain ⟨t, ht⟩ := hj2 p hp
       refine ⟨t, valueAt_memI (by rw [hj1]; exact hnd) ?_⟩
       rw [← ht]; exact hp
     have hDsB : ∀ p ∈ (123, tabObj #[]) :: RB, @LT.lt Nat _ p.1 Ds := hltD
     obtain ⟨RC, hRC, NC⟩ : ∃ RC, RC = (Ds, oDs) :: RB ∧ News _ _ _ ((123, tabObj #[]) :: RC) := ⟨_, rfl, fun p hp => N8 p (by
       rcases mc hp with rfl | hp
       · exact .tail _ (.head _)
       rcases mc hp with rfl | hp
       · exact .head _
       exact .tail _ (.tail _ hp))⟩
     have hC123 : ∀ p ∈ RC, @LT.lt Nat _ 123 p.1 := fun p hp => by
       rw [hRC] at hp
       rcases mc hp with rfl | hp
       · exact hltD (123, _) (.head _)
       exact hB123 p hp
     have hBC : ∀ p ∈ RB, p ∈ RC := fun p hp => hRC ▸ .tail _ hp
     have hDsC : (Ds, oDs) ∈ RC := hRC ▸ .head _
     clear hRC hDsB hneD hltD
     (with_reducible rename Fr _ _ _ _ => F1); (with_reducible rename News _ _ _ _ => N1)
     (revert N1 hC123 hBC hDsC; revert RC; tb_start; refine fun RC => Ap.mk ?_; intros N1 hC123 hBC hDsC)
     first | k_dflt (refine assign_dictComp_G (knd := strKind _ _) F1 rfl (by with_unfolding_all rfl) (by with_unfolding_all rfl) (by decide) (by rfl) (by decide) (by rfl) (by rfl) ?_ (fun _ => rfl)) | fail
     (repeat' ((fail_if_success with_reducible first | refine zQ1 ?_ | refine zQ2 ?_ | refine zQ3 ?_ | refine zJ ?_ | refine z27 ?_ | refine z28 ?_ | refine z29 ?_ | refine z30 ?_ | refine z31 ?_ | refine z43 ?_); tb_rel))
     (with_reducible rename Fr _ _ _ _ => F1); (with_reducible rename News _ _ _ _ => N1)
     refine source_listO (its := vs.toArray) rfl F1 N1 (.tail _ (hBC _ hD1B)) (by rw [List.size_toArray]; exact Nat.le_trans hvl (by decide)) (fun _ _ _ _ _ _ _ _ _ q => hgo_name q) fun gI I fp wr Md St Xs hfp => ⟨_, _, _, _, _, I, fp, wr, St, fun i kvs nw => nw = (123, tabObj #[]) :: RC ∧ kvs.map (·.1) = (ns.take i).map (fun n => nameS n 97) ∧ ∀ p ∈ kvs, ∃ n ∈ ns, p.1 = nameS n 97 ∧ ∃ t, p.2 = Value.str (signs n) t, Xs, fun p hp => hp, ⟨rfl, rfl, (fun p h => nomatch h)⟩, ?_, ?_⟩
     · refine CTurnD.name (by rfl) (by rfl) ?_
       rintro i v C oC D oD m₂ g1 h tk kvs2 nw own htk hi hP ⟨hnw, hj1, hj2⟩ hdD hC hv Fc Nc off hown hof hnD hDC hw hCD hCL hDL
       obtain ⟨n, tn, rfl, hni⟩ := hvs.at i v (by rw [List.getElem?_toArray] at hP; exact hP)
       have hnb := hno n (List.mem_of_getElem? hni)
       have hwn := wordS_len hnb.1 hnb.2
       have hwn' : (-n).natAbs = n.toNat := by omega
       dsimp only
       (revert Xs hfp htk hi hnw hj1 hj2 hdD hC Fc Nc off hown hof hnD hDC hw hCD hCL hDL hni hP hv hnb hwn hwn'; revert gI I fp wr Md St i C oC D oD m₂ g1 h tk kvs2 nw own n tn; with_reducible refine Drk7.all (by kpf_c) ((?_ : All7 _) _ _ _ _ _ _ _); refine fun gI I fp wr Md St i => Ap7.mk ?_; with_reducible refine Drk7.all (by kpf_c) ((?_ : All7 _) _ _ _ _ _ _ _); refine fun C oC D oD m₂ g1 h => Ap7.mk ?_; with_reducible refine Drk6.all (by kpf_c) ((?_ : All6 _) _ _ _ _ _ _); refine fun tk kvs2 nw own n tn => Ap6.mk ?_; intros Xs hfp htk hi hnw hj1 hj2 hdD hC Fc Nc off hown hof hnD hDC hw hCD hCL hDL hni hP hv hnb hwn hwn')
       (repeat' ((fail_if_success with_reducible first | refine zQ1 ?_ | refine zQ2 ?_ | refine zQ3 ?_ | refine zJ ?_ | refine z27 ?_ | refine z28 ?_ | refine z29 ?_ | refine z30 ?_ | refine z31 ?_ | refine z43 ?_); tb_rel))
       (k_dflt (refine' Ctr.use (ap_ctr (-n) _ (by omega)) ?hA ?B ?F ?X ?N ?T ?kk ?hd ?hu ?_; (case hA => exact rfl); (case B => k_asm); (case F => k_asm); (case X => k_asm); (case N => k_asm); (case T => k_asm); (case kk => first | exact rfl | assumption); (case hd => allgen_close_more); (case hu => allgen_close_more)))
       rintro _ _ h7 tk7 ⟨rfl, b, t7, rfl, hb⟩ F7 N7
       dsimp only
       (revert hb F7 N7; revert h7 tk7 b t7; with_reducible refine Drk4.all (by kpf_c) ((?_ : All4 _) _ _ _ _); refine fun h7 tk7 b t7 => Ap4.mk ?_; intros hb F7 N7)
       (repeat' ((fail_if_success with_reducible first | refine zQ1 ?_ | refine zQ2 ?_ | refine zQ3 ?_ | refine zJ ?_ | refine z27 ?_ | refine z28 ?_ | refine z29 ?_ | refine z30 ?_ | refine z31 ?_ | refine z43 ?_); tb_rel))
       refine decode_ascii hb (by omega) (by omega) ?_
       intro t8 k8
       rw [hwn']
       (repeat' ((fail_if_success with_reducible first | refine zQ1 ?_ | refine zQ2 ?_ | refine zQ3 ?_ | refine zJ ?_ | refine z27 ?_ | refine z28 ?_ | refine z29 ?_ | refine z30 ?_ | refine z31 ?_ | refine z43 ?_); tb_rel))
       (k_dflt (refine' Ctr.use (signs_ctr n _) ?hA ?B ?F ?X ?N ?T ?kk ?hd ?hu ?_; (case hA => exact rfl); (case B => k_asm); (case F => k_asm); (case X => k_asm); (case N => k_asm); (case T => k_asm); (case kk => first | exact rfl | assumption); (case hd => allgen_close_more); (case hu => allgen_close_more)))
       rintro _ _ h9 tk9 ⟨rfl, t9, rfl⟩ F9 N9
       dsimp only
       (revert F9 N9; revert h9 tk9 t9; with_reducible refine Drk3.all (by kpf_c) ((?_ : All3 _) _ _ _); refine fun h9 tk9 t9 => Ap3.mk ?_; intros F9 N9)
       (repeat' ((fail_if_success with_reducible first | refine zQ1 ?_ | refine zQ2 ?_ | refine zQ3 ?_ | refine zJ ?_ | refine z27 ?_ | refine z28 ?_ | refine z29 ?_ | refine z30 ?_ | refine z31 ?_ | refine z43 ?_); tb_rel))
       (with_reducible rename Fr _ _ _ _ => F1); (with_reducible rename News _ _ _ _ => N1)
       rw [nm_A]
       (try (k_unfold; (try dsimp only)))
       refine CEnd.intro F1 N1 hC nw (fun p hp => hp) off ⟨nameS n 97, strKind_is _ _ _ _, ?_, hnw, ?_, ?_⟩
       · rw [hj1]
         intro hmem
         obtain ⟨m, hm, em⟩ := List.mem_map.mp hmem
         obtain ⟨j, hj, ej⟩ := List.mem_take_iff_getElem.mp hm
         have hmn : m = n := nameS_inj (hno m (List.mem_of_mem_take hm)) hnb em
         have h1 : ns[j]? = some n := by rw [List.getElem?_eq_getElem (by omega), ej, hmn]
         have := (List.getElem?_inj (by omega) hnd).mp (h1.trans hni.symm)
         omega
       · rw [List.map_append, hj1, List.take_add_one, hni, List.map_append]; rfl
       intro p hp
       rcases ma hp with hp | hp
       · exact hj2 p hp
       rw [ms hp]; exact ⟨n, List.mem_of_getElem? hni, rfl, _, rfl⟩
     (revert Xs hfp; revert gI I fp wr Md St; with_reducible refine Drk6.all (by kpf_c) ((?_ : All6 _) _ _ _ _ _ _); refine fun gI I fp wr Md St => Ap6.mk ?_; intros Xs hfp)
     intro Da oDa as nw hltD hneD hdA hJ h8 tk8 htk8 F8 N8
     obtain ⟨hnw, ha1, ha2⟩ := hJ
     rw [hnw] at N8 hneD
     replace ha1 := ha1
     rw [List.size_toArray, hvs.length, List.take_length] at ha1
     dsimp only
     (revert htk8 F8 N8; revert h8 tk8; with_reducible refine Drk2.all (by kpf_c) ((?_ : All2 _) _ _); refine fun h8 tk8 => Ap2.mk ?_; intros htk8 F8 N8)
     (repeat' ((fail_if_success with_reducible first | refine zQ1 ?_ | refine zQ2 ?_ | refine zQ3 ?_ | refine zJ ?_ | refine z27 ?_ | refine z28 ?_ | refine z29 ?_ | refine z30 ?_ | refine z31 ?_ | refine z43 ?_); tb_rel))
     have hDaB : ∀ p ∈ (123, tabObj #[]) :: RC, @LT.lt Nat _ p.1 Da := hltD
     clear hltD hneD
     rename_i pc hq3 lpc hq4 FP NP
     have hpcl : ∀ p ∈ (Da, oDa) :: (123, tabObj #[]) :: RC, @LT.lt Nat _ p.1 pc := fun p hp => by
       rcases mc hp with rfl | hp
       · exact lpc.1
       rcases mc hp with rfl | hp
       · exact lpc.2.1
       exact allLt_mem lpc.2.2 p hp
     (k_dflt (refine' Ctr.use (writer_ctr (d := 20) (u := 60) (by decide) (by decide) hpcl) ?hA ?B ?F ?X ?N ?T ?kk ?hd ?hu ?_; (case hA => exact rfl); (case B => k_asm); (case F => k_asm); (case X => k_asm); (case N => k_asm); (case T => k_asm); (case kk => first | exact rfl | assumption); (case hd => allgen_close_more); (case hu => allgen_close_more)))
     rintro v4 l4 h4 tk4 hW F4 N4
     obtain ⟨A, κ, n2, opm, rfl, hApc, OA, hopm, hpm, hseen, rfl⟩ := hW
     obtain ⟨t0, hs0⟩ : ∃ t, valueAt kvs (ns.getD 0 0) = some (.str (Str.ofString "{" ++ wordS (ns.getD 0 0).toNat ++ Str.ofString "}") t) := by
       obtain ⟨n0, ns', rfl⟩ : ∃ a b, ns = a :: b := by
         cases ns with
         | nil => simp at hn3
         | cons a b => exact ⟨a, b, rfl⟩
       exact hspc n0 (.head _)
     obtain ⟨n0, ns', rfl⟩ : ∃ a b, ns = a :: b := by
       cases ns with
       | nil => simp at hn3
       | cons a b => exact ⟨a, b, rfl⟩
     obtain ⟨tn0, vs', rfl, hz'⟩ := hvs.cons_inv
     have hn0 := hno n0 (.head _)
     have hw0 := wordS_len hn0.1 hn0.2
     obtain ⟨κκ, κz, κu, κv, κseen, κdone⟩ := κ
     dsimp only at hseen hs0
     subst hApc hseen
     dsimp only at ⊢
     have hDaD : ∀ b : Nat, A.pc ≤ b → (∀ p ∈ RC, p.1 ≠ b) := fun b hb p hp => Nat.ne_of_lt (Nat.lt_of_lt_of_le (hpcl p (.tail _ (.tail _ hp))) hb)
     have o1 := OA.o
     (revert h4 tk4 A n2 opm t0 n0 ns' tn0 vs' κκ κz κu κv κdone; with_reducible refine Drk5.all (by kpf_c) ((?_ : All5 _) _ _ _ _ _); refine fun h4 tk4 A n2 opm => Ap5.mk ?_; intros OA hopm hpm; with_reducible refine Drk3.all (by kpf_c) ((?_ : All3 _) _ _ _); refine fun t0 n0 ns' => Ap3.mk ?_; intros hn3 hn8 hnd hno hxp hj1 hspc ha2 ha1 hs0; with_reducible refine Drk2.all (by kpf_c) ((?_ : All2 _) _ _); refine fun tn0 vs' => Ap2.mk ?_; intros hz' hvl hD1B _ Xs hvs hn0 hw0; with_reducible refine Drk5.all (by kpf_c) ((?_ : All5 _) _ _ _ _ _); refine fun κκ κz κu κv κdone => Ap5.mk ?_; intros hAW hAL lpc FP NP hpcl F4 N4 hDaD o1)
     (repeat' ((fail_if_success with_reducible first | refine zQ1 ?_ | refine zQ2 ?_ | refine zQ3 ?_ | refine zJ ?_ | refine z27 ?_ | refine z28 ?_ | refine z29 ?_ | refine z30 ?_ | refine z31 ?_ | refine z43 ?_); tb_rel))
     (with_reducible rename Fr _ _ _ _ => F1); (with_reducible rename News _ _ _ _ => N1)
     refine item_list (isList_news N1 (by (repeat (first | exact hBC _ hD1B | refine List.mem_cons_of_mem _ ?_)))) (by decide) (by decide) (x := .int n0 tn0) rfl ?_
     (repeat' ((fail_if_success with_reducible first | refine zQ1 ?_ | refine zQ2 ?_ | refine zQ3 ?_ | refine zJ ?_ | refine z27 ?_ | refine z28 ?_ | refine z29 ?_ | refine z30 ?_ | refine z31 ?_ | refine z43 ?_); tb_rel))
     first | k_dflt (refine kda_item (knd := PySem.intKind _ _) (kvs := kvs) (k := n0) (v := Value.str (Str.ofString "{" ++ wordS n0.toNat ++ Str.ofString "}") t0) N1 (by (repeat (first | exact hDsC | refine List.mem_cons_of_mem _ ?_))) hdD (PySem.intKind_is _ _ _ _) ?hl ?_) | fail
     case hl => exact hs0
     dsimp only
     (repeat' ((fail_if_success with_reducible first | refine zQ1 ?_ | refine zQ2 ?_ | refine zQ3 ?_ | refine zJ ?_ | refine z27 ?_ | refine z28 ?_ | refine z29 ?_ | refine z30 ?_ | refine z31 ?_ | refine z43 ?_); tb_rel))
     rw [nm_R]
     have hal : as.length = (n0 :: ns').length := by have e := congrArg List.length ha1; rw [lM, lM] at e; exact e
     have hOk : ∀ n ∈ n0 :: ns', OkN n := hno
     have hh2 : ∀ p ∈ as, ∃ t, p.2 = .str (vfN (n0 :: ns') p.1) t := fun p hp => by
       obtain ⟨n, hn, e, t, ht⟩ := ha2 p hp
       rw [e, vfN_nm hOk hn]; exact ⟨t, ht⟩
     have hh3 : ∀ p ∈ as, (vfN (n0 :: ns') p.1).length ≤ 3 ∧ (escAttr (vfN (n0 :: ns') p.1)).length ≤ 1000 := fun p hp => by
       obtain ⟨n, hn, e, t, ht⟩ := ha2 p hp
       rw [e, vfN_nm hOk hn, escAttr_signs, signs_len]
       exact ⟨Nat.le_refl _, Nat.le_trans (valS_len n) (by decide)⟩
     have hh4 : ∀ p ∈ as, p.1 ≠ nameS n0 114 := fun p hp e => by
       obtain ⟨n, hn, e', _⟩ := ha2 p hp
       rw [e'] at e
       exact absurd (nameS_c e) (by decide)
     have hh5 : (as.map (·.1)).Nodup := by
       rw [ha1, List.Nodup, List.pairwise_map]
       exact hnd.imp_of_mem fun {a b} ha hb hab e => hab (nameS_inj (hOk a ha) (hOk b hb) e)
     have hh6 : ∃ p ∈ as, ∃ q ∈ as, Uq p.1 ≠ Uq q.1 := by
       obtain ⟨n1, ns2, rfl⟩ : ∃ a b, ns' = a :: b := by
         cases ns' with
         | nil => simp at hn3
         | cons a b => exact ⟨a, b, rfl⟩
       have hin : ∀ n ∈ n0 :: n1 :: ns2, ∃ p ∈ as, p.1 = nameS n 97 := fun n hn => by
         have h1 : nameS n 97 ∈ as.map (·.1) := by rw [ha1]; exact List.mem_map_of_mem hn
         obtain ⟨p, hp, e⟩ := List.mem_map.mp h1
         exact ⟨p, hp, e⟩
       obtain ⟨p, hp, ep⟩ := hin n0 (.head _)
       obtain ⟨q, hq, eq⟩ := hin n1 (.tail _ (.head _))
       refine ⟨p, hp, q, hq, ?_⟩
       rw [ep, eq, Uq_nm _ (by decide), Uq_nm _ (by decide)]
       intro e
       have := wordS_inj (hOk n0 (.head _)) (hOk n1 (.tail _ (.head _))) e
       rw [List.nodup_cons] at hnd
       exact hnd.1 (this ▸ .head _)
     have hh7 : ∀ y ∈ keysTo as (nameS n0 114) as.length, RName Uq Tq y := fun y hy => by
       obtain ⟨n, hn, c, hc, rfl⟩ := nm_keys (List.mem_cons_self ..) ha1 hy
       exact nm_RName (hOk n hn) (by omega)
     have hh8 : ∀ y y', y ∈ keysTo as (nameS n0 114) as.length → y' ∈ keysTo as (nameS n0 114) as.length → y ≠ y' → spl0 y = spl0 y' → spl1 y ≠ spl1 y' := fun y y' hy hy' hne h => by
       obtain ⟨n, hn, c, hc, rfl⟩ := nm_keys (List.mem_cons_self ..) ha1 hy
       obtain ⟨m, hm, d, hd, rfl⟩ := nm_keys (List.mem_cons_self ..) ha1 hy'
       exact nm_si (hOk n hn) (hOk m hm) (by omega) (by omega) hne h
     have hh9 : ∀ p ∈ as, p.1 ≠ spaceKey := fun p hp => by
       obtain ⟨n, hn, e, _⟩ := ha2 p hp
       rw [e]; exact nm_sp n (hOk n hn)
     have hDa123 : @LT.lt Nat _ 123 Da := hDaB (123, _) (.head _)
     have hsysD : (Da == sysModules) = false := by
       rw [beq_eq_false_iff_ne]
       refine Nat.ne_of_gt (Nat.lt_of_le_of_lt (?_ : sysModules ≤ 123) hDa123)
       decide
     (k_dflt (refine' CtrD0.use (start_top (d := 40) (u := 90) (A := A) (κ := ⟨κκ, κz, κu, κv, false, κdone⟩) (S := ⟨#[], 0, #[], 0, #[.ref A.d0], 0, #[n2], 1, #[.bool false], 0, opm⟩) (R' := RC) (at' := Da) (oa := oDa) (by decide) (by decide) OA (qs := nameS n0 114) _ (Uf := Uq) (Tf := Tq) (vf := vfN (n0 :: ns')) (as := as) hdA hsysD (by rw [hal]; simp only [List.length_cons] at hn3 ⊢; omega) (by rw [hal]; simp only [List.length_cons] at hn8 ⊢; omega) hh2 hh3 hh4 hh5 hh6 hh7 hh8 hh9 rfl hopm hpm (k := 0) rfl (by decide) (Nat.zero_le _) (show 1 ≤ 1000 by decide) (Nat.ne_of_gt hDa123) (fun p hp => Nat.ne_of_lt (hDaB p (.tail _ hp))) (fun p hp => Nat.ne_of_gt (hC123 p hp)) rfl) ?hA ?B ?F ?X ?N ?T ?kk ?hd ?hu ?_; (case hA => exact rfl); (case B => k_asm); (case F => k_asm); (case X => k_asm); (case N => k_asm); (case T => k_asm); (case kk => first | exact rfl | assumption); (case hd => allgen_close_more); (case hu => allgen_close_more)))
     rintro v5 l5 h5 tk5 dr5 hP5 F5 N5
     obtain ⟨dl, rfl, ys, ts, opm', xk', c', oc, fv, tq', b1, ms, tw1, tw2, tw3, n3, RT, hyp, hyw, hb1, hb1w, hms, hmsw, hoc, hfv, hV, hO, hcRT, hRCT, rfl⟩ := hP5
     obtain ⟨hus, hlab, hrows⟩ := root_rows (ns := n0 :: ns') (xs := xs) (as := as) (n0 := n0) (List.mem_cons_self ..) hOk hnd (by omega) hxp hxw (by rw [ha1]) hyp hyw hb1 hb1w hms hmsw hV.u hV.p
     have hTq : Tq (nameS n0 114) = ⟨#[114]⟩ := spl1_nm n0 (by decide)
     rw [hrows, hTq, hlab n0 (List.mem_cons_self ..) 114 (by decide)] at N5
     have hOX := hO
     have hlabn : ∀ n ∈ n0 :: ns', (∃ q ∈ ts, q.u = wordS n.toNat) ∧ ∀ q ∈ ts, q.u = wordS n.toNat → q.p = labT (tourGo xs []) n := fun n hn => by
       have h1 : wordS n.toNat ∈ usOf Uq ys := by rw [hus]; exact List.mem_map.mpr ⟨n, hxp.mem_iff.mpr hn, rfl⟩
       have h2 := ts_lab hV h1
       have h3 := hlab n hn 97 (by decide)
       rw [Uq_nm n (by decide)] at h3
       rw [h3] at h2; exact h2
     have hRXo : ∀ p ∈ (123, lamTab c') :: (c', oc) :: ((dl, listOf (refsN ts) xk') :: (Da, oDa) :: RT), p ∈ (dl, listOf (refsN ts) xk') :: (Da, oDa) :: (123, lamTab c') :: RT := fun p hp => by
       rcases mc hp with rfl | hp
       · exact .tail _ (.tail _ (.head _))
       rcases mc hp with rfl | hp
       · exact .tail _ (.tail _ (.tail _ hcRT))
       rcases mc hp with rfl | hp
       · exact .head _
       rcases mc hp with rfl | hp
       · exact .tail _ (.head _)
       exact .tail _ (.tail _ (.tail _ hp))
     have hRXi : ∀ p ∈ (dl, listOf (refsN ts) xk') :: (Da, oDa) :: (123, lamTab c') :: RT, p ∈ (123, lamTab c') :: (c', oc) :: ((dl, listOf (refsN ts) xk') :: (Da, oDa) :: RT) := fun p hp => by
       rcases mc hp with rfl | hp
       · exact .tail _ (.tail _ (.head _))
       rcases mc hp with rfl | hp
       · exact .tail _ (.tail _ (.tail _ (.head _)))
       rcases mc hp with rfl | hp
       · exact .head _
       exact .tail _ (.tail _ (.tail _ (.tail _ hp)))
     have hO0 : WA.Ord A ((123, lamTab c') :: (c', oc) :: ((dl, listOf (refsN ts) xk') :: (Da, oDa) :: RT)) := ⟨hO.o, fun p hp => hO.off p (hRXo p hp)⟩
     have hL0 := LOk.init (w := _) (A := A) (κ := ⟨κκ, κz, κu, κv, true, κdone⟩) (S := ⟨((#[].push (.str (Str.ofString "<" ++ (Str.empty ++ labT (tourGo xs []) n0 ++ Str.ofString ":" ++ ⟨#[114]⟩)) tw1)).push (.str (Txt.join (Str.ofString "") (((opensT (tourGo xs [])).map fun n => Str.ofString " xmlns:" ++ labT (tourGo xs []) n ++ Str.ofString "=\"" ++ wordS n.toNat ++ Str.ofString "\"") ++ (closesT (tourGo xs [])).map fun n => Str.ofString " " ++ labT (tourGo xs []) n ++ Str.ofString ":a=\"" ++ valS n ++ Str.ofString "\"")) tw2)).push (.str (Str.ofString ">") tw3), 0 + 1 + 1 + 1, #[], 0, #[.ref A.d0, .ref dl], 0 + 1, #[n2].push n3, 1 + 1, pvs 1, 0 + 1, opm'⟩) (hV.at fun q hq => hRXi _ (hV.tup q hq)) (.tail _ (.tail _ (.head _))) hO0 rfl rfl rfl rfl rfl rfl rfl
     obtain ⟨RX, hRX⟩ : ∃ RX, RX = (dl, listOf (refsN ts) xk') :: (Da, oDa) :: RT := ⟨_, rfl⟩
     replace hL0 := hL0
     rw [← hRX] at hL0
     have hCX : ∀ p ∈ RC, p ∈ RX := fun p hp => hRX ▸ .tail _ (.tail _ (hRCT p hp))
     have N6 : News _ _ _ (wLed _ A ⟨κκ, κz, κu, κv, true, κdone⟩ _ ((123, lamTab c') :: (c', oc) :: RX)) := fun p hp => N5 p (wLed_mono (fun p hp => hRXo p (hRX ▸ hp)) hp)
     clear N5 hRXo hRXi hO0
     dsimp only
     (revert F5 hyp hyw hb1 hb1w hms hmsw hoc hfv hV hO hcRT hRCT hus hlab hrows hOX hlabn hRX hL0 hCX N6; revert h5 tk5 dr5 dl ys ts opm' xk' c' oc fv tq' b1 ms tw1 tw2 tw3 n3 RT RX; with_reducible refine Drk7.all (by kpf_c) ((?_ : All7 _) _ _ _ _ _ _ _); refine fun h5 tk5 dr5 dl ys ts opm' => Ap7.mk ?_; with_reducible refine Drk7.all (by kpf_c) ((?_ : All7 _) _ _ _ _ _ _ _); refine fun xk' c' oc fv tq' b1 ms => Ap7.mk ?_; with_reducible refine Drk6.all (by kpf_c) ((?_ : All6 _) _ _ _ _ _ _); refine fun tw1 tw2 tw3 n3 RT RX => Ap6.mk ?_; intros F5 hyp hyw hb1 hb1w hms hmsw hoc hfv hV hO hcRT hRCT hus hlab hrows hOX hlabn hRX hL0 hCX N6)
     (repeat' ((fail_if_success with_reducible first | refine zQ1 ?_ | refine zQ2 ?_ | refine zQ3 ?_ | refine zJ ?_ | refine z27 ?_ | refine z28 ?_ | refine z29 ?_ | refine z30 ?_ | refine z31 ?_ | refine z43 ?_); tb_rel))
     (with_reducible rename Fr _ _ _ _ => F1); (with_reducible rename News _ _ _ _ => N1)
     have hTAX := hCX _ (hBC _ hTAB)
     have hTlt : @LT.lt Nat _ TA A.pc := hpcl _ (.tail _ (.tail _ (hBC _ hTAB)))
     have htX : ∀ q ∈ tq, ∃ t, (q.1, ({ cls := .type "tuple", data := .seq #[.bool q.2.1, .int q.2.2 t] } : Obj)) ∈ RX := fun q hq => by
       obtain ⟨t, ht⟩ := htB q hq
       exact ⟨t, hCX _ (hBC _ ht)⟩
     have hDsX := hCX _ hDsC
     have hTl : (tourGo xs []).length ≤ 20 := by
       rw [tour_len, List.length_nil, hxp.length_eq]; omega
     have htql : tq.length = (tourGo xs []).length := by rw [← htq, lM]
     have hTm : ∀ q ∈ tourGo xs [], q.2 ∈ n0 :: ns' := fun q hq => hxp.mem_iff.mp (tour_mem (fun n hn => hOk n (hxp.mem_iff.mp hn)) (hxp.nodup_iff.mpr hnd) (hxw.imp fun {a b} h => ltT_bf h) hq)
     obtain ⟨w0, hw0, hL0⟩ : ∃ w0 : List Str, w0 = [Str.ofString "<" ++ (Str.empty ++ labT (tourGo xs []) n0 ++ Str.ofString ":" ++ ⟨#[114]⟩), Txt.join (Str.ofString "") (((opensT (tourGo xs [])).map fun n => Str.ofString " xmlns:" ++ labT (tourGo xs []) n ++ Str.ofString "=\"" ++ wordS n.toNat ++ Str.ofString "\"") ++ (closesT (tourGo xs [])).map fun n => Str.ofString " " ++ labT (tourGo xs []) n ++ Str.ofString ":a=\"" ++ valS n ++ Str.ofString "\""), Str.ofString ">"] ∧ LOk _ _ _ _ _ _ _ _ w0 none := ⟨_, rfl, hL0⟩
     refine wp_noE ?_
     (revert hw0 hL0; revert w0; tb_start; refine fun w0 => Ap.mk ?_; intros hw0 hL0)
     first | k_dflt (refine for_invD (σ := WT × WL × Led × List Addr × List Str × Option Int) (fun c => [(Str.ofString "writer", .ref A.x), (Str.ofString "pieces", .ref A.pc), (Str.ofString "spaces", .ref Ds), (Str.ofString "tour", .ref TA), (Str.ofString "numbers", .ref D1)]) (fun c => wLed ww A c.1 c.2.1 ((123, lamTab c') :: (c', oc) :: (RX ++ c.2.2.1))) (fun i c => LOk A c.1 c.2.1 ((123, lamTab c') :: (c', oc) :: (RX ++ c.2.2.1)) ts dl xk' c.2.2.2.1 c.2.2.2.2.1 c.2.2.2.2.2 ∧ (c.2.2.2.2.1, c.2.2.2.2.2) = ((tourGo xs []).take i).foldl (stepW (labT (tourGo xs []))) (w0, none) ∧ balT c.2.2.2.1.length ((tourGo xs []).drop i) ∧ c.2.2.2.1.length ≤ i ∧ c.2.2.2.2.1.length ≤ 3 + 4 * i) F1 ?_ (fun _ => rfl)) | fail
     (repeat' ((fail_if_success with_reducible first | refine zQ1 ?_ | refine zQ2 ?_ | refine zQ3 ?_ | refine zJ ?_ | refine z27 ?_ | refine z28 ?_ | refine z29 ?_ | refine z30 ?_ | refine z31 ?_ | refine z43 ?_); tb_rel))
     (with_reducible rename Fr _ _ _ _ => F1); (with_reducible rename News _ _ _ _ => N1)
     refine source_listO (its := (tq.map fun q => Value.ref q.1).toArray) rfl F1 N1 (wLed_R (.tail _ (.tail _ hTAX))) (by rw [List.size_toArray, lM, htql]; exact Nat.le_trans hTl (by decide)) (fun i v _ _ _ _ _ hit hv q => (by obtain ⟨z, _, rfl⟩ := refQ_of hv; exact wpAny_letOwnedTupleGo_listiter hit q)) fun gI I fp wr Md St Xs hfp => ⟨_, _, _, _, I, fp, wr, Md, St, (⟨κκ, κz, κu, κv, true, κdone⟩, _, [], [], w0, none), Xs, ?_, ?_, ⟨by rw [List.append_nil]; exact hL0, rfl, bal_tour xs [], Nat.le_refl _, by rw [hw0]; exact Nat.le_refl _⟩, ?_, ?_⟩
     · intro p hp
       dsimp only at hp
       rw [List.append_nil] at hp
       exact hp
     · intro p hp
       iterate 5 (rcases mc hp with rfl | hp; (focus kernel_rfl))
       cases hp
     · rintro i v ⟨κ, S, Z, lvls, wrs, pend⟩ u h tk dr own htk hi hP ⟨X, hfold, hbal, hlvl, hwl⟩ off hw hown Fi Ni
       dsimp only at X hfold hbal hlvl hwl off Fi Ni ⊢
       (revert Xs hfp htk hi hP X hfold hbal hlvl hwl off hw hown Fi Ni; revert gI I fp wr Md St i v κ S Z lvls wrs pend u h tk dr own; with_reducible refine Drk7.all (by kpf_c) ((?_ : All7 _) _ _ _ _ _ _ _); refine fun gI I fp wr Md St i => Ap7.mk ?_; with_reducible refine Drk7.all (by kpf_c) ((?_ : All7 _) _ _ _ _ _ _ _); refine fun v κ S Z lvls wrs pend => Ap7.mk ?_; with_reducible refine Drk5.all (by kpf_c) ((?_ : All5 _) _ _ _ _ _); refine fun u h tk dr own => Ap5.mk ?_; intros Xs hfp htk hi hP X hfold hbal hlvl hwl off hw hown Fi Ni)
       obtain ⟨⟨ta, qb, n⟩, hqi, rfl⟩ := refQ_of hP
       (revert hqi hP; revert ta qb n; with_reducible refine Drk3.all (by kpf_c) ((?_ : All3 _) _ _ _); refine fun ta qb n => Ap3.mk ?_; intros hqi hP)
       have hiT : i < (tourGo xs []).length := by rw [List.size_toArray, lM, htql] at hi; exact hi
       have hqT : (tourGo xs [])[i]? = some (qb, n) := by rw [← htq, List.getElem?_map, hqi]; rfl
       obtain ⟨tn, hqt⟩ := htX _ (List.mem_of_getElem? hqi)
       (revert hqt; revert tn; tb_start; refine fun tn => Ap.mk ?_; intros hqt)
       have hnm := hTm _ (List.mem_of_getElem? hqT)
       have hnb := hOk n hnm
       have hwn := wordS_len hnb.1 hnb.2
       obtain ⟨tsp, hsp⟩ := hspc n hnm
       (revert hsp; revert tsp; tb_start; refine fun tsp => Ap.mk ?_; intros hsp)
       obtain ⟨hin, hlb⟩ := hlabn n hnm
       have hdrop : (tourGo xs []).drop i = (qb, n) :: (tourGo xs []).drop (i + 1) := by
         rw [List.drop_eq_getElem_cons hiT]
         congr 1
         obtain ⟨hl, e⟩ := List.getElem?_eq_some_iff.mp hqT
         exact e
       replace hbal := hbal
       rw [hdrop] at hbal
       have htake : ((tourGo xs []).take (i + 1)).foldl (stepW (labT (tourGo xs []))) (w0, none) = stepW (labT (tourGo xs [])) (wrs, pend) (qb, n) := by
         rw [List.take_add_one, hqT, List.foldl_append, ← hfold]; rfl
       have hownlt : ∀ p ∈ own, p.1 = TA ∨ @LT.lt Nat _ A.ps p.1 := fun p hp => by
         rcases hfp _ (hown p hp) with e | e
         · exact .inl e
         exact .inr (e (A.ps, _) (.head _))
       have hOw : WA.Ord A ((123, lamTab c') :: (c', oc) :: (RX ++ (Z ++ own))) := ⟨X.ord.o, fun p hp => by
         rcases mc hp with rfl | hp
         · exact X.ord.off _ (.head _)
         rcases mc hp with rfl | hp
         · exact X.ord.off _ (.tail _ (.head _))
         rcases ma hp with hp | hp
         · exact X.ord.off p (.tail _ (.tail _ (ml _ hp)))
         rcases ma hp with hp | hp
         · exact X.ord.off p (.tail _ (.tail _ (mr _ hp)))
         rcases hownlt p hp with e | e
         · rw [e]; exact .inl hTlt
         exact .inr e⟩
       have hsubR : ∀ p ∈ (123, lamTab c') :: (c', oc) :: (RX ++ Z), p ∈ (123, lamTab c') :: (c', oc) :: (RX ++ (Z ++ own)) := fun p hp => by
         rw [← List.append_assoc]
         rcases mc hp with rfl | hp
         · exact .head _
         rcases mc hp with rfl | hp
         · exact .tail _ (.head _)
         exact .tail _ (.tail _ (ml _ hp))
       have X1 := X.more hsubR hOw
       have Nw : News _ _ h (wLed ww A κ S ((123, lamTab c') :: (c', oc) :: (RX ++ (Z ++ own)))) := fun p hp => Ni p (by
         have e : ∀ Q : Led, wLed ww A κ S Q = wLed ww A κ S [] ++ Q := fun Q => rfl
         rw [e] at hp
         rw [e, List.append_assoc]
         rw [← List.append_assoc RX] at hp
         exact hp)
       have htaW : (ta, ({ cls := .type "tuple", data := .seq #[.bool qb, .int n tn] } : Obj)) ∈ RX ++ (Z ++ own) := ml _ hqt
       have hDsW : (Ds, oDs) ∈ RX ++ (Z ++ own) := ml _ hDsX
       have hRoff := hOw.off
       obtain ⟨kκ, kz, ku, kv, kseen, kdone⟩ := κ
       obtain ⟨spcs, snp, sdat, snd, slv, snl, snss, snn, spv, snv, sopm⟩ := S
       (revert X off Ni X1 Nw; revert kκ kz ku kv kseen kdone spcs snp sdat snd slv snl snss snn spv snv sopm; with_reducible refine Drk6.all (by kpf_c) ((?_ : All6 _) _ _ _ _ _ _); refine fun kκ kz ku kv kseen kdone => Ap6.mk ?_; with_reducible refine Drk6.all (by kpf_c) ((?_ : All6 _) _ _ _ _ _ _); refine fun spcs snp sdat snd slv snl => Ap6.mk ?_; with_reducible refine Drk5.all (by kpf_c) ((?_ : All5 _) _ _ _ _ _); refine fun snss snn spv snv sopm => Ap5.mk ?_; intros X off Ni X1 Nw)
       have Nj : News _ _ h ((ta, ({ cls := .type "tuple", data := .seq #[.bool qb, .int n tn] } : Obj)) :: wLed ww A ⟨kκ, kz, ku, kv, kseen, kdone⟩ ⟨spcs, snp, sdat, snd, slv, snl, snss, snn, spv, snv, sopm⟩ ((123, lamTab c') :: (c', oc) :: (RX ++ (Z ++ own)))) := fun p hp => by
         rcases mc hp with rfl | hp
         · exact Nw _ (wLed_R (.tail _ (.tail _ htaW)))
         exact Nw p hp
       clear Ni Nw
       (try dsimp only at Nj)
       cases qb
       · rcases List.eq_nil_or_concat lvls with rfl | ⟨lv1, a, hlve⟩
         · exact hbal.elim
         rw [List.concat_eq_append] at hlve
         subst hlve
         have hbal' : balT lv1.length ((tourGo xs []).drop (i + 1)) := by rw [lA, List.length_singleton] at hbal; exact hbal
         replace hlvl := hlvl
         rw [lA, List.length_singleton] at hlvl
         (revert X X1 hbal hbal' hlvl; revert lv1 a; with_reducible refine Drk2.all (by kpf_c) ((?_ : All2 _) _ _); refine fun lv1 a => Ap2.mk ?_; intros X X1 hbal hbal' hlvl)
         (repeat' ((fail_if_success with_reducible first | refine zQ1 ?_ | refine zQ2 ?_ | refine zQ3 ?_ | refine zJ ?_ | refine z27 ?_ | refine z28 ?_ | refine z29 ?_ | refine z30 ?_ | refine z31 ?_ | refine z43 ?_); tb_rel))
         (with_reducible rename Fr _ _ _ _ => F1); (with_reducible rename News _ _ _ _ => N1)
         first | k_dflt (refine kda_item (knd := PySem.intKind _ _) (kvs := kvs) (k := n) (v := Value.str (Str.ofString "{" ++ wordS n.toNat ++ Str.ofString "}") tsp) N1 (by (repeat (first | exact hDsW | refine List.mem_cons_of_mem _ ?_))) hdD (PySem.intKind_is _ _ _ _) ?hl ?_) | fail
         case hl => exact hsp
         dsimp only
         (repeat' ((fail_if_success with_reducible first | refine zQ1 ?_ | refine zQ2 ?_ | refine zQ3 ?_ | refine zJ ?_ | refine z27 ?_ | refine z28 ?_ | refine z29 ?_ | refine z30 ?_ | refine z31 ?_ | refine z43 ?_); tb_rel))
         rw [nm_E]
         have N3 := re_one (w := ww) (A := A) (κ := ⟨kκ, kz, ku, kv, kseen, kdone⟩) (S := ⟨spcs, snp, sdat, snd, slv, snl, snss, snn, spv, snv, sopm⟩) (R := (123, lamTab c') :: (c', oc) :: (RX ++ (Z ++ own))) N1
         clear N1
         (k_dflt (refine' Ctr.use (close_ev (d := 40) (u := 90) (A := A) (κ := ⟨kκ, kz, ku, kv, kseen, kdone⟩) (S := ⟨spcs, snp, sdat, snd, slv, snl, snss, snn, spv, snv, sopm⟩) (by decide) (by decide) X1 (by omega) (by omega) hnb hin hlb _) ?hA ?B ?F ?X ?N ?T ?kk ?hd ?hu ?_; (case hA => exact rfl); (case B => k_asm); (case F => k_asm); (case X => k_asm); (case N => k_asm); (case T => k_asm); (case kk => first | exact rfl | assumption); (case hd => allgen_close_more); (case hu => allgen_close_more)))
         rintro _ _ h5 tk5 ⟨rfl, κ5, S5, rfl, X5, hu5, hv5⟩ F5 N5
         dsimp only
         (revert X5 hu5 hv5 F5 N5; revert h5 tk5 κ5 S5; with_reducible refine Drk4.all (by kpf_c) ((?_ : All4 _) _ _ _ _); refine fun h5 tk5 κ5 S5 => Ap4.mk ?_; intros X5 hu5 hv5 F5 N5)
         (repeat' ((fail_if_success with_reducible first | refine zQ1 ?_ | refine zQ2 ?_ | refine zQ3 ?_ | refine zJ ?_ | refine z27 ?_ | refine z28 ?_ | refine z29 ?_ | refine z30 ?_ | refine z31 ?_ | refine z43 ?_); tb_rel))
         dsimp only [FPostD]
         (try (k_unfold; (try dsimp only)))
         refine FEndD.intro (c' := (κ5, S5, Z, lv1, wrs ++ flushW pend ++ [Str.empty ++ Str.ofString "</" ++ tagW (labT (tourGo xs [])) n ++ Str.ofString ">"], none)) F5 N5 (fun p hp => wLed_mono hsubR hp) (fun p hp => wLed_R (.tail _ (.tail _ (mr _ (mr _ hp))))) (off_wLed off ?_) ?_ ⟨X.shrinkC X5 hu5 hv5 (fun p hp => hp) X.ord, ?_, hbal', ?_, ?_⟩
         · exact fun p hp b hb => off p (wLed_R hp) b hb
         · intro p hp
           iterate 5 (rcases mc hp with rfl | hp; (focus kernel_rfl))
           cases hp
         · rw [htake]; rfl
         · dsimp only; omega
         dsimp only
         have : (flushW pend).length ≤ 1 := by cases pend <;> simp [flushW]
         simp only [lA, List.length_cons, List.length_nil]; omega
       (repeat' ((fail_if_success with_reducible first | refine zQ1 ?_ | refine zQ2 ?_ | refine zQ3 ?_ | refine zJ ?_ | refine z27 ?_ | refine z28 ?_ | refine z29 ?_ | refine z30 ?_ | refine z31 ?_ | refine z43 ?_); tb_rel))
       (with_reducible rename Fr _ _ _ _ => F1); (with_reducible rename News _ _ _ _ => N1)
       first | k_dflt (refine kda_item (knd := PySem.intKind _ _) (kvs := kvs) (k := n) (v := Value.str (Str.ofString "{" ++ wordS n.toNat ++ Str.ofString "}") tsp) N1 (by (repeat (first | exact hDsW | refine List.mem_cons_of_mem _ ?_))) hdD (PySem.intKind_is _ _ _ _) ?hl ?_) | fail
       case hl => exact hsp
       dsimp only
       (repeat' ((fail_if_success with_reducible first | refine zQ1 ?_ | refine zQ2 ?_ | refine zQ3 ?_ | refine zJ ?_ | refine z27 ?_ | refine z28 ?_ | refine z29 ?_ | refine z30 ?_ | refine z31 ?_ | refine z43 ?_); tb_rel))
       rename_i d2 h2 o2 F2 N2 lo2 hs2 hx2 hi2 hy2 l2
       rw [nm_E]
       have N3 := re_open (w := ww) (A := A) (κ := ⟨kκ, kz, ku, kv, kseen, kdone⟩) (S := ⟨spcs, snp, sdat, snd, slv, snl, snss, snn, spv, snv, sopm⟩) (R := (123, lamTab c') :: (c', oc) :: (RX ++ (Z ++ own))) N2
       have hd2 : @LT.lt Nat _ A.ps d2 := l2.2.1
       have hO2 : WA.Ord A ((d2, o2) :: (123, lamTab c') :: (c', oc) :: (RX ++ (Z ++ own))) := ⟨hOw.o, fun p hp => by
         rcases mc hp with rfl | hp
         · exact .inr hd2
         exact hRoff p hp⟩
       have X2 := X1.more (fun p hp => .tail _ hp) hO2
       clear N2
       (k_dflt (refine' CtrD0.use (open_ev (d := 40) (u := 90) (by decide) (by decide) rfl hs2 lo2 hoc hfv X2 (by omega) (by omega) hnb hin hlb _) ?hA ?B ?F ?X ?N ?T ?kk ?hd ?hu ?_; (case hA => exact rfl); (case B => k_asm); (case F => k_asm); (case X => k_asm); (case N => k_asm); (case T => k_asm); (case kk => first | exact rfl | assumption); (case hd => allgen_close_more); (case hu => allgen_close_more)))
       rintro _ _ h5 tk5 dr5 ⟨rfl, κ5, S5, dl5, rfl, X5, hlt5, hu5, hv5⟩ F5 N5
       obtain ⟨kκ, kz, ku, kv, kseen, kdone⟩ := κ5
       obtain ⟨spcs, snp, sdat, snd, slv, snl, snss, snn, spv, snv, sopm⟩ := S5
       have N5' := N5
       (try dsimp only at N5'); (try dsimp only)
       clear N5 N3
       (revert hlt5 F5 hu5 hv5 X5 N5'; revert h5 tk5 dr5 dl5 kκ kz ku kv kseen kdone spcs snp sdat snd slv snl snss snn spv snv sopm; with_reducible refine Drk7.all (by kpf_c) ((?_ : All7 _) _ _ _ _ _ _ _); refine fun h5 tk5 dr5 dl5 kκ kz ku => Ap7.mk ?_; with_reducible refine Drk7.all (by kpf_c) ((?_ : All7 _) _ _ _ _ _ _ _); refine fun kv kseen kdone spcs snp sdat snd => Ap7.mk ?_; with_reducible refine Drk7.all (by kpf_c) ((?_ : All7 _) _ _ _ _ _ _ _); refine fun slv snl snss snn spv snv sopm => Ap7.mk ?_; intros hlt5 F5 hu5 hv5 X5 N5')
       (repeat' ((fail_if_success with_reducible first | refine zQ1 ?_ | refine zQ2 ?_ | refine zQ3 ?_ | refine zJ ?_ | refine z27 ?_ | refine z28 ?_ | refine z29 ?_ | refine z30 ?_ | refine z31 ?_ | refine z43 ?_); tb_rel))
       (k_dflt (refine' Ctr.use (signs_ctr n _) ?hA ?B ?F ?X ?N ?T ?kk ?hd ?hu ?_; (case hA => exact rfl); (case B => k_asm); (case F => k_asm); (case X => k_asm); (case N => k_asm); (case T => k_asm); (case kk => first | exact rfl | assumption); (case hd => allgen_close_more); (case hu => allgen_close_more)))
       rintro _ _ h6 tk6 ⟨rfl, t6, rfl⟩ F6 N6
       dsimp only
       (revert F6 N6; revert h6 tk6 t6; with_reducible refine Drk3.all (by kpf_c) ((?_ : All3 _) _ _ _); refine fun h6 tk6 t6 => Ap3.mk ?_; intros F6 N6)
       (repeat' ((fail_if_success with_reducible first | refine zQ1 ?_ | refine zQ2 ?_ | refine zQ3 ?_ | refine zJ ?_ | refine z27 ?_ | refine z28 ?_ | refine z29 ?_ | refine z30 ?_ | refine z31 ?_ | refine z43 ?_); tb_rel))
       have N7 := re_id (w := ww) (A := A) (κ := ⟨kκ, kz, ku, kv, kseen, kdone⟩) (S := ⟨spcs, snp, sdat, snd, slv, snl, snss, snn, spv, snv, sopm⟩) (R := (dl5, listOf #[] 0) :: (d2, o2) :: (123, lamTab c') :: (c', oc) :: (RX ++ (Z ++ own))) N6
       have hdat0 : sdat.size ≤ 100 := by have h := X5.dat; rw [show sdat = #[] from h]; decide
       (k_dflt (refine' Ctr.use (data_ctr (d := 20) (u := 60) (A := A) (κ := ⟨kκ, kz, ku, kv, kseen, kdone⟩) (S := ⟨spcs, snp, sdat, snd, slv, snl, snss, snn, spv, snv, sopm⟩) (by decide) (by decide) X5.ord (signs n) _ hdat0) ?hA ?B ?F ?X ?N ?T ?kk ?hd ?hu ?_; (case hA => exact rfl); (case B => k_asm); (case F => k_asm); (case X => k_asm); (case N => k_asm); (case T => k_asm); (case kk => first | exact rfl | assumption); (case hd => allgen_close_more); (case hu => allgen_close_more)))
       rintro _ _ h8 tk8 ⟨rfl, rfl⟩ F8 N8
       dsimp only
       (revert F8 N8; revert h8 tk8; with_reducible refine Drk2.all (by kpf_c) ((?_ : All2 _) _ _); refine fun h8 tk8 => Ap2.mk ?_; intros F8 N8)
       (repeat' ((fail_if_success with_reducible first | refine zQ1 ?_ | refine zQ2 ?_ | refine zQ3 ?_ | refine zJ ?_ | refine z27 ?_ | refine z28 ?_ | refine z29 ?_ | refine z30 ?_ | refine z31 ?_ | refine z43 ?_); tb_rel))
       dsimp only [FPostD]
       have hnewR' : ∀ p ∈ (123, lamTab c') :: (c', oc) :: (RX ++ ((dl5, listOf #[] 0) :: (d2, o2) :: Z)), p ∈ (dl5, listOf #[] 0) :: (d2, o2) :: (123, lamTab c') :: (c', oc) :: (RX ++ (Z ++ own)) := fun p hp => by
         simp only [List.mem_cons, List.mem_append] at hp ⊢
         rcases hp with h | h | h | h | h | h
         · exact .inr (.inr (.inl h))
         · exact .inr (.inr (.inr (.inl h)))
         · exact .inr (.inr (.inr (.inr (.inl h))))
         · exact .inl h
         · exact .inr (.inl h)
         exact .inr (.inr (.inr (.inr (.inr (.inl h)))))
       have hO9 : WA.Ord A ((123, lamTab c') :: (c', oc) :: (RX ++ ((dl5, listOf #[] 0) :: (d2, o2) :: Z))) := ⟨X5.ord.o, fun p hp => X5.ord.off p (hnewR' p hp)⟩
       have X9 := X.shrinkO (R' := (123, lamTab c') :: (c', oc) :: (RX ++ ((dl5, listOf #[] 0) :: (d2, o2) :: Z))) (X5.data n t6) hu5 hv5 (fun p hp => by
         rcases mc hp with rfl | hp
         · exact .head _
         rcases mc hp with rfl | hp
         · exact .tail _ (.head _)
         rcases ma hp with hp | hp
         · exact .tail _ (.tail _ (ml _ hp))
         exact .tail _ (.tail _ (mr _ (.tail _ (.tail _ hp))))) (.tail _ (.tail _ (mr _ (.head _)))) hO9
       have hd2own : ∀ p ∈ own, @LT.lt Nat _ p.1 d2 := fun p hp => by
         have hA : AllLt d2 (RX ++ (Z ++ own)) := l2.2.2.2.2.2.2.2.2.2.2.2.2.2.2
         exact allLt_mem hA p (mr _ (mr _ hp))
       (try (k_unfold; (try dsimp only)))
       refine FEndD.intro (c' := (_, _, (dl5, listOf #[] 0) :: (d2, o2) :: Z, lvls ++ [dl5], wrs ++ flushW pend ++ [Str.ofString "<" ++ tagW (labT (tourGo xs [])) n, Str.ofString ">"], some n)) F8 N8 (fun p hp => wLed_mono hnewR' hp) (fun p hp => wLed_R (.tail _ (.tail _ (.tail _ (.tail _ (mr _ (mr _ hp))))))) (off_wLed off ?_) ?_ ⟨X9, ?_, ?_, ?_, ?_⟩
       · intro p hp b hb
         obtain ⟨ob, hob⟩ := hw b hb
         rcases mc hp with rfl | hp
         · exact off _ (wLed_R (.head _)) b hb
         rcases mc hp with rfl | hp
         · exact off _ (wLed_R (.tail _ (.head _))) b hb
         rcases ma hp with hp | hp
         · exact off _ (wLed_R (.tail _ (.tail _ (ml _ hp)))) b hb
         rcases mc hp with rfl | hp
         · exact Nat.ne_of_gt (hlt5 (b, ob) (.tail _ (.tail _ (.tail _ (mr _ (mr _ hob))))))
         rcases mc hp with rfl | hp
         · exact Nat.ne_of_gt (hd2own _ hob)
         exact off _ (wLed_R (.tail _ (.tail _ (mr _ hp)))) b hb
       · intro p hp
         iterate 5 (rcases mc hp with rfl | hp; (focus kernel_rfl))
         cases hp
       · rw [htake]; rfl
       · dsimp only
         rw [lA, List.length_singleton]; exact hbal
       · dsimp only
         rw [lA, List.length_singleton]; omega
       dsimp only
       have : (flushW pend).length ≤ 1 := by cases pend <;> simp [flushW]
       simp only [lA, List.length_cons, List.length_nil]; omega
     rintro ⟨κ, S, Z, lvls, wrs, pend⟩ u h tk dr htk ⟨X, hfold, hbal, hlvl, hwl⟩ Fi Ni
     dsimp only at X hfold hbal hlvl hwl Fi Ni ⊢
     (revert Xs hfp htk X hfold hbal hlvl hwl Fi Ni; revert gI I fp wr Md St κ S Z lvls wrs pend u h tk dr; with_reducible refine Drk8.all (by kpf_c) ((?_ : All8 _) _ _ _ _ _ _ _ _); refine fun gI I fp wr Md St κ S => Ap8.mk ?_; with_reducible refine Drk8.all (by kpf_c) ((?_ : All8 _) _ _ _ _ _ _ _ _); refine fun Z lvls wrs pend u h tk dr => Ap8.mk ?_; intros Xs hfp htk X hfold hbal hlvl hwl Fi Ni)
     have hsz : (tq.map fun q => Value.ref q.1).toArray.size = (tourGo xs []).length := by rw [List.size_toArray, lM, htql]
     replace hfold := hfold
     rw [hsz, List.take_length] at hfold
     replace hlvl := hlvl
     replace hwl := hwl
     rw [hsz] at hlvl hwl
     obtain ⟨hin, hlb⟩ := hlabn n0 (List.mem_cons_self ..)
     have hlv0 : 0 < S.lv.size := by
       rw [X.V.lv, List.size_toArray, lM, lA]
       simp only [List.length_cons]; omega
     obtain ⟨lv', lr, hlve, _⟩ := arr_last hlv0
     have hwr : Txt.join (Str.ofString "") (wrs ++ flushW pend ++ [Str.empty ++ Str.ofString "</" ++ (Str.empty ++ labT (tourGo xs []) n0 ++ Str.ofString ":" ++ ⟨#[114]⟩) ++ Str.ofString ">"]) = Txt.join (Str.ofString "") (pgL (tourGo xs []) n0) := by
       have h1 := written (T := tourGo xs []) (n0 := n0) (rows := _) rfl
       rw [← hw0, ← hfold] at h1
       exact h1
     have hDsW : (Ds, oDs) ∈ RX ++ Z := ml _ hDsX
     have hD1W : (D1, listOf (Value.int n0 tn0 :: vs').toArray c1) ∈ RX ++ Z := ml _ (hCX _ (hBC _ hD1B))
     obtain ⟨kκ, kz, ku, kv, kseen, kdone⟩ := κ
     obtain ⟨spcs, snp, sdat, snd, slv, snl, snss, snn, spv, snv, sopm⟩ := S
     (revert lv' lr kκ kz ku kv kseen kdone spcs snp sdat snd slv snl snss snn spv snv sopm; with_reducible refine Drk7.all (by kpf_c) ((?_ : All7 _) _ _ _ _ _ _ _); refine fun lv' lr kκ kz ku kv kseen => Ap7.mk ?_; with_reducible refine Drk7.all (by kpf_c) ((?_ : All7 _) _ _ _ _ _ _ _); refine fun kdone spcs snp sdat snd slv snl => Ap7.mk ?_; with_reducible refine Drk5.all (by kpf_c) ((?_ : All5 _) _ _ _ _ _); refine fun snss snn spv snv sopm => Ap5.mk ?_; intros hlv0 hlve _ X Ni)
     (try dsimp only at hlve)
     (repeat' ((fail_if_success with_reducible first | refine zQ1 ?_ | refine zQ2 ?_ | refine zQ3 ?_ | refine zJ ?_ | refine z27 ?_ | refine z28 ?_ | refine z29 ?_ | refine z30 ?_ | refine z31 ?_ | refine z43 ?_); tb_rel))
     (with_reducible rename Fr _ _ _ _ => F1); (with_reducible rename News _ _ _ _ => N1)
     refine item_list (isList_news N1 (by (repeat (first | exact hD1W | refine List.mem_cons_of_mem _ ?_)))) (by decide) (by decide) (x := .int n0 tn0) rfl ?_
     (repeat' ((fail_if_success with_reducible first | refine zQ1 ?_ | refine zQ2 ?_ | refine zQ3 ?_ | refine zJ ?_ | refine z27 ?_ | refine z28 ?_ | refine z29 ?_ | refine z30 ?_ | refine z31 ?_ | refine z43 ?_); tb_rel))
     first | k_dflt (refine kda_item (knd := PySem.intKind _ _) (kvs := kvs) (k := n0) (v := Value.str (Str.ofString "{" ++ wordS n0.toNat ++ Str.ofString "}") t0) N1 (by (repeat (first | exact hDsW | refine List.mem_cons_of_mem _ ?_))) hdD (PySem.intKind_is _ _ _ _) ?hl ?_) | fail
     case hl => exact hs0
     dsimp only
     (repeat' ((fail_if_success with_reducible first | refine zQ1 ?_ | refine zQ2 ?_ | refine zQ3 ?_ | refine zJ ?_ | refine z27 ?_ | refine z28 ?_ | refine z29 ?_ | refine z30 ?_ | refine z31 ?_ | refine z43 ?_); tb_rel))
     rw [nm_R]
     have N3 := re_id (w := ww) (A := A) (κ := ⟨kκ, kz, ku, kv, kseen, kdone⟩) (S := ⟨spcs, snp, sdat, snd, slv, snl, snss, snn, spv, snv, sopm⟩) (R := (123, lamTab c') :: (c', oc) :: (RX ++ Z)) N1
     clear N1
     (k_dflt (refine' Ctr.use (end_any (d := 40) (u := 90) (A := A) (κ := ⟨kκ, kz, ku, kv, kseen, kdone⟩) (S := ⟨spcs, snp, sdat, snd, slv, snl, snss, snn, spv, snv, sopm⟩) (by decide) (by decide) X (by omega) (by omega) hn0 (by decide) hin hlb _ hlve) ?hA ?B ?F ?X ?N ?T ?kk ?hd ?hu ?_; (case hA => exact rfl); (case B => k_asm); (case F => k_asm); (case X => k_asm); (case N => k_asm); (case T => k_asm); (case kk => first | exact rfl | assumption); (case hd => allgen_close_more); (case hu => allgen_close_more)))
     rintro _ _ h5 tk5 ⟨rfl, κ5, S5, rfl, _, _, _, _, hpcs5, _⟩ F5 N5
     obtain ⟨kκ, kz, ku, kv, kseen, kdone⟩ := κ5
     obtain ⟨spcs, snp, sdat, snd, slv, snl, snss, snn, spv, snv, sopm⟩ := S5
     (try dsimp only at hpcs5); (try dsimp only)
     (revert h5 tk5 kκ kz ku kv kseen kdone spcs snp sdat snd slv snl snss snn spv snv sopm; with_reducible refine Drk2.all (by kpf_c) ((?_ : All2 _) _ _); refine fun h5 tk5 => Ap2.mk ?_; intros F5; with_reducible refine Drk6.all (by kpf_c) ((?_ : All6 _) _ _ _ _ _ _); refine fun kκ kz ku kv kseen kdone => Ap6.mk ?_; intros _ _ _; with_reducible refine Drk6.all (by kpf_c) ((?_ : All6 _) _ _ _ _ _ _); refine fun spcs snp sdat snd slv snl => Ap6.mk ?_; with_reducible refine Drk5.all (by kpf_c) ((?_ : All5 _) _ _ _ _ _); refine fun snss snn spv snv sopm => Ap5.mk ?_; intros _ hpcs5 _ N5)
     (repeat' ((fail_if_success with_reducible first | refine zQ1 ?_ | refine zQ2 ?_ | refine zQ3 ?_ | refine zJ ?_ | refine z27 ?_ | refine z28 ?_ | refine z29 ?_ | refine z30 ?_ | refine z31 ?_ | refine z43 ?_); tb_rel))
     (with_reducible rename Fr _ _ _ _ => F1); (with_reducible rename News _ _ _ _ => N1)
     have hsumP : ((pgL (tourGo xs []) n0).map (·.length)).sum ≤ 200 * (pgL (tourGo xs []) n0).length := sum200 (pgL_small (by rw [tour_opens, hxp.length_eq]; omega) (fun q hq => hOk _ (hTm q hq)))
     have hlenP : (pgL (tourGo xs []) n0).length ≤ 100 := by
       unfold pgL
       rw [lA, List.length_singleton]
       have := pg3_len (tourGo xs []) n0 (tourGo xs []).length
       omega
     have hwt : (((wrs ++ flushW pend ++ [Str.empty ++ Str.ofString "</" ++ (Str.empty ++ labT (tourGo xs []) n0 ++ Str.ofString ":" ++ ⟨#[114]⟩) ++ Str.ofString ">"]).map (·.length)).sum + (wrs ++ flushW pend ++ [Str.empty ++ Str.ofString "</" ++ (Str.empty ++ labT (tourGo xs []) n0 ++ Str.ofString ":" ++ ⟨#[114]⟩) ++ Str.ofString ">"]).length) ≤ 1048576 := by
       rw [← join0_len, hwr, join0_len]
       have : (flushW pend).length ≤ 1 := by cases pend <;> simp [flushW]
       simp only [lA, List.length_cons, List.length_nil]; omega
     refine join_listW (isList_news N1 (by k_mem)) hpcs5 (by decide) hwt ?_
     intro tj kj
     rw [hwr]
     (repeat' ((fail_if_success with_reducible first | refine zQ1 ?_ | refine zQ2 ?_ | refine zQ3 ?_ | refine zJ ?_ | refine z27 ?_ | refine z28 ?_ | refine z29 ?_ | refine z30 ?_ | refine z31 ?_ | refine z43 ?_); tb_rel))
     have N4 := re_id (w := ww) (A := A) (κ := ⟨kκ, kz, ku, kv, kseen, kdone⟩) (S := ⟨spcs, snp, sdat, snd, slv, snl, snss, snn, spv, snv, sopm⟩) (R := (123, lamTab c') :: (c', oc) :: (RX ++ Z)) N1
     clear N1
     have hop : opensT (tq.map (·.2)) = xs := by rw [htq]; exact tour_opens xs []
     have hqm : ∀ q ∈ tq, q.2.2 ∈ n0 :: ns' := fun q hq => hTm q.2 (by rw [← htq]; exact List.mem_map_of_mem hq)
     (k_dflt (refine' Ctr.use (page_ctr (d := 20) (u := 60) (news := wLed ww A ⟨kκ, kz, ku, kv, kseen, kdone⟩ ⟨spcs, snp, sdat, snd, slv, snl, snss, snn, spv, snv, sopm⟩ ((123, lamTab c') :: (c', oc) :: (RX ++ Z))) (D := D1) (Tt := TA) (tq := tq) (by decide) (by decide) hvs (wLed_R (.tail _ (.tail _ hD1W))) (wLed_R (.tail _ (.tail _ (ml _ hTAX)))) (fun q hq => (htX q hq).imp fun t h => wLed_R (.tail _ (.tail _ (ml _ h)))) (by omega) (by rw [hop, hxp.length_eq]; omega) (by rw [hop]; exact hxp.mem_iff.mpr (List.mem_cons_self ..)) (by rw [hop]; exact hxp.nodup_iff.mpr hnd) (fun q hq => by rw [hop]; exact hxp.mem_iff.mpr (hqm q hq)) (fun q hq => hOk _ (hqm q hq))) ?hA ?B ?F ?X ?N ?T ?kk ?hd ?hu ?_; (case hA => exact rfl); (case B => k_asm); (case F => k_asm); (case X => k_asm); (case N => k_asm); (case T => k_asm); (case kk => first | exact rfl | assumption); (case hd => allgen_close_more); (case hu => allgen_close_more)))
     rintro _ _ h6 tk6 ⟨rfl, t6, rfl⟩ F6 N6
     dsimp only
     rw [htq]
     (revert F6 N6; revert h6 tk6 t6; with_reducible refine Drk3.all (by kpf_c) ((?_ : All3 _) _ _ _); refine fun h6 tk6 t6 => Ap3.mk ?_; intros F6 N6)
     as_aux_lemma =>
       walk1
       k_unfold
       (try dsimp only)
       exact law_fin _ F6 N6 (by assumption) (wLed_R (.head _))))
end Mine
theorem PySem.Challenge.cw_pg0305_01_holds : PySem.Challenge.rw_pg0305_01.Holds :=
 Mine.law_dev
